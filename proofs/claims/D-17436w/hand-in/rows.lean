section
-- ===== PART A: goes FIRST, ahead of the names: the tables' words, and 'selects' of the private methods out of them =====
/-- a private method of a class that the tables say can be made, by its rows of tables_1 -/
def lw_okq (q : MethodName × Nat) : Prop := (q.1.cls ≠ "java/lang/invoke/MethodHandle" ∧ q.1.cls ≠ "java/lang/invoke/VarHandle") ∧ Cond.instantiable q.1.cls q.2 ∈ tables_1 ∧ Cond.privateMethod q.1 ∈ tables_1 ∧ Cond.instanceMethod q.1 ∈ tables_1
set_option maxRecDepth 100000
theorem lw_t1 {w : Cond} (h : w ∈ tables_1_1) : w ∈ tables_1 := List.mem_append_left _ h
theorem lw_t2 {w : Cond} (h : w ∈ tables_1_2) : w ∈ tables_1 := List.mem_append_right _ h
theorem lw_p0 : lw_okq (⟨"SkipjackDesk", "run", "(ZI)V"⟩, 3) := ⟨⟨by decide +kernel, by decide +kernel⟩, lw_t1 (List.mem_of_getElem? (i := 15) rfl), lw_t1 (List.mem_of_getElem? (i := 49) rfl), lw_t1 (List.mem_of_getElem? (i := 50) rfl)⟩
theorem lw_p1 : lw_okq (⟨"java/lang/Throwable", "fillInStackTrace", "(I)Ljava/lang/Throwable;"⟩, 6) := ⟨⟨by decide +kernel, by decide +kernel⟩, lw_t1 (List.mem_of_getElem? (i := 147) rfl), lw_t1 (List.mem_of_getElem? (i := 145) rfl), lw_t1 (List.mem_of_getElem? (i := 146) rfl)⟩
theorem lw_p2 : lw_okq (⟨"SkipjackEngine", "g", "(II)I"⟩, 5) := ⟨⟨by decide +kernel, by decide +kernel⟩, lw_t1 (List.mem_of_getElem? (i := 56) rfl), lw_t2 (List.mem_of_getElem? (i := 7) rfl), lw_t2 (List.mem_of_getElem? (i := 8) rfl)⟩
theorem lw_p3 : lw_okq (⟨"SkipjackEngine", "h", "(II)I"⟩, 5) := ⟨⟨by decide +kernel, by decide +kernel⟩, lw_t1 (List.mem_of_getElem? (i := 56) rfl), lw_t2 (List.mem_of_getElem? (i := 17) rfl), lw_t2 (List.mem_of_getElem? (i := 18) rfl)⟩
theorem lw_p4 : lw_okq (⟨"SkipjackDeskModel", "words", "()[I"⟩, 3) := ⟨⟨by decide +kernel, by decide +kernel⟩, lw_t2 (List.mem_of_getElem? (i := 33) rfl), lw_t2 (List.mem_of_getElem? (i := 64) rfl), lw_t2 (List.mem_of_getElem? (i := 65) rfl)⟩
theorem lw_p5 : lw_okq (⟨"SkipjackDeskModel", "g", "(II)I"⟩, 3) := ⟨⟨by decide +kernel, by decide +kernel⟩, lw_t2 (List.mem_of_getElem? (i := 33) rfl), lw_t2 (List.mem_of_getElem? (i := 68) rfl), lw_t2 (List.mem_of_getElem? (i := 69) rfl)⟩
theorem lw_p6 : lw_okq (⟨"SkipjackDeskModel", "lays", "([I)V"⟩, 3) := ⟨⟨by decide +kernel, by decide +kernel⟩, lw_t2 (List.mem_of_getElem? (i := 33) rfl), lw_t2 (List.mem_of_getElem? (i := 77) rfl), lw_t2 (List.mem_of_getElem? (i := 78) rfl)⟩
theorem lw_p7 : lw_okq (⟨"SkipjackDeskModel", "unG", "(II)I"⟩, 3) := ⟨⟨by decide +kernel, by decide +kernel⟩, lw_t2 (List.mem_of_getElem? (i := 33) rfl), lw_t2 (List.mem_of_getElem? (i := 85) rfl), lw_t2 (List.mem_of_getElem? (i := 86) rfl)⟩
def lw_privs_1 : List (MethodName × Nat) := [(⟨"SkipjackDesk", "run", "(ZI)V"⟩, 3), (⟨"java/lang/Throwable", "fillInStackTrace", "(I)Ljava/lang/Throwable;"⟩, 6), (⟨"SkipjackEngine", "g", "(II)I"⟩, 5), (⟨"SkipjackEngine", "h", "(II)I"⟩, 5), (⟨"SkipjackDeskModel", "words", "()[I"⟩, 3), (⟨"SkipjackDeskModel", "g", "(II)I"⟩, 3), (⟨"SkipjackDeskModel", "lays", "([I)V"⟩, 3), (⟨"SkipjackDeskModel", "unG", "(II)I"⟩, 3)]
theorem lw_r1 : ∀ q ∈ lw_privs_1, lw_okq q := List.forall_mem_cons.mpr ⟨lw_p0, List.forall_mem_cons.mpr ⟨lw_p1, List.forall_mem_cons.mpr ⟨lw_p2, List.forall_mem_cons.mpr ⟨lw_p3, List.forall_mem_cons.mpr ⟨lw_p4, List.forall_mem_cons.mpr ⟨lw_p5, List.forall_mem_cons.mpr ⟨lw_p6, List.forall_mem_cons.mpr ⟨lw_p7, fun _ h => absurd h List.not_mem_nil⟩⟩⟩⟩⟩⟩⟩⟩
def lw_privs : List (MethodName × Nat) := lw_privs_1
def lw_tbl : List Cond := k2_sels lw_privs ++ tables_1
theorem lw_privs_ok : ∀ q ∈ lw_privs, lw_okq q := lw_r1
-- ===== ONE list of words for every method: the tables' words that hold all through a run =====
def lw_all : List Cond := lw_tbl.filter goodWord
/-- a word of the tables by its place: claim/WORDS.tsv -/
theorem lw_w {w : Cond} (i : Nat) (h : lw_tbl[i]? = some w) (g : goodWord w = true) : w ∈ lw_all := List.mem_filter.mpr ⟨List.mem_of_getElem? h, g⟩
theorem lw_all_tbl {w : Cond} (h : w ∈ lw_all) : w ∈ lw_tbl := (List.mem_filter.mp h).1
theorem lw_self : GoodIn lw_all lw_all := fun w h => ⟨h, good_of_word (List.mem_filter.mp h).2⟩
/-- a class's field words, by their places -/
theorem lw_in (ws : List Cond) (ps : List Nat) (hp : ws = ps.filterMap (fun i => lw_tbl[i]?)) (hg : ws.all goodWord = true) : ∀ w ∈ ws, w ∈ lw_all := by
  intro w h
  have h1 := List.all_eq_true.mp hg w h
  rw [hp] at h
  obtain ⟨i, -, hi⟩ := List.mem_filterMap.mp h
  exact lw_w i hi h1
/-- the words of a contract for the method y with code b, L locals, answer r -/
abbrev ws_ (y : MethodName) (b : ByteArray) (L : Nat) (r : Option FieldType) : List Cond := Cond.code y b L r :: lw_all
theorem lw_meth {y : MethodName} {b : ByteArray} {L : Nat} {r : Option FieldType} (h : Cond.code y b L r ∈ lw_all) : GoodIn lw_all (ws_ y b L r) := by
  intro w hw
  rcases List.mem_cons.mp hw with e | e
  · rw [e]
    exact lw_self _ h
  · exact lw_self _ e
theorem lw_app {a c : List Cond} (ha : ∀ w ∈ a, w ∈ lw_all) (hc : GoodIn lw_all c) : GoodIn lw_all (a ++ c) := by
  intro w hw
  rcases List.mem_append.mp hw with e | e
  · exact lw_self w (ha w e)
  · exact hc w e
/-- what a call through an object asks: cwV n hts (lw_V ..) -/
theorem lw_V {own : String} {idx : Nat} {C : String} {y : MethodName} {b : ByteArray} {L : Nat} {r : Option FieldType} (h1 : Cond.methodLink own idx y ∈ lw_all) (h2 : Cond.instanceMethod y ∈ lw_all) (h3 : Cond.selects C y y ∈ lw_all) (h4 : Cond.initialized C ∈ lw_all) (h5 : Cond.code y b L r ∈ lw_all) : GoodIn lw_all (wsV own idx C y (ws_ y b L r)) := by
  refine lw_app ?_ (lw_meth h5)
  intro w hw
  simp only [List.mem_cons, List.not_mem_nil, or_false] at hw
  rcases hw with e | e | e | e
  · rw [e]; exact h1
  · rw [e]; exact h2
  · rw [e]; exact h3
  · rw [e]; exact h4
/-- what a static call asks: va_cwS n hts (lw_S ..) -/
theorem lw_S {own : String} {idx : Nat} {y : MethodName} {b : ByteArray} {L : Nat} {r : Option FieldType} (h1 : Cond.methodLink own idx y ∈ lw_all) (h2 : Cond.static y ∈ lw_all) (h3 : Cond.initialized y.cls ∈ lw_all) (h4 : Cond.code y b L r ∈ lw_all) : GoodIn lw_all (va_wsS own idx y (ws_ y b L r)) := by
  refine lw_app ?_ (lw_meth h4)
  intro w hw
  simp only [List.mem_cons, List.not_mem_nil, or_false] at hw
  rcases hw with e | e | e
  · rw [e]; exact h1
  · rw [e]; exact h2
  · rw [e]; exact h3
/-- the words of a contract for a method WITH HANDLERS (hh: its table) -/
abbrev wsW_ (y : MethodName) (b : ByteArray) (L : Nat) (r : Option FieldType) (hh : List (Nat × Nat × Nat × Nat)) : List Cond := Cond.codeWith y b L r hh :: lw_all
theorem lw_methW {y : MethodName} {b : ByteArray} {L : Nat} {r : Option FieldType} {hh : List (Nat × Nat × Nat × Nat)} (h : Cond.codeWith y b L r hh ∈ lw_all) : GoodIn lw_all (wsW_ y b L r hh) := by
  intro w hw
  rcases List.mem_cons.mp hw with e | e
  · rw [e]
    exact lw_self _ h
  · exact lw_self _ e
/-- any list of words by their places (lw_in), good -/
theorem lw_good {ws : List Cond} (h : ∀ w ∈ ws, w ∈ lw_all) : GoodIn lw_all ws := fun w hw => lw_self w (h w hw)
/-- what a call of a method with handlers asks: vx_cwVW n hts (lw_VW ..), vx_cwSW n hts (lw_SW ..) -/
theorem lw_VW {own : String} {idx : Nat} {C : String} {y : MethodName} {b : ByteArray} {L : Nat} {r : Option FieldType} {hh : List (Nat × Nat × Nat × Nat)} (h1 : Cond.methodLink own idx y ∈ lw_all) (h2 : Cond.instanceMethod y ∈ lw_all) (h3 : Cond.selects C y y ∈ lw_all) (h4 : Cond.initialized C ∈ lw_all) (h5 : Cond.codeWith y b L r hh ∈ lw_all) : GoodIn lw_all (wsV own idx C y (wsW_ y b L r hh)) := by
  refine lw_app ?_ (lw_methW h5)
  intro w hw
  simp only [List.mem_cons, List.not_mem_nil, or_false] at hw
  rcases hw with e | e | e | e
  · rw [e]; exact h1
  · rw [e]; exact h2
  · rw [e]; exact h3
  · rw [e]; exact h4
theorem lw_SW {own : String} {idx : Nat} {y : MethodName} {b : ByteArray} {L : Nat} {r : Option FieldType} {hh : List (Nat × Nat × Nat × Nat)} (h1 : Cond.methodLink own idx y ∈ lw_all) (h2 : Cond.static y ∈ lw_all) (h3 : Cond.initialized y.cls ∈ lw_all) (h4 : Cond.codeWith y b L r hh ∈ lw_all) : GoodIn lw_all (va_wsS own idx y (wsW_ y b L r hh)) := by
  refine lw_app ?_ (lw_methW h4)
  intro w hw
  simp only [List.mem_cons, List.not_mem_nil, or_false] at hw
  rcases hw with e | e | e
  · rw [e]; exact h1
  · rw [e]; exact h2
  · rw [e]; exact h3
/-- a word by its place in its run of the tables -/
theorem lw_at {r : List Cond} (hr : ∀ w ∈ r, w ∈ lw_tbl) {w : Cond} (i : Nat) (h : r[i]? = some w) : w ∈ lw_tbl := hr w (List.mem_of_getElem? h)
theorem lw_g {w : Cond} (h : w ∈ lw_tbl) (g : goodWord w = true) : w ∈ lw_all := List.mem_filter.mpr ⟨h, g⟩
theorem lw_ms : ∀ w ∈ k2_sels lw_privs, w ∈ lw_tbl := fun w h => show w ∈ k2_sels lw_privs ++ tables_1 from List.mem_append_left _ h
theorem lw_m1 : ∀ w ∈ tables_1_1, w ∈ lw_tbl := fun w h => show w ∈ k2_sels lw_privs ++ tables_1 from List.mem_append_right (k2_sels lw_privs) (show w ∈ tables_1 from List.mem_append_left _ h)
theorem lw_m2 : ∀ w ∈ tables_1_2, w ∈ lw_tbl := fun w h => show w ∈ k2_sels lw_privs ++ tables_1 from List.mem_append_right (k2_sels lw_privs) (show w ∈ tables_1 from List.mem_append_right _ h)
theorem qs0 : (Cond.selects "SkipjackDesk" ⟨"SkipjackDesk", "run", "(ZI)V"⟩ ⟨"SkipjackDesk", "run", "(ZI)V"⟩) ∈ lw_all := lw_g (lw_at lw_ms 0 rfl) rfl
theorem qs1 : (Cond.selects "java/lang/Throwable" ⟨"java/lang/Throwable", "fillInStackTrace", "(I)Ljava/lang/Throwable;"⟩ ⟨"java/lang/Throwable", "fillInStackTrace", "(I)Ljava/lang/Throwable;"⟩) ∈ lw_all := lw_g (lw_at lw_ms 1 rfl) rfl
theorem qs2 : (Cond.selects "SkipjackEngine" ⟨"SkipjackEngine", "g", "(II)I"⟩ ⟨"SkipjackEngine", "g", "(II)I"⟩) ∈ lw_all := lw_g (lw_at lw_ms 2 rfl) rfl
theorem qs3 : (Cond.selects "SkipjackEngine" ⟨"SkipjackEngine", "h", "(II)I"⟩ ⟨"SkipjackEngine", "h", "(II)I"⟩) ∈ lw_all := lw_g (lw_at lw_ms 3 rfl) rfl
theorem qs4 : (Cond.selects "SkipjackDeskModel" ⟨"SkipjackDeskModel", "words", "()[I"⟩ ⟨"SkipjackDeskModel", "words", "()[I"⟩) ∈ lw_all := lw_g (lw_at lw_ms 4 rfl) rfl
theorem qs5 : (Cond.selects "SkipjackDeskModel" ⟨"SkipjackDeskModel", "g", "(II)I"⟩ ⟨"SkipjackDeskModel", "g", "(II)I"⟩) ∈ lw_all := lw_g (lw_at lw_ms 5 rfl) rfl
theorem qs6 : (Cond.selects "SkipjackDeskModel" ⟨"SkipjackDeskModel", "lays", "([I)V"⟩ ⟨"SkipjackDeskModel", "lays", "([I)V"⟩) ∈ lw_all := lw_g (lw_at lw_ms 6 rfl) rfl
theorem qs7 : (Cond.selects "SkipjackDeskModel" ⟨"SkipjackDeskModel", "unG", "(II)I"⟩ ⟨"SkipjackDeskModel", "unG", "(II)I"⟩) ∈ lw_all := lw_g (lw_at lw_ms 7 rfl) rfl
end
section
/-! DECODE ROWS BY BYTES: one lemma an opcode; a method's code is cut into short pieces once, and a row reads its own piece alone. -/
set_option maxRecDepth 100000
/-- the code has just these bytes from pc on -/
def DkAt (code : ByteArray) (pc : Nat) (bs : List UInt8) : Prop := ∀ (j : Nat) (b : UInt8), bs[j]? = some b → code.data.toList[pc + j]? = some b
/-- the piece W has the bytes bs from its place j on -/
def dkIn (W : List UInt8) (j : Nat) (bs : List UInt8) : Bool := decide ((W.drop j).take bs.length = bs)
theorem dk_seg {l W T : List UInt8} {o o2 : Nat} (h : l.drop o = W ++ T) (n : Nat) (hn : W.length = n) (ho : o + n = o2) : l.drop o2 = T := by
  subst ho
  rw [← List.drop_drop, h, List.drop_left' hn]
theorem dk_at {code : ByteArray} {W T bs : List UInt8} {o pc : Nat} (h : code.data.toList.drop o = W ++ T) (j : Nat) (hp : o + j = pc) (hw : dkIn W j bs = true) : DkAt code pc bs := by
  subst hp
  intro i b e
  have h1 := of_decide_eq_true hw
  have h2 : i < bs.length := (List.getElem?_eq_some_iff.mp e).1
  have h3 : W[j + i]? = some b := by
    rw [← h1, List.getElem?_take, if_pos h2, List.getElem?_drop] at e
    exact e
  have h4 : j + i < W.length := (List.getElem?_eq_some_iff.mp h3).1
  have h5 : (code.data.toList.drop o)[j + i]? = some b := by
    rw [h, List.getElem?_append_left h4]
    exact h3
  rw [List.getElem?_drop, ← Nat.add_assoc] at h5
  exact h5
theorem dk_u1 {A : ByteArray} {p : Nat} {b : UInt8} (h : A.data.toList[p]? = some b) : (Reader.u1 : Reader DecodeError Nat) A p = .ok (b.toNat, p + 1) := by
  obtain ⟨h1, h2⟩ := List.getElem?_eq_some_iff.mp h
  have h3 : p < A.size := by simpa using h1
  have h4 : A[p]'h3 = b := h2
  have e : (Reader.u1 : Reader DecodeError Nat) A p = (if h : p < A.size then .ok (A[p].toNat, p + 1) else .error (HasTruncated.truncated p)) := by
    show (do if h : p < A.size then do set (p + 1); Pure.pure A[p].toNat else MonadExcept.throw (HasTruncated.truncated p) : Reader DecodeError Nat) A p = _
    by_cases hi : p < A.size
    · rw [dif_pos hi, dif_pos hi]; rfl
    · rw [dif_neg hi, dif_neg hi]; rfl
  rw [e, dif_pos h3, h4]
theorem dk_bind {α β : Type} {r : Reader DecodeError α} {f : α → Reader DecodeError β} {A : ByteArray} {p s : Nat} {a : α} (h : r A p = .ok (a, s)) : (r >>= f) A p = f a A s := by
  show (do let (a, s) ← r A p; f a A s : Except DecodeError (β × Nat)) = _
  rw [h]
  rfl
theorem dk_map {α β : Type} {r : Reader DecodeError α} {g : α → β} {A : ByteArray} {p s : Nat} {a : α} (h : r A p = .ok (a, s)) : (g <$> r) A p = .ok (g a, s) := by
  show (do let (a, s) ← r A p; .ok (g a, s) : Except DecodeError (β × Nat)) = _
  rw [h]
  rfl
theorem dk_u2 {A : ByteArray} {p : Nat} {a b : UInt8} (h : A.data.toList[p]? = some a) (h2 : A.data.toList[p + 1]? = some b) : (Reader.u2 : Reader DecodeError Nat) A p = .ok (a.toNat * 256 + b.toNat, p + 2) := by
  show (Reader.u1 >>= fun hi => Reader.u1 >>= fun lo => Pure.pure (hi * 256 + lo) : Reader DecodeError Nat) A p = _
  rw [dk_bind (dk_u1 h), dk_bind (dk_u1 h2)]
  rfl
theorem dk_of {code : ByteArray} {pc n : Nat} {i : Instr} (h : Decoder.instr pc code pc = .ok (i, pc + n)) : decode code pc = .ok (i, n) := by
  have e : decode code pc = (match Decoder.instr pc code pc with | .error x => .error x | .ok (j, s) => .ok (j, s - pc)) := by
    show (do let (j, s) ← Decoder.instr pc code pc; Pure.pure (j, s - pc) : Except DecodeError (Instr × Nat)) = _
    cases Decoder.instr pc code pc <;> rfl
  rw [e, h]
  show Except.ok (i, pc + n - pc) = _
  rw [Nat.add_sub_cancel_left]
theorem dk_3 {code : ByteArray} {pc : Nat} (h : DkAt code pc [3]) : decode code pc = .ok (.iconst 0, 1) := dk_of ((dk_bind (dk_u1 (h 0 _ rfl))).trans rfl)
theorem dk_4 {code : ByteArray} {pc : Nat} (h : DkAt code pc [4]) : decode code pc = .ok (.iconst 1, 1) := dk_of ((dk_bind (dk_u1 (h 0 _ rfl))).trans rfl)
theorem dk_5 {code : ByteArray} {pc : Nat} (h : DkAt code pc [5]) : decode code pc = .ok (.iconst 2, 1) := dk_of ((dk_bind (dk_u1 (h 0 _ rfl))).trans rfl)
theorem dk_6 {code : ByteArray} {pc : Nat} (h : DkAt code pc [6]) : decode code pc = .ok (.iconst 3, 1) := dk_of ((dk_bind (dk_u1 (h 0 _ rfl))).trans rfl)
theorem dk_7 {code : ByteArray} {pc : Nat} (h : DkAt code pc [7]) : decode code pc = .ok (.iconst 4, 1) := dk_of ((dk_bind (dk_u1 (h 0 _ rfl))).trans rfl)
theorem dk_8 {code : ByteArray} {pc : Nat} (h : DkAt code pc [8]) : decode code pc = .ok (.iconst 5, 1) := dk_of ((dk_bind (dk_u1 (h 0 _ rfl))).trans rfl)
theorem dk_16 {code : ByteArray} {pc : Nat} (a : UInt8) (h : DkAt code pc [16, a]) : decode code pc = .ok (.bipush (Reader.signed 8 a.toNat), 2) := dk_of ((dk_bind (dk_u1 (h 0 _ rfl))).trans ((dk_bind (dk_map (dk_u1 (h 1 _ rfl)))).trans rfl))
theorem dk_17 {code : ByteArray} {pc : Nat} (a b : UInt8) (h : DkAt code pc [17, a, b]) : decode code pc = .ok (.sipush (Reader.signed 16 (a.toNat * 256 + b.toNat)), 3) := dk_of ((dk_bind (dk_u1 (h 0 _ rfl))).trans ((dk_bind (dk_map (dk_u2 (h 1 _ rfl) (h 2 _ rfl)))).trans rfl))
theorem dk_18 {code : ByteArray} {pc : Nat} (a : UInt8) (h : DkAt code pc [18, a]) : decode code pc = .ok (.ldc a.toNat, 2) := dk_of ((dk_bind (dk_u1 (h 0 _ rfl))).trans ((dk_bind (dk_u1 (h 1 _ rfl))).trans rfl))
theorem dk_21 {code : ByteArray} {pc : Nat} (a : UInt8) (h : DkAt code pc [21, a]) : decode code pc = .ok (.iload a.toNat, 2) := dk_of ((dk_bind (dk_u1 (h 0 _ rfl))).trans ((dk_bind (dk_u1 (h 1 _ rfl))).trans rfl))
theorem dk_25 {code : ByteArray} {pc : Nat} (a : UInt8) (h : DkAt code pc [25, a]) : decode code pc = .ok (.aload a.toNat, 2) := dk_of ((dk_bind (dk_u1 (h 0 _ rfl))).trans ((dk_bind (dk_u1 (h 1 _ rfl))).trans rfl))
theorem dk_26 {code : ByteArray} {pc : Nat} (h : DkAt code pc [26]) : decode code pc = .ok (.iload_n 0, 1) := dk_of ((dk_bind (dk_u1 (h 0 _ rfl))).trans rfl)
theorem dk_27 {code : ByteArray} {pc : Nat} (h : DkAt code pc [27]) : decode code pc = .ok (.iload_n 1, 1) := dk_of ((dk_bind (dk_u1 (h 0 _ rfl))).trans rfl)
theorem dk_28 {code : ByteArray} {pc : Nat} (h : DkAt code pc [28]) : decode code pc = .ok (.iload_n 2, 1) := dk_of ((dk_bind (dk_u1 (h 0 _ rfl))).trans rfl)
theorem dk_29 {code : ByteArray} {pc : Nat} (h : DkAt code pc [29]) : decode code pc = .ok (.iload_n 3, 1) := dk_of ((dk_bind (dk_u1 (h 0 _ rfl))).trans rfl)
theorem dk_42 {code : ByteArray} {pc : Nat} (h : DkAt code pc [42]) : decode code pc = .ok (.aload_n 0, 1) := dk_of ((dk_bind (dk_u1 (h 0 _ rfl))).trans rfl)
theorem dk_43 {code : ByteArray} {pc : Nat} (h : DkAt code pc [43]) : decode code pc = .ok (.aload_n 1, 1) := dk_of ((dk_bind (dk_u1 (h 0 _ rfl))).trans rfl)
theorem dk_44 {code : ByteArray} {pc : Nat} (h : DkAt code pc [44]) : decode code pc = .ok (.aload_n 2, 1) := dk_of ((dk_bind (dk_u1 (h 0 _ rfl))).trans rfl)
theorem dk_45 {code : ByteArray} {pc : Nat} (h : DkAt code pc [45]) : decode code pc = .ok (.aload_n 3, 1) := dk_of ((dk_bind (dk_u1 (h 0 _ rfl))).trans rfl)
theorem dk_46 {code : ByteArray} {pc : Nat} (h : DkAt code pc [46]) : decode code pc = .ok (.iaload, 1) := dk_of ((dk_bind (dk_u1 (h 0 _ rfl))).trans rfl)
theorem dk_51 {code : ByteArray} {pc : Nat} (h : DkAt code pc [51]) : decode code pc = .ok (.baload, 1) := dk_of ((dk_bind (dk_u1 (h 0 _ rfl))).trans rfl)
theorem dk_53 {code : ByteArray} {pc : Nat} (h : DkAt code pc [53]) : decode code pc = .ok (.saload, 1) := dk_of ((dk_bind (dk_u1 (h 0 _ rfl))).trans rfl)
theorem dk_54 {code : ByteArray} {pc : Nat} (a : UInt8) (h : DkAt code pc [54, a]) : decode code pc = .ok (.istore a.toNat, 2) := dk_of ((dk_bind (dk_u1 (h 0 _ rfl))).trans ((dk_bind (dk_u1 (h 1 _ rfl))).trans rfl))
theorem dk_58 {code : ByteArray} {pc : Nat} (a : UInt8) (h : DkAt code pc [58, a]) : decode code pc = .ok (.astore a.toNat, 2) := dk_of ((dk_bind (dk_u1 (h 0 _ rfl))).trans ((dk_bind (dk_u1 (h 1 _ rfl))).trans rfl))
theorem dk_60 {code : ByteArray} {pc : Nat} (h : DkAt code pc [60]) : decode code pc = .ok (.istore_n 1, 1) := dk_of ((dk_bind (dk_u1 (h 0 _ rfl))).trans rfl)
theorem dk_61 {code : ByteArray} {pc : Nat} (h : DkAt code pc [61]) : decode code pc = .ok (.istore_n 2, 1) := dk_of ((dk_bind (dk_u1 (h 0 _ rfl))).trans rfl)
theorem dk_62 {code : ByteArray} {pc : Nat} (h : DkAt code pc [62]) : decode code pc = .ok (.istore_n 3, 1) := dk_of ((dk_bind (dk_u1 (h 0 _ rfl))).trans rfl)
theorem dk_76 {code : ByteArray} {pc : Nat} (h : DkAt code pc [76]) : decode code pc = .ok (.astore_n 1, 1) := dk_of ((dk_bind (dk_u1 (h 0 _ rfl))).trans rfl)
theorem dk_77 {code : ByteArray} {pc : Nat} (h : DkAt code pc [77]) : decode code pc = .ok (.astore_n 2, 1) := dk_of ((dk_bind (dk_u1 (h 0 _ rfl))).trans rfl)
theorem dk_78 {code : ByteArray} {pc : Nat} (h : DkAt code pc [78]) : decode code pc = .ok (.astore_n 3, 1) := dk_of ((dk_bind (dk_u1 (h 0 _ rfl))).trans rfl)
theorem dk_79 {code : ByteArray} {pc : Nat} (h : DkAt code pc [79]) : decode code pc = .ok (.iastore, 1) := dk_of ((dk_bind (dk_u1 (h 0 _ rfl))).trans rfl)
theorem dk_84 {code : ByteArray} {pc : Nat} (h : DkAt code pc [84]) : decode code pc = .ok (.bastore, 1) := dk_of ((dk_bind (dk_u1 (h 0 _ rfl))).trans rfl)
theorem dk_87 {code : ByteArray} {pc : Nat} (h : DkAt code pc [87]) : decode code pc = .ok (.pop, 1) := dk_of ((dk_bind (dk_u1 (h 0 _ rfl))).trans rfl)
theorem dk_89 {code : ByteArray} {pc : Nat} (h : DkAt code pc [89]) : decode code pc = .ok (.dup, 1) := dk_of ((dk_bind (dk_u1 (h 0 _ rfl))).trans rfl)
theorem dk_96 {code : ByteArray} {pc : Nat} (h : DkAt code pc [96]) : decode code pc = .ok (.iadd, 1) := dk_of ((dk_bind (dk_u1 (h 0 _ rfl))).trans rfl)
theorem dk_100 {code : ByteArray} {pc : Nat} (h : DkAt code pc [100]) : decode code pc = .ok (.isub, 1) := dk_of ((dk_bind (dk_u1 (h 0 _ rfl))).trans rfl)
theorem dk_104 {code : ByteArray} {pc : Nat} (h : DkAt code pc [104]) : decode code pc = .ok (.imul, 1) := dk_of ((dk_bind (dk_u1 (h 0 _ rfl))).trans rfl)
theorem dk_108 {code : ByteArray} {pc : Nat} (h : DkAt code pc [108]) : decode code pc = .ok (.idiv, 1) := dk_of ((dk_bind (dk_u1 (h 0 _ rfl))).trans rfl)
theorem dk_112 {code : ByteArray} {pc : Nat} (h : DkAt code pc [112]) : decode code pc = .ok (.irem, 1) := dk_of ((dk_bind (dk_u1 (h 0 _ rfl))).trans rfl)
theorem dk_120 {code : ByteArray} {pc : Nat} (h : DkAt code pc [120]) : decode code pc = .ok (.ishl, 1) := dk_of ((dk_bind (dk_u1 (h 0 _ rfl))).trans rfl)
theorem dk_122 {code : ByteArray} {pc : Nat} (h : DkAt code pc [122]) : decode code pc = .ok (.ishr, 1) := dk_of ((dk_bind (dk_u1 (h 0 _ rfl))).trans rfl)
theorem dk_126 {code : ByteArray} {pc : Nat} (h : DkAt code pc [126]) : decode code pc = .ok (.iand, 1) := dk_of ((dk_bind (dk_u1 (h 0 _ rfl))).trans rfl)
theorem dk_128 {code : ByteArray} {pc : Nat} (h : DkAt code pc [128]) : decode code pc = .ok (.ior, 1) := dk_of ((dk_bind (dk_u1 (h 0 _ rfl))).trans rfl)
theorem dk_130 {code : ByteArray} {pc : Nat} (h : DkAt code pc [130]) : decode code pc = .ok (.ixor, 1) := dk_of ((dk_bind (dk_u1 (h 0 _ rfl))).trans rfl)
theorem dk_132 {code : ByteArray} {pc : Nat} (a b : UInt8) (h : DkAt code pc [132, a, b]) : decode code pc = .ok (.iinc a.toNat (Reader.signed 8 b.toNat), 3) := dk_of ((dk_bind (dk_u1 (h 0 _ rfl))).trans ((dk_bind (dk_u1 (h 1 _ rfl))).trans ((dk_bind (dk_map (dk_u1 (h 2 _ rfl)))).trans rfl)))
theorem dk_145 {code : ByteArray} {pc : Nat} (h : DkAt code pc [145]) : decode code pc = .ok (.i2b, 1) := dk_of ((dk_bind (dk_u1 (h 0 _ rfl))).trans rfl)
theorem dk_153 {code : ByteArray} {pc : Nat} (a b : UInt8) (h : DkAt code pc [153, a, b]) : decode code pc = .ok (.ifCond .eq (Reader.signed 16 (a.toNat * 256 + b.toNat)), 3) := dk_of ((dk_bind (dk_u1 (h 0 _ rfl))).trans ((dk_bind (dk_map (dk_u2 (h 1 _ rfl) (h 2 _ rfl)))).trans rfl))
theorem dk_154 {code : ByteArray} {pc : Nat} (a b : UInt8) (h : DkAt code pc [154, a, b]) : decode code pc = .ok (.ifCond .ne (Reader.signed 16 (a.toNat * 256 + b.toNat)), 3) := dk_of ((dk_bind (dk_u1 (h 0 _ rfl))).trans ((dk_bind (dk_map (dk_u2 (h 1 _ rfl) (h 2 _ rfl)))).trans rfl))
theorem dk_155 {code : ByteArray} {pc : Nat} (a b : UInt8) (h : DkAt code pc [155, a, b]) : decode code pc = .ok (.ifCond .lt (Reader.signed 16 (a.toNat * 256 + b.toNat)), 3) := dk_of ((dk_bind (dk_u1 (h 0 _ rfl))).trans ((dk_bind (dk_map (dk_u2 (h 1 _ rfl) (h 2 _ rfl)))).trans rfl))
theorem dk_159 {code : ByteArray} {pc : Nat} (a b : UInt8) (h : DkAt code pc [159, a, b]) : decode code pc = .ok (.if_icmp .eq (Reader.signed 16 (a.toNat * 256 + b.toNat)), 3) := dk_of ((dk_bind (dk_u1 (h 0 _ rfl))).trans ((dk_bind (dk_map (dk_u2 (h 1 _ rfl) (h 2 _ rfl)))).trans rfl))
theorem dk_162 {code : ByteArray} {pc : Nat} (a b : UInt8) (h : DkAt code pc [162, a, b]) : decode code pc = .ok (.if_icmp .ge (Reader.signed 16 (a.toNat * 256 + b.toNat)), 3) := dk_of ((dk_bind (dk_u1 (h 0 _ rfl))).trans ((dk_bind (dk_map (dk_u2 (h 1 _ rfl) (h 2 _ rfl)))).trans rfl))
theorem dk_163 {code : ByteArray} {pc : Nat} (a b : UInt8) (h : DkAt code pc [163, a, b]) : decode code pc = .ok (.if_icmp .gt (Reader.signed 16 (a.toNat * 256 + b.toNat)), 3) := dk_of ((dk_bind (dk_u1 (h 0 _ rfl))).trans ((dk_bind (dk_map (dk_u2 (h 1 _ rfl) (h 2 _ rfl)))).trans rfl))
theorem dk_164 {code : ByteArray} {pc : Nat} (a b : UInt8) (h : DkAt code pc [164, a, b]) : decode code pc = .ok (.if_icmp .le (Reader.signed 16 (a.toNat * 256 + b.toNat)), 3) := dk_of ((dk_bind (dk_u1 (h 0 _ rfl))).trans ((dk_bind (dk_map (dk_u2 (h 1 _ rfl) (h 2 _ rfl)))).trans rfl))
theorem dk_167 {code : ByteArray} {pc : Nat} (a b : UInt8) (h : DkAt code pc [167, a, b]) : decode code pc = .ok (.goto (Reader.signed 16 (a.toNat * 256 + b.toNat)), 3) := dk_of ((dk_bind (dk_u1 (h 0 _ rfl))).trans ((dk_bind (dk_map (dk_u2 (h 1 _ rfl) (h 2 _ rfl)))).trans rfl))
theorem dk_172 {code : ByteArray} {pc : Nat} (h : DkAt code pc [172]) : decode code pc = .ok (.ireturn, 1) := dk_of ((dk_bind (dk_u1 (h 0 _ rfl))).trans rfl)
theorem dk_176 {code : ByteArray} {pc : Nat} (h : DkAt code pc [176]) : decode code pc = .ok (.areturn, 1) := dk_of ((dk_bind (dk_u1 (h 0 _ rfl))).trans rfl)
theorem dk_177 {code : ByteArray} {pc : Nat} (h : DkAt code pc [177]) : decode code pc = .ok (.return_, 1) := dk_of ((dk_bind (dk_u1 (h 0 _ rfl))).trans rfl)
theorem dk_178 {code : ByteArray} {pc : Nat} (a b : UInt8) (h : DkAt code pc [178, a, b]) : decode code pc = .ok (.getstatic (a.toNat * 256 + b.toNat), 3) := dk_of ((dk_bind (dk_u1 (h 0 _ rfl))).trans ((dk_bind (dk_u2 (h 1 _ rfl) (h 2 _ rfl))).trans rfl))
theorem dk_180 {code : ByteArray} {pc : Nat} (a b : UInt8) (h : DkAt code pc [180, a, b]) : decode code pc = .ok (.getfield (a.toNat * 256 + b.toNat), 3) := dk_of ((dk_bind (dk_u1 (h 0 _ rfl))).trans ((dk_bind (dk_u2 (h 1 _ rfl) (h 2 _ rfl))).trans rfl))
theorem dk_181 {code : ByteArray} {pc : Nat} (a b : UInt8) (h : DkAt code pc [181, a, b]) : decode code pc = .ok (.putfield (a.toNat * 256 + b.toNat), 3) := dk_of ((dk_bind (dk_u1 (h 0 _ rfl))).trans ((dk_bind (dk_u2 (h 1 _ rfl) (h 2 _ rfl))).trans rfl))
theorem dk_182 {code : ByteArray} {pc : Nat} (a b : UInt8) (h : DkAt code pc [182, a, b]) : decode code pc = .ok (.invokevirtual (a.toNat * 256 + b.toNat), 3) := dk_of ((dk_bind (dk_u1 (h 0 _ rfl))).trans ((dk_bind (dk_u2 (h 1 _ rfl) (h 2 _ rfl))).trans rfl))
theorem dk_183 {code : ByteArray} {pc : Nat} (a b : UInt8) (h : DkAt code pc [183, a, b]) : decode code pc = .ok (.invokespecial (a.toNat * 256 + b.toNat), 3) := dk_of ((dk_bind (dk_u1 (h 0 _ rfl))).trans ((dk_bind (dk_u2 (h 1 _ rfl) (h 2 _ rfl))).trans rfl))
theorem dk_184 {code : ByteArray} {pc : Nat} (a b : UInt8) (h : DkAt code pc [184, a, b]) : decode code pc = .ok (.invokestatic (a.toNat * 256 + b.toNat), 3) := dk_of ((dk_bind (dk_u1 (h 0 _ rfl))).trans ((dk_bind (dk_u2 (h 1 _ rfl) (h 2 _ rfl))).trans rfl))
theorem dk_187 {code : ByteArray} {pc : Nat} (a b : UInt8) (h : DkAt code pc [187, a, b]) : decode code pc = .ok (.new (a.toNat * 256 + b.toNat), 3) := dk_of ((dk_bind (dk_u1 (h 0 _ rfl))).trans ((dk_bind (dk_u2 (h 1 _ rfl) (h 2 _ rfl))).trans rfl))
theorem dk_188_8 {code : ByteArray} {pc : Nat} (h : DkAt code pc [188, 8]) : decode code pc = .ok (.newarray .byte, 2) := dk_of ((dk_bind (dk_u1 (h 0 _ rfl))).trans ((dk_bind (dk_u1 (h 1 _ rfl))).trans rfl))
theorem dk_188_10 {code : ByteArray} {pc : Nat} (h : DkAt code pc [188, 10]) : decode code pc = .ok (.newarray .int, 2) := dk_of ((dk_bind (dk_u1 (h 0 _ rfl))).trans ((dk_bind (dk_u1 (h 1 _ rfl))).trans rfl))
theorem dk_190 {code : ByteArray} {pc : Nat} (h : DkAt code pc [190]) : decode code pc = .ok (.arraylength, 1) := dk_of ((dk_bind (dk_u1 (h 0 _ rfl))).trans rfl)
theorem dk_191 {code : ByteArray} {pc : Nat} (h : DkAt code pc [191]) : decode code pc = .ok (.athrow, 1) := dk_of ((dk_bind (dk_u1 (h 0 _ rfl))).trans rfl)
theorem dk_192 {code : ByteArray} {pc : Nat} (a b : UInt8) (h : DkAt code pc [192, a, b]) : decode code pc = .ok (.checkcast (a.toNat * 256 + b.toNat), 3) := dk_of ((dk_bind (dk_u1 (h 0 _ rfl))).trans ((dk_bind (dk_u2 (h 1 _ rfl) (h 2 _ rfl))).trans rfl))
theorem dk_193 {code : ByteArray} {pc : Nat} (a b : UInt8) (h : DkAt code pc [193, a, b]) : decode code pc = .ok (.instanceof (a.toNat * 256 + b.toNat), 3) := dk_of ((dk_bind (dk_u1 (h 0 _ rfl))).trans ((dk_bind (dk_u2 (h 1 _ rfl) (h 2 _ rfl))).trans rfl))
theorem dk_199 {code : ByteArray} {pc : Nat} (a b : UInt8) (h : DkAt code pc [199, a, b]) : decode code pc = .ok (.ifnonnull (Reader.signed 16 (a.toNat * 256 + b.toNat)), 3) := dk_of ((dk_bind (dk_u1 (h 0 _ rfl))).trans ((dk_bind (dk_map (dk_u2 (h 1 _ rfl) (h 2 _ rfl)))).trans rfl))
/-! SkipjackDesk -/
set_option maxRecDepth 100000
def RX0 : String := "SkipjackDesk"
def TX0 : u_T := fun k => match k with
  | 0 => ("SkipjackDesk", "key", "[B", true)
  | 1 => ("SkipjackDesk", "block", "[B", true)
  | _ => ("SkipjackDesk", "out", "[B", true)
def tyX0 : Nat → FieldType := fun k => match k with
  | 0 => .array .byte
  | 1 => .array .byte
  | _ => .array .byte
abbrev wsX00 : List Cond := u_ws RX0 TX0 3
theorem nmX0 : ∀ a, a < 3 → ∀ b, b < 3 → a ≠ b → (TX0 a).2.1 ≠ (TX0 b).2.1 := by decide +kernel
theorem tyX0_ok : ∀ k, k < 3 → parseFieldDescriptor (TX0 k).2.2.1 = some (tyX0 k) := by decide +kernel
abbrev cX0_init : ByteArray := prog_7_method_1_code
def yX0_init : MethodName := ⟨RX0, "<init>", "()V"⟩
def dkwX0_init_1 : List UInt8 := [188, 8, 181, 0, 16, 177]
abbrev dktX0_init_1 : List UInt8 := dkwX0_init_1 ++ []
def dkwX0_init_0 : List UInt8 := [42, 183, 0, 1, 42, 16, 32, 188, 8, 181, 0, 7, 42, 16, 8, 188, 8, 181, 0, 13, 42, 16, 8]
abbrev dktX0_init_0 : List UInt8 := dkwX0_init_0 ++ dktX0_init_1
theorem dksX0_init_0 : cX0_init.data.toList.drop 0 = dktX0_init_0 := by decide +kernel
theorem dksX0_init_1 : cX0_init.data.toList.drop 23 = dktX0_init_1 := dk_seg dksX0_init_0 23 rfl rfl
theorem dX0_init_0 : decode cX0_init 0 = .ok (.aload_n 0, 1) := dk_42 (dk_at dksX0_init_0 0 rfl rfl)
theorem dX0_init_1 : decode cX0_init 1 = .ok (.invokespecial 1, 3) := dk_183 0 1 (dk_at dksX0_init_0 1 rfl rfl)
theorem dX0_init_4 : decode cX0_init 4 = .ok (.aload_n 0, 1) := dk_42 (dk_at dksX0_init_0 4 rfl rfl)
theorem dX0_init_5 : decode cX0_init 5 = .ok (.bipush 32, 2) := dk_16 32 (dk_at dksX0_init_0 5 rfl rfl)
theorem dX0_init_7 : decode cX0_init 7 = .ok (.newarray .byte, 2) := dk_188_8 (dk_at dksX0_init_0 7 rfl rfl)
theorem dX0_init_9 : decode cX0_init 9 = .ok (.putfield 7, 3) := dk_181 0 7 (dk_at dksX0_init_0 9 rfl rfl)
theorem dX0_init_12 : decode cX0_init 12 = .ok (.aload_n 0, 1) := dk_42 (dk_at dksX0_init_0 12 rfl rfl)
theorem dX0_init_13 : decode cX0_init 13 = .ok (.bipush 8, 2) := dk_16 8 (dk_at dksX0_init_0 13 rfl rfl)
theorem dX0_init_15 : decode cX0_init 15 = .ok (.newarray .byte, 2) := dk_188_8 (dk_at dksX0_init_0 15 rfl rfl)
theorem dX0_init_17 : decode cX0_init 17 = .ok (.putfield 13, 3) := dk_181 0 13 (dk_at dksX0_init_0 17 rfl rfl)
theorem dX0_init_20 : decode cX0_init 20 = .ok (.aload_n 0, 1) := dk_42 (dk_at dksX0_init_0 20 rfl rfl)
theorem dX0_init_21 : decode cX0_init 21 = .ok (.bipush 8, 2) := dk_16 8 (dk_at dksX0_init_0 21 rfl rfl)
theorem dX0_init_23 : decode cX0_init 23 = .ok (.newarray .byte, 2) := dk_188_8 (dk_at dksX0_init_1 0 rfl rfl)
theorem dX0_init_25 : decode cX0_init 25 = .ok (.putfield 16, 3) := dk_181 0 16 (dk_at dksX0_init_1 2 rfl rfl)
theorem dX0_init_28 : decode cX0_init 28 = .ok (.return_, 1) := dk_177 (dk_at dksX0_init_1 5 rfl rfl)
abbrev cX0_key : ByteArray := prog_7_method_3_code
def yX0_key : MethodName := ⟨RX0, "key", "(IIIII)V"⟩
def dkwX0_key_2 : List UInt8 := [21, 6, 16, 12, 96, 21, 5, 184, 0, 19, 177]
abbrev dktX0_key_2 : List UInt8 := dkwX0_key_2 ++ []
def dkwX0_key_1 : List UInt8 := [96, 29, 184, 0, 19, 42, 180, 0, 7, 21, 6, 16, 8, 96, 21, 4, 184, 0, 19, 42, 180, 0, 7]
abbrev dktX0_key_1 : List UInt8 := dkwX0_key_1 ++ dktX0_key_2
def dkwX0_key_0 : List UInt8 := [27, 4, 126, 7, 120, 54, 6, 42, 180, 0, 7, 21, 6, 28, 184, 0, 19, 42, 180, 0, 7, 21, 6, 7]
abbrev dktX0_key_0 : List UInt8 := dkwX0_key_0 ++ dktX0_key_1
theorem dksX0_key_0 : cX0_key.data.toList.drop 0 = dktX0_key_0 := by decide +kernel
theorem dksX0_key_1 : cX0_key.data.toList.drop 24 = dktX0_key_1 := dk_seg dksX0_key_0 24 rfl rfl
theorem dksX0_key_2 : cX0_key.data.toList.drop 47 = dktX0_key_2 := dk_seg dksX0_key_1 23 rfl rfl
theorem dX0_key_0 : decode cX0_key 0 = .ok (.iload_n 1, 1) := dk_27 (dk_at dksX0_key_0 0 rfl rfl)
theorem dX0_key_1 : decode cX0_key 1 = .ok (.iconst 1, 1) := dk_4 (dk_at dksX0_key_0 1 rfl rfl)
theorem dX0_key_2 : decode cX0_key 2 = .ok (.iand, 1) := dk_126 (dk_at dksX0_key_0 2 rfl rfl)
theorem dX0_key_3 : decode cX0_key 3 = .ok (.iconst 4, 1) := dk_7 (dk_at dksX0_key_0 3 rfl rfl)
theorem dX0_key_4 : decode cX0_key 4 = .ok (.ishl, 1) := dk_120 (dk_at dksX0_key_0 4 rfl rfl)
theorem dX0_key_5 : decode cX0_key 5 = .ok (.istore 6, 2) := dk_54 6 (dk_at dksX0_key_0 5 rfl rfl)
theorem dX0_key_7 : decode cX0_key 7 = .ok (.aload_n 0, 1) := dk_42 (dk_at dksX0_key_0 7 rfl rfl)
theorem dX0_key_8 : decode cX0_key 8 = .ok (.getfield 7, 3) := dk_180 0 7 (dk_at dksX0_key_0 8 rfl rfl)
theorem dX0_key_11 : decode cX0_key 11 = .ok (.iload 6, 2) := dk_21 6 (dk_at dksX0_key_0 11 rfl rfl)
theorem dX0_key_13 : decode cX0_key 13 = .ok (.iload_n 2, 1) := dk_28 (dk_at dksX0_key_0 13 rfl rfl)
theorem dX0_key_14 : decode cX0_key 14 = .ok (.invokestatic 19, 3) := dk_184 0 19 (dk_at dksX0_key_0 14 rfl rfl)
theorem dX0_key_17 : decode cX0_key 17 = .ok (.aload_n 0, 1) := dk_42 (dk_at dksX0_key_0 17 rfl rfl)
theorem dX0_key_18 : decode cX0_key 18 = .ok (.getfield 7, 3) := dk_180 0 7 (dk_at dksX0_key_0 18 rfl rfl)
theorem dX0_key_21 : decode cX0_key 21 = .ok (.iload 6, 2) := dk_21 6 (dk_at dksX0_key_0 21 rfl rfl)
theorem dX0_key_23 : decode cX0_key 23 = .ok (.iconst 4, 1) := dk_7 (dk_at dksX0_key_0 23 rfl rfl)
theorem dX0_key_24 : decode cX0_key 24 = .ok (.iadd, 1) := dk_96 (dk_at dksX0_key_1 0 rfl rfl)
theorem dX0_key_25 : decode cX0_key 25 = .ok (.iload_n 3, 1) := dk_29 (dk_at dksX0_key_1 1 rfl rfl)
theorem dX0_key_26 : decode cX0_key 26 = .ok (.invokestatic 19, 3) := dk_184 0 19 (dk_at dksX0_key_1 2 rfl rfl)
theorem dX0_key_29 : decode cX0_key 29 = .ok (.aload_n 0, 1) := dk_42 (dk_at dksX0_key_1 5 rfl rfl)
theorem dX0_key_30 : decode cX0_key 30 = .ok (.getfield 7, 3) := dk_180 0 7 (dk_at dksX0_key_1 6 rfl rfl)
theorem dX0_key_33 : decode cX0_key 33 = .ok (.iload 6, 2) := dk_21 6 (dk_at dksX0_key_1 9 rfl rfl)
theorem dX0_key_35 : decode cX0_key 35 = .ok (.bipush 8, 2) := dk_16 8 (dk_at dksX0_key_1 11 rfl rfl)
theorem dX0_key_37 : decode cX0_key 37 = .ok (.iadd, 1) := dk_96 (dk_at dksX0_key_1 13 rfl rfl)
theorem dX0_key_38 : decode cX0_key 38 = .ok (.iload 4, 2) := dk_21 4 (dk_at dksX0_key_1 14 rfl rfl)
theorem dX0_key_40 : decode cX0_key 40 = .ok (.invokestatic 19, 3) := dk_184 0 19 (dk_at dksX0_key_1 16 rfl rfl)
theorem dX0_key_43 : decode cX0_key 43 = .ok (.aload_n 0, 1) := dk_42 (dk_at dksX0_key_1 19 rfl rfl)
theorem dX0_key_44 : decode cX0_key 44 = .ok (.getfield 7, 3) := dk_180 0 7 (dk_at dksX0_key_1 20 rfl rfl)
theorem dX0_key_47 : decode cX0_key 47 = .ok (.iload 6, 2) := dk_21 6 (dk_at dksX0_key_2 0 rfl rfl)
theorem dX0_key_49 : decode cX0_key 49 = .ok (.bipush 12, 2) := dk_16 12 (dk_at dksX0_key_2 2 rfl rfl)
theorem dX0_key_51 : decode cX0_key 51 = .ok (.iadd, 1) := dk_96 (dk_at dksX0_key_2 4 rfl rfl)
theorem dX0_key_52 : decode cX0_key 52 = .ok (.iload 5, 2) := dk_21 5 (dk_at dksX0_key_2 5 rfl rfl)
theorem dX0_key_54 : decode cX0_key 54 = .ok (.invokestatic 19, 3) := dk_184 0 19 (dk_at dksX0_key_2 7 rfl rfl)
theorem dX0_key_57 : decode cX0_key 57 = .ok (.return_, 1) := dk_177 (dk_at dksX0_key_2 10 rfl rfl)
abbrev cX0_word : ByteArray := prog_7_method_2_code
def yX0_word : MethodName := ⟨RX0, "word", "([BII)V"⟩
def dkwX0_word_1 : List UInt8 := [16, 8, 122, 145, 84, 42, 27, 6, 96, 28, 145, 84, 177]
abbrev dktX0_word_1 : List UInt8 := dkwX0_word_1 ++ []
def dkwX0_word_0 : List UInt8 := [42, 27, 28, 16, 24, 122, 145, 84, 42, 27, 4, 96, 28, 16, 16, 122, 145, 84, 42, 27, 5, 96, 28]
abbrev dktX0_word_0 : List UInt8 := dkwX0_word_0 ++ dktX0_word_1
theorem dksX0_word_0 : cX0_word.data.toList.drop 0 = dktX0_word_0 := by decide +kernel
theorem dksX0_word_1 : cX0_word.data.toList.drop 23 = dktX0_word_1 := dk_seg dksX0_word_0 23 rfl rfl
theorem dX0_word_0 : decode cX0_word 0 = .ok (.aload_n 0, 1) := dk_42 (dk_at dksX0_word_0 0 rfl rfl)
theorem dX0_word_1 : decode cX0_word 1 = .ok (.iload_n 1, 1) := dk_27 (dk_at dksX0_word_0 1 rfl rfl)
theorem dX0_word_2 : decode cX0_word 2 = .ok (.iload_n 2, 1) := dk_28 (dk_at dksX0_word_0 2 rfl rfl)
theorem dX0_word_3 : decode cX0_word 3 = .ok (.bipush 24, 2) := dk_16 24 (dk_at dksX0_word_0 3 rfl rfl)
theorem dX0_word_5 : decode cX0_word 5 = .ok (.ishr, 1) := dk_122 (dk_at dksX0_word_0 5 rfl rfl)
theorem dX0_word_6 : decode cX0_word 6 = .ok (.i2b, 1) := dk_145 (dk_at dksX0_word_0 6 rfl rfl)
theorem dX0_word_7 : decode cX0_word 7 = .ok (.bastore, 1) := dk_84 (dk_at dksX0_word_0 7 rfl rfl)
theorem dX0_word_8 : decode cX0_word 8 = .ok (.aload_n 0, 1) := dk_42 (dk_at dksX0_word_0 8 rfl rfl)
theorem dX0_word_9 : decode cX0_word 9 = .ok (.iload_n 1, 1) := dk_27 (dk_at dksX0_word_0 9 rfl rfl)
theorem dX0_word_10 : decode cX0_word 10 = .ok (.iconst 1, 1) := dk_4 (dk_at dksX0_word_0 10 rfl rfl)
theorem dX0_word_11 : decode cX0_word 11 = .ok (.iadd, 1) := dk_96 (dk_at dksX0_word_0 11 rfl rfl)
theorem dX0_word_12 : decode cX0_word 12 = .ok (.iload_n 2, 1) := dk_28 (dk_at dksX0_word_0 12 rfl rfl)
theorem dX0_word_13 : decode cX0_word 13 = .ok (.bipush 16, 2) := dk_16 16 (dk_at dksX0_word_0 13 rfl rfl)
theorem dX0_word_15 : decode cX0_word 15 = .ok (.ishr, 1) := dk_122 (dk_at dksX0_word_0 15 rfl rfl)
theorem dX0_word_16 : decode cX0_word 16 = .ok (.i2b, 1) := dk_145 (dk_at dksX0_word_0 16 rfl rfl)
theorem dX0_word_17 : decode cX0_word 17 = .ok (.bastore, 1) := dk_84 (dk_at dksX0_word_0 17 rfl rfl)
theorem dX0_word_18 : decode cX0_word 18 = .ok (.aload_n 0, 1) := dk_42 (dk_at dksX0_word_0 18 rfl rfl)
theorem dX0_word_19 : decode cX0_word 19 = .ok (.iload_n 1, 1) := dk_27 (dk_at dksX0_word_0 19 rfl rfl)
theorem dX0_word_20 : decode cX0_word 20 = .ok (.iconst 2, 1) := dk_5 (dk_at dksX0_word_0 20 rfl rfl)
theorem dX0_word_21 : decode cX0_word 21 = .ok (.iadd, 1) := dk_96 (dk_at dksX0_word_0 21 rfl rfl)
theorem dX0_word_22 : decode cX0_word 22 = .ok (.iload_n 2, 1) := dk_28 (dk_at dksX0_word_0 22 rfl rfl)
theorem dX0_word_23 : decode cX0_word 23 = .ok (.bipush 8, 2) := dk_16 8 (dk_at dksX0_word_1 0 rfl rfl)
theorem dX0_word_25 : decode cX0_word 25 = .ok (.ishr, 1) := dk_122 (dk_at dksX0_word_1 2 rfl rfl)
theorem dX0_word_26 : decode cX0_word 26 = .ok (.i2b, 1) := dk_145 (dk_at dksX0_word_1 3 rfl rfl)
theorem dX0_word_27 : decode cX0_word 27 = .ok (.bastore, 1) := dk_84 (dk_at dksX0_word_1 4 rfl rfl)
theorem dX0_word_28 : decode cX0_word 28 = .ok (.aload_n 0, 1) := dk_42 (dk_at dksX0_word_1 5 rfl rfl)
theorem dX0_word_29 : decode cX0_word 29 = .ok (.iload_n 1, 1) := dk_27 (dk_at dksX0_word_1 6 rfl rfl)
theorem dX0_word_30 : decode cX0_word 30 = .ok (.iconst 3, 1) := dk_6 (dk_at dksX0_word_1 7 rfl rfl)
theorem dX0_word_31 : decode cX0_word 31 = .ok (.iadd, 1) := dk_96 (dk_at dksX0_word_1 8 rfl rfl)
theorem dX0_word_32 : decode cX0_word 32 = .ok (.iload_n 2, 1) := dk_28 (dk_at dksX0_word_1 9 rfl rfl)
theorem dX0_word_33 : decode cX0_word 33 = .ok (.i2b, 1) := dk_145 (dk_at dksX0_word_1 10 rfl rfl)
theorem dX0_word_34 : decode cX0_word 34 = .ok (.bastore, 1) := dk_84 (dk_at dksX0_word_1 11 rfl rfl)
theorem dX0_word_35 : decode cX0_word 35 = .ok (.return_, 1) := dk_177 (dk_at dksX0_word_1 12 rfl rfl)
abbrev cX0_block : ByteArray := prog_7_method_4_code
def yX0_block : MethodName := ⟨RX0, "block", "(II)V"⟩
def dkwX0_block_0 : List UInt8 := [42, 180, 0, 13, 3, 27, 184, 0, 19, 42, 180, 0, 13, 7, 28, 184, 0, 19, 177]
abbrev dktX0_block_0 : List UInt8 := dkwX0_block_0 ++ []
theorem dksX0_block_0 : cX0_block.data.toList.drop 0 = dktX0_block_0 := by decide +kernel
theorem dX0_block_0 : decode cX0_block 0 = .ok (.aload_n 0, 1) := dk_42 (dk_at dksX0_block_0 0 rfl rfl)
theorem dX0_block_1 : decode cX0_block 1 = .ok (.getfield 13, 3) := dk_180 0 13 (dk_at dksX0_block_0 1 rfl rfl)
theorem dX0_block_4 : decode cX0_block 4 = .ok (.iconst 0, 1) := dk_3 (dk_at dksX0_block_0 4 rfl rfl)
theorem dX0_block_5 : decode cX0_block 5 = .ok (.iload_n 1, 1) := dk_27 (dk_at dksX0_block_0 5 rfl rfl)
theorem dX0_block_6 : decode cX0_block 6 = .ok (.invokestatic 19, 3) := dk_184 0 19 (dk_at dksX0_block_0 6 rfl rfl)
theorem dX0_block_9 : decode cX0_block 9 = .ok (.aload_n 0, 1) := dk_42 (dk_at dksX0_block_0 9 rfl rfl)
theorem dX0_block_10 : decode cX0_block 10 = .ok (.getfield 13, 3) := dk_180 0 13 (dk_at dksX0_block_0 10 rfl rfl)
theorem dX0_block_13 : decode cX0_block 13 = .ok (.iconst 4, 1) := dk_7 (dk_at dksX0_block_0 13 rfl rfl)
theorem dX0_block_14 : decode cX0_block 14 = .ok (.iload_n 2, 1) := dk_28 (dk_at dksX0_block_0 14 rfl rfl)
theorem dX0_block_15 : decode cX0_block 15 = .ok (.invokestatic 19, 3) := dk_184 0 19 (dk_at dksX0_block_0 15 rfl rfl)
theorem dX0_block_18 : decode cX0_block 18 = .ok (.return_, 1) := dk_177 (dk_at dksX0_block_0 18 rfl rfl)
abbrev cX0_lock : ByteArray := prog_7_method_7_code
def yX0_lock : MethodName := ⟨RX0, "lock", "(I)V"⟩
def dkwX0_lock_0 : List UInt8 := [42, 4, 27, 182, 0, 45, 177]
abbrev dktX0_lock_0 : List UInt8 := dkwX0_lock_0 ++ []
theorem dksX0_lock_0 : cX0_lock.data.toList.drop 0 = dktX0_lock_0 := by decide +kernel
theorem dX0_lock_0 : decode cX0_lock 0 = .ok (.aload_n 0, 1) := dk_42 (dk_at dksX0_lock_0 0 rfl rfl)
theorem dX0_lock_1 : decode cX0_lock 1 = .ok (.iconst 1, 1) := dk_4 (dk_at dksX0_lock_0 1 rfl rfl)
theorem dX0_lock_2 : decode cX0_lock 2 = .ok (.iload_n 1, 1) := dk_27 (dk_at dksX0_lock_0 2 rfl rfl)
theorem dX0_lock_3 : decode cX0_lock 3 = .ok (.invokevirtual 45, 3) := dk_182 0 45 (dk_at dksX0_lock_0 3 rfl rfl)
theorem dX0_lock_6 : decode cX0_lock 6 = .ok (.return_, 1) := dk_177 (dk_at dksX0_lock_0 6 rfl rfl)
abbrev cX0_run : ByteArray := prog_7_method_5_code
def yX0_run : MethodName := ⟨RX0, "run", "(ZI)V"⟩
def dkwX0_run_3 : List UInt8 := [180, 0, 13, 3, 42, 180, 0, 16, 3, 185, 0, 41, 5, 0, 87, 177]
abbrev dktX0_run_3 : List UInt8 := dkwX0_run_3 ++ []
def dkwX0_run_2 : List UInt8 := [58, 5, 25, 5, 27, 187, 0, 30, 89, 25, 4, 183, 0, 32, 185, 0, 35, 3, 0, 25, 5, 42]
abbrev dktX0_run_2 : List UInt8 := dkwX0_run_2 ++ dktX0_run_3
def dkwX0_run_1 : List UInt8 := [21, 5, 42, 180, 0, 7, 21, 5, 51, 84, 132, 5, 1, 167, 255, 235, 187, 0, 27, 89, 183, 0, 29]
abbrev dktX0_run_1 : List UInt8 := dkwX0_run_1 ++ dktX0_run_2
def dkwX0_run_0 : List UInt8 := [28, 6, 126, 184, 0, 23, 62, 29, 188, 8, 58, 4, 3, 54, 5, 21, 5, 29, 162, 0, 21, 25, 4]
abbrev dktX0_run_0 : List UInt8 := dkwX0_run_0 ++ dktX0_run_1
theorem dksX0_run_0 : cX0_run.data.toList.drop 0 = dktX0_run_0 := by decide +kernel
theorem dksX0_run_1 : cX0_run.data.toList.drop 23 = dktX0_run_1 := dk_seg dksX0_run_0 23 rfl rfl
theorem dksX0_run_2 : cX0_run.data.toList.drop 46 = dktX0_run_2 := dk_seg dksX0_run_1 23 rfl rfl
theorem dksX0_run_3 : cX0_run.data.toList.drop 68 = dktX0_run_3 := dk_seg dksX0_run_2 22 rfl rfl
theorem dX0_run_0 : decode cX0_run 0 = .ok (.iload_n 2, 1) := dk_28 (dk_at dksX0_run_0 0 rfl rfl)
theorem dX0_run_1 : decode cX0_run 1 = .ok (.iconst 3, 1) := dk_6 (dk_at dksX0_run_0 1 rfl rfl)
theorem dX0_run_2 : decode cX0_run 2 = .ok (.iand, 1) := dk_126 (dk_at dksX0_run_0 2 rfl rfl)
theorem dX0_run_3 : decode cX0_run 3 = .ok (.invokestatic 23, 3) := dk_184 0 23 (dk_at dksX0_run_0 3 rfl rfl)
theorem dX0_run_6 : decode cX0_run 6 = .ok (.istore_n 3, 1) := dk_62 (dk_at dksX0_run_0 6 rfl rfl)
theorem dX0_run_7 : decode cX0_run 7 = .ok (.iload_n 3, 1) := dk_29 (dk_at dksX0_run_0 7 rfl rfl)
theorem dX0_run_8 : decode cX0_run 8 = .ok (.newarray .byte, 2) := dk_188_8 (dk_at dksX0_run_0 8 rfl rfl)
theorem dX0_run_10 : decode cX0_run 10 = .ok (.astore 4, 2) := dk_58 4 (dk_at dksX0_run_0 10 rfl rfl)
theorem dX0_run_12 : decode cX0_run 12 = .ok (.iconst 0, 1) := dk_3 (dk_at dksX0_run_0 12 rfl rfl)
theorem dX0_run_13 : decode cX0_run 13 = .ok (.istore 5, 2) := dk_54 5 (dk_at dksX0_run_0 13 rfl rfl)
theorem dX0_run_15 : decode cX0_run 15 = .ok (.iload 5, 2) := dk_21 5 (dk_at dksX0_run_0 15 rfl rfl)
theorem dX0_run_17 : decode cX0_run 17 = .ok (.iload_n 3, 1) := dk_29 (dk_at dksX0_run_0 17 rfl rfl)
theorem dX0_run_18 : decode cX0_run 18 = .ok (.if_icmp .ge 21, 3) := dk_162 0 21 (dk_at dksX0_run_0 18 rfl rfl)
theorem dX0_run_21 : decode cX0_run 21 = .ok (.aload 4, 2) := dk_25 4 (dk_at dksX0_run_0 21 rfl rfl)
theorem dX0_run_23 : decode cX0_run 23 = .ok (.iload 5, 2) := dk_21 5 (dk_at dksX0_run_1 0 rfl rfl)
theorem dX0_run_25 : decode cX0_run 25 = .ok (.aload_n 0, 1) := dk_42 (dk_at dksX0_run_1 2 rfl rfl)
theorem dX0_run_26 : decode cX0_run 26 = .ok (.getfield 7, 3) := dk_180 0 7 (dk_at dksX0_run_1 3 rfl rfl)
theorem dX0_run_29 : decode cX0_run 29 = .ok (.iload 5, 2) := dk_21 5 (dk_at dksX0_run_1 6 rfl rfl)
theorem dX0_run_31 : decode cX0_run 31 = .ok (.baload, 1) := dk_51 (dk_at dksX0_run_1 8 rfl rfl)
theorem dX0_run_32 : decode cX0_run 32 = .ok (.bastore, 1) := dk_84 (dk_at dksX0_run_1 9 rfl rfl)
theorem dX0_run_33 : decode cX0_run 33 = .ok (.iinc 5 1, 3) := dk_132 5 1 (dk_at dksX0_run_1 10 rfl rfl)
theorem dX0_run_36 : decode cX0_run 36 = .ok (.goto (-21), 3) := dk_167 255 235 (dk_at dksX0_run_1 13 rfl rfl)
theorem dX0_run_39 : decode cX0_run 39 = .ok (.new 27, 3) := dk_187 0 27 (dk_at dksX0_run_1 16 rfl rfl)
theorem dX0_run_42 : decode cX0_run 42 = .ok (.dup, 1) := dk_89 (dk_at dksX0_run_1 19 rfl rfl)
theorem dX0_run_43 : decode cX0_run 43 = .ok (.invokespecial 29, 3) := dk_183 0 29 (dk_at dksX0_run_1 20 rfl rfl)
theorem dX0_run_46 : decode cX0_run 46 = .ok (.astore 5, 2) := dk_58 5 (dk_at dksX0_run_2 0 rfl rfl)
theorem dX0_run_48 : decode cX0_run 48 = .ok (.aload 5, 2) := dk_25 5 (dk_at dksX0_run_2 2 rfl rfl)
theorem dX0_run_50 : decode cX0_run 50 = .ok (.iload_n 1, 1) := dk_27 (dk_at dksX0_run_2 4 rfl rfl)
theorem dX0_run_51 : decode cX0_run 51 = .ok (.new 30, 3) := dk_187 0 30 (dk_at dksX0_run_2 5 rfl rfl)
theorem dX0_run_54 : decode cX0_run 54 = .ok (.dup, 1) := dk_89 (dk_at dksX0_run_2 8 rfl rfl)
theorem dX0_run_55 : decode cX0_run 55 = .ok (.aload 4, 2) := dk_25 4 (dk_at dksX0_run_2 9 rfl rfl)
theorem dX0_run_57 : decode cX0_run 57 = .ok (.invokespecial 32, 3) := dk_183 0 32 (dk_at dksX0_run_2 11 rfl rfl)
theorem dX0_run_60 : decode cX0_run 60 = .ok (.invokeinterface 35 3, 5) := by decide +kernel
theorem dX0_run_65 : decode cX0_run 65 = .ok (.aload 5, 2) := dk_25 5 (dk_at dksX0_run_2 19 rfl rfl)
theorem dX0_run_67 : decode cX0_run 67 = .ok (.aload_n 0, 1) := dk_42 (dk_at dksX0_run_2 21 rfl rfl)
theorem dX0_run_68 : decode cX0_run 68 = .ok (.getfield 13, 3) := dk_180 0 13 (dk_at dksX0_run_3 0 rfl rfl)
theorem dX0_run_71 : decode cX0_run 71 = .ok (.iconst 0, 1) := dk_3 (dk_at dksX0_run_3 3 rfl rfl)
theorem dX0_run_72 : decode cX0_run 72 = .ok (.aload_n 0, 1) := dk_42 (dk_at dksX0_run_3 4 rfl rfl)
theorem dX0_run_73 : decode cX0_run 73 = .ok (.getfield 16, 3) := dk_180 0 16 (dk_at dksX0_run_3 5 rfl rfl)
theorem dX0_run_76 : decode cX0_run 76 = .ok (.iconst 0, 1) := dk_3 (dk_at dksX0_run_3 8 rfl rfl)
theorem dX0_run_77 : decode cX0_run 77 = .ok (.invokeinterface 41 5, 5) := by decide +kernel
theorem dX0_run_82 : decode cX0_run 82 = .ok (.pop, 1) := dk_87 (dk_at dksX0_run_3 14 rfl rfl)
theorem dX0_run_83 : decode cX0_run 83 = .ok (.return_, 1) := dk_177 (dk_at dksX0_run_3 15 rfl rfl)
abbrev cX0_size : ByteArray := prog_7_method_6_code
def yX0_size : MethodName := ⟨RX0, "size", "(I)I"⟩
theorem dX0_size_0 : decode cX0_size 0 = .ok (.bipush 10, 2) := by decide +kernel
theorem dX0_size_2 : decode cX0_size 2 = .ok (.ireturn, 1) := by decide +kernel
abbrev cX0_open : ByteArray := prog_7_method_8_code
def yX0_open : MethodName := ⟨RX0, "open", "(I)V"⟩
def dkwX0_open_0 : List UInt8 := [42, 3, 27, 182, 0, 45, 177]
abbrev dktX0_open_0 : List UInt8 := dkwX0_open_0 ++ []
theorem dksX0_open_0 : cX0_open.data.toList.drop 0 = dktX0_open_0 := by decide +kernel
theorem dX0_open_0 : decode cX0_open 0 = .ok (.aload_n 0, 1) := dk_42 (dk_at dksX0_open_0 0 rfl rfl)
theorem dX0_open_1 : decode cX0_open 1 = .ok (.iconst 0, 1) := dk_3 (dk_at dksX0_open_0 1 rfl rfl)
theorem dX0_open_2 : decode cX0_open 2 = .ok (.iload_n 1, 1) := dk_27 (dk_at dksX0_open_0 2 rfl rfl)
theorem dX0_open_3 : decode cX0_open 3 = .ok (.invokevirtual 45, 3) := dk_182 0 45 (dk_at dksX0_open_0 3 rfl rfl)
theorem dX0_open_6 : decode cX0_open 6 = .ok (.return_, 1) := dk_177 (dk_at dksX0_open_0 6 rfl rfl)
abbrev cX0_again : ByteArray := prog_7_method_9_code
def yX0_again : MethodName := ⟨RX0, "again", "()V"⟩
def dkwX0_again_1 : List UInt8 := [167, 255, 235, 177]
abbrev dktX0_again_1 : List UInt8 := dkwX0_again_1 ++ []
def dkwX0_again_0 : List UInt8 := [3, 60, 27, 16, 8, 162, 0, 21, 42, 180, 0, 13, 27, 42, 180, 0, 16, 27, 51, 84, 132, 1, 1]
abbrev dktX0_again_0 : List UInt8 := dkwX0_again_0 ++ dktX0_again_1
theorem dksX0_again_0 : cX0_again.data.toList.drop 0 = dktX0_again_0 := by decide +kernel
theorem dksX0_again_1 : cX0_again.data.toList.drop 23 = dktX0_again_1 := dk_seg dksX0_again_0 23 rfl rfl
theorem dX0_again_0 : decode cX0_again 0 = .ok (.iconst 0, 1) := dk_3 (dk_at dksX0_again_0 0 rfl rfl)
theorem dX0_again_1 : decode cX0_again 1 = .ok (.istore_n 1, 1) := dk_60 (dk_at dksX0_again_0 1 rfl rfl)
theorem dX0_again_2 : decode cX0_again 2 = .ok (.iload_n 1, 1) := dk_27 (dk_at dksX0_again_0 2 rfl rfl)
theorem dX0_again_3 : decode cX0_again 3 = .ok (.bipush 8, 2) := dk_16 8 (dk_at dksX0_again_0 3 rfl rfl)
theorem dX0_again_5 : decode cX0_again 5 = .ok (.if_icmp .ge 21, 3) := dk_162 0 21 (dk_at dksX0_again_0 5 rfl rfl)
theorem dX0_again_8 : decode cX0_again 8 = .ok (.aload_n 0, 1) := dk_42 (dk_at dksX0_again_0 8 rfl rfl)
theorem dX0_again_9 : decode cX0_again 9 = .ok (.getfield 13, 3) := dk_180 0 13 (dk_at dksX0_again_0 9 rfl rfl)
theorem dX0_again_12 : decode cX0_again 12 = .ok (.iload_n 1, 1) := dk_27 (dk_at dksX0_again_0 12 rfl rfl)
theorem dX0_again_13 : decode cX0_again 13 = .ok (.aload_n 0, 1) := dk_42 (dk_at dksX0_again_0 13 rfl rfl)
theorem dX0_again_14 : decode cX0_again 14 = .ok (.getfield 16, 3) := dk_180 0 16 (dk_at dksX0_again_0 14 rfl rfl)
theorem dX0_again_17 : decode cX0_again 17 = .ok (.iload_n 1, 1) := dk_27 (dk_at dksX0_again_0 17 rfl rfl)
theorem dX0_again_18 : decode cX0_again 18 = .ok (.baload, 1) := dk_51 (dk_at dksX0_again_0 18 rfl rfl)
theorem dX0_again_19 : decode cX0_again 19 = .ok (.bastore, 1) := dk_84 (dk_at dksX0_again_0 19 rfl rfl)
theorem dX0_again_20 : decode cX0_again 20 = .ok (.iinc 1 1, 3) := dk_132 1 1 (dk_at dksX0_again_0 20 rfl rfl)
theorem dX0_again_23 : decode cX0_again 23 = .ok (.goto (-21), 3) := dk_167 255 235 (dk_at dksX0_again_1 0 rfl rfl)
theorem dX0_again_26 : decode cX0_again 26 = .ok (.return_, 1) := dk_177 (dk_at dksX0_again_1 3 rfl rfl)
abbrev cX0_out : ByteArray := prog_7_method_10_code
def yX0_out : MethodName := ⟨RX0, "out", "(I)I"⟩
def dkwX0_out_0 : List UInt8 := [42, 180, 0, 16, 27, 16, 7, 126, 51, 17, 0, 255, 126, 172]
abbrev dktX0_out_0 : List UInt8 := dkwX0_out_0 ++ []
theorem dksX0_out_0 : cX0_out.data.toList.drop 0 = dktX0_out_0 := by decide +kernel
theorem dX0_out_0 : decode cX0_out 0 = .ok (.aload_n 0, 1) := dk_42 (dk_at dksX0_out_0 0 rfl rfl)
theorem dX0_out_1 : decode cX0_out 1 = .ok (.getfield 16, 3) := dk_180 0 16 (dk_at dksX0_out_0 1 rfl rfl)
theorem dX0_out_4 : decode cX0_out 4 = .ok (.iload_n 1, 1) := dk_27 (dk_at dksX0_out_0 4 rfl rfl)
theorem dX0_out_5 : decode cX0_out 5 = .ok (.bipush 7, 2) := dk_16 7 (dk_at dksX0_out_0 5 rfl rfl)
theorem dX0_out_7 : decode cX0_out 7 = .ok (.iand, 1) := dk_126 (dk_at dksX0_out_0 7 rfl rfl)
theorem dX0_out_8 : decode cX0_out 8 = .ok (.baload, 1) := dk_51 (dk_at dksX0_out_0 8 rfl rfl)
theorem dX0_out_9 : decode cX0_out 9 = .ok (.sipush 255, 3) := dk_17 0 255 (dk_at dksX0_out_0 9 rfl rfl)
theorem dX0_out_12 : decode cX0_out 12 = .ok (.iand, 1) := dk_126 (dk_at dksX0_out_0 12 rfl rfl)
theorem dX0_out_13 : decode cX0_out 13 = .ok (.ireturn, 1) := dk_172 (dk_at dksX0_out_0 13 rfl rfl)
theorem q9 : (Jvm.Cond.initialized "SkipjackDesk") ∈ lw_all := lw_g (lw_at lw_m1 1 rfl) rfl
theorem q23 : (Jvm.Cond.instantiable "SkipjackDesk" (3 : Nat)) ∈ lw_all := lw_g (lw_at lw_m1 15 rfl) rfl
theorem q25 : (Jvm.Cond.instanceMethod ({ cls := "SkipjackDesk", name := "<init>", desc := "()V" } : Jvm.MethodName)) ∈ lw_all := lw_g (lw_at lw_m1 17 rfl) rfl
theorem q26 : (Jvm.Cond.code ({ cls := "SkipjackDesk", name := "<init>", desc := "()V" } : Jvm.MethodName) prog_7_method_1_code (1 : Nat) (Option.none : Option Jvm.ClassFile.FieldType)) ∈ lw_all := lw_g (lw_at lw_m1 18 rfl) rfl
theorem q27 : (Jvm.Cond.methodLink "SkipjackDesk" (1 : Nat) ({ cls := "java/lang/Object", name := "<init>", desc := "()V" } : Jvm.MethodName)) ∈ lw_all := lw_g (lw_at lw_m1 19 rfl) rfl
theorem q30 : (Jvm.Cond.fieldLink "SkipjackDesk" (7 : Nat) "SkipjackDesk" "key" "[B") ∈ lw_all := lw_g (lw_at lw_m1 22 rfl) rfl
theorem q31 : (Jvm.Cond.fieldLink "SkipjackDesk" (13 : Nat) "SkipjackDesk" "block" "[B") ∈ lw_all := lw_g (lw_at lw_m1 23 rfl) rfl
theorem q32 : (Jvm.Cond.fieldLink "SkipjackDesk" (16 : Nat) "SkipjackDesk" "out" "[B") ∈ lw_all := lw_g (lw_at lw_m1 24 rfl) rfl
theorem q33 : (Jvm.Cond.laysFinal "SkipjackDesk" "SkipjackDesk" "key" "[B") ∈ lw_all := lw_g (lw_at lw_m1 25 rfl) rfl
theorem q34 : (Jvm.Cond.soleField "SkipjackDesk" "key") ∈ lw_all := lw_g (lw_at lw_m1 26 rfl) rfl
theorem q35 : (Jvm.Cond.laysFinal "SkipjackDesk" "SkipjackDesk" "block" "[B") ∈ lw_all := lw_g (lw_at lw_m1 27 rfl) rfl
theorem q36 : (Jvm.Cond.soleField "SkipjackDesk" "block") ∈ lw_all := lw_g (lw_at lw_m1 28 rfl) rfl
theorem q37 : (Jvm.Cond.laysFinal "SkipjackDesk" "SkipjackDesk" "out" "[B") ∈ lw_all := lw_g (lw_at lw_m1 29 rfl) rfl
theorem q38 : (Jvm.Cond.soleField "SkipjackDesk" "out") ∈ lw_all := lw_g (lw_at lw_m1 30 rfl) rfl
theorem q39 : (Jvm.Cond.superclass "SkipjackDesk" "java/lang/Object") ∈ lw_all := lw_g (lw_at lw_m1 31 rfl) rfl
theorem q42 : (Jvm.Cond.instanceMethod ({ cls := "SkipjackDesk", name := "key", desc := "(IIIII)V" } : Jvm.MethodName)) ∈ lw_all := lw_g (lw_at lw_m1 34 rfl) rfl
theorem q43 : (Jvm.Cond.selects "SkipjackDesk" ({ cls := "SkipjackDesk", name := "key", desc := "(IIIII)V" } : Jvm.MethodName) ({ cls := "SkipjackDesk", name := "key", desc := "(IIIII)V" } : Jvm.MethodName)) ∈ lw_all := lw_g (lw_at lw_m1 35 rfl) rfl
theorem q44 : (Jvm.Cond.code ({ cls := "SkipjackDesk", name := "key", desc := "(IIIII)V" } : Jvm.MethodName) prog_7_method_3_code (7 : Nat) (Option.none : Option Jvm.ClassFile.FieldType)) ∈ lw_all := lw_g (lw_at lw_m1 36 rfl) rfl
theorem q45 : (Jvm.Cond.methodLink "SkipjackDesk" (19 : Nat) ({ cls := "SkipjackDesk", name := "word", desc := "([BII)V" } : Jvm.MethodName)) ∈ lw_all := lw_g (lw_at lw_m1 37 rfl) rfl
theorem q46 : (Jvm.Cond.static ({ cls := "SkipjackDesk", name := "word", desc := "([BII)V" } : Jvm.MethodName)) ∈ lw_all := lw_g (lw_at lw_m1 38 rfl) rfl
theorem q47 : (Jvm.Cond.code ({ cls := "SkipjackDesk", name := "word", desc := "([BII)V" } : Jvm.MethodName) prog_7_method_2_code (3 : Nat) (Option.none : Option Jvm.ClassFile.FieldType)) ∈ lw_all := lw_g (lw_at lw_m1 39 rfl) rfl
theorem q49 : (Jvm.Cond.instanceMethod ({ cls := "SkipjackDesk", name := "block", desc := "(II)V" } : Jvm.MethodName)) ∈ lw_all := lw_g (lw_at lw_m1 41 rfl) rfl
theorem q50 : (Jvm.Cond.selects "SkipjackDesk" ({ cls := "SkipjackDesk", name := "block", desc := "(II)V" } : Jvm.MethodName) ({ cls := "SkipjackDesk", name := "block", desc := "(II)V" } : Jvm.MethodName)) ∈ lw_all := lw_g (lw_at lw_m1 42 rfl) rfl
theorem q51 : (Jvm.Cond.code ({ cls := "SkipjackDesk", name := "block", desc := "(II)V" } : Jvm.MethodName) prog_7_method_4_code (3 : Nat) (Option.none : Option Jvm.ClassFile.FieldType)) ∈ lw_all := lw_g (lw_at lw_m1 43 rfl) rfl
theorem q53 : (Jvm.Cond.instanceMethod ({ cls := "SkipjackDesk", name := "lock", desc := "(I)V" } : Jvm.MethodName)) ∈ lw_all := lw_g (lw_at lw_m1 45 rfl) rfl
theorem q54 : (Jvm.Cond.selects "SkipjackDesk" ({ cls := "SkipjackDesk", name := "lock", desc := "(I)V" } : Jvm.MethodName) ({ cls := "SkipjackDesk", name := "lock", desc := "(I)V" } : Jvm.MethodName)) ∈ lw_all := lw_g (lw_at lw_m1 46 rfl) rfl
theorem q55 : (Jvm.Cond.code ({ cls := "SkipjackDesk", name := "lock", desc := "(I)V" } : Jvm.MethodName) prog_7_method_7_code (2 : Nat) (Option.none : Option Jvm.ClassFile.FieldType)) ∈ lw_all := lw_g (lw_at lw_m1 47 rfl) rfl
theorem q56 : (Jvm.Cond.methodLink "SkipjackDesk" (45 : Nat) ({ cls := "SkipjackDesk", name := "run", desc := "(ZI)V" } : Jvm.MethodName)) ∈ lw_all := lw_g (lw_at lw_m1 48 rfl) rfl
theorem q57 : (Jvm.Cond.privateMethod ({ cls := "SkipjackDesk", name := "run", desc := "(ZI)V" } : Jvm.MethodName)) ∈ lw_tbl := lw_at lw_m1 49 rfl
theorem q58 : (Jvm.Cond.instanceMethod ({ cls := "SkipjackDesk", name := "run", desc := "(ZI)V" } : Jvm.MethodName)) ∈ lw_all := lw_g (lw_at lw_m1 50 rfl) rfl
theorem q59 : (Jvm.Cond.code ({ cls := "SkipjackDesk", name := "run", desc := "(ZI)V" } : Jvm.MethodName) prog_7_method_5_code (6 : Nat) (Option.none : Option Jvm.ClassFile.FieldType)) ∈ lw_all := lw_g (lw_at lw_m1 51 rfl) rfl
theorem q60 : (Jvm.Cond.methodLink "SkipjackDesk" (23 : Nat) ({ cls := "SkipjackDesk", name := "size", desc := "(I)I" } : Jvm.MethodName)) ∈ lw_all := lw_g (lw_at lw_m1 52 rfl) rfl
theorem q61 : (Jvm.Cond.static ({ cls := "SkipjackDesk", name := "size", desc := "(I)I" } : Jvm.MethodName)) ∈ lw_all := lw_g (lw_at lw_m1 53 rfl) rfl
theorem q62 : (Jvm.Cond.code ({ cls := "SkipjackDesk", name := "size", desc := "(I)I" } : Jvm.MethodName) prog_7_method_6_code (1 : Nat) (Option.some Jvm.ClassFile.FieldType.int)) ∈ lw_all := lw_g (lw_at lw_m1 54 rfl) rfl
theorem q63 : (Jvm.Cond.classLink "SkipjackDesk" (27 : Nat) "SkipjackEngine") ∈ lw_all := lw_g (lw_at lw_m1 55 rfl) rfl
theorem q65 : (Jvm.Cond.methodLink "SkipjackDesk" (29 : Nat) ({ cls := "SkipjackEngine", name := "<init>", desc := "()V" } : Jvm.MethodName)) ∈ lw_all := lw_g (lw_at lw_m1 57 rfl) rfl
theorem q85 : (Jvm.Cond.classLink "SkipjackDesk" (30 : Nat) "KeyParameter") ∈ lw_all := lw_g (lw_at lw_m1 77 rfl) rfl
theorem q87 : (Jvm.Cond.methodLink "SkipjackDesk" (32 : Nat) ({ cls := "KeyParameter", name := "<init>", desc := "([B)V" } : Jvm.MethodName)) ∈ lw_all := lw_g (lw_at lw_m1 79 rfl) rfl
theorem q104 : (Jvm.Cond.interfaceEntry "SkipjackDesk" (35 : Nat)) ∈ lw_tbl := lw_at lw_m1 96 rfl
theorem q105 : (Jvm.Cond.methodLink "SkipjackDesk" (35 : Nat) ({ cls := "BlockCipher", name := "init", desc := "(ZLCipherParameters;)V" } : Jvm.MethodName)) ∈ lw_all := lw_g (lw_at lw_m1 97 rfl) rfl
theorem q187 : (Jvm.Cond.interfaceEntry "SkipjackDesk" (41 : Nat)) ∈ lw_tbl := lw_at lw_m1 179 rfl
theorem q188 : (Jvm.Cond.methodLink "SkipjackDesk" (41 : Nat) ({ cls := "BlockCipher", name := "processBlock", desc := "([BI[BI)I" } : Jvm.MethodName)) ∈ lw_all := lw_g (lw_at lw_m1 180 rfl) rfl
theorem q269 : (Jvm.Cond.instanceMethod ({ cls := "SkipjackDesk", name := "open", desc := "(I)V" } : Jvm.MethodName)) ∈ lw_all := lw_g (lw_at lw_m2 21 rfl) rfl
theorem q270 : (Jvm.Cond.selects "SkipjackDesk" ({ cls := "SkipjackDesk", name := "open", desc := "(I)V" } : Jvm.MethodName) ({ cls := "SkipjackDesk", name := "open", desc := "(I)V" } : Jvm.MethodName)) ∈ lw_all := lw_g (lw_at lw_m2 22 rfl) rfl
theorem q271 : (Jvm.Cond.code ({ cls := "SkipjackDesk", name := "open", desc := "(I)V" } : Jvm.MethodName) prog_7_method_8_code (2 : Nat) (Option.none : Option Jvm.ClassFile.FieldType)) ∈ lw_all := lw_g (lw_at lw_m2 23 rfl) rfl
theorem q273 : (Jvm.Cond.instanceMethod ({ cls := "SkipjackDesk", name := "again", desc := "()V" } : Jvm.MethodName)) ∈ lw_all := lw_g (lw_at lw_m2 25 rfl) rfl
theorem q274 : (Jvm.Cond.selects "SkipjackDesk" ({ cls := "SkipjackDesk", name := "again", desc := "()V" } : Jvm.MethodName) ({ cls := "SkipjackDesk", name := "again", desc := "()V" } : Jvm.MethodName)) ∈ lw_all := lw_g (lw_at lw_m2 26 rfl) rfl
theorem q275 : (Jvm.Cond.code ({ cls := "SkipjackDesk", name := "again", desc := "()V" } : Jvm.MethodName) prog_7_method_9_code (2 : Nat) (Option.none : Option Jvm.ClassFile.FieldType)) ∈ lw_all := lw_g (lw_at lw_m2 27 rfl) rfl
theorem q277 : (Jvm.Cond.instanceMethod ({ cls := "SkipjackDesk", name := "out", desc := "(I)I" } : Jvm.MethodName)) ∈ lw_all := lw_g (lw_at lw_m2 29 rfl) rfl
theorem q278 : (Jvm.Cond.selects "SkipjackDesk" ({ cls := "SkipjackDesk", name := "out", desc := "(I)I" } : Jvm.MethodName) ({ cls := "SkipjackDesk", name := "out", desc := "(I)I" } : Jvm.MethodName)) ∈ lw_all := lw_g (lw_at lw_m2 30 rfl) rfl
theorem q279 : (Jvm.Cond.code ({ cls := "SkipjackDesk", name := "out", desc := "(I)I" } : Jvm.MethodName) prog_7_method_10_code (2 : Nat) (Option.some Jvm.ClassFile.FieldType.int)) ∈ lw_all := lw_g (lw_at lw_m2 31 rfl) rfl
theorem in_X0 : ∀ w ∈ wsX00, w ∈ lw_all := lw_in wsX00 [33, 35, 37] (by decide +kernel) (by decide +kernel)
/-! KeyParameter -/
set_option maxRecDepth 100000
def RX3 : String := "KeyParameter"
def TX3 : u_T := fun k => match k with
  | _ => ("KeyParameter", "key", "[B", false)
def tyX3 : Nat → FieldType := fun k => match k with
  | _ => .array .byte
abbrev wsX30 : List Cond := u_ws RX3 TX3 1
theorem nmX3 : ∀ a, a < 1 → ∀ b, b < 1 → a ≠ b → (TX3 a).2.1 ≠ (TX3 b).2.1 := by decide +kernel
theorem tyX3_ok : ∀ k, k < 1 → parseFieldDescriptor (TX3 k).2.2.1 = some (tyX3 k) := by decide +kernel
abbrev cX3_init : ByteArray := prog_4_method_1_code
def yX3_init : MethodName := ⟨RX3, "<init>", "([B)V"⟩
def dkwX3_init_0 : List UInt8 := [42, 43, 3, 43, 190, 183, 0, 1, 177]
abbrev dktX3_init_0 : List UInt8 := dkwX3_init_0 ++ []
theorem dksX3_init_0 : cX3_init.data.toList.drop 0 = dktX3_init_0 := by decide +kernel
theorem dX3_init_0 : decode cX3_init 0 = .ok (.aload_n 0, 1) := dk_42 (dk_at dksX3_init_0 0 rfl rfl)
theorem dX3_init_1 : decode cX3_init 1 = .ok (.aload_n 1, 1) := dk_43 (dk_at dksX3_init_0 1 rfl rfl)
theorem dX3_init_2 : decode cX3_init 2 = .ok (.iconst 0, 1) := dk_3 (dk_at dksX3_init_0 2 rfl rfl)
theorem dX3_init_3 : decode cX3_init 3 = .ok (.aload_n 1, 1) := dk_43 (dk_at dksX3_init_0 3 rfl rfl)
theorem dX3_init_4 : decode cX3_init 4 = .ok (.arraylength, 1) := dk_190 (dk_at dksX3_init_0 4 rfl rfl)
theorem dX3_init_5 : decode cX3_init 5 = .ok (.invokespecial 1, 3) := dk_183 0 1 (dk_at dksX3_init_0 5 rfl rfl)
theorem dX3_init_8 : decode cX3_init 8 = .ok (.return_, 1) := dk_177 (dk_at dksX3_init_0 8 rfl rfl)
abbrev cX3_init_2 : ByteArray := prog_4_method_2_code
def yX3_init_2 : MethodName := ⟨RX3, "<init>", "([BII)V"⟩
def dkwX3_init_2_0 : List UInt8 := [42, 29, 183, 0, 7, 43, 28, 42, 180, 0, 10, 3, 29, 184, 0, 14, 177]
abbrev dktX3_init_2_0 : List UInt8 := dkwX3_init_2_0 ++ []
theorem dksX3_init_2_0 : cX3_init_2.data.toList.drop 0 = dktX3_init_2_0 := by decide +kernel
theorem dX3_init_2_0 : decode cX3_init_2 0 = .ok (.aload_n 0, 1) := dk_42 (dk_at dksX3_init_2_0 0 rfl rfl)
theorem dX3_init_2_1 : decode cX3_init_2 1 = .ok (.iload_n 3, 1) := dk_29 (dk_at dksX3_init_2_0 1 rfl rfl)
theorem dX3_init_2_2 : decode cX3_init_2 2 = .ok (.invokespecial 7, 3) := dk_183 0 7 (dk_at dksX3_init_2_0 2 rfl rfl)
theorem dX3_init_2_5 : decode cX3_init_2 5 = .ok (.aload_n 1, 1) := dk_43 (dk_at dksX3_init_2_0 5 rfl rfl)
theorem dX3_init_2_6 : decode cX3_init_2 6 = .ok (.iload_n 2, 1) := dk_28 (dk_at dksX3_init_2_0 6 rfl rfl)
theorem dX3_init_2_7 : decode cX3_init_2 7 = .ok (.aload_n 0, 1) := dk_42 (dk_at dksX3_init_2_0 7 rfl rfl)
theorem dX3_init_2_8 : decode cX3_init_2 8 = .ok (.getfield 10, 3) := dk_180 0 10 (dk_at dksX3_init_2_0 8 rfl rfl)
theorem dX3_init_2_11 : decode cX3_init_2 11 = .ok (.iconst 0, 1) := dk_3 (dk_at dksX3_init_2_0 11 rfl rfl)
theorem dX3_init_2_12 : decode cX3_init_2 12 = .ok (.iload_n 3, 1) := dk_29 (dk_at dksX3_init_2_0 12 rfl rfl)
theorem dX3_init_2_13 : decode cX3_init_2 13 = .ok (.invokestatic 14, 3) := dk_184 0 14 (dk_at dksX3_init_2_0 13 rfl rfl)
theorem dX3_init_2_16 : decode cX3_init_2 16 = .ok (.return_, 1) := dk_177 (dk_at dksX3_init_2_0 16 rfl rfl)
abbrev cX3_init_3 : ByteArray := prog_4_method_3_code
def yX3_init_3 : MethodName := ⟨RX3, "<init>", "(I)V"⟩
def dkwX3_init_3_0 : List UInt8 := [42, 183, 0, 20, 42, 27, 188, 8, 181, 0, 10, 177]
abbrev dktX3_init_3_0 : List UInt8 := dkwX3_init_3_0 ++ []
theorem dksX3_init_3_0 : cX3_init_3.data.toList.drop 0 = dktX3_init_3_0 := by decide +kernel
theorem dX3_init_3_0 : decode cX3_init_3 0 = .ok (.aload_n 0, 1) := dk_42 (dk_at dksX3_init_3_0 0 rfl rfl)
theorem dX3_init_3_1 : decode cX3_init_3 1 = .ok (.invokespecial 20, 3) := dk_183 0 20 (dk_at dksX3_init_3_0 1 rfl rfl)
theorem dX3_init_3_4 : decode cX3_init_3 4 = .ok (.aload_n 0, 1) := dk_42 (dk_at dksX3_init_3_0 4 rfl rfl)
theorem dX3_init_3_5 : decode cX3_init_3 5 = .ok (.iload_n 1, 1) := dk_27 (dk_at dksX3_init_3_0 5 rfl rfl)
theorem dX3_init_3_6 : decode cX3_init_3 6 = .ok (.newarray .byte, 2) := dk_188_8 (dk_at dksX3_init_3_0 6 rfl rfl)
theorem dX3_init_3_8 : decode cX3_init_3 8 = .ok (.putfield 10, 3) := dk_181 0 10 (dk_at dksX3_init_3_0 8 rfl rfl)
theorem dX3_init_3_11 : decode cX3_init_3 11 = .ok (.return_, 1) := dk_177 (dk_at dksX3_init_3_0 11 rfl rfl)
abbrev cX3_getKey : ByteArray := prog_4_method_4_code
def yX3_getKey : MethodName := ⟨RX3, "getKey", "()[B"⟩
theorem dX3_getKey_0 : decode cX3_getKey 0 = .ok (.aload_n 0, 1) := by decide +kernel
theorem dX3_getKey_1 : decode cX3_getKey 1 = .ok (.getfield 10, 3) := by decide +kernel
theorem dX3_getKey_4 : decode cX3_getKey 4 = .ok (.areturn, 1) := by decide +kernel
theorem q12 : (Jvm.Cond.initialized "KeyParameter") ∈ lw_all := lw_g (lw_at lw_m1 4 rfl) rfl
theorem q86 : (Jvm.Cond.instantiable "KeyParameter" (1 : Nat)) ∈ lw_all := lw_g (lw_at lw_m1 78 rfl) rfl
theorem q88 : (Jvm.Cond.instanceMethod ({ cls := "KeyParameter", name := "<init>", desc := "([B)V" } : Jvm.MethodName)) ∈ lw_all := lw_g (lw_at lw_m1 80 rfl) rfl
theorem q89 : (Jvm.Cond.code ({ cls := "KeyParameter", name := "<init>", desc := "([B)V" } : Jvm.MethodName) prog_4_method_1_code (2 : Nat) (Option.none : Option Jvm.ClassFile.FieldType)) ∈ lw_all := lw_g (lw_at lw_m1 81 rfl) rfl
theorem q90 : (Jvm.Cond.methodLink "KeyParameter" (1 : Nat) ({ cls := "KeyParameter", name := "<init>", desc := "([BII)V" } : Jvm.MethodName)) ∈ lw_all := lw_g (lw_at lw_m1 82 rfl) rfl
theorem q91 : (Jvm.Cond.instanceMethod ({ cls := "KeyParameter", name := "<init>", desc := "([BII)V" } : Jvm.MethodName)) ∈ lw_all := lw_g (lw_at lw_m1 83 rfl) rfl
theorem q92 : (Jvm.Cond.code ({ cls := "KeyParameter", name := "<init>", desc := "([BII)V" } : Jvm.MethodName) prog_4_method_2_code (4 : Nat) (Option.none : Option Jvm.ClassFile.FieldType)) ∈ lw_all := lw_g (lw_at lw_m1 84 rfl) rfl
theorem q93 : (Jvm.Cond.methodLink "KeyParameter" (7 : Nat) ({ cls := "KeyParameter", name := "<init>", desc := "(I)V" } : Jvm.MethodName)) ∈ lw_all := lw_g (lw_at lw_m1 85 rfl) rfl
theorem q94 : (Jvm.Cond.instanceMethod ({ cls := "KeyParameter", name := "<init>", desc := "(I)V" } : Jvm.MethodName)) ∈ lw_all := lw_g (lw_at lw_m1 86 rfl) rfl
theorem q95 : (Jvm.Cond.code ({ cls := "KeyParameter", name := "<init>", desc := "(I)V" } : Jvm.MethodName) prog_4_method_3_code (2 : Nat) (Option.none : Option Jvm.ClassFile.FieldType)) ∈ lw_all := lw_g (lw_at lw_m1 87 rfl) rfl
theorem q96 : (Jvm.Cond.methodLink "KeyParameter" (20 : Nat) ({ cls := "java/lang/Object", name := "<init>", desc := "()V" } : Jvm.MethodName)) ∈ lw_all := lw_g (lw_at lw_m1 88 rfl) rfl
theorem q97 : (Jvm.Cond.fieldLink "KeyParameter" (10 : Nat) "KeyParameter" "key" "[B") ∈ lw_all := lw_g (lw_at lw_m1 89 rfl) rfl
theorem q98 : (Jvm.Cond.lays "KeyParameter" "KeyParameter" "key" "[B") ∈ lw_all := lw_g (lw_at lw_m1 90 rfl) rfl
theorem q99 : (Jvm.Cond.soleField "KeyParameter" "key") ∈ lw_all := lw_g (lw_at lw_m1 91 rfl) rfl
theorem q100 : (Jvm.Cond.superclass "KeyParameter" "java/lang/Object") ∈ lw_all := lw_g (lw_at lw_m1 92 rfl) rfl
theorem q101 : (Jvm.Cond.methodLink "KeyParameter" (14 : Nat) ({ cls := "java/lang/System", name := "arraycopy", desc := "(Ljava/lang/Object;ILjava/lang/Object;II)V" } : Jvm.MethodName)) ∈ lw_all := lw_g (lw_at lw_m1 93 rfl) rfl
theorem q184 : (Jvm.Cond.instanceMethod ({ cls := "KeyParameter", name := "getKey", desc := "()[B" } : Jvm.MethodName)) ∈ lw_all := lw_g (lw_at lw_m1 176 rfl) rfl
theorem q185 : (Jvm.Cond.selects "KeyParameter" ({ cls := "KeyParameter", name := "getKey", desc := "()[B" } : Jvm.MethodName) ({ cls := "KeyParameter", name := "getKey", desc := "()[B" } : Jvm.MethodName)) ∈ lw_all := lw_g (lw_at lw_m1 177 rfl) rfl
theorem q186 : (Jvm.Cond.code ({ cls := "KeyParameter", name := "getKey", desc := "()[B" } : Jvm.MethodName) prog_4_method_4_code (1 : Nat) (Option.some (Jvm.ClassFile.FieldType.array Jvm.ClassFile.FieldType.byte))) ∈ lw_all := lw_g (lw_at lw_m1 178 rfl) rfl
theorem in_X3 : ∀ w ∈ wsX30, w ∈ lw_all := lw_in wsX30 [98] (by decide +kernel) (by decide +kernel)
end
section
/-! SkipjackDeskModel -/
set_option maxRecDepth 100000
def RX1 : String := "SkipjackDeskModel"
def TX1 : u_T := fun k => match k with
  | 0 => ("SkipjackDeskModel", "key", "[I", true)
  | 1 => ("SkipjackDeskModel", "block", "[I", true)
  | _ => ("SkipjackDeskModel", "out", "[I", true)
def tyX1 : Nat → FieldType := fun k => match k with
  | 0 => .array .int
  | 1 => .array .int
  | _ => .array .int
abbrev wsX10 : List Cond := u_ws RX1 TX1 3
theorem nmX1 : ∀ a, a < 3 → ∀ b, b < 3 → a ≠ b → (TX1 a).2.1 ≠ (TX1 b).2.1 := by decide +kernel
theorem tyX1_ok : ∀ k, k < 3 → parseFieldDescriptor (TX1 k).2.2.1 = some (tyX1 k) := by decide +kernel
abbrev cX1_init : ByteArray := prog_9_method_1_code
def yX1_init : MethodName := ⟨RX1, "<init>", "()V"⟩
def dkwX1_init_1 : List UInt8 := [188, 10, 181, 0, 16, 177]
abbrev dktX1_init_1 : List UInt8 := dkwX1_init_1 ++ []
def dkwX1_init_0 : List UInt8 := [42, 183, 0, 1, 42, 16, 32, 188, 10, 181, 0, 7, 42, 16, 8, 188, 10, 181, 0, 13, 42, 16, 8]
abbrev dktX1_init_0 : List UInt8 := dkwX1_init_0 ++ dktX1_init_1
theorem dksX1_init_0 : cX1_init.data.toList.drop 0 = dktX1_init_0 := by decide +kernel
theorem dksX1_init_1 : cX1_init.data.toList.drop 23 = dktX1_init_1 := dk_seg dksX1_init_0 23 rfl rfl
theorem dX1_init_0 : decode cX1_init 0 = .ok (.aload_n 0, 1) := dk_42 (dk_at dksX1_init_0 0 rfl rfl)
theorem dX1_init_1 : decode cX1_init 1 = .ok (.invokespecial 1, 3) := dk_183 0 1 (dk_at dksX1_init_0 1 rfl rfl)
theorem dX1_init_4 : decode cX1_init 4 = .ok (.aload_n 0, 1) := dk_42 (dk_at dksX1_init_0 4 rfl rfl)
theorem dX1_init_5 : decode cX1_init 5 = .ok (.bipush 32, 2) := dk_16 32 (dk_at dksX1_init_0 5 rfl rfl)
theorem dX1_init_7 : decode cX1_init 7 = .ok (.newarray .int, 2) := dk_188_10 (dk_at dksX1_init_0 7 rfl rfl)
theorem dX1_init_9 : decode cX1_init 9 = .ok (.putfield 7, 3) := dk_181 0 7 (dk_at dksX1_init_0 9 rfl rfl)
theorem dX1_init_12 : decode cX1_init 12 = .ok (.aload_n 0, 1) := dk_42 (dk_at dksX1_init_0 12 rfl rfl)
theorem dX1_init_13 : decode cX1_init 13 = .ok (.bipush 8, 2) := dk_16 8 (dk_at dksX1_init_0 13 rfl rfl)
theorem dX1_init_15 : decode cX1_init 15 = .ok (.newarray .int, 2) := dk_188_10 (dk_at dksX1_init_0 15 rfl rfl)
theorem dX1_init_17 : decode cX1_init 17 = .ok (.putfield 13, 3) := dk_181 0 13 (dk_at dksX1_init_0 17 rfl rfl)
theorem dX1_init_20 : decode cX1_init 20 = .ok (.aload_n 0, 1) := dk_42 (dk_at dksX1_init_0 20 rfl rfl)
theorem dX1_init_21 : decode cX1_init 21 = .ok (.bipush 8, 2) := dk_16 8 (dk_at dksX1_init_0 21 rfl rfl)
theorem dX1_init_23 : decode cX1_init 23 = .ok (.newarray .int, 2) := dk_188_10 (dk_at dksX1_init_1 0 rfl rfl)
theorem dX1_init_25 : decode cX1_init 25 = .ok (.putfield 16, 3) := dk_181 0 16 (dk_at dksX1_init_1 2 rfl rfl)
theorem dX1_init_28 : decode cX1_init 28 = .ok (.return_, 1) := dk_177 (dk_at dksX1_init_1 5 rfl rfl)
abbrev cX1_key : ByteArray := prog_9_method_3_code
def yX1_key : MethodName := ⟨RX1, "key", "(IIIII)V"⟩
def dkwX1_key_2 : List UInt8 := [21, 6, 16, 12, 96, 21, 5, 184, 0, 19, 177]
abbrev dktX1_key_2 : List UInt8 := dkwX1_key_2 ++ []
def dkwX1_key_1 : List UInt8 := [96, 29, 184, 0, 19, 42, 180, 0, 7, 21, 6, 16, 8, 96, 21, 4, 184, 0, 19, 42, 180, 0, 7]
abbrev dktX1_key_1 : List UInt8 := dkwX1_key_1 ++ dktX1_key_2
def dkwX1_key_0 : List UInt8 := [27, 4, 126, 7, 120, 54, 6, 42, 180, 0, 7, 21, 6, 28, 184, 0, 19, 42, 180, 0, 7, 21, 6, 7]
abbrev dktX1_key_0 : List UInt8 := dkwX1_key_0 ++ dktX1_key_1
theorem dksX1_key_0 : cX1_key.data.toList.drop 0 = dktX1_key_0 := by decide +kernel
theorem dksX1_key_1 : cX1_key.data.toList.drop 24 = dktX1_key_1 := dk_seg dksX1_key_0 24 rfl rfl
theorem dksX1_key_2 : cX1_key.data.toList.drop 47 = dktX1_key_2 := dk_seg dksX1_key_1 23 rfl rfl
theorem dX1_key_0 : decode cX1_key 0 = .ok (.iload_n 1, 1) := dk_27 (dk_at dksX1_key_0 0 rfl rfl)
theorem dX1_key_1 : decode cX1_key 1 = .ok (.iconst 1, 1) := dk_4 (dk_at dksX1_key_0 1 rfl rfl)
theorem dX1_key_2 : decode cX1_key 2 = .ok (.iand, 1) := dk_126 (dk_at dksX1_key_0 2 rfl rfl)
theorem dX1_key_3 : decode cX1_key 3 = .ok (.iconst 4, 1) := dk_7 (dk_at dksX1_key_0 3 rfl rfl)
theorem dX1_key_4 : decode cX1_key 4 = .ok (.ishl, 1) := dk_120 (dk_at dksX1_key_0 4 rfl rfl)
theorem dX1_key_5 : decode cX1_key 5 = .ok (.istore 6, 2) := dk_54 6 (dk_at dksX1_key_0 5 rfl rfl)
theorem dX1_key_7 : decode cX1_key 7 = .ok (.aload_n 0, 1) := dk_42 (dk_at dksX1_key_0 7 rfl rfl)
theorem dX1_key_8 : decode cX1_key 8 = .ok (.getfield 7, 3) := dk_180 0 7 (dk_at dksX1_key_0 8 rfl rfl)
theorem dX1_key_11 : decode cX1_key 11 = .ok (.iload 6, 2) := dk_21 6 (dk_at dksX1_key_0 11 rfl rfl)
theorem dX1_key_13 : decode cX1_key 13 = .ok (.iload_n 2, 1) := dk_28 (dk_at dksX1_key_0 13 rfl rfl)
theorem dX1_key_14 : decode cX1_key 14 = .ok (.invokestatic 19, 3) := dk_184 0 19 (dk_at dksX1_key_0 14 rfl rfl)
theorem dX1_key_17 : decode cX1_key 17 = .ok (.aload_n 0, 1) := dk_42 (dk_at dksX1_key_0 17 rfl rfl)
theorem dX1_key_18 : decode cX1_key 18 = .ok (.getfield 7, 3) := dk_180 0 7 (dk_at dksX1_key_0 18 rfl rfl)
theorem dX1_key_21 : decode cX1_key 21 = .ok (.iload 6, 2) := dk_21 6 (dk_at dksX1_key_0 21 rfl rfl)
theorem dX1_key_23 : decode cX1_key 23 = .ok (.iconst 4, 1) := dk_7 (dk_at dksX1_key_0 23 rfl rfl)
theorem dX1_key_24 : decode cX1_key 24 = .ok (.iadd, 1) := dk_96 (dk_at dksX1_key_1 0 rfl rfl)
theorem dX1_key_25 : decode cX1_key 25 = .ok (.iload_n 3, 1) := dk_29 (dk_at dksX1_key_1 1 rfl rfl)
theorem dX1_key_26 : decode cX1_key 26 = .ok (.invokestatic 19, 3) := dk_184 0 19 (dk_at dksX1_key_1 2 rfl rfl)
theorem dX1_key_29 : decode cX1_key 29 = .ok (.aload_n 0, 1) := dk_42 (dk_at dksX1_key_1 5 rfl rfl)
theorem dX1_key_30 : decode cX1_key 30 = .ok (.getfield 7, 3) := dk_180 0 7 (dk_at dksX1_key_1 6 rfl rfl)
theorem dX1_key_33 : decode cX1_key 33 = .ok (.iload 6, 2) := dk_21 6 (dk_at dksX1_key_1 9 rfl rfl)
theorem dX1_key_35 : decode cX1_key 35 = .ok (.bipush 8, 2) := dk_16 8 (dk_at dksX1_key_1 11 rfl rfl)
theorem dX1_key_37 : decode cX1_key 37 = .ok (.iadd, 1) := dk_96 (dk_at dksX1_key_1 13 rfl rfl)
theorem dX1_key_38 : decode cX1_key 38 = .ok (.iload 4, 2) := dk_21 4 (dk_at dksX1_key_1 14 rfl rfl)
theorem dX1_key_40 : decode cX1_key 40 = .ok (.invokestatic 19, 3) := dk_184 0 19 (dk_at dksX1_key_1 16 rfl rfl)
theorem dX1_key_43 : decode cX1_key 43 = .ok (.aload_n 0, 1) := dk_42 (dk_at dksX1_key_1 19 rfl rfl)
theorem dX1_key_44 : decode cX1_key 44 = .ok (.getfield 7, 3) := dk_180 0 7 (dk_at dksX1_key_1 20 rfl rfl)
theorem dX1_key_47 : decode cX1_key 47 = .ok (.iload 6, 2) := dk_21 6 (dk_at dksX1_key_2 0 rfl rfl)
theorem dX1_key_49 : decode cX1_key 49 = .ok (.bipush 12, 2) := dk_16 12 (dk_at dksX1_key_2 2 rfl rfl)
theorem dX1_key_51 : decode cX1_key 51 = .ok (.iadd, 1) := dk_96 (dk_at dksX1_key_2 4 rfl rfl)
theorem dX1_key_52 : decode cX1_key 52 = .ok (.iload 5, 2) := dk_21 5 (dk_at dksX1_key_2 5 rfl rfl)
theorem dX1_key_54 : decode cX1_key 54 = .ok (.invokestatic 19, 3) := dk_184 0 19 (dk_at dksX1_key_2 7 rfl rfl)
theorem dX1_key_57 : decode cX1_key 57 = .ok (.return_, 1) := dk_177 (dk_at dksX1_key_2 10 rfl rfl)
abbrev cX1_word : ByteArray := prog_9_method_2_code
def yX1_word : MethodName := ⟨RX1, "word", "([III)V"⟩
def dkwX1_word_1 : List UInt8 := [79, 132, 3, 1, 167, 255, 230, 177]
abbrev dktX1_word_1 : List UInt8 := dkwX1_word_1 ++ []
def dkwX1_word_0 : List UInt8 := [3, 62, 29, 7, 162, 0, 27, 42, 27, 29, 96, 28, 16, 24, 16, 8, 29, 104, 100, 122, 17, 0, 255, 126]
abbrev dktX1_word_0 : List UInt8 := dkwX1_word_0 ++ dktX1_word_1
theorem dksX1_word_0 : cX1_word.data.toList.drop 0 = dktX1_word_0 := by decide +kernel
theorem dksX1_word_1 : cX1_word.data.toList.drop 24 = dktX1_word_1 := dk_seg dksX1_word_0 24 rfl rfl
theorem dX1_word_0 : decode cX1_word 0 = .ok (.iconst 0, 1) := dk_3 (dk_at dksX1_word_0 0 rfl rfl)
theorem dX1_word_1 : decode cX1_word 1 = .ok (.istore_n 3, 1) := dk_62 (dk_at dksX1_word_0 1 rfl rfl)
theorem dX1_word_2 : decode cX1_word 2 = .ok (.iload_n 3, 1) := dk_29 (dk_at dksX1_word_0 2 rfl rfl)
theorem dX1_word_3 : decode cX1_word 3 = .ok (.iconst 4, 1) := dk_7 (dk_at dksX1_word_0 3 rfl rfl)
theorem dX1_word_4 : decode cX1_word 4 = .ok (.if_icmp .ge 27, 3) := dk_162 0 27 (dk_at dksX1_word_0 4 rfl rfl)
theorem dX1_word_7 : decode cX1_word 7 = .ok (.aload_n 0, 1) := dk_42 (dk_at dksX1_word_0 7 rfl rfl)
theorem dX1_word_8 : decode cX1_word 8 = .ok (.iload_n 1, 1) := dk_27 (dk_at dksX1_word_0 8 rfl rfl)
theorem dX1_word_9 : decode cX1_word 9 = .ok (.iload_n 3, 1) := dk_29 (dk_at dksX1_word_0 9 rfl rfl)
theorem dX1_word_10 : decode cX1_word 10 = .ok (.iadd, 1) := dk_96 (dk_at dksX1_word_0 10 rfl rfl)
theorem dX1_word_11 : decode cX1_word 11 = .ok (.iload_n 2, 1) := dk_28 (dk_at dksX1_word_0 11 rfl rfl)
theorem dX1_word_12 : decode cX1_word 12 = .ok (.bipush 24, 2) := dk_16 24 (dk_at dksX1_word_0 12 rfl rfl)
theorem dX1_word_14 : decode cX1_word 14 = .ok (.bipush 8, 2) := dk_16 8 (dk_at dksX1_word_0 14 rfl rfl)
theorem dX1_word_16 : decode cX1_word 16 = .ok (.iload_n 3, 1) := dk_29 (dk_at dksX1_word_0 16 rfl rfl)
theorem dX1_word_17 : decode cX1_word 17 = .ok (.imul, 1) := dk_104 (dk_at dksX1_word_0 17 rfl rfl)
theorem dX1_word_18 : decode cX1_word 18 = .ok (.isub, 1) := dk_100 (dk_at dksX1_word_0 18 rfl rfl)
theorem dX1_word_19 : decode cX1_word 19 = .ok (.ishr, 1) := dk_122 (dk_at dksX1_word_0 19 rfl rfl)
theorem dX1_word_20 : decode cX1_word 20 = .ok (.sipush 255, 3) := dk_17 0 255 (dk_at dksX1_word_0 20 rfl rfl)
theorem dX1_word_23 : decode cX1_word 23 = .ok (.iand, 1) := dk_126 (dk_at dksX1_word_0 23 rfl rfl)
theorem dX1_word_24 : decode cX1_word 24 = .ok (.iastore, 1) := dk_79 (dk_at dksX1_word_1 0 rfl rfl)
theorem dX1_word_25 : decode cX1_word 25 = .ok (.iinc 3 1, 3) := dk_132 3 1 (dk_at dksX1_word_1 1 rfl rfl)
theorem dX1_word_28 : decode cX1_word 28 = .ok (.goto (-26), 3) := dk_167 255 230 (dk_at dksX1_word_1 4 rfl rfl)
theorem dX1_word_31 : decode cX1_word 31 = .ok (.return_, 1) := dk_177 (dk_at dksX1_word_1 7 rfl rfl)
abbrev cX1_block : ByteArray := prog_9_method_4_code
def yX1_block : MethodName := ⟨RX1, "block", "(II)V"⟩
def dkwX1_block_0 : List UInt8 := [42, 180, 0, 13, 3, 27, 184, 0, 19, 42, 180, 0, 13, 7, 28, 184, 0, 19, 177]
abbrev dktX1_block_0 : List UInt8 := dkwX1_block_0 ++ []
theorem dksX1_block_0 : cX1_block.data.toList.drop 0 = dktX1_block_0 := by decide +kernel
theorem dX1_block_0 : decode cX1_block 0 = .ok (.aload_n 0, 1) := dk_42 (dk_at dksX1_block_0 0 rfl rfl)
theorem dX1_block_1 : decode cX1_block 1 = .ok (.getfield 13, 3) := dk_180 0 13 (dk_at dksX1_block_0 1 rfl rfl)
theorem dX1_block_4 : decode cX1_block 4 = .ok (.iconst 0, 1) := dk_3 (dk_at dksX1_block_0 4 rfl rfl)
theorem dX1_block_5 : decode cX1_block 5 = .ok (.iload_n 1, 1) := dk_27 (dk_at dksX1_block_0 5 rfl rfl)
theorem dX1_block_6 : decode cX1_block 6 = .ok (.invokestatic 19, 3) := dk_184 0 19 (dk_at dksX1_block_0 6 rfl rfl)
theorem dX1_block_9 : decode cX1_block 9 = .ok (.aload_n 0, 1) := dk_42 (dk_at dksX1_block_0 9 rfl rfl)
theorem dX1_block_10 : decode cX1_block 10 = .ok (.getfield 13, 3) := dk_180 0 13 (dk_at dksX1_block_0 10 rfl rfl)
theorem dX1_block_13 : decode cX1_block 13 = .ok (.iconst 4, 1) := dk_7 (dk_at dksX1_block_0 13 rfl rfl)
theorem dX1_block_14 : decode cX1_block 14 = .ok (.iload_n 2, 1) := dk_28 (dk_at dksX1_block_0 14 rfl rfl)
theorem dX1_block_15 : decode cX1_block 15 = .ok (.invokestatic 19, 3) := dk_184 0 19 (dk_at dksX1_block_0 15 rfl rfl)
theorem dX1_block_18 : decode cX1_block 18 = .ok (.return_, 1) := dk_177 (dk_at dksX1_block_0 18 rfl rfl)
abbrev cX1_lock : ByteArray := prog_9_method_10_code
def yX1_lock : MethodName := ⟨RX1, "lock", "(I)V"⟩
def dkwX1_lock_4 : List UInt8 := [21, 6, 79, 132, 3, 1, 167, 255, 162, 42, 44, 182, 0, 38, 177]
abbrev dktX1_lock_4 : List UInt8 := dkwX1_lock_4 ++ []
def dkwX1_lock_3 : List UInt8 := [21, 5, 130, 54, 7, 44, 6, 44, 5, 46, 79, 44, 5, 21, 7, 79, 44, 4, 21, 4, 79, 44, 3]
abbrev dktX1_lock_3 : List UInt8 := dkwX1_lock_3 ++ dktX1_lock_4
def dkwX1_lock_2 : List UInt8 := [6, 46, 54, 6, 29, 184, 0, 34, 153, 0, 9, 44, 4, 46, 167, 0, 13, 44, 3, 46, 44, 4, 46, 130]
abbrev dktX1_lock_2 : List UInt8 := dkwX1_lock_2 ++ dktX1_lock_3
def dkwX1_lock_1 : List UInt8 := [4, 96, 54, 5, 29, 184, 0, 34, 153, 0, 15, 21, 4, 44, 6, 46, 130, 21, 5, 130, 167, 0, 6, 44]
abbrev dktX1_lock_1 : List UInt8 := dkwX1_lock_1 ++ dktX1_lock_2
def dkwX1_lock_0 : List UInt8 := [42, 182, 0, 26, 77, 3, 62, 29, 16, 32, 162, 0, 94, 42, 44, 3, 46, 29, 182, 0, 30, 54, 4, 29]
abbrev dktX1_lock_0 : List UInt8 := dkwX1_lock_0 ++ dktX1_lock_1
theorem dksX1_lock_0 : cX1_lock.data.toList.drop 0 = dktX1_lock_0 := by decide +kernel
theorem dksX1_lock_1 : cX1_lock.data.toList.drop 24 = dktX1_lock_1 := dk_seg dksX1_lock_0 24 rfl rfl
theorem dksX1_lock_2 : cX1_lock.data.toList.drop 48 = dktX1_lock_2 := dk_seg dksX1_lock_1 24 rfl rfl
theorem dksX1_lock_3 : cX1_lock.data.toList.drop 72 = dktX1_lock_3 := dk_seg dksX1_lock_2 24 rfl rfl
theorem dksX1_lock_4 : cX1_lock.data.toList.drop 95 = dktX1_lock_4 := dk_seg dksX1_lock_3 23 rfl rfl
theorem dX1_lock_0 : decode cX1_lock 0 = .ok (.aload_n 0, 1) := dk_42 (dk_at dksX1_lock_0 0 rfl rfl)
theorem dX1_lock_1 : decode cX1_lock 1 = .ok (.invokevirtual 26, 3) := dk_182 0 26 (dk_at dksX1_lock_0 1 rfl rfl)
theorem dX1_lock_4 : decode cX1_lock 4 = .ok (.astore_n 2, 1) := dk_77 (dk_at dksX1_lock_0 4 rfl rfl)
theorem dX1_lock_5 : decode cX1_lock 5 = .ok (.iconst 0, 1) := dk_3 (dk_at dksX1_lock_0 5 rfl rfl)
theorem dX1_lock_6 : decode cX1_lock 6 = .ok (.istore_n 3, 1) := dk_62 (dk_at dksX1_lock_0 6 rfl rfl)
theorem dX1_lock_7 : decode cX1_lock 7 = .ok (.iload_n 3, 1) := dk_29 (dk_at dksX1_lock_0 7 rfl rfl)
theorem dX1_lock_8 : decode cX1_lock 8 = .ok (.bipush 32, 2) := dk_16 32 (dk_at dksX1_lock_0 8 rfl rfl)
theorem dX1_lock_10 : decode cX1_lock 10 = .ok (.if_icmp .ge 94, 3) := dk_162 0 94 (dk_at dksX1_lock_0 10 rfl rfl)
theorem dX1_lock_13 : decode cX1_lock 13 = .ok (.aload_n 0, 1) := dk_42 (dk_at dksX1_lock_0 13 rfl rfl)
theorem dX1_lock_14 : decode cX1_lock 14 = .ok (.aload_n 2, 1) := dk_44 (dk_at dksX1_lock_0 14 rfl rfl)
theorem dX1_lock_15 : decode cX1_lock 15 = .ok (.iconst 0, 1) := dk_3 (dk_at dksX1_lock_0 15 rfl rfl)
theorem dX1_lock_16 : decode cX1_lock 16 = .ok (.iaload, 1) := dk_46 (dk_at dksX1_lock_0 16 rfl rfl)
theorem dX1_lock_17 : decode cX1_lock 17 = .ok (.iload_n 3, 1) := dk_29 (dk_at dksX1_lock_0 17 rfl rfl)
theorem dX1_lock_18 : decode cX1_lock 18 = .ok (.invokevirtual 30, 3) := dk_182 0 30 (dk_at dksX1_lock_0 18 rfl rfl)
theorem dX1_lock_21 : decode cX1_lock 21 = .ok (.istore 4, 2) := dk_54 4 (dk_at dksX1_lock_0 21 rfl rfl)
theorem dX1_lock_23 : decode cX1_lock 23 = .ok (.iload_n 3, 1) := dk_29 (dk_at dksX1_lock_0 23 rfl rfl)
theorem dX1_lock_24 : decode cX1_lock 24 = .ok (.iconst 1, 1) := dk_4 (dk_at dksX1_lock_1 0 rfl rfl)
theorem dX1_lock_25 : decode cX1_lock 25 = .ok (.iadd, 1) := dk_96 (dk_at dksX1_lock_1 1 rfl rfl)
theorem dX1_lock_26 : decode cX1_lock 26 = .ok (.istore 5, 2) := dk_54 5 (dk_at dksX1_lock_1 2 rfl rfl)
theorem dX1_lock_28 : decode cX1_lock 28 = .ok (.iload_n 3, 1) := dk_29 (dk_at dksX1_lock_1 4 rfl rfl)
theorem dX1_lock_29 : decode cX1_lock 29 = .ok (.invokestatic 34, 3) := dk_184 0 34 (dk_at dksX1_lock_1 5 rfl rfl)
theorem dX1_lock_32 : decode cX1_lock 32 = .ok (.ifCond .eq 15, 3) := dk_153 0 15 (dk_at dksX1_lock_1 8 rfl rfl)
theorem dX1_lock_35 : decode cX1_lock 35 = .ok (.iload 4, 2) := dk_21 4 (dk_at dksX1_lock_1 11 rfl rfl)
theorem dX1_lock_37 : decode cX1_lock 37 = .ok (.aload_n 2, 1) := dk_44 (dk_at dksX1_lock_1 13 rfl rfl)
theorem dX1_lock_38 : decode cX1_lock 38 = .ok (.iconst 3, 1) := dk_6 (dk_at dksX1_lock_1 14 rfl rfl)
theorem dX1_lock_39 : decode cX1_lock 39 = .ok (.iaload, 1) := dk_46 (dk_at dksX1_lock_1 15 rfl rfl)
theorem dX1_lock_40 : decode cX1_lock 40 = .ok (.ixor, 1) := dk_130 (dk_at dksX1_lock_1 16 rfl rfl)
theorem dX1_lock_41 : decode cX1_lock 41 = .ok (.iload 5, 2) := dk_21 5 (dk_at dksX1_lock_1 17 rfl rfl)
theorem dX1_lock_43 : decode cX1_lock 43 = .ok (.ixor, 1) := dk_130 (dk_at dksX1_lock_1 19 rfl rfl)
theorem dX1_lock_44 : decode cX1_lock 44 = .ok (.goto 6, 3) := dk_167 0 6 (dk_at dksX1_lock_1 20 rfl rfl)
theorem dX1_lock_47 : decode cX1_lock 47 = .ok (.aload_n 2, 1) := dk_44 (dk_at dksX1_lock_1 23 rfl rfl)
theorem dX1_lock_48 : decode cX1_lock 48 = .ok (.iconst 3, 1) := dk_6 (dk_at dksX1_lock_2 0 rfl rfl)
theorem dX1_lock_49 : decode cX1_lock 49 = .ok (.iaload, 1) := dk_46 (dk_at dksX1_lock_2 1 rfl rfl)
theorem dX1_lock_50 : decode cX1_lock 50 = .ok (.istore 6, 2) := dk_54 6 (dk_at dksX1_lock_2 2 rfl rfl)
theorem dX1_lock_52 : decode cX1_lock 52 = .ok (.iload_n 3, 1) := dk_29 (dk_at dksX1_lock_2 4 rfl rfl)
theorem dX1_lock_53 : decode cX1_lock 53 = .ok (.invokestatic 34, 3) := dk_184 0 34 (dk_at dksX1_lock_2 5 rfl rfl)
theorem dX1_lock_56 : decode cX1_lock 56 = .ok (.ifCond .eq 9, 3) := dk_153 0 9 (dk_at dksX1_lock_2 8 rfl rfl)
theorem dX1_lock_59 : decode cX1_lock 59 = .ok (.aload_n 2, 1) := dk_44 (dk_at dksX1_lock_2 11 rfl rfl)
theorem dX1_lock_60 : decode cX1_lock 60 = .ok (.iconst 1, 1) := dk_4 (dk_at dksX1_lock_2 12 rfl rfl)
theorem dX1_lock_61 : decode cX1_lock 61 = .ok (.iaload, 1) := dk_46 (dk_at dksX1_lock_2 13 rfl rfl)
theorem dX1_lock_62 : decode cX1_lock 62 = .ok (.goto 13, 3) := dk_167 0 13 (dk_at dksX1_lock_2 14 rfl rfl)
theorem dX1_lock_65 : decode cX1_lock 65 = .ok (.aload_n 2, 1) := dk_44 (dk_at dksX1_lock_2 17 rfl rfl)
theorem dX1_lock_66 : decode cX1_lock 66 = .ok (.iconst 0, 1) := dk_3 (dk_at dksX1_lock_2 18 rfl rfl)
theorem dX1_lock_67 : decode cX1_lock 67 = .ok (.iaload, 1) := dk_46 (dk_at dksX1_lock_2 19 rfl rfl)
theorem dX1_lock_68 : decode cX1_lock 68 = .ok (.aload_n 2, 1) := dk_44 (dk_at dksX1_lock_2 20 rfl rfl)
theorem dX1_lock_69 : decode cX1_lock 69 = .ok (.iconst 1, 1) := dk_4 (dk_at dksX1_lock_2 21 rfl rfl)
theorem dX1_lock_70 : decode cX1_lock 70 = .ok (.iaload, 1) := dk_46 (dk_at dksX1_lock_2 22 rfl rfl)
theorem dX1_lock_71 : decode cX1_lock 71 = .ok (.ixor, 1) := dk_130 (dk_at dksX1_lock_2 23 rfl rfl)
theorem dX1_lock_72 : decode cX1_lock 72 = .ok (.iload 5, 2) := dk_21 5 (dk_at dksX1_lock_3 0 rfl rfl)
theorem dX1_lock_74 : decode cX1_lock 74 = .ok (.ixor, 1) := dk_130 (dk_at dksX1_lock_3 2 rfl rfl)
theorem dX1_lock_75 : decode cX1_lock 75 = .ok (.istore 7, 2) := dk_54 7 (dk_at dksX1_lock_3 3 rfl rfl)
theorem dX1_lock_77 : decode cX1_lock 77 = .ok (.aload_n 2, 1) := dk_44 (dk_at dksX1_lock_3 5 rfl rfl)
theorem dX1_lock_78 : decode cX1_lock 78 = .ok (.iconst 3, 1) := dk_6 (dk_at dksX1_lock_3 6 rfl rfl)
theorem dX1_lock_79 : decode cX1_lock 79 = .ok (.aload_n 2, 1) := dk_44 (dk_at dksX1_lock_3 7 rfl rfl)
theorem dX1_lock_80 : decode cX1_lock 80 = .ok (.iconst 2, 1) := dk_5 (dk_at dksX1_lock_3 8 rfl rfl)
theorem dX1_lock_81 : decode cX1_lock 81 = .ok (.iaload, 1) := dk_46 (dk_at dksX1_lock_3 9 rfl rfl)
theorem dX1_lock_82 : decode cX1_lock 82 = .ok (.iastore, 1) := dk_79 (dk_at dksX1_lock_3 10 rfl rfl)
theorem dX1_lock_83 : decode cX1_lock 83 = .ok (.aload_n 2, 1) := dk_44 (dk_at dksX1_lock_3 11 rfl rfl)
theorem dX1_lock_84 : decode cX1_lock 84 = .ok (.iconst 2, 1) := dk_5 (dk_at dksX1_lock_3 12 rfl rfl)
theorem dX1_lock_85 : decode cX1_lock 85 = .ok (.iload 7, 2) := dk_21 7 (dk_at dksX1_lock_3 13 rfl rfl)
theorem dX1_lock_87 : decode cX1_lock 87 = .ok (.iastore, 1) := dk_79 (dk_at dksX1_lock_3 15 rfl rfl)
theorem dX1_lock_88 : decode cX1_lock 88 = .ok (.aload_n 2, 1) := dk_44 (dk_at dksX1_lock_3 16 rfl rfl)
theorem dX1_lock_89 : decode cX1_lock 89 = .ok (.iconst 1, 1) := dk_4 (dk_at dksX1_lock_3 17 rfl rfl)
theorem dX1_lock_90 : decode cX1_lock 90 = .ok (.iload 4, 2) := dk_21 4 (dk_at dksX1_lock_3 18 rfl rfl)
theorem dX1_lock_92 : decode cX1_lock 92 = .ok (.iastore, 1) := dk_79 (dk_at dksX1_lock_3 20 rfl rfl)
theorem dX1_lock_93 : decode cX1_lock 93 = .ok (.aload_n 2, 1) := dk_44 (dk_at dksX1_lock_3 21 rfl rfl)
theorem dX1_lock_94 : decode cX1_lock 94 = .ok (.iconst 0, 1) := dk_3 (dk_at dksX1_lock_3 22 rfl rfl)
theorem dX1_lock_95 : decode cX1_lock 95 = .ok (.iload 6, 2) := dk_21 6 (dk_at dksX1_lock_4 0 rfl rfl)
theorem dX1_lock_97 : decode cX1_lock 97 = .ok (.iastore, 1) := dk_79 (dk_at dksX1_lock_4 2 rfl rfl)
theorem dX1_lock_98 : decode cX1_lock 98 = .ok (.iinc 3 1, 3) := dk_132 3 1 (dk_at dksX1_lock_4 3 rfl rfl)
theorem dX1_lock_101 : decode cX1_lock 101 = .ok (.goto (-94), 3) := dk_167 255 162 (dk_at dksX1_lock_4 6 rfl rfl)
theorem dX1_lock_104 : decode cX1_lock 104 = .ok (.aload_n 0, 1) := dk_42 (dk_at dksX1_lock_4 9 rfl rfl)
theorem dX1_lock_105 : decode cX1_lock 105 = .ok (.aload_n 2, 1) := dk_44 (dk_at dksX1_lock_4 10 rfl rfl)
theorem dX1_lock_106 : decode cX1_lock 106 = .ok (.invokevirtual 38, 3) := dk_182 0 38 (dk_at dksX1_lock_4 11 rfl rfl)
theorem dX1_lock_109 : decode cX1_lock 109 = .ok (.return_, 1) := dk_177 (dk_at dksX1_lock_4 14 rfl rfl)
abbrev cX1_words : ByteArray := prog_9_method_7_code
def yX1_words : MethodName := ⟨RX1, "words", "()[I"⟩
def dkwX1_words_1 : List UInt8 := [42, 180, 0, 13, 5, 28, 104, 4, 96, 46, 128, 79, 132, 2, 1, 167, 255, 223, 43, 176]
abbrev dktX1_words_1 : List UInt8 := dkwX1_words_1 ++ []
def dkwX1_words_0 : List UInt8 := [7, 188, 10, 76, 3, 61, 28, 7, 162, 0, 34, 43, 28, 42, 180, 0, 13, 5, 28, 104, 46, 16, 8, 120]
abbrev dktX1_words_0 : List UInt8 := dkwX1_words_0 ++ dktX1_words_1
theorem dksX1_words_0 : cX1_words.data.toList.drop 0 = dktX1_words_0 := by decide +kernel
theorem dksX1_words_1 : cX1_words.data.toList.drop 24 = dktX1_words_1 := dk_seg dksX1_words_0 24 rfl rfl
theorem dX1_words_0 : decode cX1_words 0 = .ok (.iconst 4, 1) := dk_7 (dk_at dksX1_words_0 0 rfl rfl)
theorem dX1_words_1 : decode cX1_words 1 = .ok (.newarray .int, 2) := dk_188_10 (dk_at dksX1_words_0 1 rfl rfl)
theorem dX1_words_3 : decode cX1_words 3 = .ok (.astore_n 1, 1) := dk_76 (dk_at dksX1_words_0 3 rfl rfl)
theorem dX1_words_4 : decode cX1_words 4 = .ok (.iconst 0, 1) := dk_3 (dk_at dksX1_words_0 4 rfl rfl)
theorem dX1_words_5 : decode cX1_words 5 = .ok (.istore_n 2, 1) := dk_61 (dk_at dksX1_words_0 5 rfl rfl)
theorem dX1_words_6 : decode cX1_words 6 = .ok (.iload_n 2, 1) := dk_28 (dk_at dksX1_words_0 6 rfl rfl)
theorem dX1_words_7 : decode cX1_words 7 = .ok (.iconst 4, 1) := dk_7 (dk_at dksX1_words_0 7 rfl rfl)
theorem dX1_words_8 : decode cX1_words 8 = .ok (.if_icmp .ge 34, 3) := dk_162 0 34 (dk_at dksX1_words_0 8 rfl rfl)
theorem dX1_words_11 : decode cX1_words 11 = .ok (.aload_n 1, 1) := dk_43 (dk_at dksX1_words_0 11 rfl rfl)
theorem dX1_words_12 : decode cX1_words 12 = .ok (.iload_n 2, 1) := dk_28 (dk_at dksX1_words_0 12 rfl rfl)
theorem dX1_words_13 : decode cX1_words 13 = .ok (.aload_n 0, 1) := dk_42 (dk_at dksX1_words_0 13 rfl rfl)
theorem dX1_words_14 : decode cX1_words 14 = .ok (.getfield 13, 3) := dk_180 0 13 (dk_at dksX1_words_0 14 rfl rfl)
theorem dX1_words_17 : decode cX1_words 17 = .ok (.iconst 2, 1) := dk_5 (dk_at dksX1_words_0 17 rfl rfl)
theorem dX1_words_18 : decode cX1_words 18 = .ok (.iload_n 2, 1) := dk_28 (dk_at dksX1_words_0 18 rfl rfl)
theorem dX1_words_19 : decode cX1_words 19 = .ok (.imul, 1) := dk_104 (dk_at dksX1_words_0 19 rfl rfl)
theorem dX1_words_20 : decode cX1_words 20 = .ok (.iaload, 1) := dk_46 (dk_at dksX1_words_0 20 rfl rfl)
theorem dX1_words_21 : decode cX1_words 21 = .ok (.bipush 8, 2) := dk_16 8 (dk_at dksX1_words_0 21 rfl rfl)
theorem dX1_words_23 : decode cX1_words 23 = .ok (.ishl, 1) := dk_120 (dk_at dksX1_words_0 23 rfl rfl)
theorem dX1_words_24 : decode cX1_words 24 = .ok (.aload_n 0, 1) := dk_42 (dk_at dksX1_words_1 0 rfl rfl)
theorem dX1_words_25 : decode cX1_words 25 = .ok (.getfield 13, 3) := dk_180 0 13 (dk_at dksX1_words_1 1 rfl rfl)
theorem dX1_words_28 : decode cX1_words 28 = .ok (.iconst 2, 1) := dk_5 (dk_at dksX1_words_1 4 rfl rfl)
theorem dX1_words_29 : decode cX1_words 29 = .ok (.iload_n 2, 1) := dk_28 (dk_at dksX1_words_1 5 rfl rfl)
theorem dX1_words_30 : decode cX1_words 30 = .ok (.imul, 1) := dk_104 (dk_at dksX1_words_1 6 rfl rfl)
theorem dX1_words_31 : decode cX1_words 31 = .ok (.iconst 1, 1) := dk_4 (dk_at dksX1_words_1 7 rfl rfl)
theorem dX1_words_32 : decode cX1_words 32 = .ok (.iadd, 1) := dk_96 (dk_at dksX1_words_1 8 rfl rfl)
theorem dX1_words_33 : decode cX1_words 33 = .ok (.iaload, 1) := dk_46 (dk_at dksX1_words_1 9 rfl rfl)
theorem dX1_words_34 : decode cX1_words 34 = .ok (.ior, 1) := dk_128 (dk_at dksX1_words_1 10 rfl rfl)
theorem dX1_words_35 : decode cX1_words 35 = .ok (.iastore, 1) := dk_79 (dk_at dksX1_words_1 11 rfl rfl)
theorem dX1_words_36 : decode cX1_words 36 = .ok (.iinc 2 1, 3) := dk_132 2 1 (dk_at dksX1_words_1 12 rfl rfl)
theorem dX1_words_39 : decode cX1_words 39 = .ok (.goto (-33), 3) := dk_167 255 223 (dk_at dksX1_words_1 15 rfl rfl)
theorem dX1_words_42 : decode cX1_words 42 = .ok (.aload_n 1, 1) := dk_43 (dk_at dksX1_words_1 18 rfl rfl)
theorem dX1_words_43 : decode cX1_words 43 = .ok (.areturn, 1) := dk_176 (dk_at dksX1_words_1 19 rfl rfl)
abbrev cX1_g : ByteArray := prog_9_method_5_code
def yX1_g : MethodName := ⟨RX1, "g", "(II)I"⟩
def dkwX1_g_2 : List UInt8 := [62, 21, 6, 54, 4, 132, 5, 1, 167, 255, 215, 29, 16, 8, 120, 21, 4, 128, 172]
abbrev dktX1_g_2 : List UInt8 := dkwX1_g_2 ++ []
def dkwX1_g_1 : List UInt8 := [21, 4, 42, 180, 0, 7, 7, 28, 104, 21, 5, 96, 16, 10, 112, 46, 130, 46, 29, 130, 54, 6, 21, 4]
abbrev dktX1_g_1 : List UInt8 := dkwX1_g_1 ++ dktX1_g_2
def dkwX1_g_0 : List UInt8 := [27, 16, 8, 122, 62, 27, 17, 0, 255, 126, 54, 4, 3, 54, 5, 21, 5, 7, 162, 0, 41, 178, 0, 23]
abbrev dktX1_g_0 : List UInt8 := dkwX1_g_0 ++ dktX1_g_1
theorem dksX1_g_0 : cX1_g.data.toList.drop 0 = dktX1_g_0 := by decide +kernel
theorem dksX1_g_1 : cX1_g.data.toList.drop 24 = dktX1_g_1 := dk_seg dksX1_g_0 24 rfl rfl
theorem dksX1_g_2 : cX1_g.data.toList.drop 48 = dktX1_g_2 := dk_seg dksX1_g_1 24 rfl rfl
theorem dX1_g_0 : decode cX1_g 0 = .ok (.iload_n 1, 1) := dk_27 (dk_at dksX1_g_0 0 rfl rfl)
theorem dX1_g_1 : decode cX1_g 1 = .ok (.bipush 8, 2) := dk_16 8 (dk_at dksX1_g_0 1 rfl rfl)
theorem dX1_g_3 : decode cX1_g 3 = .ok (.ishr, 1) := dk_122 (dk_at dksX1_g_0 3 rfl rfl)
theorem dX1_g_4 : decode cX1_g 4 = .ok (.istore_n 3, 1) := dk_62 (dk_at dksX1_g_0 4 rfl rfl)
theorem dX1_g_5 : decode cX1_g 5 = .ok (.iload_n 1, 1) := dk_27 (dk_at dksX1_g_0 5 rfl rfl)
theorem dX1_g_6 : decode cX1_g 6 = .ok (.sipush 255, 3) := dk_17 0 255 (dk_at dksX1_g_0 6 rfl rfl)
theorem dX1_g_9 : decode cX1_g 9 = .ok (.iand, 1) := dk_126 (dk_at dksX1_g_0 9 rfl rfl)
theorem dX1_g_10 : decode cX1_g 10 = .ok (.istore 4, 2) := dk_54 4 (dk_at dksX1_g_0 10 rfl rfl)
theorem dX1_g_12 : decode cX1_g 12 = .ok (.iconst 0, 1) := dk_3 (dk_at dksX1_g_0 12 rfl rfl)
theorem dX1_g_13 : decode cX1_g 13 = .ok (.istore 5, 2) := dk_54 5 (dk_at dksX1_g_0 13 rfl rfl)
theorem dX1_g_15 : decode cX1_g 15 = .ok (.iload 5, 2) := dk_21 5 (dk_at dksX1_g_0 15 rfl rfl)
theorem dX1_g_17 : decode cX1_g 17 = .ok (.iconst 4, 1) := dk_7 (dk_at dksX1_g_0 17 rfl rfl)
theorem dX1_g_18 : decode cX1_g 18 = .ok (.if_icmp .ge 41, 3) := dk_162 0 41 (dk_at dksX1_g_0 18 rfl rfl)
theorem dX1_g_21 : decode cX1_g 21 = .ok (.getstatic 23, 3) := dk_178 0 23 (dk_at dksX1_g_0 21 rfl rfl)
theorem dX1_g_24 : decode cX1_g 24 = .ok (.iload 4, 2) := dk_21 4 (dk_at dksX1_g_1 0 rfl rfl)
theorem dX1_g_26 : decode cX1_g 26 = .ok (.aload_n 0, 1) := dk_42 (dk_at dksX1_g_1 2 rfl rfl)
theorem dX1_g_27 : decode cX1_g 27 = .ok (.getfield 7, 3) := dk_180 0 7 (dk_at dksX1_g_1 3 rfl rfl)
theorem dX1_g_30 : decode cX1_g 30 = .ok (.iconst 4, 1) := dk_7 (dk_at dksX1_g_1 6 rfl rfl)
theorem dX1_g_31 : decode cX1_g 31 = .ok (.iload_n 2, 1) := dk_28 (dk_at dksX1_g_1 7 rfl rfl)
theorem dX1_g_32 : decode cX1_g 32 = .ok (.imul, 1) := dk_104 (dk_at dksX1_g_1 8 rfl rfl)
theorem dX1_g_33 : decode cX1_g 33 = .ok (.iload 5, 2) := dk_21 5 (dk_at dksX1_g_1 9 rfl rfl)
theorem dX1_g_35 : decode cX1_g 35 = .ok (.iadd, 1) := dk_96 (dk_at dksX1_g_1 11 rfl rfl)
theorem dX1_g_36 : decode cX1_g 36 = .ok (.bipush 10, 2) := dk_16 10 (dk_at dksX1_g_1 12 rfl rfl)
theorem dX1_g_38 : decode cX1_g 38 = .ok (.irem, 1) := dk_112 (dk_at dksX1_g_1 14 rfl rfl)
theorem dX1_g_39 : decode cX1_g 39 = .ok (.iaload, 1) := dk_46 (dk_at dksX1_g_1 15 rfl rfl)
theorem dX1_g_40 : decode cX1_g 40 = .ok (.ixor, 1) := dk_130 (dk_at dksX1_g_1 16 rfl rfl)
theorem dX1_g_41 : decode cX1_g 41 = .ok (.iaload, 1) := dk_46 (dk_at dksX1_g_1 17 rfl rfl)
theorem dX1_g_42 : decode cX1_g 42 = .ok (.iload_n 3, 1) := dk_29 (dk_at dksX1_g_1 18 rfl rfl)
theorem dX1_g_43 : decode cX1_g 43 = .ok (.ixor, 1) := dk_130 (dk_at dksX1_g_1 19 rfl rfl)
theorem dX1_g_44 : decode cX1_g 44 = .ok (.istore 6, 2) := dk_54 6 (dk_at dksX1_g_1 20 rfl rfl)
theorem dX1_g_46 : decode cX1_g 46 = .ok (.iload 4, 2) := dk_21 4 (dk_at dksX1_g_1 22 rfl rfl)
theorem dX1_g_48 : decode cX1_g 48 = .ok (.istore_n 3, 1) := dk_62 (dk_at dksX1_g_2 0 rfl rfl)
theorem dX1_g_49 : decode cX1_g 49 = .ok (.iload 6, 2) := dk_21 6 (dk_at dksX1_g_2 1 rfl rfl)
theorem dX1_g_51 : decode cX1_g 51 = .ok (.istore 4, 2) := dk_54 4 (dk_at dksX1_g_2 3 rfl rfl)
theorem dX1_g_53 : decode cX1_g 53 = .ok (.iinc 5 1, 3) := dk_132 5 1 (dk_at dksX1_g_2 5 rfl rfl)
theorem dX1_g_56 : decode cX1_g 56 = .ok (.goto (-41), 3) := dk_167 255 215 (dk_at dksX1_g_2 8 rfl rfl)
theorem dX1_g_59 : decode cX1_g 59 = .ok (.iload_n 3, 1) := dk_29 (dk_at dksX1_g_2 11 rfl rfl)
theorem dX1_g_60 : decode cX1_g 60 = .ok (.bipush 8, 2) := dk_16 8 (dk_at dksX1_g_2 12 rfl rfl)
theorem dX1_g_62 : decode cX1_g 62 = .ok (.ishl, 1) := dk_120 (dk_at dksX1_g_2 14 rfl rfl)
theorem dX1_g_63 : decode cX1_g 63 = .ok (.iload 4, 2) := dk_21 4 (dk_at dksX1_g_2 15 rfl rfl)
theorem dX1_g_65 : decode cX1_g 65 = .ok (.ior, 1) := dk_128 (dk_at dksX1_g_2 17 rfl rfl)
theorem dX1_g_66 : decode cX1_g 66 = .ok (.ireturn, 1) := dk_172 (dk_at dksX1_g_2 18 rfl rfl)
abbrev cX1_isRuleA : ByteArray := prog_9_method_9_code
def yX1_isRuleA : MethodName := ⟨RX1, "isRuleA", "(I)Z"⟩
def dkwX1_isRuleA_0 : List UInt8 := [26, 16, 8, 108, 5, 112, 154, 0, 7, 4, 167, 0, 4, 3, 172]
abbrev dktX1_isRuleA_0 : List UInt8 := dkwX1_isRuleA_0 ++ []
theorem dksX1_isRuleA_0 : cX1_isRuleA.data.toList.drop 0 = dktX1_isRuleA_0 := by decide +kernel
theorem dX1_isRuleA_0 : decode cX1_isRuleA 0 = .ok (.iload_n 0, 1) := dk_26 (dk_at dksX1_isRuleA_0 0 rfl rfl)
theorem dX1_isRuleA_1 : decode cX1_isRuleA 1 = .ok (.bipush 8, 2) := dk_16 8 (dk_at dksX1_isRuleA_0 1 rfl rfl)
theorem dX1_isRuleA_3 : decode cX1_isRuleA 3 = .ok (.idiv, 1) := dk_108 (dk_at dksX1_isRuleA_0 3 rfl rfl)
theorem dX1_isRuleA_4 : decode cX1_isRuleA 4 = .ok (.iconst 2, 1) := dk_5 (dk_at dksX1_isRuleA_0 4 rfl rfl)
theorem dX1_isRuleA_5 : decode cX1_isRuleA 5 = .ok (.irem, 1) := dk_112 (dk_at dksX1_isRuleA_0 5 rfl rfl)
theorem dX1_isRuleA_6 : decode cX1_isRuleA 6 = .ok (.ifCond .ne 7, 3) := dk_154 0 7 (dk_at dksX1_isRuleA_0 6 rfl rfl)
theorem dX1_isRuleA_9 : decode cX1_isRuleA 9 = .ok (.iconst 1, 1) := dk_4 (dk_at dksX1_isRuleA_0 9 rfl rfl)
theorem dX1_isRuleA_10 : decode cX1_isRuleA 10 = .ok (.goto 4, 3) := dk_167 0 4 (dk_at dksX1_isRuleA_0 10 rfl rfl)
theorem dX1_isRuleA_13 : decode cX1_isRuleA 13 = .ok (.iconst 0, 1) := dk_3 (dk_at dksX1_isRuleA_0 13 rfl rfl)
theorem dX1_isRuleA_14 : decode cX1_isRuleA 14 = .ok (.ireturn, 1) := dk_172 (dk_at dksX1_isRuleA_0 14 rfl rfl)
abbrev cX1_lays : ByteArray := prog_9_method_8_code
def yX1_lays : MethodName := ⟨RX1, "lays", "([I)V"⟩
def dkwX1_lays_1 : List UInt8 := [180, 0, 16, 5, 28, 104, 4, 96, 43, 28, 46, 17, 0, 255, 126, 79, 132, 2, 1, 167, 255, 217, 177]
abbrev dktX1_lays_1 : List UInt8 := dkwX1_lays_1 ++ []
def dkwX1_lays_0 : List UInt8 := [3, 61, 28, 7, 162, 0, 40, 42, 180, 0, 16, 5, 28, 104, 43, 28, 46, 16, 8, 122, 79, 42]
abbrev dktX1_lays_0 : List UInt8 := dkwX1_lays_0 ++ dktX1_lays_1
theorem dksX1_lays_0 : cX1_lays.data.toList.drop 0 = dktX1_lays_0 := by decide +kernel
theorem dksX1_lays_1 : cX1_lays.data.toList.drop 22 = dktX1_lays_1 := dk_seg dksX1_lays_0 22 rfl rfl
theorem dX1_lays_0 : decode cX1_lays 0 = .ok (.iconst 0, 1) := dk_3 (dk_at dksX1_lays_0 0 rfl rfl)
theorem dX1_lays_1 : decode cX1_lays 1 = .ok (.istore_n 2, 1) := dk_61 (dk_at dksX1_lays_0 1 rfl rfl)
theorem dX1_lays_2 : decode cX1_lays 2 = .ok (.iload_n 2, 1) := dk_28 (dk_at dksX1_lays_0 2 rfl rfl)
theorem dX1_lays_3 : decode cX1_lays 3 = .ok (.iconst 4, 1) := dk_7 (dk_at dksX1_lays_0 3 rfl rfl)
theorem dX1_lays_4 : decode cX1_lays 4 = .ok (.if_icmp .ge 40, 3) := dk_162 0 40 (dk_at dksX1_lays_0 4 rfl rfl)
theorem dX1_lays_7 : decode cX1_lays 7 = .ok (.aload_n 0, 1) := dk_42 (dk_at dksX1_lays_0 7 rfl rfl)
theorem dX1_lays_8 : decode cX1_lays 8 = .ok (.getfield 16, 3) := dk_180 0 16 (dk_at dksX1_lays_0 8 rfl rfl)
theorem dX1_lays_11 : decode cX1_lays 11 = .ok (.iconst 2, 1) := dk_5 (dk_at dksX1_lays_0 11 rfl rfl)
theorem dX1_lays_12 : decode cX1_lays 12 = .ok (.iload_n 2, 1) := dk_28 (dk_at dksX1_lays_0 12 rfl rfl)
theorem dX1_lays_13 : decode cX1_lays 13 = .ok (.imul, 1) := dk_104 (dk_at dksX1_lays_0 13 rfl rfl)
theorem dX1_lays_14 : decode cX1_lays 14 = .ok (.aload_n 1, 1) := dk_43 (dk_at dksX1_lays_0 14 rfl rfl)
theorem dX1_lays_15 : decode cX1_lays 15 = .ok (.iload_n 2, 1) := dk_28 (dk_at dksX1_lays_0 15 rfl rfl)
theorem dX1_lays_16 : decode cX1_lays 16 = .ok (.iaload, 1) := dk_46 (dk_at dksX1_lays_0 16 rfl rfl)
theorem dX1_lays_17 : decode cX1_lays 17 = .ok (.bipush 8, 2) := dk_16 8 (dk_at dksX1_lays_0 17 rfl rfl)
theorem dX1_lays_19 : decode cX1_lays 19 = .ok (.ishr, 1) := dk_122 (dk_at dksX1_lays_0 19 rfl rfl)
theorem dX1_lays_20 : decode cX1_lays 20 = .ok (.iastore, 1) := dk_79 (dk_at dksX1_lays_0 20 rfl rfl)
theorem dX1_lays_21 : decode cX1_lays 21 = .ok (.aload_n 0, 1) := dk_42 (dk_at dksX1_lays_0 21 rfl rfl)
theorem dX1_lays_22 : decode cX1_lays 22 = .ok (.getfield 16, 3) := dk_180 0 16 (dk_at dksX1_lays_1 0 rfl rfl)
theorem dX1_lays_25 : decode cX1_lays 25 = .ok (.iconst 2, 1) := dk_5 (dk_at dksX1_lays_1 3 rfl rfl)
theorem dX1_lays_26 : decode cX1_lays 26 = .ok (.iload_n 2, 1) := dk_28 (dk_at dksX1_lays_1 4 rfl rfl)
theorem dX1_lays_27 : decode cX1_lays 27 = .ok (.imul, 1) := dk_104 (dk_at dksX1_lays_1 5 rfl rfl)
theorem dX1_lays_28 : decode cX1_lays 28 = .ok (.iconst 1, 1) := dk_4 (dk_at dksX1_lays_1 6 rfl rfl)
theorem dX1_lays_29 : decode cX1_lays 29 = .ok (.iadd, 1) := dk_96 (dk_at dksX1_lays_1 7 rfl rfl)
theorem dX1_lays_30 : decode cX1_lays 30 = .ok (.aload_n 1, 1) := dk_43 (dk_at dksX1_lays_1 8 rfl rfl)
theorem dX1_lays_31 : decode cX1_lays 31 = .ok (.iload_n 2, 1) := dk_28 (dk_at dksX1_lays_1 9 rfl rfl)
theorem dX1_lays_32 : decode cX1_lays 32 = .ok (.iaload, 1) := dk_46 (dk_at dksX1_lays_1 10 rfl rfl)
theorem dX1_lays_33 : decode cX1_lays 33 = .ok (.sipush 255, 3) := dk_17 0 255 (dk_at dksX1_lays_1 11 rfl rfl)
theorem dX1_lays_36 : decode cX1_lays 36 = .ok (.iand, 1) := dk_126 (dk_at dksX1_lays_1 14 rfl rfl)
theorem dX1_lays_37 : decode cX1_lays 37 = .ok (.iastore, 1) := dk_79 (dk_at dksX1_lays_1 15 rfl rfl)
theorem dX1_lays_38 : decode cX1_lays 38 = .ok (.iinc 2 1, 3) := dk_132 2 1 (dk_at dksX1_lays_1 16 rfl rfl)
theorem dX1_lays_41 : decode cX1_lays 41 = .ok (.goto (-39), 3) := dk_167 255 217 (dk_at dksX1_lays_1 19 rfl rfl)
theorem dX1_lays_44 : decode cX1_lays 44 = .ok (.return_, 1) := dk_177 (dk_at dksX1_lays_1 22 rfl rfl)
abbrev cX1_open : ByteArray := prog_9_method_11_code
def yX1_open : MethodName := ⟨RX1, "open", "(I)V"⟩
def dkwX1_open_4 : List UInt8 := [79, 132, 3, 255, 167, 255, 164, 42, 44, 182, 0, 38, 177]
abbrev dktX1_open_4 : List UInt8 := dkwX1_open_4 ++ []
def dkwX1_open_3 : List UInt8 := [3, 46, 54, 7, 44, 5, 44, 6, 46, 79, 44, 6, 21, 7, 79, 44, 4, 21, 6, 79, 44, 3, 21, 4]
abbrev dktX1_open_3 : List UInt8 := dkwX1_open_3 ++ dktX1_open_4
def dkwX1_open_2 : List UInt8 := [130, 54, 6, 29, 184, 0, 34, 153, 0, 16, 44, 3, 46, 44, 4, 46, 130, 21, 5, 130, 167, 0, 6, 44]
abbrev dktX1_open_2 : List UInt8 := dkwX1_open_2 ++ dktX1_open_3
def dkwX1_open_1 : List UInt8 := [96, 54, 5, 29, 184, 0, 34, 153, 0, 9, 44, 5, 46, 167, 0, 12, 21, 4, 44, 5, 46, 130, 21, 5]
abbrev dktX1_open_1 : List UInt8 := dkwX1_open_1 ++ dktX1_open_2
def dkwX1_open_0 : List UInt8 := [42, 182, 0, 26, 77, 16, 31, 62, 29, 155, 0, 94, 42, 44, 4, 46, 29, 182, 0, 42, 54, 4, 29, 4]
abbrev dktX1_open_0 : List UInt8 := dkwX1_open_0 ++ dktX1_open_1
theorem dksX1_open_0 : cX1_open.data.toList.drop 0 = dktX1_open_0 := by decide +kernel
theorem dksX1_open_1 : cX1_open.data.toList.drop 24 = dktX1_open_1 := dk_seg dksX1_open_0 24 rfl rfl
theorem dksX1_open_2 : cX1_open.data.toList.drop 48 = dktX1_open_2 := dk_seg dksX1_open_1 24 rfl rfl
theorem dksX1_open_3 : cX1_open.data.toList.drop 72 = dktX1_open_3 := dk_seg dksX1_open_2 24 rfl rfl
theorem dksX1_open_4 : cX1_open.data.toList.drop 96 = dktX1_open_4 := dk_seg dksX1_open_3 24 rfl rfl
theorem dX1_open_0 : decode cX1_open 0 = .ok (.aload_n 0, 1) := dk_42 (dk_at dksX1_open_0 0 rfl rfl)
theorem dX1_open_1 : decode cX1_open 1 = .ok (.invokevirtual 26, 3) := dk_182 0 26 (dk_at dksX1_open_0 1 rfl rfl)
theorem dX1_open_4 : decode cX1_open 4 = .ok (.astore_n 2, 1) := dk_77 (dk_at dksX1_open_0 4 rfl rfl)
theorem dX1_open_5 : decode cX1_open 5 = .ok (.bipush 31, 2) := dk_16 31 (dk_at dksX1_open_0 5 rfl rfl)
theorem dX1_open_7 : decode cX1_open 7 = .ok (.istore_n 3, 1) := dk_62 (dk_at dksX1_open_0 7 rfl rfl)
theorem dX1_open_8 : decode cX1_open 8 = .ok (.iload_n 3, 1) := dk_29 (dk_at dksX1_open_0 8 rfl rfl)
theorem dX1_open_9 : decode cX1_open 9 = .ok (.ifCond .lt 94, 3) := dk_155 0 94 (dk_at dksX1_open_0 9 rfl rfl)
theorem dX1_open_12 : decode cX1_open 12 = .ok (.aload_n 0, 1) := dk_42 (dk_at dksX1_open_0 12 rfl rfl)
theorem dX1_open_13 : decode cX1_open 13 = .ok (.aload_n 2, 1) := dk_44 (dk_at dksX1_open_0 13 rfl rfl)
theorem dX1_open_14 : decode cX1_open 14 = .ok (.iconst 1, 1) := dk_4 (dk_at dksX1_open_0 14 rfl rfl)
theorem dX1_open_15 : decode cX1_open 15 = .ok (.iaload, 1) := dk_46 (dk_at dksX1_open_0 15 rfl rfl)
theorem dX1_open_16 : decode cX1_open 16 = .ok (.iload_n 3, 1) := dk_29 (dk_at dksX1_open_0 16 rfl rfl)
theorem dX1_open_17 : decode cX1_open 17 = .ok (.invokevirtual 42, 3) := dk_182 0 42 (dk_at dksX1_open_0 17 rfl rfl)
theorem dX1_open_20 : decode cX1_open 20 = .ok (.istore 4, 2) := dk_54 4 (dk_at dksX1_open_0 20 rfl rfl)
theorem dX1_open_22 : decode cX1_open 22 = .ok (.iload_n 3, 1) := dk_29 (dk_at dksX1_open_0 22 rfl rfl)
theorem dX1_open_23 : decode cX1_open 23 = .ok (.iconst 1, 1) := dk_4 (dk_at dksX1_open_0 23 rfl rfl)
theorem dX1_open_24 : decode cX1_open 24 = .ok (.iadd, 1) := dk_96 (dk_at dksX1_open_1 0 rfl rfl)
theorem dX1_open_25 : decode cX1_open 25 = .ok (.istore 5, 2) := dk_54 5 (dk_at dksX1_open_1 1 rfl rfl)
theorem dX1_open_27 : decode cX1_open 27 = .ok (.iload_n 3, 1) := dk_29 (dk_at dksX1_open_1 3 rfl rfl)
theorem dX1_open_28 : decode cX1_open 28 = .ok (.invokestatic 34, 3) := dk_184 0 34 (dk_at dksX1_open_1 4 rfl rfl)
theorem dX1_open_31 : decode cX1_open 31 = .ok (.ifCond .eq 9, 3) := dk_153 0 9 (dk_at dksX1_open_1 7 rfl rfl)
theorem dX1_open_34 : decode cX1_open 34 = .ok (.aload_n 2, 1) := dk_44 (dk_at dksX1_open_1 10 rfl rfl)
theorem dX1_open_35 : decode cX1_open 35 = .ok (.iconst 2, 1) := dk_5 (dk_at dksX1_open_1 11 rfl rfl)
theorem dX1_open_36 : decode cX1_open 36 = .ok (.iaload, 1) := dk_46 (dk_at dksX1_open_1 12 rfl rfl)
theorem dX1_open_37 : decode cX1_open 37 = .ok (.goto 12, 3) := dk_167 0 12 (dk_at dksX1_open_1 13 rfl rfl)
theorem dX1_open_40 : decode cX1_open 40 = .ok (.iload 4, 2) := dk_21 4 (dk_at dksX1_open_1 16 rfl rfl)
theorem dX1_open_42 : decode cX1_open 42 = .ok (.aload_n 2, 1) := dk_44 (dk_at dksX1_open_1 18 rfl rfl)
theorem dX1_open_43 : decode cX1_open 43 = .ok (.iconst 2, 1) := dk_5 (dk_at dksX1_open_1 19 rfl rfl)
theorem dX1_open_44 : decode cX1_open 44 = .ok (.iaload, 1) := dk_46 (dk_at dksX1_open_1 20 rfl rfl)
theorem dX1_open_45 : decode cX1_open 45 = .ok (.ixor, 1) := dk_130 (dk_at dksX1_open_1 21 rfl rfl)
theorem dX1_open_46 : decode cX1_open 46 = .ok (.iload 5, 2) := dk_21 5 (dk_at dksX1_open_1 22 rfl rfl)
theorem dX1_open_48 : decode cX1_open 48 = .ok (.ixor, 1) := dk_130 (dk_at dksX1_open_2 0 rfl rfl)
theorem dX1_open_49 : decode cX1_open 49 = .ok (.istore 6, 2) := dk_54 6 (dk_at dksX1_open_2 1 rfl rfl)
theorem dX1_open_51 : decode cX1_open 51 = .ok (.iload_n 3, 1) := dk_29 (dk_at dksX1_open_2 3 rfl rfl)
theorem dX1_open_52 : decode cX1_open 52 = .ok (.invokestatic 34, 3) := dk_184 0 34 (dk_at dksX1_open_2 4 rfl rfl)
theorem dX1_open_55 : decode cX1_open 55 = .ok (.ifCond .eq 16, 3) := dk_153 0 16 (dk_at dksX1_open_2 7 rfl rfl)
theorem dX1_open_58 : decode cX1_open 58 = .ok (.aload_n 2, 1) := dk_44 (dk_at dksX1_open_2 10 rfl rfl)
theorem dX1_open_59 : decode cX1_open 59 = .ok (.iconst 0, 1) := dk_3 (dk_at dksX1_open_2 11 rfl rfl)
theorem dX1_open_60 : decode cX1_open 60 = .ok (.iaload, 1) := dk_46 (dk_at dksX1_open_2 12 rfl rfl)
theorem dX1_open_61 : decode cX1_open 61 = .ok (.aload_n 2, 1) := dk_44 (dk_at dksX1_open_2 13 rfl rfl)
theorem dX1_open_62 : decode cX1_open 62 = .ok (.iconst 1, 1) := dk_4 (dk_at dksX1_open_2 14 rfl rfl)
theorem dX1_open_63 : decode cX1_open 63 = .ok (.iaload, 1) := dk_46 (dk_at dksX1_open_2 15 rfl rfl)
theorem dX1_open_64 : decode cX1_open 64 = .ok (.ixor, 1) := dk_130 (dk_at dksX1_open_2 16 rfl rfl)
theorem dX1_open_65 : decode cX1_open 65 = .ok (.iload 5, 2) := dk_21 5 (dk_at dksX1_open_2 17 rfl rfl)
theorem dX1_open_67 : decode cX1_open 67 = .ok (.ixor, 1) := dk_130 (dk_at dksX1_open_2 19 rfl rfl)
theorem dX1_open_68 : decode cX1_open 68 = .ok (.goto 6, 3) := dk_167 0 6 (dk_at dksX1_open_2 20 rfl rfl)
theorem dX1_open_71 : decode cX1_open 71 = .ok (.aload_n 2, 1) := dk_44 (dk_at dksX1_open_2 23 rfl rfl)
theorem dX1_open_72 : decode cX1_open 72 = .ok (.iconst 0, 1) := dk_3 (dk_at dksX1_open_3 0 rfl rfl)
theorem dX1_open_73 : decode cX1_open 73 = .ok (.iaload, 1) := dk_46 (dk_at dksX1_open_3 1 rfl rfl)
theorem dX1_open_74 : decode cX1_open 74 = .ok (.istore 7, 2) := dk_54 7 (dk_at dksX1_open_3 2 rfl rfl)
theorem dX1_open_76 : decode cX1_open 76 = .ok (.aload_n 2, 1) := dk_44 (dk_at dksX1_open_3 4 rfl rfl)
theorem dX1_open_77 : decode cX1_open 77 = .ok (.iconst 2, 1) := dk_5 (dk_at dksX1_open_3 5 rfl rfl)
theorem dX1_open_78 : decode cX1_open 78 = .ok (.aload_n 2, 1) := dk_44 (dk_at dksX1_open_3 6 rfl rfl)
theorem dX1_open_79 : decode cX1_open 79 = .ok (.iconst 3, 1) := dk_6 (dk_at dksX1_open_3 7 rfl rfl)
theorem dX1_open_80 : decode cX1_open 80 = .ok (.iaload, 1) := dk_46 (dk_at dksX1_open_3 8 rfl rfl)
theorem dX1_open_81 : decode cX1_open 81 = .ok (.iastore, 1) := dk_79 (dk_at dksX1_open_3 9 rfl rfl)
theorem dX1_open_82 : decode cX1_open 82 = .ok (.aload_n 2, 1) := dk_44 (dk_at dksX1_open_3 10 rfl rfl)
theorem dX1_open_83 : decode cX1_open 83 = .ok (.iconst 3, 1) := dk_6 (dk_at dksX1_open_3 11 rfl rfl)
theorem dX1_open_84 : decode cX1_open 84 = .ok (.iload 7, 2) := dk_21 7 (dk_at dksX1_open_3 12 rfl rfl)
theorem dX1_open_86 : decode cX1_open 86 = .ok (.iastore, 1) := dk_79 (dk_at dksX1_open_3 14 rfl rfl)
theorem dX1_open_87 : decode cX1_open 87 = .ok (.aload_n 2, 1) := dk_44 (dk_at dksX1_open_3 15 rfl rfl)
theorem dX1_open_88 : decode cX1_open 88 = .ok (.iconst 1, 1) := dk_4 (dk_at dksX1_open_3 16 rfl rfl)
theorem dX1_open_89 : decode cX1_open 89 = .ok (.iload 6, 2) := dk_21 6 (dk_at dksX1_open_3 17 rfl rfl)
theorem dX1_open_91 : decode cX1_open 91 = .ok (.iastore, 1) := dk_79 (dk_at dksX1_open_3 19 rfl rfl)
theorem dX1_open_92 : decode cX1_open 92 = .ok (.aload_n 2, 1) := dk_44 (dk_at dksX1_open_3 20 rfl rfl)
theorem dX1_open_93 : decode cX1_open 93 = .ok (.iconst 0, 1) := dk_3 (dk_at dksX1_open_3 21 rfl rfl)
theorem dX1_open_94 : decode cX1_open 94 = .ok (.iload 4, 2) := dk_21 4 (dk_at dksX1_open_3 22 rfl rfl)
theorem dX1_open_96 : decode cX1_open 96 = .ok (.iastore, 1) := dk_79 (dk_at dksX1_open_4 0 rfl rfl)
theorem dX1_open_97 : decode cX1_open 97 = .ok (.iinc 3 (-1), 3) := dk_132 3 255 (dk_at dksX1_open_4 1 rfl rfl)
theorem dX1_open_100 : decode cX1_open 100 = .ok (.goto (-92), 3) := dk_167 255 164 (dk_at dksX1_open_4 4 rfl rfl)
theorem dX1_open_103 : decode cX1_open 103 = .ok (.aload_n 0, 1) := dk_42 (dk_at dksX1_open_4 7 rfl rfl)
theorem dX1_open_104 : decode cX1_open 104 = .ok (.aload_n 2, 1) := dk_44 (dk_at dksX1_open_4 8 rfl rfl)
theorem dX1_open_105 : decode cX1_open 105 = .ok (.invokevirtual 38, 3) := dk_182 0 38 (dk_at dksX1_open_4 9 rfl rfl)
theorem dX1_open_108 : decode cX1_open 108 = .ok (.return_, 1) := dk_177 (dk_at dksX1_open_4 12 rfl rfl)
abbrev cX1_unG : ByteArray := prog_9_method_6_code
def yX1_unG : MethodName := ⟨RX1, "unG", "(II)I"⟩
def dkwX1_unG_2 : List UInt8 := [21, 6, 62, 132, 5, 255, 167, 255, 217, 29, 16, 8, 120, 21, 4, 128, 172]
abbrev dktX1_unG_2 : List UInt8 := dkwX1_unG_2 ++ []
def dkwX1_unG_1 : List UInt8 := [42, 180, 0, 7, 7, 28, 104, 21, 5, 96, 16, 10, 112, 46, 130, 46, 21, 4, 130, 54, 6, 29, 54, 4]
abbrev dktX1_unG_1 : List UInt8 := dkwX1_unG_1 ++ dktX1_unG_2
def dkwX1_unG_0 : List UInt8 := [27, 16, 8, 122, 62, 27, 17, 0, 255, 126, 54, 4, 6, 54, 5, 21, 5, 155, 0, 40, 178, 0, 23, 29]
abbrev dktX1_unG_0 : List UInt8 := dkwX1_unG_0 ++ dktX1_unG_1
theorem dksX1_unG_0 : cX1_unG.data.toList.drop 0 = dktX1_unG_0 := by decide +kernel
theorem dksX1_unG_1 : cX1_unG.data.toList.drop 24 = dktX1_unG_1 := dk_seg dksX1_unG_0 24 rfl rfl
theorem dksX1_unG_2 : cX1_unG.data.toList.drop 48 = dktX1_unG_2 := dk_seg dksX1_unG_1 24 rfl rfl
theorem dX1_unG_0 : decode cX1_unG 0 = .ok (.iload_n 1, 1) := dk_27 (dk_at dksX1_unG_0 0 rfl rfl)
theorem dX1_unG_1 : decode cX1_unG 1 = .ok (.bipush 8, 2) := dk_16 8 (dk_at dksX1_unG_0 1 rfl rfl)
theorem dX1_unG_3 : decode cX1_unG 3 = .ok (.ishr, 1) := dk_122 (dk_at dksX1_unG_0 3 rfl rfl)
theorem dX1_unG_4 : decode cX1_unG 4 = .ok (.istore_n 3, 1) := dk_62 (dk_at dksX1_unG_0 4 rfl rfl)
theorem dX1_unG_5 : decode cX1_unG 5 = .ok (.iload_n 1, 1) := dk_27 (dk_at dksX1_unG_0 5 rfl rfl)
theorem dX1_unG_6 : decode cX1_unG 6 = .ok (.sipush 255, 3) := dk_17 0 255 (dk_at dksX1_unG_0 6 rfl rfl)
theorem dX1_unG_9 : decode cX1_unG 9 = .ok (.iand, 1) := dk_126 (dk_at dksX1_unG_0 9 rfl rfl)
theorem dX1_unG_10 : decode cX1_unG 10 = .ok (.istore 4, 2) := dk_54 4 (dk_at dksX1_unG_0 10 rfl rfl)
theorem dX1_unG_12 : decode cX1_unG 12 = .ok (.iconst 3, 1) := dk_6 (dk_at dksX1_unG_0 12 rfl rfl)
theorem dX1_unG_13 : decode cX1_unG 13 = .ok (.istore 5, 2) := dk_54 5 (dk_at dksX1_unG_0 13 rfl rfl)
theorem dX1_unG_15 : decode cX1_unG 15 = .ok (.iload 5, 2) := dk_21 5 (dk_at dksX1_unG_0 15 rfl rfl)
theorem dX1_unG_17 : decode cX1_unG 17 = .ok (.ifCond .lt 40, 3) := dk_155 0 40 (dk_at dksX1_unG_0 17 rfl rfl)
theorem dX1_unG_20 : decode cX1_unG 20 = .ok (.getstatic 23, 3) := dk_178 0 23 (dk_at dksX1_unG_0 20 rfl rfl)
theorem dX1_unG_23 : decode cX1_unG 23 = .ok (.iload_n 3, 1) := dk_29 (dk_at dksX1_unG_0 23 rfl rfl)
theorem dX1_unG_24 : decode cX1_unG 24 = .ok (.aload_n 0, 1) := dk_42 (dk_at dksX1_unG_1 0 rfl rfl)
theorem dX1_unG_25 : decode cX1_unG 25 = .ok (.getfield 7, 3) := dk_180 0 7 (dk_at dksX1_unG_1 1 rfl rfl)
theorem dX1_unG_28 : decode cX1_unG 28 = .ok (.iconst 4, 1) := dk_7 (dk_at dksX1_unG_1 4 rfl rfl)
theorem dX1_unG_29 : decode cX1_unG 29 = .ok (.iload_n 2, 1) := dk_28 (dk_at dksX1_unG_1 5 rfl rfl)
theorem dX1_unG_30 : decode cX1_unG 30 = .ok (.imul, 1) := dk_104 (dk_at dksX1_unG_1 6 rfl rfl)
theorem dX1_unG_31 : decode cX1_unG 31 = .ok (.iload 5, 2) := dk_21 5 (dk_at dksX1_unG_1 7 rfl rfl)
theorem dX1_unG_33 : decode cX1_unG 33 = .ok (.iadd, 1) := dk_96 (dk_at dksX1_unG_1 9 rfl rfl)
theorem dX1_unG_34 : decode cX1_unG 34 = .ok (.bipush 10, 2) := dk_16 10 (dk_at dksX1_unG_1 10 rfl rfl)
theorem dX1_unG_36 : decode cX1_unG 36 = .ok (.irem, 1) := dk_112 (dk_at dksX1_unG_1 12 rfl rfl)
theorem dX1_unG_37 : decode cX1_unG 37 = .ok (.iaload, 1) := dk_46 (dk_at dksX1_unG_1 13 rfl rfl)
theorem dX1_unG_38 : decode cX1_unG 38 = .ok (.ixor, 1) := dk_130 (dk_at dksX1_unG_1 14 rfl rfl)
theorem dX1_unG_39 : decode cX1_unG 39 = .ok (.iaload, 1) := dk_46 (dk_at dksX1_unG_1 15 rfl rfl)
theorem dX1_unG_40 : decode cX1_unG 40 = .ok (.iload 4, 2) := dk_21 4 (dk_at dksX1_unG_1 16 rfl rfl)
theorem dX1_unG_42 : decode cX1_unG 42 = .ok (.ixor, 1) := dk_130 (dk_at dksX1_unG_1 18 rfl rfl)
theorem dX1_unG_43 : decode cX1_unG 43 = .ok (.istore 6, 2) := dk_54 6 (dk_at dksX1_unG_1 19 rfl rfl)
theorem dX1_unG_45 : decode cX1_unG 45 = .ok (.iload_n 3, 1) := dk_29 (dk_at dksX1_unG_1 21 rfl rfl)
theorem dX1_unG_46 : decode cX1_unG 46 = .ok (.istore 4, 2) := dk_54 4 (dk_at dksX1_unG_1 22 rfl rfl)
theorem dX1_unG_48 : decode cX1_unG 48 = .ok (.iload 6, 2) := dk_21 6 (dk_at dksX1_unG_2 0 rfl rfl)
theorem dX1_unG_50 : decode cX1_unG 50 = .ok (.istore_n 3, 1) := dk_62 (dk_at dksX1_unG_2 2 rfl rfl)
theorem dX1_unG_51 : decode cX1_unG 51 = .ok (.iinc 5 (-1), 3) := dk_132 5 255 (dk_at dksX1_unG_2 3 rfl rfl)
theorem dX1_unG_54 : decode cX1_unG 54 = .ok (.goto (-39), 3) := dk_167 255 217 (dk_at dksX1_unG_2 6 rfl rfl)
theorem dX1_unG_57 : decode cX1_unG 57 = .ok (.iload_n 3, 1) := dk_29 (dk_at dksX1_unG_2 9 rfl rfl)
theorem dX1_unG_58 : decode cX1_unG 58 = .ok (.bipush 8, 2) := dk_16 8 (dk_at dksX1_unG_2 10 rfl rfl)
theorem dX1_unG_60 : decode cX1_unG 60 = .ok (.ishl, 1) := dk_120 (dk_at dksX1_unG_2 12 rfl rfl)
theorem dX1_unG_61 : decode cX1_unG 61 = .ok (.iload 4, 2) := dk_21 4 (dk_at dksX1_unG_2 13 rfl rfl)
theorem dX1_unG_63 : decode cX1_unG 63 = .ok (.ior, 1) := dk_128 (dk_at dksX1_unG_2 15 rfl rfl)
theorem dX1_unG_64 : decode cX1_unG 64 = .ok (.ireturn, 1) := dk_172 (dk_at dksX1_unG_2 16 rfl rfl)
abbrev cX1_again : ByteArray := prog_9_method_12_code
def yX1_again : MethodName := ⟨RX1, "again", "()V"⟩
def dkwX1_again_1 : List UInt8 := [167, 255, 235, 177]
abbrev dktX1_again_1 : List UInt8 := dkwX1_again_1 ++ []
def dkwX1_again_0 : List UInt8 := [3, 60, 27, 16, 8, 162, 0, 21, 42, 180, 0, 13, 27, 42, 180, 0, 16, 27, 46, 79, 132, 1, 1]
abbrev dktX1_again_0 : List UInt8 := dkwX1_again_0 ++ dktX1_again_1
theorem dksX1_again_0 : cX1_again.data.toList.drop 0 = dktX1_again_0 := by decide +kernel
theorem dksX1_again_1 : cX1_again.data.toList.drop 23 = dktX1_again_1 := dk_seg dksX1_again_0 23 rfl rfl
theorem dX1_again_0 : decode cX1_again 0 = .ok (.iconst 0, 1) := dk_3 (dk_at dksX1_again_0 0 rfl rfl)
theorem dX1_again_1 : decode cX1_again 1 = .ok (.istore_n 1, 1) := dk_60 (dk_at dksX1_again_0 1 rfl rfl)
theorem dX1_again_2 : decode cX1_again 2 = .ok (.iload_n 1, 1) := dk_27 (dk_at dksX1_again_0 2 rfl rfl)
theorem dX1_again_3 : decode cX1_again 3 = .ok (.bipush 8, 2) := dk_16 8 (dk_at dksX1_again_0 3 rfl rfl)
theorem dX1_again_5 : decode cX1_again 5 = .ok (.if_icmp .ge 21, 3) := dk_162 0 21 (dk_at dksX1_again_0 5 rfl rfl)
theorem dX1_again_8 : decode cX1_again 8 = .ok (.aload_n 0, 1) := dk_42 (dk_at dksX1_again_0 8 rfl rfl)
theorem dX1_again_9 : decode cX1_again 9 = .ok (.getfield 13, 3) := dk_180 0 13 (dk_at dksX1_again_0 9 rfl rfl)
theorem dX1_again_12 : decode cX1_again 12 = .ok (.iload_n 1, 1) := dk_27 (dk_at dksX1_again_0 12 rfl rfl)
theorem dX1_again_13 : decode cX1_again 13 = .ok (.aload_n 0, 1) := dk_42 (dk_at dksX1_again_0 13 rfl rfl)
theorem dX1_again_14 : decode cX1_again 14 = .ok (.getfield 16, 3) := dk_180 0 16 (dk_at dksX1_again_0 14 rfl rfl)
theorem dX1_again_17 : decode cX1_again 17 = .ok (.iload_n 1, 1) := dk_27 (dk_at dksX1_again_0 17 rfl rfl)
theorem dX1_again_18 : decode cX1_again 18 = .ok (.iaload, 1) := dk_46 (dk_at dksX1_again_0 18 rfl rfl)
theorem dX1_again_19 : decode cX1_again 19 = .ok (.iastore, 1) := dk_79 (dk_at dksX1_again_0 19 rfl rfl)
theorem dX1_again_20 : decode cX1_again 20 = .ok (.iinc 1 1, 3) := dk_132 1 1 (dk_at dksX1_again_0 20 rfl rfl)
theorem dX1_again_23 : decode cX1_again 23 = .ok (.goto (-21), 3) := dk_167 255 235 (dk_at dksX1_again_1 0 rfl rfl)
theorem dX1_again_26 : decode cX1_again 26 = .ok (.return_, 1) := dk_177 (dk_at dksX1_again_1 3 rfl rfl)
abbrev cX1_out : ByteArray := prog_9_method_13_code
def yX1_out : MethodName := ⟨RX1, "out", "(I)I"⟩
def dkwX1_out_0 : List UInt8 := [42, 180, 0, 16, 27, 16, 7, 126, 46, 172]
abbrev dktX1_out_0 : List UInt8 := dkwX1_out_0 ++ []
theorem dksX1_out_0 : cX1_out.data.toList.drop 0 = dktX1_out_0 := by decide +kernel
theorem dX1_out_0 : decode cX1_out 0 = .ok (.aload_n 0, 1) := dk_42 (dk_at dksX1_out_0 0 rfl rfl)
theorem dX1_out_1 : decode cX1_out 1 = .ok (.getfield 16, 3) := dk_180 0 16 (dk_at dksX1_out_0 1 rfl rfl)
theorem dX1_out_4 : decode cX1_out 4 = .ok (.iload_n 1, 1) := dk_27 (dk_at dksX1_out_0 4 rfl rfl)
theorem dX1_out_5 : decode cX1_out 5 = .ok (.bipush 7, 2) := dk_16 7 (dk_at dksX1_out_0 5 rfl rfl)
theorem dX1_out_7 : decode cX1_out 7 = .ok (.iand, 1) := dk_126 (dk_at dksX1_out_0 7 rfl rfl)
theorem dX1_out_8 : decode cX1_out 8 = .ok (.iaload, 1) := dk_46 (dk_at dksX1_out_0 8 rfl rfl)
theorem dX1_out_9 : decode cX1_out 9 = .ok (.ireturn, 1) := dk_172 (dk_at dksX1_out_0 9 rfl rfl)
theorem q10 : (Jvm.Cond.initialized "SkipjackDeskModel") ∈ lw_all := lw_g (lw_at lw_m1 2 rfl) rfl
theorem q281 : (Jvm.Cond.instantiable "SkipjackDeskModel" (3 : Nat)) ∈ lw_all := lw_g (lw_at lw_m2 33 rfl) rfl
theorem q283 : (Jvm.Cond.instanceMethod ({ cls := "SkipjackDeskModel", name := "<init>", desc := "()V" } : Jvm.MethodName)) ∈ lw_all := lw_g (lw_at lw_m2 35 rfl) rfl
theorem q284 : (Jvm.Cond.code ({ cls := "SkipjackDeskModel", name := "<init>", desc := "()V" } : Jvm.MethodName) prog_9_method_1_code (1 : Nat) (Option.none : Option Jvm.ClassFile.FieldType)) ∈ lw_all := lw_g (lw_at lw_m2 36 rfl) rfl
theorem q285 : (Jvm.Cond.methodLink "SkipjackDeskModel" (1 : Nat) ({ cls := "java/lang/Object", name := "<init>", desc := "()V" } : Jvm.MethodName)) ∈ lw_all := lw_g (lw_at lw_m2 37 rfl) rfl
theorem q286 : (Jvm.Cond.fieldLink "SkipjackDeskModel" (7 : Nat) "SkipjackDeskModel" "key" "[I") ∈ lw_all := lw_g (lw_at lw_m2 38 rfl) rfl
theorem q287 : (Jvm.Cond.fieldLink "SkipjackDeskModel" (13 : Nat) "SkipjackDeskModel" "block" "[I") ∈ lw_all := lw_g (lw_at lw_m2 39 rfl) rfl
theorem q288 : (Jvm.Cond.fieldLink "SkipjackDeskModel" (16 : Nat) "SkipjackDeskModel" "out" "[I") ∈ lw_all := lw_g (lw_at lw_m2 40 rfl) rfl
theorem q289 : (Jvm.Cond.laysFinal "SkipjackDeskModel" "SkipjackDeskModel" "key" "[I") ∈ lw_all := lw_g (lw_at lw_m2 41 rfl) rfl
theorem q290 : (Jvm.Cond.soleField "SkipjackDeskModel" "key") ∈ lw_all := lw_g (lw_at lw_m2 42 rfl) rfl
theorem q291 : (Jvm.Cond.laysFinal "SkipjackDeskModel" "SkipjackDeskModel" "block" "[I") ∈ lw_all := lw_g (lw_at lw_m2 43 rfl) rfl
theorem q292 : (Jvm.Cond.soleField "SkipjackDeskModel" "block") ∈ lw_all := lw_g (lw_at lw_m2 44 rfl) rfl
theorem q293 : (Jvm.Cond.laysFinal "SkipjackDeskModel" "SkipjackDeskModel" "out" "[I") ∈ lw_all := lw_g (lw_at lw_m2 45 rfl) rfl
theorem q294 : (Jvm.Cond.soleField "SkipjackDeskModel" "out") ∈ lw_all := lw_g (lw_at lw_m2 46 rfl) rfl
theorem q295 : (Jvm.Cond.superclass "SkipjackDeskModel" "java/lang/Object") ∈ lw_all := lw_g (lw_at lw_m2 47 rfl) rfl
theorem q297 : (Jvm.Cond.instanceMethod ({ cls := "SkipjackDeskModel", name := "key", desc := "(IIIII)V" } : Jvm.MethodName)) ∈ lw_all := lw_g (lw_at lw_m2 49 rfl) rfl
theorem q298 : (Jvm.Cond.selects "SkipjackDeskModel" ({ cls := "SkipjackDeskModel", name := "key", desc := "(IIIII)V" } : Jvm.MethodName) ({ cls := "SkipjackDeskModel", name := "key", desc := "(IIIII)V" } : Jvm.MethodName)) ∈ lw_all := lw_g (lw_at lw_m2 50 rfl) rfl
theorem q299 : (Jvm.Cond.code ({ cls := "SkipjackDeskModel", name := "key", desc := "(IIIII)V" } : Jvm.MethodName) prog_9_method_3_code (7 : Nat) (Option.none : Option Jvm.ClassFile.FieldType)) ∈ lw_all := lw_g (lw_at lw_m2 51 rfl) rfl
theorem q300 : (Jvm.Cond.methodLink "SkipjackDeskModel" (19 : Nat) ({ cls := "SkipjackDeskModel", name := "word", desc := "([III)V" } : Jvm.MethodName)) ∈ lw_all := lw_g (lw_at lw_m2 52 rfl) rfl
theorem q301 : (Jvm.Cond.static ({ cls := "SkipjackDeskModel", name := "word", desc := "([III)V" } : Jvm.MethodName)) ∈ lw_all := lw_g (lw_at lw_m2 53 rfl) rfl
theorem q302 : (Jvm.Cond.code ({ cls := "SkipjackDeskModel", name := "word", desc := "([III)V" } : Jvm.MethodName) prog_9_method_2_code (4 : Nat) (Option.none : Option Jvm.ClassFile.FieldType)) ∈ lw_all := lw_g (lw_at lw_m2 54 rfl) rfl
theorem q304 : (Jvm.Cond.instanceMethod ({ cls := "SkipjackDeskModel", name := "block", desc := "(II)V" } : Jvm.MethodName)) ∈ lw_all := lw_g (lw_at lw_m2 56 rfl) rfl
theorem q305 : (Jvm.Cond.selects "SkipjackDeskModel" ({ cls := "SkipjackDeskModel", name := "block", desc := "(II)V" } : Jvm.MethodName) ({ cls := "SkipjackDeskModel", name := "block", desc := "(II)V" } : Jvm.MethodName)) ∈ lw_all := lw_g (lw_at lw_m2 57 rfl) rfl
theorem q306 : (Jvm.Cond.code ({ cls := "SkipjackDeskModel", name := "block", desc := "(II)V" } : Jvm.MethodName) prog_9_method_4_code (3 : Nat) (Option.none : Option Jvm.ClassFile.FieldType)) ∈ lw_all := lw_g (lw_at lw_m2 58 rfl) rfl
theorem q308 : (Jvm.Cond.instanceMethod ({ cls := "SkipjackDeskModel", name := "lock", desc := "(I)V" } : Jvm.MethodName)) ∈ lw_all := lw_g (lw_at lw_m2 60 rfl) rfl
theorem q309 : (Jvm.Cond.selects "SkipjackDeskModel" ({ cls := "SkipjackDeskModel", name := "lock", desc := "(I)V" } : Jvm.MethodName) ({ cls := "SkipjackDeskModel", name := "lock", desc := "(I)V" } : Jvm.MethodName)) ∈ lw_all := lw_g (lw_at lw_m2 61 rfl) rfl
theorem q310 : (Jvm.Cond.code ({ cls := "SkipjackDeskModel", name := "lock", desc := "(I)V" } : Jvm.MethodName) prog_9_method_10_code (8 : Nat) (Option.none : Option Jvm.ClassFile.FieldType)) ∈ lw_all := lw_g (lw_at lw_m2 62 rfl) rfl
theorem q311 : (Jvm.Cond.methodLink "SkipjackDeskModel" (26 : Nat) ({ cls := "SkipjackDeskModel", name := "words", desc := "()[I" } : Jvm.MethodName)) ∈ lw_all := lw_g (lw_at lw_m2 63 rfl) rfl
theorem q312 : (Jvm.Cond.privateMethod ({ cls := "SkipjackDeskModel", name := "words", desc := "()[I" } : Jvm.MethodName)) ∈ lw_tbl := lw_at lw_m2 64 rfl
theorem q313 : (Jvm.Cond.instanceMethod ({ cls := "SkipjackDeskModel", name := "words", desc := "()[I" } : Jvm.MethodName)) ∈ lw_all := lw_g (lw_at lw_m2 65 rfl) rfl
theorem q314 : (Jvm.Cond.code ({ cls := "SkipjackDeskModel", name := "words", desc := "()[I" } : Jvm.MethodName) prog_9_method_7_code (3 : Nat) (Option.some (Jvm.ClassFile.FieldType.array Jvm.ClassFile.FieldType.int))) ∈ lw_all := lw_g (lw_at lw_m2 66 rfl) rfl
theorem q315 : (Jvm.Cond.methodLink "SkipjackDeskModel" (30 : Nat) ({ cls := "SkipjackDeskModel", name := "g", desc := "(II)I" } : Jvm.MethodName)) ∈ lw_all := lw_g (lw_at lw_m2 67 rfl) rfl
theorem q316 : (Jvm.Cond.privateMethod ({ cls := "SkipjackDeskModel", name := "g", desc := "(II)I" } : Jvm.MethodName)) ∈ lw_tbl := lw_at lw_m2 68 rfl
theorem q317 : (Jvm.Cond.instanceMethod ({ cls := "SkipjackDeskModel", name := "g", desc := "(II)I" } : Jvm.MethodName)) ∈ lw_all := lw_g (lw_at lw_m2 69 rfl) rfl
theorem q318 : (Jvm.Cond.code ({ cls := "SkipjackDeskModel", name := "g", desc := "(II)I" } : Jvm.MethodName) prog_9_method_5_code (7 : Nat) (Option.some Jvm.ClassFile.FieldType.int)) ∈ lw_all := lw_g (lw_at lw_m2 70 rfl) rfl
theorem q319 : (Jvm.Cond.fieldLink "SkipjackDeskModel" (23 : Nat) "SkipjackDeskModel" "F" "[I") ∈ lw_all := lw_g (lw_at lw_m2 71 rfl) rfl
theorem q320 : (Jvm.Cond.laysStatic "SkipjackDeskModel" "F" "[I") ∈ lw_tbl := lw_at lw_m2 72 rfl
theorem q321 : (Jvm.Cond.methodLink "SkipjackDeskModel" (34 : Nat) ({ cls := "SkipjackDeskModel", name := "isRuleA", desc := "(I)Z" } : Jvm.MethodName)) ∈ lw_all := lw_g (lw_at lw_m2 73 rfl) rfl
theorem q322 : (Jvm.Cond.static ({ cls := "SkipjackDeskModel", name := "isRuleA", desc := "(I)Z" } : Jvm.MethodName)) ∈ lw_all := lw_g (lw_at lw_m2 74 rfl) rfl
theorem q323 : (Jvm.Cond.code ({ cls := "SkipjackDeskModel", name := "isRuleA", desc := "(I)Z" } : Jvm.MethodName) prog_9_method_9_code (1 : Nat) (Option.some Jvm.ClassFile.FieldType.boolean)) ∈ lw_all := lw_g (lw_at lw_m2 75 rfl) rfl
theorem q324 : (Jvm.Cond.methodLink "SkipjackDeskModel" (38 : Nat) ({ cls := "SkipjackDeskModel", name := "lays", desc := "([I)V" } : Jvm.MethodName)) ∈ lw_all := lw_g (lw_at lw_m2 76 rfl) rfl
theorem q325 : (Jvm.Cond.privateMethod ({ cls := "SkipjackDeskModel", name := "lays", desc := "([I)V" } : Jvm.MethodName)) ∈ lw_tbl := lw_at lw_m2 77 rfl
theorem q326 : (Jvm.Cond.instanceMethod ({ cls := "SkipjackDeskModel", name := "lays", desc := "([I)V" } : Jvm.MethodName)) ∈ lw_all := lw_g (lw_at lw_m2 78 rfl) rfl
theorem q327 : (Jvm.Cond.code ({ cls := "SkipjackDeskModel", name := "lays", desc := "([I)V" } : Jvm.MethodName) prog_9_method_8_code (3 : Nat) (Option.none : Option Jvm.ClassFile.FieldType)) ∈ lw_all := lw_g (lw_at lw_m2 79 rfl) rfl
theorem q329 : (Jvm.Cond.instanceMethod ({ cls := "SkipjackDeskModel", name := "open", desc := "(I)V" } : Jvm.MethodName)) ∈ lw_all := lw_g (lw_at lw_m2 81 rfl) rfl
theorem q330 : (Jvm.Cond.selects "SkipjackDeskModel" ({ cls := "SkipjackDeskModel", name := "open", desc := "(I)V" } : Jvm.MethodName) ({ cls := "SkipjackDeskModel", name := "open", desc := "(I)V" } : Jvm.MethodName)) ∈ lw_all := lw_g (lw_at lw_m2 82 rfl) rfl
theorem q331 : (Jvm.Cond.code ({ cls := "SkipjackDeskModel", name := "open", desc := "(I)V" } : Jvm.MethodName) prog_9_method_11_code (8 : Nat) (Option.none : Option Jvm.ClassFile.FieldType)) ∈ lw_all := lw_g (lw_at lw_m2 83 rfl) rfl
theorem q332 : (Jvm.Cond.methodLink "SkipjackDeskModel" (42 : Nat) ({ cls := "SkipjackDeskModel", name := "unG", desc := "(II)I" } : Jvm.MethodName)) ∈ lw_all := lw_g (lw_at lw_m2 84 rfl) rfl
theorem q333 : (Jvm.Cond.privateMethod ({ cls := "SkipjackDeskModel", name := "unG", desc := "(II)I" } : Jvm.MethodName)) ∈ lw_tbl := lw_at lw_m2 85 rfl
theorem q334 : (Jvm.Cond.instanceMethod ({ cls := "SkipjackDeskModel", name := "unG", desc := "(II)I" } : Jvm.MethodName)) ∈ lw_all := lw_g (lw_at lw_m2 86 rfl) rfl
theorem q335 : (Jvm.Cond.code ({ cls := "SkipjackDeskModel", name := "unG", desc := "(II)I" } : Jvm.MethodName) prog_9_method_6_code (7 : Nat) (Option.some Jvm.ClassFile.FieldType.int)) ∈ lw_all := lw_g (lw_at lw_m2 87 rfl) rfl
theorem q337 : (Jvm.Cond.instanceMethod ({ cls := "SkipjackDeskModel", name := "again", desc := "()V" } : Jvm.MethodName)) ∈ lw_all := lw_g (lw_at lw_m2 89 rfl) rfl
theorem q338 : (Jvm.Cond.selects "SkipjackDeskModel" ({ cls := "SkipjackDeskModel", name := "again", desc := "()V" } : Jvm.MethodName) ({ cls := "SkipjackDeskModel", name := "again", desc := "()V" } : Jvm.MethodName)) ∈ lw_all := lw_g (lw_at lw_m2 90 rfl) rfl
theorem q339 : (Jvm.Cond.code ({ cls := "SkipjackDeskModel", name := "again", desc := "()V" } : Jvm.MethodName) prog_9_method_12_code (2 : Nat) (Option.none : Option Jvm.ClassFile.FieldType)) ∈ lw_all := lw_g (lw_at lw_m2 91 rfl) rfl
theorem q341 : (Jvm.Cond.instanceMethod ({ cls := "SkipjackDeskModel", name := "out", desc := "(I)I" } : Jvm.MethodName)) ∈ lw_all := lw_g (lw_at lw_m2 93 rfl) rfl
theorem q342 : (Jvm.Cond.selects "SkipjackDeskModel" ({ cls := "SkipjackDeskModel", name := "out", desc := "(I)I" } : Jvm.MethodName) ({ cls := "SkipjackDeskModel", name := "out", desc := "(I)I" } : Jvm.MethodName)) ∈ lw_all := lw_g (lw_at lw_m2 94 rfl) rfl
theorem q343 : (Jvm.Cond.code ({ cls := "SkipjackDeskModel", name := "out", desc := "(I)I" } : Jvm.MethodName) prog_9_method_13_code (2 : Nat) (Option.some Jvm.ClassFile.FieldType.int)) ∈ lw_all := lw_g (lw_at lw_m2 95 rfl) rfl
theorem in_X1 : ∀ w ∈ wsX10, w ∈ lw_all := lw_in wsX10 [289, 291, 293] (by decide +kernel) (by decide +kernel)
/-! SkipjackEngine -/
set_option maxRecDepth 100000
def RX2 : String := "SkipjackEngine"
def TX2 : u_T := fun k => match k with
  | 0 => ("SkipjackEngine", "key0", "[I", false)
  | 1 => ("SkipjackEngine", "key1", "[I", false)
  | 2 => ("SkipjackEngine", "key2", "[I", false)
  | 3 => ("SkipjackEngine", "key3", "[I", false)
  | _ => ("SkipjackEngine", "encrypting", "Z", false)
def tyX2 : Nat → FieldType := fun k => match k with
  | 0 => .array .int
  | 1 => .array .int
  | 2 => .array .int
  | 3 => .array .int
  | _ => .boolean
abbrev wsX20 : List Cond := u_ws RX2 TX2 5
theorem nmX2 : ∀ a, a < 5 → ∀ b, b < 5 → a ≠ b → (TX2 a).2.1 ≠ (TX2 b).2.1 := by decide +kernel
theorem tyX2_ok : ∀ k, k < 5 → parseFieldDescriptor (TX2 k).2.2.1 = some (tyX2 k) := by decide +kernel
abbrev cX2_init : ByteArray := prog_10_method_1_code
def yX2_init : MethodName := ⟨RX2, "<init>", "()V"⟩
theorem dX2_init_0 : decode cX2_init 0 = .ok (.aload_n 0, 1) := by decide +kernel
theorem dX2_init_1 : decode cX2_init 1 = .ok (.invokespecial 1, 3) := by decide +kernel
theorem dX2_init_4 : decode cX2_init 4 = .ok (.return_, 1) := by decide +kernel
abbrev cX2_init_2 : ByteArray := prog_10_method_2_code
def yX2_init_2 : MethodName := ⟨RX2, "init", "(ZLCipherParameters;)V"⟩
def dkwX2_init_2_7 : List UInt8 := [167, 255, 160, 177]
abbrev dktX2_init_2_7 : List UInt8 := dkwX2_init_2_7 ++ []
def dkwX2_init_2_6 : List UInt8 := [180, 0, 36, 21, 4, 45, 21, 4, 7, 104, 6, 96, 16, 10, 112, 51, 17, 0, 255, 126, 79, 132, 4, 1]
abbrev dktX2_init_2_6 : List UInt8 := dkwX2_init_2_6 ++ dktX2_init_2_7
def dkwX2_init_2_5 : List UInt8 := [180, 0, 33, 21, 4, 45, 21, 4, 7, 104, 5, 96, 16, 10, 112, 51, 17, 0, 255, 126, 79, 42]
abbrev dktX2_init_2_5 : List UInt8 := dkwX2_init_2_5 ++ dktX2_init_2_6
def dkwX2_init_2_4 : List UInt8 := [180, 0, 30, 21, 4, 45, 21, 4, 7, 104, 4, 96, 16, 10, 112, 51, 17, 0, 255, 126, 79, 42]
abbrev dktX2_init_2_4 : List UInt8 := dkwX2_init_2_4 ++ dktX2_init_2_5
def dkwX2_init_2_3 : List UInt8 := [162, 0, 95, 42, 180, 0, 26, 21, 4, 45, 21, 4, 7, 104, 16, 10, 112, 51, 17, 0, 255, 126, 79, 42]
abbrev dktX2_init_2_3 : List UInt8 := dkwX2_init_2_3 ++ dktX2_init_2_4
def dkwX2_init_2_2 : List UInt8 := [16, 32, 188, 10, 181, 0, 33, 42, 16, 32, 188, 10, 181, 0, 36, 3, 54, 4, 21, 4, 16, 32]
abbrev dktX2_init_2_2 : List UInt8 := dkwX2_init_2_2 ++ dktX2_init_2_3
def dkwX2_init_2_1 : List UInt8 := [78, 42, 27, 181, 0, 20, 42, 16, 32, 188, 10, 181, 0, 26, 42, 16, 32, 188, 10, 181, 0, 30, 42]
abbrev dktX2_init_2_1 : List UInt8 := dkwX2_init_2_1 ++ dktX2_init_2_2
def dkwX2_init_2_0 : List UInt8 := [44, 193, 0, 7, 154, 0, 13, 187, 0, 9, 89, 18, 11, 183, 0, 13, 191, 44, 192, 0, 7, 182, 0, 16]
abbrev dktX2_init_2_0 : List UInt8 := dkwX2_init_2_0 ++ dktX2_init_2_1
theorem dksX2_init_2_0 : cX2_init_2.data.toList.drop 0 = dktX2_init_2_0 := by decide +kernel
theorem dksX2_init_2_1 : cX2_init_2.data.toList.drop 24 = dktX2_init_2_1 := dk_seg dksX2_init_2_0 24 rfl rfl
theorem dksX2_init_2_2 : cX2_init_2.data.toList.drop 47 = dktX2_init_2_2 := dk_seg dksX2_init_2_1 23 rfl rfl
theorem dksX2_init_2_3 : cX2_init_2.data.toList.drop 69 = dktX2_init_2_3 := dk_seg dksX2_init_2_2 22 rfl rfl
theorem dksX2_init_2_4 : cX2_init_2.data.toList.drop 93 = dktX2_init_2_4 := dk_seg dksX2_init_2_3 24 rfl rfl
theorem dksX2_init_2_5 : cX2_init_2.data.toList.drop 115 = dktX2_init_2_5 := dk_seg dksX2_init_2_4 22 rfl rfl
theorem dksX2_init_2_6 : cX2_init_2.data.toList.drop 137 = dktX2_init_2_6 := dk_seg dksX2_init_2_5 22 rfl rfl
theorem dksX2_init_2_7 : cX2_init_2.data.toList.drop 161 = dktX2_init_2_7 := dk_seg dksX2_init_2_6 24 rfl rfl
theorem dX2_init_2_0 : decode cX2_init_2 0 = .ok (.aload_n 2, 1) := dk_44 (dk_at dksX2_init_2_0 0 rfl rfl)
theorem dX2_init_2_1 : decode cX2_init_2 1 = .ok (.instanceof 7, 3) := dk_193 0 7 (dk_at dksX2_init_2_0 1 rfl rfl)
theorem dX2_init_2_4 : decode cX2_init_2 4 = .ok (.ifCond .ne 13, 3) := dk_154 0 13 (dk_at dksX2_init_2_0 4 rfl rfl)
theorem dX2_init_2_7 : decode cX2_init_2 7 = .ok (.new 9, 3) := dk_187 0 9 (dk_at dksX2_init_2_0 7 rfl rfl)
theorem dX2_init_2_10 : decode cX2_init_2 10 = .ok (.dup, 1) := dk_89 (dk_at dksX2_init_2_0 10 rfl rfl)
theorem dX2_init_2_11 : decode cX2_init_2 11 = .ok (.ldc 11, 2) := dk_18 11 (dk_at dksX2_init_2_0 11 rfl rfl)
theorem dX2_init_2_13 : decode cX2_init_2 13 = .ok (.invokespecial 13, 3) := dk_183 0 13 (dk_at dksX2_init_2_0 13 rfl rfl)
theorem dX2_init_2_16 : decode cX2_init_2 16 = .ok (.athrow, 1) := dk_191 (dk_at dksX2_init_2_0 16 rfl rfl)
theorem dX2_init_2_17 : decode cX2_init_2 17 = .ok (.aload_n 2, 1) := dk_44 (dk_at dksX2_init_2_0 17 rfl rfl)
theorem dX2_init_2_18 : decode cX2_init_2 18 = .ok (.checkcast 7, 3) := dk_192 0 7 (dk_at dksX2_init_2_0 18 rfl rfl)
theorem dX2_init_2_21 : decode cX2_init_2 21 = .ok (.invokevirtual 16, 3) := dk_182 0 16 (dk_at dksX2_init_2_0 21 rfl rfl)
theorem dX2_init_2_24 : decode cX2_init_2 24 = .ok (.astore_n 3, 1) := dk_78 (dk_at dksX2_init_2_1 0 rfl rfl)
theorem dX2_init_2_25 : decode cX2_init_2 25 = .ok (.aload_n 0, 1) := dk_42 (dk_at dksX2_init_2_1 1 rfl rfl)
theorem dX2_init_2_26 : decode cX2_init_2 26 = .ok (.iload_n 1, 1) := dk_27 (dk_at dksX2_init_2_1 2 rfl rfl)
theorem dX2_init_2_27 : decode cX2_init_2 27 = .ok (.putfield 20, 3) := dk_181 0 20 (dk_at dksX2_init_2_1 3 rfl rfl)
theorem dX2_init_2_30 : decode cX2_init_2 30 = .ok (.aload_n 0, 1) := dk_42 (dk_at dksX2_init_2_1 6 rfl rfl)
theorem dX2_init_2_31 : decode cX2_init_2 31 = .ok (.bipush 32, 2) := dk_16 32 (dk_at dksX2_init_2_1 7 rfl rfl)
theorem dX2_init_2_33 : decode cX2_init_2 33 = .ok (.newarray .int, 2) := dk_188_10 (dk_at dksX2_init_2_1 9 rfl rfl)
theorem dX2_init_2_35 : decode cX2_init_2 35 = .ok (.putfield 26, 3) := dk_181 0 26 (dk_at dksX2_init_2_1 11 rfl rfl)
theorem dX2_init_2_38 : decode cX2_init_2 38 = .ok (.aload_n 0, 1) := dk_42 (dk_at dksX2_init_2_1 14 rfl rfl)
theorem dX2_init_2_39 : decode cX2_init_2 39 = .ok (.bipush 32, 2) := dk_16 32 (dk_at dksX2_init_2_1 15 rfl rfl)
theorem dX2_init_2_41 : decode cX2_init_2 41 = .ok (.newarray .int, 2) := dk_188_10 (dk_at dksX2_init_2_1 17 rfl rfl)
theorem dX2_init_2_43 : decode cX2_init_2 43 = .ok (.putfield 30, 3) := dk_181 0 30 (dk_at dksX2_init_2_1 19 rfl rfl)
theorem dX2_init_2_46 : decode cX2_init_2 46 = .ok (.aload_n 0, 1) := dk_42 (dk_at dksX2_init_2_1 22 rfl rfl)
theorem dX2_init_2_47 : decode cX2_init_2 47 = .ok (.bipush 32, 2) := dk_16 32 (dk_at dksX2_init_2_2 0 rfl rfl)
theorem dX2_init_2_49 : decode cX2_init_2 49 = .ok (.newarray .int, 2) := dk_188_10 (dk_at dksX2_init_2_2 2 rfl rfl)
theorem dX2_init_2_51 : decode cX2_init_2 51 = .ok (.putfield 33, 3) := dk_181 0 33 (dk_at dksX2_init_2_2 4 rfl rfl)
theorem dX2_init_2_54 : decode cX2_init_2 54 = .ok (.aload_n 0, 1) := dk_42 (dk_at dksX2_init_2_2 7 rfl rfl)
theorem dX2_init_2_55 : decode cX2_init_2 55 = .ok (.bipush 32, 2) := dk_16 32 (dk_at dksX2_init_2_2 8 rfl rfl)
theorem dX2_init_2_57 : decode cX2_init_2 57 = .ok (.newarray .int, 2) := dk_188_10 (dk_at dksX2_init_2_2 10 rfl rfl)
theorem dX2_init_2_59 : decode cX2_init_2 59 = .ok (.putfield 36, 3) := dk_181 0 36 (dk_at dksX2_init_2_2 12 rfl rfl)
theorem dX2_init_2_62 : decode cX2_init_2 62 = .ok (.iconst 0, 1) := dk_3 (dk_at dksX2_init_2_2 15 rfl rfl)
theorem dX2_init_2_63 : decode cX2_init_2 63 = .ok (.istore 4, 2) := dk_54 4 (dk_at dksX2_init_2_2 16 rfl rfl)
theorem dX2_init_2_65 : decode cX2_init_2 65 = .ok (.iload 4, 2) := dk_21 4 (dk_at dksX2_init_2_2 18 rfl rfl)
theorem dX2_init_2_67 : decode cX2_init_2 67 = .ok (.bipush 32, 2) := dk_16 32 (dk_at dksX2_init_2_2 20 rfl rfl)
theorem dX2_init_2_69 : decode cX2_init_2 69 = .ok (.if_icmp .ge 95, 3) := dk_162 0 95 (dk_at dksX2_init_2_3 0 rfl rfl)
theorem dX2_init_2_72 : decode cX2_init_2 72 = .ok (.aload_n 0, 1) := dk_42 (dk_at dksX2_init_2_3 3 rfl rfl)
theorem dX2_init_2_73 : decode cX2_init_2 73 = .ok (.getfield 26, 3) := dk_180 0 26 (dk_at dksX2_init_2_3 4 rfl rfl)
theorem dX2_init_2_76 : decode cX2_init_2 76 = .ok (.iload 4, 2) := dk_21 4 (dk_at dksX2_init_2_3 7 rfl rfl)
theorem dX2_init_2_78 : decode cX2_init_2 78 = .ok (.aload_n 3, 1) := dk_45 (dk_at dksX2_init_2_3 9 rfl rfl)
theorem dX2_init_2_79 : decode cX2_init_2 79 = .ok (.iload 4, 2) := dk_21 4 (dk_at dksX2_init_2_3 10 rfl rfl)
theorem dX2_init_2_81 : decode cX2_init_2 81 = .ok (.iconst 4, 1) := dk_7 (dk_at dksX2_init_2_3 12 rfl rfl)
theorem dX2_init_2_82 : decode cX2_init_2 82 = .ok (.imul, 1) := dk_104 (dk_at dksX2_init_2_3 13 rfl rfl)
theorem dX2_init_2_83 : decode cX2_init_2 83 = .ok (.bipush 10, 2) := dk_16 10 (dk_at dksX2_init_2_3 14 rfl rfl)
theorem dX2_init_2_85 : decode cX2_init_2 85 = .ok (.irem, 1) := dk_112 (dk_at dksX2_init_2_3 16 rfl rfl)
theorem dX2_init_2_86 : decode cX2_init_2 86 = .ok (.baload, 1) := dk_51 (dk_at dksX2_init_2_3 17 rfl rfl)
theorem dX2_init_2_87 : decode cX2_init_2 87 = .ok (.sipush 255, 3) := dk_17 0 255 (dk_at dksX2_init_2_3 18 rfl rfl)
theorem dX2_init_2_90 : decode cX2_init_2 90 = .ok (.iand, 1) := dk_126 (dk_at dksX2_init_2_3 21 rfl rfl)
theorem dX2_init_2_91 : decode cX2_init_2 91 = .ok (.iastore, 1) := dk_79 (dk_at dksX2_init_2_3 22 rfl rfl)
theorem dX2_init_2_92 : decode cX2_init_2 92 = .ok (.aload_n 0, 1) := dk_42 (dk_at dksX2_init_2_3 23 rfl rfl)
theorem dX2_init_2_93 : decode cX2_init_2 93 = .ok (.getfield 30, 3) := dk_180 0 30 (dk_at dksX2_init_2_4 0 rfl rfl)
theorem dX2_init_2_96 : decode cX2_init_2 96 = .ok (.iload 4, 2) := dk_21 4 (dk_at dksX2_init_2_4 3 rfl rfl)
theorem dX2_init_2_98 : decode cX2_init_2 98 = .ok (.aload_n 3, 1) := dk_45 (dk_at dksX2_init_2_4 5 rfl rfl)
theorem dX2_init_2_99 : decode cX2_init_2 99 = .ok (.iload 4, 2) := dk_21 4 (dk_at dksX2_init_2_4 6 rfl rfl)
theorem dX2_init_2_101 : decode cX2_init_2 101 = .ok (.iconst 4, 1) := dk_7 (dk_at dksX2_init_2_4 8 rfl rfl)
theorem dX2_init_2_102 : decode cX2_init_2 102 = .ok (.imul, 1) := dk_104 (dk_at dksX2_init_2_4 9 rfl rfl)
theorem dX2_init_2_103 : decode cX2_init_2 103 = .ok (.iconst 1, 1) := dk_4 (dk_at dksX2_init_2_4 10 rfl rfl)
theorem dX2_init_2_104 : decode cX2_init_2 104 = .ok (.iadd, 1) := dk_96 (dk_at dksX2_init_2_4 11 rfl rfl)
theorem dX2_init_2_105 : decode cX2_init_2 105 = .ok (.bipush 10, 2) := dk_16 10 (dk_at dksX2_init_2_4 12 rfl rfl)
theorem dX2_init_2_107 : decode cX2_init_2 107 = .ok (.irem, 1) := dk_112 (dk_at dksX2_init_2_4 14 rfl rfl)
theorem dX2_init_2_108 : decode cX2_init_2 108 = .ok (.baload, 1) := dk_51 (dk_at dksX2_init_2_4 15 rfl rfl)
theorem dX2_init_2_109 : decode cX2_init_2 109 = .ok (.sipush 255, 3) := dk_17 0 255 (dk_at dksX2_init_2_4 16 rfl rfl)
theorem dX2_init_2_112 : decode cX2_init_2 112 = .ok (.iand, 1) := dk_126 (dk_at dksX2_init_2_4 19 rfl rfl)
theorem dX2_init_2_113 : decode cX2_init_2 113 = .ok (.iastore, 1) := dk_79 (dk_at dksX2_init_2_4 20 rfl rfl)
theorem dX2_init_2_114 : decode cX2_init_2 114 = .ok (.aload_n 0, 1) := dk_42 (dk_at dksX2_init_2_4 21 rfl rfl)
theorem dX2_init_2_115 : decode cX2_init_2 115 = .ok (.getfield 33, 3) := dk_180 0 33 (dk_at dksX2_init_2_5 0 rfl rfl)
theorem dX2_init_2_118 : decode cX2_init_2 118 = .ok (.iload 4, 2) := dk_21 4 (dk_at dksX2_init_2_5 3 rfl rfl)
theorem dX2_init_2_120 : decode cX2_init_2 120 = .ok (.aload_n 3, 1) := dk_45 (dk_at dksX2_init_2_5 5 rfl rfl)
theorem dX2_init_2_121 : decode cX2_init_2 121 = .ok (.iload 4, 2) := dk_21 4 (dk_at dksX2_init_2_5 6 rfl rfl)
theorem dX2_init_2_123 : decode cX2_init_2 123 = .ok (.iconst 4, 1) := dk_7 (dk_at dksX2_init_2_5 8 rfl rfl)
theorem dX2_init_2_124 : decode cX2_init_2 124 = .ok (.imul, 1) := dk_104 (dk_at dksX2_init_2_5 9 rfl rfl)
theorem dX2_init_2_125 : decode cX2_init_2 125 = .ok (.iconst 2, 1) := dk_5 (dk_at dksX2_init_2_5 10 rfl rfl)
theorem dX2_init_2_126 : decode cX2_init_2 126 = .ok (.iadd, 1) := dk_96 (dk_at dksX2_init_2_5 11 rfl rfl)
theorem dX2_init_2_127 : decode cX2_init_2 127 = .ok (.bipush 10, 2) := dk_16 10 (dk_at dksX2_init_2_5 12 rfl rfl)
theorem dX2_init_2_129 : decode cX2_init_2 129 = .ok (.irem, 1) := dk_112 (dk_at dksX2_init_2_5 14 rfl rfl)
theorem dX2_init_2_130 : decode cX2_init_2 130 = .ok (.baload, 1) := dk_51 (dk_at dksX2_init_2_5 15 rfl rfl)
theorem dX2_init_2_131 : decode cX2_init_2 131 = .ok (.sipush 255, 3) := dk_17 0 255 (dk_at dksX2_init_2_5 16 rfl rfl)
theorem dX2_init_2_134 : decode cX2_init_2 134 = .ok (.iand, 1) := dk_126 (dk_at dksX2_init_2_5 19 rfl rfl)
theorem dX2_init_2_135 : decode cX2_init_2 135 = .ok (.iastore, 1) := dk_79 (dk_at dksX2_init_2_5 20 rfl rfl)
theorem dX2_init_2_136 : decode cX2_init_2 136 = .ok (.aload_n 0, 1) := dk_42 (dk_at dksX2_init_2_5 21 rfl rfl)
theorem dX2_init_2_137 : decode cX2_init_2 137 = .ok (.getfield 36, 3) := dk_180 0 36 (dk_at dksX2_init_2_6 0 rfl rfl)
theorem dX2_init_2_140 : decode cX2_init_2 140 = .ok (.iload 4, 2) := dk_21 4 (dk_at dksX2_init_2_6 3 rfl rfl)
theorem dX2_init_2_142 : decode cX2_init_2 142 = .ok (.aload_n 3, 1) := dk_45 (dk_at dksX2_init_2_6 5 rfl rfl)
theorem dX2_init_2_143 : decode cX2_init_2 143 = .ok (.iload 4, 2) := dk_21 4 (dk_at dksX2_init_2_6 6 rfl rfl)
theorem dX2_init_2_145 : decode cX2_init_2 145 = .ok (.iconst 4, 1) := dk_7 (dk_at dksX2_init_2_6 8 rfl rfl)
theorem dX2_init_2_146 : decode cX2_init_2 146 = .ok (.imul, 1) := dk_104 (dk_at dksX2_init_2_6 9 rfl rfl)
theorem dX2_init_2_147 : decode cX2_init_2 147 = .ok (.iconst 3, 1) := dk_6 (dk_at dksX2_init_2_6 10 rfl rfl)
theorem dX2_init_2_148 : decode cX2_init_2 148 = .ok (.iadd, 1) := dk_96 (dk_at dksX2_init_2_6 11 rfl rfl)
theorem dX2_init_2_149 : decode cX2_init_2 149 = .ok (.bipush 10, 2) := dk_16 10 (dk_at dksX2_init_2_6 12 rfl rfl)
theorem dX2_init_2_151 : decode cX2_init_2 151 = .ok (.irem, 1) := dk_112 (dk_at dksX2_init_2_6 14 rfl rfl)
theorem dX2_init_2_152 : decode cX2_init_2 152 = .ok (.baload, 1) := dk_51 (dk_at dksX2_init_2_6 15 rfl rfl)
theorem dX2_init_2_153 : decode cX2_init_2 153 = .ok (.sipush 255, 3) := dk_17 0 255 (dk_at dksX2_init_2_6 16 rfl rfl)
theorem dX2_init_2_156 : decode cX2_init_2 156 = .ok (.iand, 1) := dk_126 (dk_at dksX2_init_2_6 19 rfl rfl)
theorem dX2_init_2_157 : decode cX2_init_2 157 = .ok (.iastore, 1) := dk_79 (dk_at dksX2_init_2_6 20 rfl rfl)
theorem dX2_init_2_158 : decode cX2_init_2 158 = .ok (.iinc 4 1, 3) := dk_132 4 1 (dk_at dksX2_init_2_6 21 rfl rfl)
theorem dX2_init_2_161 : decode cX2_init_2 161 = .ok (.goto (-96), 3) := dk_167 255 160 (dk_at dksX2_init_2_7 0 rfl rfl)
theorem dX2_init_2_164 : decode cX2_init_2 164 = .ok (.return_, 1) := dk_177 (dk_at dksX2_init_2_7 3 rfl rfl)
abbrev cX2_processBlock : ByteArray := prog_10_method_3_code
def yX2_processBlock : MethodName := ⟨RX2, "processBlock", "([BI[BI)I"⟩
def dkwX2_processBlock_3 : List UInt8 := [182, 0, 54, 87, 167, 0, 13, 42, 43, 28, 45, 21, 4, 182, 0, 58, 87, 16, 8, 172]
abbrev dktX2_processBlock_3 : List UInt8 := dkwX2_processBlock_3 ++ []
def dkwX2_processBlock_2 : List UInt8 := [187, 0, 49, 89, 18, 51, 183, 0, 53, 191, 42, 180, 0, 20, 153, 0, 16, 42, 43, 28, 45, 21, 4]
abbrev dktX2_processBlock_2 : List UInt8 := dkwX2_processBlock_2 ++ dktX2_processBlock_3
def dkwX2_processBlock_1 : List UInt8 := [164, 0, 13, 187, 0, 44, 89, 18, 46, 183, 0, 48, 191, 21, 4, 16, 8, 96, 45, 190, 164, 0, 13]
abbrev dktX2_processBlock_1 : List UInt8 := dkwX2_processBlock_1 ++ dktX2_processBlock_2
def dkwX2_processBlock_0 : List UInt8 := [42, 180, 0, 30, 199, 0, 13, 187, 0, 39, 89, 18, 41, 183, 0, 43, 191, 28, 16, 8, 96, 43, 190]
abbrev dktX2_processBlock_0 : List UInt8 := dkwX2_processBlock_0 ++ dktX2_processBlock_1
theorem dksX2_processBlock_0 : cX2_processBlock.data.toList.drop 0 = dktX2_processBlock_0 := by decide +kernel
theorem dksX2_processBlock_1 : cX2_processBlock.data.toList.drop 23 = dktX2_processBlock_1 := dk_seg dksX2_processBlock_0 23 rfl rfl
theorem dksX2_processBlock_2 : cX2_processBlock.data.toList.drop 46 = dktX2_processBlock_2 := dk_seg dksX2_processBlock_1 23 rfl rfl
theorem dksX2_processBlock_3 : cX2_processBlock.data.toList.drop 69 = dktX2_processBlock_3 := dk_seg dksX2_processBlock_2 23 rfl rfl
theorem dX2_processBlock_0 : decode cX2_processBlock 0 = .ok (.aload_n 0, 1) := dk_42 (dk_at dksX2_processBlock_0 0 rfl rfl)
theorem dX2_processBlock_1 : decode cX2_processBlock 1 = .ok (.getfield 30, 3) := dk_180 0 30 (dk_at dksX2_processBlock_0 1 rfl rfl)
theorem dX2_processBlock_4 : decode cX2_processBlock 4 = .ok (.ifnonnull 13, 3) := dk_199 0 13 (dk_at dksX2_processBlock_0 4 rfl rfl)
theorem dX2_processBlock_7 : decode cX2_processBlock 7 = .ok (.new 39, 3) := dk_187 0 39 (dk_at dksX2_processBlock_0 7 rfl rfl)
theorem dX2_processBlock_10 : decode cX2_processBlock 10 = .ok (.dup, 1) := dk_89 (dk_at dksX2_processBlock_0 10 rfl rfl)
theorem dX2_processBlock_11 : decode cX2_processBlock 11 = .ok (.ldc 41, 2) := dk_18 41 (dk_at dksX2_processBlock_0 11 rfl rfl)
theorem dX2_processBlock_13 : decode cX2_processBlock 13 = .ok (.invokespecial 43, 3) := dk_183 0 43 (dk_at dksX2_processBlock_0 13 rfl rfl)
theorem dX2_processBlock_16 : decode cX2_processBlock 16 = .ok (.athrow, 1) := dk_191 (dk_at dksX2_processBlock_0 16 rfl rfl)
theorem dX2_processBlock_17 : decode cX2_processBlock 17 = .ok (.iload_n 2, 1) := dk_28 (dk_at dksX2_processBlock_0 17 rfl rfl)
theorem dX2_processBlock_18 : decode cX2_processBlock 18 = .ok (.bipush 8, 2) := dk_16 8 (dk_at dksX2_processBlock_0 18 rfl rfl)
theorem dX2_processBlock_20 : decode cX2_processBlock 20 = .ok (.iadd, 1) := dk_96 (dk_at dksX2_processBlock_0 20 rfl rfl)
theorem dX2_processBlock_21 : decode cX2_processBlock 21 = .ok (.aload_n 1, 1) := dk_43 (dk_at dksX2_processBlock_0 21 rfl rfl)
theorem dX2_processBlock_22 : decode cX2_processBlock 22 = .ok (.arraylength, 1) := dk_190 (dk_at dksX2_processBlock_0 22 rfl rfl)
theorem dX2_processBlock_23 : decode cX2_processBlock 23 = .ok (.if_icmp .le 13, 3) := dk_164 0 13 (dk_at dksX2_processBlock_1 0 rfl rfl)
theorem dX2_processBlock_26 : decode cX2_processBlock 26 = .ok (.new 44, 3) := dk_187 0 44 (dk_at dksX2_processBlock_1 3 rfl rfl)
theorem dX2_processBlock_29 : decode cX2_processBlock 29 = .ok (.dup, 1) := dk_89 (dk_at dksX2_processBlock_1 6 rfl rfl)
theorem dX2_processBlock_30 : decode cX2_processBlock 30 = .ok (.ldc 46, 2) := dk_18 46 (dk_at dksX2_processBlock_1 7 rfl rfl)
theorem dX2_processBlock_32 : decode cX2_processBlock 32 = .ok (.invokespecial 48, 3) := dk_183 0 48 (dk_at dksX2_processBlock_1 9 rfl rfl)
theorem dX2_processBlock_35 : decode cX2_processBlock 35 = .ok (.athrow, 1) := dk_191 (dk_at dksX2_processBlock_1 12 rfl rfl)
theorem dX2_processBlock_36 : decode cX2_processBlock 36 = .ok (.iload 4, 2) := dk_21 4 (dk_at dksX2_processBlock_1 13 rfl rfl)
theorem dX2_processBlock_38 : decode cX2_processBlock 38 = .ok (.bipush 8, 2) := dk_16 8 (dk_at dksX2_processBlock_1 15 rfl rfl)
theorem dX2_processBlock_40 : decode cX2_processBlock 40 = .ok (.iadd, 1) := dk_96 (dk_at dksX2_processBlock_1 17 rfl rfl)
theorem dX2_processBlock_41 : decode cX2_processBlock 41 = .ok (.aload_n 3, 1) := dk_45 (dk_at dksX2_processBlock_1 18 rfl rfl)
theorem dX2_processBlock_42 : decode cX2_processBlock 42 = .ok (.arraylength, 1) := dk_190 (dk_at dksX2_processBlock_1 19 rfl rfl)
theorem dX2_processBlock_43 : decode cX2_processBlock 43 = .ok (.if_icmp .le 13, 3) := dk_164 0 13 (dk_at dksX2_processBlock_1 20 rfl rfl)
theorem dX2_processBlock_46 : decode cX2_processBlock 46 = .ok (.new 49, 3) := dk_187 0 49 (dk_at dksX2_processBlock_2 0 rfl rfl)
theorem dX2_processBlock_49 : decode cX2_processBlock 49 = .ok (.dup, 1) := dk_89 (dk_at dksX2_processBlock_2 3 rfl rfl)
theorem dX2_processBlock_50 : decode cX2_processBlock 50 = .ok (.ldc 51, 2) := dk_18 51 (dk_at dksX2_processBlock_2 4 rfl rfl)
theorem dX2_processBlock_52 : decode cX2_processBlock 52 = .ok (.invokespecial 53, 3) := dk_183 0 53 (dk_at dksX2_processBlock_2 6 rfl rfl)
theorem dX2_processBlock_55 : decode cX2_processBlock 55 = .ok (.athrow, 1) := dk_191 (dk_at dksX2_processBlock_2 9 rfl rfl)
theorem dX2_processBlock_56 : decode cX2_processBlock 56 = .ok (.aload_n 0, 1) := dk_42 (dk_at dksX2_processBlock_2 10 rfl rfl)
theorem dX2_processBlock_57 : decode cX2_processBlock 57 = .ok (.getfield 20, 3) := dk_180 0 20 (dk_at dksX2_processBlock_2 11 rfl rfl)
theorem dX2_processBlock_60 : decode cX2_processBlock 60 = .ok (.ifCond .eq 16, 3) := dk_153 0 16 (dk_at dksX2_processBlock_2 14 rfl rfl)
theorem dX2_processBlock_63 : decode cX2_processBlock 63 = .ok (.aload_n 0, 1) := dk_42 (dk_at dksX2_processBlock_2 17 rfl rfl)
theorem dX2_processBlock_64 : decode cX2_processBlock 64 = .ok (.aload_n 1, 1) := dk_43 (dk_at dksX2_processBlock_2 18 rfl rfl)
theorem dX2_processBlock_65 : decode cX2_processBlock 65 = .ok (.iload_n 2, 1) := dk_28 (dk_at dksX2_processBlock_2 19 rfl rfl)
theorem dX2_processBlock_66 : decode cX2_processBlock 66 = .ok (.aload_n 3, 1) := dk_45 (dk_at dksX2_processBlock_2 20 rfl rfl)
theorem dX2_processBlock_67 : decode cX2_processBlock 67 = .ok (.iload 4, 2) := dk_21 4 (dk_at dksX2_processBlock_2 21 rfl rfl)
theorem dX2_processBlock_69 : decode cX2_processBlock 69 = .ok (.invokevirtual 54, 3) := dk_182 0 54 (dk_at dksX2_processBlock_3 0 rfl rfl)
theorem dX2_processBlock_72 : decode cX2_processBlock 72 = .ok (.pop, 1) := dk_87 (dk_at dksX2_processBlock_3 3 rfl rfl)
theorem dX2_processBlock_73 : decode cX2_processBlock 73 = .ok (.goto 13, 3) := dk_167 0 13 (dk_at dksX2_processBlock_3 4 rfl rfl)
theorem dX2_processBlock_76 : decode cX2_processBlock 76 = .ok (.aload_n 0, 1) := dk_42 (dk_at dksX2_processBlock_3 7 rfl rfl)
theorem dX2_processBlock_77 : decode cX2_processBlock 77 = .ok (.aload_n 1, 1) := dk_43 (dk_at dksX2_processBlock_3 8 rfl rfl)
theorem dX2_processBlock_78 : decode cX2_processBlock 78 = .ok (.iload_n 2, 1) := dk_28 (dk_at dksX2_processBlock_3 9 rfl rfl)
theorem dX2_processBlock_79 : decode cX2_processBlock 79 = .ok (.aload_n 3, 1) := dk_45 (dk_at dksX2_processBlock_3 10 rfl rfl)
theorem dX2_processBlock_80 : decode cX2_processBlock 80 = .ok (.iload 4, 2) := dk_21 4 (dk_at dksX2_processBlock_3 11 rfl rfl)
theorem dX2_processBlock_82 : decode cX2_processBlock 82 = .ok (.invokevirtual 58, 3) := dk_182 0 58 (dk_at dksX2_processBlock_3 13 rfl rfl)
theorem dX2_processBlock_85 : decode cX2_processBlock 85 = .ok (.pop, 1) := dk_87 (dk_at dksX2_processBlock_3 16 rfl rfl)
theorem dX2_processBlock_86 : decode cX2_processBlock 86 = .ok (.bipush 8, 2) := dk_16 8 (dk_at dksX2_processBlock_3 17 rfl rfl)
theorem dX2_processBlock_88 : decode cX2_processBlock 88 = .ok (.ireturn, 1) := dk_172 (dk_at dksX2_processBlock_3 19 rfl rfl)
abbrev cX2_encryptBlock : ByteArray := prog_10_method_5_code
def yX2_encryptBlock : MethodName := ⟨RX2, "encryptBlock", "([BI[BI)I"⟩
def dkwX2_encryptBlock_12 : List UInt8 := [16, 7, 96, 21, 8, 145, 84, 16, 8, 172]
abbrev dktX2_encryptBlock_12 : List UInt8 := dkwX2_encryptBlock_12 ++ []
def dkwX2_encryptBlock_11 : List UInt8 := [21, 4, 8, 96, 21, 7, 145, 84, 45, 21, 4, 16, 6, 96, 21, 8, 16, 8, 122, 145, 84, 45, 21, 4]
abbrev dktX2_encryptBlock_11 : List UInt8 := dkwX2_encryptBlock_11 ++ dktX2_encryptBlock_12
def dkwX2_encryptBlock_10 : List UInt8 := [145, 84, 45, 21, 4, 6, 96, 21, 6, 145, 84, 45, 21, 4, 7, 96, 21, 7, 16, 8, 122, 145, 84, 45]
abbrev dktX2_encryptBlock_10 : List UInt8 := dkwX2_encryptBlock_10 ++ dktX2_encryptBlock_11
def dkwX2_encryptBlock_9 : List UInt8 := [16, 8, 122, 145, 84, 45, 21, 4, 4, 96, 21, 5, 145, 84, 45, 21, 4, 5, 96, 21, 6, 16, 8, 122]
abbrev dktX2_encryptBlock_9 : List UInt8 := dkwX2_encryptBlock_9 ++ dktX2_encryptBlock_10
def dkwX2_encryptBlock_8 : List UInt8 := [54, 5, 132, 9, 1, 132, 11, 1, 167, 255, 209, 132, 10, 1, 167, 255, 141, 45, 21, 4, 3, 96, 21, 5]
abbrev dktX2_encryptBlock_8 : List UInt8 := dkwX2_encryptBlock_8 ++ dktX2_encryptBlock_9
def dkwX2_encryptBlock_7 : List UInt8 := [21, 5, 21, 6, 130, 21, 9, 4, 96, 130, 54, 7, 42, 21, 9, 21, 5, 182, 0, 65, 54, 6, 21, 12]
abbrev dktX2_encryptBlock_7 : List UInt8 := dkwX2_encryptBlock_7 ++ dktX2_encryptBlock_8
def dkwX2_encryptBlock_6 : List UInt8 := [132, 11, 1, 167, 255, 209, 3, 54, 11, 21, 11, 16, 8, 162, 0, 46, 21, 8, 54, 12, 21, 7, 54, 8]
abbrev dktX2_encryptBlock_6 : List UInt8 := dkwX2_encryptBlock_6 ++ dktX2_encryptBlock_7
def dkwX2_encryptBlock_5 : List UInt8 := [21, 5, 182, 0, 65, 54, 6, 21, 6, 21, 12, 130, 21, 9, 4, 96, 130, 54, 5, 132, 9, 1]
abbrev dktX2_encryptBlock_5 : List UInt8 := dkwX2_encryptBlock_5 ++ dktX2_encryptBlock_6
def dkwX2_encryptBlock_4 : List UInt8 := [54, 11, 21, 11, 16, 8, 162, 0, 46, 21, 8, 54, 12, 21, 7, 54, 8, 21, 6, 54, 7, 42, 21, 9]
abbrev dktX2_encryptBlock_4 : List UInt8 := dkwX2_encryptBlock_4 ++ dktX2_encryptBlock_5
def dkwX2_encryptBlock_3 : List UInt8 := [16, 7, 96, 51, 17, 0, 255, 126, 96, 54, 8, 3, 54, 9, 3, 54, 10, 21, 10, 5, 162, 0, 115, 3]
abbrev dktX2_encryptBlock_3 : List UInt8 := dkwX2_encryptBlock_3 ++ dktX2_encryptBlock_4
def dkwX2_encryptBlock_2 : List UInt8 := [43, 28, 8, 96, 51, 17, 0, 255, 126, 96, 54, 7, 43, 28, 16, 6, 96, 51, 16, 8, 120, 43, 28]
abbrev dktX2_encryptBlock_2 : List UInt8 := dkwX2_encryptBlock_2 ++ dktX2_encryptBlock_3
def dkwX2_encryptBlock_1 : List UInt8 := [51, 16, 8, 120, 43, 28, 6, 96, 51, 17, 0, 255, 126, 96, 54, 6, 43, 28, 7, 96, 51, 16, 8, 120]
abbrev dktX2_encryptBlock_1 : List UInt8 := dkwX2_encryptBlock_1 ++ dktX2_encryptBlock_2
def dkwX2_encryptBlock_0 : List UInt8 := [43, 28, 3, 96, 51, 16, 8, 120, 43, 28, 4, 96, 51, 17, 0, 255, 126, 96, 54, 5, 43, 28, 5, 96]
abbrev dktX2_encryptBlock_0 : List UInt8 := dkwX2_encryptBlock_0 ++ dktX2_encryptBlock_1
theorem dksX2_encryptBlock_0 : cX2_encryptBlock.data.toList.drop 0 = dktX2_encryptBlock_0 := by decide +kernel
theorem dksX2_encryptBlock_1 : cX2_encryptBlock.data.toList.drop 24 = dktX2_encryptBlock_1 := dk_seg dksX2_encryptBlock_0 24 rfl rfl
theorem dksX2_encryptBlock_2 : cX2_encryptBlock.data.toList.drop 48 = dktX2_encryptBlock_2 := dk_seg dksX2_encryptBlock_1 24 rfl rfl
theorem dksX2_encryptBlock_3 : cX2_encryptBlock.data.toList.drop 71 = dktX2_encryptBlock_3 := dk_seg dksX2_encryptBlock_2 23 rfl rfl
theorem dksX2_encryptBlock_4 : cX2_encryptBlock.data.toList.drop 95 = dktX2_encryptBlock_4 := dk_seg dksX2_encryptBlock_3 24 rfl rfl
theorem dksX2_encryptBlock_5 : cX2_encryptBlock.data.toList.drop 119 = dktX2_encryptBlock_5 := dk_seg dksX2_encryptBlock_4 24 rfl rfl
theorem dksX2_encryptBlock_6 : cX2_encryptBlock.data.toList.drop 141 = dktX2_encryptBlock_6 := dk_seg dksX2_encryptBlock_5 22 rfl rfl
theorem dksX2_encryptBlock_7 : cX2_encryptBlock.data.toList.drop 165 = dktX2_encryptBlock_7 := dk_seg dksX2_encryptBlock_6 24 rfl rfl
theorem dksX2_encryptBlock_8 : cX2_encryptBlock.data.toList.drop 189 = dktX2_encryptBlock_8 := dk_seg dksX2_encryptBlock_7 24 rfl rfl
theorem dksX2_encryptBlock_9 : cX2_encryptBlock.data.toList.drop 213 = dktX2_encryptBlock_9 := dk_seg dksX2_encryptBlock_8 24 rfl rfl
theorem dksX2_encryptBlock_10 : cX2_encryptBlock.data.toList.drop 237 = dktX2_encryptBlock_10 := dk_seg dksX2_encryptBlock_9 24 rfl rfl
theorem dksX2_encryptBlock_11 : cX2_encryptBlock.data.toList.drop 261 = dktX2_encryptBlock_11 := dk_seg dksX2_encryptBlock_10 24 rfl rfl
theorem dksX2_encryptBlock_12 : cX2_encryptBlock.data.toList.drop 285 = dktX2_encryptBlock_12 := dk_seg dksX2_encryptBlock_11 24 rfl rfl
theorem dX2_encryptBlock_0 : decode cX2_encryptBlock 0 = .ok (.aload_n 1, 1) := dk_43 (dk_at dksX2_encryptBlock_0 0 rfl rfl)
theorem dX2_encryptBlock_1 : decode cX2_encryptBlock 1 = .ok (.iload_n 2, 1) := dk_28 (dk_at dksX2_encryptBlock_0 1 rfl rfl)
theorem dX2_encryptBlock_2 : decode cX2_encryptBlock 2 = .ok (.iconst 0, 1) := dk_3 (dk_at dksX2_encryptBlock_0 2 rfl rfl)
theorem dX2_encryptBlock_3 : decode cX2_encryptBlock 3 = .ok (.iadd, 1) := dk_96 (dk_at dksX2_encryptBlock_0 3 rfl rfl)
theorem dX2_encryptBlock_4 : decode cX2_encryptBlock 4 = .ok (.baload, 1) := dk_51 (dk_at dksX2_encryptBlock_0 4 rfl rfl)
theorem dX2_encryptBlock_5 : decode cX2_encryptBlock 5 = .ok (.bipush 8, 2) := dk_16 8 (dk_at dksX2_encryptBlock_0 5 rfl rfl)
theorem dX2_encryptBlock_7 : decode cX2_encryptBlock 7 = .ok (.ishl, 1) := dk_120 (dk_at dksX2_encryptBlock_0 7 rfl rfl)
theorem dX2_encryptBlock_8 : decode cX2_encryptBlock 8 = .ok (.aload_n 1, 1) := dk_43 (dk_at dksX2_encryptBlock_0 8 rfl rfl)
theorem dX2_encryptBlock_9 : decode cX2_encryptBlock 9 = .ok (.iload_n 2, 1) := dk_28 (dk_at dksX2_encryptBlock_0 9 rfl rfl)
theorem dX2_encryptBlock_10 : decode cX2_encryptBlock 10 = .ok (.iconst 1, 1) := dk_4 (dk_at dksX2_encryptBlock_0 10 rfl rfl)
theorem dX2_encryptBlock_11 : decode cX2_encryptBlock 11 = .ok (.iadd, 1) := dk_96 (dk_at dksX2_encryptBlock_0 11 rfl rfl)
theorem dX2_encryptBlock_12 : decode cX2_encryptBlock 12 = .ok (.baload, 1) := dk_51 (dk_at dksX2_encryptBlock_0 12 rfl rfl)
theorem dX2_encryptBlock_13 : decode cX2_encryptBlock 13 = .ok (.sipush 255, 3) := dk_17 0 255 (dk_at dksX2_encryptBlock_0 13 rfl rfl)
theorem dX2_encryptBlock_16 : decode cX2_encryptBlock 16 = .ok (.iand, 1) := dk_126 (dk_at dksX2_encryptBlock_0 16 rfl rfl)
theorem dX2_encryptBlock_17 : decode cX2_encryptBlock 17 = .ok (.iadd, 1) := dk_96 (dk_at dksX2_encryptBlock_0 17 rfl rfl)
theorem dX2_encryptBlock_18 : decode cX2_encryptBlock 18 = .ok (.istore 5, 2) := dk_54 5 (dk_at dksX2_encryptBlock_0 18 rfl rfl)
theorem dX2_encryptBlock_20 : decode cX2_encryptBlock 20 = .ok (.aload_n 1, 1) := dk_43 (dk_at dksX2_encryptBlock_0 20 rfl rfl)
theorem dX2_encryptBlock_21 : decode cX2_encryptBlock 21 = .ok (.iload_n 2, 1) := dk_28 (dk_at dksX2_encryptBlock_0 21 rfl rfl)
theorem dX2_encryptBlock_22 : decode cX2_encryptBlock 22 = .ok (.iconst 2, 1) := dk_5 (dk_at dksX2_encryptBlock_0 22 rfl rfl)
theorem dX2_encryptBlock_23 : decode cX2_encryptBlock 23 = .ok (.iadd, 1) := dk_96 (dk_at dksX2_encryptBlock_0 23 rfl rfl)
theorem dX2_encryptBlock_24 : decode cX2_encryptBlock 24 = .ok (.baload, 1) := dk_51 (dk_at dksX2_encryptBlock_1 0 rfl rfl)
theorem dX2_encryptBlock_25 : decode cX2_encryptBlock 25 = .ok (.bipush 8, 2) := dk_16 8 (dk_at dksX2_encryptBlock_1 1 rfl rfl)
theorem dX2_encryptBlock_27 : decode cX2_encryptBlock 27 = .ok (.ishl, 1) := dk_120 (dk_at dksX2_encryptBlock_1 3 rfl rfl)
theorem dX2_encryptBlock_28 : decode cX2_encryptBlock 28 = .ok (.aload_n 1, 1) := dk_43 (dk_at dksX2_encryptBlock_1 4 rfl rfl)
theorem dX2_encryptBlock_29 : decode cX2_encryptBlock 29 = .ok (.iload_n 2, 1) := dk_28 (dk_at dksX2_encryptBlock_1 5 rfl rfl)
theorem dX2_encryptBlock_30 : decode cX2_encryptBlock 30 = .ok (.iconst 3, 1) := dk_6 (dk_at dksX2_encryptBlock_1 6 rfl rfl)
theorem dX2_encryptBlock_31 : decode cX2_encryptBlock 31 = .ok (.iadd, 1) := dk_96 (dk_at dksX2_encryptBlock_1 7 rfl rfl)
theorem dX2_encryptBlock_32 : decode cX2_encryptBlock 32 = .ok (.baload, 1) := dk_51 (dk_at dksX2_encryptBlock_1 8 rfl rfl)
theorem dX2_encryptBlock_33 : decode cX2_encryptBlock 33 = .ok (.sipush 255, 3) := dk_17 0 255 (dk_at dksX2_encryptBlock_1 9 rfl rfl)
theorem dX2_encryptBlock_36 : decode cX2_encryptBlock 36 = .ok (.iand, 1) := dk_126 (dk_at dksX2_encryptBlock_1 12 rfl rfl)
theorem dX2_encryptBlock_37 : decode cX2_encryptBlock 37 = .ok (.iadd, 1) := dk_96 (dk_at dksX2_encryptBlock_1 13 rfl rfl)
theorem dX2_encryptBlock_38 : decode cX2_encryptBlock 38 = .ok (.istore 6, 2) := dk_54 6 (dk_at dksX2_encryptBlock_1 14 rfl rfl)
theorem dX2_encryptBlock_40 : decode cX2_encryptBlock 40 = .ok (.aload_n 1, 1) := dk_43 (dk_at dksX2_encryptBlock_1 16 rfl rfl)
theorem dX2_encryptBlock_41 : decode cX2_encryptBlock 41 = .ok (.iload_n 2, 1) := dk_28 (dk_at dksX2_encryptBlock_1 17 rfl rfl)
theorem dX2_encryptBlock_42 : decode cX2_encryptBlock 42 = .ok (.iconst 4, 1) := dk_7 (dk_at dksX2_encryptBlock_1 18 rfl rfl)
theorem dX2_encryptBlock_43 : decode cX2_encryptBlock 43 = .ok (.iadd, 1) := dk_96 (dk_at dksX2_encryptBlock_1 19 rfl rfl)
theorem dX2_encryptBlock_44 : decode cX2_encryptBlock 44 = .ok (.baload, 1) := dk_51 (dk_at dksX2_encryptBlock_1 20 rfl rfl)
theorem dX2_encryptBlock_45 : decode cX2_encryptBlock 45 = .ok (.bipush 8, 2) := dk_16 8 (dk_at dksX2_encryptBlock_1 21 rfl rfl)
theorem dX2_encryptBlock_47 : decode cX2_encryptBlock 47 = .ok (.ishl, 1) := dk_120 (dk_at dksX2_encryptBlock_1 23 rfl rfl)
theorem dX2_encryptBlock_48 : decode cX2_encryptBlock 48 = .ok (.aload_n 1, 1) := dk_43 (dk_at dksX2_encryptBlock_2 0 rfl rfl)
theorem dX2_encryptBlock_49 : decode cX2_encryptBlock 49 = .ok (.iload_n 2, 1) := dk_28 (dk_at dksX2_encryptBlock_2 1 rfl rfl)
theorem dX2_encryptBlock_50 : decode cX2_encryptBlock 50 = .ok (.iconst 5, 1) := dk_8 (dk_at dksX2_encryptBlock_2 2 rfl rfl)
theorem dX2_encryptBlock_51 : decode cX2_encryptBlock 51 = .ok (.iadd, 1) := dk_96 (dk_at dksX2_encryptBlock_2 3 rfl rfl)
theorem dX2_encryptBlock_52 : decode cX2_encryptBlock 52 = .ok (.baload, 1) := dk_51 (dk_at dksX2_encryptBlock_2 4 rfl rfl)
theorem dX2_encryptBlock_53 : decode cX2_encryptBlock 53 = .ok (.sipush 255, 3) := dk_17 0 255 (dk_at dksX2_encryptBlock_2 5 rfl rfl)
theorem dX2_encryptBlock_56 : decode cX2_encryptBlock 56 = .ok (.iand, 1) := dk_126 (dk_at dksX2_encryptBlock_2 8 rfl rfl)
theorem dX2_encryptBlock_57 : decode cX2_encryptBlock 57 = .ok (.iadd, 1) := dk_96 (dk_at dksX2_encryptBlock_2 9 rfl rfl)
theorem dX2_encryptBlock_58 : decode cX2_encryptBlock 58 = .ok (.istore 7, 2) := dk_54 7 (dk_at dksX2_encryptBlock_2 10 rfl rfl)
theorem dX2_encryptBlock_60 : decode cX2_encryptBlock 60 = .ok (.aload_n 1, 1) := dk_43 (dk_at dksX2_encryptBlock_2 12 rfl rfl)
theorem dX2_encryptBlock_61 : decode cX2_encryptBlock 61 = .ok (.iload_n 2, 1) := dk_28 (dk_at dksX2_encryptBlock_2 13 rfl rfl)
theorem dX2_encryptBlock_62 : decode cX2_encryptBlock 62 = .ok (.bipush 6, 2) := dk_16 6 (dk_at dksX2_encryptBlock_2 14 rfl rfl)
theorem dX2_encryptBlock_64 : decode cX2_encryptBlock 64 = .ok (.iadd, 1) := dk_96 (dk_at dksX2_encryptBlock_2 16 rfl rfl)
theorem dX2_encryptBlock_65 : decode cX2_encryptBlock 65 = .ok (.baload, 1) := dk_51 (dk_at dksX2_encryptBlock_2 17 rfl rfl)
theorem dX2_encryptBlock_66 : decode cX2_encryptBlock 66 = .ok (.bipush 8, 2) := dk_16 8 (dk_at dksX2_encryptBlock_2 18 rfl rfl)
theorem dX2_encryptBlock_68 : decode cX2_encryptBlock 68 = .ok (.ishl, 1) := dk_120 (dk_at dksX2_encryptBlock_2 20 rfl rfl)
theorem dX2_encryptBlock_69 : decode cX2_encryptBlock 69 = .ok (.aload_n 1, 1) := dk_43 (dk_at dksX2_encryptBlock_2 21 rfl rfl)
theorem dX2_encryptBlock_70 : decode cX2_encryptBlock 70 = .ok (.iload_n 2, 1) := dk_28 (dk_at dksX2_encryptBlock_2 22 rfl rfl)
theorem dX2_encryptBlock_71 : decode cX2_encryptBlock 71 = .ok (.bipush 7, 2) := dk_16 7 (dk_at dksX2_encryptBlock_3 0 rfl rfl)
theorem dX2_encryptBlock_73 : decode cX2_encryptBlock 73 = .ok (.iadd, 1) := dk_96 (dk_at dksX2_encryptBlock_3 2 rfl rfl)
theorem dX2_encryptBlock_74 : decode cX2_encryptBlock 74 = .ok (.baload, 1) := dk_51 (dk_at dksX2_encryptBlock_3 3 rfl rfl)
theorem dX2_encryptBlock_75 : decode cX2_encryptBlock 75 = .ok (.sipush 255, 3) := dk_17 0 255 (dk_at dksX2_encryptBlock_3 4 rfl rfl)
theorem dX2_encryptBlock_78 : decode cX2_encryptBlock 78 = .ok (.iand, 1) := dk_126 (dk_at dksX2_encryptBlock_3 7 rfl rfl)
theorem dX2_encryptBlock_79 : decode cX2_encryptBlock 79 = .ok (.iadd, 1) := dk_96 (dk_at dksX2_encryptBlock_3 8 rfl rfl)
theorem dX2_encryptBlock_80 : decode cX2_encryptBlock 80 = .ok (.istore 8, 2) := dk_54 8 (dk_at dksX2_encryptBlock_3 9 rfl rfl)
theorem dX2_encryptBlock_82 : decode cX2_encryptBlock 82 = .ok (.iconst 0, 1) := dk_3 (dk_at dksX2_encryptBlock_3 11 rfl rfl)
theorem dX2_encryptBlock_83 : decode cX2_encryptBlock 83 = .ok (.istore 9, 2) := dk_54 9 (dk_at dksX2_encryptBlock_3 12 rfl rfl)
theorem dX2_encryptBlock_85 : decode cX2_encryptBlock 85 = .ok (.iconst 0, 1) := dk_3 (dk_at dksX2_encryptBlock_3 14 rfl rfl)
theorem dX2_encryptBlock_86 : decode cX2_encryptBlock 86 = .ok (.istore 10, 2) := dk_54 10 (dk_at dksX2_encryptBlock_3 15 rfl rfl)
theorem dX2_encryptBlock_88 : decode cX2_encryptBlock 88 = .ok (.iload 10, 2) := dk_21 10 (dk_at dksX2_encryptBlock_3 17 rfl rfl)
theorem dX2_encryptBlock_90 : decode cX2_encryptBlock 90 = .ok (.iconst 2, 1) := dk_5 (dk_at dksX2_encryptBlock_3 19 rfl rfl)
theorem dX2_encryptBlock_91 : decode cX2_encryptBlock 91 = .ok (.if_icmp .ge 115, 3) := dk_162 0 115 (dk_at dksX2_encryptBlock_3 20 rfl rfl)
theorem dX2_encryptBlock_94 : decode cX2_encryptBlock 94 = .ok (.iconst 0, 1) := dk_3 (dk_at dksX2_encryptBlock_3 23 rfl rfl)
theorem dX2_encryptBlock_95 : decode cX2_encryptBlock 95 = .ok (.istore 11, 2) := dk_54 11 (dk_at dksX2_encryptBlock_4 0 rfl rfl)
theorem dX2_encryptBlock_97 : decode cX2_encryptBlock 97 = .ok (.iload 11, 2) := dk_21 11 (dk_at dksX2_encryptBlock_4 2 rfl rfl)
theorem dX2_encryptBlock_99 : decode cX2_encryptBlock 99 = .ok (.bipush 8, 2) := dk_16 8 (dk_at dksX2_encryptBlock_4 4 rfl rfl)
theorem dX2_encryptBlock_101 : decode cX2_encryptBlock 101 = .ok (.if_icmp .ge 46, 3) := dk_162 0 46 (dk_at dksX2_encryptBlock_4 6 rfl rfl)
theorem dX2_encryptBlock_104 : decode cX2_encryptBlock 104 = .ok (.iload 8, 2) := dk_21 8 (dk_at dksX2_encryptBlock_4 9 rfl rfl)
theorem dX2_encryptBlock_106 : decode cX2_encryptBlock 106 = .ok (.istore 12, 2) := dk_54 12 (dk_at dksX2_encryptBlock_4 11 rfl rfl)
theorem dX2_encryptBlock_108 : decode cX2_encryptBlock 108 = .ok (.iload 7, 2) := dk_21 7 (dk_at dksX2_encryptBlock_4 13 rfl rfl)
theorem dX2_encryptBlock_110 : decode cX2_encryptBlock 110 = .ok (.istore 8, 2) := dk_54 8 (dk_at dksX2_encryptBlock_4 15 rfl rfl)
theorem dX2_encryptBlock_112 : decode cX2_encryptBlock 112 = .ok (.iload 6, 2) := dk_21 6 (dk_at dksX2_encryptBlock_4 17 rfl rfl)
theorem dX2_encryptBlock_114 : decode cX2_encryptBlock 114 = .ok (.istore 7, 2) := dk_54 7 (dk_at dksX2_encryptBlock_4 19 rfl rfl)
theorem dX2_encryptBlock_116 : decode cX2_encryptBlock 116 = .ok (.aload_n 0, 1) := dk_42 (dk_at dksX2_encryptBlock_4 21 rfl rfl)
theorem dX2_encryptBlock_117 : decode cX2_encryptBlock 117 = .ok (.iload 9, 2) := dk_21 9 (dk_at dksX2_encryptBlock_4 22 rfl rfl)
theorem dX2_encryptBlock_119 : decode cX2_encryptBlock 119 = .ok (.iload 5, 2) := dk_21 5 (dk_at dksX2_encryptBlock_5 0 rfl rfl)
theorem dX2_encryptBlock_121 : decode cX2_encryptBlock 121 = .ok (.invokevirtual 65, 3) := dk_182 0 65 (dk_at dksX2_encryptBlock_5 2 rfl rfl)
theorem dX2_encryptBlock_124 : decode cX2_encryptBlock 124 = .ok (.istore 6, 2) := dk_54 6 (dk_at dksX2_encryptBlock_5 5 rfl rfl)
theorem dX2_encryptBlock_126 : decode cX2_encryptBlock 126 = .ok (.iload 6, 2) := dk_21 6 (dk_at dksX2_encryptBlock_5 7 rfl rfl)
theorem dX2_encryptBlock_128 : decode cX2_encryptBlock 128 = .ok (.iload 12, 2) := dk_21 12 (dk_at dksX2_encryptBlock_5 9 rfl rfl)
theorem dX2_encryptBlock_130 : decode cX2_encryptBlock 130 = .ok (.ixor, 1) := dk_130 (dk_at dksX2_encryptBlock_5 11 rfl rfl)
theorem dX2_encryptBlock_131 : decode cX2_encryptBlock 131 = .ok (.iload 9, 2) := dk_21 9 (dk_at dksX2_encryptBlock_5 12 rfl rfl)
theorem dX2_encryptBlock_133 : decode cX2_encryptBlock 133 = .ok (.iconst 1, 1) := dk_4 (dk_at dksX2_encryptBlock_5 14 rfl rfl)
theorem dX2_encryptBlock_134 : decode cX2_encryptBlock 134 = .ok (.iadd, 1) := dk_96 (dk_at dksX2_encryptBlock_5 15 rfl rfl)
theorem dX2_encryptBlock_135 : decode cX2_encryptBlock 135 = .ok (.ixor, 1) := dk_130 (dk_at dksX2_encryptBlock_5 16 rfl rfl)
theorem dX2_encryptBlock_136 : decode cX2_encryptBlock 136 = .ok (.istore 5, 2) := dk_54 5 (dk_at dksX2_encryptBlock_5 17 rfl rfl)
theorem dX2_encryptBlock_138 : decode cX2_encryptBlock 138 = .ok (.iinc 9 1, 3) := dk_132 9 1 (dk_at dksX2_encryptBlock_5 19 rfl rfl)
theorem dX2_encryptBlock_141 : decode cX2_encryptBlock 141 = .ok (.iinc 11 1, 3) := dk_132 11 1 (dk_at dksX2_encryptBlock_6 0 rfl rfl)
theorem dX2_encryptBlock_144 : decode cX2_encryptBlock 144 = .ok (.goto (-47), 3) := dk_167 255 209 (dk_at dksX2_encryptBlock_6 3 rfl rfl)
theorem dX2_encryptBlock_147 : decode cX2_encryptBlock 147 = .ok (.iconst 0, 1) := dk_3 (dk_at dksX2_encryptBlock_6 6 rfl rfl)
theorem dX2_encryptBlock_148 : decode cX2_encryptBlock 148 = .ok (.istore 11, 2) := dk_54 11 (dk_at dksX2_encryptBlock_6 7 rfl rfl)
theorem dX2_encryptBlock_150 : decode cX2_encryptBlock 150 = .ok (.iload 11, 2) := dk_21 11 (dk_at dksX2_encryptBlock_6 9 rfl rfl)
theorem dX2_encryptBlock_152 : decode cX2_encryptBlock 152 = .ok (.bipush 8, 2) := dk_16 8 (dk_at dksX2_encryptBlock_6 11 rfl rfl)
theorem dX2_encryptBlock_154 : decode cX2_encryptBlock 154 = .ok (.if_icmp .ge 46, 3) := dk_162 0 46 (dk_at dksX2_encryptBlock_6 13 rfl rfl)
theorem dX2_encryptBlock_157 : decode cX2_encryptBlock 157 = .ok (.iload 8, 2) := dk_21 8 (dk_at dksX2_encryptBlock_6 16 rfl rfl)
theorem dX2_encryptBlock_159 : decode cX2_encryptBlock 159 = .ok (.istore 12, 2) := dk_54 12 (dk_at dksX2_encryptBlock_6 18 rfl rfl)
theorem dX2_encryptBlock_161 : decode cX2_encryptBlock 161 = .ok (.iload 7, 2) := dk_21 7 (dk_at dksX2_encryptBlock_6 20 rfl rfl)
theorem dX2_encryptBlock_163 : decode cX2_encryptBlock 163 = .ok (.istore 8, 2) := dk_54 8 (dk_at dksX2_encryptBlock_6 22 rfl rfl)
theorem dX2_encryptBlock_165 : decode cX2_encryptBlock 165 = .ok (.iload 5, 2) := dk_21 5 (dk_at dksX2_encryptBlock_7 0 rfl rfl)
theorem dX2_encryptBlock_167 : decode cX2_encryptBlock 167 = .ok (.iload 6, 2) := dk_21 6 (dk_at dksX2_encryptBlock_7 2 rfl rfl)
theorem dX2_encryptBlock_169 : decode cX2_encryptBlock 169 = .ok (.ixor, 1) := dk_130 (dk_at dksX2_encryptBlock_7 4 rfl rfl)
theorem dX2_encryptBlock_170 : decode cX2_encryptBlock 170 = .ok (.iload 9, 2) := dk_21 9 (dk_at dksX2_encryptBlock_7 5 rfl rfl)
theorem dX2_encryptBlock_172 : decode cX2_encryptBlock 172 = .ok (.iconst 1, 1) := dk_4 (dk_at dksX2_encryptBlock_7 7 rfl rfl)
theorem dX2_encryptBlock_173 : decode cX2_encryptBlock 173 = .ok (.iadd, 1) := dk_96 (dk_at dksX2_encryptBlock_7 8 rfl rfl)
theorem dX2_encryptBlock_174 : decode cX2_encryptBlock 174 = .ok (.ixor, 1) := dk_130 (dk_at dksX2_encryptBlock_7 9 rfl rfl)
theorem dX2_encryptBlock_175 : decode cX2_encryptBlock 175 = .ok (.istore 7, 2) := dk_54 7 (dk_at dksX2_encryptBlock_7 10 rfl rfl)
theorem dX2_encryptBlock_177 : decode cX2_encryptBlock 177 = .ok (.aload_n 0, 1) := dk_42 (dk_at dksX2_encryptBlock_7 12 rfl rfl)
theorem dX2_encryptBlock_178 : decode cX2_encryptBlock 178 = .ok (.iload 9, 2) := dk_21 9 (dk_at dksX2_encryptBlock_7 13 rfl rfl)
theorem dX2_encryptBlock_180 : decode cX2_encryptBlock 180 = .ok (.iload 5, 2) := dk_21 5 (dk_at dksX2_encryptBlock_7 15 rfl rfl)
theorem dX2_encryptBlock_182 : decode cX2_encryptBlock 182 = .ok (.invokevirtual 65, 3) := dk_182 0 65 (dk_at dksX2_encryptBlock_7 17 rfl rfl)
theorem dX2_encryptBlock_185 : decode cX2_encryptBlock 185 = .ok (.istore 6, 2) := dk_54 6 (dk_at dksX2_encryptBlock_7 20 rfl rfl)
theorem dX2_encryptBlock_187 : decode cX2_encryptBlock 187 = .ok (.iload 12, 2) := dk_21 12 (dk_at dksX2_encryptBlock_7 22 rfl rfl)
theorem dX2_encryptBlock_189 : decode cX2_encryptBlock 189 = .ok (.istore 5, 2) := dk_54 5 (dk_at dksX2_encryptBlock_8 0 rfl rfl)
theorem dX2_encryptBlock_191 : decode cX2_encryptBlock 191 = .ok (.iinc 9 1, 3) := dk_132 9 1 (dk_at dksX2_encryptBlock_8 2 rfl rfl)
theorem dX2_encryptBlock_194 : decode cX2_encryptBlock 194 = .ok (.iinc 11 1, 3) := dk_132 11 1 (dk_at dksX2_encryptBlock_8 5 rfl rfl)
theorem dX2_encryptBlock_197 : decode cX2_encryptBlock 197 = .ok (.goto (-47), 3) := dk_167 255 209 (dk_at dksX2_encryptBlock_8 8 rfl rfl)
theorem dX2_encryptBlock_200 : decode cX2_encryptBlock 200 = .ok (.iinc 10 1, 3) := dk_132 10 1 (dk_at dksX2_encryptBlock_8 11 rfl rfl)
theorem dX2_encryptBlock_203 : decode cX2_encryptBlock 203 = .ok (.goto (-115), 3) := dk_167 255 141 (dk_at dksX2_encryptBlock_8 14 rfl rfl)
theorem dX2_encryptBlock_206 : decode cX2_encryptBlock 206 = .ok (.aload_n 3, 1) := dk_45 (dk_at dksX2_encryptBlock_8 17 rfl rfl)
theorem dX2_encryptBlock_207 : decode cX2_encryptBlock 207 = .ok (.iload 4, 2) := dk_21 4 (dk_at dksX2_encryptBlock_8 18 rfl rfl)
theorem dX2_encryptBlock_209 : decode cX2_encryptBlock 209 = .ok (.iconst 0, 1) := dk_3 (dk_at dksX2_encryptBlock_8 20 rfl rfl)
theorem dX2_encryptBlock_210 : decode cX2_encryptBlock 210 = .ok (.iadd, 1) := dk_96 (dk_at dksX2_encryptBlock_8 21 rfl rfl)
theorem dX2_encryptBlock_211 : decode cX2_encryptBlock 211 = .ok (.iload 5, 2) := dk_21 5 (dk_at dksX2_encryptBlock_8 22 rfl rfl)
theorem dX2_encryptBlock_213 : decode cX2_encryptBlock 213 = .ok (.bipush 8, 2) := dk_16 8 (dk_at dksX2_encryptBlock_9 0 rfl rfl)
theorem dX2_encryptBlock_215 : decode cX2_encryptBlock 215 = .ok (.ishr, 1) := dk_122 (dk_at dksX2_encryptBlock_9 2 rfl rfl)
theorem dX2_encryptBlock_216 : decode cX2_encryptBlock 216 = .ok (.i2b, 1) := dk_145 (dk_at dksX2_encryptBlock_9 3 rfl rfl)
theorem dX2_encryptBlock_217 : decode cX2_encryptBlock 217 = .ok (.bastore, 1) := dk_84 (dk_at dksX2_encryptBlock_9 4 rfl rfl)
theorem dX2_encryptBlock_218 : decode cX2_encryptBlock 218 = .ok (.aload_n 3, 1) := dk_45 (dk_at dksX2_encryptBlock_9 5 rfl rfl)
theorem dX2_encryptBlock_219 : decode cX2_encryptBlock 219 = .ok (.iload 4, 2) := dk_21 4 (dk_at dksX2_encryptBlock_9 6 rfl rfl)
theorem dX2_encryptBlock_221 : decode cX2_encryptBlock 221 = .ok (.iconst 1, 1) := dk_4 (dk_at dksX2_encryptBlock_9 8 rfl rfl)
theorem dX2_encryptBlock_222 : decode cX2_encryptBlock 222 = .ok (.iadd, 1) := dk_96 (dk_at dksX2_encryptBlock_9 9 rfl rfl)
theorem dX2_encryptBlock_223 : decode cX2_encryptBlock 223 = .ok (.iload 5, 2) := dk_21 5 (dk_at dksX2_encryptBlock_9 10 rfl rfl)
theorem dX2_encryptBlock_225 : decode cX2_encryptBlock 225 = .ok (.i2b, 1) := dk_145 (dk_at dksX2_encryptBlock_9 12 rfl rfl)
theorem dX2_encryptBlock_226 : decode cX2_encryptBlock 226 = .ok (.bastore, 1) := dk_84 (dk_at dksX2_encryptBlock_9 13 rfl rfl)
theorem dX2_encryptBlock_227 : decode cX2_encryptBlock 227 = .ok (.aload_n 3, 1) := dk_45 (dk_at dksX2_encryptBlock_9 14 rfl rfl)
theorem dX2_encryptBlock_228 : decode cX2_encryptBlock 228 = .ok (.iload 4, 2) := dk_21 4 (dk_at dksX2_encryptBlock_9 15 rfl rfl)
theorem dX2_encryptBlock_230 : decode cX2_encryptBlock 230 = .ok (.iconst 2, 1) := dk_5 (dk_at dksX2_encryptBlock_9 17 rfl rfl)
theorem dX2_encryptBlock_231 : decode cX2_encryptBlock 231 = .ok (.iadd, 1) := dk_96 (dk_at dksX2_encryptBlock_9 18 rfl rfl)
theorem dX2_encryptBlock_232 : decode cX2_encryptBlock 232 = .ok (.iload 6, 2) := dk_21 6 (dk_at dksX2_encryptBlock_9 19 rfl rfl)
theorem dX2_encryptBlock_234 : decode cX2_encryptBlock 234 = .ok (.bipush 8, 2) := dk_16 8 (dk_at dksX2_encryptBlock_9 21 rfl rfl)
theorem dX2_encryptBlock_236 : decode cX2_encryptBlock 236 = .ok (.ishr, 1) := dk_122 (dk_at dksX2_encryptBlock_9 23 rfl rfl)
theorem dX2_encryptBlock_237 : decode cX2_encryptBlock 237 = .ok (.i2b, 1) := dk_145 (dk_at dksX2_encryptBlock_10 0 rfl rfl)
theorem dX2_encryptBlock_238 : decode cX2_encryptBlock 238 = .ok (.bastore, 1) := dk_84 (dk_at dksX2_encryptBlock_10 1 rfl rfl)
theorem dX2_encryptBlock_239 : decode cX2_encryptBlock 239 = .ok (.aload_n 3, 1) := dk_45 (dk_at dksX2_encryptBlock_10 2 rfl rfl)
theorem dX2_encryptBlock_240 : decode cX2_encryptBlock 240 = .ok (.iload 4, 2) := dk_21 4 (dk_at dksX2_encryptBlock_10 3 rfl rfl)
theorem dX2_encryptBlock_242 : decode cX2_encryptBlock 242 = .ok (.iconst 3, 1) := dk_6 (dk_at dksX2_encryptBlock_10 5 rfl rfl)
theorem dX2_encryptBlock_243 : decode cX2_encryptBlock 243 = .ok (.iadd, 1) := dk_96 (dk_at dksX2_encryptBlock_10 6 rfl rfl)
theorem dX2_encryptBlock_244 : decode cX2_encryptBlock 244 = .ok (.iload 6, 2) := dk_21 6 (dk_at dksX2_encryptBlock_10 7 rfl rfl)
theorem dX2_encryptBlock_246 : decode cX2_encryptBlock 246 = .ok (.i2b, 1) := dk_145 (dk_at dksX2_encryptBlock_10 9 rfl rfl)
theorem dX2_encryptBlock_247 : decode cX2_encryptBlock 247 = .ok (.bastore, 1) := dk_84 (dk_at dksX2_encryptBlock_10 10 rfl rfl)
theorem dX2_encryptBlock_248 : decode cX2_encryptBlock 248 = .ok (.aload_n 3, 1) := dk_45 (dk_at dksX2_encryptBlock_10 11 rfl rfl)
theorem dX2_encryptBlock_249 : decode cX2_encryptBlock 249 = .ok (.iload 4, 2) := dk_21 4 (dk_at dksX2_encryptBlock_10 12 rfl rfl)
theorem dX2_encryptBlock_251 : decode cX2_encryptBlock 251 = .ok (.iconst 4, 1) := dk_7 (dk_at dksX2_encryptBlock_10 14 rfl rfl)
theorem dX2_encryptBlock_252 : decode cX2_encryptBlock 252 = .ok (.iadd, 1) := dk_96 (dk_at dksX2_encryptBlock_10 15 rfl rfl)
theorem dX2_encryptBlock_253 : decode cX2_encryptBlock 253 = .ok (.iload 7, 2) := dk_21 7 (dk_at dksX2_encryptBlock_10 16 rfl rfl)
theorem dX2_encryptBlock_255 : decode cX2_encryptBlock 255 = .ok (.bipush 8, 2) := dk_16 8 (dk_at dksX2_encryptBlock_10 18 rfl rfl)
theorem dX2_encryptBlock_257 : decode cX2_encryptBlock 257 = .ok (.ishr, 1) := dk_122 (dk_at dksX2_encryptBlock_10 20 rfl rfl)
theorem dX2_encryptBlock_258 : decode cX2_encryptBlock 258 = .ok (.i2b, 1) := dk_145 (dk_at dksX2_encryptBlock_10 21 rfl rfl)
theorem dX2_encryptBlock_259 : decode cX2_encryptBlock 259 = .ok (.bastore, 1) := dk_84 (dk_at dksX2_encryptBlock_10 22 rfl rfl)
theorem dX2_encryptBlock_260 : decode cX2_encryptBlock 260 = .ok (.aload_n 3, 1) := dk_45 (dk_at dksX2_encryptBlock_10 23 rfl rfl)
theorem dX2_encryptBlock_261 : decode cX2_encryptBlock 261 = .ok (.iload 4, 2) := dk_21 4 (dk_at dksX2_encryptBlock_11 0 rfl rfl)
theorem dX2_encryptBlock_263 : decode cX2_encryptBlock 263 = .ok (.iconst 5, 1) := dk_8 (dk_at dksX2_encryptBlock_11 2 rfl rfl)
theorem dX2_encryptBlock_264 : decode cX2_encryptBlock 264 = .ok (.iadd, 1) := dk_96 (dk_at dksX2_encryptBlock_11 3 rfl rfl)
theorem dX2_encryptBlock_265 : decode cX2_encryptBlock 265 = .ok (.iload 7, 2) := dk_21 7 (dk_at dksX2_encryptBlock_11 4 rfl rfl)
theorem dX2_encryptBlock_267 : decode cX2_encryptBlock 267 = .ok (.i2b, 1) := dk_145 (dk_at dksX2_encryptBlock_11 6 rfl rfl)
theorem dX2_encryptBlock_268 : decode cX2_encryptBlock 268 = .ok (.bastore, 1) := dk_84 (dk_at dksX2_encryptBlock_11 7 rfl rfl)
theorem dX2_encryptBlock_269 : decode cX2_encryptBlock 269 = .ok (.aload_n 3, 1) := dk_45 (dk_at dksX2_encryptBlock_11 8 rfl rfl)
theorem dX2_encryptBlock_270 : decode cX2_encryptBlock 270 = .ok (.iload 4, 2) := dk_21 4 (dk_at dksX2_encryptBlock_11 9 rfl rfl)
theorem dX2_encryptBlock_272 : decode cX2_encryptBlock 272 = .ok (.bipush 6, 2) := dk_16 6 (dk_at dksX2_encryptBlock_11 11 rfl rfl)
theorem dX2_encryptBlock_274 : decode cX2_encryptBlock 274 = .ok (.iadd, 1) := dk_96 (dk_at dksX2_encryptBlock_11 13 rfl rfl)
theorem dX2_encryptBlock_275 : decode cX2_encryptBlock 275 = .ok (.iload 8, 2) := dk_21 8 (dk_at dksX2_encryptBlock_11 14 rfl rfl)
theorem dX2_encryptBlock_277 : decode cX2_encryptBlock 277 = .ok (.bipush 8, 2) := dk_16 8 (dk_at dksX2_encryptBlock_11 16 rfl rfl)
theorem dX2_encryptBlock_279 : decode cX2_encryptBlock 279 = .ok (.ishr, 1) := dk_122 (dk_at dksX2_encryptBlock_11 18 rfl rfl)
theorem dX2_encryptBlock_280 : decode cX2_encryptBlock 280 = .ok (.i2b, 1) := dk_145 (dk_at dksX2_encryptBlock_11 19 rfl rfl)
theorem dX2_encryptBlock_281 : decode cX2_encryptBlock 281 = .ok (.bastore, 1) := dk_84 (dk_at dksX2_encryptBlock_11 20 rfl rfl)
theorem dX2_encryptBlock_282 : decode cX2_encryptBlock 282 = .ok (.aload_n 3, 1) := dk_45 (dk_at dksX2_encryptBlock_11 21 rfl rfl)
theorem dX2_encryptBlock_283 : decode cX2_encryptBlock 283 = .ok (.iload 4, 2) := dk_21 4 (dk_at dksX2_encryptBlock_11 22 rfl rfl)
theorem dX2_encryptBlock_285 : decode cX2_encryptBlock 285 = .ok (.bipush 7, 2) := dk_16 7 (dk_at dksX2_encryptBlock_12 0 rfl rfl)
theorem dX2_encryptBlock_287 : decode cX2_encryptBlock 287 = .ok (.iadd, 1) := dk_96 (dk_at dksX2_encryptBlock_12 2 rfl rfl)
theorem dX2_encryptBlock_288 : decode cX2_encryptBlock 288 = .ok (.iload 8, 2) := dk_21 8 (dk_at dksX2_encryptBlock_12 3 rfl rfl)
theorem dX2_encryptBlock_290 : decode cX2_encryptBlock 290 = .ok (.i2b, 1) := dk_145 (dk_at dksX2_encryptBlock_12 5 rfl rfl)
theorem dX2_encryptBlock_291 : decode cX2_encryptBlock 291 = .ok (.bastore, 1) := dk_84 (dk_at dksX2_encryptBlock_12 6 rfl rfl)
theorem dX2_encryptBlock_292 : decode cX2_encryptBlock 292 = .ok (.bipush 8, 2) := dk_16 8 (dk_at dksX2_encryptBlock_12 7 rfl rfl)
theorem dX2_encryptBlock_294 : decode cX2_encryptBlock 294 = .ok (.ireturn, 1) := dk_172 (dk_at dksX2_encryptBlock_12 9 rfl rfl)
abbrev cX2_g : ByteArray := prog_10_method_4_code
def yX2_g : MethodName := ⟨RX2, "g", "(II)I"⟩
def dkwX2_g_4 : List UInt8 := [21, 8, 96, 172]
abbrev dktX2_g_4 : List UInt8 := dkwX2_g_4 ++ []
def dkwX2_g_3 : List UInt8 := [178, 0, 61, 21, 7, 42, 180, 0, 36, 27, 46, 130, 53, 21, 6, 130, 54, 8, 21, 7, 16, 8, 120]
abbrev dktX2_g_3 : List UInt8 := dkwX2_g_3 ++ dktX2_g_4
def dkwX2_g_2 : List UInt8 := [21, 4, 130, 54, 6, 178, 0, 61, 21, 6, 42, 180, 0, 33, 27, 46, 130, 53, 21, 5, 130, 54, 7]
abbrev dktX2_g_2 : List UInt8 := dkwX2_g_2 ++ dktX2_g_3
def dkwX2_g_1 : List UInt8 := [180, 0, 26, 27, 46, 130, 53, 29, 130, 54, 5, 178, 0, 61, 21, 5, 42, 180, 0, 30, 27, 46, 130, 53]
abbrev dktX2_g_1 : List UInt8 := dkwX2_g_1 ++ dktX2_g_2
def dkwX2_g_0 : List UInt8 := [28, 16, 8, 122, 17, 0, 255, 126, 62, 28, 17, 0, 255, 126, 54, 4, 178, 0, 61, 21, 4, 42]
abbrev dktX2_g_0 : List UInt8 := dkwX2_g_0 ++ dktX2_g_1
theorem dksX2_g_0 : cX2_g.data.toList.drop 0 = dktX2_g_0 := by decide +kernel
theorem dksX2_g_1 : cX2_g.data.toList.drop 22 = dktX2_g_1 := dk_seg dksX2_g_0 22 rfl rfl
theorem dksX2_g_2 : cX2_g.data.toList.drop 46 = dktX2_g_2 := dk_seg dksX2_g_1 24 rfl rfl
theorem dksX2_g_3 : cX2_g.data.toList.drop 69 = dktX2_g_3 := dk_seg dksX2_g_2 23 rfl rfl
theorem dksX2_g_4 : cX2_g.data.toList.drop 92 = dktX2_g_4 := dk_seg dksX2_g_3 23 rfl rfl
theorem dX2_g_0 : decode cX2_g 0 = .ok (.iload_n 2, 1) := dk_28 (dk_at dksX2_g_0 0 rfl rfl)
theorem dX2_g_1 : decode cX2_g 1 = .ok (.bipush 8, 2) := dk_16 8 (dk_at dksX2_g_0 1 rfl rfl)
theorem dX2_g_3 : decode cX2_g 3 = .ok (.ishr, 1) := dk_122 (dk_at dksX2_g_0 3 rfl rfl)
theorem dX2_g_4 : decode cX2_g 4 = .ok (.sipush 255, 3) := dk_17 0 255 (dk_at dksX2_g_0 4 rfl rfl)
theorem dX2_g_7 : decode cX2_g 7 = .ok (.iand, 1) := dk_126 (dk_at dksX2_g_0 7 rfl rfl)
theorem dX2_g_8 : decode cX2_g 8 = .ok (.istore_n 3, 1) := dk_62 (dk_at dksX2_g_0 8 rfl rfl)
theorem dX2_g_9 : decode cX2_g 9 = .ok (.iload_n 2, 1) := dk_28 (dk_at dksX2_g_0 9 rfl rfl)
theorem dX2_g_10 : decode cX2_g 10 = .ok (.sipush 255, 3) := dk_17 0 255 (dk_at dksX2_g_0 10 rfl rfl)
theorem dX2_g_13 : decode cX2_g 13 = .ok (.iand, 1) := dk_126 (dk_at dksX2_g_0 13 rfl rfl)
theorem dX2_g_14 : decode cX2_g 14 = .ok (.istore 4, 2) := dk_54 4 (dk_at dksX2_g_0 14 rfl rfl)
theorem dX2_g_16 : decode cX2_g 16 = .ok (.getstatic 61, 3) := dk_178 0 61 (dk_at dksX2_g_0 16 rfl rfl)
theorem dX2_g_19 : decode cX2_g 19 = .ok (.iload 4, 2) := dk_21 4 (dk_at dksX2_g_0 19 rfl rfl)
theorem dX2_g_21 : decode cX2_g 21 = .ok (.aload_n 0, 1) := dk_42 (dk_at dksX2_g_0 21 rfl rfl)
theorem dX2_g_22 : decode cX2_g 22 = .ok (.getfield 26, 3) := dk_180 0 26 (dk_at dksX2_g_1 0 rfl rfl)
theorem dX2_g_25 : decode cX2_g 25 = .ok (.iload_n 1, 1) := dk_27 (dk_at dksX2_g_1 3 rfl rfl)
theorem dX2_g_26 : decode cX2_g 26 = .ok (.iaload, 1) := dk_46 (dk_at dksX2_g_1 4 rfl rfl)
theorem dX2_g_27 : decode cX2_g 27 = .ok (.ixor, 1) := dk_130 (dk_at dksX2_g_1 5 rfl rfl)
theorem dX2_g_28 : decode cX2_g 28 = .ok (.saload, 1) := dk_53 (dk_at dksX2_g_1 6 rfl rfl)
theorem dX2_g_29 : decode cX2_g 29 = .ok (.iload_n 3, 1) := dk_29 (dk_at dksX2_g_1 7 rfl rfl)
theorem dX2_g_30 : decode cX2_g 30 = .ok (.ixor, 1) := dk_130 (dk_at dksX2_g_1 8 rfl rfl)
theorem dX2_g_31 : decode cX2_g 31 = .ok (.istore 5, 2) := dk_54 5 (dk_at dksX2_g_1 9 rfl rfl)
theorem dX2_g_33 : decode cX2_g 33 = .ok (.getstatic 61, 3) := dk_178 0 61 (dk_at dksX2_g_1 11 rfl rfl)
theorem dX2_g_36 : decode cX2_g 36 = .ok (.iload 5, 2) := dk_21 5 (dk_at dksX2_g_1 14 rfl rfl)
theorem dX2_g_38 : decode cX2_g 38 = .ok (.aload_n 0, 1) := dk_42 (dk_at dksX2_g_1 16 rfl rfl)
theorem dX2_g_39 : decode cX2_g 39 = .ok (.getfield 30, 3) := dk_180 0 30 (dk_at dksX2_g_1 17 rfl rfl)
theorem dX2_g_42 : decode cX2_g 42 = .ok (.iload_n 1, 1) := dk_27 (dk_at dksX2_g_1 20 rfl rfl)
theorem dX2_g_43 : decode cX2_g 43 = .ok (.iaload, 1) := dk_46 (dk_at dksX2_g_1 21 rfl rfl)
theorem dX2_g_44 : decode cX2_g 44 = .ok (.ixor, 1) := dk_130 (dk_at dksX2_g_1 22 rfl rfl)
theorem dX2_g_45 : decode cX2_g 45 = .ok (.saload, 1) := dk_53 (dk_at dksX2_g_1 23 rfl rfl)
theorem dX2_g_46 : decode cX2_g 46 = .ok (.iload 4, 2) := dk_21 4 (dk_at dksX2_g_2 0 rfl rfl)
theorem dX2_g_48 : decode cX2_g 48 = .ok (.ixor, 1) := dk_130 (dk_at dksX2_g_2 2 rfl rfl)
theorem dX2_g_49 : decode cX2_g 49 = .ok (.istore 6, 2) := dk_54 6 (dk_at dksX2_g_2 3 rfl rfl)
theorem dX2_g_51 : decode cX2_g 51 = .ok (.getstatic 61, 3) := dk_178 0 61 (dk_at dksX2_g_2 5 rfl rfl)
theorem dX2_g_54 : decode cX2_g 54 = .ok (.iload 6, 2) := dk_21 6 (dk_at dksX2_g_2 8 rfl rfl)
theorem dX2_g_56 : decode cX2_g 56 = .ok (.aload_n 0, 1) := dk_42 (dk_at dksX2_g_2 10 rfl rfl)
theorem dX2_g_57 : decode cX2_g 57 = .ok (.getfield 33, 3) := dk_180 0 33 (dk_at dksX2_g_2 11 rfl rfl)
theorem dX2_g_60 : decode cX2_g 60 = .ok (.iload_n 1, 1) := dk_27 (dk_at dksX2_g_2 14 rfl rfl)
theorem dX2_g_61 : decode cX2_g 61 = .ok (.iaload, 1) := dk_46 (dk_at dksX2_g_2 15 rfl rfl)
theorem dX2_g_62 : decode cX2_g 62 = .ok (.ixor, 1) := dk_130 (dk_at dksX2_g_2 16 rfl rfl)
theorem dX2_g_63 : decode cX2_g 63 = .ok (.saload, 1) := dk_53 (dk_at dksX2_g_2 17 rfl rfl)
theorem dX2_g_64 : decode cX2_g 64 = .ok (.iload 5, 2) := dk_21 5 (dk_at dksX2_g_2 18 rfl rfl)
theorem dX2_g_66 : decode cX2_g 66 = .ok (.ixor, 1) := dk_130 (dk_at dksX2_g_2 20 rfl rfl)
theorem dX2_g_67 : decode cX2_g 67 = .ok (.istore 7, 2) := dk_54 7 (dk_at dksX2_g_2 21 rfl rfl)
theorem dX2_g_69 : decode cX2_g 69 = .ok (.getstatic 61, 3) := dk_178 0 61 (dk_at dksX2_g_3 0 rfl rfl)
theorem dX2_g_72 : decode cX2_g 72 = .ok (.iload 7, 2) := dk_21 7 (dk_at dksX2_g_3 3 rfl rfl)
theorem dX2_g_74 : decode cX2_g 74 = .ok (.aload_n 0, 1) := dk_42 (dk_at dksX2_g_3 5 rfl rfl)
theorem dX2_g_75 : decode cX2_g 75 = .ok (.getfield 36, 3) := dk_180 0 36 (dk_at dksX2_g_3 6 rfl rfl)
theorem dX2_g_78 : decode cX2_g 78 = .ok (.iload_n 1, 1) := dk_27 (dk_at dksX2_g_3 9 rfl rfl)
theorem dX2_g_79 : decode cX2_g 79 = .ok (.iaload, 1) := dk_46 (dk_at dksX2_g_3 10 rfl rfl)
theorem dX2_g_80 : decode cX2_g 80 = .ok (.ixor, 1) := dk_130 (dk_at dksX2_g_3 11 rfl rfl)
theorem dX2_g_81 : decode cX2_g 81 = .ok (.saload, 1) := dk_53 (dk_at dksX2_g_3 12 rfl rfl)
theorem dX2_g_82 : decode cX2_g 82 = .ok (.iload 6, 2) := dk_21 6 (dk_at dksX2_g_3 13 rfl rfl)
theorem dX2_g_84 : decode cX2_g 84 = .ok (.ixor, 1) := dk_130 (dk_at dksX2_g_3 15 rfl rfl)
theorem dX2_g_85 : decode cX2_g 85 = .ok (.istore 8, 2) := dk_54 8 (dk_at dksX2_g_3 16 rfl rfl)
theorem dX2_g_87 : decode cX2_g 87 = .ok (.iload 7, 2) := dk_21 7 (dk_at dksX2_g_3 18 rfl rfl)
theorem dX2_g_89 : decode cX2_g 89 = .ok (.bipush 8, 2) := dk_16 8 (dk_at dksX2_g_3 20 rfl rfl)
theorem dX2_g_91 : decode cX2_g 91 = .ok (.ishl, 1) := dk_120 (dk_at dksX2_g_3 22 rfl rfl)
theorem dX2_g_92 : decode cX2_g 92 = .ok (.iload 8, 2) := dk_21 8 (dk_at dksX2_g_4 0 rfl rfl)
theorem dX2_g_94 : decode cX2_g 94 = .ok (.iadd, 1) := dk_96 (dk_at dksX2_g_4 2 rfl rfl)
theorem dX2_g_95 : decode cX2_g 95 = .ok (.ireturn, 1) := dk_172 (dk_at dksX2_g_4 3 rfl rfl)
abbrev cX2_decryptBlock : ByteArray := prog_10_method_7_code
def yX2_decryptBlock : MethodName := ⟨RX2, "decryptBlock", "([BI[BI)I"⟩
def dkwX2_decryptBlock_12 : List UInt8 := [16, 7, 96, 21, 8, 145, 84, 16, 8, 172]
abbrev dktX2_decryptBlock_12 : List UInt8 := dkwX2_decryptBlock_12 ++ []
def dkwX2_decryptBlock_11 : List UInt8 := [21, 4, 8, 96, 21, 7, 145, 84, 45, 21, 4, 16, 6, 96, 21, 8, 16, 8, 122, 145, 84, 45, 21, 4]
abbrev dktX2_decryptBlock_11 : List UInt8 := dkwX2_decryptBlock_11 ++ dktX2_decryptBlock_12
def dkwX2_decryptBlock_10 : List UInt8 := [145, 84, 45, 21, 4, 6, 96, 21, 6, 145, 84, 45, 21, 4, 7, 96, 21, 7, 16, 8, 122, 145, 84, 45]
abbrev dktX2_decryptBlock_10 : List UInt8 := dkwX2_decryptBlock_10 ++ dktX2_decryptBlock_11
def dkwX2_decryptBlock_9 : List UInt8 := [16, 8, 122, 145, 84, 45, 21, 4, 4, 96, 21, 5, 145, 84, 45, 21, 4, 5, 96, 21, 6, 16, 8, 122]
abbrev dktX2_decryptBlock_9 : List UInt8 := dkwX2_decryptBlock_9 ++ dktX2_decryptBlock_10
def dkwX2_decryptBlock_8 : List UInt8 := [54, 6, 132, 9, 255, 132, 11, 1, 167, 255, 209, 132, 10, 1, 167, 255, 141, 45, 21, 4, 3, 96, 21, 5]
abbrev dktX2_decryptBlock_8 : List UInt8 := dkwX2_decryptBlock_8 ++ dktX2_decryptBlock_9
def dkwX2_decryptBlock_7 : List UInt8 := [21, 6, 21, 5, 130, 21, 9, 4, 96, 130, 54, 8, 42, 21, 9, 21, 6, 182, 0, 69, 54, 5, 21, 12]
abbrev dktX2_decryptBlock_7 : List UInt8 := dkwX2_decryptBlock_7 ++ dktX2_decryptBlock_8
def dkwX2_decryptBlock_6 : List UInt8 := [132, 11, 1, 167, 255, 209, 3, 54, 11, 21, 11, 16, 8, 162, 0, 46, 21, 7, 54, 12, 21, 8, 54, 7]
abbrev dktX2_decryptBlock_6 : List UInt8 := dkwX2_decryptBlock_6 ++ dktX2_decryptBlock_7
def dkwX2_decryptBlock_5 : List UInt8 := [21, 9, 21, 6, 182, 0, 69, 54, 5, 21, 5, 21, 12, 130, 21, 9, 4, 96, 130, 54, 6, 132, 9, 255]
abbrev dktX2_decryptBlock_5 : List UInt8 := dkwX2_decryptBlock_5 ++ dktX2_decryptBlock_6
def dkwX2_decryptBlock_4 : List UInt8 := [3, 54, 11, 21, 11, 16, 8, 162, 0, 46, 21, 7, 54, 12, 21, 8, 54, 7, 21, 5, 54, 8, 42]
abbrev dktX2_decryptBlock_4 : List UInt8 := dkwX2_decryptBlock_4 ++ dktX2_decryptBlock_5
def dkwX2_decryptBlock_3 : List UInt8 := [16, 7, 96, 51, 17, 0, 255, 126, 96, 54, 8, 16, 31, 54, 9, 3, 54, 10, 21, 10, 5, 162, 0, 115]
abbrev dktX2_decryptBlock_3 : List UInt8 := dkwX2_decryptBlock_3 ++ dktX2_decryptBlock_4
def dkwX2_decryptBlock_2 : List UInt8 := [43, 28, 8, 96, 51, 17, 0, 255, 126, 96, 54, 7, 43, 28, 16, 6, 96, 51, 16, 8, 120, 43, 28]
abbrev dktX2_decryptBlock_2 : List UInt8 := dkwX2_decryptBlock_2 ++ dktX2_decryptBlock_3
def dkwX2_decryptBlock_1 : List UInt8 := [51, 16, 8, 120, 43, 28, 6, 96, 51, 17, 0, 255, 126, 96, 54, 6, 43, 28, 7, 96, 51, 16, 8, 120]
abbrev dktX2_decryptBlock_1 : List UInt8 := dkwX2_decryptBlock_1 ++ dktX2_decryptBlock_2
def dkwX2_decryptBlock_0 : List UInt8 := [43, 28, 3, 96, 51, 16, 8, 120, 43, 28, 4, 96, 51, 17, 0, 255, 126, 96, 54, 5, 43, 28, 5, 96]
abbrev dktX2_decryptBlock_0 : List UInt8 := dkwX2_decryptBlock_0 ++ dktX2_decryptBlock_1
theorem dksX2_decryptBlock_0 : cX2_decryptBlock.data.toList.drop 0 = dktX2_decryptBlock_0 := by decide +kernel
theorem dksX2_decryptBlock_1 : cX2_decryptBlock.data.toList.drop 24 = dktX2_decryptBlock_1 := dk_seg dksX2_decryptBlock_0 24 rfl rfl
theorem dksX2_decryptBlock_2 : cX2_decryptBlock.data.toList.drop 48 = dktX2_decryptBlock_2 := dk_seg dksX2_decryptBlock_1 24 rfl rfl
theorem dksX2_decryptBlock_3 : cX2_decryptBlock.data.toList.drop 71 = dktX2_decryptBlock_3 := dk_seg dksX2_decryptBlock_2 23 rfl rfl
theorem dksX2_decryptBlock_4 : cX2_decryptBlock.data.toList.drop 95 = dktX2_decryptBlock_4 := dk_seg dksX2_decryptBlock_3 24 rfl rfl
theorem dksX2_decryptBlock_5 : cX2_decryptBlock.data.toList.drop 118 = dktX2_decryptBlock_5 := dk_seg dksX2_decryptBlock_4 23 rfl rfl
theorem dksX2_decryptBlock_6 : cX2_decryptBlock.data.toList.drop 142 = dktX2_decryptBlock_6 := dk_seg dksX2_decryptBlock_5 24 rfl rfl
theorem dksX2_decryptBlock_7 : cX2_decryptBlock.data.toList.drop 166 = dktX2_decryptBlock_7 := dk_seg dksX2_decryptBlock_6 24 rfl rfl
theorem dksX2_decryptBlock_8 : cX2_decryptBlock.data.toList.drop 190 = dktX2_decryptBlock_8 := dk_seg dksX2_decryptBlock_7 24 rfl rfl
theorem dksX2_decryptBlock_9 : cX2_decryptBlock.data.toList.drop 214 = dktX2_decryptBlock_9 := dk_seg dksX2_decryptBlock_8 24 rfl rfl
theorem dksX2_decryptBlock_10 : cX2_decryptBlock.data.toList.drop 238 = dktX2_decryptBlock_10 := dk_seg dksX2_decryptBlock_9 24 rfl rfl
theorem dksX2_decryptBlock_11 : cX2_decryptBlock.data.toList.drop 262 = dktX2_decryptBlock_11 := dk_seg dksX2_decryptBlock_10 24 rfl rfl
theorem dksX2_decryptBlock_12 : cX2_decryptBlock.data.toList.drop 286 = dktX2_decryptBlock_12 := dk_seg dksX2_decryptBlock_11 24 rfl rfl
theorem dX2_decryptBlock_0 : decode cX2_decryptBlock 0 = .ok (.aload_n 1, 1) := dk_43 (dk_at dksX2_decryptBlock_0 0 rfl rfl)
theorem dX2_decryptBlock_1 : decode cX2_decryptBlock 1 = .ok (.iload_n 2, 1) := dk_28 (dk_at dksX2_decryptBlock_0 1 rfl rfl)
theorem dX2_decryptBlock_2 : decode cX2_decryptBlock 2 = .ok (.iconst 0, 1) := dk_3 (dk_at dksX2_decryptBlock_0 2 rfl rfl)
theorem dX2_decryptBlock_3 : decode cX2_decryptBlock 3 = .ok (.iadd, 1) := dk_96 (dk_at dksX2_decryptBlock_0 3 rfl rfl)
theorem dX2_decryptBlock_4 : decode cX2_decryptBlock 4 = .ok (.baload, 1) := dk_51 (dk_at dksX2_decryptBlock_0 4 rfl rfl)
theorem dX2_decryptBlock_5 : decode cX2_decryptBlock 5 = .ok (.bipush 8, 2) := dk_16 8 (dk_at dksX2_decryptBlock_0 5 rfl rfl)
theorem dX2_decryptBlock_7 : decode cX2_decryptBlock 7 = .ok (.ishl, 1) := dk_120 (dk_at dksX2_decryptBlock_0 7 rfl rfl)
theorem dX2_decryptBlock_8 : decode cX2_decryptBlock 8 = .ok (.aload_n 1, 1) := dk_43 (dk_at dksX2_decryptBlock_0 8 rfl rfl)
theorem dX2_decryptBlock_9 : decode cX2_decryptBlock 9 = .ok (.iload_n 2, 1) := dk_28 (dk_at dksX2_decryptBlock_0 9 rfl rfl)
theorem dX2_decryptBlock_10 : decode cX2_decryptBlock 10 = .ok (.iconst 1, 1) := dk_4 (dk_at dksX2_decryptBlock_0 10 rfl rfl)
theorem dX2_decryptBlock_11 : decode cX2_decryptBlock 11 = .ok (.iadd, 1) := dk_96 (dk_at dksX2_decryptBlock_0 11 rfl rfl)
theorem dX2_decryptBlock_12 : decode cX2_decryptBlock 12 = .ok (.baload, 1) := dk_51 (dk_at dksX2_decryptBlock_0 12 rfl rfl)
theorem dX2_decryptBlock_13 : decode cX2_decryptBlock 13 = .ok (.sipush 255, 3) := dk_17 0 255 (dk_at dksX2_decryptBlock_0 13 rfl rfl)
theorem dX2_decryptBlock_16 : decode cX2_decryptBlock 16 = .ok (.iand, 1) := dk_126 (dk_at dksX2_decryptBlock_0 16 rfl rfl)
theorem dX2_decryptBlock_17 : decode cX2_decryptBlock 17 = .ok (.iadd, 1) := dk_96 (dk_at dksX2_decryptBlock_0 17 rfl rfl)
theorem dX2_decryptBlock_18 : decode cX2_decryptBlock 18 = .ok (.istore 5, 2) := dk_54 5 (dk_at dksX2_decryptBlock_0 18 rfl rfl)
theorem dX2_decryptBlock_20 : decode cX2_decryptBlock 20 = .ok (.aload_n 1, 1) := dk_43 (dk_at dksX2_decryptBlock_0 20 rfl rfl)
theorem dX2_decryptBlock_21 : decode cX2_decryptBlock 21 = .ok (.iload_n 2, 1) := dk_28 (dk_at dksX2_decryptBlock_0 21 rfl rfl)
theorem dX2_decryptBlock_22 : decode cX2_decryptBlock 22 = .ok (.iconst 2, 1) := dk_5 (dk_at dksX2_decryptBlock_0 22 rfl rfl)
theorem dX2_decryptBlock_23 : decode cX2_decryptBlock 23 = .ok (.iadd, 1) := dk_96 (dk_at dksX2_decryptBlock_0 23 rfl rfl)
theorem dX2_decryptBlock_24 : decode cX2_decryptBlock 24 = .ok (.baload, 1) := dk_51 (dk_at dksX2_decryptBlock_1 0 rfl rfl)
theorem dX2_decryptBlock_25 : decode cX2_decryptBlock 25 = .ok (.bipush 8, 2) := dk_16 8 (dk_at dksX2_decryptBlock_1 1 rfl rfl)
theorem dX2_decryptBlock_27 : decode cX2_decryptBlock 27 = .ok (.ishl, 1) := dk_120 (dk_at dksX2_decryptBlock_1 3 rfl rfl)
theorem dX2_decryptBlock_28 : decode cX2_decryptBlock 28 = .ok (.aload_n 1, 1) := dk_43 (dk_at dksX2_decryptBlock_1 4 rfl rfl)
theorem dX2_decryptBlock_29 : decode cX2_decryptBlock 29 = .ok (.iload_n 2, 1) := dk_28 (dk_at dksX2_decryptBlock_1 5 rfl rfl)
theorem dX2_decryptBlock_30 : decode cX2_decryptBlock 30 = .ok (.iconst 3, 1) := dk_6 (dk_at dksX2_decryptBlock_1 6 rfl rfl)
theorem dX2_decryptBlock_31 : decode cX2_decryptBlock 31 = .ok (.iadd, 1) := dk_96 (dk_at dksX2_decryptBlock_1 7 rfl rfl)
theorem dX2_decryptBlock_32 : decode cX2_decryptBlock 32 = .ok (.baload, 1) := dk_51 (dk_at dksX2_decryptBlock_1 8 rfl rfl)
theorem dX2_decryptBlock_33 : decode cX2_decryptBlock 33 = .ok (.sipush 255, 3) := dk_17 0 255 (dk_at dksX2_decryptBlock_1 9 rfl rfl)
theorem dX2_decryptBlock_36 : decode cX2_decryptBlock 36 = .ok (.iand, 1) := dk_126 (dk_at dksX2_decryptBlock_1 12 rfl rfl)
theorem dX2_decryptBlock_37 : decode cX2_decryptBlock 37 = .ok (.iadd, 1) := dk_96 (dk_at dksX2_decryptBlock_1 13 rfl rfl)
theorem dX2_decryptBlock_38 : decode cX2_decryptBlock 38 = .ok (.istore 6, 2) := dk_54 6 (dk_at dksX2_decryptBlock_1 14 rfl rfl)
theorem dX2_decryptBlock_40 : decode cX2_decryptBlock 40 = .ok (.aload_n 1, 1) := dk_43 (dk_at dksX2_decryptBlock_1 16 rfl rfl)
theorem dX2_decryptBlock_41 : decode cX2_decryptBlock 41 = .ok (.iload_n 2, 1) := dk_28 (dk_at dksX2_decryptBlock_1 17 rfl rfl)
theorem dX2_decryptBlock_42 : decode cX2_decryptBlock 42 = .ok (.iconst 4, 1) := dk_7 (dk_at dksX2_decryptBlock_1 18 rfl rfl)
theorem dX2_decryptBlock_43 : decode cX2_decryptBlock 43 = .ok (.iadd, 1) := dk_96 (dk_at dksX2_decryptBlock_1 19 rfl rfl)
theorem dX2_decryptBlock_44 : decode cX2_decryptBlock 44 = .ok (.baload, 1) := dk_51 (dk_at dksX2_decryptBlock_1 20 rfl rfl)
theorem dX2_decryptBlock_45 : decode cX2_decryptBlock 45 = .ok (.bipush 8, 2) := dk_16 8 (dk_at dksX2_decryptBlock_1 21 rfl rfl)
theorem dX2_decryptBlock_47 : decode cX2_decryptBlock 47 = .ok (.ishl, 1) := dk_120 (dk_at dksX2_decryptBlock_1 23 rfl rfl)
theorem dX2_decryptBlock_48 : decode cX2_decryptBlock 48 = .ok (.aload_n 1, 1) := dk_43 (dk_at dksX2_decryptBlock_2 0 rfl rfl)
theorem dX2_decryptBlock_49 : decode cX2_decryptBlock 49 = .ok (.iload_n 2, 1) := dk_28 (dk_at dksX2_decryptBlock_2 1 rfl rfl)
theorem dX2_decryptBlock_50 : decode cX2_decryptBlock 50 = .ok (.iconst 5, 1) := dk_8 (dk_at dksX2_decryptBlock_2 2 rfl rfl)
theorem dX2_decryptBlock_51 : decode cX2_decryptBlock 51 = .ok (.iadd, 1) := dk_96 (dk_at dksX2_decryptBlock_2 3 rfl rfl)
theorem dX2_decryptBlock_52 : decode cX2_decryptBlock 52 = .ok (.baload, 1) := dk_51 (dk_at dksX2_decryptBlock_2 4 rfl rfl)
theorem dX2_decryptBlock_53 : decode cX2_decryptBlock 53 = .ok (.sipush 255, 3) := dk_17 0 255 (dk_at dksX2_decryptBlock_2 5 rfl rfl)
theorem dX2_decryptBlock_56 : decode cX2_decryptBlock 56 = .ok (.iand, 1) := dk_126 (dk_at dksX2_decryptBlock_2 8 rfl rfl)
theorem dX2_decryptBlock_57 : decode cX2_decryptBlock 57 = .ok (.iadd, 1) := dk_96 (dk_at dksX2_decryptBlock_2 9 rfl rfl)
theorem dX2_decryptBlock_58 : decode cX2_decryptBlock 58 = .ok (.istore 7, 2) := dk_54 7 (dk_at dksX2_decryptBlock_2 10 rfl rfl)
theorem dX2_decryptBlock_60 : decode cX2_decryptBlock 60 = .ok (.aload_n 1, 1) := dk_43 (dk_at dksX2_decryptBlock_2 12 rfl rfl)
theorem dX2_decryptBlock_61 : decode cX2_decryptBlock 61 = .ok (.iload_n 2, 1) := dk_28 (dk_at dksX2_decryptBlock_2 13 rfl rfl)
theorem dX2_decryptBlock_62 : decode cX2_decryptBlock 62 = .ok (.bipush 6, 2) := dk_16 6 (dk_at dksX2_decryptBlock_2 14 rfl rfl)
theorem dX2_decryptBlock_64 : decode cX2_decryptBlock 64 = .ok (.iadd, 1) := dk_96 (dk_at dksX2_decryptBlock_2 16 rfl rfl)
theorem dX2_decryptBlock_65 : decode cX2_decryptBlock 65 = .ok (.baload, 1) := dk_51 (dk_at dksX2_decryptBlock_2 17 rfl rfl)
theorem dX2_decryptBlock_66 : decode cX2_decryptBlock 66 = .ok (.bipush 8, 2) := dk_16 8 (dk_at dksX2_decryptBlock_2 18 rfl rfl)
theorem dX2_decryptBlock_68 : decode cX2_decryptBlock 68 = .ok (.ishl, 1) := dk_120 (dk_at dksX2_decryptBlock_2 20 rfl rfl)
theorem dX2_decryptBlock_69 : decode cX2_decryptBlock 69 = .ok (.aload_n 1, 1) := dk_43 (dk_at dksX2_decryptBlock_2 21 rfl rfl)
theorem dX2_decryptBlock_70 : decode cX2_decryptBlock 70 = .ok (.iload_n 2, 1) := dk_28 (dk_at dksX2_decryptBlock_2 22 rfl rfl)
theorem dX2_decryptBlock_71 : decode cX2_decryptBlock 71 = .ok (.bipush 7, 2) := dk_16 7 (dk_at dksX2_decryptBlock_3 0 rfl rfl)
theorem dX2_decryptBlock_73 : decode cX2_decryptBlock 73 = .ok (.iadd, 1) := dk_96 (dk_at dksX2_decryptBlock_3 2 rfl rfl)
theorem dX2_decryptBlock_74 : decode cX2_decryptBlock 74 = .ok (.baload, 1) := dk_51 (dk_at dksX2_decryptBlock_3 3 rfl rfl)
theorem dX2_decryptBlock_75 : decode cX2_decryptBlock 75 = .ok (.sipush 255, 3) := dk_17 0 255 (dk_at dksX2_decryptBlock_3 4 rfl rfl)
theorem dX2_decryptBlock_78 : decode cX2_decryptBlock 78 = .ok (.iand, 1) := dk_126 (dk_at dksX2_decryptBlock_3 7 rfl rfl)
theorem dX2_decryptBlock_79 : decode cX2_decryptBlock 79 = .ok (.iadd, 1) := dk_96 (dk_at dksX2_decryptBlock_3 8 rfl rfl)
theorem dX2_decryptBlock_80 : decode cX2_decryptBlock 80 = .ok (.istore 8, 2) := dk_54 8 (dk_at dksX2_decryptBlock_3 9 rfl rfl)
theorem dX2_decryptBlock_82 : decode cX2_decryptBlock 82 = .ok (.bipush 31, 2) := dk_16 31 (dk_at dksX2_decryptBlock_3 11 rfl rfl)
theorem dX2_decryptBlock_84 : decode cX2_decryptBlock 84 = .ok (.istore 9, 2) := dk_54 9 (dk_at dksX2_decryptBlock_3 13 rfl rfl)
theorem dX2_decryptBlock_86 : decode cX2_decryptBlock 86 = .ok (.iconst 0, 1) := dk_3 (dk_at dksX2_decryptBlock_3 15 rfl rfl)
theorem dX2_decryptBlock_87 : decode cX2_decryptBlock 87 = .ok (.istore 10, 2) := dk_54 10 (dk_at dksX2_decryptBlock_3 16 rfl rfl)
theorem dX2_decryptBlock_89 : decode cX2_decryptBlock 89 = .ok (.iload 10, 2) := dk_21 10 (dk_at dksX2_decryptBlock_3 18 rfl rfl)
theorem dX2_decryptBlock_91 : decode cX2_decryptBlock 91 = .ok (.iconst 2, 1) := dk_5 (dk_at dksX2_decryptBlock_3 20 rfl rfl)
theorem dX2_decryptBlock_92 : decode cX2_decryptBlock 92 = .ok (.if_icmp .ge 115, 3) := dk_162 0 115 (dk_at dksX2_decryptBlock_3 21 rfl rfl)
theorem dX2_decryptBlock_95 : decode cX2_decryptBlock 95 = .ok (.iconst 0, 1) := dk_3 (dk_at dksX2_decryptBlock_4 0 rfl rfl)
theorem dX2_decryptBlock_96 : decode cX2_decryptBlock 96 = .ok (.istore 11, 2) := dk_54 11 (dk_at dksX2_decryptBlock_4 1 rfl rfl)
theorem dX2_decryptBlock_98 : decode cX2_decryptBlock 98 = .ok (.iload 11, 2) := dk_21 11 (dk_at dksX2_decryptBlock_4 3 rfl rfl)
theorem dX2_decryptBlock_100 : decode cX2_decryptBlock 100 = .ok (.bipush 8, 2) := dk_16 8 (dk_at dksX2_decryptBlock_4 5 rfl rfl)
theorem dX2_decryptBlock_102 : decode cX2_decryptBlock 102 = .ok (.if_icmp .ge 46, 3) := dk_162 0 46 (dk_at dksX2_decryptBlock_4 7 rfl rfl)
theorem dX2_decryptBlock_105 : decode cX2_decryptBlock 105 = .ok (.iload 7, 2) := dk_21 7 (dk_at dksX2_decryptBlock_4 10 rfl rfl)
theorem dX2_decryptBlock_107 : decode cX2_decryptBlock 107 = .ok (.istore 12, 2) := dk_54 12 (dk_at dksX2_decryptBlock_4 12 rfl rfl)
theorem dX2_decryptBlock_109 : decode cX2_decryptBlock 109 = .ok (.iload 8, 2) := dk_21 8 (dk_at dksX2_decryptBlock_4 14 rfl rfl)
theorem dX2_decryptBlock_111 : decode cX2_decryptBlock 111 = .ok (.istore 7, 2) := dk_54 7 (dk_at dksX2_decryptBlock_4 16 rfl rfl)
theorem dX2_decryptBlock_113 : decode cX2_decryptBlock 113 = .ok (.iload 5, 2) := dk_21 5 (dk_at dksX2_decryptBlock_4 18 rfl rfl)
theorem dX2_decryptBlock_115 : decode cX2_decryptBlock 115 = .ok (.istore 8, 2) := dk_54 8 (dk_at dksX2_decryptBlock_4 20 rfl rfl)
theorem dX2_decryptBlock_117 : decode cX2_decryptBlock 117 = .ok (.aload_n 0, 1) := dk_42 (dk_at dksX2_decryptBlock_4 22 rfl rfl)
theorem dX2_decryptBlock_118 : decode cX2_decryptBlock 118 = .ok (.iload 9, 2) := dk_21 9 (dk_at dksX2_decryptBlock_5 0 rfl rfl)
theorem dX2_decryptBlock_120 : decode cX2_decryptBlock 120 = .ok (.iload 6, 2) := dk_21 6 (dk_at dksX2_decryptBlock_5 2 rfl rfl)
theorem dX2_decryptBlock_122 : decode cX2_decryptBlock 122 = .ok (.invokevirtual 69, 3) := dk_182 0 69 (dk_at dksX2_decryptBlock_5 4 rfl rfl)
theorem dX2_decryptBlock_125 : decode cX2_decryptBlock 125 = .ok (.istore 5, 2) := dk_54 5 (dk_at dksX2_decryptBlock_5 7 rfl rfl)
theorem dX2_decryptBlock_127 : decode cX2_decryptBlock 127 = .ok (.iload 5, 2) := dk_21 5 (dk_at dksX2_decryptBlock_5 9 rfl rfl)
theorem dX2_decryptBlock_129 : decode cX2_decryptBlock 129 = .ok (.iload 12, 2) := dk_21 12 (dk_at dksX2_decryptBlock_5 11 rfl rfl)
theorem dX2_decryptBlock_131 : decode cX2_decryptBlock 131 = .ok (.ixor, 1) := dk_130 (dk_at dksX2_decryptBlock_5 13 rfl rfl)
theorem dX2_decryptBlock_132 : decode cX2_decryptBlock 132 = .ok (.iload 9, 2) := dk_21 9 (dk_at dksX2_decryptBlock_5 14 rfl rfl)
theorem dX2_decryptBlock_134 : decode cX2_decryptBlock 134 = .ok (.iconst 1, 1) := dk_4 (dk_at dksX2_decryptBlock_5 16 rfl rfl)
theorem dX2_decryptBlock_135 : decode cX2_decryptBlock 135 = .ok (.iadd, 1) := dk_96 (dk_at dksX2_decryptBlock_5 17 rfl rfl)
theorem dX2_decryptBlock_136 : decode cX2_decryptBlock 136 = .ok (.ixor, 1) := dk_130 (dk_at dksX2_decryptBlock_5 18 rfl rfl)
theorem dX2_decryptBlock_137 : decode cX2_decryptBlock 137 = .ok (.istore 6, 2) := dk_54 6 (dk_at dksX2_decryptBlock_5 19 rfl rfl)
theorem dX2_decryptBlock_139 : decode cX2_decryptBlock 139 = .ok (.iinc 9 (-1), 3) := dk_132 9 255 (dk_at dksX2_decryptBlock_5 21 rfl rfl)
theorem dX2_decryptBlock_142 : decode cX2_decryptBlock 142 = .ok (.iinc 11 1, 3) := dk_132 11 1 (dk_at dksX2_decryptBlock_6 0 rfl rfl)
theorem dX2_decryptBlock_145 : decode cX2_decryptBlock 145 = .ok (.goto (-47), 3) := dk_167 255 209 (dk_at dksX2_decryptBlock_6 3 rfl rfl)
theorem dX2_decryptBlock_148 : decode cX2_decryptBlock 148 = .ok (.iconst 0, 1) := dk_3 (dk_at dksX2_decryptBlock_6 6 rfl rfl)
theorem dX2_decryptBlock_149 : decode cX2_decryptBlock 149 = .ok (.istore 11, 2) := dk_54 11 (dk_at dksX2_decryptBlock_6 7 rfl rfl)
theorem dX2_decryptBlock_151 : decode cX2_decryptBlock 151 = .ok (.iload 11, 2) := dk_21 11 (dk_at dksX2_decryptBlock_6 9 rfl rfl)
theorem dX2_decryptBlock_153 : decode cX2_decryptBlock 153 = .ok (.bipush 8, 2) := dk_16 8 (dk_at dksX2_decryptBlock_6 11 rfl rfl)
theorem dX2_decryptBlock_155 : decode cX2_decryptBlock 155 = .ok (.if_icmp .ge 46, 3) := dk_162 0 46 (dk_at dksX2_decryptBlock_6 13 rfl rfl)
theorem dX2_decryptBlock_158 : decode cX2_decryptBlock 158 = .ok (.iload 7, 2) := dk_21 7 (dk_at dksX2_decryptBlock_6 16 rfl rfl)
theorem dX2_decryptBlock_160 : decode cX2_decryptBlock 160 = .ok (.istore 12, 2) := dk_54 12 (dk_at dksX2_decryptBlock_6 18 rfl rfl)
theorem dX2_decryptBlock_162 : decode cX2_decryptBlock 162 = .ok (.iload 8, 2) := dk_21 8 (dk_at dksX2_decryptBlock_6 20 rfl rfl)
theorem dX2_decryptBlock_164 : decode cX2_decryptBlock 164 = .ok (.istore 7, 2) := dk_54 7 (dk_at dksX2_decryptBlock_6 22 rfl rfl)
theorem dX2_decryptBlock_166 : decode cX2_decryptBlock 166 = .ok (.iload 6, 2) := dk_21 6 (dk_at dksX2_decryptBlock_7 0 rfl rfl)
theorem dX2_decryptBlock_168 : decode cX2_decryptBlock 168 = .ok (.iload 5, 2) := dk_21 5 (dk_at dksX2_decryptBlock_7 2 rfl rfl)
theorem dX2_decryptBlock_170 : decode cX2_decryptBlock 170 = .ok (.ixor, 1) := dk_130 (dk_at dksX2_decryptBlock_7 4 rfl rfl)
theorem dX2_decryptBlock_171 : decode cX2_decryptBlock 171 = .ok (.iload 9, 2) := dk_21 9 (dk_at dksX2_decryptBlock_7 5 rfl rfl)
theorem dX2_decryptBlock_173 : decode cX2_decryptBlock 173 = .ok (.iconst 1, 1) := dk_4 (dk_at dksX2_decryptBlock_7 7 rfl rfl)
theorem dX2_decryptBlock_174 : decode cX2_decryptBlock 174 = .ok (.iadd, 1) := dk_96 (dk_at dksX2_decryptBlock_7 8 rfl rfl)
theorem dX2_decryptBlock_175 : decode cX2_decryptBlock 175 = .ok (.ixor, 1) := dk_130 (dk_at dksX2_decryptBlock_7 9 rfl rfl)
theorem dX2_decryptBlock_176 : decode cX2_decryptBlock 176 = .ok (.istore 8, 2) := dk_54 8 (dk_at dksX2_decryptBlock_7 10 rfl rfl)
theorem dX2_decryptBlock_178 : decode cX2_decryptBlock 178 = .ok (.aload_n 0, 1) := dk_42 (dk_at dksX2_decryptBlock_7 12 rfl rfl)
theorem dX2_decryptBlock_179 : decode cX2_decryptBlock 179 = .ok (.iload 9, 2) := dk_21 9 (dk_at dksX2_decryptBlock_7 13 rfl rfl)
theorem dX2_decryptBlock_181 : decode cX2_decryptBlock 181 = .ok (.iload 6, 2) := dk_21 6 (dk_at dksX2_decryptBlock_7 15 rfl rfl)
theorem dX2_decryptBlock_183 : decode cX2_decryptBlock 183 = .ok (.invokevirtual 69, 3) := dk_182 0 69 (dk_at dksX2_decryptBlock_7 17 rfl rfl)
theorem dX2_decryptBlock_186 : decode cX2_decryptBlock 186 = .ok (.istore 5, 2) := dk_54 5 (dk_at dksX2_decryptBlock_7 20 rfl rfl)
theorem dX2_decryptBlock_188 : decode cX2_decryptBlock 188 = .ok (.iload 12, 2) := dk_21 12 (dk_at dksX2_decryptBlock_7 22 rfl rfl)
theorem dX2_decryptBlock_190 : decode cX2_decryptBlock 190 = .ok (.istore 6, 2) := dk_54 6 (dk_at dksX2_decryptBlock_8 0 rfl rfl)
theorem dX2_decryptBlock_192 : decode cX2_decryptBlock 192 = .ok (.iinc 9 (-1), 3) := dk_132 9 255 (dk_at dksX2_decryptBlock_8 2 rfl rfl)
theorem dX2_decryptBlock_195 : decode cX2_decryptBlock 195 = .ok (.iinc 11 1, 3) := dk_132 11 1 (dk_at dksX2_decryptBlock_8 5 rfl rfl)
theorem dX2_decryptBlock_198 : decode cX2_decryptBlock 198 = .ok (.goto (-47), 3) := dk_167 255 209 (dk_at dksX2_decryptBlock_8 8 rfl rfl)
theorem dX2_decryptBlock_201 : decode cX2_decryptBlock 201 = .ok (.iinc 10 1, 3) := dk_132 10 1 (dk_at dksX2_decryptBlock_8 11 rfl rfl)
theorem dX2_decryptBlock_204 : decode cX2_decryptBlock 204 = .ok (.goto (-115), 3) := dk_167 255 141 (dk_at dksX2_decryptBlock_8 14 rfl rfl)
theorem dX2_decryptBlock_207 : decode cX2_decryptBlock 207 = .ok (.aload_n 3, 1) := dk_45 (dk_at dksX2_decryptBlock_8 17 rfl rfl)
theorem dX2_decryptBlock_208 : decode cX2_decryptBlock 208 = .ok (.iload 4, 2) := dk_21 4 (dk_at dksX2_decryptBlock_8 18 rfl rfl)
theorem dX2_decryptBlock_210 : decode cX2_decryptBlock 210 = .ok (.iconst 0, 1) := dk_3 (dk_at dksX2_decryptBlock_8 20 rfl rfl)
theorem dX2_decryptBlock_211 : decode cX2_decryptBlock 211 = .ok (.iadd, 1) := dk_96 (dk_at dksX2_decryptBlock_8 21 rfl rfl)
theorem dX2_decryptBlock_212 : decode cX2_decryptBlock 212 = .ok (.iload 5, 2) := dk_21 5 (dk_at dksX2_decryptBlock_8 22 rfl rfl)
theorem dX2_decryptBlock_214 : decode cX2_decryptBlock 214 = .ok (.bipush 8, 2) := dk_16 8 (dk_at dksX2_decryptBlock_9 0 rfl rfl)
theorem dX2_decryptBlock_216 : decode cX2_decryptBlock 216 = .ok (.ishr, 1) := dk_122 (dk_at dksX2_decryptBlock_9 2 rfl rfl)
theorem dX2_decryptBlock_217 : decode cX2_decryptBlock 217 = .ok (.i2b, 1) := dk_145 (dk_at dksX2_decryptBlock_9 3 rfl rfl)
theorem dX2_decryptBlock_218 : decode cX2_decryptBlock 218 = .ok (.bastore, 1) := dk_84 (dk_at dksX2_decryptBlock_9 4 rfl rfl)
theorem dX2_decryptBlock_219 : decode cX2_decryptBlock 219 = .ok (.aload_n 3, 1) := dk_45 (dk_at dksX2_decryptBlock_9 5 rfl rfl)
theorem dX2_decryptBlock_220 : decode cX2_decryptBlock 220 = .ok (.iload 4, 2) := dk_21 4 (dk_at dksX2_decryptBlock_9 6 rfl rfl)
theorem dX2_decryptBlock_222 : decode cX2_decryptBlock 222 = .ok (.iconst 1, 1) := dk_4 (dk_at dksX2_decryptBlock_9 8 rfl rfl)
theorem dX2_decryptBlock_223 : decode cX2_decryptBlock 223 = .ok (.iadd, 1) := dk_96 (dk_at dksX2_decryptBlock_9 9 rfl rfl)
theorem dX2_decryptBlock_224 : decode cX2_decryptBlock 224 = .ok (.iload 5, 2) := dk_21 5 (dk_at dksX2_decryptBlock_9 10 rfl rfl)
theorem dX2_decryptBlock_226 : decode cX2_decryptBlock 226 = .ok (.i2b, 1) := dk_145 (dk_at dksX2_decryptBlock_9 12 rfl rfl)
theorem dX2_decryptBlock_227 : decode cX2_decryptBlock 227 = .ok (.bastore, 1) := dk_84 (dk_at dksX2_decryptBlock_9 13 rfl rfl)
theorem dX2_decryptBlock_228 : decode cX2_decryptBlock 228 = .ok (.aload_n 3, 1) := dk_45 (dk_at dksX2_decryptBlock_9 14 rfl rfl)
theorem dX2_decryptBlock_229 : decode cX2_decryptBlock 229 = .ok (.iload 4, 2) := dk_21 4 (dk_at dksX2_decryptBlock_9 15 rfl rfl)
theorem dX2_decryptBlock_231 : decode cX2_decryptBlock 231 = .ok (.iconst 2, 1) := dk_5 (dk_at dksX2_decryptBlock_9 17 rfl rfl)
theorem dX2_decryptBlock_232 : decode cX2_decryptBlock 232 = .ok (.iadd, 1) := dk_96 (dk_at dksX2_decryptBlock_9 18 rfl rfl)
theorem dX2_decryptBlock_233 : decode cX2_decryptBlock 233 = .ok (.iload 6, 2) := dk_21 6 (dk_at dksX2_decryptBlock_9 19 rfl rfl)
theorem dX2_decryptBlock_235 : decode cX2_decryptBlock 235 = .ok (.bipush 8, 2) := dk_16 8 (dk_at dksX2_decryptBlock_9 21 rfl rfl)
theorem dX2_decryptBlock_237 : decode cX2_decryptBlock 237 = .ok (.ishr, 1) := dk_122 (dk_at dksX2_decryptBlock_9 23 rfl rfl)
theorem dX2_decryptBlock_238 : decode cX2_decryptBlock 238 = .ok (.i2b, 1) := dk_145 (dk_at dksX2_decryptBlock_10 0 rfl rfl)
theorem dX2_decryptBlock_239 : decode cX2_decryptBlock 239 = .ok (.bastore, 1) := dk_84 (dk_at dksX2_decryptBlock_10 1 rfl rfl)
theorem dX2_decryptBlock_240 : decode cX2_decryptBlock 240 = .ok (.aload_n 3, 1) := dk_45 (dk_at dksX2_decryptBlock_10 2 rfl rfl)
theorem dX2_decryptBlock_241 : decode cX2_decryptBlock 241 = .ok (.iload 4, 2) := dk_21 4 (dk_at dksX2_decryptBlock_10 3 rfl rfl)
theorem dX2_decryptBlock_243 : decode cX2_decryptBlock 243 = .ok (.iconst 3, 1) := dk_6 (dk_at dksX2_decryptBlock_10 5 rfl rfl)
theorem dX2_decryptBlock_244 : decode cX2_decryptBlock 244 = .ok (.iadd, 1) := dk_96 (dk_at dksX2_decryptBlock_10 6 rfl rfl)
theorem dX2_decryptBlock_245 : decode cX2_decryptBlock 245 = .ok (.iload 6, 2) := dk_21 6 (dk_at dksX2_decryptBlock_10 7 rfl rfl)
theorem dX2_decryptBlock_247 : decode cX2_decryptBlock 247 = .ok (.i2b, 1) := dk_145 (dk_at dksX2_decryptBlock_10 9 rfl rfl)
theorem dX2_decryptBlock_248 : decode cX2_decryptBlock 248 = .ok (.bastore, 1) := dk_84 (dk_at dksX2_decryptBlock_10 10 rfl rfl)
theorem dX2_decryptBlock_249 : decode cX2_decryptBlock 249 = .ok (.aload_n 3, 1) := dk_45 (dk_at dksX2_decryptBlock_10 11 rfl rfl)
theorem dX2_decryptBlock_250 : decode cX2_decryptBlock 250 = .ok (.iload 4, 2) := dk_21 4 (dk_at dksX2_decryptBlock_10 12 rfl rfl)
theorem dX2_decryptBlock_252 : decode cX2_decryptBlock 252 = .ok (.iconst 4, 1) := dk_7 (dk_at dksX2_decryptBlock_10 14 rfl rfl)
theorem dX2_decryptBlock_253 : decode cX2_decryptBlock 253 = .ok (.iadd, 1) := dk_96 (dk_at dksX2_decryptBlock_10 15 rfl rfl)
theorem dX2_decryptBlock_254 : decode cX2_decryptBlock 254 = .ok (.iload 7, 2) := dk_21 7 (dk_at dksX2_decryptBlock_10 16 rfl rfl)
theorem dX2_decryptBlock_256 : decode cX2_decryptBlock 256 = .ok (.bipush 8, 2) := dk_16 8 (dk_at dksX2_decryptBlock_10 18 rfl rfl)
theorem dX2_decryptBlock_258 : decode cX2_decryptBlock 258 = .ok (.ishr, 1) := dk_122 (dk_at dksX2_decryptBlock_10 20 rfl rfl)
theorem dX2_decryptBlock_259 : decode cX2_decryptBlock 259 = .ok (.i2b, 1) := dk_145 (dk_at dksX2_decryptBlock_10 21 rfl rfl)
theorem dX2_decryptBlock_260 : decode cX2_decryptBlock 260 = .ok (.bastore, 1) := dk_84 (dk_at dksX2_decryptBlock_10 22 rfl rfl)
theorem dX2_decryptBlock_261 : decode cX2_decryptBlock 261 = .ok (.aload_n 3, 1) := dk_45 (dk_at dksX2_decryptBlock_10 23 rfl rfl)
theorem dX2_decryptBlock_262 : decode cX2_decryptBlock 262 = .ok (.iload 4, 2) := dk_21 4 (dk_at dksX2_decryptBlock_11 0 rfl rfl)
theorem dX2_decryptBlock_264 : decode cX2_decryptBlock 264 = .ok (.iconst 5, 1) := dk_8 (dk_at dksX2_decryptBlock_11 2 rfl rfl)
theorem dX2_decryptBlock_265 : decode cX2_decryptBlock 265 = .ok (.iadd, 1) := dk_96 (dk_at dksX2_decryptBlock_11 3 rfl rfl)
theorem dX2_decryptBlock_266 : decode cX2_decryptBlock 266 = .ok (.iload 7, 2) := dk_21 7 (dk_at dksX2_decryptBlock_11 4 rfl rfl)
theorem dX2_decryptBlock_268 : decode cX2_decryptBlock 268 = .ok (.i2b, 1) := dk_145 (dk_at dksX2_decryptBlock_11 6 rfl rfl)
theorem dX2_decryptBlock_269 : decode cX2_decryptBlock 269 = .ok (.bastore, 1) := dk_84 (dk_at dksX2_decryptBlock_11 7 rfl rfl)
theorem dX2_decryptBlock_270 : decode cX2_decryptBlock 270 = .ok (.aload_n 3, 1) := dk_45 (dk_at dksX2_decryptBlock_11 8 rfl rfl)
theorem dX2_decryptBlock_271 : decode cX2_decryptBlock 271 = .ok (.iload 4, 2) := dk_21 4 (dk_at dksX2_decryptBlock_11 9 rfl rfl)
theorem dX2_decryptBlock_273 : decode cX2_decryptBlock 273 = .ok (.bipush 6, 2) := dk_16 6 (dk_at dksX2_decryptBlock_11 11 rfl rfl)
theorem dX2_decryptBlock_275 : decode cX2_decryptBlock 275 = .ok (.iadd, 1) := dk_96 (dk_at dksX2_decryptBlock_11 13 rfl rfl)
theorem dX2_decryptBlock_276 : decode cX2_decryptBlock 276 = .ok (.iload 8, 2) := dk_21 8 (dk_at dksX2_decryptBlock_11 14 rfl rfl)
theorem dX2_decryptBlock_278 : decode cX2_decryptBlock 278 = .ok (.bipush 8, 2) := dk_16 8 (dk_at dksX2_decryptBlock_11 16 rfl rfl)
theorem dX2_decryptBlock_280 : decode cX2_decryptBlock 280 = .ok (.ishr, 1) := dk_122 (dk_at dksX2_decryptBlock_11 18 rfl rfl)
theorem dX2_decryptBlock_281 : decode cX2_decryptBlock 281 = .ok (.i2b, 1) := dk_145 (dk_at dksX2_decryptBlock_11 19 rfl rfl)
theorem dX2_decryptBlock_282 : decode cX2_decryptBlock 282 = .ok (.bastore, 1) := dk_84 (dk_at dksX2_decryptBlock_11 20 rfl rfl)
theorem dX2_decryptBlock_283 : decode cX2_decryptBlock 283 = .ok (.aload_n 3, 1) := dk_45 (dk_at dksX2_decryptBlock_11 21 rfl rfl)
theorem dX2_decryptBlock_284 : decode cX2_decryptBlock 284 = .ok (.iload 4, 2) := dk_21 4 (dk_at dksX2_decryptBlock_11 22 rfl rfl)
theorem dX2_decryptBlock_286 : decode cX2_decryptBlock 286 = .ok (.bipush 7, 2) := dk_16 7 (dk_at dksX2_decryptBlock_12 0 rfl rfl)
theorem dX2_decryptBlock_288 : decode cX2_decryptBlock 288 = .ok (.iadd, 1) := dk_96 (dk_at dksX2_decryptBlock_12 2 rfl rfl)
theorem dX2_decryptBlock_289 : decode cX2_decryptBlock 289 = .ok (.iload 8, 2) := dk_21 8 (dk_at dksX2_decryptBlock_12 3 rfl rfl)
theorem dX2_decryptBlock_291 : decode cX2_decryptBlock 291 = .ok (.i2b, 1) := dk_145 (dk_at dksX2_decryptBlock_12 5 rfl rfl)
theorem dX2_decryptBlock_292 : decode cX2_decryptBlock 292 = .ok (.bastore, 1) := dk_84 (dk_at dksX2_decryptBlock_12 6 rfl rfl)
theorem dX2_decryptBlock_293 : decode cX2_decryptBlock 293 = .ok (.bipush 8, 2) := dk_16 8 (dk_at dksX2_decryptBlock_12 7 rfl rfl)
theorem dX2_decryptBlock_295 : decode cX2_decryptBlock 295 = .ok (.ireturn, 1) := dk_172 (dk_at dksX2_decryptBlock_12 9 rfl rfl)
abbrev cX2_h : ByteArray := prog_10_method_6_code
def yX2_h : MethodName := ⟨RX2, "h", "(II)I"⟩
def dkwX2_h_4 : List UInt8 := [21, 7, 96, 172]
abbrev dktX2_h_4 : List UInt8 := dkwX2_h_4 ++ []
def dkwX2_h_3 : List UInt8 := [178, 0, 61, 21, 7, 42, 180, 0, 26, 27, 46, 130, 53, 21, 6, 130, 54, 8, 21, 8, 16, 8, 120]
abbrev dktX2_h_3 : List UInt8 := dkwX2_h_3 ++ dktX2_h_4
def dkwX2_h_2 : List UInt8 := [21, 4, 130, 54, 6, 178, 0, 61, 21, 6, 42, 180, 0, 30, 27, 46, 130, 53, 21, 5, 130, 54, 7]
abbrev dktX2_h_2 : List UInt8 := dkwX2_h_2 ++ dktX2_h_3
def dkwX2_h_1 : List UInt8 := [180, 0, 36, 27, 46, 130, 53, 29, 130, 54, 5, 178, 0, 61, 21, 5, 42, 180, 0, 33, 27, 46, 130, 53]
abbrev dktX2_h_1 : List UInt8 := dkwX2_h_1 ++ dktX2_h_2
def dkwX2_h_0 : List UInt8 := [28, 17, 0, 255, 126, 62, 28, 16, 8, 122, 17, 0, 255, 126, 54, 4, 178, 0, 61, 21, 4, 42]
abbrev dktX2_h_0 : List UInt8 := dkwX2_h_0 ++ dktX2_h_1
theorem dksX2_h_0 : cX2_h.data.toList.drop 0 = dktX2_h_0 := by decide +kernel
theorem dksX2_h_1 : cX2_h.data.toList.drop 22 = dktX2_h_1 := dk_seg dksX2_h_0 22 rfl rfl
theorem dksX2_h_2 : cX2_h.data.toList.drop 46 = dktX2_h_2 := dk_seg dksX2_h_1 24 rfl rfl
theorem dksX2_h_3 : cX2_h.data.toList.drop 69 = dktX2_h_3 := dk_seg dksX2_h_2 23 rfl rfl
theorem dksX2_h_4 : cX2_h.data.toList.drop 92 = dktX2_h_4 := dk_seg dksX2_h_3 23 rfl rfl
theorem dX2_h_0 : decode cX2_h 0 = .ok (.iload_n 2, 1) := dk_28 (dk_at dksX2_h_0 0 rfl rfl)
theorem dX2_h_1 : decode cX2_h 1 = .ok (.sipush 255, 3) := dk_17 0 255 (dk_at dksX2_h_0 1 rfl rfl)
theorem dX2_h_4 : decode cX2_h 4 = .ok (.iand, 1) := dk_126 (dk_at dksX2_h_0 4 rfl rfl)
theorem dX2_h_5 : decode cX2_h 5 = .ok (.istore_n 3, 1) := dk_62 (dk_at dksX2_h_0 5 rfl rfl)
theorem dX2_h_6 : decode cX2_h 6 = .ok (.iload_n 2, 1) := dk_28 (dk_at dksX2_h_0 6 rfl rfl)
theorem dX2_h_7 : decode cX2_h 7 = .ok (.bipush 8, 2) := dk_16 8 (dk_at dksX2_h_0 7 rfl rfl)
theorem dX2_h_9 : decode cX2_h 9 = .ok (.ishr, 1) := dk_122 (dk_at dksX2_h_0 9 rfl rfl)
theorem dX2_h_10 : decode cX2_h 10 = .ok (.sipush 255, 3) := dk_17 0 255 (dk_at dksX2_h_0 10 rfl rfl)
theorem dX2_h_13 : decode cX2_h 13 = .ok (.iand, 1) := dk_126 (dk_at dksX2_h_0 13 rfl rfl)
theorem dX2_h_14 : decode cX2_h 14 = .ok (.istore 4, 2) := dk_54 4 (dk_at dksX2_h_0 14 rfl rfl)
theorem dX2_h_16 : decode cX2_h 16 = .ok (.getstatic 61, 3) := dk_178 0 61 (dk_at dksX2_h_0 16 rfl rfl)
theorem dX2_h_19 : decode cX2_h 19 = .ok (.iload 4, 2) := dk_21 4 (dk_at dksX2_h_0 19 rfl rfl)
theorem dX2_h_21 : decode cX2_h 21 = .ok (.aload_n 0, 1) := dk_42 (dk_at dksX2_h_0 21 rfl rfl)
theorem dX2_h_22 : decode cX2_h 22 = .ok (.getfield 36, 3) := dk_180 0 36 (dk_at dksX2_h_1 0 rfl rfl)
theorem dX2_h_25 : decode cX2_h 25 = .ok (.iload_n 1, 1) := dk_27 (dk_at dksX2_h_1 3 rfl rfl)
theorem dX2_h_26 : decode cX2_h 26 = .ok (.iaload, 1) := dk_46 (dk_at dksX2_h_1 4 rfl rfl)
theorem dX2_h_27 : decode cX2_h 27 = .ok (.ixor, 1) := dk_130 (dk_at dksX2_h_1 5 rfl rfl)
theorem dX2_h_28 : decode cX2_h 28 = .ok (.saload, 1) := dk_53 (dk_at dksX2_h_1 6 rfl rfl)
theorem dX2_h_29 : decode cX2_h 29 = .ok (.iload_n 3, 1) := dk_29 (dk_at dksX2_h_1 7 rfl rfl)
theorem dX2_h_30 : decode cX2_h 30 = .ok (.ixor, 1) := dk_130 (dk_at dksX2_h_1 8 rfl rfl)
theorem dX2_h_31 : decode cX2_h 31 = .ok (.istore 5, 2) := dk_54 5 (dk_at dksX2_h_1 9 rfl rfl)
theorem dX2_h_33 : decode cX2_h 33 = .ok (.getstatic 61, 3) := dk_178 0 61 (dk_at dksX2_h_1 11 rfl rfl)
theorem dX2_h_36 : decode cX2_h 36 = .ok (.iload 5, 2) := dk_21 5 (dk_at dksX2_h_1 14 rfl rfl)
theorem dX2_h_38 : decode cX2_h 38 = .ok (.aload_n 0, 1) := dk_42 (dk_at dksX2_h_1 16 rfl rfl)
theorem dX2_h_39 : decode cX2_h 39 = .ok (.getfield 33, 3) := dk_180 0 33 (dk_at dksX2_h_1 17 rfl rfl)
theorem dX2_h_42 : decode cX2_h 42 = .ok (.iload_n 1, 1) := dk_27 (dk_at dksX2_h_1 20 rfl rfl)
theorem dX2_h_43 : decode cX2_h 43 = .ok (.iaload, 1) := dk_46 (dk_at dksX2_h_1 21 rfl rfl)
theorem dX2_h_44 : decode cX2_h 44 = .ok (.ixor, 1) := dk_130 (dk_at dksX2_h_1 22 rfl rfl)
theorem dX2_h_45 : decode cX2_h 45 = .ok (.saload, 1) := dk_53 (dk_at dksX2_h_1 23 rfl rfl)
theorem dX2_h_46 : decode cX2_h 46 = .ok (.iload 4, 2) := dk_21 4 (dk_at dksX2_h_2 0 rfl rfl)
theorem dX2_h_48 : decode cX2_h 48 = .ok (.ixor, 1) := dk_130 (dk_at dksX2_h_2 2 rfl rfl)
theorem dX2_h_49 : decode cX2_h 49 = .ok (.istore 6, 2) := dk_54 6 (dk_at dksX2_h_2 3 rfl rfl)
theorem dX2_h_51 : decode cX2_h 51 = .ok (.getstatic 61, 3) := dk_178 0 61 (dk_at dksX2_h_2 5 rfl rfl)
theorem dX2_h_54 : decode cX2_h 54 = .ok (.iload 6, 2) := dk_21 6 (dk_at dksX2_h_2 8 rfl rfl)
theorem dX2_h_56 : decode cX2_h 56 = .ok (.aload_n 0, 1) := dk_42 (dk_at dksX2_h_2 10 rfl rfl)
theorem dX2_h_57 : decode cX2_h 57 = .ok (.getfield 30, 3) := dk_180 0 30 (dk_at dksX2_h_2 11 rfl rfl)
theorem dX2_h_60 : decode cX2_h 60 = .ok (.iload_n 1, 1) := dk_27 (dk_at dksX2_h_2 14 rfl rfl)
theorem dX2_h_61 : decode cX2_h 61 = .ok (.iaload, 1) := dk_46 (dk_at dksX2_h_2 15 rfl rfl)
theorem dX2_h_62 : decode cX2_h 62 = .ok (.ixor, 1) := dk_130 (dk_at dksX2_h_2 16 rfl rfl)
theorem dX2_h_63 : decode cX2_h 63 = .ok (.saload, 1) := dk_53 (dk_at dksX2_h_2 17 rfl rfl)
theorem dX2_h_64 : decode cX2_h 64 = .ok (.iload 5, 2) := dk_21 5 (dk_at dksX2_h_2 18 rfl rfl)
theorem dX2_h_66 : decode cX2_h 66 = .ok (.ixor, 1) := dk_130 (dk_at dksX2_h_2 20 rfl rfl)
theorem dX2_h_67 : decode cX2_h 67 = .ok (.istore 7, 2) := dk_54 7 (dk_at dksX2_h_2 21 rfl rfl)
theorem dX2_h_69 : decode cX2_h 69 = .ok (.getstatic 61, 3) := dk_178 0 61 (dk_at dksX2_h_3 0 rfl rfl)
theorem dX2_h_72 : decode cX2_h 72 = .ok (.iload 7, 2) := dk_21 7 (dk_at dksX2_h_3 3 rfl rfl)
theorem dX2_h_74 : decode cX2_h 74 = .ok (.aload_n 0, 1) := dk_42 (dk_at dksX2_h_3 5 rfl rfl)
theorem dX2_h_75 : decode cX2_h 75 = .ok (.getfield 26, 3) := dk_180 0 26 (dk_at dksX2_h_3 6 rfl rfl)
theorem dX2_h_78 : decode cX2_h 78 = .ok (.iload_n 1, 1) := dk_27 (dk_at dksX2_h_3 9 rfl rfl)
theorem dX2_h_79 : decode cX2_h 79 = .ok (.iaload, 1) := dk_46 (dk_at dksX2_h_3 10 rfl rfl)
theorem dX2_h_80 : decode cX2_h 80 = .ok (.ixor, 1) := dk_130 (dk_at dksX2_h_3 11 rfl rfl)
theorem dX2_h_81 : decode cX2_h 81 = .ok (.saload, 1) := dk_53 (dk_at dksX2_h_3 12 rfl rfl)
theorem dX2_h_82 : decode cX2_h 82 = .ok (.iload 6, 2) := dk_21 6 (dk_at dksX2_h_3 13 rfl rfl)
theorem dX2_h_84 : decode cX2_h 84 = .ok (.ixor, 1) := dk_130 (dk_at dksX2_h_3 15 rfl rfl)
theorem dX2_h_85 : decode cX2_h 85 = .ok (.istore 8, 2) := dk_54 8 (dk_at dksX2_h_3 16 rfl rfl)
theorem dX2_h_87 : decode cX2_h 87 = .ok (.iload 8, 2) := dk_21 8 (dk_at dksX2_h_3 18 rfl rfl)
theorem dX2_h_89 : decode cX2_h 89 = .ok (.bipush 8, 2) := dk_16 8 (dk_at dksX2_h_3 20 rfl rfl)
theorem dX2_h_91 : decode cX2_h 91 = .ok (.ishl, 1) := dk_120 (dk_at dksX2_h_3 22 rfl rfl)
theorem dX2_h_92 : decode cX2_h 92 = .ok (.iload 7, 2) := dk_21 7 (dk_at dksX2_h_4 0 rfl rfl)
theorem dX2_h_94 : decode cX2_h 94 = .ok (.iadd, 1) := dk_96 (dk_at dksX2_h_4 2 rfl rfl)
theorem dX2_h_95 : decode cX2_h 95 = .ok (.ireturn, 1) := dk_172 (dk_at dksX2_h_4 3 rfl rfl)
theorem q11 : (Jvm.Cond.initialized "SkipjackEngine") ∈ lw_all := lw_g (lw_at lw_m1 3 rfl) rfl
theorem q64 : (Jvm.Cond.instantiable "SkipjackEngine" (5 : Nat)) ∈ lw_all := lw_g (lw_at lw_m1 56 rfl) rfl
theorem q66 : (Jvm.Cond.instanceMethod ({ cls := "SkipjackEngine", name := "<init>", desc := "()V" } : Jvm.MethodName)) ∈ lw_all := lw_g (lw_at lw_m1 58 rfl) rfl
theorem q67 : (Jvm.Cond.code ({ cls := "SkipjackEngine", name := "<init>", desc := "()V" } : Jvm.MethodName) prog_10_method_1_code (1 : Nat) (Option.none : Option Jvm.ClassFile.FieldType)) ∈ lw_all := lw_g (lw_at lw_m1 59 rfl) rfl
theorem q68 : (Jvm.Cond.methodLink "SkipjackEngine" (1 : Nat) ({ cls := "java/lang/Object", name := "<init>", desc := "()V" } : Jvm.MethodName)) ∈ lw_all := lw_g (lw_at lw_m1 60 rfl) rfl
theorem q69 : (Jvm.Cond.fieldLink "SkipjackEngine" (26 : Nat) "SkipjackEngine" "key0" "[I") ∈ lw_all := lw_g (lw_at lw_m1 61 rfl) rfl
theorem q70 : (Jvm.Cond.fieldLink "SkipjackEngine" (30 : Nat) "SkipjackEngine" "key1" "[I") ∈ lw_all := lw_g (lw_at lw_m1 62 rfl) rfl
theorem q71 : (Jvm.Cond.fieldLink "SkipjackEngine" (33 : Nat) "SkipjackEngine" "key2" "[I") ∈ lw_all := lw_g (lw_at lw_m1 63 rfl) rfl
theorem q72 : (Jvm.Cond.fieldLink "SkipjackEngine" (36 : Nat) "SkipjackEngine" "key3" "[I") ∈ lw_all := lw_g (lw_at lw_m1 64 rfl) rfl
theorem q73 : (Jvm.Cond.fieldLink "SkipjackEngine" (20 : Nat) "SkipjackEngine" "encrypting" "Z") ∈ lw_all := lw_g (lw_at lw_m1 65 rfl) rfl
theorem q74 : (Jvm.Cond.lays "SkipjackEngine" "SkipjackEngine" "key0" "[I") ∈ lw_all := lw_g (lw_at lw_m1 66 rfl) rfl
theorem q75 : (Jvm.Cond.soleField "SkipjackEngine" "key0") ∈ lw_all := lw_g (lw_at lw_m1 67 rfl) rfl
theorem q76 : (Jvm.Cond.lays "SkipjackEngine" "SkipjackEngine" "key1" "[I") ∈ lw_all := lw_g (lw_at lw_m1 68 rfl) rfl
theorem q77 : (Jvm.Cond.soleField "SkipjackEngine" "key1") ∈ lw_all := lw_g (lw_at lw_m1 69 rfl) rfl
theorem q78 : (Jvm.Cond.lays "SkipjackEngine" "SkipjackEngine" "key2" "[I") ∈ lw_all := lw_g (lw_at lw_m1 70 rfl) rfl
theorem q79 : (Jvm.Cond.soleField "SkipjackEngine" "key2") ∈ lw_all := lw_g (lw_at lw_m1 71 rfl) rfl
theorem q80 : (Jvm.Cond.lays "SkipjackEngine" "SkipjackEngine" "key3" "[I") ∈ lw_all := lw_g (lw_at lw_m1 72 rfl) rfl
theorem q81 : (Jvm.Cond.soleField "SkipjackEngine" "key3") ∈ lw_all := lw_g (lw_at lw_m1 73 rfl) rfl
theorem q82 : (Jvm.Cond.lays "SkipjackEngine" "SkipjackEngine" "encrypting" "Z") ∈ lw_all := lw_g (lw_at lw_m1 74 rfl) rfl
theorem q83 : (Jvm.Cond.soleField "SkipjackEngine" "encrypting") ∈ lw_all := lw_g (lw_at lw_m1 75 rfl) rfl
theorem q84 : (Jvm.Cond.superclass "SkipjackEngine" "java/lang/Object") ∈ lw_all := lw_g (lw_at lw_m1 76 rfl) rfl
theorem q108 : (Jvm.Cond.castable "SkipjackEngine" "BlockCipher") ∈ lw_tbl := lw_at lw_m1 100 rfl
theorem q109 : (Jvm.Cond.selects "SkipjackEngine" ({ cls := "BlockCipher", name := "init", desc := "(ZLCipherParameters;)V" } : Jvm.MethodName) ({ cls := "SkipjackEngine", name := "init", desc := "(ZLCipherParameters;)V" } : Jvm.MethodName)) ∈ lw_all := lw_g (lw_at lw_m1 101 rfl) rfl
theorem q110 : (Jvm.Cond.unhidden "SkipjackEngine" "init" "(ZLCipherParameters;)V") ∈ lw_tbl := lw_at lw_m1 102 rfl
theorem q111 : (Jvm.Cond.instanceMethod ({ cls := "SkipjackEngine", name := "init", desc := "(ZLCipherParameters;)V" } : Jvm.MethodName)) ∈ lw_all := lw_g (lw_at lw_m1 103 rfl) rfl
theorem q112 : (Jvm.Cond.publicMethod ({ cls := "SkipjackEngine", name := "init", desc := "(ZLCipherParameters;)V" } : Jvm.MethodName)) ∈ lw_tbl := lw_at lw_m1 104 rfl
theorem q113 : (Jvm.Cond.code ({ cls := "SkipjackEngine", name := "init", desc := "(ZLCipherParameters;)V" } : Jvm.MethodName) prog_10_method_2_code (5 : Nat) (Option.none : Option Jvm.ClassFile.FieldType)) ∈ lw_all := lw_g (lw_at lw_m1 105 rfl) rfl
theorem q114 : (Jvm.Cond.classLink "SkipjackEngine" (7 : Nat) "KeyParameter") ∈ lw_all := lw_g (lw_at lw_m1 106 rfl) rfl
theorem q115 : (Jvm.Cond.classLink "SkipjackEngine" (9 : Nat) "java/lang/IllegalArgumentException") ∈ lw_all := lw_g (lw_at lw_m1 107 rfl) rfl
theorem q157 : (Jvm.Cond.stringRef "SkipjackEngine" (11 : Nat) "left out") ∈ lw_tbl := lw_at lw_m1 149 rfl
theorem q158 : (Jvm.Cond.methodLink "SkipjackEngine" (13 : Nat) ({ cls := "java/lang/IllegalArgumentException", name := "<init>", desc := "(Ljava/lang/String;)V" } : Jvm.MethodName)) ∈ lw_all := lw_g (lw_at lw_m1 150 rfl) rfl
theorem q183 : (Jvm.Cond.methodLink "SkipjackEngine" (16 : Nat) ({ cls := "KeyParameter", name := "getKey", desc := "()[B" } : Jvm.MethodName)) ∈ lw_all := lw_g (lw_at lw_m1 175 rfl) rfl
theorem q191 : (Jvm.Cond.selects "SkipjackEngine" ({ cls := "BlockCipher", name := "processBlock", desc := "([BI[BI)I" } : Jvm.MethodName) ({ cls := "SkipjackEngine", name := "processBlock", desc := "([BI[BI)I" } : Jvm.MethodName)) ∈ lw_all := lw_g (lw_at lw_m1 183 rfl) rfl
theorem q192 : (Jvm.Cond.unhidden "SkipjackEngine" "processBlock" "([BI[BI)I") ∈ lw_tbl := lw_at lw_m1 184 rfl
theorem q193 : (Jvm.Cond.instanceMethod ({ cls := "SkipjackEngine", name := "processBlock", desc := "([BI[BI)I" } : Jvm.MethodName)) ∈ lw_all := lw_g (lw_at lw_m1 185 rfl) rfl
theorem q194 : (Jvm.Cond.publicMethod ({ cls := "SkipjackEngine", name := "processBlock", desc := "([BI[BI)I" } : Jvm.MethodName)) ∈ lw_tbl := lw_at lw_m1 186 rfl
theorem q195 : (Jvm.Cond.code ({ cls := "SkipjackEngine", name := "processBlock", desc := "([BI[BI)I" } : Jvm.MethodName) prog_10_method_3_code (5 : Nat) (Option.some Jvm.ClassFile.FieldType.int)) ∈ lw_all := lw_g (lw_at lw_m1 187 rfl) rfl
theorem q196 : (Jvm.Cond.classLink "SkipjackEngine" (39 : Nat) "java/lang/IllegalStateException") ∈ lw_all := lw_g (lw_at lw_m1 188 rfl) rfl
theorem q205 : (Jvm.Cond.stringRef "SkipjackEngine" (41 : Nat) "SKIPJACK engine not initialised") ∈ lw_tbl := lw_at lw_m1 197 rfl
theorem q206 : (Jvm.Cond.methodLink "SkipjackEngine" (43 : Nat) ({ cls := "java/lang/IllegalStateException", name := "<init>", desc := "(Ljava/lang/String;)V" } : Jvm.MethodName)) ∈ lw_all := lw_g (lw_at lw_m1 198 rfl) rfl
theorem q213 : (Jvm.Cond.classLink "SkipjackEngine" (44 : Nat) "DataLengthException") ∈ lw_all := lw_g (lw_at lw_m1 205 rfl) rfl
theorem q223 : (Jvm.Cond.stringRef "SkipjackEngine" (46 : Nat) "input buffer too short") ∈ lw_tbl := lw_at lw_m1 215 rfl
theorem q224 : (Jvm.Cond.methodLink "SkipjackEngine" (48 : Nat) ({ cls := "DataLengthException", name := "<init>", desc := "(Ljava/lang/String;)V" } : Jvm.MethodName)) ∈ lw_all := lw_g (lw_at lw_m1 216 rfl) rfl
theorem q233 : (Jvm.Cond.classLink "SkipjackEngine" (49 : Nat) "OutputLengthException") ∈ lw_all := lw_g (lw_at lw_m1 225 rfl) rfl
theorem q243 : (Jvm.Cond.stringRef "SkipjackEngine" (51 : Nat) "output buffer too short") ∈ lw_tbl := lw_at lw_m1 235 rfl
theorem q244 : (Jvm.Cond.methodLink "SkipjackEngine" (53 : Nat) ({ cls := "OutputLengthException", name := "<init>", desc := "(Ljava/lang/String;)V" } : Jvm.MethodName)) ∈ lw_all := lw_g (lw_at lw_m1 236 rfl) rfl
theorem q250 : (Jvm.Cond.methodLink "SkipjackEngine" (54 : Nat) ({ cls := "SkipjackEngine", name := "encryptBlock", desc := "([BI[BI)I" } : Jvm.MethodName)) ∈ lw_all := lw_g (lw_at lw_m2 2 rfl) rfl
theorem q251 : (Jvm.Cond.instanceMethod ({ cls := "SkipjackEngine", name := "encryptBlock", desc := "([BI[BI)I" } : Jvm.MethodName)) ∈ lw_all := lw_g (lw_at lw_m2 3 rfl) rfl
theorem q252 : (Jvm.Cond.selects "SkipjackEngine" ({ cls := "SkipjackEngine", name := "encryptBlock", desc := "([BI[BI)I" } : Jvm.MethodName) ({ cls := "SkipjackEngine", name := "encryptBlock", desc := "([BI[BI)I" } : Jvm.MethodName)) ∈ lw_all := lw_g (lw_at lw_m2 4 rfl) rfl
theorem q253 : (Jvm.Cond.code ({ cls := "SkipjackEngine", name := "encryptBlock", desc := "([BI[BI)I" } : Jvm.MethodName) prog_10_method_5_code (13 : Nat) (Option.some Jvm.ClassFile.FieldType.int)) ∈ lw_all := lw_g (lw_at lw_m2 5 rfl) rfl
theorem q254 : (Jvm.Cond.methodLink "SkipjackEngine" (65 : Nat) ({ cls := "SkipjackEngine", name := "g", desc := "(II)I" } : Jvm.MethodName)) ∈ lw_all := lw_g (lw_at lw_m2 6 rfl) rfl
theorem q255 : (Jvm.Cond.privateMethod ({ cls := "SkipjackEngine", name := "g", desc := "(II)I" } : Jvm.MethodName)) ∈ lw_tbl := lw_at lw_m2 7 rfl
theorem q256 : (Jvm.Cond.instanceMethod ({ cls := "SkipjackEngine", name := "g", desc := "(II)I" } : Jvm.MethodName)) ∈ lw_all := lw_g (lw_at lw_m2 8 rfl) rfl
theorem q257 : (Jvm.Cond.code ({ cls := "SkipjackEngine", name := "g", desc := "(II)I" } : Jvm.MethodName) prog_10_method_4_code (9 : Nat) (Option.some Jvm.ClassFile.FieldType.int)) ∈ lw_all := lw_g (lw_at lw_m2 9 rfl) rfl
theorem q258 : (Jvm.Cond.fieldLink "SkipjackEngine" (61 : Nat) "SkipjackEngine" "ftable" "[S") ∈ lw_all := lw_g (lw_at lw_m2 10 rfl) rfl
theorem q259 : (Jvm.Cond.laysStatic "SkipjackEngine" "ftable" "[S") ∈ lw_tbl := lw_at lw_m2 11 rfl
theorem q260 : (Jvm.Cond.methodLink "SkipjackEngine" (58 : Nat) ({ cls := "SkipjackEngine", name := "decryptBlock", desc := "([BI[BI)I" } : Jvm.MethodName)) ∈ lw_all := lw_g (lw_at lw_m2 12 rfl) rfl
theorem q261 : (Jvm.Cond.instanceMethod ({ cls := "SkipjackEngine", name := "decryptBlock", desc := "([BI[BI)I" } : Jvm.MethodName)) ∈ lw_all := lw_g (lw_at lw_m2 13 rfl) rfl
theorem q262 : (Jvm.Cond.selects "SkipjackEngine" ({ cls := "SkipjackEngine", name := "decryptBlock", desc := "([BI[BI)I" } : Jvm.MethodName) ({ cls := "SkipjackEngine", name := "decryptBlock", desc := "([BI[BI)I" } : Jvm.MethodName)) ∈ lw_all := lw_g (lw_at lw_m2 14 rfl) rfl
theorem q263 : (Jvm.Cond.code ({ cls := "SkipjackEngine", name := "decryptBlock", desc := "([BI[BI)I" } : Jvm.MethodName) prog_10_method_7_code (13 : Nat) (Option.some Jvm.ClassFile.FieldType.int)) ∈ lw_all := lw_g (lw_at lw_m2 15 rfl) rfl
theorem q264 : (Jvm.Cond.methodLink "SkipjackEngine" (69 : Nat) ({ cls := "SkipjackEngine", name := "h", desc := "(II)I" } : Jvm.MethodName)) ∈ lw_all := lw_g (lw_at lw_m2 16 rfl) rfl
theorem q265 : (Jvm.Cond.privateMethod ({ cls := "SkipjackEngine", name := "h", desc := "(II)I" } : Jvm.MethodName)) ∈ lw_tbl := lw_at lw_m2 17 rfl
theorem q266 : (Jvm.Cond.instanceMethod ({ cls := "SkipjackEngine", name := "h", desc := "(II)I" } : Jvm.MethodName)) ∈ lw_all := lw_g (lw_at lw_m2 18 rfl) rfl
theorem q267 : (Jvm.Cond.code ({ cls := "SkipjackEngine", name := "h", desc := "(II)I" } : Jvm.MethodName) prog_10_method_6_code (9 : Nat) (Option.some Jvm.ClassFile.FieldType.int)) ∈ lw_all := lw_g (lw_at lw_m2 19 rfl) rfl
theorem in_X2 : ∀ w ∈ wsX20, w ∈ lw_all := lw_in wsX20 [74, 76, 78, 80, 82] (by decide +kernel) (by decide +kernel)
/-! the law's own entry -/
set_option maxRecDepth 100000
abbrev cL_law : ByteArray := code
def dkwL_law_10 : List UInt8 := [3, 172, 132, 3, 6, 167, 255, 31, 4, 172]
abbrev dktL_law_10 : List UInt8 := dkwL_law_10 ++ []
def dkwL_law_9 : List UInt8 := [167, 0, 26, 43, 42, 29, 4, 96, 46, 182, 0, 36, 44, 42, 29, 4, 96, 46, 182, 0, 40, 159, 0, 5]
abbrev dktL_law_9 : List UInt8 := dkwL_law_9 ++ dktL_law_10
def dkwL_law_8 : List UInt8 := [182, 0, 28, 44, 42, 29, 4, 96, 46, 182, 0, 31, 167, 0, 37, 43, 182, 0, 32, 44, 182, 0, 35]
abbrev dktL_law_8 : List UInt8 := dkwL_law_8 ++ dktL_law_9
def dkwL_law_7 : List UInt8 := [96, 46, 182, 0, 23, 44, 42, 29, 4, 96, 46, 182, 0, 27, 167, 0, 58, 43, 42, 29, 4, 96, 46]
abbrev dktL_law_7 : List UInt8 := dkwL_law_7 ++ dktL_law_8
def dkwL_law_6 : List UInt8 := [182, 0, 18, 44, 42, 29, 4, 96, 46, 42, 29, 5, 96, 46, 182, 0, 22, 167, 0, 79, 43, 42, 29, 4]
abbrev dktL_law_6 : List UInt8 := dkwL_law_6 ++ dktL_law_7
def dkwL_law_5 : List UInt8 := [96, 46, 42, 29, 8, 96, 46, 182, 0, 17, 167, 0, 110, 43, 42, 29, 4, 96, 46, 42, 29, 5, 96, 46]
abbrev dktL_law_5 : List UInt8 := dkwL_law_5 ++ dktL_law_6
def dkwL_law_4 : List UInt8 := [96, 46, 182, 0, 13, 44, 42, 29, 4, 96, 46, 42, 29, 5, 96, 46, 42, 29, 6, 96, 46, 42, 29, 7]
abbrev dktL_law_4 : List UInt8 := dkwL_law_4 ++ dktL_law_5
def dkwL_law_3 : List UInt8 := [43, 42, 29, 4, 96, 46, 42, 29, 5, 96, 46, 42, 29, 6, 96, 46, 42, 29, 7, 96, 46, 42, 29, 8]
abbrev dktL_law_3 : List UInt8 := dkwL_law_3 ++ dktL_law_4
def dkwL_law_2 : List UInt8 := [170, 0, 0, 0, 0, 0, 207, 0, 0, 0, 0, 0, 0, 0, 5, 0, 0, 0, 39, 0, 0, 0, 100, 0, 0, 0, 131, 0, 0, 0, 152, 0, 0, 0, 173, 0, 0, 0, 184]
abbrev dktL_law_2 : List UInt8 := dkwL_law_2 ++ dktL_law_3
def dkwL_law_1 : List UInt8 := [163, 0, 222, 42, 29, 46, 16, 7, 126]
abbrev dktL_law_1 : List UInt8 := dkwL_law_1 ++ dktL_law_2
def dkwL_law_0 : List UInt8 := [187, 0, 7, 89, 183, 0, 9, 76, 187, 0, 10, 89, 183, 0, 12, 77, 3, 62, 29, 42, 190, 16, 6, 100]
abbrev dktL_law_0 : List UInt8 := dkwL_law_0 ++ dktL_law_1
theorem dksL_law_0 : cL_law.data.toList.drop 0 = dktL_law_0 := by decide +kernel
theorem dksL_law_1 : cL_law.data.toList.drop 24 = dktL_law_1 := dk_seg dksL_law_0 24 rfl rfl
theorem dksL_law_2 : cL_law.data.toList.drop 33 = dktL_law_2 := dk_seg dksL_law_1 9 rfl rfl
theorem dksL_law_3 : cL_law.data.toList.drop 72 = dktL_law_3 := dk_seg dksL_law_2 39 rfl rfl
theorem dksL_law_4 : cL_law.data.toList.drop 96 = dktL_law_4 := dk_seg dksL_law_3 24 rfl rfl
theorem dksL_law_5 : cL_law.data.toList.drop 120 = dktL_law_5 := dk_seg dksL_law_4 24 rfl rfl
theorem dksL_law_6 : cL_law.data.toList.drop 144 = dktL_law_6 := dk_seg dksL_law_5 24 rfl rfl
theorem dksL_law_7 : cL_law.data.toList.drop 168 = dktL_law_7 := dk_seg dksL_law_6 24 rfl rfl
theorem dksL_law_8 : cL_law.data.toList.drop 191 = dktL_law_8 := dk_seg dksL_law_7 23 rfl rfl
theorem dksL_law_9 : cL_law.data.toList.drop 214 = dktL_law_9 := dk_seg dksL_law_8 23 rfl rfl
theorem dksL_law_10 : cL_law.data.toList.drop 238 = dktL_law_10 := dk_seg dksL_law_9 24 rfl rfl
theorem dL_law_0 : decode cL_law 0 = .ok (.new 7, 3) := dk_187 0 7 (dk_at dksL_law_0 0 rfl rfl)
theorem dL_law_3 : decode cL_law 3 = .ok (.dup, 1) := dk_89 (dk_at dksL_law_0 3 rfl rfl)
theorem dL_law_4 : decode cL_law 4 = .ok (.invokespecial 9, 3) := dk_183 0 9 (dk_at dksL_law_0 4 rfl rfl)
theorem dL_law_7 : decode cL_law 7 = .ok (.astore_n 1, 1) := dk_76 (dk_at dksL_law_0 7 rfl rfl)
theorem dL_law_8 : decode cL_law 8 = .ok (.new 10, 3) := dk_187 0 10 (dk_at dksL_law_0 8 rfl rfl)
theorem dL_law_11 : decode cL_law 11 = .ok (.dup, 1) := dk_89 (dk_at dksL_law_0 11 rfl rfl)
theorem dL_law_12 : decode cL_law 12 = .ok (.invokespecial 12, 3) := dk_183 0 12 (dk_at dksL_law_0 12 rfl rfl)
theorem dL_law_15 : decode cL_law 15 = .ok (.astore_n 2, 1) := dk_77 (dk_at dksL_law_0 15 rfl rfl)
theorem dL_law_16 : decode cL_law 16 = .ok (.iconst 0, 1) := dk_3 (dk_at dksL_law_0 16 rfl rfl)
theorem dL_law_17 : decode cL_law 17 = .ok (.istore_n 3, 1) := dk_62 (dk_at dksL_law_0 17 rfl rfl)
theorem dL_law_18 : decode cL_law 18 = .ok (.iload_n 3, 1) := dk_29 (dk_at dksL_law_0 18 rfl rfl)
theorem dL_law_19 : decode cL_law 19 = .ok (.aload_n 0, 1) := dk_42 (dk_at dksL_law_0 19 rfl rfl)
theorem dL_law_20 : decode cL_law 20 = .ok (.arraylength, 1) := dk_190 (dk_at dksL_law_0 20 rfl rfl)
theorem dL_law_21 : decode cL_law 21 = .ok (.bipush 6, 2) := dk_16 6 (dk_at dksL_law_0 21 rfl rfl)
theorem dL_law_23 : decode cL_law 23 = .ok (.isub, 1) := dk_100 (dk_at dksL_law_0 23 rfl rfl)
theorem dL_law_24 : decode cL_law 24 = .ok (.if_icmp .gt 222, 3) := dk_163 0 222 (dk_at dksL_law_1 0 rfl rfl)
theorem dL_law_27 : decode cL_law 27 = .ok (.aload_n 0, 1) := dk_42 (dk_at dksL_law_1 3 rfl rfl)
theorem dL_law_28 : decode cL_law 28 = .ok (.iload_n 3, 1) := dk_29 (dk_at dksL_law_1 4 rfl rfl)
theorem dL_law_29 : decode cL_law 29 = .ok (.iaload, 1) := dk_46 (dk_at dksL_law_1 5 rfl rfl)
theorem dL_law_30 : decode cL_law 30 = .ok (.bipush 7, 2) := dk_16 7 (dk_at dksL_law_1 6 rfl rfl)
theorem dL_law_32 : decode cL_law 32 = .ok (.iand, 1) := dk_126 (dk_at dksL_law_1 8 rfl rfl)
theorem dL_law_33 : decode cL_law 33 = .ok (.tableswitch 207 0 5 #[39, 100, 131, 152, 173, 184], 39) := by decide +kernel
theorem dL_law_72 : decode cL_law 72 = .ok (.aload_n 1, 1) := dk_43 (dk_at dksL_law_3 0 rfl rfl)
theorem dL_law_73 : decode cL_law 73 = .ok (.aload_n 0, 1) := dk_42 (dk_at dksL_law_3 1 rfl rfl)
theorem dL_law_74 : decode cL_law 74 = .ok (.iload_n 3, 1) := dk_29 (dk_at dksL_law_3 2 rfl rfl)
theorem dL_law_75 : decode cL_law 75 = .ok (.iconst 1, 1) := dk_4 (dk_at dksL_law_3 3 rfl rfl)
theorem dL_law_76 : decode cL_law 76 = .ok (.iadd, 1) := dk_96 (dk_at dksL_law_3 4 rfl rfl)
theorem dL_law_77 : decode cL_law 77 = .ok (.iaload, 1) := dk_46 (dk_at dksL_law_3 5 rfl rfl)
theorem dL_law_78 : decode cL_law 78 = .ok (.aload_n 0, 1) := dk_42 (dk_at dksL_law_3 6 rfl rfl)
theorem dL_law_79 : decode cL_law 79 = .ok (.iload_n 3, 1) := dk_29 (dk_at dksL_law_3 7 rfl rfl)
theorem dL_law_80 : decode cL_law 80 = .ok (.iconst 2, 1) := dk_5 (dk_at dksL_law_3 8 rfl rfl)
theorem dL_law_81 : decode cL_law 81 = .ok (.iadd, 1) := dk_96 (dk_at dksL_law_3 9 rfl rfl)
theorem dL_law_82 : decode cL_law 82 = .ok (.iaload, 1) := dk_46 (dk_at dksL_law_3 10 rfl rfl)
theorem dL_law_83 : decode cL_law 83 = .ok (.aload_n 0, 1) := dk_42 (dk_at dksL_law_3 11 rfl rfl)
theorem dL_law_84 : decode cL_law 84 = .ok (.iload_n 3, 1) := dk_29 (dk_at dksL_law_3 12 rfl rfl)
theorem dL_law_85 : decode cL_law 85 = .ok (.iconst 3, 1) := dk_6 (dk_at dksL_law_3 13 rfl rfl)
theorem dL_law_86 : decode cL_law 86 = .ok (.iadd, 1) := dk_96 (dk_at dksL_law_3 14 rfl rfl)
theorem dL_law_87 : decode cL_law 87 = .ok (.iaload, 1) := dk_46 (dk_at dksL_law_3 15 rfl rfl)
theorem dL_law_88 : decode cL_law 88 = .ok (.aload_n 0, 1) := dk_42 (dk_at dksL_law_3 16 rfl rfl)
theorem dL_law_89 : decode cL_law 89 = .ok (.iload_n 3, 1) := dk_29 (dk_at dksL_law_3 17 rfl rfl)
theorem dL_law_90 : decode cL_law 90 = .ok (.iconst 4, 1) := dk_7 (dk_at dksL_law_3 18 rfl rfl)
theorem dL_law_91 : decode cL_law 91 = .ok (.iadd, 1) := dk_96 (dk_at dksL_law_3 19 rfl rfl)
theorem dL_law_92 : decode cL_law 92 = .ok (.iaload, 1) := dk_46 (dk_at dksL_law_3 20 rfl rfl)
theorem dL_law_93 : decode cL_law 93 = .ok (.aload_n 0, 1) := dk_42 (dk_at dksL_law_3 21 rfl rfl)
theorem dL_law_94 : decode cL_law 94 = .ok (.iload_n 3, 1) := dk_29 (dk_at dksL_law_3 22 rfl rfl)
theorem dL_law_95 : decode cL_law 95 = .ok (.iconst 5, 1) := dk_8 (dk_at dksL_law_3 23 rfl rfl)
theorem dL_law_96 : decode cL_law 96 = .ok (.iadd, 1) := dk_96 (dk_at dksL_law_4 0 rfl rfl)
theorem dL_law_97 : decode cL_law 97 = .ok (.iaload, 1) := dk_46 (dk_at dksL_law_4 1 rfl rfl)
theorem dL_law_98 : decode cL_law 98 = .ok (.invokevirtual 13, 3) := dk_182 0 13 (dk_at dksL_law_4 2 rfl rfl)
theorem dL_law_101 : decode cL_law 101 = .ok (.aload_n 2, 1) := dk_44 (dk_at dksL_law_4 5 rfl rfl)
theorem dL_law_102 : decode cL_law 102 = .ok (.aload_n 0, 1) := dk_42 (dk_at dksL_law_4 6 rfl rfl)
theorem dL_law_103 : decode cL_law 103 = .ok (.iload_n 3, 1) := dk_29 (dk_at dksL_law_4 7 rfl rfl)
theorem dL_law_104 : decode cL_law 104 = .ok (.iconst 1, 1) := dk_4 (dk_at dksL_law_4 8 rfl rfl)
theorem dL_law_105 : decode cL_law 105 = .ok (.iadd, 1) := dk_96 (dk_at dksL_law_4 9 rfl rfl)
theorem dL_law_106 : decode cL_law 106 = .ok (.iaload, 1) := dk_46 (dk_at dksL_law_4 10 rfl rfl)
theorem dL_law_107 : decode cL_law 107 = .ok (.aload_n 0, 1) := dk_42 (dk_at dksL_law_4 11 rfl rfl)
theorem dL_law_108 : decode cL_law 108 = .ok (.iload_n 3, 1) := dk_29 (dk_at dksL_law_4 12 rfl rfl)
theorem dL_law_109 : decode cL_law 109 = .ok (.iconst 2, 1) := dk_5 (dk_at dksL_law_4 13 rfl rfl)
theorem dL_law_110 : decode cL_law 110 = .ok (.iadd, 1) := dk_96 (dk_at dksL_law_4 14 rfl rfl)
theorem dL_law_111 : decode cL_law 111 = .ok (.iaload, 1) := dk_46 (dk_at dksL_law_4 15 rfl rfl)
theorem dL_law_112 : decode cL_law 112 = .ok (.aload_n 0, 1) := dk_42 (dk_at dksL_law_4 16 rfl rfl)
theorem dL_law_113 : decode cL_law 113 = .ok (.iload_n 3, 1) := dk_29 (dk_at dksL_law_4 17 rfl rfl)
theorem dL_law_114 : decode cL_law 114 = .ok (.iconst 3, 1) := dk_6 (dk_at dksL_law_4 18 rfl rfl)
theorem dL_law_115 : decode cL_law 115 = .ok (.iadd, 1) := dk_96 (dk_at dksL_law_4 19 rfl rfl)
theorem dL_law_116 : decode cL_law 116 = .ok (.iaload, 1) := dk_46 (dk_at dksL_law_4 20 rfl rfl)
theorem dL_law_117 : decode cL_law 117 = .ok (.aload_n 0, 1) := dk_42 (dk_at dksL_law_4 21 rfl rfl)
theorem dL_law_118 : decode cL_law 118 = .ok (.iload_n 3, 1) := dk_29 (dk_at dksL_law_4 22 rfl rfl)
theorem dL_law_119 : decode cL_law 119 = .ok (.iconst 4, 1) := dk_7 (dk_at dksL_law_4 23 rfl rfl)
theorem dL_law_120 : decode cL_law 120 = .ok (.iadd, 1) := dk_96 (dk_at dksL_law_5 0 rfl rfl)
theorem dL_law_121 : decode cL_law 121 = .ok (.iaload, 1) := dk_46 (dk_at dksL_law_5 1 rfl rfl)
theorem dL_law_122 : decode cL_law 122 = .ok (.aload_n 0, 1) := dk_42 (dk_at dksL_law_5 2 rfl rfl)
theorem dL_law_123 : decode cL_law 123 = .ok (.iload_n 3, 1) := dk_29 (dk_at dksL_law_5 3 rfl rfl)
theorem dL_law_124 : decode cL_law 124 = .ok (.iconst 5, 1) := dk_8 (dk_at dksL_law_5 4 rfl rfl)
theorem dL_law_125 : decode cL_law 125 = .ok (.iadd, 1) := dk_96 (dk_at dksL_law_5 5 rfl rfl)
theorem dL_law_126 : decode cL_law 126 = .ok (.iaload, 1) := dk_46 (dk_at dksL_law_5 6 rfl rfl)
theorem dL_law_127 : decode cL_law 127 = .ok (.invokevirtual 17, 3) := dk_182 0 17 (dk_at dksL_law_5 7 rfl rfl)
theorem dL_law_130 : decode cL_law 130 = .ok (.goto 110, 3) := dk_167 0 110 (dk_at dksL_law_5 10 rfl rfl)
theorem dL_law_133 : decode cL_law 133 = .ok (.aload_n 1, 1) := dk_43 (dk_at dksL_law_5 13 rfl rfl)
theorem dL_law_134 : decode cL_law 134 = .ok (.aload_n 0, 1) := dk_42 (dk_at dksL_law_5 14 rfl rfl)
theorem dL_law_135 : decode cL_law 135 = .ok (.iload_n 3, 1) := dk_29 (dk_at dksL_law_5 15 rfl rfl)
theorem dL_law_136 : decode cL_law 136 = .ok (.iconst 1, 1) := dk_4 (dk_at dksL_law_5 16 rfl rfl)
theorem dL_law_137 : decode cL_law 137 = .ok (.iadd, 1) := dk_96 (dk_at dksL_law_5 17 rfl rfl)
theorem dL_law_138 : decode cL_law 138 = .ok (.iaload, 1) := dk_46 (dk_at dksL_law_5 18 rfl rfl)
theorem dL_law_139 : decode cL_law 139 = .ok (.aload_n 0, 1) := dk_42 (dk_at dksL_law_5 19 rfl rfl)
theorem dL_law_140 : decode cL_law 140 = .ok (.iload_n 3, 1) := dk_29 (dk_at dksL_law_5 20 rfl rfl)
theorem dL_law_141 : decode cL_law 141 = .ok (.iconst 2, 1) := dk_5 (dk_at dksL_law_5 21 rfl rfl)
theorem dL_law_142 : decode cL_law 142 = .ok (.iadd, 1) := dk_96 (dk_at dksL_law_5 22 rfl rfl)
theorem dL_law_143 : decode cL_law 143 = .ok (.iaload, 1) := dk_46 (dk_at dksL_law_5 23 rfl rfl)
theorem dL_law_144 : decode cL_law 144 = .ok (.invokevirtual 18, 3) := dk_182 0 18 (dk_at dksL_law_6 0 rfl rfl)
theorem dL_law_147 : decode cL_law 147 = .ok (.aload_n 2, 1) := dk_44 (dk_at dksL_law_6 3 rfl rfl)
theorem dL_law_148 : decode cL_law 148 = .ok (.aload_n 0, 1) := dk_42 (dk_at dksL_law_6 4 rfl rfl)
theorem dL_law_149 : decode cL_law 149 = .ok (.iload_n 3, 1) := dk_29 (dk_at dksL_law_6 5 rfl rfl)
theorem dL_law_150 : decode cL_law 150 = .ok (.iconst 1, 1) := dk_4 (dk_at dksL_law_6 6 rfl rfl)
theorem dL_law_151 : decode cL_law 151 = .ok (.iadd, 1) := dk_96 (dk_at dksL_law_6 7 rfl rfl)
theorem dL_law_152 : decode cL_law 152 = .ok (.iaload, 1) := dk_46 (dk_at dksL_law_6 8 rfl rfl)
theorem dL_law_153 : decode cL_law 153 = .ok (.aload_n 0, 1) := dk_42 (dk_at dksL_law_6 9 rfl rfl)
theorem dL_law_154 : decode cL_law 154 = .ok (.iload_n 3, 1) := dk_29 (dk_at dksL_law_6 10 rfl rfl)
theorem dL_law_155 : decode cL_law 155 = .ok (.iconst 2, 1) := dk_5 (dk_at dksL_law_6 11 rfl rfl)
theorem dL_law_156 : decode cL_law 156 = .ok (.iadd, 1) := dk_96 (dk_at dksL_law_6 12 rfl rfl)
theorem dL_law_157 : decode cL_law 157 = .ok (.iaload, 1) := dk_46 (dk_at dksL_law_6 13 rfl rfl)
theorem dL_law_158 : decode cL_law 158 = .ok (.invokevirtual 22, 3) := dk_182 0 22 (dk_at dksL_law_6 14 rfl rfl)
theorem dL_law_161 : decode cL_law 161 = .ok (.goto 79, 3) := dk_167 0 79 (dk_at dksL_law_6 17 rfl rfl)
theorem dL_law_164 : decode cL_law 164 = .ok (.aload_n 1, 1) := dk_43 (dk_at dksL_law_6 20 rfl rfl)
theorem dL_law_165 : decode cL_law 165 = .ok (.aload_n 0, 1) := dk_42 (dk_at dksL_law_6 21 rfl rfl)
theorem dL_law_166 : decode cL_law 166 = .ok (.iload_n 3, 1) := dk_29 (dk_at dksL_law_6 22 rfl rfl)
theorem dL_law_167 : decode cL_law 167 = .ok (.iconst 1, 1) := dk_4 (dk_at dksL_law_6 23 rfl rfl)
theorem dL_law_168 : decode cL_law 168 = .ok (.iadd, 1) := dk_96 (dk_at dksL_law_7 0 rfl rfl)
theorem dL_law_169 : decode cL_law 169 = .ok (.iaload, 1) := dk_46 (dk_at dksL_law_7 1 rfl rfl)
theorem dL_law_170 : decode cL_law 170 = .ok (.invokevirtual 23, 3) := dk_182 0 23 (dk_at dksL_law_7 2 rfl rfl)
theorem dL_law_173 : decode cL_law 173 = .ok (.aload_n 2, 1) := dk_44 (dk_at dksL_law_7 5 rfl rfl)
theorem dL_law_174 : decode cL_law 174 = .ok (.aload_n 0, 1) := dk_42 (dk_at dksL_law_7 6 rfl rfl)
theorem dL_law_175 : decode cL_law 175 = .ok (.iload_n 3, 1) := dk_29 (dk_at dksL_law_7 7 rfl rfl)
theorem dL_law_176 : decode cL_law 176 = .ok (.iconst 1, 1) := dk_4 (dk_at dksL_law_7 8 rfl rfl)
theorem dL_law_177 : decode cL_law 177 = .ok (.iadd, 1) := dk_96 (dk_at dksL_law_7 9 rfl rfl)
theorem dL_law_178 : decode cL_law 178 = .ok (.iaload, 1) := dk_46 (dk_at dksL_law_7 10 rfl rfl)
theorem dL_law_179 : decode cL_law 179 = .ok (.invokevirtual 27, 3) := dk_182 0 27 (dk_at dksL_law_7 11 rfl rfl)
theorem dL_law_182 : decode cL_law 182 = .ok (.goto 58, 3) := dk_167 0 58 (dk_at dksL_law_7 14 rfl rfl)
theorem dL_law_185 : decode cL_law 185 = .ok (.aload_n 1, 1) := dk_43 (dk_at dksL_law_7 17 rfl rfl)
theorem dL_law_186 : decode cL_law 186 = .ok (.aload_n 0, 1) := dk_42 (dk_at dksL_law_7 18 rfl rfl)
theorem dL_law_187 : decode cL_law 187 = .ok (.iload_n 3, 1) := dk_29 (dk_at dksL_law_7 19 rfl rfl)
theorem dL_law_188 : decode cL_law 188 = .ok (.iconst 1, 1) := dk_4 (dk_at dksL_law_7 20 rfl rfl)
theorem dL_law_189 : decode cL_law 189 = .ok (.iadd, 1) := dk_96 (dk_at dksL_law_7 21 rfl rfl)
theorem dL_law_190 : decode cL_law 190 = .ok (.iaload, 1) := dk_46 (dk_at dksL_law_7 22 rfl rfl)
theorem dL_law_191 : decode cL_law 191 = .ok (.invokevirtual 28, 3) := dk_182 0 28 (dk_at dksL_law_8 0 rfl rfl)
theorem dL_law_194 : decode cL_law 194 = .ok (.aload_n 2, 1) := dk_44 (dk_at dksL_law_8 3 rfl rfl)
theorem dL_law_195 : decode cL_law 195 = .ok (.aload_n 0, 1) := dk_42 (dk_at dksL_law_8 4 rfl rfl)
theorem dL_law_196 : decode cL_law 196 = .ok (.iload_n 3, 1) := dk_29 (dk_at dksL_law_8 5 rfl rfl)
theorem dL_law_197 : decode cL_law 197 = .ok (.iconst 1, 1) := dk_4 (dk_at dksL_law_8 6 rfl rfl)
theorem dL_law_198 : decode cL_law 198 = .ok (.iadd, 1) := dk_96 (dk_at dksL_law_8 7 rfl rfl)
theorem dL_law_199 : decode cL_law 199 = .ok (.iaload, 1) := dk_46 (dk_at dksL_law_8 8 rfl rfl)
theorem dL_law_200 : decode cL_law 200 = .ok (.invokevirtual 31, 3) := dk_182 0 31 (dk_at dksL_law_8 9 rfl rfl)
theorem dL_law_203 : decode cL_law 203 = .ok (.goto 37, 3) := dk_167 0 37 (dk_at dksL_law_8 12 rfl rfl)
theorem dL_law_206 : decode cL_law 206 = .ok (.aload_n 1, 1) := dk_43 (dk_at dksL_law_8 15 rfl rfl)
theorem dL_law_207 : decode cL_law 207 = .ok (.invokevirtual 32, 3) := dk_182 0 32 (dk_at dksL_law_8 16 rfl rfl)
theorem dL_law_210 : decode cL_law 210 = .ok (.aload_n 2, 1) := dk_44 (dk_at dksL_law_8 19 rfl rfl)
theorem dL_law_211 : decode cL_law 211 = .ok (.invokevirtual 35, 3) := dk_182 0 35 (dk_at dksL_law_8 20 rfl rfl)
theorem dL_law_214 : decode cL_law 214 = .ok (.goto 26, 3) := dk_167 0 26 (dk_at dksL_law_9 0 rfl rfl)
theorem dL_law_217 : decode cL_law 217 = .ok (.aload_n 1, 1) := dk_43 (dk_at dksL_law_9 3 rfl rfl)
theorem dL_law_218 : decode cL_law 218 = .ok (.aload_n 0, 1) := dk_42 (dk_at dksL_law_9 4 rfl rfl)
theorem dL_law_219 : decode cL_law 219 = .ok (.iload_n 3, 1) := dk_29 (dk_at dksL_law_9 5 rfl rfl)
theorem dL_law_220 : decode cL_law 220 = .ok (.iconst 1, 1) := dk_4 (dk_at dksL_law_9 6 rfl rfl)
theorem dL_law_221 : decode cL_law 221 = .ok (.iadd, 1) := dk_96 (dk_at dksL_law_9 7 rfl rfl)
theorem dL_law_222 : decode cL_law 222 = .ok (.iaload, 1) := dk_46 (dk_at dksL_law_9 8 rfl rfl)
theorem dL_law_223 : decode cL_law 223 = .ok (.invokevirtual 36, 3) := dk_182 0 36 (dk_at dksL_law_9 9 rfl rfl)
theorem dL_law_226 : decode cL_law 226 = .ok (.aload_n 2, 1) := dk_44 (dk_at dksL_law_9 12 rfl rfl)
theorem dL_law_227 : decode cL_law 227 = .ok (.aload_n 0, 1) := dk_42 (dk_at dksL_law_9 13 rfl rfl)
theorem dL_law_228 : decode cL_law 228 = .ok (.iload_n 3, 1) := dk_29 (dk_at dksL_law_9 14 rfl rfl)
theorem dL_law_229 : decode cL_law 229 = .ok (.iconst 1, 1) := dk_4 (dk_at dksL_law_9 15 rfl rfl)
theorem dL_law_230 : decode cL_law 230 = .ok (.iadd, 1) := dk_96 (dk_at dksL_law_9 16 rfl rfl)
theorem dL_law_231 : decode cL_law 231 = .ok (.iaload, 1) := dk_46 (dk_at dksL_law_9 17 rfl rfl)
theorem dL_law_232 : decode cL_law 232 = .ok (.invokevirtual 40, 3) := dk_182 0 40 (dk_at dksL_law_9 18 rfl rfl)
theorem dL_law_235 : decode cL_law 235 = .ok (.if_icmp .eq 5, 3) := dk_159 0 5 (dk_at dksL_law_9 21 rfl rfl)
theorem dL_law_238 : decode cL_law 238 = .ok (.iconst 0, 1) := dk_3 (dk_at dksL_law_10 0 rfl rfl)
theorem dL_law_239 : decode cL_law 239 = .ok (.ireturn, 1) := dk_172 (dk_at dksL_law_10 1 rfl rfl)
theorem dL_law_240 : decode cL_law 240 = .ok (.iinc 3 6, 3) := dk_132 3 6 (dk_at dksL_law_10 2 rfl rfl)
theorem dL_law_243 : decode cL_law 243 = .ok (.goto (-225), 3) := dk_167 255 31 (dk_at dksL_law_10 5 rfl rfl)
theorem dL_law_246 : decode cL_law 246 = .ok (.iconst 1, 1) := dk_4 (dk_at dksL_law_10 8 rfl rfl)
theorem dL_law_247 : decode cL_law 247 = .ok (.ireturn, 1) := dk_172 (dk_at dksL_law_10 9 rfl rfl)
/-! java/lang/Object -/
set_option maxRecDepth 100000
def RJ5 : String := "java/lang/Object"
abbrev cJ5_init : ByteArray := object_method_1_code
def yJ5_init : MethodName := ⟨RJ5, "<init>", "()V"⟩
theorem dJ5_init_0 : decode cJ5_init 0 = .ok (.return_, 1) := by decide +kernel
theorem q28 : (Jvm.Cond.instanceMethod ({ cls := "java/lang/Object", name := "<init>", desc := "()V" } : Jvm.MethodName)) ∈ lw_all := lw_g (lw_at lw_m1 20 rfl) rfl
theorem q29 : (Jvm.Cond.code ({ cls := "java/lang/Object", name := "<init>", desc := "()V" } : Jvm.MethodName) object_method_1_code (1 : Nat) (Option.none : Option Jvm.ClassFile.FieldType)) ∈ lw_all := lw_g (lw_at lw_m1 21 rfl) rfl
theorem q40 : (Jvm.Cond.arrayClass Jvm.ClassFile.FieldType.byte) ∈ lw_all := lw_g (lw_at lw_m1 32 rfl) rfl
set_option maxRecDepth 100000
theorem q212 : (Jvm.Cond.arrayClass Jvm.ClassFile.FieldType.int) ∈ lw_all := lw_g (lw_at lw_m1 204 rfl) rfl
theorem q345 : (Jvm.Cond.arrayClass Jvm.ClassFile.FieldType.short) ∈ lw_all := lw_g (lw_at lw_m2 97 rfl) rfl
theorem q8 : (Jvm.Cond.initialized "SkipjackDeskLaw") ∈ lw_all := lw_g (lw_at lw_m1 0 rfl) rfl
set_option maxRecDepth 100000
theorem q22 : (Jvm.Cond.classLink "SkipjackDeskLaw" (7 : Nat) "SkipjackDesk") ∈ lw_all := lw_g (lw_at lw_m1 14 rfl) rfl
theorem q24 : (Jvm.Cond.methodLink "SkipjackDeskLaw" (9 : Nat) ({ cls := "SkipjackDesk", name := "<init>", desc := "()V" } : Jvm.MethodName)) ∈ lw_all := lw_g (lw_at lw_m1 16 rfl) rfl
theorem q41 : (Jvm.Cond.methodLink "SkipjackDeskLaw" (13 : Nat) ({ cls := "SkipjackDesk", name := "key", desc := "(IIIII)V" } : Jvm.MethodName)) ∈ lw_all := lw_g (lw_at lw_m1 33 rfl) rfl
theorem q48 : (Jvm.Cond.methodLink "SkipjackDeskLaw" (18 : Nat) ({ cls := "SkipjackDesk", name := "block", desc := "(II)V" } : Jvm.MethodName)) ∈ lw_all := lw_g (lw_at lw_m1 40 rfl) rfl
theorem q52 : (Jvm.Cond.methodLink "SkipjackDeskLaw" (23 : Nat) ({ cls := "SkipjackDesk", name := "lock", desc := "(I)V" } : Jvm.MethodName)) ∈ lw_all := lw_g (lw_at lw_m1 44 rfl) rfl
theorem q268 : (Jvm.Cond.methodLink "SkipjackDeskLaw" (28 : Nat) ({ cls := "SkipjackDesk", name := "open", desc := "(I)V" } : Jvm.MethodName)) ∈ lw_all := lw_g (lw_at lw_m2 20 rfl) rfl
theorem q272 : (Jvm.Cond.methodLink "SkipjackDeskLaw" (32 : Nat) ({ cls := "SkipjackDesk", name := "again", desc := "()V" } : Jvm.MethodName)) ∈ lw_all := lw_g (lw_at lw_m2 24 rfl) rfl
theorem q276 : (Jvm.Cond.methodLink "SkipjackDeskLaw" (36 : Nat) ({ cls := "SkipjackDesk", name := "out", desc := "(I)I" } : Jvm.MethodName)) ∈ lw_all := lw_g (lw_at lw_m2 28 rfl) rfl
theorem q280 : (Jvm.Cond.classLink "SkipjackDeskLaw" (10 : Nat) "SkipjackDeskModel") ∈ lw_all := lw_g (lw_at lw_m2 32 rfl) rfl
theorem q282 : (Jvm.Cond.methodLink "SkipjackDeskLaw" (12 : Nat) ({ cls := "SkipjackDeskModel", name := "<init>", desc := "()V" } : Jvm.MethodName)) ∈ lw_all := lw_g (lw_at lw_m2 34 rfl) rfl
theorem q296 : (Jvm.Cond.methodLink "SkipjackDeskLaw" (17 : Nat) ({ cls := "SkipjackDeskModel", name := "key", desc := "(IIIII)V" } : Jvm.MethodName)) ∈ lw_all := lw_g (lw_at lw_m2 48 rfl) rfl
theorem q303 : (Jvm.Cond.methodLink "SkipjackDeskLaw" (22 : Nat) ({ cls := "SkipjackDeskModel", name := "block", desc := "(II)V" } : Jvm.MethodName)) ∈ lw_all := lw_g (lw_at lw_m2 55 rfl) rfl
theorem q307 : (Jvm.Cond.methodLink "SkipjackDeskLaw" (27 : Nat) ({ cls := "SkipjackDeskModel", name := "lock", desc := "(I)V" } : Jvm.MethodName)) ∈ lw_all := lw_g (lw_at lw_m2 59 rfl) rfl
theorem q328 : (Jvm.Cond.methodLink "SkipjackDeskLaw" (31 : Nat) ({ cls := "SkipjackDeskModel", name := "open", desc := "(I)V" } : Jvm.MethodName)) ∈ lw_all := lw_g (lw_at lw_m2 80 rfl) rfl
theorem q336 : (Jvm.Cond.methodLink "SkipjackDeskLaw" (35 : Nat) ({ cls := "SkipjackDeskModel", name := "again", desc := "()V" } : Jvm.MethodName)) ∈ lw_all := lw_g (lw_at lw_m2 88 rfl) rfl
theorem q340 : (Jvm.Cond.methodLink "SkipjackDeskLaw" (40 : Nat) ({ cls := "SkipjackDeskModel", name := "out", desc := "(I)I" } : Jvm.MethodName)) ∈ lw_all := lw_g (lw_at lw_m2 92 rfl) rfl
theorem q13 : (Jvm.Cond.initialized "java/lang/System") ∈ lw_all := lw_g (lw_at lw_m1 5 rfl) rfl
set_option maxRecDepth 100000
theorem q102 : (Jvm.Cond.static ({ cls := "java/lang/System", name := "arraycopy", desc := "(Ljava/lang/Object;ILjava/lang/Object;II)V" } : Jvm.MethodName)) ∈ lw_all := lw_g (lw_at lw_m1 94 rfl) rfl
theorem q103 : (Jvm.Cond.native ({ cls := "java/lang/System", name := "arraycopy", desc := "(Ljava/lang/Object;ILjava/lang/Object;II)V" } : Jvm.MethodName)) ∈ lw_all := lw_g (lw_at lw_m1 95 rfl) rfl
theorem q106 : (Jvm.Cond.interfaceMethod "BlockCipher" "BlockCipher" "init" "(ZLCipherParameters;)V") ∈ lw_tbl := lw_at lw_m1 98 rfl
set_option maxRecDepth 100000
theorem q107 : (Jvm.Cond.declares ({ cls := "BlockCipher", name := "init", desc := "(ZLCipherParameters;)V" } : Jvm.MethodName)) ∈ lw_tbl := lw_at lw_m1 99 rfl
theorem q189 : (Jvm.Cond.interfaceMethod "BlockCipher" "BlockCipher" "processBlock" "([BI[BI)I") ∈ lw_tbl := lw_at lw_m1 181 rfl
theorem q190 : (Jvm.Cond.declares ({ cls := "BlockCipher", name := "processBlock", desc := "([BI[BI)I" } : Jvm.MethodName)) ∈ lw_tbl := lw_at lw_m1 182 rfl
end
section
/-! THE PLAIN LAW: Skipjack over Nat, and the numbers of Java beside it. sk_b n: the byte n as a Java byte (signed); sk_lo x: the low 16 bits. -/
theorem nx_xor (a b : Nat) : nI a ^^^ nI b = nI (a ^^^ b) := by
  apply Int32.toBitVec_inj.1
  show BitVec.ofNat 32 a ^^^ BitVec.ofNat 32 b = BitVec.ofNat 32 (a ^^^ b)
  apply BitVec.eq_of_getLsbD_eq
  intro i hi
  simp [hi]
theorem nx_or (a b : Nat) : nI a ||| nI b = nI (a ||| b) := by
  apply Int32.toBitVec_inj.1
  show BitVec.ofNat 32 a ||| BitVec.ofNat 32 b = BitVec.ofNat 32 (a ||| b)
  apply BitVec.eq_of_getLsbD_eq
  intro i hi
  simp [hi]
def sk_b (n : Nat) : Int32 := (nI n).toInt8.toInt32
def sk_lo (x : Int32) : Nat := x.toBitVec.toNat % 65536
theorem sk_lo_lt (x : Int32) : sk_lo x < 65536 := Nat.mod_lt _ (by decide)
def sk_tab : List Nat := [
  163, 215, 9, 131, 248, 72, 246, 244, 179, 33, 21, 120, 153, 177, 175, 249,
  231, 45, 77, 138, 206, 76, 202, 46, 82, 149, 217, 30, 78, 56, 68, 40,
  10, 223, 2, 160, 23, 241, 96, 104, 18, 183, 122, 195, 233, 250, 61, 83,
  150, 132, 107, 186, 242, 99, 154, 25, 124, 174, 229, 245, 247, 22, 106, 162,
  57, 182, 123, 15, 193, 147, 129, 27, 238, 180, 26, 234, 208, 145, 47, 184,
  85, 185, 218, 133, 63, 65, 191, 224, 90, 88, 128, 95, 102, 11, 216, 144,
  53, 213, 192, 167, 51, 6, 101, 105, 69, 0, 148, 86, 109, 152, 155, 118,
  151, 252, 178, 194, 176, 254, 219, 32, 225, 235, 214, 228, 221, 71, 74, 29,
  66, 237, 158, 110, 73, 60, 205, 67, 39, 210, 7, 212, 222, 199, 103, 24,
  137, 203, 48, 31, 141, 198, 143, 170, 200, 116, 220, 201, 93, 92, 49, 164,
  112, 136, 97, 44, 159, 13, 43, 135, 80, 130, 84, 100, 38, 125, 3, 64,
  52, 75, 28, 115, 209, 196, 253, 59, 204, 251, 127, 171, 230, 62, 91, 165,
  173, 4, 35, 156, 20, 81, 34, 240, 41, 121, 113, 126, 255, 140, 14, 226,
  12, 239, 188, 114, 117, 111, 55, 161, 236, 211, 142, 98, 139, 134, 16, 232,
  8, 119, 17, 190, 146, 79, 36, 197, 50, 54, 157, 207, 243, 166, 187, 172,
  94, 108, 169, 19, 87, 37, 181, 227, 189, 168, 58, 1, 5, 89, 42, 70]
def sk_F (j : Nat) : Nat := sk_tab.getD j 0
theorem sk_F_lt0 : ∀ j, j < 256 → sk_F j < 256 := by decide +kernel
theorem sk_F_lt {j : Nat} (h : j < 256) : sk_F j < 256 := sk_F_lt0 j h
theorem sk_xor {a b : Nat} (ha : a < 256) (hb : b < 256) : a ^^^ b < 256 := Nat.xor_lt_two_pow (n := 8) ha hb
theorem sk_xorW {a b : Nat} (ha : a < 65536) (hb : b < 65536) : a ^^^ b < 65536 := Nat.xor_lt_two_pow (n := 16) ha hb
/-- the four bytes of g, one after another: (high, low) after j of them -/
def sk_gp (K : Nat → Nat) (k : Nat) : Nat → Nat × Nat → Nat × Nat
  | 0, p => p
  | j + 1, p => ((sk_gp K k j p).2, sk_F ((sk_gp K k j p).2 ^^^ K ((4 * k + j) % 10)) ^^^ (sk_gp K k j p).1)
def sk_g (K : Nat → Nat) (k w : Nat) : Nat := (sk_gp K k 4 (w / 256, w % 256)).1 * 256 + (sk_gp K k 4 (w / 256, w % 256)).2
def sk_hp (K : Nat → Nat) (k : Nat) : Nat → Nat × Nat → Nat × Nat
  | 0, p => p
  | j + 1, p => (sk_F ((sk_hp K k j p).1 ^^^ K ((4 * k + (3 - j)) % 10)) ^^^ (sk_hp K k j p).2, (sk_hp K k j p).1)
def sk_h (K : Nat → Nat) (k w : Nat) : Nat := (sk_hp K k 4 (w / 256, w % 256)).1 * 256 + (sk_hp K k 4 (w / 256, w % 256)).2
/-- ten key bytes -/
def sk_K (K : Nat → Nat) : Prop := ∀ j, j < 10 → K j < 256
theorem sk_K.at {K : Nat → Nat} (h : sk_K K) (x : Nat) : K (x % 10) < 256 := h _ (Nat.mod_lt _ (by decide))
theorem sk_gp_lt {K : Nat → Nat} (hK : sk_K K) (k : Nat) {p : Nat × Nat} (h : p.1 < 256 ∧ p.2 < 256) : ∀ j, (sk_gp K k j p).1 < 256 ∧ (sk_gp K k j p).2 < 256 := by
  intro j
  induction j with
  | zero => exact h
  | succ j ih => exact ⟨ih.2, sk_xor (sk_F_lt (sk_xor ih.2 (hK.at _))) ih.1⟩
theorem sk_hp_lt {K : Nat → Nat} (hK : sk_K K) (k : Nat) {p : Nat × Nat} (h : p.1 < 256 ∧ p.2 < 256) : ∀ j, (sk_hp K k j p).1 < 256 ∧ (sk_hp K k j p).2 < 256 := by
  intro j
  induction j with
  | zero => exact h
  | succ j ih => exact ⟨sk_xor (sk_F_lt (sk_xor ih.1 (hK.at _))) ih.2, ih.1⟩
theorem sk_hl {w : Nat} (h : w < 65536) : w / 256 < 256 ∧ w % 256 < 256 := ⟨by omega, by omega⟩
theorem sk_g_lt {K : Nat → Nat} (hK : sk_K K) (k : Nat) {w : Nat} (h : w < 65536) : sk_g K k w < 65536 := by
  have h1 := sk_gp_lt hK k (p := (w / 256, w % 256)) (sk_hl h) 4
  unfold sk_g
  omega
theorem sk_h_lt {K : Nat → Nat} (hK : sk_K K) (k : Nat) {w : Nat} (h : w < 65536) : sk_h K k w < 65536 := by
  have h1 := sk_hp_lt hK k (p := (w / 256, w % 256)) (sk_hl h) 4
  unfold sk_h
  omega
abbrev sk_Q : Type := Nat × Nat × Nat × Nat
def sk_ok (q : sk_Q) : Prop := q.1 < 65536 ∧ q.2.1 < 65536 ∧ q.2.2.1 < 65536 ∧ q.2.2.2 < 65536
def sk_stA (K : Nat → Nat) (k : Nat) (q : sk_Q) : sk_Q := (sk_g K k q.1 ^^^ q.2.2.2 ^^^ (k + 1), sk_g K k q.1, q.2.1, q.2.2.1)
def sk_stB (K : Nat → Nat) (k : Nat) (q : sk_Q) : sk_Q := (q.2.2.2, sk_g K k q.1, q.1 ^^^ q.2.1 ^^^ (k + 1), q.2.2.1)
def sk_st (K : Nat → Nat) (k : Nat) (q : sk_Q) : sk_Q := if k / 8 % 2 = 0 then sk_stA K k q else sk_stB K k q
def sk_unA (K : Nat → Nat) (k : Nat) (q : sk_Q) : sk_Q := (sk_h K k q.2.1, q.2.2.1, q.2.2.2, q.1 ^^^ q.2.1 ^^^ (k + 1))
def sk_unB (K : Nat → Nat) (k : Nat) (q : sk_Q) : sk_Q := (sk_h K k q.2.1, sk_h K k q.2.1 ^^^ q.2.2.1 ^^^ (k + 1), q.2.2.2, q.1)
def sk_un (K : Nat → Nat) (k : Nat) (q : sk_Q) : sk_Q := if k / 8 % 2 = 0 then sk_unA K k q else sk_unB K k q
/-- n steps of locking: k = 0 .. n - 1 -/
def sk_enc (K : Nat → Nat) : Nat → sk_Q → sk_Q
  | 0, q => q
  | n + 1, q => sk_st K n (sk_enc K n q)
/-- n steps of opening: k = 31 .. 32 - n -/
def sk_dec (K : Nat → Nat) : Nat → sk_Q → sk_Q
  | 0, q => q
  | n + 1, q => sk_un K (31 - n) (sk_dec K n q)
theorem sk_st_ok {K : Nat → Nat} (hK : sk_K K) {k : Nat} (hk : k < 32) {q : sk_Q} (h : sk_ok q) : sk_ok (sk_st K k q) := by
  obtain ⟨h1, h2, h3, h4⟩ := h
  have hg := sk_g_lt hK k h1
  have hk1 : k + 1 < 65536 := by omega
  unfold sk_st
  split
  · exact ⟨sk_xorW (sk_xorW hg h4) hk1, hg, h2, h3⟩
  · exact ⟨h4, hg, sk_xorW (sk_xorW h1 h2) hk1, h3⟩
theorem sk_un_ok {K : Nat → Nat} (hK : sk_K K) {k : Nat} (hk : k < 32) {q : sk_Q} (h : sk_ok q) : sk_ok (sk_un K k q) := by
  obtain ⟨h1, h2, h3, h4⟩ := h
  have hg := sk_h_lt hK k h2
  have hk1 : k + 1 < 65536 := by omega
  unfold sk_un
  split
  · exact ⟨hg, h3, h4, sk_xorW (sk_xorW h1 h2) hk1⟩
  · exact ⟨hg, sk_xorW (sk_xorW hg h3) hk1, h4, h1⟩
theorem sk_enc_ok {K : Nat → Nat} (hK : sk_K K) {q : sk_Q} (h : sk_ok q) : ∀ n, n ≤ 32 → sk_ok (sk_enc K n q) := by
  intro n
  induction n with
  | zero => intro _; exact h
  | succ n ih => intro hn; exact sk_st_ok hK (by omega) (ih (by omega))
theorem sk_dec_ok {K : Nat → Nat} (hK : sk_K K) {q : sk_Q} (h : sk_ok q) : ∀ n, n ≤ 32 → sk_ok (sk_dec K n q) := by
  intro n
  induction n with
  | zero => intro _; exact h
  | succ n ih => intro hn; exact sk_un_ok hK (by omega) (ih (by omega))
/-- the words of eight bytes, the bytes of four words -/
def sk_wd (B : Nat → Nat) : sk_Q := (B 0 * 256 + B 1, B 2 * 256 + B 3, B 4 * 256 + B 5, B 6 * 256 + B 7)
def sk_wi (q : sk_Q) (j : Nat) : Nat := if j = 0 then q.1 else if j = 1 then q.2.1 else if j = 2 then q.2.2.1 else q.2.2.2
def sk_by (q : sk_Q) (j : Nat) : Nat := if j % 2 = 0 then sk_wi q (j / 2) / 256 else sk_wi q (j / 2) % 256
def sk_B (B : Nat → Nat) : Prop := ∀ j, j < 8 → B j < 256
theorem sk_wd_ok {B : Nat → Nat} (h : sk_B B) : sk_ok (sk_wd B) := by
  have h0 := h 0 (by decide)
  have h1 := h 1 (by decide)
  have h2 := h 2 (by decide)
  have h3 := h 3 (by decide)
  have h4 := h 4 (by decide)
  have h5 := h 5 (by decide)
  have h6 := h 6 (by decide)
  have h7 := h 7 (by decide)
  exact ⟨show B 0 * 256 + B 1 < 65536 by omega, show B 2 * 256 + B 3 < 65536 by omega, show B 4 * 256 + B 5 < 65536 by omega, show B 6 * 256 + B 7 < 65536 by omega⟩
theorem sk_wi_lt {q : sk_Q} (h : sk_ok q) (j : Nat) : sk_wi q j < 65536 := by
  obtain ⟨h1, h2, h3, h4⟩ := h
  unfold sk_wi
  split
  · exact h1
  · split
    · exact h2
    · split
      · exact h3
      · exact h4
theorem sk_by_lt {q : sk_Q} (h : sk_ok q) (j : Nat) : sk_by q j < 256 := by
  have h1 := sk_wi_lt h (j / 2)
  unfold sk_by
  split <;> omega
/-! numbers -/
theorem sk_tn (n : Nat) (h : n < 4294967296) : (nI n).toBitVec.toNat = n := pk_tn h
theorem sk_lo_nI {n : Nat} (h : n < 65536) : sk_lo (nI n) = n := by
  unfold sk_lo
  rw [sk_tn n (by omega)]
  omega
theorem sk_lo_xor (x y : Int32) : sk_lo (x ^^^ y) = sk_lo x ^^^ sk_lo y := by
  unfold sk_lo
  rw [Int32.toBitVec_xor, BitVec.toNat_xor]
  exact Nat.xor_mod_two_pow (n := 16)
theorem sk_and255 (x : Int32) : x &&& nI 255 = nI (x.toBitVec.toNat % 256) := pk_and x 8 (by decide)
theorem sk_low (x : Int32) : x &&& nI 255 = nI (sk_lo x % 256) := by
  rw [sk_and255]
  unfold sk_lo
  rw [show x.toBitVec.toNat % 65536 % 256 = x.toBitVec.toNat % 256 by omega]
/-- x >> 8, 16, 24 or 0, its low byte -/
theorem sk_ti (x : Int32) : x.toInt = (x.toBitVec.toNat : Int) ∨ x.toInt = (x.toBitVec.toNat : Int) - 4294967296 := by
  have h : x.toInt = x.toBitVec.toInt := rfl
  rw [h, BitVec.toInt_eq_toNat_cond]
  split
  · exact Or.inl rfl
  · exact Or.inr rfl
theorem sk_sh8 (x : Int32) : (x >>> (nI 8 &&& 31)).toBitVec.toNat % 256 = x.toBitVec.toNat / 256 % 256 := by
  have h := pk_shr x (nI 8 &&& 31) 8 (by decide)
  rw [Int.shiftRight_eq_div_pow] at h
  have h1 := sk_ti x
  have h2 := sk_ti (x >>> (nI 8 &&& 31))
  have h3 := x.toBitVec.isLt
  have h4 := (x >>> (nI 8 &&& 31)).toBitVec.isLt
  have h5 : ((2 ^ 8 : Nat) : Int) = 256 := rfl
  rw [h5] at h
  omega
theorem sk_sh16 (x : Int32) : (x >>> (nI 16 &&& 31)).toBitVec.toNat % 256 = x.toBitVec.toNat / 65536 % 256 := by
  have h := pk_shr x (nI 16 &&& 31) 16 (by decide)
  rw [Int.shiftRight_eq_div_pow] at h
  have h1 := sk_ti x
  have h2 := sk_ti (x >>> (nI 16 &&& 31))
  have h3 := x.toBitVec.isLt
  have h4 := (x >>> (nI 16 &&& 31)).toBitVec.isLt
  have h5 : ((2 ^ 16 : Nat) : Int) = 65536 := rfl
  rw [h5] at h
  omega
theorem sk_sh24 (x : Int32) : (x >>> (nI 24 &&& 31)).toBitVec.toNat % 256 = x.toBitVec.toNat / 16777216 % 256 := by
  have h := pk_shr x (nI 24 &&& 31) 24 (by decide)
  rw [Int.shiftRight_eq_div_pow] at h
  have h1 := sk_ti x
  have h2 := sk_ti (x >>> (nI 24 &&& 31))
  have h3 := x.toBitVec.isLt
  have h4 := (x >>> (nI 24 &&& 31)).toBitVec.isLt
  have h5 : ((2 ^ 24 : Nat) : Int) = 16777216 := rfl
  rw [h5] at h
  omega
theorem sk_sh0 (x : Int32) : (x >>> (nI 0 &&& 31)).toBitVec.toNat % 256 = x.toBitVec.toNat % 256 := by
  rw [show nI 0 = 0 from nI_0, sb_shr0]
theorem sk_high (x : Int32) : (x >>> (nI 8 &&& 31)) &&& nI 255 = nI (sk_lo x / 256) := by
  rw [sk_and255, sk_sh8]
  unfold sk_lo
  rw [show x.toBitVec.toNat % 65536 / 256 = x.toBitVec.toNat / 256 % 256 by omega]
theorem sk_i8 (x : Int32) : x.toInt8.toInt32 = sk_b (x.toBitVec.toNat % 256) := by
  unfold sk_b
  have e : x.toInt8 = (nI (x.toBitVec.toNat % 256)).toInt8 := by
    apply Int8.toBitVec_inj.1
    rw [Int32.toBitVec_toInt8, Int32.toBitVec_toInt8, BitVec.signExtend_eq_setWidth_of_le _ (by decide), BitVec.signExtend_eq_setWidth_of_le _ (by decide)]
    apply BitVec.eq_of_toNat_eq
    rw [BitVec.toNat_setWidth, BitVec.toNat_setWidth, sk_tn _ (by omega)]
    omega
  rw [e]
theorem sk_i8lo (x : Int32) : x.toInt8.toInt32 = sk_b (sk_lo x % 256) := by
  rw [sk_i8]
  unfold sk_lo
  rw [show x.toBitVec.toNat % 65536 % 256 = x.toBitVec.toNat % 256 by omega]
theorem sk_i8hi (x : Int32) : (x >>> (nI 8 &&& 31)).toInt8.toInt32 = sk_b (sk_lo x / 256) := by
  rw [sk_i8, sk_sh8]
  unfold sk_lo
  rw [show x.toBitVec.toNat % 65536 / 256 = x.toBitVec.toNat / 256 % 256 by omega]
theorem sk_nar (n : Nat) : vp_nar .byte (sk_b n) = sk_b n := pk_vb (nI n)
theorem sk_fit (n : Nat) : fits .byte (.int (sk_b n)) = true := pk_fb (nI n)
theorem sk_b255 {n : Nat} (h : n < 256) : sk_b n &&& nI 255 = nI n := sc_k8 n h
theorem sk_b0 : sk_b 0 = 0 := by decide
theorem sk_bmod {n : Nat} (h : n < 256) : (sk_b n).toBitVec.toNat % 256 = n := by
  have h1 := sk_b255 h
  rw [sk_and255] at h1
  have h2 := congrArg (fun z : Int32 => z.toBitVec.toNat) h1
  rw [sk_tn _ (by omega), sk_tn _ (by omega)] at h2
  exact h2
theorem sk_word {a b : Nat} (ha : a < 256) (hb : b < 256) : sk_lo ((sk_b a <<< (nI 8 &&& 31)) + (sk_b b &&& nI 255)) = a * 256 + b := by
  rw [sk_b255 hb]
  unfold sk_lo
  rw [Int32.toBitVec_add, BitVec.toNat_add, pk_shl (sk_b a) (nI 8 &&& 31) 8 (by decide), sk_tn b (by omega)]
  have h := sk_bmod ha
  generalize (sk_b a).toBitVec.toNat = X at h
  rw [show (2 : Nat) ^ 8 = 256 from rfl, show (2 : Nat) ^ 32 = 4294967296 from rfl]
  omega
theorem sk_orlt {a b : Nat} (hb : b < 256) : a * 256 ||| b = a * 256 + b := by
  have h := Nat.two_pow_add_eq_or_of_lt (i := 8) (b := b) hb a
  rw [show (2 : Nat) ^ 8 * a = a * 256 from Nat.mul_comm _ _] at h
  exact h.symm
theorem sk_shl8 {a : Nat} (ha : a < 65536) : nI a <<< (nI 8 &&& 31) = nI (a * 256) := pk_shlN (nI 8 &&& 31) 8 (by decide) (by rw [show (2 : Nat) ^ 8 = 256 from rfl, show (2 : Nat) ^ 32 = 4294967296 from rfl]; omega)
theorem sk_cat {a b : Nat} (ha : a < 256) (hb : b < 256) : (nI a <<< (nI 8 &&& 31)) ||| nI b = nI (a * 256 + b) := by
  rw [sk_shl8 (by omega), nx_or, sk_orlt hb]
theorem sk_catA {a b : Nat} (ha : a < 256) : (nI a <<< (nI 8 &&& 31)) + nI b = nI (a * 256 + b) := by
  rw [sk_shl8 (by omega), nI_add]
theorem sk_shr8 {w : Nat} (hw : w < 65536) : nI w >>> (nI 8 &&& 31) = nI (w / 256) := pk_shrN (by omega) (nI 8 &&& 31) 8 (by decide)
theorem sk_and8 {w : Nat} (hw : w < 65536) : nI w &&& nI 255 = nI (w % 256) := pk_andN (by omega) 8 (by decide)
/-! an int, laid as four bytes -/
def sk_wb (w : Int32) (i : Nat) : Nat := w.toBitVec.toNat / 2 ^ (24 - 8 * i) % 256
theorem sk_wb_lt (w : Int32) (i : Nat) : sk_wb w i < 256 := Nat.mod_lt _ (by decide)
theorem sk_wb0 (w : Int32) : (w >>> (nI 24 &&& 31)).toInt8.toInt32 = sk_b (sk_wb w 0) := by rw [sk_i8, sk_sh24]; rfl
theorem sk_wb1 (w : Int32) : (w >>> (nI 16 &&& 31)).toInt8.toInt32 = sk_b (sk_wb w 1) := by rw [sk_i8, sk_sh16]; rfl
theorem sk_wb2 (w : Int32) : (w >>> (nI 8 &&& 31)).toInt8.toInt32 = sk_b (sk_wb w 2) := by rw [sk_i8, sk_sh8]; rfl
theorem sk_wb3 (w : Int32) : w.toInt8.toInt32 = sk_b (sk_wb w 3) := by
  rw [sk_i8]
  unfold sk_wb
  rw [show 24 - 8 * 3 = 0 from rfl, Nat.pow_zero, Nat.div_one]
theorem sk_wbI (w : Int32) {i : Nat} (h : i < 4) : (w >>> ((nI 24 - nI 8 * nI i) &&& 31)) &&& nI 255 = nI (sk_wb w i) := by
  rcases (show i = 0 ∨ i = 1 ∨ i = 2 ∨ i = 3 by omega) with rfl | rfl | rfl | rfl
  · rw [show nI 24 - nI 8 * nI 0 = nI 24 by decide, sk_and255, sk_sh24]; rfl
  · rw [show nI 24 - nI 8 * nI 1 = nI 16 by decide, sk_and255, sk_sh16]; rfl
  · rw [show nI 24 - nI 8 * nI 2 = nI 8 by decide, sk_and255, sk_sh8]; rfl
  · rw [show nI 24 - nI 8 * nI 3 = nI 0 by decide, sk_and255, sk_sh0]
    unfold sk_wb
    rw [show 24 - 8 * 3 = 0 from rfl, Nat.pow_zero, Nat.div_one]
def sk_put (K : Nat → Nat) (a : Nat) (w : Int32) : Nat → Nat := fun j => if a ≤ j ∧ j < a + 4 then sk_wb w (j - a) else K j
def sk_pB (f : Nat → Int32) (a : Nat) (w : Int32) : Nat → Int32 := fun j => if a ≤ j ∧ j < a + 4 then sk_b (sk_wb w (j - a)) else f j
def sk_pI (f : Nat → Int32) (a i : Nat) (w : Int32) : Nat → Int32 := fun j => if a ≤ j ∧ j < a + i then nI (sk_wb w (j - a)) else f j
theorem sk_pB_eq (f : Nat → Int32) (a : Nat) (w : Int32) : upd (upd (upd (upd f a (sk_b (sk_wb w 0))) (a + 1) (sk_b (sk_wb w 1))) (a + 2) (sk_b (sk_wb w 2))) (a + 3) (sk_b (sk_wb w 3)) = sk_pB f a w := by
  funext j
  unfold upd sk_pB
  rcases Nat.lt_or_ge j a with h | h
  · rw [if_neg (by omega), if_neg (by omega), if_neg (by omega), if_neg (by omega), if_neg (by omega)]
  · rcases Nat.lt_or_ge j (a + 4) with h4 | h4
    · rw [if_pos (⟨h, h4⟩ : a ≤ j ∧ j < a + 4)]
      rcases (show j = a ∨ j = a + 1 ∨ j = a + 2 ∨ j = a + 3 by omega) with rfl | rfl | rfl | rfl
      · rw [if_neg (by omega), if_neg (by omega), if_neg (by omega), if_pos rfl, Nat.sub_self]
      · rw [if_neg (by omega), if_neg (by omega), if_pos rfl, Nat.add_sub_cancel_left]
      · rw [if_neg (by omega), if_pos rfl, Nat.add_sub_cancel_left]
      · rw [if_pos rfl, Nat.add_sub_cancel_left]
    · rw [if_neg (by omega), if_neg (by omega), if_neg (by omega), if_neg (by omega), if_neg (by omega)]
theorem sk_pI_0 (f : Nat → Int32) (a : Nat) (w : Int32) : f = sk_pI f a 0 w := by
  funext j
  unfold sk_pI
  rw [if_neg (by omega)]
theorem sk_pI_s (f : Nat → Int32) (a i : Nat) (w : Int32) : upd (sk_pI f a i w) (a + i) (nI (sk_wb w i)) = sk_pI f a (i + 1) w := by
  funext j
  unfold upd sk_pI
  by_cases h : j = a + i
  · subst h
    rw [if_pos rfl, if_pos (by omega), Nat.add_sub_cancel_left]
  · rw [if_neg h]
    by_cases h2 : a ≤ j ∧ j < a + i
    · rw [if_pos h2, if_pos (by omega)]
    · rw [if_neg h2, if_neg (by omega)]
/-- a loop that fills the places from 0 on -/
def sk_fill (g f : Nat → Int32) (i : Nat) : Nat → Int32 := fun j => if j < i then g j else f j
theorem sk_fill_0 (g f : Nat → Int32) : f = sk_fill g f 0 := by
  funext j
  unfold sk_fill
  rw [if_neg (by omega)]
theorem sk_fill_s (g f : Nat → Int32) (i : Nat) {v : Int32} (hv : v = g i) : upd (sk_fill g f i) i v = sk_fill g f (i + 1) := by
  funext j
  unfold upd sk_fill
  by_cases h : j = i
  · subst h
    rw [if_pos rfl, if_pos (by omega), hv]
  · rw [if_neg h]
    by_cases h2 : j < i
    · rw [if_pos h2, if_pos (by omega)]
    · rw [if_neg h2, if_neg (by omega)]
/-- two places at a time -/
theorem sk_fill_2 (g f : Nat → Int32) (i : Nat) {v w : Int32} (hv : v = g (2 * i)) (hw : w = g (2 * i + 1)) : upd (upd (sk_fill g f (2 * i)) (2 * i) v) (2 * i + 1) w = sk_fill g f (2 * (i + 1)) := by
  rw [sk_fill_s g f (2 * i) hv, sk_fill_s g f (2 * i + 1) hw, show 2 * i + 1 + 1 = 2 * (i + 1) by omega]
theorem sk_fill_lt {g f : Nat → Int32} {i j : Nat} (h : j < i) : sk_fill g f i j = g j := by
  unfold sk_fill
  rw [if_pos h]
/-- the two systems hold the same bytes -/
def sk_R (n : Nat) (K : Nat → Nat) (f g : Nat → Int32) : Prop := ∀ j, j < n → K j < 256 ∧ f j = sk_b (K j) ∧ g j = nI (K j)
theorem sk_R_put {n : Nat} {K : Nat → Nat} {f g : Nat → Int32} (h : sk_R n K f g) (a : Nat) (w : Int32) : sk_R n (sk_put K a w) (sk_pB f a w) (sk_pI g a 4 w) := by
  intro j hj
  unfold sk_put sk_pB sk_pI
  by_cases h2 : a ≤ j ∧ j < a + 4
  · rw [if_pos h2, if_pos h2, if_pos h2]
    exact ⟨sk_wb_lt _ _, rfl, rfl⟩
  · rw [if_neg h2, if_neg h2, if_neg h2]
    exact h j hj
theorem sk_R_fill {n : Nat} {K O : Nat → Nat} {f g : Nat → Int32} (h : ∀ j, j < n → O j < 256) : sk_R n O (sk_fill (fun j => sk_b (O j)) f n) (sk_fill (fun j => nI (O j)) g n) := by
  intro j hj
  rw [sk_fill_lt hj, sk_fill_lt hj]
  exact ⟨h j hj, rfl, rfl⟩
theorem sk_R_0 (n : Nat) : sk_R n (fun _ => 0) (fun _ => 0) (fun _ => 0) := fun j _ => ⟨show 0 < 256 by decide, show (0 : Int32) = sk_b 0 by decide, show (0 : Int32) = nI 0 by decide⟩
def sk_at (x : Int32) : Nat := x.toBitVec.toNat % 2 * 16
theorem sk_at_le (x : Int32) : sk_at x ≤ 16 := by
  unfold sk_at
  omega
theorem sk_at_eq (x : Int32) : (x &&& nI 1) <<< (nI 4 &&& 31) = nI (sk_at x) := by
  rw [pk_and x 1 (by decide)]
  exact pk_shlN (nI 4 &&& 31) 4 (by decide) (by omega)
theorem sk_and7 (x : Int32) : x &&& nI 7 = nI (x.toBitVec.toNat % 8) := pk_and x 3 (by decide)
theorem sk_cpy (f : Nat → Int32) : va_cpy f (fun _ => 0) (nI 0).toNatClampNeg (nI 0).toNatClampNeg (nI 10).toNatClampNeg = sk_fill f (fun _ => 0) 10 := by
  rw [nI_clamp (by decide), nI_clamp (by decide)]
  funext j
  unfold sk_fill
  by_cases h : j < 10
  · rw [pk_cpy_in (by omega) (by omega), if_pos h, Nat.zero_add, Nat.sub_zero]
  · rw [pk_cpy_out (by omega), if_neg h]
/-- four Java ints hold a state in their low 16 bits -/
def sk_inv (q : sk_Q) (w1 w2 w3 w4 : Int32) : Prop := sk_lo w1 = q.1 ∧ sk_lo w2 = q.2.1 ∧ sk_lo w3 = q.2.2.1 ∧ sk_lo w4 = q.2.2.2
theorem sk_inv_A {K : Nat → Nat} (hK : sk_K K) {k : Nat} (hk : k < 32) (hr : k / 8 % 2 = 0) {q : sk_Q} {w1 w2 w3 w4 g : Int32} (h : sk_inv q w1 w2 w3 w4) (hg : g = nI (sk_g K k (sk_lo w1))) : sk_inv (sk_st K k q) ((g ^^^ w4) ^^^ nI (k + 1)) g w2 w3 := by
  obtain ⟨h1, h2, h3, h4⟩ := h
  have hl : sk_lo g = sk_g K k q.1 := by rw [hg, sk_lo_nI (sk_g_lt hK k (sk_lo_lt _)), h1]
  have e : sk_st K k q = sk_stA K k q := if_pos hr
  rw [e]
  refine ⟨?_, hl, h2, h3⟩
  rw [sk_lo_xor, sk_lo_xor, hl, h4, sk_lo_nI (by omega)]
  rfl
theorem sk_inv_B {K : Nat → Nat} (hK : sk_K K) {k : Nat} (hk : k < 32) (hr : ¬ k / 8 % 2 = 0) {q : sk_Q} {w1 w2 w3 w4 g : Int32} (h : sk_inv q w1 w2 w3 w4) (hg : g = nI (sk_g K k (sk_lo w1))) : sk_inv (sk_st K k q) w4 g ((w1 ^^^ w2) ^^^ nI (k + 1)) w3 := by
  obtain ⟨h1, h2, h3, h4⟩ := h
  have hl : sk_lo g = sk_g K k q.1 := by rw [hg, sk_lo_nI (sk_g_lt hK k (sk_lo_lt _)), h1]
  have e : sk_st K k q = sk_stB K k q := if_neg hr
  rw [e]
  refine ⟨h4, hl, ?_, h3⟩
  rw [sk_lo_xor, sk_lo_xor, h1, h2, sk_lo_nI (by omega)]
  rfl
theorem sk_inv_uB {K : Nat → Nat} (hK : sk_K K) {k : Nat} (hk : k < 32) (hr : ¬ k / 8 % 2 = 0) {q : sk_Q} {w1 w2 w3 w4 g : Int32} (h : sk_inv q w1 w2 w3 w4) (hg : g = nI (sk_h K k (sk_lo w2))) : sk_inv (sk_un K k q) g ((g ^^^ w3) ^^^ nI (k + 1)) w4 w1 := by
  obtain ⟨h1, h2, h3, h4⟩ := h
  have hl : sk_lo g = sk_h K k q.2.1 := by rw [hg, sk_lo_nI (sk_h_lt hK k (sk_lo_lt _)), h2]
  have e : sk_un K k q = sk_unB K k q := if_neg hr
  rw [e]
  refine ⟨hl, ?_, h4, h1⟩
  rw [sk_lo_xor, sk_lo_xor, hl, h3, sk_lo_nI (by omega)]
  rfl
theorem sk_inv_uA {K : Nat → Nat} (hK : sk_K K) {k : Nat} (hk : k < 32) (hr : k / 8 % 2 = 0) {q : sk_Q} {w1 w2 w3 w4 g : Int32} (h : sk_inv q w1 w2 w3 w4) (hg : g = nI (sk_h K k (sk_lo w2))) : sk_inv (sk_un K k q) g w3 w4 ((w2 ^^^ w1) ^^^ nI (k + 1)) := by
  obtain ⟨h1, h2, h3, h4⟩ := h
  have hl : sk_lo g = sk_h K k q.2.1 := by rw [hg, sk_lo_nI (sk_h_lt hK k (sk_lo_lt _)), h2]
  have e : sk_un K k q = sk_unA K k q := if_pos hr
  rw [e]
  refine ⟨hl, h3, h4, ?_⟩
  rw [sk_lo_xor, sk_lo_xor, h1, h2, sk_lo_nI (by omega), Nat.xor_comm q.2.1 q.1]
  rfl
end
section
/-! ROWS OF THE KIT, FOR NUMBERS nI k; what the methods carry of the tables (sk_TE: SkipjackEngine.ftable, sk_TM: SkipjackDeskModel.F, sk_I: the interface's entries) -/
abbrev vwCl : List vw_C := [(RX0, TX0, 3), (RX1, TX1, 3), (RX2, TX2, 5), (RX3, TX3, 1)]
section SKW
variable {p : Program} {l : Launch} {e : Env} {R : Room} {s : State} {m : MethodId} {args : Array Value} {below : List Frame} {meth : Method} {c : Code} {H : Heap} {locs : List Loc} {cells slots : Nat} {Q : State → Prop}
variable {cc : ByteArray} {pc : Nat} {ls : Array Slot} {rest : List Value} {D : va_G} {cl : List vw_C} {A : Nat → Prop} {a : Nat} {tys : List (ClassId × FieldType)} {ws : va_W} {H0 : Heap}
theorem sk_top {x y : Int32} (h : x = y) (k : W p l e R s m args below meth c H locs cells slots Q (F0 m pc ls (.int y :: rest))) : W p l e R s m args below meth c H locs cells slots Q (F0 m pc ls (.int x :: rest)) := by
  subst h
  exact k
theorem sk_iald (hexec : p.tables.exec = Jvm.exec) (hb : c.code = cc) (hK : va_K D cl tys s) (hP : va_P D cl ws H) (q0 t0 : Nat) {cA : ClassId} {n : Nat} {f : Nat → Int32} (ha : ws[q0]? = some (a, .inl (cA, n, .inl f))) (ht : tys[t0]? = some (cA, .int)) {k : Nat} (hk : k < n) (hn : n < 2 ^ 31) (hdg : decode cc pc = .ok (.iaload, 1))
    (kk : W p l e R s m args below meth c H locs cells slots Q (F0 m (pc + 1) ls (.int (f k) :: rest))) : W p l e R s m args below meth c H locs cells slots Q (F0 m pc ls (.int (nI k) :: .ref a :: rest)) := by
  refine va_iald hexec hb hK hP q0 t0 ha ht (vp_in_nI hk hn) hdg ?_
  rw [nI_clamp (by omega)]
  exact kk
theorem sk_bald (hexec : p.tables.exec = Jvm.exec) (hb : c.code = cc) (hK : va_K D cl tys s) (hP : va_P D cl ws H) (q0 t0 : Nat) {cA : ClassId} {n : Nat} {f : Nat → Int32} (ha : ws[q0]? = some (a, .inl (cA, n, .inl f))) (ht : tys[t0]? = some (cA, .byte)) {k : Nat} (hk : k < n) (hn : n < 2 ^ 31) (hdg : decode cc pc = .ok (.baload, 1))
    (kk : W p l e R s m args below meth c H locs cells slots Q (F0 m (pc + 1) ls (.int (f k) :: rest))) : W p l e R s m args below meth c H locs cells slots Q (F0 m pc ls (.int (nI k) :: .ref a :: rest)) := by
  refine va_bald hexec hb hK hP q0 t0 ha ht (vp_in_nI hk hn) hdg ?_
  rw [nI_clamp (by omega)]
  exact kk
theorem sk_iast (hexec : p.tables.exec = Jvm.exec) (hb : c.code = cc) (hK : va_K D cl tys s) (hP : va_P D cl ws H) (hD : va_D A ws) (hS : va_S A H0 H locs) (q0 t0 : Nat) {cA : ClassId} {n : Nat} {f : Nat → Int32} (ha : ws[q0]? = some (a, .inl (cA, n, .inl f))) (ht : tys[t0]? = some (cA, .int)) {k : Nat} {x : Int32} (hk : k < n) (hn : n < 2 ^ 31) (hdg : decode cc pc = .ok (.iastore, 1))
    (kk : ∀ (H1 : Heap) (locs1 : List Loc), va_P D cl (ws.set q0 (a, .inl (cA, n, .inl (upd f k x)))) H1 → va_D A (ws.set q0 (a, .inl (cA, n, .inl (upd f k x)))) → va_S A H0 H1 locs1 → W p l e R s m args below meth c H1 locs1 cells slots Q (F0 m (pc + 1) ls rest)) : W p l e R s m args below meth c H locs cells slots Q (F0 m pc ls (.int x :: .int (nI k) :: .ref a :: rest)) := by
  refine va_iast hexec hb hK hP hD hS q0 t0 ha ht (vp_in_nI hk hn) hdg ?_
  rw [nI_clamp (by omega)]
  exact kk
theorem sk_bast (hexec : p.tables.exec = Jvm.exec) (hb : c.code = cc) (hK : va_K D cl tys s) (hP : va_P D cl ws H) (hD : va_D A ws) (hS : va_S A H0 H locs) (q0 t0 : Nat) {cA : ClassId} {n : Nat} {f : Nat → Int32} (ha : ws[q0]? = some (a, .inl (cA, n, .inl f))) (ht : tys[t0]? = some (cA, .byte)) {k b : Nat} (hk : k < n) (hn : n < 2 ^ 31) (hdg : decode cc pc = .ok (.bastore, 1))
    (kk : ∀ (H1 : Heap) (locs1 : List Loc), va_P D cl (ws.set q0 (a, .inl (cA, n, .inl (upd f k (sk_b b))))) H1 → va_D A (ws.set q0 (a, .inl (cA, n, .inl (upd f k (sk_b b))))) → va_S A H0 H1 locs1 → W p l e R s m args below meth c H1 locs1 cells slots Q (F0 m (pc + 1) ls rest)) : W p l e R s m args below meth c H locs cells slots Q (F0 m pc ls (.int (sk_b b) :: .int (nI k) :: .ref a :: rest)) := by
  refine va_bast hexec hb hK hP hD hS q0 t0 ha ht (vp_in_nI hk hn) hdg ?_
  rw [nI_clamp (by omega), sk_nar]
  exact kk
theorem sk_ts {t : Nat} {f : Nat → Int32} (hexec : p.tables.exec = Jvm.exec) (hb : c.code = cc) (hT : va_T .short t 256 (fun j => .int (f j)) A s s.heap) (hS : va_S A s.heap H locs) {k : Nat} (hk : k < 256) (hdg : decode cc pc = .ok (.saload, 1))
    (kk : W p l e R s m args below meth c H locs cells slots Q (F0 m (pc + 1) ls (.int (f k) :: rest))) : W p l e R s m args below meth c H locs cells slots Q (F0 m pc ls (.int (nI k) :: .ref t :: rest)) := by
  refine va_ts (v := .int (f k)) hexec hb hT hS (vp_in_nI hk (by decide)) ?_ hdg kk
  rw [nI_clamp (by omega)]
theorem sk_tn32 {t : Nat} {f : Nat → Int32} (hexec : p.tables.exec = Jvm.exec) (hb : c.code = cc) (hT : va_T .int t 256 (fun j => .int (f j)) A s s.heap) (hS : va_S A s.heap H locs) {k : Nat} (hk : k < 256) (hdg : decode cc pc = .ok (.iaload, 1))
    (kk : W p l e R s m args below meth c H locs cells slots Q (F0 m (pc + 1) ls (.int (f k) :: rest))) : W p l e R s m args below meth c H locs cells slots Q (F0 m pc ls (.int (nI k) :: .ref t :: rest)) := by
  refine va_ti (v := .int (f k)) hexec hb hT hS (vp_in_nI hk (by decide)) ?_ hdg kk
  rw [nI_clamp (by omega)]
/-- i >= n: no, yes -/
theorem sk_geN (hexec : p.tables.exec = Jvm.exec) (hb : c.code = cc) {i n tgt : Nat} {off : Int} (hi : i < n) (hn : n < 2 ^ 31) (hdg : decode cc pc = .ok (.if_icmp .ge off, 3)) (ht : (pc : Int) + off = (tgt : Int))
    (k : W p l e R s m args below meth c H locs cells slots Q (F0 m (pc + 3) ls rest)) : W p l e R s m args below meth c H locs cells slots Q (F0 m pc ls (.int (nI n) :: .int (nI i) :: rest)) :=
  lv_icmp_ge (tgt := tgt) hexec hb hdg ht (fun q => absurd q (nI_ge hi hn)) (fun _ => k)
theorem sk_geY (hexec : p.tables.exec = Jvm.exec) (hb : c.code = cc) {i n tgt : Nat} {off : Int} (hi : n ≤ i) (hn : i < 2 ^ 31) (hdg : decode cc pc = .ok (.if_icmp .ge off, 3)) (ht : (pc : Int) + off = (tgt : Int))
    (k : W p l e R s m args below meth c H locs cells slots Q (F0 m tgt ls rest)) : W p l e R s m args below meth c H locs cells slots Q (F0 m pc ls (.int (nI n) :: .int (nI i) :: rest)) :=
  lv_icmp_ge (tgt := tgt) hexec hb hdg ht (fun _ => k) (fun q => absurd (nI_le hi hn) q)
/-- x < 0: no, for nI i -/
theorem sk_ltN (hexec : p.tables.exec = Jvm.exec) (hb : c.code = cc) {i tgt : Nat} {off : Int} (hi : i < 2 ^ 31) (hdg : decode cc pc = .ok (.ifCond .lt off, 3)) (ht : (pc : Int) + off = (tgt : Int))
    (k : W p l e R s m args below meth c H locs cells slots Q (F0 m (pc + 3) ls rest)) : W p l e R s m args below meth c H locs cells slots Q (F0 m pc ls (.int (nI i) :: rest)) :=
  lv_if_lt (tgt := tgt) hexec hb hdg ht (fun q => absurd q (nI_pos hi)) (fun _ => k)
theorem sk_ltY (hexec : p.tables.exec = Jvm.exec) (hb : c.code = cc) {tgt : Nat} {off : Int} (hdg : decode cc pc = .ok (.ifCond .lt off, 3)) (ht : (pc : Int) + off = (tgt : Int))
    (k : W p l e R s m args below meth c H locs cells slots Q (F0 m tgt ls rest)) : W p l e R s m args below meth c H locs cells slots Q (F0 m pc ls (.int (-1) :: rest)) :=
  lv_if_lt (tgt := tgt) hexec hb hdg ht (fun _ => k) (fun q => absurd (by decide) q)
end SKW
def sk_TE (t : Nat) (A : Nat → Prop) (U : State) : Prop := va_Z "SkipjackEngine" "ftable" "[S" (.ref t) A U U.heap ∧ va_T .short t 256 (fun j => .int (nI (sk_F j))) A U U.heap
def sk_TM (t : Nat) (A : Nat → Prop) (U : State) : Prop := va_Z "SkipjackDeskModel" "F" "[I" (.ref t) A U U.heap ∧ va_T .int t 256 (fun j => .int (nI (sk_F j))) A U U.heap
theorem sk_TE.calling {t : Nat} {A : Nat → Prop} {U : State} {g : JFrame} {mk : MethodId} {a : Array Value} (h : sk_TE t A U) : sk_TE t A (U.calling g mk a) :=
  ⟨va_Z.moved (u := U) (U := U.calling g mk a) (Vm.Alike.refl U.vm) h.1, va_T.moved (u := U) (U := U.calling g mk a) (Vm.Alike.refl U.vm) h.2⟩
theorem sk_TM.calling {t : Nat} {A : Nat → Prop} {U : State} {g : JFrame} {mk : MethodId} {a : Array Value} (h : sk_TM t A U) : sk_TM t A (U.calling g mk a) :=
  ⟨va_Z.moved (u := U) (U := U.calling g mk a) (Vm.Alike.refl U.vm) h.1, va_T.moved (u := U) (U := U.calling g mk a) (Vm.Alike.refl U.vm) h.2⟩
theorem sk_TE.call {t : Nat} {A A1 : Nat → Prop} {s U : State} {H : Heap} {locs : List Loc} (h : sk_TE t A s) (hvm : s.vm.Alike U.vm) (hU : U.heap = H) (hS : va_S A s.heap H locs) (hF : ∀ q, A1 q → A q) : sk_TE t A1 U := by
  subst hU
  exact ⟨va_Z.narrow (va_Z.moved hvm (va_Z.kept h.1 hS.2.1)) hF, va_T.narrow (va_T.moved hvm (va_T.kept h.2 hS.2.1)) hF⟩
theorem sk_TM.call {t : Nat} {A A1 : Nat → Prop} {s U : State} {H : Heap} {locs : List Loc} (h : sk_TM t A s) (hvm : s.vm.Alike U.vm) (hU : U.heap = H) (hS : va_S A s.heap H locs) (hF : ∀ q, A1 q → A q) : sk_TM t A1 U := by
  subst hU
  exact ⟨va_Z.narrow (va_Z.moved hvm (va_Z.kept h.1 hS.2.1)) hF, va_T.narrow (va_T.moved hvm (va_T.kept h.2 hS.2.1)) hF⟩
def sk_xI : MethodName := ⟨"BlockCipher", "init", "(ZLCipherParameters;)V"⟩
def sk_xP : MethodName := ⟨"BlockCipher", "processBlock", "([BI[BI)I"⟩
def sk_I (_ : Nat → Prop) (U : State) : Prop := va_Fw RX2 sk_xI yX2_init_2 U ∧ va_Fw RX2 sk_xP yX2_processBlock U
theorem sk_I.moved {A A1 : Nat → Prop} {u U : State} (hvm : u.vm.Alike U.vm) (h : sk_I A u) : sk_I A1 U :=
  ⟨va_Fw.moved (by decide) hvm h.1, va_Fw.moved (by decide) hvm h.2⟩
theorem sk_I.calling {A : Nat → Prop} {U : State} {g : JFrame} {mk : MethodId} {a : Array Value} (h : sk_I A U) : sk_I A (U.calling g mk a) :=
  sk_I.moved (u := U) (U := U.calling g mk a) (Vm.Alike.refl U.vm) h
theorem sk_I.call {A A1 : Nat → Prop} {s U : State} {H : Heap} {locs : List Loc} (h : sk_I A s) (hvm : s.vm.Alike U.vm) (hU : U.heap = H) (hS : va_S A s.heap H locs) (hF : ∀ q, A1 q → A q) : sk_I A1 U := h.moved hvm
theorem sk_GF {own : String} {idx : Nat} {C : String} {x y : MethodName} {b : ByteArray} {L : Nat} {r : Option FieldType} (h1 : Cond.methodLink own idx x ∈ lw_all) (h2 : Cond.selects C x y ∈ lw_all) (h3 : Cond.instanceMethod y ∈ lw_all) (h4 : Cond.initialized y.cls ∈ lw_all) (h5 : Cond.code y b L r ∈ lw_all) : GoodIn lw_all (va_wsF own idx C x y (ws_ y b L r)) := by
  refine lw_app ?_ (lw_meth h5)
  intro w hw
  simp only [List.mem_cons, List.not_mem_nil, or_false] at hw
  rcases hw with e | e | e | e
  · rw [e]; exact h1
  · rw [e]; exact h2
  · rw [e]; exact h3
  · rw [e]; exact h4
theorem sk_dec1 (x : Int32) : x + Int32.ofInt (-1) = x - 1 := by
  rw [Int32.sub_eq_add_neg]
  rfl
end
section
/-! SkipjackDesk: word, key, block, size, out, again, the constructor -/
set_option maxHeartbeats 1000000 in
set_option maxRecDepth 100000 in
/-- SkipjackDesk.word: four bytes laid from a on -/
theorem dsk_word (l : Launch) (dC : Nat → ClassId) (dI : Nat → Nat → Nat) (sz : Nat) (h : Nat) (d : ClassId) (n a : Nat) (f : Nat → Int32) (w : Int32) (ha : a + 4 ≤ n) (hn : n < 2 ^ 31) : Met l yX0_word (ws_ yX0_word cX0_word 3 none) ({ frames := 0, cells := 0, slots := 0, locals := 0 }) (va_Pc [.ref h, .int (nI a), .int w] (fun U => U.heap.size = sz ∧ va_P (dC, dI) vwCl [(h, .inl (d, n, .inl (f)))] U.heap ∧ va_K (dC, dI) vwCl [(d, .byte)] U ∧ va_D (fun _ => True) [(h, .inl (d, n, .inl (f)))])) (va_Qv (fun (_ : Unit) => True) (fun (_ : Unit) (t : State) => va_P (dC, dI) vwCl [(h, .inl (d, n, .inl (sk_pB f a w)))] t.heap ∧ va_K (dC, dI) vwCl [(d, .byte)] t ∧ va_D (va_A [(h, .inl (d, n, .inl (f)))] sz) [(h, .inl (d, n, .inl (sk_pB f a w)))]) (va_A [(h, .inl (d, n, .inl (f)))] sz)) 0 0 (va_A [(h, .inl (d, n, .inl (f)))] sz) := by
  refine Met.ofW (cc := cX0_word) (maxL := 3) (ret := none) (by decide) rfl ?_
  intro p e s m args below meth c s₁ BO hml hv
  obtain ⟨rfl, hsz, hP, hK, hD0⟩ := hv
  have hx := BO.exec
  have hb := BO.bytes
  have hr := BO.returns
  have hts := atoms_spec (ws := (ws_ yX0_word cX0_word 3 none)) BO.pre
  have hts : ∀ w ∈ lw_all, w.before _ s = true := fun w h => hts w (List.mem_cons_of_mem _ h)
  have hown : s.vm.findClass RX0 = some m.cls := findClass_of_methodNamed BO.named
  have hlocks := BO.notSynchronized
  subst hsz
  have hD := hD0.self (sz := s.heap.size)
  generalize hAe : va_A [(h, .inl (d, n, .inl (f)))] s.heap.size = A at hD ⊢
  have hA : ∀ q : Nat, s.heap.size ≤ q → A q := fun q h => by rw [← hAe]; exact Or.inr h
  have hS : va_S A s.heap s.heap [] := va_S.rf
  have hP : va_P (dC, dI) vwCl [(h, .inl (d, n, .inl (f)))] s.heap := hP
  have hl := lv_entry ([.ref h, .int (nI a), .int w]) (n := 3) (Nat.le_of_ble_eq_true rfl)
  rw [lg_entry_eq]
  generalize (lg_sl ([.ref h, .int (nI a), .int w]) ++ List.replicate (3 - (lg_sl ([.ref h, .int (nI a), .int w])).length) Slot.unset).toArray = ls at hl ⊢
  have hl : lv_has ls 3 [(0, .ref h), (1, .int (nI a)), (2, .int w)] := hl
  refine lv_aload_n hx hb dX0_word_0 rfl (lv_at hl 0 rfl) ?_
  refine lv_iload_n hx hb dX0_word_1 rfl (lv_at hl 1 rfl) ?_
  refine lv_iload_n hx hb dX0_word_2 rfl (lv_at hl 2 rfl) ?_
  refine lv_bipush (v := nI 24) hx hb dX0_word_3 (by decide) ?_
  refine lv_ishr hx hb dX0_word_5 ?_
  refine lv_i2b (v := sk_b (sk_wb w 0)) hx hb dX0_word_6 (sk_wb0 w) ?_
  refine sk_bast (k := a) hx hb hK hP hD hS 0 0 rfl rfl (by omega) (hn) dX0_word_7 (fun H locs hP hD hS => ?_)
  have hP : va_P (dC, dI) vwCl [(h, .inl (d, n, .inl (upd f a (sk_b (sk_wb w 0)))))] H := hP
  have hD : va_D A [(h, .inl (d, n, .inl (upd f a (sk_b (sk_wb w 0)))))] := hD
  refine lv_aload_n hx hb dX0_word_8 rfl (lv_at hl 0 rfl) ?_
  refine lv_iload_n hx hb dX0_word_9 rfl (lv_at hl 1 rfl) ?_
  refine lv_iconst (v := nI 1) hx hb dX0_word_10 (by decide) ?_
  refine lv_iadd hx hb dX0_word_11 ?_
  refine sk_top (y := nI (a + 1)) (nI_add a 1) ?_
  refine lv_iload_n hx hb dX0_word_12 rfl (lv_at hl 2 rfl) ?_
  refine lv_bipush (v := nI 16) hx hb dX0_word_13 (by decide) ?_
  refine lv_ishr hx hb dX0_word_15 ?_
  refine lv_i2b (v := sk_b (sk_wb w 1)) hx hb dX0_word_16 (sk_wb1 w) ?_
  refine sk_bast (k := a + 1) hx hb hK hP hD hS 0 0 rfl rfl (by omega) (hn) dX0_word_17 (fun H locs hP hD hS => ?_)
  have hP : va_P (dC, dI) vwCl [(h, .inl (d, n, .inl (upd (upd f a (sk_b (sk_wb w 0))) (a + 1) (sk_b (sk_wb w 1)))))] H := hP
  have hD : va_D A [(h, .inl (d, n, .inl (upd (upd f a (sk_b (sk_wb w 0))) (a + 1) (sk_b (sk_wb w 1)))))] := hD
  refine lv_aload_n hx hb dX0_word_18 rfl (lv_at hl 0 rfl) ?_
  refine lv_iload_n hx hb dX0_word_19 rfl (lv_at hl 1 rfl) ?_
  refine lv_iconst (v := nI 2) hx hb dX0_word_20 (by decide) ?_
  refine lv_iadd hx hb dX0_word_21 ?_
  refine sk_top (y := nI (a + 2)) (nI_add a 2) ?_
  refine lv_iload_n hx hb dX0_word_22 rfl (lv_at hl 2 rfl) ?_
  refine lv_bipush (v := nI 8) hx hb dX0_word_23 (by decide) ?_
  refine lv_ishr hx hb dX0_word_25 ?_
  refine lv_i2b (v := sk_b (sk_wb w 2)) hx hb dX0_word_26 (sk_wb2 w) ?_
  refine sk_bast (k := a + 2) hx hb hK hP hD hS 0 0 rfl rfl (by omega) (hn) dX0_word_27 (fun H locs hP hD hS => ?_)
  have hP : va_P (dC, dI) vwCl [(h, .inl (d, n, .inl (upd (upd (upd f a (sk_b (sk_wb w 0))) (a + 1) (sk_b (sk_wb w 1))) (a + 2) (sk_b (sk_wb w 2)))))] H := hP
  have hD : va_D A [(h, .inl (d, n, .inl (upd (upd (upd f a (sk_b (sk_wb w 0))) (a + 1) (sk_b (sk_wb w 1))) (a + 2) (sk_b (sk_wb w 2)))))] := hD
  refine lv_aload_n hx hb dX0_word_28 rfl (lv_at hl 0 rfl) ?_
  refine lv_iload_n hx hb dX0_word_29 rfl (lv_at hl 1 rfl) ?_
  refine lv_iconst (v := nI 3) hx hb dX0_word_30 (by decide) ?_
  refine lv_iadd hx hb dX0_word_31 ?_
  refine sk_top (y := nI (a + 3)) (nI_add a 3) ?_
  refine lv_iload_n hx hb dX0_word_32 rfl (lv_at hl 2 rfl) ?_
  refine lv_i2b (v := sk_b (sk_wb w 3)) hx hb dX0_word_33 (sk_wb3 w) ?_
  refine sk_bast (k := a + 3) hx hb hK hP hD hS 0 0 rfl rfl (by omega) (hn) dX0_word_34 (fun H locs hP hD hS => ?_)
  have hP : va_P (dC, dI) vwCl [(h, .inl (d, n, .inl (upd (upd (upd (upd f a (sk_b (sk_wb w 0))) (a + 1) (sk_b (sk_wb w 1))) (a + 2) (sk_b (sk_wb w 2))) (a + 3) (sk_b (sk_wb w 3)))))] H := hP
  have hD : va_D A [(h, .inl (d, n, .inl (upd (upd (upd (upd f a (sk_b (sk_wb w 0))) (a + 1) (sk_b (sk_wb w 1))) (a + 2) (sk_b (sk_wb w 2))) (a + 3) (sk_b (sk_wb w 3)))))] := hD
  have hP : va_P (dC, dI) vwCl [(h, .inl (d, n, .inl (sk_pB f a w)))] H := by rw [sk_pB_eq] at hP; exact hP
  have hD : va_D A [(h, .inl (d, n, .inl (sk_pB f a w)))] := by rw [sk_pB_eq] at hD; exact hD
  have hP9 := hP.sub (ws' := [(h, .inl (d, n, .inl (sk_pB f a w)))]) [0] rfl
  have hD9 := hD.sub (ws' := [(h, .inl (d, n, .inl (sk_pB f a w)))]) [0] (by decide) rfl
  have hK9 := hK.sub (tys' := [(d, .byte)]) [0] rfl
  exact W.vret hx hb hr (fun t ht hW => ⟨⟨(), rfl, trivial, by rw [ht]; exact hP9, va_K.moved hW.alike hK9, hD9⟩, hS.F ht⟩) hS.2.2 dX0_word_35
set_option maxHeartbeats 1000000 in
set_option maxRecDepth 100000 in
/-- SkipjackDesk.key -/
theorem dsk_key (l : Launch) (dC : Nat → ClassId) (dI : Nat → Nat → Nat) (sz : Nat) (h0 hk hb0 ho : Nat) (dk : ClassId) (fk : Nat → Int32) (hf v1 v2 v3 v4 : Int32)  : Met l yX0_key (ws_ yX0_key cX0_key 7 none) ({ frames := 1, cells := 0, slots := 0, locals := 22 }) (va_Pc [.ref h0, .int hf, .int v1, .int v2, .int v3, .int v4] (fun U => U.heap.size = sz ∧ va_P (dC, dI) vwCl [(h0, .inr (0, [.ref hk, .ref hb0, .ref ho])), (hk, .inl (dk, 32, .inl (fk)))] U.heap ∧ va_K (dC, dI) vwCl [(dk, .byte)] U ∧ va_D (fun _ => True) [(h0, .inr (0, [.ref hk, .ref hb0, .ref ho])), (hk, .inl (dk, 32, .inl (fk)))])) (va_Qv (fun (_ : Unit) => True) (fun (_ : Unit) (t : State) => va_P (dC, dI) vwCl [(h0, .inr (0, [.ref hk, .ref hb0, .ref ho])), (hk, .inl (dk, 32, .inl (sk_pB (sk_pB (sk_pB (sk_pB fk (sk_at hf) v1) (sk_at hf + 4) v2) (sk_at hf + 8) v3) (sk_at hf + 12) v4)))] t.heap ∧ va_K (dC, dI) vwCl [(dk, .byte)] t ∧ va_D (va_A [(h0, .inr (0, [.ref hk, .ref hb0, .ref ho])), (hk, .inl (dk, 32, .inl (fk)))] sz) [(h0, .inr (0, [.ref hk, .ref hb0, .ref ho])), (hk, .inl (dk, 32, .inl (sk_pB (sk_pB (sk_pB (sk_pB fk (sk_at hf) v1) (sk_at hf + 4) v2) (sk_at hf + 8) v3) (sk_at hf + 12) v4)))]) (va_A [(h0, .inr (0, [.ref hk, .ref hb0, .ref ho])), (hk, .inl (dk, 32, .inl (fk)))] sz)) 0 0 (va_A [(h0, .inr (0, [.ref hk, .ref hb0, .ref ho])), (hk, .inl (dk, 32, .inl (fk)))] sz) := by
  refine Met.ofW (cc := cX0_key) (maxL := 7) (ret := none) (by decide) rfl ?_
  intro p e s m args below meth c s₁ BO hml hv
  obtain ⟨rfl, hsz, hP, hK, hD0⟩ := hv
  have hx := BO.exec
  have hb := BO.bytes
  have hr := BO.returns
  have hts := atoms_spec (ws := (ws_ yX0_key cX0_key 7 none)) BO.pre
  have hts : ∀ w ∈ lw_all, w.before _ s = true := fun w h => hts w (List.mem_cons_of_mem _ h)
  have hown : s.vm.findClass RX0 = some m.cls := findClass_of_methodNamed BO.named
  have hlocks := BO.notSynchronized
  subst hsz
  have hD := hD0.self (sz := s.heap.size)
  generalize hAe : va_A [(h0, .inr (0, [.ref hk, .ref hb0, .ref ho])), (hk, .inl (dk, 32, .inl (fk)))] s.heap.size = A at hD ⊢
  have hA : ∀ q : Nat, s.heap.size ≤ q → A q := fun q h => by rw [← hAe]; exact Or.inr h
  have hS : va_S A s.heap s.heap [] := va_S.rf
  have hP : va_P (dC, dI) vwCl [(h0, .inr (0, [.ref hk, .ref hb0, .ref ho])), (hk, .inl (dk, 32, .inl (fk)))] s.heap := hP
  have hl := lv_entry ([.ref h0, .int hf, .int v1, .int v2, .int v3, .int v4]) (n := 7) (Nat.le_of_ble_eq_true rfl)
  rw [lg_entry_eq]
  generalize (lg_sl ([.ref h0, .int hf, .int v1, .int v2, .int v3, .int v4]) ++ List.replicate (7 - (lg_sl ([.ref h0, .int hf, .int v1, .int v2, .int v3, .int v4])).length) Slot.unset).toArray = ls at hl ⊢
  have hl : lv_has ls 7 [(0, .ref h0), (1, .int hf), (2, .int v1), (3, .int v2), (4, .int v3), (5, .int v4)] := hl
  have hat := sk_at_le hf
  refine lv_iload_n hx hb dX0_key_0 rfl (lv_at hl 1 rfl) ?_
  refine lv_iconst (v := nI 1) hx hb dX0_key_1 (by decide) ?_
  refine lv_iand hx hb dX0_key_2 ?_
  refine lv_iconst (v := nI 4) hx hb dX0_key_3 (by decide) ?_
  refine lv_ishl hx hb dX0_key_4 ?_
  refine sk_top (y := nI (sk_at hf)) (sk_at_eq hf) ?_
  refine lv_istore (lv' := [(6, .int (nI (sk_at hf))), (0, .ref h0), (1, .int hf), (2, .int v1), (3, .int v2), (4, .int v3), (5, .int v4)]) hx hb dX0_key_5 hl (by decide) rfl (fun ls hl => ?_)
  refine lv_aload_n hx hb dX0_key_7 rfl (lv_at hl 1 rfl) ?_
  refine va_get (D := (dC, dI)) (ci := 0) (v := .ref hk) (C := RX0) (T := TX0) (N := 3) hx hb hts in_X0 hown hK hP 0 rfl rfl 0 (by decide) (hts _ q30) (fun _ h9 => h9) rfl dX0_key_8 ?_
  refine lv_iload hx hb dX0_key_11 (lv_at hl 0 rfl) ?_
  refine lv_iload_n hx hb dX0_key_13 rfl (lv_at hl 3 rfl) ?_
  have hPc := hP.sub (ws' := [(hk, .inl (dk, 32, .inl (fk)))]) [1] rfl
  have hDc := hD.sub (ws' := [(hk, .inl (dk, 32, .inl (fk)))]) [1] (by decide) rfl
  have hKc := hK.sub (tys' := [(dk, .byte)]) [0] rfl
  have hFc := va_free (wc := [(hk, .inl (dk, 32, .inl (fk)))]) hD hS hA [1] rfl
  refine va_callv (va_runS (As := [.ref hk, .int (nI (sk_at hf)), .int v1]) (rest := []) ⟨hx, hb, hml, hown, hts⟩ (dsk_word l dC dI s.heap.size hk dk 32 (sk_at hf) (fk) v1 (by omega) (by decide)) (va_cwS 3 hts (lw_S q45 q46 q9 q47) rfl rfl rfl (by decide +kernel) ⟨Nat.le_of_ble_eq_true rfl, Nat.le_of_ble_eq_true rfl⟩) ⟨fun a U g mk q => by obtain ⟨q0, q1, qP, qK, qD⟩ := q; exact ⟨q0, q1, qP, va_K.moved (u := U) (U := U.calling g mk a) (Vm.Alike.refl U.vm) qK, qD⟩, fun U hU hW => ⟨rfl, by rw [hU], by rw [hU]; exact hPc, va_K.moved hW.alike hKc, hDc.weaken (fun _ _ _ _ => trivial)⟩⟩ rfl rfl hl.1 rfl (lv_room (Nat.le_of_ble_eq_true rfl)) dX0_key_14 ⟨Nat.le_of_ble_eq_true rfl, Nat.le_of_ble_eq_true rfl⟩) hS (fun q _ h => hFc q h) hFc (fun uS tS H1 locs htS hvm hw hB hz1 hk1 hS => ?_)
  obtain ⟨hP1, hK1, hD1⟩ := hB
  rw [htS] at hP1
  obtain ⟨hP, hD⟩ := va_join (wr := [(h0, .inr (0, [.ref hk, .ref hb0, .ref ho]))]) (w1 := [(hk, .inl (dk, 32, .inl (sk_pB fk (sk_at hf) v1)))]) hP hD [1] [0] rfl rfl (by decide) (by decide) hk1 hFc hP1 hD1
  generalize H1 = H at hP hS ⊢
  have hP : va_P (dC, dI) vwCl [(h0, .inr (0, [.ref hk, .ref hb0, .ref ho])), (hk, .inl (dk, 32, .inl (sk_pB fk (sk_at hf) v1)))] H := hP
  have hD : va_D A [(h0, .inr (0, [.ref hk, .ref hb0, .ref ho])), (hk, .inl (dk, 32, .inl (sk_pB fk (sk_at hf) v1)))] := hD
  refine W.widen (k := 0) (n := 0) (Nat.le_of_ble_eq_true rfl) (Nat.le_of_ble_eq_true rfl) ?_
  refine lv_aload_n hx hb dX0_key_17 rfl (lv_at hl 1 rfl) ?_
  refine va_get (D := (dC, dI)) (ci := 0) (v := .ref hk) (C := RX0) (T := TX0) (N := 3) hx hb hts in_X0 hown hK hP 0 rfl rfl 0 (by decide) (hts _ q30) (fun _ h9 => h9) rfl dX0_key_18 ?_
  refine lv_iload hx hb dX0_key_21 (lv_at hl 0 rfl) ?_
  refine lv_iconst (v := nI 4) hx hb dX0_key_23 (by decide) ?_
  refine lv_iadd hx hb dX0_key_24 ?_
  refine sk_top (y := nI (sk_at hf + 4)) (nI_add _ 4) ?_
  refine lv_iload_n hx hb dX0_key_25 rfl (lv_at hl 4 rfl) ?_
  have hPc := hP.sub (ws' := [(hk, .inl (dk, 32, .inl (sk_pB fk (sk_at hf) v1)))]) [1] rfl
  have hDc := hD.sub (ws' := [(hk, .inl (dk, 32, .inl (sk_pB fk (sk_at hf) v1)))]) [1] (by decide) rfl
  have hKc := hK.sub (tys' := [(dk, .byte)]) [0] rfl
  have hFc := va_free (wc := [(hk, .inl (dk, 32, .inl (sk_pB fk (sk_at hf) v1)))]) hD hS hA [1] rfl
  refine va_callv (va_runS (As := [.ref hk, .int (nI (sk_at hf + 4)), .int v2]) (rest := []) ⟨hx, hb, hml, hown, hts⟩ (dsk_word l dC dI H.size hk dk 32 (sk_at hf + 4) (sk_pB fk (sk_at hf) v1) v2 (by omega) (by decide)) (va_cwS 3 hts (lw_S q45 q46 q9 q47) rfl rfl rfl (by decide +kernel) ⟨Nat.le_of_ble_eq_true rfl, Nat.le_of_ble_eq_true rfl⟩) ⟨fun a U g mk q => by obtain ⟨q0, q1, qP, qK, qD⟩ := q; exact ⟨q0, q1, qP, va_K.moved (u := U) (U := U.calling g mk a) (Vm.Alike.refl U.vm) qK, qD⟩, fun U hU hW => ⟨rfl, by rw [hU], by rw [hU]; exact hPc, va_K.moved hW.alike hKc, hDc.weaken (fun _ _ _ _ => trivial)⟩⟩ rfl rfl hl.1 rfl (lv_room (Nat.le_of_ble_eq_true rfl)) dX0_key_26 ⟨Nat.le_of_ble_eq_true rfl, Nat.le_of_ble_eq_true rfl⟩) hS (fun q _ h => hFc q h) hFc (fun uS tS H1 locs htS hvm hw hB hz1 hk1 hS => ?_)
  obtain ⟨hP1, hK1, hD1⟩ := hB
  rw [htS] at hP1
  obtain ⟨hP, hD⟩ := va_join (wr := [(h0, .inr (0, [.ref hk, .ref hb0, .ref ho]))]) (w1 := [(hk, .inl (dk, 32, .inl (sk_pB (sk_pB fk (sk_at hf) v1) (sk_at hf + 4) v2)))]) hP hD [1] [0] rfl rfl (by decide) (by decide) hk1 hFc hP1 hD1
  generalize H1 = H at hP hS ⊢
  have hP : va_P (dC, dI) vwCl [(h0, .inr (0, [.ref hk, .ref hb0, .ref ho])), (hk, .inl (dk, 32, .inl (sk_pB (sk_pB fk (sk_at hf) v1) (sk_at hf + 4) v2)))] H := hP
  have hD : va_D A [(h0, .inr (0, [.ref hk, .ref hb0, .ref ho])), (hk, .inl (dk, 32, .inl (sk_pB (sk_pB fk (sk_at hf) v1) (sk_at hf + 4) v2)))] := hD
  refine W.widen (k := 0) (n := 0) (Nat.le_of_ble_eq_true rfl) (Nat.le_of_ble_eq_true rfl) ?_
  refine lv_aload_n hx hb dX0_key_29 rfl (lv_at hl 1 rfl) ?_
  refine va_get (D := (dC, dI)) (ci := 0) (v := .ref hk) (C := RX0) (T := TX0) (N := 3) hx hb hts in_X0 hown hK hP 0 rfl rfl 0 (by decide) (hts _ q30) (fun _ h9 => h9) rfl dX0_key_30 ?_
  refine lv_iload hx hb dX0_key_33 (lv_at hl 0 rfl) ?_
  refine lv_bipush (v := nI 8) hx hb dX0_key_35 (by decide) ?_
  refine lv_iadd hx hb dX0_key_37 ?_
  refine sk_top (y := nI (sk_at hf + 8)) (nI_add _ 8) ?_
  refine lv_iload hx hb dX0_key_38 (lv_at hl 5 rfl) ?_
  have hPc := hP.sub (ws' := [(hk, .inl (dk, 32, .inl (sk_pB (sk_pB fk (sk_at hf) v1) (sk_at hf + 4) v2)))]) [1] rfl
  have hDc := hD.sub (ws' := [(hk, .inl (dk, 32, .inl (sk_pB (sk_pB fk (sk_at hf) v1) (sk_at hf + 4) v2)))]) [1] (by decide) rfl
  have hKc := hK.sub (tys' := [(dk, .byte)]) [0] rfl
  have hFc := va_free (wc := [(hk, .inl (dk, 32, .inl (sk_pB (sk_pB fk (sk_at hf) v1) (sk_at hf + 4) v2)))]) hD hS hA [1] rfl
  refine va_callv (va_runS (As := [.ref hk, .int (nI (sk_at hf + 8)), .int v3]) (rest := []) ⟨hx, hb, hml, hown, hts⟩ (dsk_word l dC dI H.size hk dk 32 (sk_at hf + 8) (sk_pB (sk_pB fk (sk_at hf) v1) (sk_at hf + 4) v2) v3 (by omega) (by decide)) (va_cwS 3 hts (lw_S q45 q46 q9 q47) rfl rfl rfl (by decide +kernel) ⟨Nat.le_of_ble_eq_true rfl, Nat.le_of_ble_eq_true rfl⟩) ⟨fun a U g mk q => by obtain ⟨q0, q1, qP, qK, qD⟩ := q; exact ⟨q0, q1, qP, va_K.moved (u := U) (U := U.calling g mk a) (Vm.Alike.refl U.vm) qK, qD⟩, fun U hU hW => ⟨rfl, by rw [hU], by rw [hU]; exact hPc, va_K.moved hW.alike hKc, hDc.weaken (fun _ _ _ _ => trivial)⟩⟩ rfl rfl hl.1 rfl (lv_room (Nat.le_of_ble_eq_true rfl)) dX0_key_40 ⟨Nat.le_of_ble_eq_true rfl, Nat.le_of_ble_eq_true rfl⟩) hS (fun q _ h => hFc q h) hFc (fun uS tS H1 locs htS hvm hw hB hz1 hk1 hS => ?_)
  obtain ⟨hP1, hK1, hD1⟩ := hB
  rw [htS] at hP1
  obtain ⟨hP, hD⟩ := va_join (wr := [(h0, .inr (0, [.ref hk, .ref hb0, .ref ho]))]) (w1 := [(hk, .inl (dk, 32, .inl (sk_pB (sk_pB (sk_pB fk (sk_at hf) v1) (sk_at hf + 4) v2) (sk_at hf + 8) v3)))]) hP hD [1] [0] rfl rfl (by decide) (by decide) hk1 hFc hP1 hD1
  generalize H1 = H at hP hS ⊢
  have hP : va_P (dC, dI) vwCl [(h0, .inr (0, [.ref hk, .ref hb0, .ref ho])), (hk, .inl (dk, 32, .inl (sk_pB (sk_pB (sk_pB fk (sk_at hf) v1) (sk_at hf + 4) v2) (sk_at hf + 8) v3)))] H := hP
  have hD : va_D A [(h0, .inr (0, [.ref hk, .ref hb0, .ref ho])), (hk, .inl (dk, 32, .inl (sk_pB (sk_pB (sk_pB fk (sk_at hf) v1) (sk_at hf + 4) v2) (sk_at hf + 8) v3)))] := hD
  refine W.widen (k := 0) (n := 0) (Nat.le_of_ble_eq_true rfl) (Nat.le_of_ble_eq_true rfl) ?_
  refine lv_aload_n hx hb dX0_key_43 rfl (lv_at hl 1 rfl) ?_
  refine va_get (D := (dC, dI)) (ci := 0) (v := .ref hk) (C := RX0) (T := TX0) (N := 3) hx hb hts in_X0 hown hK hP 0 rfl rfl 0 (by decide) (hts _ q30) (fun _ h9 => h9) rfl dX0_key_44 ?_
  refine lv_iload hx hb dX0_key_47 (lv_at hl 0 rfl) ?_
  refine lv_bipush (v := nI 12) hx hb dX0_key_49 (by decide) ?_
  refine lv_iadd hx hb dX0_key_51 ?_
  refine sk_top (y := nI (sk_at hf + 12)) (nI_add _ 12) ?_
  refine lv_iload hx hb dX0_key_52 (lv_at hl 6 rfl) ?_
  have hPc := hP.sub (ws' := [(hk, .inl (dk, 32, .inl (sk_pB (sk_pB (sk_pB fk (sk_at hf) v1) (sk_at hf + 4) v2) (sk_at hf + 8) v3)))]) [1] rfl
  have hDc := hD.sub (ws' := [(hk, .inl (dk, 32, .inl (sk_pB (sk_pB (sk_pB fk (sk_at hf) v1) (sk_at hf + 4) v2) (sk_at hf + 8) v3)))]) [1] (by decide) rfl
  have hKc := hK.sub (tys' := [(dk, .byte)]) [0] rfl
  have hFc := va_free (wc := [(hk, .inl (dk, 32, .inl (sk_pB (sk_pB (sk_pB fk (sk_at hf) v1) (sk_at hf + 4) v2) (sk_at hf + 8) v3)))]) hD hS hA [1] rfl
  refine va_callv (va_runS (As := [.ref hk, .int (nI (sk_at hf + 12)), .int v4]) (rest := []) ⟨hx, hb, hml, hown, hts⟩ (dsk_word l dC dI H.size hk dk 32 (sk_at hf + 12) (sk_pB (sk_pB (sk_pB fk (sk_at hf) v1) (sk_at hf + 4) v2) (sk_at hf + 8) v3) v4 (by omega) (by decide)) (va_cwS 3 hts (lw_S q45 q46 q9 q47) rfl rfl rfl (by decide +kernel) ⟨Nat.le_of_ble_eq_true rfl, Nat.le_of_ble_eq_true rfl⟩) ⟨fun a U g mk q => by obtain ⟨q0, q1, qP, qK, qD⟩ := q; exact ⟨q0, q1, qP, va_K.moved (u := U) (U := U.calling g mk a) (Vm.Alike.refl U.vm) qK, qD⟩, fun U hU hW => ⟨rfl, by rw [hU], by rw [hU]; exact hPc, va_K.moved hW.alike hKc, hDc.weaken (fun _ _ _ _ => trivial)⟩⟩ rfl rfl hl.1 rfl (lv_room (Nat.le_of_ble_eq_true rfl)) dX0_key_54 ⟨Nat.le_of_ble_eq_true rfl, Nat.le_of_ble_eq_true rfl⟩) hS (fun q _ h => hFc q h) hFc (fun uS tS H1 locs htS hvm hw hB hz1 hk1 hS => ?_)
  obtain ⟨hP1, hK1, hD1⟩ := hB
  rw [htS] at hP1
  obtain ⟨hP, hD⟩ := va_join (wr := [(h0, .inr (0, [.ref hk, .ref hb0, .ref ho]))]) (w1 := [(hk, .inl (dk, 32, .inl (sk_pB (sk_pB (sk_pB (sk_pB fk (sk_at hf) v1) (sk_at hf + 4) v2) (sk_at hf + 8) v3) (sk_at hf + 12) v4)))]) hP hD [1] [0] rfl rfl (by decide) (by decide) hk1 hFc hP1 hD1
  generalize H1 = H at hP hS ⊢
  have hP : va_P (dC, dI) vwCl [(h0, .inr (0, [.ref hk, .ref hb0, .ref ho])), (hk, .inl (dk, 32, .inl (sk_pB (sk_pB (sk_pB (sk_pB fk (sk_at hf) v1) (sk_at hf + 4) v2) (sk_at hf + 8) v3) (sk_at hf + 12) v4)))] H := hP
  have hD : va_D A [(h0, .inr (0, [.ref hk, .ref hb0, .ref ho])), (hk, .inl (dk, 32, .inl (sk_pB (sk_pB (sk_pB (sk_pB fk (sk_at hf) v1) (sk_at hf + 4) v2) (sk_at hf + 8) v3) (sk_at hf + 12) v4)))] := hD
  refine W.widen (k := 0) (n := 0) (Nat.le_of_ble_eq_true rfl) (Nat.le_of_ble_eq_true rfl) ?_
  have hP9 := hP.sub (ws' := [(h0, .inr (0, [.ref hk, .ref hb0, .ref ho])), (hk, .inl (dk, 32, .inl (sk_pB (sk_pB (sk_pB (sk_pB fk (sk_at hf) v1) (sk_at hf + 4) v2) (sk_at hf + 8) v3) (sk_at hf + 12) v4)))]) [0, 1] rfl
  have hD9 := hD.sub (ws' := [(h0, .inr (0, [.ref hk, .ref hb0, .ref ho])), (hk, .inl (dk, 32, .inl (sk_pB (sk_pB (sk_pB (sk_pB fk (sk_at hf) v1) (sk_at hf + 4) v2) (sk_at hf + 8) v3) (sk_at hf + 12) v4)))]) [0, 1] (by decide) rfl
  have hK9 := hK.sub (tys' := [(dk, .byte)]) [0] rfl
  exact W.vret hx hb hr (fun t ht hW => ⟨⟨(), rfl, trivial, by rw [ht]; exact hP9, va_K.moved hW.alike hK9, hD9⟩, hS.F ht⟩) hS.2.2 dX0_key_57
set_option maxHeartbeats 1000000 in
set_option maxRecDepth 100000 in
/-- SkipjackDesk.block -/
theorem dsk_block (l : Launch) (dC : Nat → ClassId) (dI : Nat → Nat → Nat) (sz : Nat) (h0 hk hb0 ho : Nat) (db : ClassId) (fb : Nat → Int32) (v1 v2 : Int32)  : Met l yX0_block (ws_ yX0_block cX0_block 3 none) ({ frames := 1, cells := 0, slots := 0, locals := 22 }) (va_Pc [.ref h0, .int v1, .int v2] (fun U => U.heap.size = sz ∧ va_P (dC, dI) vwCl [(h0, .inr (0, [.ref hk, .ref hb0, .ref ho])), (hb0, .inl (db, 8, .inl (fb)))] U.heap ∧ va_K (dC, dI) vwCl [(db, .byte)] U ∧ va_D (fun _ => True) [(h0, .inr (0, [.ref hk, .ref hb0, .ref ho])), (hb0, .inl (db, 8, .inl (fb)))])) (va_Qv (fun (_ : Unit) => True) (fun (_ : Unit) (t : State) => va_P (dC, dI) vwCl [(h0, .inr (0, [.ref hk, .ref hb0, .ref ho])), (hb0, .inl (db, 8, .inl (sk_pB (sk_pB fb 0 v1) 4 v2)))] t.heap ∧ va_K (dC, dI) vwCl [(db, .byte)] t ∧ va_D (va_A [(h0, .inr (0, [.ref hk, .ref hb0, .ref ho])), (hb0, .inl (db, 8, .inl (fb)))] sz) [(h0, .inr (0, [.ref hk, .ref hb0, .ref ho])), (hb0, .inl (db, 8, .inl (sk_pB (sk_pB fb 0 v1) 4 v2)))]) (va_A [(h0, .inr (0, [.ref hk, .ref hb0, .ref ho])), (hb0, .inl (db, 8, .inl (fb)))] sz)) 0 0 (va_A [(h0, .inr (0, [.ref hk, .ref hb0, .ref ho])), (hb0, .inl (db, 8, .inl (fb)))] sz) := by
  refine Met.ofW (cc := cX0_block) (maxL := 3) (ret := none) (by decide) rfl ?_
  intro p e s m args below meth c s₁ BO hml hv
  obtain ⟨rfl, hsz, hP, hK, hD0⟩ := hv
  have hx := BO.exec
  have hb := BO.bytes
  have hr := BO.returns
  have hts := atoms_spec (ws := (ws_ yX0_block cX0_block 3 none)) BO.pre
  have hts : ∀ w ∈ lw_all, w.before _ s = true := fun w h => hts w (List.mem_cons_of_mem _ h)
  have hown : s.vm.findClass RX0 = some m.cls := findClass_of_methodNamed BO.named
  have hlocks := BO.notSynchronized
  subst hsz
  have hD := hD0.self (sz := s.heap.size)
  generalize hAe : va_A [(h0, .inr (0, [.ref hk, .ref hb0, .ref ho])), (hb0, .inl (db, 8, .inl (fb)))] s.heap.size = A at hD ⊢
  have hA : ∀ q : Nat, s.heap.size ≤ q → A q := fun q h => by rw [← hAe]; exact Or.inr h
  have hS : va_S A s.heap s.heap [] := va_S.rf
  have hP : va_P (dC, dI) vwCl [(h0, .inr (0, [.ref hk, .ref hb0, .ref ho])), (hb0, .inl (db, 8, .inl (fb)))] s.heap := hP
  have hl := lv_entry ([.ref h0, .int v1, .int v2]) (n := 3) (Nat.le_of_ble_eq_true rfl)
  rw [lg_entry_eq]
  generalize (lg_sl ([.ref h0, .int v1, .int v2]) ++ List.replicate (3 - (lg_sl ([.ref h0, .int v1, .int v2])).length) Slot.unset).toArray = ls at hl ⊢
  have hl : lv_has ls 3 [(0, .ref h0), (1, .int v1), (2, .int v2)] := hl
  refine lv_aload_n hx hb dX0_block_0 rfl (lv_at hl 0 rfl) ?_
  refine va_get (D := (dC, dI)) (ci := 0) (v := .ref hb0) (C := RX0) (T := TX0) (N := 3) hx hb hts in_X0 hown hK hP 0 rfl rfl 1 (by decide) (hts _ q31) (fun _ h9 => h9) rfl dX0_block_1 ?_
  refine lv_iconst (v := nI 0) hx hb dX0_block_4 (by decide) ?_
  refine lv_iload_n hx hb dX0_block_5 rfl (lv_at hl 1 rfl) ?_
  have hPc := hP.sub (ws' := [(hb0, .inl (db, 8, .inl (fb)))]) [1] rfl
  have hDc := hD.sub (ws' := [(hb0, .inl (db, 8, .inl (fb)))]) [1] (by decide) rfl
  have hKc := hK.sub (tys' := [(db, .byte)]) [0] rfl
  have hFc := va_free (wc := [(hb0, .inl (db, 8, .inl (fb)))]) hD hS hA [1] rfl
  refine va_callv (va_runS (As := [.ref hb0, .int (nI 0), .int v1]) (rest := []) ⟨hx, hb, hml, hown, hts⟩ (dsk_word l dC dI s.heap.size hb0 db 8 0 fb v1 (by decide) (by decide)) (va_cwS 3 hts (lw_S q45 q46 q9 q47) rfl rfl rfl (by decide +kernel) ⟨Nat.le_of_ble_eq_true rfl, Nat.le_of_ble_eq_true rfl⟩) ⟨fun a U g mk q => by obtain ⟨q0, q1, qP, qK, qD⟩ := q; exact ⟨q0, q1, qP, va_K.moved (u := U) (U := U.calling g mk a) (Vm.Alike.refl U.vm) qK, qD⟩, fun U hU hW => ⟨rfl, by rw [hU], by rw [hU]; exact hPc, va_K.moved hW.alike hKc, hDc.weaken (fun _ _ _ _ => trivial)⟩⟩ rfl rfl hl.1 rfl (lv_room (Nat.le_of_ble_eq_true rfl)) dX0_block_6 ⟨Nat.le_of_ble_eq_true rfl, Nat.le_of_ble_eq_true rfl⟩) hS (fun q _ h => hFc q h) hFc (fun uS tS H1 locs htS hvm hw hB hz1 hk1 hS => ?_)
  obtain ⟨hP1, hK1, hD1⟩ := hB
  rw [htS] at hP1
  obtain ⟨hP, hD⟩ := va_join (wr := [(h0, .inr (0, [.ref hk, .ref hb0, .ref ho]))]) (w1 := [(hb0, .inl (db, 8, .inl (sk_pB fb 0 v1)))]) hP hD [1] [0] rfl rfl (by decide) (by decide) hk1 hFc hP1 hD1
  generalize H1 = H at hP hS ⊢
  have hP : va_P (dC, dI) vwCl [(h0, .inr (0, [.ref hk, .ref hb0, .ref ho])), (hb0, .inl (db, 8, .inl (sk_pB fb 0 v1)))] H := hP
  have hD : va_D A [(h0, .inr (0, [.ref hk, .ref hb0, .ref ho])), (hb0, .inl (db, 8, .inl (sk_pB fb 0 v1)))] := hD
  refine W.widen (k := 0) (n := 0) (Nat.le_of_ble_eq_true rfl) (Nat.le_of_ble_eq_true rfl) ?_
  refine lv_aload_n hx hb dX0_block_9 rfl (lv_at hl 0 rfl) ?_
  refine va_get (D := (dC, dI)) (ci := 0) (v := .ref hb0) (C := RX0) (T := TX0) (N := 3) hx hb hts in_X0 hown hK hP 0 rfl rfl 1 (by decide) (hts _ q31) (fun _ h9 => h9) rfl dX0_block_10 ?_
  refine lv_iconst (v := nI 4) hx hb dX0_block_13 (by decide) ?_
  refine lv_iload_n hx hb dX0_block_14 rfl (lv_at hl 2 rfl) ?_
  have hPc := hP.sub (ws' := [(hb0, .inl (db, 8, .inl (sk_pB fb 0 v1)))]) [1] rfl
  have hDc := hD.sub (ws' := [(hb0, .inl (db, 8, .inl (sk_pB fb 0 v1)))]) [1] (by decide) rfl
  have hKc := hK.sub (tys' := [(db, .byte)]) [0] rfl
  have hFc := va_free (wc := [(hb0, .inl (db, 8, .inl (sk_pB fb 0 v1)))]) hD hS hA [1] rfl
  refine va_callv (va_runS (As := [.ref hb0, .int (nI 4), .int v2]) (rest := []) ⟨hx, hb, hml, hown, hts⟩ (dsk_word l dC dI H.size hb0 db 8 4 (sk_pB fb 0 v1) v2 (by decide) (by decide)) (va_cwS 3 hts (lw_S q45 q46 q9 q47) rfl rfl rfl (by decide +kernel) ⟨Nat.le_of_ble_eq_true rfl, Nat.le_of_ble_eq_true rfl⟩) ⟨fun a U g mk q => by obtain ⟨q0, q1, qP, qK, qD⟩ := q; exact ⟨q0, q1, qP, va_K.moved (u := U) (U := U.calling g mk a) (Vm.Alike.refl U.vm) qK, qD⟩, fun U hU hW => ⟨rfl, by rw [hU], by rw [hU]; exact hPc, va_K.moved hW.alike hKc, hDc.weaken (fun _ _ _ _ => trivial)⟩⟩ rfl rfl hl.1 rfl (lv_room (Nat.le_of_ble_eq_true rfl)) dX0_block_15 ⟨Nat.le_of_ble_eq_true rfl, Nat.le_of_ble_eq_true rfl⟩) hS (fun q _ h => hFc q h) hFc (fun uS tS H1 locs htS hvm hw hB hz1 hk1 hS => ?_)
  obtain ⟨hP1, hK1, hD1⟩ := hB
  rw [htS] at hP1
  obtain ⟨hP, hD⟩ := va_join (wr := [(h0, .inr (0, [.ref hk, .ref hb0, .ref ho]))]) (w1 := [(hb0, .inl (db, 8, .inl (sk_pB (sk_pB fb 0 v1) 4 v2)))]) hP hD [1] [0] rfl rfl (by decide) (by decide) hk1 hFc hP1 hD1
  generalize H1 = H at hP hS ⊢
  have hP : va_P (dC, dI) vwCl [(h0, .inr (0, [.ref hk, .ref hb0, .ref ho])), (hb0, .inl (db, 8, .inl (sk_pB (sk_pB fb 0 v1) 4 v2)))] H := hP
  have hD : va_D A [(h0, .inr (0, [.ref hk, .ref hb0, .ref ho])), (hb0, .inl (db, 8, .inl (sk_pB (sk_pB fb 0 v1) 4 v2)))] := hD
  refine W.widen (k := 0) (n := 0) (Nat.le_of_ble_eq_true rfl) (Nat.le_of_ble_eq_true rfl) ?_
  have hP9 := hP.sub (ws' := [(h0, .inr (0, [.ref hk, .ref hb0, .ref ho])), (hb0, .inl (db, 8, .inl (sk_pB (sk_pB fb 0 v1) 4 v2)))]) [0, 1] rfl
  have hD9 := hD.sub (ws' := [(h0, .inr (0, [.ref hk, .ref hb0, .ref ho])), (hb0, .inl (db, 8, .inl (sk_pB (sk_pB fb 0 v1) 4 v2)))]) [0, 1] (by decide) rfl
  have hK9 := hK.sub (tys' := [(db, .byte)]) [0] rfl
  exact W.vret hx hb hr (fun t ht hW => ⟨⟨(), rfl, trivial, by rw [ht]; exact hP9, va_K.moved hW.alike hK9, hD9⟩, hS.F ht⟩) hS.2.2 dX0_block_18
set_option maxHeartbeats 1000000 in
set_option maxRecDepth 100000 in
/-- SkipjackDesk.size: 10 -/
theorem dsk_size (l : Launch) (dC : Nat → ClassId) (dI : Nat → Nat → Nat) (sz : Nat) (k : Int32)  : Met l yX0_size (ws_ yX0_size cX0_size 1 (some .int)) ({ frames := 0, cells := 0, slots := 0, locals := 0 }) (va_Pc [.int k] (fun U => U.heap.size = sz ∧ va_P (dC, dI) vwCl [] U.heap ∧ va_K (dC, dI) vwCl [] U ∧ va_D (fun _ => True) [])) (va_Qi (fun (r : Int32) (_ : Unit) => r = nI 10) (fun (_ : Unit) (t : State) => va_P (dC, dI) vwCl [] t.heap ∧ va_K (dC, dI) vwCl [] t ∧ va_D (va_A [] sz) []) (va_A [] sz)) 0 0 (va_A [] sz) := by
  refine Met.ofW (cc := cX0_size) (maxL := 1) (ret := (some .int)) (by decide) rfl ?_
  intro p e s m args below meth c s₁ BO hml hv
  obtain ⟨rfl, hsz, hP, hK, hD0⟩ := hv
  have hx := BO.exec
  have hb := BO.bytes
  have hr := BO.returns
  have hts := atoms_spec (ws := (ws_ yX0_size cX0_size 1 (some .int))) BO.pre
  have hts : ∀ w ∈ lw_all, w.before _ s = true := fun w h => hts w (List.mem_cons_of_mem _ h)
  have hown : s.vm.findClass RX0 = some m.cls := findClass_of_methodNamed BO.named
  have hlocks := BO.notSynchronized
  subst hsz
  have hD := hD0.self (sz := s.heap.size)
  generalize hAe : va_A [] s.heap.size = A at hD ⊢
  have hA : ∀ q : Nat, s.heap.size ≤ q → A q := fun q h => by rw [← hAe]; exact Or.inr h
  have hS : va_S A s.heap s.heap [] := va_S.rf
  have hP : va_P (dC, dI) vwCl [] s.heap := hP
  have hl := lv_entry ([.int k]) (n := 1) (Nat.le_of_ble_eq_true rfl)
  rw [lg_entry_eq]
  generalize (lg_sl ([.int k]) ++ List.replicate (1 - (lg_sl ([.int k])).length) Slot.unset).toArray = ls at hl ⊢
  have hl : lv_has ls 1 [(0, .int k)] := hl
  refine lv_bipush (v := nI 10) hx hb dX0_size_0 (by decide) ?_
  have hP9 := hP.sub (ws' := []) [] rfl
  have hD9 := hD.sub (ws' := []) [] (by decide) rfl
  have hK9 := hK.sub (tys' := []) [] rfl
  exact W.iret (v := nI 10) hx hb hr (fun t ht hW => ⟨⟨nI 10, (), rfl, rfl, by rw [ht]; exact hP9, va_K.moved hW.alike hK9, hD9⟩, hS.F ht⟩) hS.2.2 dX0_size_2
set_option maxHeartbeats 1000000 in
set_option maxRecDepth 100000 in
/-- SkipjackDesk.out -/
theorem dsk_out (l : Launch) (dC : Nat → ClassId) (dI : Nat → Nat → Nat) (sz : Nat) (h0 hk hb0 ho : Nat) (dq : ClassId) (fo : Nat → Int32) (x : Int32)  : Met l yX0_out (ws_ yX0_out cX0_out 2 (some .int)) ({ frames := 0, cells := 0, slots := 0, locals := 0 }) (va_Pc [.ref h0, .int x] (fun U => U.heap.size = sz ∧ va_P (dC, dI) vwCl [(h0, .inr (0, [.ref hk, .ref hb0, .ref ho])), (ho, .inl (dq, 8, .inl (fo)))] U.heap ∧ va_K (dC, dI) vwCl [(dq, .byte)] U ∧ va_D (fun _ => True) [(h0, .inr (0, [.ref hk, .ref hb0, .ref ho])), (ho, .inl (dq, 8, .inl (fo)))])) (va_Qi (fun (r : Int32) (_ : Unit) => r = fo (x.toBitVec.toNat % 8) &&& nI 255) (fun (_ : Unit) (t : State) => va_P (dC, dI) vwCl [(h0, .inr (0, [.ref hk, .ref hb0, .ref ho])), (ho, .inl (dq, 8, .inl (fo)))] t.heap ∧ va_K (dC, dI) vwCl [(dq, .byte)] t ∧ va_D (va_A [(h0, .inr (0, [.ref hk, .ref hb0, .ref ho])), (ho, .inl (dq, 8, .inl (fo)))] sz) [(h0, .inr (0, [.ref hk, .ref hb0, .ref ho])), (ho, .inl (dq, 8, .inl (fo)))]) (va_A [(h0, .inr (0, [.ref hk, .ref hb0, .ref ho])), (ho, .inl (dq, 8, .inl (fo)))] sz)) 0 0 (va_A [(h0, .inr (0, [.ref hk, .ref hb0, .ref ho])), (ho, .inl (dq, 8, .inl (fo)))] sz) := by
  refine Met.ofW (cc := cX0_out) (maxL := 2) (ret := (some .int)) (by decide) rfl ?_
  intro p e s m args below meth c s₁ BO hml hv
  obtain ⟨rfl, hsz, hP, hK, hD0⟩ := hv
  have hx := BO.exec
  have hb := BO.bytes
  have hr := BO.returns
  have hts := atoms_spec (ws := (ws_ yX0_out cX0_out 2 (some .int))) BO.pre
  have hts : ∀ w ∈ lw_all, w.before _ s = true := fun w h => hts w (List.mem_cons_of_mem _ h)
  have hown : s.vm.findClass RX0 = some m.cls := findClass_of_methodNamed BO.named
  have hlocks := BO.notSynchronized
  subst hsz
  have hD := hD0.self (sz := s.heap.size)
  generalize hAe : va_A [(h0, .inr (0, [.ref hk, .ref hb0, .ref ho])), (ho, .inl (dq, 8, .inl (fo)))] s.heap.size = A at hD ⊢
  have hA : ∀ q : Nat, s.heap.size ≤ q → A q := fun q h => by rw [← hAe]; exact Or.inr h
  have hS : va_S A s.heap s.heap [] := va_S.rf
  have hP : va_P (dC, dI) vwCl [(h0, .inr (0, [.ref hk, .ref hb0, .ref ho])), (ho, .inl (dq, 8, .inl (fo)))] s.heap := hP
  have hl := lv_entry ([.ref h0, .int x]) (n := 2) (Nat.le_of_ble_eq_true rfl)
  rw [lg_entry_eq]
  generalize (lg_sl ([.ref h0, .int x]) ++ List.replicate (2 - (lg_sl ([.ref h0, .int x])).length) Slot.unset).toArray = ls at hl ⊢
  have hl : lv_has ls 2 [(0, .ref h0), (1, .int x)] := hl
  refine lv_aload_n hx hb dX0_out_0 rfl (lv_at hl 0 rfl) ?_
  refine va_get (D := (dC, dI)) (ci := 0) (v := .ref ho) (C := RX0) (T := TX0) (N := 3) hx hb hts in_X0 hown hK hP 0 rfl rfl 2 (by decide) (hts _ q32) (fun _ h9 => h9) rfl dX0_out_1 ?_
  refine lv_iload_n hx hb dX0_out_4 rfl (lv_at hl 1 rfl) ?_
  refine lv_bipush (v := nI 7) hx hb dX0_out_5 (by decide) ?_
  refine lv_iand hx hb dX0_out_7 ?_
  refine sk_top (y := nI (x.toBitVec.toNat % 8)) (sk_and7 x) ?_
  refine sk_bald (k := x.toBitVec.toNat % 8) hx hb hK hP 1 0 rfl rfl (Nat.mod_lt _ (by decide)) (by decide) dX0_out_8 ?_
  refine lv_sipush (v := nI 255) hx hb dX0_out_9 (by decide) ?_
  refine lv_iand hx hb dX0_out_12 ?_
  have hP9 := hP.sub (ws' := [(h0, .inr (0, [.ref hk, .ref hb0, .ref ho])), (ho, .inl (dq, 8, .inl (fo)))]) [0, 1] rfl
  have hD9 := hD.sub (ws' := [(h0, .inr (0, [.ref hk, .ref hb0, .ref ho])), (ho, .inl (dq, 8, .inl (fo)))]) [0, 1] (by decide) rfl
  have hK9 := hK.sub (tys' := [(dq, .byte)]) [0] rfl
  exact W.iret (v := fo (x.toBitVec.toNat % 8) &&& nI 255) hx hb hr (fun t ht hW => ⟨⟨fo (x.toBitVec.toNat % 8) &&& nI 255, (), rfl, rfl, by rw [ht]; exact hP9, va_K.moved hW.alike hK9, hD9⟩, hS.F ht⟩) hS.2.2 dX0_out_13
set_option maxHeartbeats 1000000 in
set_option maxRecDepth 100000 in
theorem dsk_again_lp {p : Program} {l : Launch} {e : Env} {R : Room} {s : State} {m : MethodId} {args : Array Value} {below : List Frame} {meth : Method} {c : Code} {dC : Nat → ClassId} {dI : Nat → Nat → Nat} {A : Nat → Prop} {Q : State → Prop} {cells slots : Nat} (h0 hk hb0 ho : Nat) (db dq : ClassId) (fb fo : Nat → Int32) (O : Nat → Nat) (hx : p.tables.exec = Jvm.exec) (hb : c.code = cX0_again) (hown : s.vm.findClass RX0 = some m.cls) (hts : ∀ w ∈ lw_all, w.before args s = true) (hK : va_K (dC, dI) vwCl [(db, .byte), (dq, .byte)] s) (hO : ∀ j, j < 8 → fo j = sk_b (O j))
    (hend : ∀ (H : Heap) (locs : List Loc) (ls : Array Slot), va_P (dC, dI) vwCl [(h0, .inr (0, [.ref hk, .ref hb0, .ref ho])), (hb0, .inl (db, 8, .inl (sk_fill (fun j => sk_b (O j)) fb 8))), (ho, .inl (dq, 8, .inl (fo)))] H → va_D A [(h0, .inr (0, [.ref hk, .ref hb0, .ref ho])), (hb0, .inl (db, 8, .inl (sk_fill (fun j => sk_b (O j)) fb 8))), (ho, .inl (dq, 8, .inl (fo)))] → va_S A s.heap H locs → lv_has ls 2 [(0, .ref h0), (1, .int (nI 8))] → W p l e R s m args below meth c H locs cells slots Q (F0 m 26 ls [])) :
    ∀ (cnt i : Nat), i + cnt = 8 → ∀ (H : Heap) (locs : List Loc) (ls : Array Slot), va_P (dC, dI) vwCl [(h0, .inr (0, [.ref hk, .ref hb0, .ref ho])), (hb0, .inl (db, 8, .inl (sk_fill (fun j => sk_b (O j)) fb i))), (ho, .inl (dq, 8, .inl (fo)))] H → va_D A [(h0, .inr (0, [.ref hk, .ref hb0, .ref ho])), (hb0, .inl (db, 8, .inl (sk_fill (fun j => sk_b (O j)) fb i))), (ho, .inl (dq, 8, .inl (fo)))] → va_S A s.heap H locs → lv_has ls 2 [(0, .ref h0), (1, .int (nI i))] → W p l e R s m args below meth c H locs cells slots Q (F0 m 2 ls []) := by
  intro cnt
  induction cnt with
  | zero =>
    intro i hi H locs ls hP hD hS hl
    have hi : i = 8 := by omega
    subst hi
    refine lv_iload_n hx hb dX0_again_2 rfl (lv_at hl 1 rfl) ?_
    refine lv_bipush (v := nI 8) hx hb dX0_again_3 (by decide) ?_
    refine sk_geY (tgt := 26) hx hb (Nat.le_refl 8) (by decide) dX0_again_5 (by decide) ?_
    exact hend H locs ls hP hD hS (lv_sub hl [0, 1] rfl)
  | succ cnt ih =>
    intro i hi H locs ls hP hD hS hl
    refine lv_iload_n hx hb dX0_again_2 rfl (lv_at hl 1 rfl) ?_
    refine lv_bipush (v := nI 8) hx hb dX0_again_3 (by decide) ?_
    refine sk_geN (tgt := 26) hx hb (show i < 8 by omega) (by decide) dX0_again_5 (by decide) ?_
    refine lv_aload_n hx hb dX0_again_8 rfl (lv_at hl 0 rfl) ?_
    refine va_get (D := (dC, dI)) (ci := 0) (v := .ref hb0) (C := RX0) (T := TX0) (N := 3) hx hb hts in_X0 hown hK hP 0 rfl rfl 1 (by decide) (hts _ q31) (fun _ h9 => h9) rfl dX0_again_9 ?_
    refine lv_iload_n hx hb dX0_again_12 rfl (lv_at hl 1 rfl) ?_
    refine lv_aload_n hx hb dX0_again_13 rfl (lv_at hl 0 rfl) ?_
    refine va_get (D := (dC, dI)) (ci := 0) (v := .ref ho) (C := RX0) (T := TX0) (N := 3) hx hb hts in_X0 hown hK hP 0 rfl rfl 2 (by decide) (hts _ q32) (fun _ h9 => h9) rfl dX0_again_14 ?_
    refine lv_iload_n hx hb dX0_again_17 rfl (lv_at hl 1 rfl) ?_
    refine sk_bald (k := i) hx hb hK hP 2 1 rfl rfl (by omega) (by decide) dX0_again_18 ?_
    refine sk_top (y := sk_b (O i)) (hO i (by omega)) ?_
    refine sk_bast (k := i) hx hb hK hP hD hS 1 0 rfl rfl (by omega) (by decide) dX0_again_19 (fun H locs hP hD hS => ?_)
    have hP : va_P (dC, dI) vwCl [(h0, .inr (0, [.ref hk, .ref hb0, .ref ho])), (hb0, .inl (db, 8, .inl (upd (sk_fill (fun j => sk_b (O j)) fb i) i (sk_b (O i))))), (ho, .inl (dq, 8, .inl (fo)))] H := hP
    have hD : va_D A [(h0, .inr (0, [.ref hk, .ref hb0, .ref ho])), (hb0, .inl (db, 8, .inl (upd (sk_fill (fun j => sk_b (O j)) fb i) i (sk_b (O i))))), (ho, .inl (dq, 8, .inl (fo)))] := hD
    have hP : va_P (dC, dI) vwCl [(h0, .inr (0, [.ref hk, .ref hb0, .ref ho])), (hb0, .inl (db, 8, .inl (sk_fill (fun j => sk_b (O j)) fb (i + 1)))), (ho, .inl (dq, 8, .inl (fo)))] H := by rw [sk_fill_s (fun j => sk_b (O j)) fb i rfl] at hP; exact hP
    have hD : va_D A [(h0, .inr (0, [.ref hk, .ref hb0, .ref ho])), (hb0, .inl (db, 8, .inl (sk_fill (fun j => sk_b (O j)) fb (i + 1)))), (ho, .inl (dq, 8, .inl (fo)))] := by rw [sk_fill_s (fun j => sk_b (O j)) fb i rfl] at hD; exact hD
    refine lv_iinc (v := nI (i + 1)) (lv' := [(1, .int (nI (i + 1))), (0, .ref h0)]) hx hb dX0_again_20 hl (k := 1) rfl (nI_1 i) (by decide) rfl (fun ls hl => ?_)
    refine lv_goto (tgt := 2) hx hb dX0_again_23 (by decide) ?_
    exact ih (i + 1) (by omega) H locs ls hP hD hS (lv_sub hl [1, 0] rfl)
set_option maxHeartbeats 1000000 in
set_option maxRecDepth 100000 in
/-- SkipjackDesk.again -/
theorem dsk_again (l : Launch) (dC : Nat → ClassId) (dI : Nat → Nat → Nat) (sz : Nat) (h0 hk hb0 ho : Nat) (db dq : ClassId) (fb fo : Nat → Int32) (O : Nat → Nat) (hO : ∀ j, j < 8 → fo j = sk_b (O j)) : Met l yX0_again (ws_ yX0_again cX0_again 2 none) ({ frames := 0, cells := 0, slots := 0, locals := 0 }) (va_Pc [.ref h0] (fun U => U.heap.size = sz ∧ va_P (dC, dI) vwCl [(h0, .inr (0, [.ref hk, .ref hb0, .ref ho])), (hb0, .inl (db, 8, .inl (fb))), (ho, .inl (dq, 8, .inl (fo)))] U.heap ∧ va_K (dC, dI) vwCl [(db, .byte), (dq, .byte)] U ∧ va_D (fun _ => True) [(h0, .inr (0, [.ref hk, .ref hb0, .ref ho])), (hb0, .inl (db, 8, .inl (fb))), (ho, .inl (dq, 8, .inl (fo)))])) (va_Qv (fun (_ : Unit) => True) (fun (_ : Unit) (t : State) => va_P (dC, dI) vwCl [(h0, .inr (0, [.ref hk, .ref hb0, .ref ho])), (hb0, .inl (db, 8, .inl (sk_fill (fun j => sk_b (O j)) fb 8))), (ho, .inl (dq, 8, .inl (fo)))] t.heap ∧ va_K (dC, dI) vwCl [(db, .byte), (dq, .byte)] t ∧ va_D (va_A [(h0, .inr (0, [.ref hk, .ref hb0, .ref ho])), (hb0, .inl (db, 8, .inl (fb))), (ho, .inl (dq, 8, .inl (fo)))] sz) [(h0, .inr (0, [.ref hk, .ref hb0, .ref ho])), (hb0, .inl (db, 8, .inl (sk_fill (fun j => sk_b (O j)) fb 8))), (ho, .inl (dq, 8, .inl (fo)))]) (va_A [(h0, .inr (0, [.ref hk, .ref hb0, .ref ho])), (hb0, .inl (db, 8, .inl (fb))), (ho, .inl (dq, 8, .inl (fo)))] sz)) 0 0 (va_A [(h0, .inr (0, [.ref hk, .ref hb0, .ref ho])), (hb0, .inl (db, 8, .inl (fb))), (ho, .inl (dq, 8, .inl (fo)))] sz) := by
  refine Met.ofW (cc := cX0_again) (maxL := 2) (ret := none) (by decide) rfl ?_
  intro p e s m args below meth c s₁ BO hml hv
  obtain ⟨rfl, hsz, hP, hK, hD0⟩ := hv
  have hx := BO.exec
  have hb := BO.bytes
  have hr := BO.returns
  have hts := atoms_spec (ws := (ws_ yX0_again cX0_again 2 none)) BO.pre
  have hts : ∀ w ∈ lw_all, w.before _ s = true := fun w h => hts w (List.mem_cons_of_mem _ h)
  have hown : s.vm.findClass RX0 = some m.cls := findClass_of_methodNamed BO.named
  have hlocks := BO.notSynchronized
  subst hsz
  have hD := hD0.self (sz := s.heap.size)
  generalize hAe : va_A [(h0, .inr (0, [.ref hk, .ref hb0, .ref ho])), (hb0, .inl (db, 8, .inl (fb))), (ho, .inl (dq, 8, .inl (fo)))] s.heap.size = A at hD ⊢
  have hA : ∀ q : Nat, s.heap.size ≤ q → A q := fun q h => by rw [← hAe]; exact Or.inr h
  have hS : va_S A s.heap s.heap [] := va_S.rf
  have hP : va_P (dC, dI) vwCl [(h0, .inr (0, [.ref hk, .ref hb0, .ref ho])), (hb0, .inl (db, 8, .inl (fb))), (ho, .inl (dq, 8, .inl (fo)))] s.heap := hP
  have hl := lv_entry ([.ref h0]) (n := 2) (Nat.le_of_ble_eq_true rfl)
  rw [lg_entry_eq]
  generalize (lg_sl ([.ref h0]) ++ List.replicate (2 - (lg_sl ([.ref h0])).length) Slot.unset).toArray = ls at hl ⊢
  have hl : lv_has ls 2 [(0, .ref h0)] := hl
  have hP : va_P (dC, dI) vwCl [(h0, .inr (0, [.ref hk, .ref hb0, .ref ho])), (hb0, .inl (db, 8, .inl (sk_fill (fun j => sk_b (O j)) fb 0))), (ho, .inl (dq, 8, .inl (fo)))] s.heap := by rw [← sk_fill_0 (fun j => sk_b (O j)) fb]; exact hP
  have hD : va_D A [(h0, .inr (0, [.ref hk, .ref hb0, .ref ho])), (hb0, .inl (db, 8, .inl (sk_fill (fun j => sk_b (O j)) fb 0))), (ho, .inl (dq, 8, .inl (fo)))] := by rw [← sk_fill_0 (fun j => sk_b (O j)) fb]; exact hD
  refine lv_iconst (v := nI 0) hx hb dX0_again_0 (by decide) ?_
  refine lv_istore_n (lv' := [(1, .int (nI 0)), (0, .ref h0)]) hx hb dX0_again_1 rfl hl (by decide) rfl (fun ls hl => ?_)
  refine dsk_again_lp h0 hk hb0 ho db dq fb fo O hx hb hown hts hK hO ?_ 8 0 (by decide) _ _ ls hP hD hS (lv_sub hl [1, 0] rfl)
  intro H locs ls hP hD hS hl
  have hP9 := hP.sub (ws' := [(h0, .inr (0, [.ref hk, .ref hb0, .ref ho])), (hb0, .inl (db, 8, .inl (sk_fill (fun j => sk_b (O j)) fb 8))), (ho, .inl (dq, 8, .inl (fo)))]) [0, 1, 2] rfl
  have hD9 := hD.sub (ws' := [(h0, .inr (0, [.ref hk, .ref hb0, .ref ho])), (hb0, .inl (db, 8, .inl (sk_fill (fun j => sk_b (O j)) fb 8))), (ho, .inl (dq, 8, .inl (fo)))]) [0, 1, 2] (by decide) rfl
  have hK9 := hK.sub (tys' := [(db, .byte), (dq, .byte)]) [0, 1] rfl
  exact W.vret hx hb hr (fun t ht hW => ⟨⟨(), rfl, trivial, by rw [ht]; exact hP9, va_K.moved hW.alike hK9, hD9⟩, hS.F ht⟩) hS.2.2 dX0_again_26
set_option maxHeartbeats 1000000 in
set_option maxRecDepth 100000 in
/-- the constructor: three arrays of zeros -/
theorem dsk_init (l : Launch) (dC : Nat → ClassId) (dI : Nat → Nat → Nat) (sz : Nat) (h0 : Nat)  : Met l yX0_init (ws_ yX0_init cX0_init 1 none) ({ frames := 1, cells := 3, slots := 48, locals := 12 }) (va_Pc [.ref h0] (fun U => U.heap.size = sz ∧ va_P (dC, dI) vwCl [(h0, .inr (0, [.null, .null, .null]))] U.heap ∧ va_K (dC, dI) vwCl [] U ∧ va_D (fun _ => True) [(h0, .inr (0, [.null, .null, .null]))])) (va_Qv (fun (_ : Unit) => True) (fun (_ : Unit) (t : State) => ∃ (q1 q2 q3 : Nat) (d1 d2 d3 : ClassId), va_P (dC, dI) vwCl [(h0, .inr (0, [.ref q1, .ref q2, .ref q3])), (q1, .inl (d1, 32, .inl (fun _ => 0))), (q2, .inl (d2, 8, .inl (fun _ => 0))), (q3, .inl (d3, 8, .inl (fun _ => 0)))] t.heap ∧ va_K (dC, dI) vwCl [(d1, .byte), (d2, .byte), (d3, .byte)] t ∧ va_D (va_A [(h0, .inr (0, [.null, .null, .null]))] sz) [(h0, .inr (0, [.ref q1, .ref q2, .ref q3])), (q1, .inl (d1, 32, .inl (fun _ => 0))), (q2, .inl (d2, 8, .inl (fun _ => 0))), (q3, .inl (d3, 8, .inl (fun _ => 0)))]) (va_A [(h0, .inr (0, [.null, .null, .null]))] sz)) 3 48 (va_A [(h0, .inr (0, [.null, .null, .null]))] sz) := by
  refine Met.ofW (cc := cX0_init) (maxL := 1) (ret := none) (by decide) rfl ?_
  intro p e s m args below meth c s₁ BO hml hv
  obtain ⟨rfl, hsz, hP, hK, hD0⟩ := hv
  have hx := BO.exec
  have hb := BO.bytes
  have hr := BO.returns
  have hts := atoms_spec (ws := (ws_ yX0_init cX0_init 1 none)) BO.pre
  have hts : ∀ w ∈ lw_all, w.before _ s = true := fun w h => hts w (List.mem_cons_of_mem _ h)
  have hown : s.vm.findClass RX0 = some m.cls := findClass_of_methodNamed BO.named
  have hlocks := BO.notSynchronized
  have hin := (name_of_methodNamed BO.named BO.method).1
  subst hsz
  have hD := hD0.self (sz := s.heap.size)
  generalize hAe : va_A [(h0, .inr (0, [.null, .null, .null]))] s.heap.size = A at hD ⊢
  have hA : ∀ q : Nat, s.heap.size ≤ q → A q := fun q h => by rw [← hAe]; exact Or.inr h
  have hS : va_S A s.heap s.heap [] := va_S.rf
  have hP : va_P (dC, dI) vwCl [(h0, .inr (0, [.null, .null, .null]))] s.heap := hP
  have hl := lv_entry ([.ref h0]) (n := 1) (Nat.le_of_ble_eq_true rfl)
  rw [lg_entry_eq]
  generalize (lg_sl ([.ref h0]) ++ List.replicate (1 - (lg_sl ([.ref h0])).length) Slot.unset).toArray = ls at hl ⊢
  have hl : lv_has ls 1 [(0, .ref h0)] := hl
  refine lv_aload_n hx hb dX0_init_0 rfl (lv_at hl 0 rfl) ?_
  refine W.objInit hx hb hown (hts _ q27) (hts _ q28) (hts _ q29) rfl (by rw [hml]; exact hl.1) rfl dX0_init_1 (Nat.le_of_ble_eq_true rfl) (Nat.le_of_ble_eq_true rfl) ?_
  refine W.eq (g2 := F0 m 4 ls []) rfl ?_
  refine lv_aload_n hx hb dX0_init_4 rfl (lv_at hl 0 rfl) ?_
  refine lv_bipush (v := nI 32) hx hb dX0_init_5 (by decide) ?_
  refine va_newa (atype := .byte) (N' := 32) (a0 := (32, .inl (fun _ => 0))) hx hb (hts _ q40) rfl hK hP hD hS hA (fun _ => rfl) (by decide) (by decide) (by decide) (Nat.le_of_ble_eq_true rfl) (Nat.le_of_ble_eq_true rfl) dX0_init_7 (fun q1 d1 H hK hP hD hS => ?_)
  have hP : va_P (dC, dI) vwCl [(h0, .inr (0, [.null, .null, .null])), (q1, .inl (d1, 32, .inl (fun _ => 0)))] H := hP
  have hD : va_D A [(h0, .inr (0, [.null, .null, .null])), (q1, .inl (d1, 32, .inl (fun _ => 0)))] := hD
  have hK : va_K (dC, dI) vwCl [(d1, .byte)] s := hK
  refine W.widen (k := 1) (n := 32) (Nat.le_of_ble_eq_true rfl) (Nat.le_of_ble_eq_true rfl) ?_
  refine va_putF (D := (dC, dI)) (ci := 0) (v := .ref q1) (ty := .array .byte) (C := RX0) (T := TX0) (N := 3) hx hb hts in_X0 tyX0 tyX0_ok nmX0 hown hK hP hD hS 0 rfl rfl 0 (by decide) (hts _ q30) (fun _ h9 => h9) rfl hin rfl (by decide +kernel) rfl rfl (Nat.le_of_ble_eq_true rfl) dX0_init_9 (fun H locs hP hD hS => ?_)
  have hP : va_P (dC, dI) vwCl [(h0, .inr (0, [.ref q1, .null, .null])), (q1, .inl (d1, 32, .inl (fun _ => 0)))] H := hP
  have hD : va_D A [(h0, .inr (0, [.ref q1, .null, .null])), (q1, .inl (d1, 32, .inl (fun _ => 0)))] := hD
  refine lv_aload_n hx hb dX0_init_12 rfl (lv_at hl 0 rfl) ?_
  refine lv_bipush (v := nI 8) hx hb dX0_init_13 (by decide) ?_
  refine va_newa (atype := .byte) (N' := 8) (a0 := (8, .inl (fun _ => 0))) hx hb (hts _ q40) rfl hK hP hD hS hA (fun _ => rfl) (by decide) (by decide) (by decide) (Nat.le_of_ble_eq_true rfl) (Nat.le_of_ble_eq_true rfl) dX0_init_15 (fun q2 d2 H hK hP hD hS => ?_)
  have hP : va_P (dC, dI) vwCl [(h0, .inr (0, [.ref q1, .null, .null])), (q1, .inl (d1, 32, .inl (fun _ => 0))), (q2, .inl (d2, 8, .inl (fun _ => 0)))] H := hP
  have hD : va_D A [(h0, .inr (0, [.ref q1, .null, .null])), (q1, .inl (d1, 32, .inl (fun _ => 0))), (q2, .inl (d2, 8, .inl (fun _ => 0)))] := hD
  have hK : va_K (dC, dI) vwCl [(d1, .byte), (d2, .byte)] s := hK
  refine W.widen (k := 2) (n := 40) (Nat.le_of_ble_eq_true rfl) (Nat.le_of_ble_eq_true rfl) ?_
  refine va_putF (D := (dC, dI)) (ci := 0) (v := .ref q2) (ty := .array .byte) (C := RX0) (T := TX0) (N := 3) hx hb hts in_X0 tyX0 tyX0_ok nmX0 hown hK hP hD hS 0 rfl rfl 1 (by decide) (hts _ q31) (fun _ h9 => h9) rfl hin rfl (by decide +kernel) rfl rfl (Nat.le_of_ble_eq_true rfl) dX0_init_17 (fun H locs hP hD hS => ?_)
  have hP : va_P (dC, dI) vwCl [(h0, .inr (0, [.ref q1, .ref q2, .null])), (q1, .inl (d1, 32, .inl (fun _ => 0))), (q2, .inl (d2, 8, .inl (fun _ => 0)))] H := hP
  have hD : va_D A [(h0, .inr (0, [.ref q1, .ref q2, .null])), (q1, .inl (d1, 32, .inl (fun _ => 0))), (q2, .inl (d2, 8, .inl (fun _ => 0)))] := hD
  refine lv_aload_n hx hb dX0_init_20 rfl (lv_at hl 0 rfl) ?_
  refine lv_bipush (v := nI 8) hx hb dX0_init_21 (by decide) ?_
  refine va_newa (atype := .byte) (N' := 8) (a0 := (8, .inl (fun _ => 0))) hx hb (hts _ q40) rfl hK hP hD hS hA (fun _ => rfl) (by decide) (by decide) (by decide) (Nat.le_of_ble_eq_true rfl) (Nat.le_of_ble_eq_true rfl) dX0_init_23 (fun q3 d3 H hK hP hD hS => ?_)
  have hP : va_P (dC, dI) vwCl [(h0, .inr (0, [.ref q1, .ref q2, .null])), (q1, .inl (d1, 32, .inl (fun _ => 0))), (q2, .inl (d2, 8, .inl (fun _ => 0))), (q3, .inl (d3, 8, .inl (fun _ => 0)))] H := hP
  have hD : va_D A [(h0, .inr (0, [.ref q1, .ref q2, .null])), (q1, .inl (d1, 32, .inl (fun _ => 0))), (q2, .inl (d2, 8, .inl (fun _ => 0))), (q3, .inl (d3, 8, .inl (fun _ => 0)))] := hD
  have hK : va_K (dC, dI) vwCl [(d1, .byte), (d2, .byte), (d3, .byte)] s := hK
  refine W.widen (k := 3) (n := 48) (Nat.le_of_ble_eq_true rfl) (Nat.le_of_ble_eq_true rfl) ?_
  refine va_putF (D := (dC, dI)) (ci := 0) (v := .ref q3) (ty := .array .byte) (C := RX0) (T := TX0) (N := 3) hx hb hts in_X0 tyX0 tyX0_ok nmX0 hown hK hP hD hS 0 rfl rfl 2 (by decide) (hts _ q32) (fun _ h9 => h9) rfl hin rfl (by decide +kernel) rfl rfl (Nat.le_of_ble_eq_true rfl) dX0_init_25 (fun H locs hP hD hS => ?_)
  have hP : va_P (dC, dI) vwCl [(h0, .inr (0, [.ref q1, .ref q2, .ref q3])), (q1, .inl (d1, 32, .inl (fun _ => 0))), (q2, .inl (d2, 8, .inl (fun _ => 0))), (q3, .inl (d3, 8, .inl (fun _ => 0)))] H := hP
  have hD : va_D A [(h0, .inr (0, [.ref q1, .ref q2, .ref q3])), (q1, .inl (d1, 32, .inl (fun _ => 0))), (q2, .inl (d2, 8, .inl (fun _ => 0))), (q3, .inl (d3, 8, .inl (fun _ => 0)))] := hD
  have hP9 := hP.sub (ws' := [(h0, .inr (0, [.ref q1, .ref q2, .ref q3])), (q1, .inl (d1, 32, .inl (fun _ => 0))), (q2, .inl (d2, 8, .inl (fun _ => 0))), (q3, .inl (d3, 8, .inl (fun _ => 0)))]) [0, 1, 2, 3] rfl
  have hD9 := hD.sub (ws' := [(h0, .inr (0, [.ref q1, .ref q2, .ref q3])), (q1, .inl (d1, 32, .inl (fun _ => 0))), (q2, .inl (d2, 8, .inl (fun _ => 0))), (q3, .inl (d3, 8, .inl (fun _ => 0)))]) [0, 1, 2, 3] (by decide) rfl
  have hK9 := hK.sub (tys' := [(d1, .byte), (d2, .byte), (d3, .byte)]) [0, 1, 2] rfl
  exact W.vret hx hb hr (fun t ht hW => ⟨⟨(), rfl, trivial, q1, q2, q3, d1, d2, d3, by rw [ht]; exact hP9, va_K.moved hW.alike hK9, hD9⟩, hS.F ht⟩) hS.2.2 dX0_init_28
end
section
/-! KeyParameter; SkipjackEngine: its constructor, init, g, h -/
set_option maxHeartbeats 1000000 in
set_option maxRecDepth 100000 in
/-- KeyParameter(10) -/
theorem kp_initI (l : Launch) (dC : Nat → ClassId) (dI : Nat → Nat → Nat) (sz : Nat) (h0 : Nat)  : Met l yX3_init_3 (ws_ yX3_init_3 cX3_init_3 2 none) ({ frames := 1, cells := 1, slots := 10, locals := 12 }) (va_Pc [.ref h0, .int (nI 10)] (fun U => U.heap.size = sz ∧ va_P (dC, dI) vwCl [(h0, .inr (3, [.null]))] U.heap ∧ va_K (dC, dI) vwCl [] U ∧ va_D (fun _ => True) [(h0, .inr (3, [.null]))])) (va_Qv (fun (_ : Unit) => True) (fun (_ : Unit) (t : State) => ∃ (q1 : Nat) (d1 : ClassId), va_P (dC, dI) vwCl [(h0, .inr (3, [.ref q1])), (q1, .inl (d1, 10, .inl (fun _ => 0)))] t.heap ∧ va_K (dC, dI) vwCl [(d1, .byte)] t ∧ va_D (va_A [(h0, .inr (3, [.null]))] sz) [(h0, .inr (3, [.ref q1])), (q1, .inl (d1, 10, .inl (fun _ => 0)))]) (va_A [(h0, .inr (3, [.null]))] sz)) 1 10 (va_A [(h0, .inr (3, [.null]))] sz) := by
  refine Met.ofW (cc := cX3_init_3) (maxL := 2) (ret := none) (by decide) rfl ?_
  intro p e s m args below meth c s₁ BO hml hv
  obtain ⟨rfl, hsz, hP, hK, hD0⟩ := hv
  have hx := BO.exec
  have hb := BO.bytes
  have hr := BO.returns
  have hts := atoms_spec (ws := (ws_ yX3_init_3 cX3_init_3 2 none)) BO.pre
  have hts : ∀ w ∈ lw_all, w.before _ s = true := fun w h => hts w (List.mem_cons_of_mem _ h)
  have hown : s.vm.findClass RX3 = some m.cls := findClass_of_methodNamed BO.named
  have hlocks := BO.notSynchronized
  have hin := (name_of_methodNamed BO.named BO.method).1
  subst hsz
  have hD := hD0.self (sz := s.heap.size)
  generalize hAe : va_A [(h0, .inr (3, [.null]))] s.heap.size = A at hD ⊢
  have hA : ∀ q : Nat, s.heap.size ≤ q → A q := fun q h => by rw [← hAe]; exact Or.inr h
  have hS : va_S A s.heap s.heap [] := va_S.rf
  have hP : va_P (dC, dI) vwCl [(h0, .inr (3, [.null]))] s.heap := hP
  have hl := lv_entry ([.ref h0, .int (nI 10)]) (n := 2) (Nat.le_of_ble_eq_true rfl)
  rw [lg_entry_eq]
  generalize (lg_sl ([.ref h0, .int (nI 10)]) ++ List.replicate (2 - (lg_sl ([.ref h0, .int (nI 10)])).length) Slot.unset).toArray = ls at hl ⊢
  have hl : lv_has ls 2 [(0, .ref h0), (1, .int (nI 10))] := hl
  refine lv_aload_n hx hb dX3_init_3_0 rfl (lv_at hl 0 rfl) ?_
  refine W.objInit hx hb hown (hts _ q96) (hts _ q28) (hts _ q29) rfl (by rw [hml]; exact hl.1) rfl dX3_init_3_1 (Nat.le_of_ble_eq_true rfl) (Nat.le_of_ble_eq_true rfl) ?_
  refine W.eq (g2 := F0 m 4 ls []) rfl ?_
  refine lv_aload_n hx hb dX3_init_3_4 rfl (lv_at hl 0 rfl) ?_
  refine lv_iload_n hx hb dX3_init_3_5 rfl (lv_at hl 1 rfl) ?_
  refine va_newa (atype := .byte) (N' := 10) (a0 := (10, .inl (fun _ => 0))) hx hb (hts _ q40) rfl hK hP hD hS hA (fun _ => rfl) (by decide) (by decide) (by decide) (Nat.le_of_ble_eq_true rfl) (Nat.le_of_ble_eq_true rfl) dX3_init_3_6 (fun q1 d1 H hK hP hD hS => ?_)
  have hP : va_P (dC, dI) vwCl [(h0, .inr (3, [.null])), (q1, .inl (d1, 10, .inl (fun _ => 0)))] H := hP
  have hD : va_D A [(h0, .inr (3, [.null])), (q1, .inl (d1, 10, .inl (fun _ => 0)))] := hD
  have hK : va_K (dC, dI) vwCl [(d1, .byte)] s := hK
  refine W.widen (k := 1) (n := 10) (Nat.le_of_ble_eq_true rfl) (Nat.le_of_ble_eq_true rfl) ?_
  refine va_put (D := (dC, dI)) (ci := 3) (v := .ref q1) (ty := .array .byte) (C := RX3) (T := TX3) (N := 1) hx hb hts in_X3 tyX3 tyX3_ok nmX3 hown hK hP hD hS 0 rfl rfl 0 (by decide) (hts _ q97) (fun _ h9 => h9) rfl (by decide +kernel) rfl rfl (Nat.le_of_ble_eq_true rfl) dX3_init_3_8 (fun H locs hP hD hS => ?_)
  have hP : va_P (dC, dI) vwCl [(h0, .inr (3, [.ref q1])), (q1, .inl (d1, 10, .inl (fun _ => 0)))] H := hP
  have hD : va_D A [(h0, .inr (3, [.ref q1])), (q1, .inl (d1, 10, .inl (fun _ => 0)))] := hD
  have hP9 := hP.sub (ws' := [(h0, .inr (3, [.ref q1])), (q1, .inl (d1, 10, .inl (fun _ => 0)))]) [0, 1] rfl
  have hD9 := hD.sub (ws' := [(h0, .inr (3, [.ref q1])), (q1, .inl (d1, 10, .inl (fun _ => 0)))]) [0, 1] (by decide) rfl
  have hK9 := hK.sub (tys' := [(d1, .byte)]) [0] rfl
  exact W.vret hx hb hr (fun t ht hW => ⟨⟨(), rfl, trivial, q1, d1, by rw [ht]; exact hP9, va_K.moved hW.alike hK9, hD9⟩, hS.F ht⟩) hS.2.2 dX3_init_3_11
set_option maxHeartbeats 1000000 in
set_option maxRecDepth 100000 in
/-- KeyParameter(key, 0, 10): a copy -/
theorem kp_init3 (l : Launch) (dC : Nat → ClassId) (dI : Nat → Nat → Nat) (sz : Nat) (h0 hk : Nat) (dk : ClassId) (f : Nat → Int32) (K : Nat → Nat) (hf : ∀ j, j < 10 → f j = sk_b (K j)) : Met l yX3_init_2 (ws_ yX3_init_2 cX3_init_2 4 none) ({ frames := 2, cells := 1, slots := 10, locals := 60 }) (va_Pc [.ref h0, .ref hk, .int (nI 0), .int (nI 10)] (fun U => U.heap.size = sz ∧ va_P (dC, dI) vwCl [(h0, .inr (3, [.null])), (hk, .inl (dk, 10, .inl (f)))] U.heap ∧ va_K (dC, dI) vwCl [(dk, .byte)] U ∧ va_D (fun _ => True) [(h0, .inr (3, [.null])), (hk, .inl (dk, 10, .inl (f)))])) (va_Qv (fun (_ : Unit) => True) (fun (_ : Unit) (t : State) => ∃ (q1 : Nat) (d1 : ClassId), va_P (dC, dI) vwCl [(h0, .inr (3, [.ref q1])), (hk, .inl (dk, 10, .inl (f))), (q1, .inl (d1, 10, .inl (sk_fill f (fun _ => 0) 10)))] t.heap ∧ va_K (dC, dI) vwCl [(dk, .byte), (d1, .byte)] t ∧ va_D (va_A [(h0, .inr (3, [.null])), (hk, .inl (dk, 10, .inl (f)))] sz) [(h0, .inr (3, [.ref q1])), (hk, .inl (dk, 10, .inl (f))), (q1, .inl (d1, 10, .inl (sk_fill f (fun _ => 0) 10)))]) (va_A [(h0, .inr (3, [.null])), (hk, .inl (dk, 10, .inl (f)))] sz)) 1 10 (va_A [(h0, .inr (3, [.null])), (hk, .inl (dk, 10, .inl (f)))] sz) := by
  refine Met.ofW (cc := cX3_init_2) (maxL := 4) (ret := none) (by decide) rfl ?_
  intro p e s m args below meth c s₁ BO hml hv
  obtain ⟨rfl, hsz, hP, hK, hD0⟩ := hv
  have hx := BO.exec
  have hb := BO.bytes
  have hr := BO.returns
  have hts := atoms_spec (ws := (ws_ yX3_init_2 cX3_init_2 4 none)) BO.pre
  have hts : ∀ w ∈ lw_all, w.before _ s = true := fun w h => hts w (List.mem_cons_of_mem _ h)
  have hown : s.vm.findClass RX3 = some m.cls := findClass_of_methodNamed BO.named
  have hlocks := BO.notSynchronized
  have hin := (name_of_methodNamed BO.named BO.method).1
  subst hsz
  have hD := hD0.self (sz := s.heap.size)
  generalize hAe : va_A [(h0, .inr (3, [.null])), (hk, .inl (dk, 10, .inl (f)))] s.heap.size = A at hD ⊢
  have hA : ∀ q : Nat, s.heap.size ≤ q → A q := fun q h => by rw [← hAe]; exact Or.inr h
  have hS : va_S A s.heap s.heap [] := va_S.rf
  have hP : va_P (dC, dI) vwCl [(h0, .inr (3, [.null])), (hk, .inl (dk, 10, .inl (f)))] s.heap := hP
  have hl := lv_entry ([.ref h0, .ref hk, .int (nI 0), .int (nI 10)]) (n := 4) (Nat.le_of_ble_eq_true rfl)
  rw [lg_entry_eq]
  generalize (lg_sl ([.ref h0, .ref hk, .int (nI 0), .int (nI 10)]) ++ List.replicate (4 - (lg_sl ([.ref h0, .ref hk, .int (nI 0), .int (nI 10)])).length) Slot.unset).toArray = ls at hl ⊢
  have hl : lv_has ls 4 [(0, .ref h0), (1, .ref hk), (2, .int (nI 0)), (3, .int (nI 10))] := hl
  refine lv_aload_n hx hb dX3_init_2_0 rfl (lv_at hl 0 rfl) ?_
  refine lv_iload_n hx hb dX3_init_2_1 rfl (lv_at hl 3 rfl) ?_
  have hPc := hP.sub (ws' := [(h0, .inr (3, [.null]))]) [0] rfl
  have hDc := hD.sub (ws' := [(h0, .inr (3, [.null]))]) [0] (by decide) rfl
  have hKc := hK.sub (tys' := []) [] rfl
  have hFc := va_free (wc := [(h0, .inr (3, [.null]))]) hD hS hA [0] rfl
  refine va_callv (va_runI (As := [.int (nI 10)]) (rest := []) ⟨hx, hb, hml, hown, hts⟩ (kp_initI l dC dI s.heap.size h0) (cwI 1 hts (lw_meth q95) rfl rfl rfl (hts _ q12) (hts _ q93) (hts _ q94) rfl (by decide +kernel) ⟨Nat.le_of_ble_eq_true rfl, Nat.le_of_ble_eq_true rfl⟩) ⟨fun a U g mk q => by obtain ⟨q0, q1, qP, qK, qD⟩ := q; exact ⟨q0, q1, qP, va_K.moved (u := U) (U := U.calling g mk a) (Vm.Alike.refl U.vm) qK, qD⟩, fun U hU hW => ⟨rfl, by rw [hU], by rw [hU]; exact hPc, va_K.moved hW.alike hKc, hDc.weaken (fun _ _ _ _ => trivial)⟩⟩ rfl rfl hl.1 rfl (lv_room (Nat.le_of_ble_eq_true rfl)) dX3_init_2_2 ⟨Nat.le_of_ble_eq_true rfl, Nat.le_of_ble_eq_true rfl⟩) hS (fun q _ h => hFc q h) hFc (fun uS tS H1 locs htS hvm hw hB hz1 hk1 hS => ?_)
  obtain ⟨q1, d1, hP1, hK1, hD1⟩ := hB
  rw [htS] at hP1
  obtain ⟨hP, hD⟩ := va_join (wr := [(hk, .inl (dk, 10, .inl (f)))]) (w1 := [(h0, .inr (3, [.ref q1])), (q1, .inl (d1, 10, .inl (fun _ => 0)))]) hP hD [0] [1] rfl rfl (by decide) (by decide) hk1 hFc hP1 hD1
  have hK1 := va_K.moved hvm.symm hK1
  have hK := hK.app hK1
  generalize H1 = H at hP hS ⊢
  have hP : va_P (dC, dI) vwCl [(hk, .inl (dk, 10, .inl (f))), (h0, .inr (3, [.ref q1])), (q1, .inl (d1, 10, .inl (fun _ => 0)))] H := hP
  have hD : va_D A [(hk, .inl (dk, 10, .inl (f))), (h0, .inr (3, [.ref q1])), (q1, .inl (d1, 10, .inl (fun _ => 0)))] := hD
  have hK : va_K (dC, dI) vwCl [(dk, .byte), (d1, .byte)] s := hK
  refine W.widen (k := 1) (n := 10) (Nat.le_of_ble_eq_true rfl) (Nat.le_of_ble_eq_true rfl) ?_
  refine lv_aload_n hx hb dX3_init_2_5 rfl (lv_at hl 1 rfl) ?_
  refine lv_iload_n hx hb dX3_init_2_6 rfl (lv_at hl 2 rfl) ?_
  refine lv_aload_n hx hb dX3_init_2_7 rfl (lv_at hl 0 rfl) ?_
  refine va_get (D := (dC, dI)) (ci := 3) (v := .ref q1) (C := RX3) (T := TX3) (N := 1) hx hb hts in_X3 hown hK hP 1 rfl rfl 0 (by decide) (hts _ q97) (fun _ h9 => h9) rfl dX3_init_2_8 ?_
  refine lv_iconst (v := nI 0) hx hb dX3_init_2_11 (by decide) ?_
  refine lv_iload_n hx hb dX3_init_2_12 rfl (lv_at hl 3 rfl) ?_
  refine va_copyi hx hb (hml.trans hl.1.symm) hown (hts _ q101) (hts _ q103) (hts _ q102) (hts _ q13) hK hP hD hS 0 2 0 1 rfl rfl rfl rfl rfl (by decide) (by decide) (by decide) (by decide) (by decide) (fun i hi => by rw [show (nI 0).toNatClampNeg + i = i from (by rw [nI_clamp (by decide)]; exact Nat.zero_add i), hf i (by rw [nI_clamp (by decide)] at hi; exact hi)]; exact sk_fit _) (Nat.le_of_ble_eq_true rfl) (Nat.le_of_ble_eq_true rfl) dX3_init_2_13 (fun H locs hP hD hS => ?_)
  have hP : va_P (dC, dI) vwCl [(hk, .inl (dk, 10, .inl (f))), (h0, .inr (3, [.ref q1])), (q1, .inl (d1, 10, .inl (va_cpy f (fun _ => 0) (nI 0).toNatClampNeg (nI 0).toNatClampNeg (nI 10).toNatClampNeg)))] H := hP
  have hD : va_D A [(hk, .inl (dk, 10, .inl (f))), (h0, .inr (3, [.ref q1])), (q1, .inl (d1, 10, .inl (va_cpy f (fun _ => 0) (nI 0).toNatClampNeg (nI 0).toNatClampNeg (nI 10).toNatClampNeg)))] := hD
  have hP : va_P (dC, dI) vwCl [(hk, .inl (dk, 10, .inl (f))), (h0, .inr (3, [.ref q1])), (q1, .inl (d1, 10, .inl (sk_fill f (fun _ => 0) 10)))] H := by rw [sk_cpy] at hP; exact hP
  have hD : va_D A [(hk, .inl (dk, 10, .inl (f))), (h0, .inr (3, [.ref q1])), (q1, .inl (d1, 10, .inl (sk_fill f (fun _ => 0) 10)))] := by rw [sk_cpy] at hD; exact hD
  have hP9 := hP.sub (ws' := [(h0, .inr (3, [.ref q1])), (hk, .inl (dk, 10, .inl (f))), (q1, .inl (d1, 10, .inl (sk_fill f (fun _ => 0) 10)))]) [1, 0, 2] rfl
  have hD9 := hD.sub (ws' := [(h0, .inr (3, [.ref q1])), (hk, .inl (dk, 10, .inl (f))), (q1, .inl (d1, 10, .inl (sk_fill f (fun _ => 0) 10)))]) [1, 0, 2] (by decide) rfl
  have hK9 := hK.sub (tys' := [(dk, .byte), (d1, .byte)]) [0, 1] rfl
  exact W.vret hx hb hr (fun t ht hW => ⟨⟨(), rfl, trivial, q1, d1, by rw [ht]; exact hP9, va_K.moved hW.alike hK9, hD9⟩, hS.F ht⟩) hS.2.2 dX3_init_2_16
set_option maxHeartbeats 1000000 in
set_option maxRecDepth 100000 in
/-- KeyParameter(key): a copy of ten bytes -/
theorem kp_init (l : Launch) (dC : Nat → ClassId) (dI : Nat → Nat → Nat) (sz : Nat) (h0 hk : Nat) (dk : ClassId) (f : Nat → Int32) (K : Nat → Nat) (hf : ∀ j, j < 10 → f j = sk_b (K j)) : Met l yX3_init (ws_ yX3_init cX3_init 2 none) ({ frames := 3, cells := 1, slots := 10, locals := 90 }) (va_Pc [.ref h0, .ref hk] (fun U => U.heap.size = sz ∧ va_P (dC, dI) vwCl [(h0, .inr (3, [.null])), (hk, .inl (dk, 10, .inl (f)))] U.heap ∧ va_K (dC, dI) vwCl [(dk, .byte)] U ∧ va_D (fun _ => True) [(h0, .inr (3, [.null])), (hk, .inl (dk, 10, .inl (f)))])) (va_Qv (fun (_ : Unit) => True) (fun (_ : Unit) (t : State) => ∃ (q1 : Nat) (d1 : ClassId), va_P (dC, dI) vwCl [(h0, .inr (3, [.ref q1])), (hk, .inl (dk, 10, .inl (f))), (q1, .inl (d1, 10, .inl (sk_fill f (fun _ => 0) 10)))] t.heap ∧ va_K (dC, dI) vwCl [(dk, .byte), (d1, .byte)] t ∧ va_D (va_A [(h0, .inr (3, [.null])), (hk, .inl (dk, 10, .inl (f)))] sz) [(h0, .inr (3, [.ref q1])), (hk, .inl (dk, 10, .inl (f))), (q1, .inl (d1, 10, .inl (sk_fill f (fun _ => 0) 10)))]) (va_A [(h0, .inr (3, [.null])), (hk, .inl (dk, 10, .inl (f)))] sz)) 1 10 (va_A [(h0, .inr (3, [.null])), (hk, .inl (dk, 10, .inl (f)))] sz) := by
  refine Met.ofW (cc := cX3_init) (maxL := 2) (ret := none) (by decide) rfl ?_
  intro p e s m args below meth c s₁ BO hml hv
  obtain ⟨rfl, hsz, hP, hK, hD0⟩ := hv
  have hx := BO.exec
  have hb := BO.bytes
  have hr := BO.returns
  have hts := atoms_spec (ws := (ws_ yX3_init cX3_init 2 none)) BO.pre
  have hts : ∀ w ∈ lw_all, w.before _ s = true := fun w h => hts w (List.mem_cons_of_mem _ h)
  have hown : s.vm.findClass RX3 = some m.cls := findClass_of_methodNamed BO.named
  have hlocks := BO.notSynchronized
  have hin := (name_of_methodNamed BO.named BO.method).1
  subst hsz
  have hD := hD0.self (sz := s.heap.size)
  generalize hAe : va_A [(h0, .inr (3, [.null])), (hk, .inl (dk, 10, .inl (f)))] s.heap.size = A at hD ⊢
  have hA : ∀ q : Nat, s.heap.size ≤ q → A q := fun q h => by rw [← hAe]; exact Or.inr h
  have hS : va_S A s.heap s.heap [] := va_S.rf
  have hP : va_P (dC, dI) vwCl [(h0, .inr (3, [.null])), (hk, .inl (dk, 10, .inl (f)))] s.heap := hP
  have hl := lv_entry ([.ref h0, .ref hk]) (n := 2) (Nat.le_of_ble_eq_true rfl)
  rw [lg_entry_eq]
  generalize (lg_sl ([.ref h0, .ref hk]) ++ List.replicate (2 - (lg_sl ([.ref h0, .ref hk])).length) Slot.unset).toArray = ls at hl ⊢
  have hl : lv_has ls 2 [(0, .ref h0), (1, .ref hk)] := hl
  refine lv_aload_n hx hb dX3_init_0 rfl (lv_at hl 0 rfl) ?_
  refine lv_aload_n hx hb dX3_init_1 rfl (lv_at hl 1 rfl) ?_
  refine lv_iconst (v := nI 0) hx hb dX3_init_2 (by decide) ?_
  refine lv_aload_n hx hb dX3_init_3 rfl (lv_at hl 1 rfl) ?_
  refine va_alen (v := nI 10) hx hb hK hP 1 0 rfl rfl rfl dX3_init_4 ?_
  have hPc := hP.sub (ws' := [(h0, .inr (3, [.null])), (hk, .inl (dk, 10, .inl (f)))]) [0, 1] rfl
  have hDc := hD.sub (ws' := [(h0, .inr (3, [.null])), (hk, .inl (dk, 10, .inl (f)))]) [0, 1] (by decide) rfl
  have hKc := hK.sub (tys' := [(dk, .byte)]) [0] rfl
  have hFc := va_free (wc := [(h0, .inr (3, [.null])), (hk, .inl (dk, 10, .inl (f)))]) hD hS hA [0, 1] rfl
  refine va_callv (va_runI (As := [.ref hk, .int (nI 0), .int (nI 10)]) (rest := []) ⟨hx, hb, hml, hown, hts⟩ (kp_init3 l dC dI s.heap.size h0 hk dk f K hf) (cwI 3 hts (lw_meth q92) rfl rfl rfl (hts _ q12) (hts _ q90) (hts _ q91) rfl (by decide +kernel) ⟨Nat.le_of_ble_eq_true rfl, Nat.le_of_ble_eq_true rfl⟩) ⟨fun a U g mk q => by obtain ⟨q0, q1, qP, qK, qD⟩ := q; exact ⟨q0, q1, qP, va_K.moved (u := U) (U := U.calling g mk a) (Vm.Alike.refl U.vm) qK, qD⟩, fun U hU hW => ⟨rfl, by rw [hU], by rw [hU]; exact hPc, va_K.moved hW.alike hKc, hDc.weaken (fun _ _ _ _ => trivial)⟩⟩ rfl rfl hl.1 rfl (lv_room (Nat.le_of_ble_eq_true rfl)) dX3_init_5 ⟨Nat.le_of_ble_eq_true rfl, Nat.le_of_ble_eq_true rfl⟩) hS (fun q _ h => hFc q h) hFc (fun uS tS H1 locs htS hvm hw hB hz1 hk1 hS => ?_)
  obtain ⟨q1, d1, hP1, hK1, hD1⟩ := hB
  rw [htS] at hP1
  obtain ⟨hP, hD⟩ := va_join (wr := []) (w1 := [(h0, .inr (3, [.ref q1])), (hk, .inl (dk, 10, .inl (f))), (q1, .inl (d1, 10, .inl (sk_fill f (fun _ => 0) 10)))]) hP hD [0, 1] [] rfl rfl (by decide) (by decide) hk1 hFc hP1 hD1
  have hK1 := va_K.moved hvm.symm hK1
  have hK := hK.app hK1
  generalize H1 = H at hP hS ⊢
  have hP : va_P (dC, dI) vwCl [(h0, .inr (3, [.ref q1])), (hk, .inl (dk, 10, .inl (f))), (q1, .inl (d1, 10, .inl (sk_fill f (fun _ => 0) 10)))] H := hP
  have hD : va_D A [(h0, .inr (3, [.ref q1])), (hk, .inl (dk, 10, .inl (f))), (q1, .inl (d1, 10, .inl (sk_fill f (fun _ => 0) 10)))] := hD
  have hK : va_K (dC, dI) vwCl [(dk, .byte), (dk, .byte), (d1, .byte)] s := hK
  refine W.widen (k := 1) (n := 10) (Nat.le_of_ble_eq_true rfl) (Nat.le_of_ble_eq_true rfl) ?_
  have hP9 := hP.sub (ws' := [(h0, .inr (3, [.ref q1])), (hk, .inl (dk, 10, .inl (f))), (q1, .inl (d1, 10, .inl (sk_fill f (fun _ => 0) 10)))]) [0, 1, 2] rfl
  have hD9 := hD.sub (ws' := [(h0, .inr (3, [.ref q1])), (hk, .inl (dk, 10, .inl (f))), (q1, .inl (d1, 10, .inl (sk_fill f (fun _ => 0) 10)))]) [0, 1, 2] (by decide) rfl
  have hK9 := hK.sub (tys' := [(dk, .byte), (d1, .byte)]) [0, 2] rfl
  exact W.vret hx hb hr (fun t ht hW => ⟨⟨(), rfl, trivial, q1, d1, by rw [ht]; exact hP9, va_K.moved hW.alike hK9, hD9⟩, hS.F ht⟩) hS.2.2 dX3_init_8
set_option maxHeartbeats 1000000 in
set_option maxRecDepth 100000 in
/-- KeyParameter.getKey -/
theorem kp_getKey (l : Launch) (dC : Nat → ClassId) (dI : Nat → Nat → Nat) (sz : Nat) (h0 q1 : Nat)  : Met l yX3_getKey (ws_ yX3_getKey cX3_getKey 1 (some (.array .byte))) ({ frames := 0, cells := 0, slots := 0, locals := 0 }) (va_Pc [.ref h0] (fun U => U.heap.size = sz ∧ va_P (dC, dI) vwCl [(h0, .inr (3, [.ref q1]))] U.heap ∧ va_K (dC, dI) vwCl [] U ∧ va_D (fun _ => True) [(h0, .inr (3, [.ref q1]))])) (va_Qr (fun (_ : Unit) => True) (fun (_ : Unit) (q : Nat) (t : State) => q = q1 ∧ va_P (dC, dI) vwCl [(h0, .inr (3, [.ref q1]))] t.heap ∧ va_K (dC, dI) vwCl [] t ∧ va_D (va_A [(h0, .inr (3, [.ref q1]))] sz) [(h0, .inr (3, [.ref q1]))]) (va_A [(h0, .inr (3, [.ref q1]))] sz)) 0 0 (va_A [(h0, .inr (3, [.ref q1]))] sz) := by
  refine Met.ofW (cc := cX3_getKey) (maxL := 1) (ret := (some (.array .byte))) (by decide) rfl ?_
  intro p e s m args below meth c s₁ BO hml hv
  obtain ⟨rfl, hsz, hP, hK, hD0⟩ := hv
  have hx := BO.exec
  have hb := BO.bytes
  have hr := BO.returns
  have hts := atoms_spec (ws := (ws_ yX3_getKey cX3_getKey 1 (some (.array .byte)))) BO.pre
  have hts : ∀ w ∈ lw_all, w.before _ s = true := fun w h => hts w (List.mem_cons_of_mem _ h)
  have hown : s.vm.findClass RX3 = some m.cls := findClass_of_methodNamed BO.named
  have hlocks := BO.notSynchronized
  subst hsz
  have hD := hD0.self (sz := s.heap.size)
  generalize hAe : va_A [(h0, .inr (3, [.ref q1]))] s.heap.size = A at hD ⊢
  have hA : ∀ q : Nat, s.heap.size ≤ q → A q := fun q h => by rw [← hAe]; exact Or.inr h
  have hS : va_S A s.heap s.heap [] := va_S.rf
  have hP : va_P (dC, dI) vwCl [(h0, .inr (3, [.ref q1]))] s.heap := hP
  have hl := lv_entry ([.ref h0]) (n := 1) (Nat.le_of_ble_eq_true rfl)
  rw [lg_entry_eq]
  generalize (lg_sl ([.ref h0]) ++ List.replicate (1 - (lg_sl ([.ref h0])).length) Slot.unset).toArray = ls at hl ⊢
  have hl : lv_has ls 1 [(0, .ref h0)] := hl
  refine lv_aload_n hx hb dX3_getKey_0 rfl (lv_at hl 0 rfl) ?_
  refine va_get (D := (dC, dI)) (ci := 3) (v := .ref q1) (C := RX3) (T := TX3) (N := 1) hx hb hts in_X3 hown hK hP 0 rfl rfl 0 (by decide) (hts _ q97) (fun _ h9 => h9) rfl dX3_getKey_1 ?_
  have hP9 := hP.sub (ws' := [(h0, .inr (3, [.ref q1]))]) [0] rfl
  have hD9 := hD.sub (ws' := [(h0, .inr (3, [.ref q1]))]) [0] (by decide) rfl
  have hK9 := hK.sub (tys' := []) [] rfl
  exact W.aret (v := .ref q1) hx hb hr (Or.inr ⟨_, rfl⟩) (Or.inr ⟨_, rfl⟩) (fun t ht hW => ⟨⟨(), q1, rfl, trivial, rfl, by rw [ht]; exact hP9, va_K.moved hW.alike hK9, hD9⟩, hS.F ht⟩) hS.2.2 dX3_getKey_4
set_option maxHeartbeats 1000000 in
set_option maxRecDepth 100000 in
/-- SkipjackEngine() -/
theorem eng_init0 (l : Launch) (dC : Nat → ClassId) (dI : Nat → Nat → Nat) (sz : Nat) (h0 : Nat)  : Met l yX2_init (ws_ yX2_init cX2_init 1 none) ({ frames := 1, cells := 0, slots := 0, locals := 12 }) (va_Pc [.ref h0] (fun U => U.heap.size = sz ∧ va_P (dC, dI) vwCl [(h0, .inr (2, [.null, .null, .null, .null, .int 0]))] U.heap ∧ va_K (dC, dI) vwCl [] U ∧ va_D (fun _ => True) [(h0, .inr (2, [.null, .null, .null, .null, .int 0]))])) (va_Qv (fun (_ : Unit) => True) (fun (_ : Unit) (t : State) => va_P (dC, dI) vwCl [(h0, .inr (2, [.null, .null, .null, .null, .int 0]))] t.heap ∧ va_K (dC, dI) vwCl [] t ∧ va_D (va_A [(h0, .inr (2, [.null, .null, .null, .null, .int 0]))] sz) [(h0, .inr (2, [.null, .null, .null, .null, .int 0]))]) (va_A [(h0, .inr (2, [.null, .null, .null, .null, .int 0]))] sz)) 0 0 (va_A [(h0, .inr (2, [.null, .null, .null, .null, .int 0]))] sz) := by
  refine Met.ofW (cc := cX2_init) (maxL := 1) (ret := none) (by decide) rfl ?_
  intro p e s m args below meth c s₁ BO hml hv
  obtain ⟨rfl, hsz, hP, hK, hD0⟩ := hv
  have hx := BO.exec
  have hb := BO.bytes
  have hr := BO.returns
  have hts := atoms_spec (ws := (ws_ yX2_init cX2_init 1 none)) BO.pre
  have hts : ∀ w ∈ lw_all, w.before _ s = true := fun w h => hts w (List.mem_cons_of_mem _ h)
  have hown : s.vm.findClass RX2 = some m.cls := findClass_of_methodNamed BO.named
  have hlocks := BO.notSynchronized
  have hin := (name_of_methodNamed BO.named BO.method).1
  subst hsz
  have hD := hD0.self (sz := s.heap.size)
  generalize hAe : va_A [(h0, .inr (2, [.null, .null, .null, .null, .int 0]))] s.heap.size = A at hD ⊢
  have hA : ∀ q : Nat, s.heap.size ≤ q → A q := fun q h => by rw [← hAe]; exact Or.inr h
  have hS : va_S A s.heap s.heap [] := va_S.rf
  have hP : va_P (dC, dI) vwCl [(h0, .inr (2, [.null, .null, .null, .null, .int 0]))] s.heap := hP
  have hl := lv_entry ([.ref h0]) (n := 1) (Nat.le_of_ble_eq_true rfl)
  rw [lg_entry_eq]
  generalize (lg_sl ([.ref h0]) ++ List.replicate (1 - (lg_sl ([.ref h0])).length) Slot.unset).toArray = ls at hl ⊢
  have hl : lv_has ls 1 [(0, .ref h0)] := hl
  refine lv_aload_n hx hb dX2_init_0 rfl (lv_at hl 0 rfl) ?_
  refine W.objInit hx hb hown (hts _ q68) (hts _ q28) (hts _ q29) rfl (by rw [hml]; exact hl.1) rfl dX2_init_1 (Nat.le_of_ble_eq_true rfl) (Nat.le_of_ble_eq_true rfl) ?_
  refine W.eq (g2 := F0 m 4 ls []) rfl ?_
  have hP9 := hP.sub (ws' := [(h0, .inr (2, [.null, .null, .null, .null, .int 0]))]) [0] rfl
  have hD9 := hD.sub (ws' := [(h0, .inr (2, [.null, .null, .null, .null, .int 0]))]) [0] (by decide) rfl
  have hK9 := hK.sub (tys' := []) [] rfl
  exact W.vret hx hb hr (fun t ht hW => ⟨⟨(), rfl, trivial, by rw [ht]; exact hP9, va_K.moved hW.alike hK9, hD9⟩, hS.F ht⟩) hS.2.2 dX2_init_4
set_option maxHeartbeats 1000000 in
set_option maxRecDepth 100000 in
theorem eng_init_lp {p : Program} {l : Launch} {e : Env} {R : Room} {s : State} {m : MethodId} {args : Array Value} {below : List Frame} {meth : Method} {c : Code} {dC : Nat → ClassId} {dI : Nat → Nat → Nat} {A : Nat → Prop} {Q : State → Prop} {cells slots : Nat} (h0 hp hk k0 k1 k2 k3 : Nat) (dk d0 d1 d2 d3 : ClassId) (f : Nat → Int32) (K : Nat → Nat) (en : Int32) (hx : p.tables.exec = Jvm.exec) (hb : c.code = cX2_init_2) (hown : s.vm.findClass RX2 = some m.cls) (hts : ∀ w ∈ lw_all, w.before args s = true) (hK : va_K (dC, dI) vwCl [(dk, .byte), (d0, .int), (d1, .int), (d2, .int), (d3, .int)] s) (hK0 : sk_K K) (hf : ∀ j, j < 10 → f j = sk_b (K j))
    (hend : ∀ (H : Heap) (locs : List Loc) (ls : Array Slot), va_P (dC, dI) vwCl [(h0, .inr (2, [.ref k0, .ref k1, .ref k2, .ref k3, .int en])), (hp, .inr (3, [.ref hk])), (hk, .inl (dk, 10, .inl (f))), (k0, .inl (d0, 32, .inl (sk_fill (fun j => nI (K ((4 * j + 0) % 10))) (fun _ => 0) 32))), (k1, .inl (d1, 32, .inl (sk_fill (fun j => nI (K ((4 * j + 1) % 10))) (fun _ => 0) 32))), (k2, .inl (d2, 32, .inl (sk_fill (fun j => nI (K ((4 * j + 2) % 10))) (fun _ => 0) 32))), (k3, .inl (d3, 32, .inl (sk_fill (fun j => nI (K ((4 * j + 3) % 10))) (fun _ => 0) 32)))] H → va_D A [(h0, .inr (2, [.ref k0, .ref k1, .ref k2, .ref k3, .int en])), (hp, .inr (3, [.ref hk])), (hk, .inl (dk, 10, .inl (f))), (k0, .inl (d0, 32, .inl (sk_fill (fun j => nI (K ((4 * j + 0) % 10))) (fun _ => 0) 32))), (k1, .inl (d1, 32, .inl (sk_fill (fun j => nI (K ((4 * j + 1) % 10))) (fun _ => 0) 32))), (k2, .inl (d2, 32, .inl (sk_fill (fun j => nI (K ((4 * j + 2) % 10))) (fun _ => 0) 32))), (k3, .inl (d3, 32, .inl (sk_fill (fun j => nI (K ((4 * j + 3) % 10))) (fun _ => 0) 32)))] → va_S A s.heap H locs → lv_has ls 5 [(0, .ref h0), (3, .ref hk), (4, .int (nI 32))] → W p l e R s m args below meth c H locs cells slots Q (F0 m 164 ls [])) :
    ∀ (cnt i : Nat), i + cnt = 32 → ∀ (H : Heap) (locs : List Loc) (ls : Array Slot), va_P (dC, dI) vwCl [(h0, .inr (2, [.ref k0, .ref k1, .ref k2, .ref k3, .int en])), (hp, .inr (3, [.ref hk])), (hk, .inl (dk, 10, .inl (f))), (k0, .inl (d0, 32, .inl (sk_fill (fun j => nI (K ((4 * j + 0) % 10))) (fun _ => 0) i))), (k1, .inl (d1, 32, .inl (sk_fill (fun j => nI (K ((4 * j + 1) % 10))) (fun _ => 0) i))), (k2, .inl (d2, 32, .inl (sk_fill (fun j => nI (K ((4 * j + 2) % 10))) (fun _ => 0) i))), (k3, .inl (d3, 32, .inl (sk_fill (fun j => nI (K ((4 * j + 3) % 10))) (fun _ => 0) i)))] H → va_D A [(h0, .inr (2, [.ref k0, .ref k1, .ref k2, .ref k3, .int en])), (hp, .inr (3, [.ref hk])), (hk, .inl (dk, 10, .inl (f))), (k0, .inl (d0, 32, .inl (sk_fill (fun j => nI (K ((4 * j + 0) % 10))) (fun _ => 0) i))), (k1, .inl (d1, 32, .inl (sk_fill (fun j => nI (K ((4 * j + 1) % 10))) (fun _ => 0) i))), (k2, .inl (d2, 32, .inl (sk_fill (fun j => nI (K ((4 * j + 2) % 10))) (fun _ => 0) i))), (k3, .inl (d3, 32, .inl (sk_fill (fun j => nI (K ((4 * j + 3) % 10))) (fun _ => 0) i)))] → va_S A s.heap H locs → lv_has ls 5 [(0, .ref h0), (3, .ref hk), (4, .int (nI i))] → W p l e R s m args below meth c H locs cells slots Q (F0 m 65 ls []) := by
  intro cnt
  induction cnt with
  | zero =>
    intro i hi H locs ls hP hD hS hl
    have hi : i = 32 := by omega
    subst hi
    refine lv_iload hx hb dX2_init_2_65 (lv_at hl 2 rfl) ?_
    refine lv_bipush (v := nI 32) hx hb dX2_init_2_67 (by decide) ?_
    refine sk_geY (tgt := 164) hx hb (Nat.le_refl 32) (by decide) dX2_init_2_69 (by decide) ?_
    exact hend H locs ls hP hD hS hl
  | succ cnt ih =>
    intro i hi H locs ls hP hD hS hl
    refine lv_iload hx hb dX2_init_2_65 (lv_at hl 2 rfl) ?_
    refine lv_bipush (v := nI 32) hx hb dX2_init_2_67 (by decide) ?_
    refine sk_geN (tgt := 164) hx hb (show i < 32 by omega) (by decide) dX2_init_2_69 (by decide) ?_
    refine lv_aload_n hx hb dX2_init_2_72 rfl (lv_at hl 0 rfl) ?_
    refine va_get (D := (dC, dI)) (ci := 2) (v := .ref k0) (C := RX2) (T := TX2) (N := 5) hx hb hts in_X2 hown hK hP 0 rfl rfl 0 (by decide) (hts _ q69) (fun _ h9 => h9) rfl dX2_init_2_73 ?_
    refine lv_iload hx hb dX2_init_2_76 (lv_at hl 2 rfl) ?_
    refine lv_aload_n hx hb dX2_init_2_78 rfl (lv_at hl 1 rfl) ?_
    refine lv_iload hx hb dX2_init_2_79 (lv_at hl 2 rfl) ?_
    refine lv_iconst (v := nI 4) hx hb dX2_init_2_81 (by decide) ?_
    refine lv_imul hx hb dX2_init_2_82 ?_
    refine sk_top (y := nI (4 * i)) ((by rw [pk_mul, Nat.mul_comm])) ?_
    refine lv_bipush (v := nI 10) hx hb dX2_init_2_83 (by decide) ?_
    refine lv_irem hx hb dX2_init_2_85 (by decide) ?_
    refine sk_top (y := nI ((4 * i + 0) % 10)) (pk_rem (a := 4 * i) (d := 10) (by omega) (by decide) (by decide)) ?_
    refine sk_bald (k := (4 * i + 0) % 10) hx hb hK hP 2 0 rfl rfl (Nat.mod_lt _ (by decide)) (by decide) dX2_init_2_86 ?_
    refine sk_top (y := sk_b (K ((4 * i + 0) % 10))) (hf _ (Nat.mod_lt _ (by decide))) ?_
    refine lv_sipush (v := nI 255) hx hb dX2_init_2_87 (by decide) ?_
    refine lv_iand hx hb dX2_init_2_90 ?_
    refine sk_top (y := nI (K ((4 * i + 0) % 10))) (sk_b255 (hK0.at _)) ?_
    refine sk_iast (k := i) hx hb hK hP hD hS 3 1 rfl rfl (by omega) (by decide) dX2_init_2_91 (fun H locs hP hD hS => ?_)
    have hP : va_P (dC, dI) vwCl [(h0, .inr (2, [.ref k0, .ref k1, .ref k2, .ref k3, .int en])), (hp, .inr (3, [.ref hk])), (hk, .inl (dk, 10, .inl (f))), (k0, .inl (d0, 32, .inl (upd (sk_fill (fun j => nI (K ((4 * j + 0) % 10))) (fun _ => 0) i) i (nI (K ((4 * i + 0) % 10)))))), (k1, .inl (d1, 32, .inl (sk_fill (fun j => nI (K ((4 * j + 1) % 10))) (fun _ => 0) i))), (k2, .inl (d2, 32, .inl (sk_fill (fun j => nI (K ((4 * j + 2) % 10))) (fun _ => 0) i))), (k3, .inl (d3, 32, .inl (sk_fill (fun j => nI (K ((4 * j + 3) % 10))) (fun _ => 0) i)))] H := hP
    have hD : va_D A [(h0, .inr (2, [.ref k0, .ref k1, .ref k2, .ref k3, .int en])), (hp, .inr (3, [.ref hk])), (hk, .inl (dk, 10, .inl (f))), (k0, .inl (d0, 32, .inl (upd (sk_fill (fun j => nI (K ((4 * j + 0) % 10))) (fun _ => 0) i) i (nI (K ((4 * i + 0) % 10)))))), (k1, .inl (d1, 32, .inl (sk_fill (fun j => nI (K ((4 * j + 1) % 10))) (fun _ => 0) i))), (k2, .inl (d2, 32, .inl (sk_fill (fun j => nI (K ((4 * j + 2) % 10))) (fun _ => 0) i))), (k3, .inl (d3, 32, .inl (sk_fill (fun j => nI (K ((4 * j + 3) % 10))) (fun _ => 0) i)))] := hD
    have hP : va_P (dC, dI) vwCl [(h0, .inr (2, [.ref k0, .ref k1, .ref k2, .ref k3, .int en])), (hp, .inr (3, [.ref hk])), (hk, .inl (dk, 10, .inl (f))), (k0, .inl (d0, 32, .inl (sk_fill (fun j => nI (K ((4 * j + 0) % 10))) (fun _ => 0) (i + 1)))), (k1, .inl (d1, 32, .inl (sk_fill (fun j => nI (K ((4 * j + 1) % 10))) (fun _ => 0) i))), (k2, .inl (d2, 32, .inl (sk_fill (fun j => nI (K ((4 * j + 2) % 10))) (fun _ => 0) i))), (k3, .inl (d3, 32, .inl (sk_fill (fun j => nI (K ((4 * j + 3) % 10))) (fun _ => 0) i)))] H := by rw [sk_fill_s (fun j => nI (K ((4 * j + 0) % 10))) (fun _ => 0) i rfl] at hP; exact hP
    have hD : va_D A [(h0, .inr (2, [.ref k0, .ref k1, .ref k2, .ref k3, .int en])), (hp, .inr (3, [.ref hk])), (hk, .inl (dk, 10, .inl (f))), (k0, .inl (d0, 32, .inl (sk_fill (fun j => nI (K ((4 * j + 0) % 10))) (fun _ => 0) (i + 1)))), (k1, .inl (d1, 32, .inl (sk_fill (fun j => nI (K ((4 * j + 1) % 10))) (fun _ => 0) i))), (k2, .inl (d2, 32, .inl (sk_fill (fun j => nI (K ((4 * j + 2) % 10))) (fun _ => 0) i))), (k3, .inl (d3, 32, .inl (sk_fill (fun j => nI (K ((4 * j + 3) % 10))) (fun _ => 0) i)))] := by rw [sk_fill_s (fun j => nI (K ((4 * j + 0) % 10))) (fun _ => 0) i rfl] at hD; exact hD
    refine lv_aload_n hx hb dX2_init_2_92 rfl (lv_at hl 0 rfl) ?_
    refine va_get (D := (dC, dI)) (ci := 2) (v := .ref k1) (C := RX2) (T := TX2) (N := 5) hx hb hts in_X2 hown hK hP 0 rfl rfl 1 (by decide) (hts _ q70) (fun _ h9 => h9) rfl dX2_init_2_93 ?_
    refine lv_iload hx hb dX2_init_2_96 (lv_at hl 2 rfl) ?_
    refine lv_aload_n hx hb dX2_init_2_98 rfl (lv_at hl 1 rfl) ?_
    refine lv_iload hx hb dX2_init_2_99 (lv_at hl 2 rfl) ?_
    refine lv_iconst (v := nI 4) hx hb dX2_init_2_101 (by decide) ?_
    refine lv_imul hx hb dX2_init_2_102 ?_
    refine sk_top (y := nI (4 * i)) ((by rw [pk_mul, Nat.mul_comm])) ?_
    refine lv_iconst (v := nI 1) hx hb dX2_init_2_103 (by decide) ?_
    refine lv_iadd hx hb dX2_init_2_104 ?_
    refine sk_top (y := nI (4 * i + 1)) (nI_add _ 1) ?_
    refine lv_bipush (v := nI 10) hx hb dX2_init_2_105 (by decide) ?_
    refine lv_irem hx hb dX2_init_2_107 (by decide) ?_
    refine sk_top (y := nI ((4 * i + 1) % 10)) (pk_rem (a := 4 * i + 1) (d := 10) (by omega) (by decide) (by decide)) ?_
    refine sk_bald (k := (4 * i + 1) % 10) hx hb hK hP 2 0 rfl rfl (Nat.mod_lt _ (by decide)) (by decide) dX2_init_2_108 ?_
    refine sk_top (y := sk_b (K ((4 * i + 1) % 10))) (hf _ (Nat.mod_lt _ (by decide))) ?_
    refine lv_sipush (v := nI 255) hx hb dX2_init_2_109 (by decide) ?_
    refine lv_iand hx hb dX2_init_2_112 ?_
    refine sk_top (y := nI (K ((4 * i + 1) % 10))) (sk_b255 (hK0.at _)) ?_
    refine sk_iast (k := i) hx hb hK hP hD hS 4 2 rfl rfl (by omega) (by decide) dX2_init_2_113 (fun H locs hP hD hS => ?_)
    have hP : va_P (dC, dI) vwCl [(h0, .inr (2, [.ref k0, .ref k1, .ref k2, .ref k3, .int en])), (hp, .inr (3, [.ref hk])), (hk, .inl (dk, 10, .inl (f))), (k0, .inl (d0, 32, .inl (sk_fill (fun j => nI (K ((4 * j + 0) % 10))) (fun _ => 0) (i + 1)))), (k1, .inl (d1, 32, .inl (upd (sk_fill (fun j => nI (K ((4 * j + 1) % 10))) (fun _ => 0) i) i (nI (K ((4 * i + 1) % 10)))))), (k2, .inl (d2, 32, .inl (sk_fill (fun j => nI (K ((4 * j + 2) % 10))) (fun _ => 0) i))), (k3, .inl (d3, 32, .inl (sk_fill (fun j => nI (K ((4 * j + 3) % 10))) (fun _ => 0) i)))] H := hP
    have hD : va_D A [(h0, .inr (2, [.ref k0, .ref k1, .ref k2, .ref k3, .int en])), (hp, .inr (3, [.ref hk])), (hk, .inl (dk, 10, .inl (f))), (k0, .inl (d0, 32, .inl (sk_fill (fun j => nI (K ((4 * j + 0) % 10))) (fun _ => 0) (i + 1)))), (k1, .inl (d1, 32, .inl (upd (sk_fill (fun j => nI (K ((4 * j + 1) % 10))) (fun _ => 0) i) i (nI (K ((4 * i + 1) % 10)))))), (k2, .inl (d2, 32, .inl (sk_fill (fun j => nI (K ((4 * j + 2) % 10))) (fun _ => 0) i))), (k3, .inl (d3, 32, .inl (sk_fill (fun j => nI (K ((4 * j + 3) % 10))) (fun _ => 0) i)))] := hD
    have hP : va_P (dC, dI) vwCl [(h0, .inr (2, [.ref k0, .ref k1, .ref k2, .ref k3, .int en])), (hp, .inr (3, [.ref hk])), (hk, .inl (dk, 10, .inl (f))), (k0, .inl (d0, 32, .inl (sk_fill (fun j => nI (K ((4 * j + 0) % 10))) (fun _ => 0) (i + 1)))), (k1, .inl (d1, 32, .inl (sk_fill (fun j => nI (K ((4 * j + 1) % 10))) (fun _ => 0) (i + 1)))), (k2, .inl (d2, 32, .inl (sk_fill (fun j => nI (K ((4 * j + 2) % 10))) (fun _ => 0) i))), (k3, .inl (d3, 32, .inl (sk_fill (fun j => nI (K ((4 * j + 3) % 10))) (fun _ => 0) i)))] H := by rw [sk_fill_s (fun j => nI (K ((4 * j + 1) % 10))) (fun _ => 0) i rfl] at hP; exact hP
    have hD : va_D A [(h0, .inr (2, [.ref k0, .ref k1, .ref k2, .ref k3, .int en])), (hp, .inr (3, [.ref hk])), (hk, .inl (dk, 10, .inl (f))), (k0, .inl (d0, 32, .inl (sk_fill (fun j => nI (K ((4 * j + 0) % 10))) (fun _ => 0) (i + 1)))), (k1, .inl (d1, 32, .inl (sk_fill (fun j => nI (K ((4 * j + 1) % 10))) (fun _ => 0) (i + 1)))), (k2, .inl (d2, 32, .inl (sk_fill (fun j => nI (K ((4 * j + 2) % 10))) (fun _ => 0) i))), (k3, .inl (d3, 32, .inl (sk_fill (fun j => nI (K ((4 * j + 3) % 10))) (fun _ => 0) i)))] := by rw [sk_fill_s (fun j => nI (K ((4 * j + 1) % 10))) (fun _ => 0) i rfl] at hD; exact hD
    refine lv_aload_n hx hb dX2_init_2_114 rfl (lv_at hl 0 rfl) ?_
    refine va_get (D := (dC, dI)) (ci := 2) (v := .ref k2) (C := RX2) (T := TX2) (N := 5) hx hb hts in_X2 hown hK hP 0 rfl rfl 2 (by decide) (hts _ q71) (fun _ h9 => h9) rfl dX2_init_2_115 ?_
    refine lv_iload hx hb dX2_init_2_118 (lv_at hl 2 rfl) ?_
    refine lv_aload_n hx hb dX2_init_2_120 rfl (lv_at hl 1 rfl) ?_
    refine lv_iload hx hb dX2_init_2_121 (lv_at hl 2 rfl) ?_
    refine lv_iconst (v := nI 4) hx hb dX2_init_2_123 (by decide) ?_
    refine lv_imul hx hb dX2_init_2_124 ?_
    refine sk_top (y := nI (4 * i)) ((by rw [pk_mul, Nat.mul_comm])) ?_
    refine lv_iconst (v := nI 2) hx hb dX2_init_2_125 (by decide) ?_
    refine lv_iadd hx hb dX2_init_2_126 ?_
    refine sk_top (y := nI (4 * i + 2)) (nI_add _ 2) ?_
    refine lv_bipush (v := nI 10) hx hb dX2_init_2_127 (by decide) ?_
    refine lv_irem hx hb dX2_init_2_129 (by decide) ?_
    refine sk_top (y := nI ((4 * i + 2) % 10)) (pk_rem (a := 4 * i + 2) (d := 10) (by omega) (by decide) (by decide)) ?_
    refine sk_bald (k := (4 * i + 2) % 10) hx hb hK hP 2 0 rfl rfl (Nat.mod_lt _ (by decide)) (by decide) dX2_init_2_130 ?_
    refine sk_top (y := sk_b (K ((4 * i + 2) % 10))) (hf _ (Nat.mod_lt _ (by decide))) ?_
    refine lv_sipush (v := nI 255) hx hb dX2_init_2_131 (by decide) ?_
    refine lv_iand hx hb dX2_init_2_134 ?_
    refine sk_top (y := nI (K ((4 * i + 2) % 10))) (sk_b255 (hK0.at _)) ?_
    refine sk_iast (k := i) hx hb hK hP hD hS 5 3 rfl rfl (by omega) (by decide) dX2_init_2_135 (fun H locs hP hD hS => ?_)
    have hP : va_P (dC, dI) vwCl [(h0, .inr (2, [.ref k0, .ref k1, .ref k2, .ref k3, .int en])), (hp, .inr (3, [.ref hk])), (hk, .inl (dk, 10, .inl (f))), (k0, .inl (d0, 32, .inl (sk_fill (fun j => nI (K ((4 * j + 0) % 10))) (fun _ => 0) (i + 1)))), (k1, .inl (d1, 32, .inl (sk_fill (fun j => nI (K ((4 * j + 1) % 10))) (fun _ => 0) (i + 1)))), (k2, .inl (d2, 32, .inl (upd (sk_fill (fun j => nI (K ((4 * j + 2) % 10))) (fun _ => 0) i) i (nI (K ((4 * i + 2) % 10)))))), (k3, .inl (d3, 32, .inl (sk_fill (fun j => nI (K ((4 * j + 3) % 10))) (fun _ => 0) i)))] H := hP
    have hD : va_D A [(h0, .inr (2, [.ref k0, .ref k1, .ref k2, .ref k3, .int en])), (hp, .inr (3, [.ref hk])), (hk, .inl (dk, 10, .inl (f))), (k0, .inl (d0, 32, .inl (sk_fill (fun j => nI (K ((4 * j + 0) % 10))) (fun _ => 0) (i + 1)))), (k1, .inl (d1, 32, .inl (sk_fill (fun j => nI (K ((4 * j + 1) % 10))) (fun _ => 0) (i + 1)))), (k2, .inl (d2, 32, .inl (upd (sk_fill (fun j => nI (K ((4 * j + 2) % 10))) (fun _ => 0) i) i (nI (K ((4 * i + 2) % 10)))))), (k3, .inl (d3, 32, .inl (sk_fill (fun j => nI (K ((4 * j + 3) % 10))) (fun _ => 0) i)))] := hD
    have hP : va_P (dC, dI) vwCl [(h0, .inr (2, [.ref k0, .ref k1, .ref k2, .ref k3, .int en])), (hp, .inr (3, [.ref hk])), (hk, .inl (dk, 10, .inl (f))), (k0, .inl (d0, 32, .inl (sk_fill (fun j => nI (K ((4 * j + 0) % 10))) (fun _ => 0) (i + 1)))), (k1, .inl (d1, 32, .inl (sk_fill (fun j => nI (K ((4 * j + 1) % 10))) (fun _ => 0) (i + 1)))), (k2, .inl (d2, 32, .inl (sk_fill (fun j => nI (K ((4 * j + 2) % 10))) (fun _ => 0) (i + 1)))), (k3, .inl (d3, 32, .inl (sk_fill (fun j => nI (K ((4 * j + 3) % 10))) (fun _ => 0) i)))] H := by rw [sk_fill_s (fun j => nI (K ((4 * j + 2) % 10))) (fun _ => 0) i rfl] at hP; exact hP
    have hD : va_D A [(h0, .inr (2, [.ref k0, .ref k1, .ref k2, .ref k3, .int en])), (hp, .inr (3, [.ref hk])), (hk, .inl (dk, 10, .inl (f))), (k0, .inl (d0, 32, .inl (sk_fill (fun j => nI (K ((4 * j + 0) % 10))) (fun _ => 0) (i + 1)))), (k1, .inl (d1, 32, .inl (sk_fill (fun j => nI (K ((4 * j + 1) % 10))) (fun _ => 0) (i + 1)))), (k2, .inl (d2, 32, .inl (sk_fill (fun j => nI (K ((4 * j + 2) % 10))) (fun _ => 0) (i + 1)))), (k3, .inl (d3, 32, .inl (sk_fill (fun j => nI (K ((4 * j + 3) % 10))) (fun _ => 0) i)))] := by rw [sk_fill_s (fun j => nI (K ((4 * j + 2) % 10))) (fun _ => 0) i rfl] at hD; exact hD
    refine lv_aload_n hx hb dX2_init_2_136 rfl (lv_at hl 0 rfl) ?_
    refine va_get (D := (dC, dI)) (ci := 2) (v := .ref k3) (C := RX2) (T := TX2) (N := 5) hx hb hts in_X2 hown hK hP 0 rfl rfl 3 (by decide) (hts _ q72) (fun _ h9 => h9) rfl dX2_init_2_137 ?_
    refine lv_iload hx hb dX2_init_2_140 (lv_at hl 2 rfl) ?_
    refine lv_aload_n hx hb dX2_init_2_142 rfl (lv_at hl 1 rfl) ?_
    refine lv_iload hx hb dX2_init_2_143 (lv_at hl 2 rfl) ?_
    refine lv_iconst (v := nI 4) hx hb dX2_init_2_145 (by decide) ?_
    refine lv_imul hx hb dX2_init_2_146 ?_
    refine sk_top (y := nI (4 * i)) ((by rw [pk_mul, Nat.mul_comm])) ?_
    refine lv_iconst (v := nI 3) hx hb dX2_init_2_147 (by decide) ?_
    refine lv_iadd hx hb dX2_init_2_148 ?_
    refine sk_top (y := nI (4 * i + 3)) (nI_add _ 3) ?_
    refine lv_bipush (v := nI 10) hx hb dX2_init_2_149 (by decide) ?_
    refine lv_irem hx hb dX2_init_2_151 (by decide) ?_
    refine sk_top (y := nI ((4 * i + 3) % 10)) (pk_rem (a := 4 * i + 3) (d := 10) (by omega) (by decide) (by decide)) ?_
    refine sk_bald (k := (4 * i + 3) % 10) hx hb hK hP 2 0 rfl rfl (Nat.mod_lt _ (by decide)) (by decide) dX2_init_2_152 ?_
    refine sk_top (y := sk_b (K ((4 * i + 3) % 10))) (hf _ (Nat.mod_lt _ (by decide))) ?_
    refine lv_sipush (v := nI 255) hx hb dX2_init_2_153 (by decide) ?_
    refine lv_iand hx hb dX2_init_2_156 ?_
    refine sk_top (y := nI (K ((4 * i + 3) % 10))) (sk_b255 (hK0.at _)) ?_
    refine sk_iast (k := i) hx hb hK hP hD hS 6 4 rfl rfl (by omega) (by decide) dX2_init_2_157 (fun H locs hP hD hS => ?_)
    have hP : va_P (dC, dI) vwCl [(h0, .inr (2, [.ref k0, .ref k1, .ref k2, .ref k3, .int en])), (hp, .inr (3, [.ref hk])), (hk, .inl (dk, 10, .inl (f))), (k0, .inl (d0, 32, .inl (sk_fill (fun j => nI (K ((4 * j + 0) % 10))) (fun _ => 0) (i + 1)))), (k1, .inl (d1, 32, .inl (sk_fill (fun j => nI (K ((4 * j + 1) % 10))) (fun _ => 0) (i + 1)))), (k2, .inl (d2, 32, .inl (sk_fill (fun j => nI (K ((4 * j + 2) % 10))) (fun _ => 0) (i + 1)))), (k3, .inl (d3, 32, .inl (upd (sk_fill (fun j => nI (K ((4 * j + 3) % 10))) (fun _ => 0) i) i (nI (K ((4 * i + 3) % 10))))))] H := hP
    have hD : va_D A [(h0, .inr (2, [.ref k0, .ref k1, .ref k2, .ref k3, .int en])), (hp, .inr (3, [.ref hk])), (hk, .inl (dk, 10, .inl (f))), (k0, .inl (d0, 32, .inl (sk_fill (fun j => nI (K ((4 * j + 0) % 10))) (fun _ => 0) (i + 1)))), (k1, .inl (d1, 32, .inl (sk_fill (fun j => nI (K ((4 * j + 1) % 10))) (fun _ => 0) (i + 1)))), (k2, .inl (d2, 32, .inl (sk_fill (fun j => nI (K ((4 * j + 2) % 10))) (fun _ => 0) (i + 1)))), (k3, .inl (d3, 32, .inl (upd (sk_fill (fun j => nI (K ((4 * j + 3) % 10))) (fun _ => 0) i) i (nI (K ((4 * i + 3) % 10))))))] := hD
    have hP : va_P (dC, dI) vwCl [(h0, .inr (2, [.ref k0, .ref k1, .ref k2, .ref k3, .int en])), (hp, .inr (3, [.ref hk])), (hk, .inl (dk, 10, .inl (f))), (k0, .inl (d0, 32, .inl (sk_fill (fun j => nI (K ((4 * j + 0) % 10))) (fun _ => 0) (i + 1)))), (k1, .inl (d1, 32, .inl (sk_fill (fun j => nI (K ((4 * j + 1) % 10))) (fun _ => 0) (i + 1)))), (k2, .inl (d2, 32, .inl (sk_fill (fun j => nI (K ((4 * j + 2) % 10))) (fun _ => 0) (i + 1)))), (k3, .inl (d3, 32, .inl (sk_fill (fun j => nI (K ((4 * j + 3) % 10))) (fun _ => 0) (i + 1))))] H := by rw [sk_fill_s (fun j => nI (K ((4 * j + 3) % 10))) (fun _ => 0) i rfl] at hP; exact hP
    have hD : va_D A [(h0, .inr (2, [.ref k0, .ref k1, .ref k2, .ref k3, .int en])), (hp, .inr (3, [.ref hk])), (hk, .inl (dk, 10, .inl (f))), (k0, .inl (d0, 32, .inl (sk_fill (fun j => nI (K ((4 * j + 0) % 10))) (fun _ => 0) (i + 1)))), (k1, .inl (d1, 32, .inl (sk_fill (fun j => nI (K ((4 * j + 1) % 10))) (fun _ => 0) (i + 1)))), (k2, .inl (d2, 32, .inl (sk_fill (fun j => nI (K ((4 * j + 2) % 10))) (fun _ => 0) (i + 1)))), (k3, .inl (d3, 32, .inl (sk_fill (fun j => nI (K ((4 * j + 3) % 10))) (fun _ => 0) (i + 1))))] := by rw [sk_fill_s (fun j => nI (K ((4 * j + 3) % 10))) (fun _ => 0) i rfl] at hD; exact hD
    refine lv_iinc (v := nI (i + 1)) (lv' := [(4, .int (nI (i + 1))), (0, .ref h0), (3, .ref hk)]) hx hb dX2_init_2_158 hl (k := 2) rfl (nI_1 i) (by decide) rfl (fun ls hl => ?_)
    refine lv_goto (tgt := 65) hx hb dX2_init_2_161 (by decide) ?_
    exact ih (i + 1) (by omega) H locs ls hP hD hS (lv_sub hl [1, 2, 0] rfl)
set_option maxHeartbeats 1000000 in
set_option maxRecDepth 100000 in
/-- SkipjackEngine.init: the four tables of key bytes -/
theorem eng_init (l : Launch) (dC : Nat → ClassId) (dI : Nat → Nat → Nat) (sz : Nat) (h0 hp hk : Nat) (dk : ClassId) (f : Nat → Int32) (K : Nat → Nat) (en : Int32) (hK0 : sk_K K) (hf : ∀ j, j < 10 → f j = sk_b (K j)) (hen : narrow .boolean (.int en) = .int en) (hen2 : fits .boolean (.int en) = true) : Met l yX2_init_2 (ws_ yX2_init_2 cX2_init_2 5 none) ({ frames := 1, cells := 4, slots := 128, locals := 20 }) (va_Pc [.ref h0, .int en, .ref hp] (fun U => U.heap.size = sz ∧ va_P (dC, dI) vwCl [(h0, .inr (2, [.null, .null, .null, .null, .int 0])), (hp, .inr (3, [.ref hk])), (hk, .inl (dk, 10, .inl (f)))] U.heap ∧ va_K (dC, dI) vwCl [(dk, .byte)] U ∧ va_D (fun _ => True) [(h0, .inr (2, [.null, .null, .null, .null, .int 0])), (hp, .inr (3, [.ref hk])), (hk, .inl (dk, 10, .inl (f)))])) (va_Qv (fun (_ : Unit) => True) (fun (_ : Unit) (t : State) => ∃ (k0 k1 k2 k3 : Nat) (d0 d1 d2 d3 : ClassId), va_P (dC, dI) vwCl [(h0, .inr (2, [.ref k0, .ref k1, .ref k2, .ref k3, .int en])), (hp, .inr (3, [.ref hk])), (hk, .inl (dk, 10, .inl (f))), (k0, .inl (d0, 32, .inl (sk_fill (fun j => nI (K ((4 * j + 0) % 10))) (fun _ => 0) 32))), (k1, .inl (d1, 32, .inl (sk_fill (fun j => nI (K ((4 * j + 1) % 10))) (fun _ => 0) 32))), (k2, .inl (d2, 32, .inl (sk_fill (fun j => nI (K ((4 * j + 2) % 10))) (fun _ => 0) 32))), (k3, .inl (d3, 32, .inl (sk_fill (fun j => nI (K ((4 * j + 3) % 10))) (fun _ => 0) 32)))] t.heap ∧ va_K (dC, dI) vwCl [(dk, .byte), (d0, .int), (d1, .int), (d2, .int), (d3, .int)] t ∧ va_D (va_A [(h0, .inr (2, [.null, .null, .null, .null, .int 0])), (hp, .inr (3, [.ref hk])), (hk, .inl (dk, 10, .inl (f)))] sz) [(h0, .inr (2, [.ref k0, .ref k1, .ref k2, .ref k3, .int en])), (hp, .inr (3, [.ref hk])), (hk, .inl (dk, 10, .inl (f))), (k0, .inl (d0, 32, .inl (sk_fill (fun j => nI (K ((4 * j + 0) % 10))) (fun _ => 0) 32))), (k1, .inl (d1, 32, .inl (sk_fill (fun j => nI (K ((4 * j + 1) % 10))) (fun _ => 0) 32))), (k2, .inl (d2, 32, .inl (sk_fill (fun j => nI (K ((4 * j + 2) % 10))) (fun _ => 0) 32))), (k3, .inl (d3, 32, .inl (sk_fill (fun j => nI (K ((4 * j + 3) % 10))) (fun _ => 0) 32)))]) (va_A [(h0, .inr (2, [.null, .null, .null, .null, .int 0])), (hp, .inr (3, [.ref hk])), (hk, .inl (dk, 10, .inl (f)))] sz)) 4 128 (va_A [(h0, .inr (2, [.null, .null, .null, .null, .int 0])), (hp, .inr (3, [.ref hk])), (hk, .inl (dk, 10, .inl (f)))] sz) := by
  refine Met.ofW (cc := cX2_init_2) (maxL := 5) (ret := none) (by decide) rfl ?_
  intro p e s m args below meth c s₁ BO hml hv
  obtain ⟨rfl, hsz, hP, hK, hD0⟩ := hv
  have hx := BO.exec
  have hb := BO.bytes
  have hr := BO.returns
  have hts := atoms_spec (ws := (ws_ yX2_init_2 cX2_init_2 5 none)) BO.pre
  have hts : ∀ w ∈ lw_all, w.before _ s = true := fun w h => hts w (List.mem_cons_of_mem _ h)
  have hown : s.vm.findClass RX2 = some m.cls := findClass_of_methodNamed BO.named
  have hlocks := BO.notSynchronized
  have hin := (name_of_methodNamed BO.named BO.method).1
  subst hsz
  have hD := hD0.self (sz := s.heap.size)
  generalize hAe : va_A [(h0, .inr (2, [.null, .null, .null, .null, .int 0])), (hp, .inr (3, [.ref hk])), (hk, .inl (dk, 10, .inl (f)))] s.heap.size = A at hD ⊢
  have hA : ∀ q : Nat, s.heap.size ≤ q → A q := fun q h => by rw [← hAe]; exact Or.inr h
  have hS : va_S A s.heap s.heap [] := va_S.rf
  have hP : va_P (dC, dI) vwCl [(h0, .inr (2, [.null, .null, .null, .null, .int 0])), (hp, .inr (3, [.ref hk])), (hk, .inl (dk, 10, .inl (f)))] s.heap := hP
  have hl := lv_entry ([.ref h0, .int en, .ref hp]) (n := 5) (Nat.le_of_ble_eq_true rfl)
  rw [lg_entry_eq]
  generalize (lg_sl ([.ref h0, .int en, .ref hp]) ++ List.replicate (5 - (lg_sl ([.ref h0, .int en, .ref hp])).length) Slot.unset).toArray = ls at hl ⊢
  have hl : lv_has ls 5 [(0, .ref h0), (1, .int en), (2, .ref hp)] := hl
  refine lv_aload_n hx hb dX2_init_2_0 rfl (lv_at hl 2 rfl) ?_
  refine va_instS (nm := RX3) hx hb hown (hts _ q114) (hK.1 3 _ rfl).2 (va_recv hK hP (ci := 3) (q0 := 1) rfl rfl) dX2_init_2_1 ?_
  refine lv_if_ne (tgt := 17) hx hb dX2_init_2_4 (by decide) (fun _ => ?_) (fun q => absurd q (by decide))
  refine lv_aload_n hx hb dX2_init_2_17 rfl (lv_at hl 2 rfl) ?_
  refine va_castS (nm := RX3) hx hb hown (hts _ q114) (hK.1 3 _ rfl).2 (va_recv hK hP (ci := 3) (q0 := 1) rfl rfl) dX2_init_2_18 ?_
  have hPc := hP.sub (ws' := [(hp, .inr (3, [.ref hk]))]) [1] rfl
  have hDc := hD.sub (ws' := [(hp, .inr (3, [.ref hk]))]) [1] (by decide) rfl
  have hKc := hK.sub (tys' := []) [] rfl
  have hFc := va_free (wc := [(hp, .inr (3, [.ref hk]))]) hD hS hA [1] rfl
  refine va_callr (va_runV (As := []) (rest := []) ⟨hx, hb, hml, hown, hts⟩ (kp_getKey l dC dI s.heap.size hp hk) (cwV 0 hts (lw_V q183 q184 q185 q12 q186) rfl rfl rfl (by decide +kernel) ⟨Nat.le_of_ble_eq_true rfl, Nat.le_of_ble_eq_true rfl⟩) ⟨fun a U g mk q => by obtain ⟨q0, q1, qP, qK, qD⟩ := q; exact ⟨q0, q1, qP, va_K.moved (u := U) (U := U.calling g mk a) (Vm.Alike.refl U.vm) qK, qD⟩, va_recv hKc hPc (ci := 3) (q0 := 0) rfl rfl, fun U hU hW => ⟨rfl, by rw [hU], by rw [hU]; exact hPc, va_K.moved hW.alike hKc, hDc.weaken (fun _ _ _ _ => trivial)⟩⟩ rfl rfl hl.1 rfl (lv_room (Nat.le_of_ble_eq_true rfl)) dX2_init_2_21 ⟨Nat.le_of_ble_eq_true rfl, Nat.le_of_ble_eq_true rfl⟩) hS (fun q _ h => hFc q h) hFc (fun uS hq tS H1 locs htS hvm hw hB hz1 hk1 hS => ?_)
  obtain ⟨eq_, hP1, hK1, hD1⟩ := hB
  rw [htS] at hP1
  obtain ⟨hP, hD⟩ := va_join (wr := [(h0, .inr (2, [.null, .null, .null, .null, .int 0])), (hk, .inl (dk, 10, .inl (f)))]) (w1 := [(hp, .inr (3, [.ref hk]))]) hP hD [1] [0, 2] rfl rfl (by decide) (by decide) hk1 hFc hP1 hD1
  generalize H1 = H at hP hS ⊢
  have hP : va_P (dC, dI) vwCl [(h0, .inr (2, [.null, .null, .null, .null, .int 0])), (hk, .inl (dk, 10, .inl (f))), (hp, .inr (3, [.ref hk]))] H := hP
  have hD : va_D A [(h0, .inr (2, [.null, .null, .null, .null, .int 0])), (hk, .inl (dk, 10, .inl (f))), (hp, .inr (3, [.ref hk]))] := hD
  refine W.widen (k := 0) (n := 0) (Nat.le_of_ble_eq_true rfl) (Nat.le_of_ble_eq_true rfl) ?_
  rw [eq_]
  refine lv_astore_n (lv' := [(3, .ref hk), (0, .ref h0), (1, .int en), (2, .ref hp)]) hx hb dX2_init_2_24 rfl hl (by decide) rfl (fun ls hl => ?_)
  refine lv_aload_n hx hb dX2_init_2_25 rfl (lv_at hl 1 rfl) ?_
  refine lv_iload_n hx hb dX2_init_2_26 rfl (lv_at hl 2 rfl) ?_
  refine va_put (D := (dC, dI)) (ci := 2) (v := .int en) (ty := .boolean) (C := RX2) (T := TX2) (N := 5) hx hb hts in_X2 tyX2 tyX2_ok nmX2 hown hK hP hD hS 0 rfl rfl 4 (by decide) (hts _ q73) (fun _ h9 => h9) rfl (by decide +kernel) hen hen2 (Nat.le_of_ble_eq_true rfl) dX2_init_2_27 (fun H locs hP hD hS => ?_)
  have hP : va_P (dC, dI) vwCl [(h0, .inr (2, [.null, .null, .null, .null, .int en])), (hk, .inl (dk, 10, .inl (f))), (hp, .inr (3, [.ref hk]))] H := hP
  have hD : va_D A [(h0, .inr (2, [.null, .null, .null, .null, .int en])), (hk, .inl (dk, 10, .inl (f))), (hp, .inr (3, [.ref hk]))] := hD
  refine lv_aload_n hx hb dX2_init_2_30 rfl (lv_at hl 1 rfl) ?_
  refine lv_bipush (v := nI 32) hx hb dX2_init_2_31 (by decide) ?_
  refine va_newa (atype := .int) (N' := 32) (a0 := (32, .inl (fun _ => 0))) hx hb (hts _ q212) rfl hK hP hD hS hA (fun _ => rfl) (by decide) (by decide) (by decide) (Nat.le_of_ble_eq_true rfl) (Nat.le_of_ble_eq_true rfl) dX2_init_2_33 (fun k0 d0 H hK hP hD hS => ?_)
  have hP : va_P (dC, dI) vwCl [(h0, .inr (2, [.null, .null, .null, .null, .int en])), (hk, .inl (dk, 10, .inl (f))), (hp, .inr (3, [.ref hk])), (k0, .inl (d0, 32, .inl (fun _ => 0)))] H := hP
  have hD : va_D A [(h0, .inr (2, [.null, .null, .null, .null, .int en])), (hk, .inl (dk, 10, .inl (f))), (hp, .inr (3, [.ref hk])), (k0, .inl (d0, 32, .inl (fun _ => 0)))] := hD
  have hK : va_K (dC, dI) vwCl [(dk, .byte), (d0, .int)] s := hK
  refine W.widen (k := 1) (n := 32) (Nat.le_of_ble_eq_true rfl) (Nat.le_of_ble_eq_true rfl) ?_
  refine va_put (D := (dC, dI)) (ci := 2) (v := .ref k0) (ty := .array .int) (C := RX2) (T := TX2) (N := 5) hx hb hts in_X2 tyX2 tyX2_ok nmX2 hown hK hP hD hS 0 rfl rfl 0 (by decide) (hts _ q69) (fun _ h9 => h9) rfl (by decide +kernel) rfl rfl (Nat.le_of_ble_eq_true rfl) dX2_init_2_35 (fun H locs hP hD hS => ?_)
  have hP : va_P (dC, dI) vwCl [(h0, .inr (2, [.ref k0, .null, .null, .null, .int en])), (hk, .inl (dk, 10, .inl (f))), (hp, .inr (3, [.ref hk])), (k0, .inl (d0, 32, .inl (fun _ => 0)))] H := hP
  have hD : va_D A [(h0, .inr (2, [.ref k0, .null, .null, .null, .int en])), (hk, .inl (dk, 10, .inl (f))), (hp, .inr (3, [.ref hk])), (k0, .inl (d0, 32, .inl (fun _ => 0)))] := hD
  refine lv_aload_n hx hb dX2_init_2_38 rfl (lv_at hl 1 rfl) ?_
  refine lv_bipush (v := nI 32) hx hb dX2_init_2_39 (by decide) ?_
  refine va_newa (atype := .int) (N' := 32) (a0 := (32, .inl (fun _ => 0))) hx hb (hts _ q212) rfl hK hP hD hS hA (fun _ => rfl) (by decide) (by decide) (by decide) (Nat.le_of_ble_eq_true rfl) (Nat.le_of_ble_eq_true rfl) dX2_init_2_41 (fun k1 d1 H hK hP hD hS => ?_)
  have hP : va_P (dC, dI) vwCl [(h0, .inr (2, [.ref k0, .null, .null, .null, .int en])), (hk, .inl (dk, 10, .inl (f))), (hp, .inr (3, [.ref hk])), (k0, .inl (d0, 32, .inl (fun _ => 0))), (k1, .inl (d1, 32, .inl (fun _ => 0)))] H := hP
  have hD : va_D A [(h0, .inr (2, [.ref k0, .null, .null, .null, .int en])), (hk, .inl (dk, 10, .inl (f))), (hp, .inr (3, [.ref hk])), (k0, .inl (d0, 32, .inl (fun _ => 0))), (k1, .inl (d1, 32, .inl (fun _ => 0)))] := hD
  have hK : va_K (dC, dI) vwCl [(dk, .byte), (d0, .int), (d1, .int)] s := hK
  refine W.widen (k := 2) (n := 64) (Nat.le_of_ble_eq_true rfl) (Nat.le_of_ble_eq_true rfl) ?_
  refine va_put (D := (dC, dI)) (ci := 2) (v := .ref k1) (ty := .array .int) (C := RX2) (T := TX2) (N := 5) hx hb hts in_X2 tyX2 tyX2_ok nmX2 hown hK hP hD hS 0 rfl rfl 1 (by decide) (hts _ q70) (fun _ h9 => h9) rfl (by decide +kernel) rfl rfl (Nat.le_of_ble_eq_true rfl) dX2_init_2_43 (fun H locs hP hD hS => ?_)
  have hP : va_P (dC, dI) vwCl [(h0, .inr (2, [.ref k0, .ref k1, .null, .null, .int en])), (hk, .inl (dk, 10, .inl (f))), (hp, .inr (3, [.ref hk])), (k0, .inl (d0, 32, .inl (fun _ => 0))), (k1, .inl (d1, 32, .inl (fun _ => 0)))] H := hP
  have hD : va_D A [(h0, .inr (2, [.ref k0, .ref k1, .null, .null, .int en])), (hk, .inl (dk, 10, .inl (f))), (hp, .inr (3, [.ref hk])), (k0, .inl (d0, 32, .inl (fun _ => 0))), (k1, .inl (d1, 32, .inl (fun _ => 0)))] := hD
  refine lv_aload_n hx hb dX2_init_2_46 rfl (lv_at hl 1 rfl) ?_
  refine lv_bipush (v := nI 32) hx hb dX2_init_2_47 (by decide) ?_
  refine va_newa (atype := .int) (N' := 32) (a0 := (32, .inl (fun _ => 0))) hx hb (hts _ q212) rfl hK hP hD hS hA (fun _ => rfl) (by decide) (by decide) (by decide) (Nat.le_of_ble_eq_true rfl) (Nat.le_of_ble_eq_true rfl) dX2_init_2_49 (fun k2 d2 H hK hP hD hS => ?_)
  have hP : va_P (dC, dI) vwCl [(h0, .inr (2, [.ref k0, .ref k1, .null, .null, .int en])), (hk, .inl (dk, 10, .inl (f))), (hp, .inr (3, [.ref hk])), (k0, .inl (d0, 32, .inl (fun _ => 0))), (k1, .inl (d1, 32, .inl (fun _ => 0))), (k2, .inl (d2, 32, .inl (fun _ => 0)))] H := hP
  have hD : va_D A [(h0, .inr (2, [.ref k0, .ref k1, .null, .null, .int en])), (hk, .inl (dk, 10, .inl (f))), (hp, .inr (3, [.ref hk])), (k0, .inl (d0, 32, .inl (fun _ => 0))), (k1, .inl (d1, 32, .inl (fun _ => 0))), (k2, .inl (d2, 32, .inl (fun _ => 0)))] := hD
  have hK : va_K (dC, dI) vwCl [(dk, .byte), (d0, .int), (d1, .int), (d2, .int)] s := hK
  refine W.widen (k := 3) (n := 96) (Nat.le_of_ble_eq_true rfl) (Nat.le_of_ble_eq_true rfl) ?_
  refine va_put (D := (dC, dI)) (ci := 2) (v := .ref k2) (ty := .array .int) (C := RX2) (T := TX2) (N := 5) hx hb hts in_X2 tyX2 tyX2_ok nmX2 hown hK hP hD hS 0 rfl rfl 2 (by decide) (hts _ q71) (fun _ h9 => h9) rfl (by decide +kernel) rfl rfl (Nat.le_of_ble_eq_true rfl) dX2_init_2_51 (fun H locs hP hD hS => ?_)
  have hP : va_P (dC, dI) vwCl [(h0, .inr (2, [.ref k0, .ref k1, .ref k2, .null, .int en])), (hk, .inl (dk, 10, .inl (f))), (hp, .inr (3, [.ref hk])), (k0, .inl (d0, 32, .inl (fun _ => 0))), (k1, .inl (d1, 32, .inl (fun _ => 0))), (k2, .inl (d2, 32, .inl (fun _ => 0)))] H := hP
  have hD : va_D A [(h0, .inr (2, [.ref k0, .ref k1, .ref k2, .null, .int en])), (hk, .inl (dk, 10, .inl (f))), (hp, .inr (3, [.ref hk])), (k0, .inl (d0, 32, .inl (fun _ => 0))), (k1, .inl (d1, 32, .inl (fun _ => 0))), (k2, .inl (d2, 32, .inl (fun _ => 0)))] := hD
  refine lv_aload_n hx hb dX2_init_2_54 rfl (lv_at hl 1 rfl) ?_
  refine lv_bipush (v := nI 32) hx hb dX2_init_2_55 (by decide) ?_
  refine va_newa (atype := .int) (N' := 32) (a0 := (32, .inl (fun _ => 0))) hx hb (hts _ q212) rfl hK hP hD hS hA (fun _ => rfl) (by decide) (by decide) (by decide) (Nat.le_of_ble_eq_true rfl) (Nat.le_of_ble_eq_true rfl) dX2_init_2_57 (fun k3 d3 H hK hP hD hS => ?_)
  have hP : va_P (dC, dI) vwCl [(h0, .inr (2, [.ref k0, .ref k1, .ref k2, .null, .int en])), (hk, .inl (dk, 10, .inl (f))), (hp, .inr (3, [.ref hk])), (k0, .inl (d0, 32, .inl (fun _ => 0))), (k1, .inl (d1, 32, .inl (fun _ => 0))), (k2, .inl (d2, 32, .inl (fun _ => 0))), (k3, .inl (d3, 32, .inl (fun _ => 0)))] H := hP
  have hD : va_D A [(h0, .inr (2, [.ref k0, .ref k1, .ref k2, .null, .int en])), (hk, .inl (dk, 10, .inl (f))), (hp, .inr (3, [.ref hk])), (k0, .inl (d0, 32, .inl (fun _ => 0))), (k1, .inl (d1, 32, .inl (fun _ => 0))), (k2, .inl (d2, 32, .inl (fun _ => 0))), (k3, .inl (d3, 32, .inl (fun _ => 0)))] := hD
  have hK : va_K (dC, dI) vwCl [(dk, .byte), (d0, .int), (d1, .int), (d2, .int), (d3, .int)] s := hK
  refine W.widen (k := 4) (n := 128) (Nat.le_of_ble_eq_true rfl) (Nat.le_of_ble_eq_true rfl) ?_
  refine va_put (D := (dC, dI)) (ci := 2) (v := .ref k3) (ty := .array .int) (C := RX2) (T := TX2) (N := 5) hx hb hts in_X2 tyX2 tyX2_ok nmX2 hown hK hP hD hS 0 rfl rfl 3 (by decide) (hts _ q72) (fun _ h9 => h9) rfl (by decide +kernel) rfl rfl (Nat.le_of_ble_eq_true rfl) dX2_init_2_59 (fun H locs hP hD hS => ?_)
  have hP : va_P (dC, dI) vwCl [(h0, .inr (2, [.ref k0, .ref k1, .ref k2, .ref k3, .int en])), (hk, .inl (dk, 10, .inl (f))), (hp, .inr (3, [.ref hk])), (k0, .inl (d0, 32, .inl (fun _ => 0))), (k1, .inl (d1, 32, .inl (fun _ => 0))), (k2, .inl (d2, 32, .inl (fun _ => 0))), (k3, .inl (d3, 32, .inl (fun _ => 0)))] H := hP
  have hD : va_D A [(h0, .inr (2, [.ref k0, .ref k1, .ref k2, .ref k3, .int en])), (hk, .inl (dk, 10, .inl (f))), (hp, .inr (3, [.ref hk])), (k0, .inl (d0, 32, .inl (fun _ => 0))), (k1, .inl (d1, 32, .inl (fun _ => 0))), (k2, .inl (d2, 32, .inl (fun _ => 0))), (k3, .inl (d3, 32, .inl (fun _ => 0)))] := hD
  have hP : va_P (dC, dI) vwCl [(h0, .inr (2, [.ref k0, .ref k1, .ref k2, .ref k3, .int en])), (hk, .inl (dk, 10, .inl (f))), (hp, .inr (3, [.ref hk])), (k0, .inl (d0, 32, .inl (sk_fill (fun j => nI (K ((4 * j + 0) % 10))) (fun _ => 0) 0))), (k1, .inl (d1, 32, .inl (fun _ => 0))), (k2, .inl (d2, 32, .inl (fun _ => 0))), (k3, .inl (d3, 32, .inl (fun _ => 0)))] H := by rw [← sk_fill_0 (fun j => nI (K ((4 * j + 0) % 10))) (fun _ => 0)]; exact hP
  have hD : va_D A [(h0, .inr (2, [.ref k0, .ref k1, .ref k2, .ref k3, .int en])), (hk, .inl (dk, 10, .inl (f))), (hp, .inr (3, [.ref hk])), (k0, .inl (d0, 32, .inl (sk_fill (fun j => nI (K ((4 * j + 0) % 10))) (fun _ => 0) 0))), (k1, .inl (d1, 32, .inl (fun _ => 0))), (k2, .inl (d2, 32, .inl (fun _ => 0))), (k3, .inl (d3, 32, .inl (fun _ => 0)))] := by rw [← sk_fill_0 (fun j => nI (K ((4 * j + 0) % 10))) (fun _ => 0)]; exact hD
  have hP : va_P (dC, dI) vwCl [(h0, .inr (2, [.ref k0, .ref k1, .ref k2, .ref k3, .int en])), (hk, .inl (dk, 10, .inl (f))), (hp, .inr (3, [.ref hk])), (k0, .inl (d0, 32, .inl (sk_fill (fun j => nI (K ((4 * j + 0) % 10))) (fun _ => 0) 0))), (k1, .inl (d1, 32, .inl (sk_fill (fun j => nI (K ((4 * j + 1) % 10))) (fun _ => 0) 0))), (k2, .inl (d2, 32, .inl (fun _ => 0))), (k3, .inl (d3, 32, .inl (fun _ => 0)))] H := by rw [← sk_fill_0 (fun j => nI (K ((4 * j + 1) % 10))) (fun _ => 0)]; exact hP
  have hD : va_D A [(h0, .inr (2, [.ref k0, .ref k1, .ref k2, .ref k3, .int en])), (hk, .inl (dk, 10, .inl (f))), (hp, .inr (3, [.ref hk])), (k0, .inl (d0, 32, .inl (sk_fill (fun j => nI (K ((4 * j + 0) % 10))) (fun _ => 0) 0))), (k1, .inl (d1, 32, .inl (sk_fill (fun j => nI (K ((4 * j + 1) % 10))) (fun _ => 0) 0))), (k2, .inl (d2, 32, .inl (fun _ => 0))), (k3, .inl (d3, 32, .inl (fun _ => 0)))] := by rw [← sk_fill_0 (fun j => nI (K ((4 * j + 1) % 10))) (fun _ => 0)]; exact hD
  have hP : va_P (dC, dI) vwCl [(h0, .inr (2, [.ref k0, .ref k1, .ref k2, .ref k3, .int en])), (hk, .inl (dk, 10, .inl (f))), (hp, .inr (3, [.ref hk])), (k0, .inl (d0, 32, .inl (sk_fill (fun j => nI (K ((4 * j + 0) % 10))) (fun _ => 0) 0))), (k1, .inl (d1, 32, .inl (sk_fill (fun j => nI (K ((4 * j + 1) % 10))) (fun _ => 0) 0))), (k2, .inl (d2, 32, .inl (sk_fill (fun j => nI (K ((4 * j + 2) % 10))) (fun _ => 0) 0))), (k3, .inl (d3, 32, .inl (fun _ => 0)))] H := by rw [← sk_fill_0 (fun j => nI (K ((4 * j + 2) % 10))) (fun _ => 0)]; exact hP
  have hD : va_D A [(h0, .inr (2, [.ref k0, .ref k1, .ref k2, .ref k3, .int en])), (hk, .inl (dk, 10, .inl (f))), (hp, .inr (3, [.ref hk])), (k0, .inl (d0, 32, .inl (sk_fill (fun j => nI (K ((4 * j + 0) % 10))) (fun _ => 0) 0))), (k1, .inl (d1, 32, .inl (sk_fill (fun j => nI (K ((4 * j + 1) % 10))) (fun _ => 0) 0))), (k2, .inl (d2, 32, .inl (sk_fill (fun j => nI (K ((4 * j + 2) % 10))) (fun _ => 0) 0))), (k3, .inl (d3, 32, .inl (fun _ => 0)))] := by rw [← sk_fill_0 (fun j => nI (K ((4 * j + 2) % 10))) (fun _ => 0)]; exact hD
  have hP : va_P (dC, dI) vwCl [(h0, .inr (2, [.ref k0, .ref k1, .ref k2, .ref k3, .int en])), (hk, .inl (dk, 10, .inl (f))), (hp, .inr (3, [.ref hk])), (k0, .inl (d0, 32, .inl (sk_fill (fun j => nI (K ((4 * j + 0) % 10))) (fun _ => 0) 0))), (k1, .inl (d1, 32, .inl (sk_fill (fun j => nI (K ((4 * j + 1) % 10))) (fun _ => 0) 0))), (k2, .inl (d2, 32, .inl (sk_fill (fun j => nI (K ((4 * j + 2) % 10))) (fun _ => 0) 0))), (k3, .inl (d3, 32, .inl (sk_fill (fun j => nI (K ((4 * j + 3) % 10))) (fun _ => 0) 0)))] H := by rw [← sk_fill_0 (fun j => nI (K ((4 * j + 3) % 10))) (fun _ => 0)]; exact hP
  have hD : va_D A [(h0, .inr (2, [.ref k0, .ref k1, .ref k2, .ref k3, .int en])), (hk, .inl (dk, 10, .inl (f))), (hp, .inr (3, [.ref hk])), (k0, .inl (d0, 32, .inl (sk_fill (fun j => nI (K ((4 * j + 0) % 10))) (fun _ => 0) 0))), (k1, .inl (d1, 32, .inl (sk_fill (fun j => nI (K ((4 * j + 1) % 10))) (fun _ => 0) 0))), (k2, .inl (d2, 32, .inl (sk_fill (fun j => nI (K ((4 * j + 2) % 10))) (fun _ => 0) 0))), (k3, .inl (d3, 32, .inl (sk_fill (fun j => nI (K ((4 * j + 3) % 10))) (fun _ => 0) 0)))] := by rw [← sk_fill_0 (fun j => nI (K ((4 * j + 3) % 10))) (fun _ => 0)]; exact hD
  refine lv_iconst (v := nI 0) hx hb dX2_init_2_62 (by decide) ?_
  refine lv_istore (lv' := [(4, .int (nI 0)), (3, .ref hk), (0, .ref h0), (1, .int en), (2, .ref hp)]) hx hb dX2_init_2_63 hl (by decide) rfl (fun ls hl => ?_)
  have hP := hP.sub (ws' := [(h0, .inr (2, [.ref k0, .ref k1, .ref k2, .ref k3, .int en])), (hp, .inr (3, [.ref hk])), (hk, .inl (dk, 10, .inl (f))), (k0, .inl (d0, 32, .inl (sk_fill (fun j => nI (K ((4 * j + 0) % 10))) (fun _ => 0) 0))), (k1, .inl (d1, 32, .inl (sk_fill (fun j => nI (K ((4 * j + 1) % 10))) (fun _ => 0) 0))), (k2, .inl (d2, 32, .inl (sk_fill (fun j => nI (K ((4 * j + 2) % 10))) (fun _ => 0) 0))), (k3, .inl (d3, 32, .inl (sk_fill (fun j => nI (K ((4 * j + 3) % 10))) (fun _ => 0) 0)))]) [0, 2, 1, 3, 4, 5, 6] rfl
  have hD := hD.sub (ws' := [(h0, .inr (2, [.ref k0, .ref k1, .ref k2, .ref k3, .int en])), (hp, .inr (3, [.ref hk])), (hk, .inl (dk, 10, .inl (f))), (k0, .inl (d0, 32, .inl (sk_fill (fun j => nI (K ((4 * j + 0) % 10))) (fun _ => 0) 0))), (k1, .inl (d1, 32, .inl (sk_fill (fun j => nI (K ((4 * j + 1) % 10))) (fun _ => 0) 0))), (k2, .inl (d2, 32, .inl (sk_fill (fun j => nI (K ((4 * j + 2) % 10))) (fun _ => 0) 0))), (k3, .inl (d3, 32, .inl (sk_fill (fun j => nI (K ((4 * j + 3) % 10))) (fun _ => 0) 0)))]) [0, 2, 1, 3, 4, 5, 6] (by decide) rfl
  have hK := hK.sub (tys' := [(dk, .byte), (d0, .int), (d1, .int), (d2, .int), (d3, .int)]) [0, 1, 2, 3, 4] rfl
  refine eng_init_lp h0 hp hk k0 k1 k2 k3 dk d0 d1 d2 d3 f K en hx hb hown hts hK hK0 hf ?_ 32 0 (by decide) _ _ ls hP hD hS (lv_sub hl [2, 1, 0] rfl)
  intro H locs ls hP hD hS hl
  have hP9 := hP.sub (ws' := [(h0, .inr (2, [.ref k0, .ref k1, .ref k2, .ref k3, .int en])), (hp, .inr (3, [.ref hk])), (hk, .inl (dk, 10, .inl (f))), (k0, .inl (d0, 32, .inl (sk_fill (fun j => nI (K ((4 * j + 0) % 10))) (fun _ => 0) 32))), (k1, .inl (d1, 32, .inl (sk_fill (fun j => nI (K ((4 * j + 1) % 10))) (fun _ => 0) 32))), (k2, .inl (d2, 32, .inl (sk_fill (fun j => nI (K ((4 * j + 2) % 10))) (fun _ => 0) 32))), (k3, .inl (d3, 32, .inl (sk_fill (fun j => nI (K ((4 * j + 3) % 10))) (fun _ => 0) 32)))]) [0, 1, 2, 3, 4, 5, 6] rfl
  have hD9 := hD.sub (ws' := [(h0, .inr (2, [.ref k0, .ref k1, .ref k2, .ref k3, .int en])), (hp, .inr (3, [.ref hk])), (hk, .inl (dk, 10, .inl (f))), (k0, .inl (d0, 32, .inl (sk_fill (fun j => nI (K ((4 * j + 0) % 10))) (fun _ => 0) 32))), (k1, .inl (d1, 32, .inl (sk_fill (fun j => nI (K ((4 * j + 1) % 10))) (fun _ => 0) 32))), (k2, .inl (d2, 32, .inl (sk_fill (fun j => nI (K ((4 * j + 2) % 10))) (fun _ => 0) 32))), (k3, .inl (d3, 32, .inl (sk_fill (fun j => nI (K ((4 * j + 3) % 10))) (fun _ => 0) 32)))]) [0, 1, 2, 3, 4, 5, 6] (by decide) rfl
  have hK9 := hK.sub (tys' := [(dk, .byte), (d0, .int), (d1, .int), (d2, .int), (d3, .int)]) [0, 1, 2, 3, 4] rfl
  exact W.vret hx hb hr (fun t ht hW => ⟨⟨(), rfl, trivial, k0, k1, k2, k3, d0, d1, d2, d3, by rw [ht]; exact hP9, va_K.moved hW.alike hK9, hD9⟩, hS.F ht⟩) hS.2.2 dX2_init_2_164
set_option maxHeartbeats 1000000 in
set_option maxRecDepth 100000 in
/-- SkipjackEngine.X2_g -/
theorem eng_g (l : Launch) (dC : Nat → ClassId) (dI : Nat → Nat → Nat) (sz : Nat) (h0 k0 k1 k2 k3 : Nat) (d0 d1 d2 d3 : ClassId) (e0 e1 e2 e3 : Nat → Int32) (en : Int32) (K : Nat → Nat) (tE : Nat) (k : Nat) (w : Int32) (hK0 : sk_K K) (he0 : ∀ j, j < 32 → e0 j = nI (K ((4 * j + 0) % 10))) (he1 : ∀ j, j < 32 → e1 j = nI (K ((4 * j + 1) % 10))) (he2 : ∀ j, j < 32 → e2 j = nI (K ((4 * j + 2) % 10))) (he3 : ∀ j, j < 32 → e3 j = nI (K ((4 * j + 3) % 10))) (hk : k < 32) : Met l yX2_g (ws_ yX2_g cX2_g 9 (some .int)) ({ frames := 0, cells := 0, slots := 0, locals := 0 }) (va_Pc [.ref h0, .int (nI k), .int w] (fun U => U.heap.size = sz ∧ va_P (dC, dI) vwCl [(h0, .inr (2, [.ref k0, .ref k1, .ref k2, .ref k3, .int en])), (k0, .inl (d0, 32, .inl (e0))), (k1, .inl (d1, 32, .inl (e1))), (k2, .inl (d2, 32, .inl (e2))), (k3, .inl (d3, 32, .inl (e3)))] U.heap ∧ va_K (dC, dI) vwCl [(d0, .int), (d1, .int), (d2, .int), (d3, .int)] U ∧ va_D (fun _ => True) [(h0, .inr (2, [.ref k0, .ref k1, .ref k2, .ref k3, .int en])), (k0, .inl (d0, 32, .inl (e0))), (k1, .inl (d1, 32, .inl (e1))), (k2, .inl (d2, 32, .inl (e2))), (k3, .inl (d3, 32, .inl (e3)))] ∧ sk_TE tE (va_A [(h0, .inr (2, [.ref k0, .ref k1, .ref k2, .ref k3, .int en])), (k0, .inl (d0, 32, .inl (e0))), (k1, .inl (d1, 32, .inl (e1))), (k2, .inl (d2, 32, .inl (e2))), (k3, .inl (d3, 32, .inl (e3)))] sz) U)) (va_Qi (fun (r : Int32) (_ : Unit) => r = nI (sk_g K k (sk_lo w))) (fun (_ : Unit) (t : State) => va_P (dC, dI) vwCl [(h0, .inr (2, [.ref k0, .ref k1, .ref k2, .ref k3, .int en])), (k0, .inl (d0, 32, .inl (e0))), (k1, .inl (d1, 32, .inl (e1))), (k2, .inl (d2, 32, .inl (e2))), (k3, .inl (d3, 32, .inl (e3)))] t.heap ∧ va_K (dC, dI) vwCl [(d0, .int), (d1, .int), (d2, .int), (d3, .int)] t ∧ va_D (va_A [(h0, .inr (2, [.ref k0, .ref k1, .ref k2, .ref k3, .int en])), (k0, .inl (d0, 32, .inl (e0))), (k1, .inl (d1, 32, .inl (e1))), (k2, .inl (d2, 32, .inl (e2))), (k3, .inl (d3, 32, .inl (e3)))] sz) [(h0, .inr (2, [.ref k0, .ref k1, .ref k2, .ref k3, .int en])), (k0, .inl (d0, 32, .inl (e0))), (k1, .inl (d1, 32, .inl (e1))), (k2, .inl (d2, 32, .inl (e2))), (k3, .inl (d3, 32, .inl (e3)))]) (va_A [(h0, .inr (2, [.ref k0, .ref k1, .ref k2, .ref k3, .int en])), (k0, .inl (d0, 32, .inl (e0))), (k1, .inl (d1, 32, .inl (e1))), (k2, .inl (d2, 32, .inl (e2))), (k3, .inl (d3, 32, .inl (e3)))] sz)) 0 0 (va_A [(h0, .inr (2, [.ref k0, .ref k1, .ref k2, .ref k3, .int en])), (k0, .inl (d0, 32, .inl (e0))), (k1, .inl (d1, 32, .inl (e1))), (k2, .inl (d2, 32, .inl (e2))), (k3, .inl (d3, 32, .inl (e3)))] sz) := by
  refine Met.ofW (cc := cX2_g) (maxL := 9) (ret := (some .int)) (by decide) rfl ?_
  intro p e s m args below meth c s₁ BO hml hv
  obtain ⟨rfl, hsz, hP, hK, hD0, hT⟩ := hv
  have hx := BO.exec
  have hb := BO.bytes
  have hr := BO.returns
  have hts := atoms_spec (ws := (ws_ yX2_g cX2_g 9 (some .int))) BO.pre
  have hts : ∀ w ∈ lw_all, w.before _ s = true := fun w h => hts w (List.mem_cons_of_mem _ h)
  have hown : s.vm.findClass RX2 = some m.cls := findClass_of_methodNamed BO.named
  have hlocks := BO.notSynchronized
  subst hsz
  have hD := hD0.self (sz := s.heap.size)
  generalize hAe : va_A [(h0, .inr (2, [.ref k0, .ref k1, .ref k2, .ref k3, .int en])), (k0, .inl (d0, 32, .inl (e0))), (k1, .inl (d1, 32, .inl (e1))), (k2, .inl (d2, 32, .inl (e2))), (k3, .inl (d3, 32, .inl (e3)))] s.heap.size = A at hD hT ⊢
  have hA : ∀ q : Nat, s.heap.size ≤ q → A q := fun q h => by rw [← hAe]; exact Or.inr h
  have hS : va_S A s.heap s.heap [] := va_S.rf
  have hP : va_P (dC, dI) vwCl [(h0, .inr (2, [.ref k0, .ref k1, .ref k2, .ref k3, .int en])), (k0, .inl (d0, 32, .inl (e0))), (k1, .inl (d1, 32, .inl (e1))), (k2, .inl (d2, 32, .inl (e2))), (k3, .inl (d3, 32, .inl (e3)))] s.heap := hP
  have hl := lv_entry ([.ref h0, .int (nI k), .int w]) (n := 9) (Nat.le_of_ble_eq_true rfl)
  rw [lg_entry_eq]
  generalize (lg_sl ([.ref h0, .int (nI k), .int w]) ++ List.replicate (9 - (lg_sl ([.ref h0, .int (nI k), .int w])).length) Slot.unset).toArray = ls at hl ⊢
  have hl : lv_has ls 9 [(0, .ref h0), (1, .int (nI k)), (2, .int w)] := hl
  have hb0 : ∀ j, (sk_gp K k j (sk_lo w / 256, sk_lo w % 256)).1 < 256 ∧ (sk_gp K k j (sk_lo w / 256, sk_lo w % 256)).2 < 256 := sk_gp_lt hK0 k (sk_hl (sk_lo_lt w))
  refine lv_iload_n hx hb dX2_g_0 rfl (lv_at hl 2 rfl) ?_
  refine lv_bipush (v := nI 8) hx hb dX2_g_1 (by decide) ?_
  refine lv_ishr hx hb dX2_g_3 ?_
  refine lv_sipush (v := nI 255) hx hb dX2_g_4 (by decide) ?_
  refine lv_iand hx hb dX2_g_7 ?_
  refine sk_top (y := nI (sk_gp K k 0 (sk_lo w / 256, sk_lo w % 256)).1) (sk_high w) ?_
  refine lv_istore_n (lv' := [(3, .int (nI (sk_gp K k 0 (sk_lo w / 256, sk_lo w % 256)).1)), (0, .ref h0), (1, .int (nI k)), (2, .int w)]) hx hb dX2_g_8 rfl hl (by decide) rfl (fun ls hl => ?_)
  refine lv_iload_n hx hb dX2_g_9 rfl (lv_at hl 3 rfl) ?_
  refine lv_sipush (v := nI 255) hx hb dX2_g_10 (by decide) ?_
  refine lv_iand hx hb dX2_g_13 ?_
  refine sk_top (y := nI (sk_gp K k 0 (sk_lo w / 256, sk_lo w % 256)).2) (sk_low w) ?_
  refine lv_istore (lv' := [(4, .int (nI (sk_gp K k 0 (sk_lo w / 256, sk_lo w % 256)).2)), (3, .int (nI (sk_gp K k 0 (sk_lo w / 256, sk_lo w % 256)).1)), (0, .ref h0), (1, .int (nI k)), (2, .int w)]) hx hb dX2_g_14 hl (by decide) rfl (fun ls hl => ?_)
  refine va_gets (C := "SkipjackEngine") (n := "ftable") (d := "[S") hx hb hT.1 hS hown (hts _ q258) (fun _ h9 => h9) dX2_g_16 ?_
  refine lv_iload hx hb dX2_g_19 (lv_at hl 0 rfl) ?_
  refine lv_aload_n hx hb dX2_g_21 rfl (lv_at hl 2 rfl) ?_
  refine va_get (D := (dC, dI)) (ci := 2) (v := .ref k0) (C := RX2) (T := TX2) (N := 5) hx hb hts in_X2 hown hK hP 0 rfl rfl 0 (by decide) (hts _ q69) (fun _ h9 => h9) rfl dX2_g_22 ?_
  refine lv_iload_n hx hb dX2_g_25 rfl (lv_at hl 3 rfl) ?_
  refine sk_iald (k := k) hx hb hK hP 1 0 rfl rfl (hk) (by decide) dX2_g_26 ?_
  refine sk_top (y := nI (K ((4 * k + 0) % 10))) (he0 k hk) ?_
  refine lv_ixor hx hb dX2_g_27 ?_
  refine sk_top (y := nI ((sk_gp K k 0 (sk_lo w / 256, sk_lo w % 256)).2 ^^^ K ((4 * k + 0) % 10))) (nx_xor _ _) ?_
  refine sk_ts (f := fun j => nI (sk_F j)) (k := (sk_gp K k 0 (sk_lo w / 256, sk_lo w % 256)).2 ^^^ K ((4 * k + 0) % 10)) hx hb hT.2 hS (sk_xor (hb0 0).2 (hK0.at _)) dX2_g_28 ?_
  refine lv_iload_n hx hb dX2_g_29 rfl (lv_at hl 1 rfl) ?_
  refine lv_ixor hx hb dX2_g_30 ?_
  refine sk_top (y := nI (sk_gp K k 1 (sk_lo w / 256, sk_lo w % 256)).2) (by rw [nx_xor]; rfl) ?_
  refine lv_istore (lv' := [(5, .int (nI (sk_gp K k 1 (sk_lo w / 256, sk_lo w % 256)).2)), (4, .int (nI (sk_gp K k 0 (sk_lo w / 256, sk_lo w % 256)).2)), (3, .int (nI (sk_gp K k 0 (sk_lo w / 256, sk_lo w % 256)).1)), (0, .ref h0), (1, .int (nI k)), (2, .int w)]) hx hb dX2_g_31 hl (by decide) rfl (fun ls hl => ?_)
  refine va_gets (C := "SkipjackEngine") (n := "ftable") (d := "[S") hx hb hT.1 hS hown (hts _ q258) (fun _ h9 => h9) dX2_g_33 ?_
  refine lv_iload hx hb dX2_g_36 (lv_at hl 0 rfl) ?_
  refine lv_aload_n hx hb dX2_g_38 rfl (lv_at hl 3 rfl) ?_
  refine va_get (D := (dC, dI)) (ci := 2) (v := .ref k1) (C := RX2) (T := TX2) (N := 5) hx hb hts in_X2 hown hK hP 0 rfl rfl 1 (by decide) (hts _ q70) (fun _ h9 => h9) rfl dX2_g_39 ?_
  refine lv_iload_n hx hb dX2_g_42 rfl (lv_at hl 4 rfl) ?_
  refine sk_iald (k := k) hx hb hK hP 2 1 rfl rfl (hk) (by decide) dX2_g_43 ?_
  refine sk_top (y := nI (K ((4 * k + 1) % 10))) (he1 k hk) ?_
  refine lv_ixor hx hb dX2_g_44 ?_
  refine sk_top (y := nI ((sk_gp K k 1 (sk_lo w / 256, sk_lo w % 256)).2 ^^^ K ((4 * k + 1) % 10))) (nx_xor _ _) ?_
  refine sk_ts (f := fun j => nI (sk_F j)) (k := (sk_gp K k 1 (sk_lo w / 256, sk_lo w % 256)).2 ^^^ K ((4 * k + 1) % 10)) hx hb hT.2 hS (sk_xor (hb0 1).2 (hK0.at _)) dX2_g_45 ?_
  refine lv_iload hx hb dX2_g_46 (lv_at hl 1 rfl) ?_
  refine lv_ixor hx hb dX2_g_48 ?_
  refine sk_top (y := nI (sk_gp K k 2 (sk_lo w / 256, sk_lo w % 256)).2) (by rw [nx_xor]; rfl) ?_
  refine lv_istore (lv' := [(6, .int (nI (sk_gp K k 2 (sk_lo w / 256, sk_lo w % 256)).2)), (5, .int (nI (sk_gp K k 1 (sk_lo w / 256, sk_lo w % 256)).2)), (4, .int (nI (sk_gp K k 0 (sk_lo w / 256, sk_lo w % 256)).2)), (3, .int (nI (sk_gp K k 0 (sk_lo w / 256, sk_lo w % 256)).1)), (0, .ref h0), (1, .int (nI k)), (2, .int w)]) hx hb dX2_g_49 hl (by decide) rfl (fun ls hl => ?_)
  refine va_gets (C := "SkipjackEngine") (n := "ftable") (d := "[S") hx hb hT.1 hS hown (hts _ q258) (fun _ h9 => h9) dX2_g_51 ?_
  refine lv_iload hx hb dX2_g_54 (lv_at hl 0 rfl) ?_
  refine lv_aload_n hx hb dX2_g_56 rfl (lv_at hl 4 rfl) ?_
  refine va_get (D := (dC, dI)) (ci := 2) (v := .ref k2) (C := RX2) (T := TX2) (N := 5) hx hb hts in_X2 hown hK hP 0 rfl rfl 2 (by decide) (hts _ q71) (fun _ h9 => h9) rfl dX2_g_57 ?_
  refine lv_iload_n hx hb dX2_g_60 rfl (lv_at hl 5 rfl) ?_
  refine sk_iald (k := k) hx hb hK hP 3 2 rfl rfl (hk) (by decide) dX2_g_61 ?_
  refine sk_top (y := nI (K ((4 * k + 2) % 10))) (he2 k hk) ?_
  refine lv_ixor hx hb dX2_g_62 ?_
  refine sk_top (y := nI ((sk_gp K k 2 (sk_lo w / 256, sk_lo w % 256)).2 ^^^ K ((4 * k + 2) % 10))) (nx_xor _ _) ?_
  refine sk_ts (f := fun j => nI (sk_F j)) (k := (sk_gp K k 2 (sk_lo w / 256, sk_lo w % 256)).2 ^^^ K ((4 * k + 2) % 10)) hx hb hT.2 hS (sk_xor (hb0 2).2 (hK0.at _)) dX2_g_63 ?_
  refine lv_iload hx hb dX2_g_64 (lv_at hl 1 rfl) ?_
  refine lv_ixor hx hb dX2_g_66 ?_
  refine sk_top (y := nI (sk_gp K k 3 (sk_lo w / 256, sk_lo w % 256)).2) (by rw [nx_xor]; rfl) ?_
  refine lv_istore (lv' := [(7, .int (nI (sk_gp K k 3 (sk_lo w / 256, sk_lo w % 256)).2)), (6, .int (nI (sk_gp K k 2 (sk_lo w / 256, sk_lo w % 256)).2)), (5, .int (nI (sk_gp K k 1 (sk_lo w / 256, sk_lo w % 256)).2)), (4, .int (nI (sk_gp K k 0 (sk_lo w / 256, sk_lo w % 256)).2)), (3, .int (nI (sk_gp K k 0 (sk_lo w / 256, sk_lo w % 256)).1)), (0, .ref h0), (1, .int (nI k)), (2, .int w)]) hx hb dX2_g_67 hl (by decide) rfl (fun ls hl => ?_)
  refine va_gets (C := "SkipjackEngine") (n := "ftable") (d := "[S") hx hb hT.1 hS hown (hts _ q258) (fun _ h9 => h9) dX2_g_69 ?_
  refine lv_iload hx hb dX2_g_72 (lv_at hl 0 rfl) ?_
  refine lv_aload_n hx hb dX2_g_74 rfl (lv_at hl 5 rfl) ?_
  refine va_get (D := (dC, dI)) (ci := 2) (v := .ref k3) (C := RX2) (T := TX2) (N := 5) hx hb hts in_X2 hown hK hP 0 rfl rfl 3 (by decide) (hts _ q72) (fun _ h9 => h9) rfl dX2_g_75 ?_
  refine lv_iload_n hx hb dX2_g_78 rfl (lv_at hl 6 rfl) ?_
  refine sk_iald (k := k) hx hb hK hP 4 3 rfl rfl (hk) (by decide) dX2_g_79 ?_
  refine sk_top (y := nI (K ((4 * k + 3) % 10))) (he3 k hk) ?_
  refine lv_ixor hx hb dX2_g_80 ?_
  refine sk_top (y := nI ((sk_gp K k 3 (sk_lo w / 256, sk_lo w % 256)).2 ^^^ K ((4 * k + 3) % 10))) (nx_xor _ _) ?_
  refine sk_ts (f := fun j => nI (sk_F j)) (k := (sk_gp K k 3 (sk_lo w / 256, sk_lo w % 256)).2 ^^^ K ((4 * k + 3) % 10)) hx hb hT.2 hS (sk_xor (hb0 3).2 (hK0.at _)) dX2_g_81 ?_
  refine lv_iload hx hb dX2_g_82 (lv_at hl 1 rfl) ?_
  refine lv_ixor hx hb dX2_g_84 ?_
  refine sk_top (y := nI (sk_gp K k 4 (sk_lo w / 256, sk_lo w % 256)).2) (by rw [nx_xor]; rfl) ?_
  refine lv_istore (lv' := [(8, .int (nI (sk_gp K k 4 (sk_lo w / 256, sk_lo w % 256)).2)), (7, .int (nI (sk_gp K k 3 (sk_lo w / 256, sk_lo w % 256)).2)), (6, .int (nI (sk_gp K k 2 (sk_lo w / 256, sk_lo w % 256)).2)), (5, .int (nI (sk_gp K k 1 (sk_lo w / 256, sk_lo w % 256)).2)), (4, .int (nI (sk_gp K k 0 (sk_lo w / 256, sk_lo w % 256)).2)), (3, .int (nI (sk_gp K k 0 (sk_lo w / 256, sk_lo w % 256)).1)), (0, .ref h0), (1, .int (nI k)), (2, .int w)]) hx hb dX2_g_85 hl (by decide) rfl (fun ls hl => ?_)
  refine lv_iload hx hb dX2_g_87 (lv_at hl 1 rfl) ?_
  refine lv_bipush (v := nI 8) hx hb dX2_g_89 (by decide) ?_
  refine lv_ishl hx hb dX2_g_91 ?_
  refine lv_iload hx hb dX2_g_92 (lv_at hl 0 rfl) ?_
  refine lv_iadd hx hb dX2_g_94 ?_
  refine sk_top (y := nI (sk_g K k (sk_lo w))) (by rw [sk_catA (hb0 3).2]; rfl) ?_
  have hP9 := hP.sub (ws' := [(h0, .inr (2, [.ref k0, .ref k1, .ref k2, .ref k3, .int en])), (k0, .inl (d0, 32, .inl (e0))), (k1, .inl (d1, 32, .inl (e1))), (k2, .inl (d2, 32, .inl (e2))), (k3, .inl (d3, 32, .inl (e3)))]) [0, 1, 2, 3, 4] rfl
  have hD9 := hD.sub (ws' := [(h0, .inr (2, [.ref k0, .ref k1, .ref k2, .ref k3, .int en])), (k0, .inl (d0, 32, .inl (e0))), (k1, .inl (d1, 32, .inl (e1))), (k2, .inl (d2, 32, .inl (e2))), (k3, .inl (d3, 32, .inl (e3)))]) [0, 1, 2, 3, 4] (by decide) rfl
  have hK9 := hK.sub (tys' := [(d0, .int), (d1, .int), (d2, .int), (d3, .int)]) [0, 1, 2, 3] rfl
  exact W.iret (v := nI (sk_g K k (sk_lo w))) hx hb hr (fun t ht hW => ⟨⟨nI (sk_g K k (sk_lo w)), (), rfl, rfl, by rw [ht]; exact hP9, va_K.moved hW.alike hK9, hD9⟩, hS.F ht⟩) hS.2.2 dX2_g_95
set_option maxHeartbeats 1000000 in
set_option maxRecDepth 100000 in
/-- SkipjackEngine.X2_h -/
theorem eng_h (l : Launch) (dC : Nat → ClassId) (dI : Nat → Nat → Nat) (sz : Nat) (h0 k0 k1 k2 k3 : Nat) (d0 d1 d2 d3 : ClassId) (e0 e1 e2 e3 : Nat → Int32) (en : Int32) (K : Nat → Nat) (tE : Nat) (k : Nat) (w : Int32) (hK0 : sk_K K) (he0 : ∀ j, j < 32 → e0 j = nI (K ((4 * j + 0) % 10))) (he1 : ∀ j, j < 32 → e1 j = nI (K ((4 * j + 1) % 10))) (he2 : ∀ j, j < 32 → e2 j = nI (K ((4 * j + 2) % 10))) (he3 : ∀ j, j < 32 → e3 j = nI (K ((4 * j + 3) % 10))) (hk : k < 32) : Met l yX2_h (ws_ yX2_h cX2_h 9 (some .int)) ({ frames := 0, cells := 0, slots := 0, locals := 0 }) (va_Pc [.ref h0, .int (nI k), .int w] (fun U => U.heap.size = sz ∧ va_P (dC, dI) vwCl [(h0, .inr (2, [.ref k0, .ref k1, .ref k2, .ref k3, .int en])), (k0, .inl (d0, 32, .inl (e0))), (k1, .inl (d1, 32, .inl (e1))), (k2, .inl (d2, 32, .inl (e2))), (k3, .inl (d3, 32, .inl (e3)))] U.heap ∧ va_K (dC, dI) vwCl [(d0, .int), (d1, .int), (d2, .int), (d3, .int)] U ∧ va_D (fun _ => True) [(h0, .inr (2, [.ref k0, .ref k1, .ref k2, .ref k3, .int en])), (k0, .inl (d0, 32, .inl (e0))), (k1, .inl (d1, 32, .inl (e1))), (k2, .inl (d2, 32, .inl (e2))), (k3, .inl (d3, 32, .inl (e3)))] ∧ sk_TE tE (va_A [(h0, .inr (2, [.ref k0, .ref k1, .ref k2, .ref k3, .int en])), (k0, .inl (d0, 32, .inl (e0))), (k1, .inl (d1, 32, .inl (e1))), (k2, .inl (d2, 32, .inl (e2))), (k3, .inl (d3, 32, .inl (e3)))] sz) U)) (va_Qi (fun (r : Int32) (_ : Unit) => r = nI (sk_h K k (sk_lo w))) (fun (_ : Unit) (t : State) => va_P (dC, dI) vwCl [(h0, .inr (2, [.ref k0, .ref k1, .ref k2, .ref k3, .int en])), (k0, .inl (d0, 32, .inl (e0))), (k1, .inl (d1, 32, .inl (e1))), (k2, .inl (d2, 32, .inl (e2))), (k3, .inl (d3, 32, .inl (e3)))] t.heap ∧ va_K (dC, dI) vwCl [(d0, .int), (d1, .int), (d2, .int), (d3, .int)] t ∧ va_D (va_A [(h0, .inr (2, [.ref k0, .ref k1, .ref k2, .ref k3, .int en])), (k0, .inl (d0, 32, .inl (e0))), (k1, .inl (d1, 32, .inl (e1))), (k2, .inl (d2, 32, .inl (e2))), (k3, .inl (d3, 32, .inl (e3)))] sz) [(h0, .inr (2, [.ref k0, .ref k1, .ref k2, .ref k3, .int en])), (k0, .inl (d0, 32, .inl (e0))), (k1, .inl (d1, 32, .inl (e1))), (k2, .inl (d2, 32, .inl (e2))), (k3, .inl (d3, 32, .inl (e3)))]) (va_A [(h0, .inr (2, [.ref k0, .ref k1, .ref k2, .ref k3, .int en])), (k0, .inl (d0, 32, .inl (e0))), (k1, .inl (d1, 32, .inl (e1))), (k2, .inl (d2, 32, .inl (e2))), (k3, .inl (d3, 32, .inl (e3)))] sz)) 0 0 (va_A [(h0, .inr (2, [.ref k0, .ref k1, .ref k2, .ref k3, .int en])), (k0, .inl (d0, 32, .inl (e0))), (k1, .inl (d1, 32, .inl (e1))), (k2, .inl (d2, 32, .inl (e2))), (k3, .inl (d3, 32, .inl (e3)))] sz) := by
  refine Met.ofW (cc := cX2_h) (maxL := 9) (ret := (some .int)) (by decide) rfl ?_
  intro p e s m args below meth c s₁ BO hml hv
  obtain ⟨rfl, hsz, hP, hK, hD0, hT⟩ := hv
  have hx := BO.exec
  have hb := BO.bytes
  have hr := BO.returns
  have hts := atoms_spec (ws := (ws_ yX2_h cX2_h 9 (some .int))) BO.pre
  have hts : ∀ w ∈ lw_all, w.before _ s = true := fun w h => hts w (List.mem_cons_of_mem _ h)
  have hown : s.vm.findClass RX2 = some m.cls := findClass_of_methodNamed BO.named
  have hlocks := BO.notSynchronized
  subst hsz
  have hD := hD0.self (sz := s.heap.size)
  generalize hAe : va_A [(h0, .inr (2, [.ref k0, .ref k1, .ref k2, .ref k3, .int en])), (k0, .inl (d0, 32, .inl (e0))), (k1, .inl (d1, 32, .inl (e1))), (k2, .inl (d2, 32, .inl (e2))), (k3, .inl (d3, 32, .inl (e3)))] s.heap.size = A at hD hT ⊢
  have hA : ∀ q : Nat, s.heap.size ≤ q → A q := fun q h => by rw [← hAe]; exact Or.inr h
  have hS : va_S A s.heap s.heap [] := va_S.rf
  have hP : va_P (dC, dI) vwCl [(h0, .inr (2, [.ref k0, .ref k1, .ref k2, .ref k3, .int en])), (k0, .inl (d0, 32, .inl (e0))), (k1, .inl (d1, 32, .inl (e1))), (k2, .inl (d2, 32, .inl (e2))), (k3, .inl (d3, 32, .inl (e3)))] s.heap := hP
  have hl := lv_entry ([.ref h0, .int (nI k), .int w]) (n := 9) (Nat.le_of_ble_eq_true rfl)
  rw [lg_entry_eq]
  generalize (lg_sl ([.ref h0, .int (nI k), .int w]) ++ List.replicate (9 - (lg_sl ([.ref h0, .int (nI k), .int w])).length) Slot.unset).toArray = ls at hl ⊢
  have hl : lv_has ls 9 [(0, .ref h0), (1, .int (nI k)), (2, .int w)] := hl
  have hb0 : ∀ j, (sk_hp K k j (sk_lo w / 256, sk_lo w % 256)).1 < 256 ∧ (sk_hp K k j (sk_lo w / 256, sk_lo w % 256)).2 < 256 := sk_hp_lt hK0 k (sk_hl (sk_lo_lt w))
  refine lv_iload_n hx hb dX2_h_0 rfl (lv_at hl 2 rfl) ?_
  refine lv_sipush (v := nI 255) hx hb dX2_h_1 (by decide) ?_
  refine lv_iand hx hb dX2_h_4 ?_
  refine sk_top (y := nI (sk_hp K k 0 (sk_lo w / 256, sk_lo w % 256)).2) (sk_low w) ?_
  refine lv_istore_n (lv' := [(3, .int (nI (sk_hp K k 0 (sk_lo w / 256, sk_lo w % 256)).2)), (0, .ref h0), (1, .int (nI k)), (2, .int w)]) hx hb dX2_h_5 rfl hl (by decide) rfl (fun ls hl => ?_)
  refine lv_iload_n hx hb dX2_h_6 rfl (lv_at hl 3 rfl) ?_
  refine lv_bipush (v := nI 8) hx hb dX2_h_7 (by decide) ?_
  refine lv_ishr hx hb dX2_h_9 ?_
  refine lv_sipush (v := nI 255) hx hb dX2_h_10 (by decide) ?_
  refine lv_iand hx hb dX2_h_13 ?_
  refine sk_top (y := nI (sk_hp K k 0 (sk_lo w / 256, sk_lo w % 256)).1) (sk_high w) ?_
  refine lv_istore (lv' := [(4, .int (nI (sk_hp K k 0 (sk_lo w / 256, sk_lo w % 256)).1)), (3, .int (nI (sk_hp K k 0 (sk_lo w / 256, sk_lo w % 256)).2)), (0, .ref h0), (1, .int (nI k)), (2, .int w)]) hx hb dX2_h_14 hl (by decide) rfl (fun ls hl => ?_)
  refine va_gets (C := "SkipjackEngine") (n := "ftable") (d := "[S") hx hb hT.1 hS hown (hts _ q258) (fun _ h9 => h9) dX2_h_16 ?_
  refine lv_iload hx hb dX2_h_19 (lv_at hl 0 rfl) ?_
  refine lv_aload_n hx hb dX2_h_21 rfl (lv_at hl 2 rfl) ?_
  refine va_get (D := (dC, dI)) (ci := 2) (v := .ref k3) (C := RX2) (T := TX2) (N := 5) hx hb hts in_X2 hown hK hP 0 rfl rfl 3 (by decide) (hts _ q72) (fun _ h9 => h9) rfl dX2_h_22 ?_
  refine lv_iload_n hx hb dX2_h_25 rfl (lv_at hl 3 rfl) ?_
  refine sk_iald (k := k) hx hb hK hP 4 3 rfl rfl (hk) (by decide) dX2_h_26 ?_
  refine sk_top (y := nI (K ((4 * k + 3) % 10))) (he3 k hk) ?_
  refine lv_ixor hx hb dX2_h_27 ?_
  refine sk_top (y := nI ((sk_hp K k 0 (sk_lo w / 256, sk_lo w % 256)).1 ^^^ K ((4 * k + 3) % 10))) (nx_xor _ _) ?_
  refine sk_ts (f := fun j => nI (sk_F j)) (k := (sk_hp K k 0 (sk_lo w / 256, sk_lo w % 256)).1 ^^^ K ((4 * k + 3) % 10)) hx hb hT.2 hS (sk_xor (hb0 0).1 (hK0.at _)) dX2_h_28 ?_
  refine lv_iload_n hx hb dX2_h_29 rfl (lv_at hl 1 rfl) ?_
  refine lv_ixor hx hb dX2_h_30 ?_
  refine sk_top (y := nI (sk_hp K k 1 (sk_lo w / 256, sk_lo w % 256)).1) (by rw [nx_xor]; rfl) ?_
  refine lv_istore (lv' := [(5, .int (nI (sk_hp K k 1 (sk_lo w / 256, sk_lo w % 256)).1)), (4, .int (nI (sk_hp K k 0 (sk_lo w / 256, sk_lo w % 256)).1)), (3, .int (nI (sk_hp K k 0 (sk_lo w / 256, sk_lo w % 256)).2)), (0, .ref h0), (1, .int (nI k)), (2, .int w)]) hx hb dX2_h_31 hl (by decide) rfl (fun ls hl => ?_)
  refine va_gets (C := "SkipjackEngine") (n := "ftable") (d := "[S") hx hb hT.1 hS hown (hts _ q258) (fun _ h9 => h9) dX2_h_33 ?_
  refine lv_iload hx hb dX2_h_36 (lv_at hl 0 rfl) ?_
  refine lv_aload_n hx hb dX2_h_38 rfl (lv_at hl 3 rfl) ?_
  refine va_get (D := (dC, dI)) (ci := 2) (v := .ref k2) (C := RX2) (T := TX2) (N := 5) hx hb hts in_X2 hown hK hP 0 rfl rfl 2 (by decide) (hts _ q71) (fun _ h9 => h9) rfl dX2_h_39 ?_
  refine lv_iload_n hx hb dX2_h_42 rfl (lv_at hl 4 rfl) ?_
  refine sk_iald (k := k) hx hb hK hP 3 2 rfl rfl (hk) (by decide) dX2_h_43 ?_
  refine sk_top (y := nI (K ((4 * k + 2) % 10))) (he2 k hk) ?_
  refine lv_ixor hx hb dX2_h_44 ?_
  refine sk_top (y := nI ((sk_hp K k 1 (sk_lo w / 256, sk_lo w % 256)).1 ^^^ K ((4 * k + 2) % 10))) (nx_xor _ _) ?_
  refine sk_ts (f := fun j => nI (sk_F j)) (k := (sk_hp K k 1 (sk_lo w / 256, sk_lo w % 256)).1 ^^^ K ((4 * k + 2) % 10)) hx hb hT.2 hS (sk_xor (hb0 1).1 (hK0.at _)) dX2_h_45 ?_
  refine lv_iload hx hb dX2_h_46 (lv_at hl 1 rfl) ?_
  refine lv_ixor hx hb dX2_h_48 ?_
  refine sk_top (y := nI (sk_hp K k 2 (sk_lo w / 256, sk_lo w % 256)).1) (by rw [nx_xor]; rfl) ?_
  refine lv_istore (lv' := [(6, .int (nI (sk_hp K k 2 (sk_lo w / 256, sk_lo w % 256)).1)), (5, .int (nI (sk_hp K k 1 (sk_lo w / 256, sk_lo w % 256)).1)), (4, .int (nI (sk_hp K k 0 (sk_lo w / 256, sk_lo w % 256)).1)), (3, .int (nI (sk_hp K k 0 (sk_lo w / 256, sk_lo w % 256)).2)), (0, .ref h0), (1, .int (nI k)), (2, .int w)]) hx hb dX2_h_49 hl (by decide) rfl (fun ls hl => ?_)
  refine va_gets (C := "SkipjackEngine") (n := "ftable") (d := "[S") hx hb hT.1 hS hown (hts _ q258) (fun _ h9 => h9) dX2_h_51 ?_
  refine lv_iload hx hb dX2_h_54 (lv_at hl 0 rfl) ?_
  refine lv_aload_n hx hb dX2_h_56 rfl (lv_at hl 4 rfl) ?_
  refine va_get (D := (dC, dI)) (ci := 2) (v := .ref k1) (C := RX2) (T := TX2) (N := 5) hx hb hts in_X2 hown hK hP 0 rfl rfl 1 (by decide) (hts _ q70) (fun _ h9 => h9) rfl dX2_h_57 ?_
  refine lv_iload_n hx hb dX2_h_60 rfl (lv_at hl 5 rfl) ?_
  refine sk_iald (k := k) hx hb hK hP 2 1 rfl rfl (hk) (by decide) dX2_h_61 ?_
  refine sk_top (y := nI (K ((4 * k + 1) % 10))) (he1 k hk) ?_
  refine lv_ixor hx hb dX2_h_62 ?_
  refine sk_top (y := nI ((sk_hp K k 2 (sk_lo w / 256, sk_lo w % 256)).1 ^^^ K ((4 * k + 1) % 10))) (nx_xor _ _) ?_
  refine sk_ts (f := fun j => nI (sk_F j)) (k := (sk_hp K k 2 (sk_lo w / 256, sk_lo w % 256)).1 ^^^ K ((4 * k + 1) % 10)) hx hb hT.2 hS (sk_xor (hb0 2).1 (hK0.at _)) dX2_h_63 ?_
  refine lv_iload hx hb dX2_h_64 (lv_at hl 1 rfl) ?_
  refine lv_ixor hx hb dX2_h_66 ?_
  refine sk_top (y := nI (sk_hp K k 3 (sk_lo w / 256, sk_lo w % 256)).1) (by rw [nx_xor]; rfl) ?_
  refine lv_istore (lv' := [(7, .int (nI (sk_hp K k 3 (sk_lo w / 256, sk_lo w % 256)).1)), (6, .int (nI (sk_hp K k 2 (sk_lo w / 256, sk_lo w % 256)).1)), (5, .int (nI (sk_hp K k 1 (sk_lo w / 256, sk_lo w % 256)).1)), (4, .int (nI (sk_hp K k 0 (sk_lo w / 256, sk_lo w % 256)).1)), (3, .int (nI (sk_hp K k 0 (sk_lo w / 256, sk_lo w % 256)).2)), (0, .ref h0), (1, .int (nI k)), (2, .int w)]) hx hb dX2_h_67 hl (by decide) rfl (fun ls hl => ?_)
  refine va_gets (C := "SkipjackEngine") (n := "ftable") (d := "[S") hx hb hT.1 hS hown (hts _ q258) (fun _ h9 => h9) dX2_h_69 ?_
  refine lv_iload hx hb dX2_h_72 (lv_at hl 0 rfl) ?_
  refine lv_aload_n hx hb dX2_h_74 rfl (lv_at hl 5 rfl) ?_
  refine va_get (D := (dC, dI)) (ci := 2) (v := .ref k0) (C := RX2) (T := TX2) (N := 5) hx hb hts in_X2 hown hK hP 0 rfl rfl 0 (by decide) (hts _ q69) (fun _ h9 => h9) rfl dX2_h_75 ?_
  refine lv_iload_n hx hb dX2_h_78 rfl (lv_at hl 6 rfl) ?_
  refine sk_iald (k := k) hx hb hK hP 1 0 rfl rfl (hk) (by decide) dX2_h_79 ?_
  refine sk_top (y := nI (K ((4 * k + 0) % 10))) (he0 k hk) ?_
  refine lv_ixor hx hb dX2_h_80 ?_
  refine sk_top (y := nI ((sk_hp K k 3 (sk_lo w / 256, sk_lo w % 256)).1 ^^^ K ((4 * k + 0) % 10))) (nx_xor _ _) ?_
  refine sk_ts (f := fun j => nI (sk_F j)) (k := (sk_hp K k 3 (sk_lo w / 256, sk_lo w % 256)).1 ^^^ K ((4 * k + 0) % 10)) hx hb hT.2 hS (sk_xor (hb0 3).1 (hK0.at _)) dX2_h_81 ?_
  refine lv_iload hx hb dX2_h_82 (lv_at hl 1 rfl) ?_
  refine lv_ixor hx hb dX2_h_84 ?_
  refine sk_top (y := nI (sk_hp K k 4 (sk_lo w / 256, sk_lo w % 256)).1) (by rw [nx_xor]; rfl) ?_
  refine lv_istore (lv' := [(8, .int (nI (sk_hp K k 4 (sk_lo w / 256, sk_lo w % 256)).1)), (7, .int (nI (sk_hp K k 3 (sk_lo w / 256, sk_lo w % 256)).1)), (6, .int (nI (sk_hp K k 2 (sk_lo w / 256, sk_lo w % 256)).1)), (5, .int (nI (sk_hp K k 1 (sk_lo w / 256, sk_lo w % 256)).1)), (4, .int (nI (sk_hp K k 0 (sk_lo w / 256, sk_lo w % 256)).1)), (3, .int (nI (sk_hp K k 0 (sk_lo w / 256, sk_lo w % 256)).2)), (0, .ref h0), (1, .int (nI k)), (2, .int w)]) hx hb dX2_h_85 hl (by decide) rfl (fun ls hl => ?_)
  refine lv_iload hx hb dX2_h_87 (lv_at hl 0 rfl) ?_
  refine lv_bipush (v := nI 8) hx hb dX2_h_89 (by decide) ?_
  refine lv_ishl hx hb dX2_h_91 ?_
  refine lv_iload hx hb dX2_h_92 (lv_at hl 1 rfl) ?_
  refine lv_iadd hx hb dX2_h_94 ?_
  refine sk_top (y := nI (sk_h K k (sk_lo w))) (by rw [sk_catA (hb0 4).1]; rfl) ?_
  have hP9 := hP.sub (ws' := [(h0, .inr (2, [.ref k0, .ref k1, .ref k2, .ref k3, .int en])), (k0, .inl (d0, 32, .inl (e0))), (k1, .inl (d1, 32, .inl (e1))), (k2, .inl (d2, 32, .inl (e2))), (k3, .inl (d3, 32, .inl (e3)))]) [0, 1, 2, 3, 4] rfl
  have hD9 := hD.sub (ws' := [(h0, .inr (2, [.ref k0, .ref k1, .ref k2, .ref k3, .int en])), (k0, .inl (d0, 32, .inl (e0))), (k1, .inl (d1, 32, .inl (e1))), (k2, .inl (d2, 32, .inl (e2))), (k3, .inl (d3, 32, .inl (e3)))]) [0, 1, 2, 3, 4] (by decide) rfl
  have hK9 := hK.sub (tys' := [(d0, .int), (d1, .int), (d2, .int), (d3, .int)]) [0, 1, 2, 3] rfl
  exact W.iret (v := nI (sk_h K k (sk_lo w))) hx hb hr (fun t ht hW => ⟨⟨nI (sk_h K k (sk_lo w)), (), rfl, rfl, by rw [ht]; exact hP9, va_K.moved hW.alike hK9, hD9⟩, hS.F ht⟩) hS.2.2 dX2_h_95
end
section
/-! SkipjackEngine.decryptBlock: its loops -/
set_option maxHeartbeats 1000000 in
set_option maxRecDepth 100000 in
theorem eng_dec_A {p : Program} {l : Launch} {e : Env} {s : State} {m : MethodId} {args : Array Value} {below : List Frame} {meth : Method} {c : Code} {dC : Nat → ClassId} {dI : Nat → Nat → Nat} {A : Nat → Prop} {Q : State → Prop} (h0 k0 k1 k2 k3 : Nat) (d0 d1 d2 d3 : ClassId) (e0 e1 e2 e3 : Nat → Int32) (en : Int32) (K : Nat → Nat) (tE : Nat) (hi0 ho : Nat) (di dq : ClassId) (fi fo : Nat → Int32) (q0 : sk_Q) (t : Nat) (ht : t < 2) (hx : p.tables.exec = Jvm.exec) (hb : c.code = cX2_decryptBlock) (hml : c.maxLocals = 13) (hown : s.vm.findClass RX2 = some m.cls) (hts : ∀ w ∈ lw_all, w.before args s = true) (hK : va_K (dC, dI) vwCl [(d0, .int), (d1, .int), (d2, .int), (d3, .int), (di, .byte), (dq, .byte)] s) (hA : ∀ q : Nat, s.heap.size ≤ q → A q) (hT : sk_TE tE A s) (hK0 : sk_K K) (he0 : ∀ j, j < 32 → e0 j = nI (K ((4 * j + 0) % 10))) (he1 : ∀ j, j < 32 → e1 j = nI (K ((4 * j + 1) % 10))) (he2 : ∀ j, j < 32 → e2 j = nI (K ((4 * j + 2) % 10))) (he3 : ∀ j, j < 32 → e3 j = nI (K ((4 * j + 3) % 10)))
    (hend : ∀ (w1 w2 w3 w4 : Int32) (H : Heap) (locs : List Loc) (ls : Array Slot), sk_inv (sk_dec K (16 * t + 8) q0) w1 w2 w3 w4 → va_P (dC, dI) vwCl [(h0, .inr (2, [.ref k0, .ref k1, .ref k2, .ref k3, .int en])), (k0, .inl (d0, 32, .inl (e0))), (k1, .inl (d1, 32, .inl (e1))), (k2, .inl (d2, 32, .inl (e2))), (k3, .inl (d3, 32, .inl (e3))), (hi0, .inl (di, 8, .inl (fi))), (ho, .inl (dq, 8, .inl (fo)))] H → va_D A [(h0, .inr (2, [.ref k0, .ref k1, .ref k2, .ref k3, .int en])), (k0, .inl (d0, 32, .inl (e0))), (k1, .inl (d1, 32, .inl (e1))), (k2, .inl (d2, 32, .inl (e2))), (k3, .inl (d3, 32, .inl (e3))), (hi0, .inl (di, 8, .inl (fi))), (ho, .inl (dq, 8, .inl (fo)))] → va_S A s.heap H locs → lv_has ls 13 [(0, .ref h0), (3, .ref ho), (4, .int (nI 0)), (5, .int w1), (6, .int w2), (7, .int w3), (8, .int w4), (9, .int (nI (32 - (16 * t + 8)) - 1)), (10, .int (nI t)), (11, .int (nI 8))] → W p l e (headSpec (ws_ yX2_decryptBlock cX2_decryptBlock 13 (some .int)) ({ frames := 1, cells := 0, slots := 0, locals := 28 })).room s m args below meth c H locs 0 0 Q (F0 m 148 ls [])) :
    ∀ (n i : Nat), i + n = 8 → ∀ (w1 w2 w3 w4 : Int32) (H : Heap) (locs : List Loc) (ls : Array Slot), sk_inv (sk_dec K (16 * t + i) q0) w1 w2 w3 w4 → va_P (dC, dI) vwCl [(h0, .inr (2, [.ref k0, .ref k1, .ref k2, .ref k3, .int en])), (k0, .inl (d0, 32, .inl (e0))), (k1, .inl (d1, 32, .inl (e1))), (k2, .inl (d2, 32, .inl (e2))), (k3, .inl (d3, 32, .inl (e3))), (hi0, .inl (di, 8, .inl (fi))), (ho, .inl (dq, 8, .inl (fo)))] H → va_D A [(h0, .inr (2, [.ref k0, .ref k1, .ref k2, .ref k3, .int en])), (k0, .inl (d0, 32, .inl (e0))), (k1, .inl (d1, 32, .inl (e1))), (k2, .inl (d2, 32, .inl (e2))), (k3, .inl (d3, 32, .inl (e3))), (hi0, .inl (di, 8, .inl (fi))), (ho, .inl (dq, 8, .inl (fo)))] → va_S A s.heap H locs → lv_has ls 13 [(0, .ref h0), (3, .ref ho), (4, .int (nI 0)), (5, .int w1), (6, .int w2), (7, .int w3), (8, .int w4), (9, .int (nI (32 - (16 * t + i)) - 1)), (10, .int (nI t)), (11, .int (nI i))] → W p l e (headSpec (ws_ yX2_decryptBlock cX2_decryptBlock 13 (some .int)) ({ frames := 1, cells := 0, slots := 0, locals := 28 })).room s m args below meth c H locs 0 0 Q (F0 m 98 ls []) := by
  intro n
  induction n with
  | zero =>
    intro i hi w1 w2 w3 w4 H locs ls hinv hP hD hS hl
    have hi : i = 8 := by omega
    subst hi
    refine lv_iload hx hb dX2_decryptBlock_98 (lv_at hl 9 rfl) ?_
    refine lv_bipush (v := nI 8) hx hb dX2_decryptBlock_100 (by decide) ?_
    refine sk_geY (tgt := 148) hx hb (Nat.le_refl 8) (by decide) dX2_decryptBlock_102 (by decide) ?_
    exact hend w1 w2 w3 w4 H locs ls hinv hP hD hS hl
  | succ n ih =>
    intro i hi w1 w2 w3 w4 H locs ls hinv hP hD hS hl
    have hk : 31 - (16 * t + i) < 32 := by omega
    have e9 : nI (32 - (16 * t + i)) - 1 = nI (31 - (16 * t + i)) := by rw [show 32 - (16 * t + i) = (31 - (16 * t + i)) + 1 by omega]; exact nI_pred _
    rw [e9] at hl
    refine lv_iload hx hb dX2_decryptBlock_98 (lv_at hl 9 rfl) ?_
    refine lv_bipush (v := nI 8) hx hb dX2_decryptBlock_100 (by decide) ?_
    refine sk_geN (tgt := 148) hx hb (show i < 8 by omega) (by decide) dX2_decryptBlock_102 (by decide) ?_
    refine lv_iload hx hb dX2_decryptBlock_105 (lv_at hl 5 rfl) ?_
    refine lv_istore (lv' := [(12, .int w3), (0, .ref h0), (3, .ref ho), (4, .int (nI 0)), (5, .int w1), (6, .int w2), (7, .int w3), (8, .int w4), (9, .int (nI (31 - (16 * t + i)))), (10, .int (nI t)), (11, .int (nI i))]) hx hb dX2_decryptBlock_107 hl (by decide) rfl (fun ls hl => ?_)
    refine lv_iload hx hb dX2_decryptBlock_109 (lv_at hl 7 rfl) ?_
    refine lv_istore (lv' := [(7, .int w4), (12, .int w3), (0, .ref h0), (3, .ref ho), (4, .int (nI 0)), (5, .int w1), (6, .int w2), (8, .int w4), (9, .int (nI (31 - (16 * t + i)))), (10, .int (nI t)), (11, .int (nI i))]) hx hb dX2_decryptBlock_111 hl (by decide) rfl (fun ls hl => ?_)
    refine lv_iload hx hb dX2_decryptBlock_113 (lv_at hl 5 rfl) ?_
    refine lv_istore (lv' := [(8, .int w1), (7, .int w4), (12, .int w3), (0, .ref h0), (3, .ref ho), (4, .int (nI 0)), (5, .int w1), (6, .int w2), (9, .int (nI (31 - (16 * t + i)))), (10, .int (nI t)), (11, .int (nI i))]) hx hb dX2_decryptBlock_115 hl (by decide) rfl (fun ls hl => ?_)
    refine lv_aload_n hx hb dX2_decryptBlock_117 rfl (lv_at hl 3 rfl) ?_
    refine lv_iload hx hb dX2_decryptBlock_118 (lv_at hl 8 rfl) ?_
    refine lv_iload hx hb dX2_decryptBlock_120 (lv_at hl 7 rfl) ?_
    have hPc := hP.sub (ws' := [(h0, .inr (2, [.ref k0, .ref k1, .ref k2, .ref k3, .int en])), (k0, .inl (d0, 32, .inl (e0))), (k1, .inl (d1, 32, .inl (e1))), (k2, .inl (d2, 32, .inl (e2))), (k3, .inl (d3, 32, .inl (e3)))]) [0, 1, 2, 3, 4] rfl
    have hDc := hD.sub (ws' := [(h0, .inr (2, [.ref k0, .ref k1, .ref k2, .ref k3, .int en])), (k0, .inl (d0, 32, .inl (e0))), (k1, .inl (d1, 32, .inl (e1))), (k2, .inl (d2, 32, .inl (e2))), (k3, .inl (d3, 32, .inl (e3)))]) [0, 1, 2, 3, 4] (by decide) rfl
    have hKc := hK.sub (tys' := [(d0, .int), (d1, .int), (d2, .int), (d3, .int)]) [0, 1, 2, 3] rfl
    have hFc := va_free (wc := [(h0, .inr (2, [.ref k0, .ref k1, .ref k2, .ref k3, .int en])), (k0, .inl (d0, 32, .inl (e0))), (k1, .inl (d1, 32, .inl (e1))), (k2, .inl (d2, 32, .inl (e2))), (k3, .inl (d3, 32, .inl (e3)))]) hD hS hA [0, 1, 2, 3, 4] rfl
    refine va_calli (va_runV (As := [.int (nI (31 - (16 * t + i))), .int w2]) (rest := []) ⟨hx, hb, hml, hown, hts⟩ (eng_h l dC dI H.size h0 k0 k1 k2 k3 d0 d1 d2 d3 e0 e1 e2 e3 en K tE (31 - (16 * t + i)) w2 hK0 he0 he1 he2 he3 hk) (cwV 2 hts (lw_V q264 q266 qs3 q11 q267) rfl rfl rfl (by decide +kernel) ⟨Nat.le_of_ble_eq_true rfl, Nat.le_of_ble_eq_true rfl⟩) ⟨fun a U g mk q => by obtain ⟨q0, q1, qP, qK, qD, qT0⟩ := q; exact ⟨q0, q1, qP, va_K.moved (u := U) (U := U.calling g mk a) (Vm.Alike.refl U.vm) qK, qD, qT0.calling⟩, va_recv hKc hPc (ci := 2) (q0 := 0) rfl rfl, fun U hU hW => ⟨rfl, by rw [hU], by rw [hU]; exact hPc, va_K.moved hW.alike hKc, hDc.weaken (fun _ _ _ _ => trivial), hT.call hW.alike hU hS hFc⟩⟩ rfl rfl hl.1 rfl (lv_room (Nat.le_of_ble_eq_true rfl)) dX2_decryptBlock_122 ⟨Nat.le_of_ble_eq_true rfl, Nat.le_of_ble_eq_true rfl⟩) hS (fun q _ h => hFc q h) hFc (fun gg uS tS H1 locs htS hvm hw hB hz1 hk1 hS => ?_)
    obtain ⟨hP1, hK1, hD1⟩ := hB
    rw [htS] at hP1
    obtain ⟨hP, hD⟩ := va_join (wr := [(hi0, .inl (di, 8, .inl (fi))), (ho, .inl (dq, 8, .inl (fo)))]) (w1 := [(h0, .inr (2, [.ref k0, .ref k1, .ref k2, .ref k3, .int en])), (k0, .inl (d0, 32, .inl (e0))), (k1, .inl (d1, 32, .inl (e1))), (k2, .inl (d2, 32, .inl (e2))), (k3, .inl (d3, 32, .inl (e3)))]) hP hD [0, 1, 2, 3, 4] [5, 6] rfl rfl (by decide) (by decide) hk1 hFc hP1 hD1
    generalize H1 = H at hP hS ⊢
    have hP : va_P (dC, dI) vwCl [(hi0, .inl (di, 8, .inl (fi))), (ho, .inl (dq, 8, .inl (fo))), (h0, .inr (2, [.ref k0, .ref k1, .ref k2, .ref k3, .int en])), (k0, .inl (d0, 32, .inl (e0))), (k1, .inl (d1, 32, .inl (e1))), (k2, .inl (d2, 32, .inl (e2))), (k3, .inl (d3, 32, .inl (e3)))] H := hP
    have hD : va_D A [(hi0, .inl (di, 8, .inl (fi))), (ho, .inl (dq, 8, .inl (fo))), (h0, .inr (2, [.ref k0, .ref k1, .ref k2, .ref k3, .int en])), (k0, .inl (d0, 32, .inl (e0))), (k1, .inl (d1, 32, .inl (e1))), (k2, .inl (d2, 32, .inl (e2))), (k3, .inl (d3, 32, .inl (e3)))] := hD
    refine W.widen (k := 0) (n := 0) (Nat.le_of_ble_eq_true rfl) (Nat.le_of_ble_eq_true rfl) ?_
    have hw : gg = nI (sk_h K (31 - (16 * t + i)) (sk_lo w2)) := hw
    refine lv_istore (lv' := [(5, .int gg), (8, .int w1), (7, .int w4), (12, .int w3), (0, .ref h0), (3, .ref ho), (4, .int (nI 0)), (6, .int w2), (9, .int (nI (31 - (16 * t + i)))), (10, .int (nI t)), (11, .int (nI i))]) hx hb dX2_decryptBlock_125 hl (by decide) rfl (fun ls hl => ?_)
    refine lv_iload hx hb dX2_decryptBlock_127 (lv_at hl 0 rfl) ?_
    refine lv_iload hx hb dX2_decryptBlock_129 (lv_at hl 3 rfl) ?_
    refine lv_ixor hx hb dX2_decryptBlock_131 ?_
    refine lv_iload hx hb dX2_decryptBlock_132 (lv_at hl 8 rfl) ?_
    refine lv_iconst (v := nI 1) hx hb dX2_decryptBlock_134 (by decide) ?_
    refine lv_iadd hx hb dX2_decryptBlock_135 ?_
    refine sk_top (y := nI ((31 - (16 * t + i)) + 1)) (nI_add _ 1) ?_
    refine lv_ixor hx hb dX2_decryptBlock_136 ?_
    refine lv_topi (fun yy eyy => ?_)
    refine lv_istore (lv' := [(6, .int yy), (5, .int gg), (8, .int w1), (7, .int w4), (12, .int w3), (0, .ref h0), (3, .ref ho), (4, .int (nI 0)), (9, .int (nI (31 - (16 * t + i)))), (10, .int (nI t)), (11, .int (nI i))]) hx hb dX2_decryptBlock_137 hl (by decide) rfl (fun ls hl => ?_)
    refine lv_iinc (v := nI (32 - (16 * t + (i + 1))) - 1) (lv' := [(9, .int (nI (32 - (16 * t + (i + 1))) - 1)), (6, .int yy), (5, .int gg), (8, .int w1), (7, .int w4), (12, .int w3), (0, .ref h0), (3, .ref ho), (4, .int (nI 0)), (10, .int (nI t)), (11, .int (nI i))]) hx hb dX2_decryptBlock_139 hl (k := 8) rfl ((by rw [show 32 - (16 * t + (i + 1)) = 31 - (16 * t + i) by omega]; exact sk_dec1 _)) (by decide) rfl (fun ls hl => ?_)
    refine lv_iinc (v := nI (i + 1)) (lv' := [(11, .int (nI (i + 1))), (9, .int (nI (32 - (16 * t + (i + 1))) - 1)), (6, .int yy), (5, .int gg), (8, .int w1), (7, .int w4), (12, .int w3), (0, .ref h0), (3, .ref ho), (4, .int (nI 0)), (10, .int (nI t))]) hx hb dX2_decryptBlock_142 hl (k := 10) rfl (nI_1 i) (by decide) rfl (fun ls hl => ?_)
    refine lv_goto (tgt := 98) hx hb dX2_decryptBlock_145 (by decide) ?_
    have hP := hP.sub (ws' := [(h0, .inr (2, [.ref k0, .ref k1, .ref k2, .ref k3, .int en])), (k0, .inl (d0, 32, .inl (e0))), (k1, .inl (d1, 32, .inl (e1))), (k2, .inl (d2, 32, .inl (e2))), (k3, .inl (d3, 32, .inl (e3))), (hi0, .inl (di, 8, .inl (fi))), (ho, .inl (dq, 8, .inl (fo)))]) [2, 3, 4, 5, 6, 0, 1] rfl
    have hD := hD.sub (ws' := [(h0, .inr (2, [.ref k0, .ref k1, .ref k2, .ref k3, .int en])), (k0, .inl (d0, 32, .inl (e0))), (k1, .inl (d1, 32, .inl (e1))), (k2, .inl (d2, 32, .inl (e2))), (k3, .inl (d3, 32, .inl (e3))), (hi0, .inl (di, 8, .inl (fi))), (ho, .inl (dq, 8, .inl (fo)))]) [2, 3, 4, 5, 6, 0, 1] (by decide) rfl
    have hn : sk_inv (sk_un K (31 - (16 * t + i)) (sk_dec K (16 * t + i) q0)) gg yy w4 w1 := by rw [eyy]; exact sk_inv_uB hK0 hk (by omega) hinv hw
    exact ih (i + 1) (by omega) gg yy w4 w1 H locs ls hn hP hD hS (lv_sub hl [7, 8, 9, 3, 2, 5, 4, 1, 10, 0] rfl)
set_option maxHeartbeats 1000000 in
set_option maxRecDepth 100000 in
theorem eng_dec_B {p : Program} {l : Launch} {e : Env} {s : State} {m : MethodId} {args : Array Value} {below : List Frame} {meth : Method} {c : Code} {dC : Nat → ClassId} {dI : Nat → Nat → Nat} {A : Nat → Prop} {Q : State → Prop} (h0 k0 k1 k2 k3 : Nat) (d0 d1 d2 d3 : ClassId) (e0 e1 e2 e3 : Nat → Int32) (en : Int32) (K : Nat → Nat) (tE : Nat) (hi0 ho : Nat) (di dq : ClassId) (fi fo : Nat → Int32) (q0 : sk_Q) (t : Nat) (ht : t < 2) (hx : p.tables.exec = Jvm.exec) (hb : c.code = cX2_decryptBlock) (hml : c.maxLocals = 13) (hown : s.vm.findClass RX2 = some m.cls) (hts : ∀ w ∈ lw_all, w.before args s = true) (hK : va_K (dC, dI) vwCl [(d0, .int), (d1, .int), (d2, .int), (d3, .int), (di, .byte), (dq, .byte)] s) (hA : ∀ q : Nat, s.heap.size ≤ q → A q) (hT : sk_TE tE A s) (hK0 : sk_K K) (he0 : ∀ j, j < 32 → e0 j = nI (K ((4 * j + 0) % 10))) (he1 : ∀ j, j < 32 → e1 j = nI (K ((4 * j + 1) % 10))) (he2 : ∀ j, j < 32 → e2 j = nI (K ((4 * j + 2) % 10))) (he3 : ∀ j, j < 32 → e3 j = nI (K ((4 * j + 3) % 10)))
    (hend : ∀ (w1 w2 w3 w4 : Int32) (H : Heap) (locs : List Loc) (ls : Array Slot), sk_inv (sk_dec K (16 * t + 8 + 8) q0) w1 w2 w3 w4 → va_P (dC, dI) vwCl [(h0, .inr (2, [.ref k0, .ref k1, .ref k2, .ref k3, .int en])), (k0, .inl (d0, 32, .inl (e0))), (k1, .inl (d1, 32, .inl (e1))), (k2, .inl (d2, 32, .inl (e2))), (k3, .inl (d3, 32, .inl (e3))), (hi0, .inl (di, 8, .inl (fi))), (ho, .inl (dq, 8, .inl (fo)))] H → va_D A [(h0, .inr (2, [.ref k0, .ref k1, .ref k2, .ref k3, .int en])), (k0, .inl (d0, 32, .inl (e0))), (k1, .inl (d1, 32, .inl (e1))), (k2, .inl (d2, 32, .inl (e2))), (k3, .inl (d3, 32, .inl (e3))), (hi0, .inl (di, 8, .inl (fi))), (ho, .inl (dq, 8, .inl (fo)))] → va_S A s.heap H locs → lv_has ls 13 [(0, .ref h0), (3, .ref ho), (4, .int (nI 0)), (5, .int w1), (6, .int w2), (7, .int w3), (8, .int w4), (9, .int (nI (32 - (16 * t + 8 + 8)) - 1)), (10, .int (nI t)), (11, .int (nI 8))] → W p l e (headSpec (ws_ yX2_decryptBlock cX2_decryptBlock 13 (some .int)) ({ frames := 1, cells := 0, slots := 0, locals := 28 })).room s m args below meth c H locs 0 0 Q (F0 m 201 ls [])) :
    ∀ (n i : Nat), i + n = 8 → ∀ (w1 w2 w3 w4 : Int32) (H : Heap) (locs : List Loc) (ls : Array Slot), sk_inv (sk_dec K (16 * t + 8 + i) q0) w1 w2 w3 w4 → va_P (dC, dI) vwCl [(h0, .inr (2, [.ref k0, .ref k1, .ref k2, .ref k3, .int en])), (k0, .inl (d0, 32, .inl (e0))), (k1, .inl (d1, 32, .inl (e1))), (k2, .inl (d2, 32, .inl (e2))), (k3, .inl (d3, 32, .inl (e3))), (hi0, .inl (di, 8, .inl (fi))), (ho, .inl (dq, 8, .inl (fo)))] H → va_D A [(h0, .inr (2, [.ref k0, .ref k1, .ref k2, .ref k3, .int en])), (k0, .inl (d0, 32, .inl (e0))), (k1, .inl (d1, 32, .inl (e1))), (k2, .inl (d2, 32, .inl (e2))), (k3, .inl (d3, 32, .inl (e3))), (hi0, .inl (di, 8, .inl (fi))), (ho, .inl (dq, 8, .inl (fo)))] → va_S A s.heap H locs → lv_has ls 13 [(0, .ref h0), (3, .ref ho), (4, .int (nI 0)), (5, .int w1), (6, .int w2), (7, .int w3), (8, .int w4), (9, .int (nI (32 - (16 * t + 8 + i)) - 1)), (10, .int (nI t)), (11, .int (nI i))] → W p l e (headSpec (ws_ yX2_decryptBlock cX2_decryptBlock 13 (some .int)) ({ frames := 1, cells := 0, slots := 0, locals := 28 })).room s m args below meth c H locs 0 0 Q (F0 m 151 ls []) := by
  intro n
  induction n with
  | zero =>
    intro i hi w1 w2 w3 w4 H locs ls hinv hP hD hS hl
    have hi : i = 8 := by omega
    subst hi
    refine lv_iload hx hb dX2_decryptBlock_151 (lv_at hl 9 rfl) ?_
    refine lv_bipush (v := nI 8) hx hb dX2_decryptBlock_153 (by decide) ?_
    refine sk_geY (tgt := 201) hx hb (Nat.le_refl 8) (by decide) dX2_decryptBlock_155 (by decide) ?_
    exact hend w1 w2 w3 w4 H locs ls hinv hP hD hS hl
  | succ n ih =>
    intro i hi w1 w2 w3 w4 H locs ls hinv hP hD hS hl
    have hk : 31 - (16 * t + 8 + i) < 32 := by omega
    have e9 : nI (32 - (16 * t + 8 + i)) - 1 = nI (31 - (16 * t + 8 + i)) := by rw [show 32 - (16 * t + 8 + i) = (31 - (16 * t + 8 + i)) + 1 by omega]; exact nI_pred _
    rw [e9] at hl
    refine lv_iload hx hb dX2_decryptBlock_151 (lv_at hl 9 rfl) ?_
    refine lv_bipush (v := nI 8) hx hb dX2_decryptBlock_153 (by decide) ?_
    refine sk_geN (tgt := 201) hx hb (show i < 8 by omega) (by decide) dX2_decryptBlock_155 (by decide) ?_
    refine lv_iload hx hb dX2_decryptBlock_158 (lv_at hl 5 rfl) ?_
    refine lv_istore (lv' := [(12, .int w3), (0, .ref h0), (3, .ref ho), (4, .int (nI 0)), (5, .int w1), (6, .int w2), (7, .int w3), (8, .int w4), (9, .int (nI (31 - (16 * t + 8 + i)))), (10, .int (nI t)), (11, .int (nI i))]) hx hb dX2_decryptBlock_160 hl (by decide) rfl (fun ls hl => ?_)
    refine lv_iload hx hb dX2_decryptBlock_162 (lv_at hl 7 rfl) ?_
    refine lv_istore (lv' := [(7, .int w4), (12, .int w3), (0, .ref h0), (3, .ref ho), (4, .int (nI 0)), (5, .int w1), (6, .int w2), (8, .int w4), (9, .int (nI (31 - (16 * t + 8 + i)))), (10, .int (nI t)), (11, .int (nI i))]) hx hb dX2_decryptBlock_164 hl (by decide) rfl (fun ls hl => ?_)
    refine lv_iload hx hb dX2_decryptBlock_166 (lv_at hl 6 rfl) ?_
    refine lv_iload hx hb dX2_decryptBlock_168 (lv_at hl 5 rfl) ?_
    refine lv_ixor hx hb dX2_decryptBlock_170 ?_
    refine lv_iload hx hb dX2_decryptBlock_171 (lv_at hl 8 rfl) ?_
    refine lv_iconst (v := nI 1) hx hb dX2_decryptBlock_173 (by decide) ?_
    refine lv_iadd hx hb dX2_decryptBlock_174 ?_
    refine sk_top (y := nI ((31 - (16 * t + 8 + i)) + 1)) (nI_add _ 1) ?_
    refine lv_ixor hx hb dX2_decryptBlock_175 ?_
    refine lv_topi (fun yy eyy => ?_)
    refine lv_istore (lv' := [(8, .int yy), (7, .int w4), (12, .int w3), (0, .ref h0), (3, .ref ho), (4, .int (nI 0)), (5, .int w1), (6, .int w2), (9, .int (nI (31 - (16 * t + 8 + i)))), (10, .int (nI t)), (11, .int (nI i))]) hx hb dX2_decryptBlock_176 hl (by decide) rfl (fun ls hl => ?_)
    refine lv_aload_n hx hb dX2_decryptBlock_178 rfl (lv_at hl 3 rfl) ?_
    refine lv_iload hx hb dX2_decryptBlock_179 (lv_at hl 8 rfl) ?_
    refine lv_iload hx hb dX2_decryptBlock_181 (lv_at hl 7 rfl) ?_
    have hPc := hP.sub (ws' := [(h0, .inr (2, [.ref k0, .ref k1, .ref k2, .ref k3, .int en])), (k0, .inl (d0, 32, .inl (e0))), (k1, .inl (d1, 32, .inl (e1))), (k2, .inl (d2, 32, .inl (e2))), (k3, .inl (d3, 32, .inl (e3)))]) [0, 1, 2, 3, 4] rfl
    have hDc := hD.sub (ws' := [(h0, .inr (2, [.ref k0, .ref k1, .ref k2, .ref k3, .int en])), (k0, .inl (d0, 32, .inl (e0))), (k1, .inl (d1, 32, .inl (e1))), (k2, .inl (d2, 32, .inl (e2))), (k3, .inl (d3, 32, .inl (e3)))]) [0, 1, 2, 3, 4] (by decide) rfl
    have hKc := hK.sub (tys' := [(d0, .int), (d1, .int), (d2, .int), (d3, .int)]) [0, 1, 2, 3] rfl
    have hFc := va_free (wc := [(h0, .inr (2, [.ref k0, .ref k1, .ref k2, .ref k3, .int en])), (k0, .inl (d0, 32, .inl (e0))), (k1, .inl (d1, 32, .inl (e1))), (k2, .inl (d2, 32, .inl (e2))), (k3, .inl (d3, 32, .inl (e3)))]) hD hS hA [0, 1, 2, 3, 4] rfl
    refine va_calli (va_runV (As := [.int (nI (31 - (16 * t + 8 + i))), .int w2]) (rest := []) ⟨hx, hb, hml, hown, hts⟩ (eng_h l dC dI H.size h0 k0 k1 k2 k3 d0 d1 d2 d3 e0 e1 e2 e3 en K tE (31 - (16 * t + 8 + i)) w2 hK0 he0 he1 he2 he3 hk) (cwV 2 hts (lw_V q264 q266 qs3 q11 q267) rfl rfl rfl (by decide +kernel) ⟨Nat.le_of_ble_eq_true rfl, Nat.le_of_ble_eq_true rfl⟩) ⟨fun a U g mk q => by obtain ⟨q0, q1, qP, qK, qD, qT0⟩ := q; exact ⟨q0, q1, qP, va_K.moved (u := U) (U := U.calling g mk a) (Vm.Alike.refl U.vm) qK, qD, qT0.calling⟩, va_recv hKc hPc (ci := 2) (q0 := 0) rfl rfl, fun U hU hW => ⟨rfl, by rw [hU], by rw [hU]; exact hPc, va_K.moved hW.alike hKc, hDc.weaken (fun _ _ _ _ => trivial), hT.call hW.alike hU hS hFc⟩⟩ rfl rfl hl.1 rfl (lv_room (Nat.le_of_ble_eq_true rfl)) dX2_decryptBlock_183 ⟨Nat.le_of_ble_eq_true rfl, Nat.le_of_ble_eq_true rfl⟩) hS (fun q _ h => hFc q h) hFc (fun gg uS tS H1 locs htS hvm hw hB hz1 hk1 hS => ?_)
    obtain ⟨hP1, hK1, hD1⟩ := hB
    rw [htS] at hP1
    obtain ⟨hP, hD⟩ := va_join (wr := [(hi0, .inl (di, 8, .inl (fi))), (ho, .inl (dq, 8, .inl (fo)))]) (w1 := [(h0, .inr (2, [.ref k0, .ref k1, .ref k2, .ref k3, .int en])), (k0, .inl (d0, 32, .inl (e0))), (k1, .inl (d1, 32, .inl (e1))), (k2, .inl (d2, 32, .inl (e2))), (k3, .inl (d3, 32, .inl (e3)))]) hP hD [0, 1, 2, 3, 4] [5, 6] rfl rfl (by decide) (by decide) hk1 hFc hP1 hD1
    generalize H1 = H at hP hS ⊢
    have hP : va_P (dC, dI) vwCl [(hi0, .inl (di, 8, .inl (fi))), (ho, .inl (dq, 8, .inl (fo))), (h0, .inr (2, [.ref k0, .ref k1, .ref k2, .ref k3, .int en])), (k0, .inl (d0, 32, .inl (e0))), (k1, .inl (d1, 32, .inl (e1))), (k2, .inl (d2, 32, .inl (e2))), (k3, .inl (d3, 32, .inl (e3)))] H := hP
    have hD : va_D A [(hi0, .inl (di, 8, .inl (fi))), (ho, .inl (dq, 8, .inl (fo))), (h0, .inr (2, [.ref k0, .ref k1, .ref k2, .ref k3, .int en])), (k0, .inl (d0, 32, .inl (e0))), (k1, .inl (d1, 32, .inl (e1))), (k2, .inl (d2, 32, .inl (e2))), (k3, .inl (d3, 32, .inl (e3)))] := hD
    refine W.widen (k := 0) (n := 0) (Nat.le_of_ble_eq_true rfl) (Nat.le_of_ble_eq_true rfl) ?_
    have hw : gg = nI (sk_h K (31 - (16 * t + 8 + i)) (sk_lo w2)) := hw
    refine lv_istore (lv' := [(5, .int gg), (8, .int yy), (7, .int w4), (12, .int w3), (0, .ref h0), (3, .ref ho), (4, .int (nI 0)), (6, .int w2), (9, .int (nI (31 - (16 * t + 8 + i)))), (10, .int (nI t)), (11, .int (nI i))]) hx hb dX2_decryptBlock_186 hl (by decide) rfl (fun ls hl => ?_)
    refine lv_iload hx hb dX2_decryptBlock_188 (lv_at hl 3 rfl) ?_
    refine lv_istore (lv' := [(6, .int w3), (5, .int gg), (8, .int yy), (7, .int w4), (12, .int w3), (0, .ref h0), (3, .ref ho), (4, .int (nI 0)), (9, .int (nI (31 - (16 * t + 8 + i)))), (10, .int (nI t)), (11, .int (nI i))]) hx hb dX2_decryptBlock_190 hl (by decide) rfl (fun ls hl => ?_)
    refine lv_iinc (v := nI (32 - (16 * t + 8 + (i + 1))) - 1) (lv' := [(9, .int (nI (32 - (16 * t + 8 + (i + 1))) - 1)), (6, .int w3), (5, .int gg), (8, .int yy), (7, .int w4), (12, .int w3), (0, .ref h0), (3, .ref ho), (4, .int (nI 0)), (10, .int (nI t)), (11, .int (nI i))]) hx hb dX2_decryptBlock_192 hl (k := 8) rfl ((by rw [show 32 - (16 * t + 8 + (i + 1)) = 31 - (16 * t + 8 + i) by omega]; exact sk_dec1 _)) (by decide) rfl (fun ls hl => ?_)
    refine lv_iinc (v := nI (i + 1)) (lv' := [(11, .int (nI (i + 1))), (9, .int (nI (32 - (16 * t + 8 + (i + 1))) - 1)), (6, .int w3), (5, .int gg), (8, .int yy), (7, .int w4), (12, .int w3), (0, .ref h0), (3, .ref ho), (4, .int (nI 0)), (10, .int (nI t))]) hx hb dX2_decryptBlock_195 hl (k := 10) rfl (nI_1 i) (by decide) rfl (fun ls hl => ?_)
    refine lv_goto (tgt := 151) hx hb dX2_decryptBlock_198 (by decide) ?_
    have hP := hP.sub (ws' := [(h0, .inr (2, [.ref k0, .ref k1, .ref k2, .ref k3, .int en])), (k0, .inl (d0, 32, .inl (e0))), (k1, .inl (d1, 32, .inl (e1))), (k2, .inl (d2, 32, .inl (e2))), (k3, .inl (d3, 32, .inl (e3))), (hi0, .inl (di, 8, .inl (fi))), (ho, .inl (dq, 8, .inl (fo)))]) [2, 3, 4, 5, 6, 0, 1] rfl
    have hD := hD.sub (ws' := [(h0, .inr (2, [.ref k0, .ref k1, .ref k2, .ref k3, .int en])), (k0, .inl (d0, 32, .inl (e0))), (k1, .inl (d1, 32, .inl (e1))), (k2, .inl (d2, 32, .inl (e2))), (k3, .inl (d3, 32, .inl (e3))), (hi0, .inl (di, 8, .inl (fi))), (ho, .inl (dq, 8, .inl (fo)))]) [2, 3, 4, 5, 6, 0, 1] (by decide) rfl
    have hn : sk_inv (sk_un K (31 - (16 * t + 8 + i)) (sk_dec K (16 * t + 8 + i) q0)) gg w3 w4 yy := by rw [eyy]; exact sk_inv_uA hK0 hk (by omega) hinv hw
    exact ih (i + 1) (by omega) gg w3 w4 yy H locs ls hn hP hD hS (lv_sub hl [7, 8, 9, 3, 2, 5, 4, 1, 10, 0] rfl)
set_option maxHeartbeats 1000000 in
set_option maxRecDepth 100000 in
theorem eng_dec_T {p : Program} {l : Launch} {e : Env} {s : State} {m : MethodId} {args : Array Value} {below : List Frame} {meth : Method} {c : Code} {dC : Nat → ClassId} {dI : Nat → Nat → Nat} {A : Nat → Prop} {Q : State → Prop} (h0 k0 k1 k2 k3 : Nat) (d0 d1 d2 d3 : ClassId) (e0 e1 e2 e3 : Nat → Int32) (en : Int32) (K : Nat → Nat) (tE : Nat) (hi0 ho : Nat) (di dq : ClassId) (fi fo : Nat → Int32) (q0 : sk_Q) (hx : p.tables.exec = Jvm.exec) (hb : c.code = cX2_decryptBlock) (hml : c.maxLocals = 13) (hown : s.vm.findClass RX2 = some m.cls) (hts : ∀ w ∈ lw_all, w.before args s = true) (hK : va_K (dC, dI) vwCl [(d0, .int), (d1, .int), (d2, .int), (d3, .int), (di, .byte), (dq, .byte)] s) (hA : ∀ q : Nat, s.heap.size ≤ q → A q) (hT : sk_TE tE A s) (hK0 : sk_K K) (he0 : ∀ j, j < 32 → e0 j = nI (K ((4 * j + 0) % 10))) (he1 : ∀ j, j < 32 → e1 j = nI (K ((4 * j + 1) % 10))) (he2 : ∀ j, j < 32 → e2 j = nI (K ((4 * j + 2) % 10))) (he3 : ∀ j, j < 32 → e3 j = nI (K ((4 * j + 3) % 10)))
    (hend : ∀ (w1 w2 w3 w4 : Int32) (H : Heap) (locs : List Loc) (ls : Array Slot), sk_inv (sk_dec K (16 * 2) q0) w1 w2 w3 w4 → va_P (dC, dI) vwCl [(h0, .inr (2, [.ref k0, .ref k1, .ref k2, .ref k3, .int en])), (k0, .inl (d0, 32, .inl (e0))), (k1, .inl (d1, 32, .inl (e1))), (k2, .inl (d2, 32, .inl (e2))), (k3, .inl (d3, 32, .inl (e3))), (hi0, .inl (di, 8, .inl (fi))), (ho, .inl (dq, 8, .inl (fo)))] H → va_D A [(h0, .inr (2, [.ref k0, .ref k1, .ref k2, .ref k3, .int en])), (k0, .inl (d0, 32, .inl (e0))), (k1, .inl (d1, 32, .inl (e1))), (k2, .inl (d2, 32, .inl (e2))), (k3, .inl (d3, 32, .inl (e3))), (hi0, .inl (di, 8, .inl (fi))), (ho, .inl (dq, 8, .inl (fo)))] → va_S A s.heap H locs → lv_has ls 13 [(0, .ref h0), (3, .ref ho), (4, .int (nI 0)), (5, .int w1), (6, .int w2), (7, .int w3), (8, .int w4), (9, .int (nI (32 - (16 * 2)) - 1)), (10, .int (nI 2))] → W p l e (headSpec (ws_ yX2_decryptBlock cX2_decryptBlock 13 (some .int)) ({ frames := 1, cells := 0, slots := 0, locals := 28 })).room s m args below meth c H locs 0 0 Q (F0 m 207 ls [])) :
    ∀ (n t : Nat), t + n = 2 → ∀ (w1 w2 w3 w4 : Int32) (H : Heap) (locs : List Loc) (ls : Array Slot), sk_inv (sk_dec K (16 * t) q0) w1 w2 w3 w4 → va_P (dC, dI) vwCl [(h0, .inr (2, [.ref k0, .ref k1, .ref k2, .ref k3, .int en])), (k0, .inl (d0, 32, .inl (e0))), (k1, .inl (d1, 32, .inl (e1))), (k2, .inl (d2, 32, .inl (e2))), (k3, .inl (d3, 32, .inl (e3))), (hi0, .inl (di, 8, .inl (fi))), (ho, .inl (dq, 8, .inl (fo)))] H → va_D A [(h0, .inr (2, [.ref k0, .ref k1, .ref k2, .ref k3, .int en])), (k0, .inl (d0, 32, .inl (e0))), (k1, .inl (d1, 32, .inl (e1))), (k2, .inl (d2, 32, .inl (e2))), (k3, .inl (d3, 32, .inl (e3))), (hi0, .inl (di, 8, .inl (fi))), (ho, .inl (dq, 8, .inl (fo)))] → va_S A s.heap H locs → lv_has ls 13 [(0, .ref h0), (3, .ref ho), (4, .int (nI 0)), (5, .int w1), (6, .int w2), (7, .int w3), (8, .int w4), (9, .int (nI (32 - (16 * t)) - 1)), (10, .int (nI t))] → W p l e (headSpec (ws_ yX2_decryptBlock cX2_decryptBlock 13 (some .int)) ({ frames := 1, cells := 0, slots := 0, locals := 28 })).room s m args below meth c H locs 0 0 Q (F0 m 89 ls []) := by
  intro n
  induction n with
  | zero =>
    intro t ht w1 w2 w3 w4 H locs ls hinv hP hD hS hl
    have ht : t = 2 := by omega
    subst ht
    refine lv_iload hx hb dX2_decryptBlock_89 (lv_at hl 8 rfl) ?_
    refine lv_iconst (v := nI 2) hx hb dX2_decryptBlock_91 (by decide) ?_
    refine sk_geY (tgt := 207) hx hb (Nat.le_refl 2) (by decide) dX2_decryptBlock_92 (by decide) ?_
    exact hend w1 w2 w3 w4 H locs ls hinv hP hD hS hl
  | succ n ih =>
    intro t ht w1 w2 w3 w4 H locs ls hinv hP hD hS hl
    refine lv_iload hx hb dX2_decryptBlock_89 (lv_at hl 8 rfl) ?_
    refine lv_iconst (v := nI 2) hx hb dX2_decryptBlock_91 (by decide) ?_
    refine sk_geN (tgt := 207) hx hb (show t < 2 by omega) (by decide) dX2_decryptBlock_92 (by decide) ?_
    refine lv_iconst (v := nI 0) hx hb dX2_decryptBlock_95 (by decide) ?_
    refine lv_istore (lv' := [(11, .int (nI 0)), (0, .ref h0), (3, .ref ho), (4, .int (nI 0)), (5, .int w1), (6, .int w2), (7, .int w3), (8, .int w4), (9, .int (nI (32 - (16 * t)) - 1)), (10, .int (nI t))]) hx hb dX2_decryptBlock_96 hl (by decide) rfl (fun ls hl => ?_)
    refine eng_dec_A h0 k0 k1 k2 k3 d0 d1 d2 d3 e0 e1 e2 e3 en K tE hi0 ho di dq fi fo q0 t (by omega) hx hb hml hown hts hK hA hT hK0 he0 he1 he2 he3 ?_ 8 0 (by decide) w1 w2 w3 w4 H locs ls hinv hP hD hS (lv_sub hl [1, 2, 3, 4, 5, 6, 7, 8, 9, 0] rfl)
    intro w1 w2 w3 w4 H locs ls hinv hP hD hS hl
    refine lv_iconst (v := nI 0) hx hb dX2_decryptBlock_148 (by decide) ?_
    refine lv_istore (lv' := [(11, .int (nI 0)), (0, .ref h0), (3, .ref ho), (4, .int (nI 0)), (5, .int w1), (6, .int w2), (7, .int w3), (8, .int w4), (9, .int (nI (32 - (16 * t + 8)) - 1)), (10, .int (nI t))]) hx hb dX2_decryptBlock_149 hl (by decide) rfl (fun ls hl => ?_)
    refine eng_dec_B h0 k0 k1 k2 k3 d0 d1 d2 d3 e0 e1 e2 e3 en K tE hi0 ho di dq fi fo q0 t (by omega) hx hb hml hown hts hK hA hT hK0 he0 he1 he2 he3 ?_ 8 0 (by decide) w1 w2 w3 w4 H locs ls hinv hP hD hS (lv_sub hl [1, 2, 3, 4, 5, 6, 7, 8, 9, 0] rfl)
    intro w1 w2 w3 w4 H locs ls hinv hP hD hS hl
    have e16 : 16 * t + 8 + 8 = 16 * (t + 1) := by omega
    rw [e16] at hinv hl
    refine lv_iinc (v := nI (t + 1)) (lv' := [(10, .int (nI (t + 1))), (0, .ref h0), (3, .ref ho), (4, .int (nI 0)), (5, .int w1), (6, .int w2), (7, .int w3), (8, .int w4), (9, .int (nI (32 - (16 * (t + 1))) - 1)), (11, .int (nI 8))]) hx hb dX2_decryptBlock_201 hl (k := 8) rfl (nI_1 t) (by decide) rfl (fun ls hl => ?_)
    refine lv_goto (tgt := 89) hx hb dX2_decryptBlock_204 (by decide) ?_
    exact ih (t + 1) (by omega) w1 w2 w3 w4 H locs ls hinv hP hD hS (lv_sub hl [1, 2, 3, 4, 5, 6, 7, 8, 0] rfl)
end
section
/-! SkipjackEngine.decryptBlock -/
set_option maxHeartbeats 1000000 in
set_option maxRecDepth 100000 in
/-- SkipjackEngine.X2_decryptBlock: 32 steps -/
theorem eng_dec (l : Launch) (dC : Nat → ClassId) (dI : Nat → Nat → Nat) (sz : Nat) (h0 k0 k1 k2 k3 : Nat) (d0 d1 d2 d3 : ClassId) (e0 e1 e2 e3 : Nat → Int32) (en : Int32) (K : Nat → Nat) (tE : Nat) (hi0 ho : Nat) (di dq : ClassId) (fi fo : Nat → Int32) (B : Nat → Nat) (hK0 : sk_K K) (he0 : ∀ j, j < 32 → e0 j = nI (K ((4 * j + 0) % 10))) (he1 : ∀ j, j < 32 → e1 j = nI (K ((4 * j + 1) % 10))) (he2 : ∀ j, j < 32 → e2 j = nI (K ((4 * j + 2) % 10))) (he3 : ∀ j, j < 32 → e3 j = nI (K ((4 * j + 3) % 10))) (hB : sk_B B) (hfi : ∀ j, j < 8 → fi j = sk_b (B j)) : Met l yX2_decryptBlock (ws_ yX2_decryptBlock cX2_decryptBlock 13 (some .int)) ({ frames := 1, cells := 0, slots := 0, locals := 28 }) (va_Pc [.ref h0, .ref hi0, .int (nI 0), .ref ho, .int (nI 0)] (fun U => U.heap.size = sz ∧ va_P (dC, dI) vwCl [(h0, .inr (2, [.ref k0, .ref k1, .ref k2, .ref k3, .int en])), (k0, .inl (d0, 32, .inl (e0))), (k1, .inl (d1, 32, .inl (e1))), (k2, .inl (d2, 32, .inl (e2))), (k3, .inl (d3, 32, .inl (e3))), (hi0, .inl (di, 8, .inl (fi))), (ho, .inl (dq, 8, .inl (fo)))] U.heap ∧ va_K (dC, dI) vwCl [(d0, .int), (d1, .int), (d2, .int), (d3, .int), (di, .byte), (dq, .byte)] U ∧ va_D (fun _ => True) [(h0, .inr (2, [.ref k0, .ref k1, .ref k2, .ref k3, .int en])), (k0, .inl (d0, 32, .inl (e0))), (k1, .inl (d1, 32, .inl (e1))), (k2, .inl (d2, 32, .inl (e2))), (k3, .inl (d3, 32, .inl (e3))), (hi0, .inl (di, 8, .inl (fi))), (ho, .inl (dq, 8, .inl (fo)))] ∧ sk_TE tE (va_A [(h0, .inr (2, [.ref k0, .ref k1, .ref k2, .ref k3, .int en])), (k0, .inl (d0, 32, .inl (e0))), (k1, .inl (d1, 32, .inl (e1))), (k2, .inl (d2, 32, .inl (e2))), (k3, .inl (d3, 32, .inl (e3))), (hi0, .inl (di, 8, .inl (fi))), (ho, .inl (dq, 8, .inl (fo)))] sz) U)) (va_Qi (fun (r : Int32) (_ : Unit) => True) (fun (_ : Unit) (t : State) => va_P (dC, dI) vwCl [(h0, .inr (2, [.ref k0, .ref k1, .ref k2, .ref k3, .int en])), (k0, .inl (d0, 32, .inl (e0))), (k1, .inl (d1, 32, .inl (e1))), (k2, .inl (d2, 32, .inl (e2))), (k3, .inl (d3, 32, .inl (e3))), (hi0, .inl (di, 8, .inl (fi))), (ho, .inl (dq, 8, .inl (sk_fill (fun j => sk_b (sk_by (sk_dec K 32 (sk_wd B)) j)) fo 8)))] t.heap ∧ va_K (dC, dI) vwCl [(d0, .int), (d1, .int), (d2, .int), (d3, .int), (di, .byte), (dq, .byte)] t ∧ va_D (va_A [(h0, .inr (2, [.ref k0, .ref k1, .ref k2, .ref k3, .int en])), (k0, .inl (d0, 32, .inl (e0))), (k1, .inl (d1, 32, .inl (e1))), (k2, .inl (d2, 32, .inl (e2))), (k3, .inl (d3, 32, .inl (e3))), (hi0, .inl (di, 8, .inl (fi))), (ho, .inl (dq, 8, .inl (fo)))] sz) [(h0, .inr (2, [.ref k0, .ref k1, .ref k2, .ref k3, .int en])), (k0, .inl (d0, 32, .inl (e0))), (k1, .inl (d1, 32, .inl (e1))), (k2, .inl (d2, 32, .inl (e2))), (k3, .inl (d3, 32, .inl (e3))), (hi0, .inl (di, 8, .inl (fi))), (ho, .inl (dq, 8, .inl (sk_fill (fun j => sk_b (sk_by (sk_dec K 32 (sk_wd B)) j)) fo 8)))]) (va_A [(h0, .inr (2, [.ref k0, .ref k1, .ref k2, .ref k3, .int en])), (k0, .inl (d0, 32, .inl (e0))), (k1, .inl (d1, 32, .inl (e1))), (k2, .inl (d2, 32, .inl (e2))), (k3, .inl (d3, 32, .inl (e3))), (hi0, .inl (di, 8, .inl (fi))), (ho, .inl (dq, 8, .inl (fo)))] sz)) 0 0 (va_A [(h0, .inr (2, [.ref k0, .ref k1, .ref k2, .ref k3, .int en])), (k0, .inl (d0, 32, .inl (e0))), (k1, .inl (d1, 32, .inl (e1))), (k2, .inl (d2, 32, .inl (e2))), (k3, .inl (d3, 32, .inl (e3))), (hi0, .inl (di, 8, .inl (fi))), (ho, .inl (dq, 8, .inl (fo)))] sz) := by
  refine Met.ofW (cc := cX2_decryptBlock) (maxL := 13) (ret := (some .int)) (by decide) rfl ?_
  intro p e s m args below meth c s₁ BO hml hv
  obtain ⟨rfl, hsz, hP, hK, hD0, hT⟩ := hv
  have hx := BO.exec
  have hb := BO.bytes
  have hr := BO.returns
  have hts := atoms_spec (ws := (ws_ yX2_decryptBlock cX2_decryptBlock 13 (some .int))) BO.pre
  have hts : ∀ w ∈ lw_all, w.before _ s = true := fun w h => hts w (List.mem_cons_of_mem _ h)
  have hown : s.vm.findClass RX2 = some m.cls := findClass_of_methodNamed BO.named
  have hlocks := BO.notSynchronized
  subst hsz
  have hD := hD0.self (sz := s.heap.size)
  generalize hAe : va_A [(h0, .inr (2, [.ref k0, .ref k1, .ref k2, .ref k3, .int en])), (k0, .inl (d0, 32, .inl (e0))), (k1, .inl (d1, 32, .inl (e1))), (k2, .inl (d2, 32, .inl (e2))), (k3, .inl (d3, 32, .inl (e3))), (hi0, .inl (di, 8, .inl (fi))), (ho, .inl (dq, 8, .inl (fo)))] s.heap.size = A at hD hT ⊢
  have hA : ∀ q : Nat, s.heap.size ≤ q → A q := fun q h => by rw [← hAe]; exact Or.inr h
  have hS : va_S A s.heap s.heap [] := va_S.rf
  have hP : va_P (dC, dI) vwCl [(h0, .inr (2, [.ref k0, .ref k1, .ref k2, .ref k3, .int en])), (k0, .inl (d0, 32, .inl (e0))), (k1, .inl (d1, 32, .inl (e1))), (k2, .inl (d2, 32, .inl (e2))), (k3, .inl (d3, 32, .inl (e3))), (hi0, .inl (di, 8, .inl (fi))), (ho, .inl (dq, 8, .inl (fo)))] s.heap := hP
  have hl := lv_entry ([.ref h0, .ref hi0, .int (nI 0), .ref ho, .int (nI 0)]) (n := 13) (Nat.le_of_ble_eq_true rfl)
  rw [lg_entry_eq]
  generalize (lg_sl ([.ref h0, .ref hi0, .int (nI 0), .ref ho, .int (nI 0)]) ++ List.replicate (13 - (lg_sl ([.ref h0, .ref hi0, .int (nI 0), .ref ho, .int (nI 0)])).length) Slot.unset).toArray = ls at hl ⊢
  have hl : lv_has ls 13 [(0, .ref h0), (1, .ref hi0), (2, .int (nI 0)), (3, .ref ho), (4, .int (nI 0))] := hl
  refine lv_aload_n hx hb dX2_decryptBlock_0 rfl (lv_at hl 1 rfl) ?_
  refine lv_iload_n hx hb dX2_decryptBlock_1 rfl (lv_at hl 2 rfl) ?_
  refine lv_iconst (v := nI 0) hx hb dX2_decryptBlock_2 (by decide) ?_
  refine lv_iadd hx hb dX2_decryptBlock_3 ?_
  refine sk_top (y := nI 0) (by decide) ?_
  refine sk_bald (k := 0) hx hb hK hP 5 4 rfl rfl (by decide) (by decide) dX2_decryptBlock_4 ?_
  refine sk_top (y := sk_b (B 0)) (hfi 0 (by decide)) ?_
  refine lv_bipush (v := nI 8) hx hb dX2_decryptBlock_5 (by decide) ?_
  refine lv_ishl hx hb dX2_decryptBlock_7 ?_
  refine lv_aload_n hx hb dX2_decryptBlock_8 rfl (lv_at hl 1 rfl) ?_
  refine lv_iload_n hx hb dX2_decryptBlock_9 rfl (lv_at hl 2 rfl) ?_
  refine lv_iconst (v := nI 1) hx hb dX2_decryptBlock_10 (by decide) ?_
  refine lv_iadd hx hb dX2_decryptBlock_11 ?_
  refine sk_top (y := nI 1) (by decide) ?_
  refine sk_bald (k := 1) hx hb hK hP 5 4 rfl rfl (by decide) (by decide) dX2_decryptBlock_12 ?_
  refine sk_top (y := sk_b (B 1)) (hfi 1 (by decide)) ?_
  refine lv_sipush (v := nI 255) hx hb dX2_decryptBlock_13 (by decide) ?_
  refine lv_iand hx hb dX2_decryptBlock_16 ?_
  refine lv_iadd hx hb dX2_decryptBlock_17 ?_
  refine lv_topi (fun w1 ew1 => ?_)
  refine lv_istore (lv' := [(5, .int w1), (0, .ref h0), (1, .ref hi0), (2, .int (nI 0)), (3, .ref ho), (4, .int (nI 0))]) hx hb dX2_decryptBlock_18 hl (by decide) rfl (fun ls hl => ?_)
  refine lv_aload_n hx hb dX2_decryptBlock_20 rfl (lv_at hl 2 rfl) ?_
  refine lv_iload_n hx hb dX2_decryptBlock_21 rfl (lv_at hl 3 rfl) ?_
  refine lv_iconst (v := nI 2) hx hb dX2_decryptBlock_22 (by decide) ?_
  refine lv_iadd hx hb dX2_decryptBlock_23 ?_
  refine sk_top (y := nI 2) (by decide) ?_
  refine sk_bald (k := 2) hx hb hK hP 5 4 rfl rfl (by decide) (by decide) dX2_decryptBlock_24 ?_
  refine sk_top (y := sk_b (B 2)) (hfi 2 (by decide)) ?_
  refine lv_bipush (v := nI 8) hx hb dX2_decryptBlock_25 (by decide) ?_
  refine lv_ishl hx hb dX2_decryptBlock_27 ?_
  refine lv_aload_n hx hb dX2_decryptBlock_28 rfl (lv_at hl 2 rfl) ?_
  refine lv_iload_n hx hb dX2_decryptBlock_29 rfl (lv_at hl 3 rfl) ?_
  refine lv_iconst (v := nI 3) hx hb dX2_decryptBlock_30 (by decide) ?_
  refine lv_iadd hx hb dX2_decryptBlock_31 ?_
  refine sk_top (y := nI 3) (by decide) ?_
  refine sk_bald (k := 3) hx hb hK hP 5 4 rfl rfl (by decide) (by decide) dX2_decryptBlock_32 ?_
  refine sk_top (y := sk_b (B 3)) (hfi 3 (by decide)) ?_
  refine lv_sipush (v := nI 255) hx hb dX2_decryptBlock_33 (by decide) ?_
  refine lv_iand hx hb dX2_decryptBlock_36 ?_
  refine lv_iadd hx hb dX2_decryptBlock_37 ?_
  refine lv_topi (fun w2 ew2 => ?_)
  refine lv_istore (lv' := [(6, .int w2), (5, .int w1), (0, .ref h0), (1, .ref hi0), (2, .int (nI 0)), (3, .ref ho), (4, .int (nI 0))]) hx hb dX2_decryptBlock_38 hl (by decide) rfl (fun ls hl => ?_)
  refine lv_aload_n hx hb dX2_decryptBlock_40 rfl (lv_at hl 3 rfl) ?_
  refine lv_iload_n hx hb dX2_decryptBlock_41 rfl (lv_at hl 4 rfl) ?_
  refine lv_iconst (v := nI 4) hx hb dX2_decryptBlock_42 (by decide) ?_
  refine lv_iadd hx hb dX2_decryptBlock_43 ?_
  refine sk_top (y := nI 4) (by decide) ?_
  refine sk_bald (k := 4) hx hb hK hP 5 4 rfl rfl (by decide) (by decide) dX2_decryptBlock_44 ?_
  refine sk_top (y := sk_b (B 4)) (hfi 4 (by decide)) ?_
  refine lv_bipush (v := nI 8) hx hb dX2_decryptBlock_45 (by decide) ?_
  refine lv_ishl hx hb dX2_decryptBlock_47 ?_
  refine lv_aload_n hx hb dX2_decryptBlock_48 rfl (lv_at hl 3 rfl) ?_
  refine lv_iload_n hx hb dX2_decryptBlock_49 rfl (lv_at hl 4 rfl) ?_
  refine lv_iconst (v := nI 5) hx hb dX2_decryptBlock_50 (by decide) ?_
  refine lv_iadd hx hb dX2_decryptBlock_51 ?_
  refine sk_top (y := nI 5) (by decide) ?_
  refine sk_bald (k := 5) hx hb hK hP 5 4 rfl rfl (by decide) (by decide) dX2_decryptBlock_52 ?_
  refine sk_top (y := sk_b (B 5)) (hfi 5 (by decide)) ?_
  refine lv_sipush (v := nI 255) hx hb dX2_decryptBlock_53 (by decide) ?_
  refine lv_iand hx hb dX2_decryptBlock_56 ?_
  refine lv_iadd hx hb dX2_decryptBlock_57 ?_
  refine lv_topi (fun w3 ew3 => ?_)
  refine lv_istore (lv' := [(7, .int w3), (6, .int w2), (5, .int w1), (0, .ref h0), (1, .ref hi0), (2, .int (nI 0)), (3, .ref ho), (4, .int (nI 0))]) hx hb dX2_decryptBlock_58 hl (by decide) rfl (fun ls hl => ?_)
  refine lv_aload_n hx hb dX2_decryptBlock_60 rfl (lv_at hl 4 rfl) ?_
  refine lv_iload_n hx hb dX2_decryptBlock_61 rfl (lv_at hl 5 rfl) ?_
  refine lv_bipush (v := nI 6) hx hb dX2_decryptBlock_62 (by decide) ?_
  refine lv_iadd hx hb dX2_decryptBlock_64 ?_
  refine sk_top (y := nI 6) (by decide) ?_
  refine sk_bald (k := 6) hx hb hK hP 5 4 rfl rfl (by decide) (by decide) dX2_decryptBlock_65 ?_
  refine sk_top (y := sk_b (B 6)) (hfi 6 (by decide)) ?_
  refine lv_bipush (v := nI 8) hx hb dX2_decryptBlock_66 (by decide) ?_
  refine lv_ishl hx hb dX2_decryptBlock_68 ?_
  refine lv_aload_n hx hb dX2_decryptBlock_69 rfl (lv_at hl 4 rfl) ?_
  refine lv_iload_n hx hb dX2_decryptBlock_70 rfl (lv_at hl 5 rfl) ?_
  refine lv_bipush (v := nI 7) hx hb dX2_decryptBlock_71 (by decide) ?_
  refine lv_iadd hx hb dX2_decryptBlock_73 ?_
  refine sk_top (y := nI 7) (by decide) ?_
  refine sk_bald (k := 7) hx hb hK hP 5 4 rfl rfl (by decide) (by decide) dX2_decryptBlock_74 ?_
  refine sk_top (y := sk_b (B 7)) (hfi 7 (by decide)) ?_
  refine lv_sipush (v := nI 255) hx hb dX2_decryptBlock_75 (by decide) ?_
  refine lv_iand hx hb dX2_decryptBlock_78 ?_
  refine lv_iadd hx hb dX2_decryptBlock_79 ?_
  refine lv_topi (fun w4 ew4 => ?_)
  refine lv_istore (lv' := [(8, .int w4), (7, .int w3), (6, .int w2), (5, .int w1), (0, .ref h0), (1, .ref hi0), (2, .int (nI 0)), (3, .ref ho), (4, .int (nI 0))]) hx hb dX2_decryptBlock_80 hl (by decide) rfl (fun ls hl => ?_)
  have el1 : sk_lo w1 = B 0 * 256 + B 1 := by rw [ew1]; exact sk_word (hB 0 (by decide)) (hB 1 (by decide))
  have el2 : sk_lo w2 = B 2 * 256 + B 3 := by rw [ew2]; exact sk_word (hB 2 (by decide)) (hB 3 (by decide))
  have el3 : sk_lo w3 = B 4 * 256 + B 5 := by rw [ew3]; exact sk_word (hB 4 (by decide)) (hB 5 (by decide))
  have el4 : sk_lo w4 = B 6 * 256 + B 7 := by rw [ew4]; exact sk_word (hB 6 (by decide)) (hB 7 (by decide))
  refine lv_bipush (v := nI 31) hx hb dX2_decryptBlock_82 (by decide) ?_
  refine sk_top (y := nI (32 - (16 * 0)) - 1) (by decide) ?_
  refine lv_istore (lv' := [(9, .int (nI (32 - (16 * 0)) - 1)), (8, .int w4), (7, .int w3), (6, .int w2), (5, .int w1), (0, .ref h0), (1, .ref hi0), (2, .int (nI 0)), (3, .ref ho), (4, .int (nI 0))]) hx hb dX2_decryptBlock_84 hl (by decide) rfl (fun ls hl => ?_)
  refine lv_iconst (v := nI 0) hx hb dX2_decryptBlock_86 (by decide) ?_
  refine lv_istore (lv' := [(10, .int (nI 0)), (9, .int (nI (32 - (16 * 0)) - 1)), (8, .int w4), (7, .int w3), (6, .int w2), (5, .int w1), (0, .ref h0), (1, .ref hi0), (2, .int (nI 0)), (3, .ref ho), (4, .int (nI 0))]) hx hb dX2_decryptBlock_87 hl (by decide) rfl (fun ls hl => ?_)
  refine eng_dec_T h0 k0 k1 k2 k3 d0 d1 d2 d3 e0 e1 e2 e3 en K tE hi0 ho di dq fi fo (sk_wd B) hx hb hml hown hts hK hA hT hK0 he0 he1 he2 he3 ?_ 2 0 (by decide) w1 w2 w3 w4 _ _ ls ⟨el1, el2, el3, el4⟩ hP hD hS (lv_sub hl [6, 9, 10, 5, 4, 3, 2, 1, 0] rfl)
  intro w1 w2 w3 w4 H locs ls hinv hP hD hS hl
  have hinv : sk_inv (sk_dec K 32 (sk_wd B)) w1 w2 w3 w4 := hinv
  generalize hQ : sk_dec K 32 (sk_wd B) = qq at hinv ⊢
  have hP : va_P (dC, dI) vwCl [(h0, .inr (2, [.ref k0, .ref k1, .ref k2, .ref k3, .int en])), (k0, .inl (d0, 32, .inl (e0))), (k1, .inl (d1, 32, .inl (e1))), (k2, .inl (d2, 32, .inl (e2))), (k3, .inl (d3, 32, .inl (e3))), (hi0, .inl (di, 8, .inl (fi))), (ho, .inl (dq, 8, .inl (sk_fill (fun j => sk_b (sk_by qq j)) fo 0)))] H := by rw [← sk_fill_0 (fun j => sk_b (sk_by qq j)) fo]; exact hP
  have hD : va_D A [(h0, .inr (2, [.ref k0, .ref k1, .ref k2, .ref k3, .int en])), (k0, .inl (d0, 32, .inl (e0))), (k1, .inl (d1, 32, .inl (e1))), (k2, .inl (d2, 32, .inl (e2))), (k3, .inl (d3, 32, .inl (e3))), (hi0, .inl (di, 8, .inl (fi))), (ho, .inl (dq, 8, .inl (sk_fill (fun j => sk_b (sk_by qq j)) fo 0)))] := by rw [← sk_fill_0 (fun j => sk_b (sk_by qq j)) fo]; exact hD
  refine lv_aload_n hx hb dX2_decryptBlock_207 rfl (lv_at hl 1 rfl) ?_
  refine lv_iload hx hb dX2_decryptBlock_208 (lv_at hl 2 rfl) ?_
  refine lv_iconst (v := nI 0) hx hb dX2_decryptBlock_210 (by decide) ?_
  refine lv_iadd hx hb dX2_decryptBlock_211 ?_
  refine sk_top (y := nI 0) (by decide) ?_
  refine lv_iload hx hb dX2_decryptBlock_212 (lv_at hl 3 rfl) ?_
  refine lv_bipush (v := nI 8) hx hb dX2_decryptBlock_214 (by decide) ?_
  refine lv_ishr hx hb dX2_decryptBlock_216 ?_
  refine lv_i2b (v := sk_b (sk_by qq 0)) hx hb dX2_decryptBlock_217 (by rw [sk_i8hi, hinv.1]; rfl) ?_
  refine sk_bast (k := 0) hx hb hK hP hD hS 6 5 rfl rfl (by decide) (by decide) dX2_decryptBlock_218 (fun H locs hP hD hS => ?_)
  have hP : va_P (dC, dI) vwCl [(h0, .inr (2, [.ref k0, .ref k1, .ref k2, .ref k3, .int en])), (k0, .inl (d0, 32, .inl (e0))), (k1, .inl (d1, 32, .inl (e1))), (k2, .inl (d2, 32, .inl (e2))), (k3, .inl (d3, 32, .inl (e3))), (hi0, .inl (di, 8, .inl (fi))), (ho, .inl (dq, 8, .inl (upd (sk_fill (fun j => sk_b (sk_by qq j)) fo 0) 0 (sk_b (sk_by qq 0)))))] H := hP
  have hD : va_D A [(h0, .inr (2, [.ref k0, .ref k1, .ref k2, .ref k3, .int en])), (k0, .inl (d0, 32, .inl (e0))), (k1, .inl (d1, 32, .inl (e1))), (k2, .inl (d2, 32, .inl (e2))), (k3, .inl (d3, 32, .inl (e3))), (hi0, .inl (di, 8, .inl (fi))), (ho, .inl (dq, 8, .inl (upd (sk_fill (fun j => sk_b (sk_by qq j)) fo 0) 0 (sk_b (sk_by qq 0)))))] := hD
  have hP : va_P (dC, dI) vwCl [(h0, .inr (2, [.ref k0, .ref k1, .ref k2, .ref k3, .int en])), (k0, .inl (d0, 32, .inl (e0))), (k1, .inl (d1, 32, .inl (e1))), (k2, .inl (d2, 32, .inl (e2))), (k3, .inl (d3, 32, .inl (e3))), (hi0, .inl (di, 8, .inl (fi))), (ho, .inl (dq, 8, .inl (sk_fill (fun j => sk_b (sk_by qq j)) fo 1)))] H := by rw [sk_fill_s (fun j => sk_b (sk_by qq j)) fo 0 rfl] at hP; exact hP
  have hD : va_D A [(h0, .inr (2, [.ref k0, .ref k1, .ref k2, .ref k3, .int en])), (k0, .inl (d0, 32, .inl (e0))), (k1, .inl (d1, 32, .inl (e1))), (k2, .inl (d2, 32, .inl (e2))), (k3, .inl (d3, 32, .inl (e3))), (hi0, .inl (di, 8, .inl (fi))), (ho, .inl (dq, 8, .inl (sk_fill (fun j => sk_b (sk_by qq j)) fo 1)))] := by rw [sk_fill_s (fun j => sk_b (sk_by qq j)) fo 0 rfl] at hD; exact hD
  refine lv_aload_n hx hb dX2_decryptBlock_219 rfl (lv_at hl 1 rfl) ?_
  refine lv_iload hx hb dX2_decryptBlock_220 (lv_at hl 2 rfl) ?_
  refine lv_iconst (v := nI 1) hx hb dX2_decryptBlock_222 (by decide) ?_
  refine lv_iadd hx hb dX2_decryptBlock_223 ?_
  refine sk_top (y := nI 1) (by decide) ?_
  refine lv_iload hx hb dX2_decryptBlock_224 (lv_at hl 3 rfl) ?_
  refine lv_i2b (v := sk_b (sk_by qq 1)) hx hb dX2_decryptBlock_226 (by rw [sk_i8lo, hinv.1]; rfl) ?_
  refine sk_bast (k := 1) hx hb hK hP hD hS 6 5 rfl rfl (by decide) (by decide) dX2_decryptBlock_227 (fun H locs hP hD hS => ?_)
  have hP : va_P (dC, dI) vwCl [(h0, .inr (2, [.ref k0, .ref k1, .ref k2, .ref k3, .int en])), (k0, .inl (d0, 32, .inl (e0))), (k1, .inl (d1, 32, .inl (e1))), (k2, .inl (d2, 32, .inl (e2))), (k3, .inl (d3, 32, .inl (e3))), (hi0, .inl (di, 8, .inl (fi))), (ho, .inl (dq, 8, .inl (upd (sk_fill (fun j => sk_b (sk_by qq j)) fo 1) 1 (sk_b (sk_by qq 1)))))] H := hP
  have hD : va_D A [(h0, .inr (2, [.ref k0, .ref k1, .ref k2, .ref k3, .int en])), (k0, .inl (d0, 32, .inl (e0))), (k1, .inl (d1, 32, .inl (e1))), (k2, .inl (d2, 32, .inl (e2))), (k3, .inl (d3, 32, .inl (e3))), (hi0, .inl (di, 8, .inl (fi))), (ho, .inl (dq, 8, .inl (upd (sk_fill (fun j => sk_b (sk_by qq j)) fo 1) 1 (sk_b (sk_by qq 1)))))] := hD
  have hP : va_P (dC, dI) vwCl [(h0, .inr (2, [.ref k0, .ref k1, .ref k2, .ref k3, .int en])), (k0, .inl (d0, 32, .inl (e0))), (k1, .inl (d1, 32, .inl (e1))), (k2, .inl (d2, 32, .inl (e2))), (k3, .inl (d3, 32, .inl (e3))), (hi0, .inl (di, 8, .inl (fi))), (ho, .inl (dq, 8, .inl (sk_fill (fun j => sk_b (sk_by qq j)) fo 2)))] H := by rw [sk_fill_s (fun j => sk_b (sk_by qq j)) fo 1 rfl] at hP; exact hP
  have hD : va_D A [(h0, .inr (2, [.ref k0, .ref k1, .ref k2, .ref k3, .int en])), (k0, .inl (d0, 32, .inl (e0))), (k1, .inl (d1, 32, .inl (e1))), (k2, .inl (d2, 32, .inl (e2))), (k3, .inl (d3, 32, .inl (e3))), (hi0, .inl (di, 8, .inl (fi))), (ho, .inl (dq, 8, .inl (sk_fill (fun j => sk_b (sk_by qq j)) fo 2)))] := by rw [sk_fill_s (fun j => sk_b (sk_by qq j)) fo 1 rfl] at hD; exact hD
  refine lv_aload_n hx hb dX2_decryptBlock_228 rfl (lv_at hl 1 rfl) ?_
  refine lv_iload hx hb dX2_decryptBlock_229 (lv_at hl 2 rfl) ?_
  refine lv_iconst (v := nI 2) hx hb dX2_decryptBlock_231 (by decide) ?_
  refine lv_iadd hx hb dX2_decryptBlock_232 ?_
  refine sk_top (y := nI 2) (by decide) ?_
  refine lv_iload hx hb dX2_decryptBlock_233 (lv_at hl 4 rfl) ?_
  refine lv_bipush (v := nI 8) hx hb dX2_decryptBlock_235 (by decide) ?_
  refine lv_ishr hx hb dX2_decryptBlock_237 ?_
  refine lv_i2b (v := sk_b (sk_by qq 2)) hx hb dX2_decryptBlock_238 (by rw [sk_i8hi, hinv.2.1]; rfl) ?_
  refine sk_bast (k := 2) hx hb hK hP hD hS 6 5 rfl rfl (by decide) (by decide) dX2_decryptBlock_239 (fun H locs hP hD hS => ?_)
  have hP : va_P (dC, dI) vwCl [(h0, .inr (2, [.ref k0, .ref k1, .ref k2, .ref k3, .int en])), (k0, .inl (d0, 32, .inl (e0))), (k1, .inl (d1, 32, .inl (e1))), (k2, .inl (d2, 32, .inl (e2))), (k3, .inl (d3, 32, .inl (e3))), (hi0, .inl (di, 8, .inl (fi))), (ho, .inl (dq, 8, .inl (upd (sk_fill (fun j => sk_b (sk_by qq j)) fo 2) 2 (sk_b (sk_by qq 2)))))] H := hP
  have hD : va_D A [(h0, .inr (2, [.ref k0, .ref k1, .ref k2, .ref k3, .int en])), (k0, .inl (d0, 32, .inl (e0))), (k1, .inl (d1, 32, .inl (e1))), (k2, .inl (d2, 32, .inl (e2))), (k3, .inl (d3, 32, .inl (e3))), (hi0, .inl (di, 8, .inl (fi))), (ho, .inl (dq, 8, .inl (upd (sk_fill (fun j => sk_b (sk_by qq j)) fo 2) 2 (sk_b (sk_by qq 2)))))] := hD
  have hP : va_P (dC, dI) vwCl [(h0, .inr (2, [.ref k0, .ref k1, .ref k2, .ref k3, .int en])), (k0, .inl (d0, 32, .inl (e0))), (k1, .inl (d1, 32, .inl (e1))), (k2, .inl (d2, 32, .inl (e2))), (k3, .inl (d3, 32, .inl (e3))), (hi0, .inl (di, 8, .inl (fi))), (ho, .inl (dq, 8, .inl (sk_fill (fun j => sk_b (sk_by qq j)) fo 3)))] H := by rw [sk_fill_s (fun j => sk_b (sk_by qq j)) fo 2 rfl] at hP; exact hP
  have hD : va_D A [(h0, .inr (2, [.ref k0, .ref k1, .ref k2, .ref k3, .int en])), (k0, .inl (d0, 32, .inl (e0))), (k1, .inl (d1, 32, .inl (e1))), (k2, .inl (d2, 32, .inl (e2))), (k3, .inl (d3, 32, .inl (e3))), (hi0, .inl (di, 8, .inl (fi))), (ho, .inl (dq, 8, .inl (sk_fill (fun j => sk_b (sk_by qq j)) fo 3)))] := by rw [sk_fill_s (fun j => sk_b (sk_by qq j)) fo 2 rfl] at hD; exact hD
  refine lv_aload_n hx hb dX2_decryptBlock_240 rfl (lv_at hl 1 rfl) ?_
  refine lv_iload hx hb dX2_decryptBlock_241 (lv_at hl 2 rfl) ?_
  refine lv_iconst (v := nI 3) hx hb dX2_decryptBlock_243 (by decide) ?_
  refine lv_iadd hx hb dX2_decryptBlock_244 ?_
  refine sk_top (y := nI 3) (by decide) ?_
  refine lv_iload hx hb dX2_decryptBlock_245 (lv_at hl 4 rfl) ?_
  refine lv_i2b (v := sk_b (sk_by qq 3)) hx hb dX2_decryptBlock_247 (by rw [sk_i8lo, hinv.2.1]; rfl) ?_
  refine sk_bast (k := 3) hx hb hK hP hD hS 6 5 rfl rfl (by decide) (by decide) dX2_decryptBlock_248 (fun H locs hP hD hS => ?_)
  have hP : va_P (dC, dI) vwCl [(h0, .inr (2, [.ref k0, .ref k1, .ref k2, .ref k3, .int en])), (k0, .inl (d0, 32, .inl (e0))), (k1, .inl (d1, 32, .inl (e1))), (k2, .inl (d2, 32, .inl (e2))), (k3, .inl (d3, 32, .inl (e3))), (hi0, .inl (di, 8, .inl (fi))), (ho, .inl (dq, 8, .inl (upd (sk_fill (fun j => sk_b (sk_by qq j)) fo 3) 3 (sk_b (sk_by qq 3)))))] H := hP
  have hD : va_D A [(h0, .inr (2, [.ref k0, .ref k1, .ref k2, .ref k3, .int en])), (k0, .inl (d0, 32, .inl (e0))), (k1, .inl (d1, 32, .inl (e1))), (k2, .inl (d2, 32, .inl (e2))), (k3, .inl (d3, 32, .inl (e3))), (hi0, .inl (di, 8, .inl (fi))), (ho, .inl (dq, 8, .inl (upd (sk_fill (fun j => sk_b (sk_by qq j)) fo 3) 3 (sk_b (sk_by qq 3)))))] := hD
  have hP : va_P (dC, dI) vwCl [(h0, .inr (2, [.ref k0, .ref k1, .ref k2, .ref k3, .int en])), (k0, .inl (d0, 32, .inl (e0))), (k1, .inl (d1, 32, .inl (e1))), (k2, .inl (d2, 32, .inl (e2))), (k3, .inl (d3, 32, .inl (e3))), (hi0, .inl (di, 8, .inl (fi))), (ho, .inl (dq, 8, .inl (sk_fill (fun j => sk_b (sk_by qq j)) fo 4)))] H := by rw [sk_fill_s (fun j => sk_b (sk_by qq j)) fo 3 rfl] at hP; exact hP
  have hD : va_D A [(h0, .inr (2, [.ref k0, .ref k1, .ref k2, .ref k3, .int en])), (k0, .inl (d0, 32, .inl (e0))), (k1, .inl (d1, 32, .inl (e1))), (k2, .inl (d2, 32, .inl (e2))), (k3, .inl (d3, 32, .inl (e3))), (hi0, .inl (di, 8, .inl (fi))), (ho, .inl (dq, 8, .inl (sk_fill (fun j => sk_b (sk_by qq j)) fo 4)))] := by rw [sk_fill_s (fun j => sk_b (sk_by qq j)) fo 3 rfl] at hD; exact hD
  refine lv_aload_n hx hb dX2_decryptBlock_249 rfl (lv_at hl 1 rfl) ?_
  refine lv_iload hx hb dX2_decryptBlock_250 (lv_at hl 2 rfl) ?_
  refine lv_iconst (v := nI 4) hx hb dX2_decryptBlock_252 (by decide) ?_
  refine lv_iadd hx hb dX2_decryptBlock_253 ?_
  refine sk_top (y := nI 4) (by decide) ?_
  refine lv_iload hx hb dX2_decryptBlock_254 (lv_at hl 5 rfl) ?_
  refine lv_bipush (v := nI 8) hx hb dX2_decryptBlock_256 (by decide) ?_
  refine lv_ishr hx hb dX2_decryptBlock_258 ?_
  refine lv_i2b (v := sk_b (sk_by qq 4)) hx hb dX2_decryptBlock_259 (by rw [sk_i8hi, hinv.2.2.1]; rfl) ?_
  refine sk_bast (k := 4) hx hb hK hP hD hS 6 5 rfl rfl (by decide) (by decide) dX2_decryptBlock_260 (fun H locs hP hD hS => ?_)
  have hP : va_P (dC, dI) vwCl [(h0, .inr (2, [.ref k0, .ref k1, .ref k2, .ref k3, .int en])), (k0, .inl (d0, 32, .inl (e0))), (k1, .inl (d1, 32, .inl (e1))), (k2, .inl (d2, 32, .inl (e2))), (k3, .inl (d3, 32, .inl (e3))), (hi0, .inl (di, 8, .inl (fi))), (ho, .inl (dq, 8, .inl (upd (sk_fill (fun j => sk_b (sk_by qq j)) fo 4) 4 (sk_b (sk_by qq 4)))))] H := hP
  have hD : va_D A [(h0, .inr (2, [.ref k0, .ref k1, .ref k2, .ref k3, .int en])), (k0, .inl (d0, 32, .inl (e0))), (k1, .inl (d1, 32, .inl (e1))), (k2, .inl (d2, 32, .inl (e2))), (k3, .inl (d3, 32, .inl (e3))), (hi0, .inl (di, 8, .inl (fi))), (ho, .inl (dq, 8, .inl (upd (sk_fill (fun j => sk_b (sk_by qq j)) fo 4) 4 (sk_b (sk_by qq 4)))))] := hD
  have hP : va_P (dC, dI) vwCl [(h0, .inr (2, [.ref k0, .ref k1, .ref k2, .ref k3, .int en])), (k0, .inl (d0, 32, .inl (e0))), (k1, .inl (d1, 32, .inl (e1))), (k2, .inl (d2, 32, .inl (e2))), (k3, .inl (d3, 32, .inl (e3))), (hi0, .inl (di, 8, .inl (fi))), (ho, .inl (dq, 8, .inl (sk_fill (fun j => sk_b (sk_by qq j)) fo 5)))] H := by rw [sk_fill_s (fun j => sk_b (sk_by qq j)) fo 4 rfl] at hP; exact hP
  have hD : va_D A [(h0, .inr (2, [.ref k0, .ref k1, .ref k2, .ref k3, .int en])), (k0, .inl (d0, 32, .inl (e0))), (k1, .inl (d1, 32, .inl (e1))), (k2, .inl (d2, 32, .inl (e2))), (k3, .inl (d3, 32, .inl (e3))), (hi0, .inl (di, 8, .inl (fi))), (ho, .inl (dq, 8, .inl (sk_fill (fun j => sk_b (sk_by qq j)) fo 5)))] := by rw [sk_fill_s (fun j => sk_b (sk_by qq j)) fo 4 rfl] at hD; exact hD
  refine lv_aload_n hx hb dX2_decryptBlock_261 rfl (lv_at hl 1 rfl) ?_
  refine lv_iload hx hb dX2_decryptBlock_262 (lv_at hl 2 rfl) ?_
  refine lv_iconst (v := nI 5) hx hb dX2_decryptBlock_264 (by decide) ?_
  refine lv_iadd hx hb dX2_decryptBlock_265 ?_
  refine sk_top (y := nI 5) (by decide) ?_
  refine lv_iload hx hb dX2_decryptBlock_266 (lv_at hl 5 rfl) ?_
  refine lv_i2b (v := sk_b (sk_by qq 5)) hx hb dX2_decryptBlock_268 (by rw [sk_i8lo, hinv.2.2.1]; rfl) ?_
  refine sk_bast (k := 5) hx hb hK hP hD hS 6 5 rfl rfl (by decide) (by decide) dX2_decryptBlock_269 (fun H locs hP hD hS => ?_)
  have hP : va_P (dC, dI) vwCl [(h0, .inr (2, [.ref k0, .ref k1, .ref k2, .ref k3, .int en])), (k0, .inl (d0, 32, .inl (e0))), (k1, .inl (d1, 32, .inl (e1))), (k2, .inl (d2, 32, .inl (e2))), (k3, .inl (d3, 32, .inl (e3))), (hi0, .inl (di, 8, .inl (fi))), (ho, .inl (dq, 8, .inl (upd (sk_fill (fun j => sk_b (sk_by qq j)) fo 5) 5 (sk_b (sk_by qq 5)))))] H := hP
  have hD : va_D A [(h0, .inr (2, [.ref k0, .ref k1, .ref k2, .ref k3, .int en])), (k0, .inl (d0, 32, .inl (e0))), (k1, .inl (d1, 32, .inl (e1))), (k2, .inl (d2, 32, .inl (e2))), (k3, .inl (d3, 32, .inl (e3))), (hi0, .inl (di, 8, .inl (fi))), (ho, .inl (dq, 8, .inl (upd (sk_fill (fun j => sk_b (sk_by qq j)) fo 5) 5 (sk_b (sk_by qq 5)))))] := hD
  have hP : va_P (dC, dI) vwCl [(h0, .inr (2, [.ref k0, .ref k1, .ref k2, .ref k3, .int en])), (k0, .inl (d0, 32, .inl (e0))), (k1, .inl (d1, 32, .inl (e1))), (k2, .inl (d2, 32, .inl (e2))), (k3, .inl (d3, 32, .inl (e3))), (hi0, .inl (di, 8, .inl (fi))), (ho, .inl (dq, 8, .inl (sk_fill (fun j => sk_b (sk_by qq j)) fo 6)))] H := by rw [sk_fill_s (fun j => sk_b (sk_by qq j)) fo 5 rfl] at hP; exact hP
  have hD : va_D A [(h0, .inr (2, [.ref k0, .ref k1, .ref k2, .ref k3, .int en])), (k0, .inl (d0, 32, .inl (e0))), (k1, .inl (d1, 32, .inl (e1))), (k2, .inl (d2, 32, .inl (e2))), (k3, .inl (d3, 32, .inl (e3))), (hi0, .inl (di, 8, .inl (fi))), (ho, .inl (dq, 8, .inl (sk_fill (fun j => sk_b (sk_by qq j)) fo 6)))] := by rw [sk_fill_s (fun j => sk_b (sk_by qq j)) fo 5 rfl] at hD; exact hD
  refine lv_aload_n hx hb dX2_decryptBlock_270 rfl (lv_at hl 1 rfl) ?_
  refine lv_iload hx hb dX2_decryptBlock_271 (lv_at hl 2 rfl) ?_
  refine lv_bipush (v := nI 6) hx hb dX2_decryptBlock_273 (by decide) ?_
  refine lv_iadd hx hb dX2_decryptBlock_275 ?_
  refine sk_top (y := nI 6) (by decide) ?_
  refine lv_iload hx hb dX2_decryptBlock_276 (lv_at hl 6 rfl) ?_
  refine lv_bipush (v := nI 8) hx hb dX2_decryptBlock_278 (by decide) ?_
  refine lv_ishr hx hb dX2_decryptBlock_280 ?_
  refine lv_i2b (v := sk_b (sk_by qq 6)) hx hb dX2_decryptBlock_281 (by rw [sk_i8hi, hinv.2.2.2]; rfl) ?_
  refine sk_bast (k := 6) hx hb hK hP hD hS 6 5 rfl rfl (by decide) (by decide) dX2_decryptBlock_282 (fun H locs hP hD hS => ?_)
  have hP : va_P (dC, dI) vwCl [(h0, .inr (2, [.ref k0, .ref k1, .ref k2, .ref k3, .int en])), (k0, .inl (d0, 32, .inl (e0))), (k1, .inl (d1, 32, .inl (e1))), (k2, .inl (d2, 32, .inl (e2))), (k3, .inl (d3, 32, .inl (e3))), (hi0, .inl (di, 8, .inl (fi))), (ho, .inl (dq, 8, .inl (upd (sk_fill (fun j => sk_b (sk_by qq j)) fo 6) 6 (sk_b (sk_by qq 6)))))] H := hP
  have hD : va_D A [(h0, .inr (2, [.ref k0, .ref k1, .ref k2, .ref k3, .int en])), (k0, .inl (d0, 32, .inl (e0))), (k1, .inl (d1, 32, .inl (e1))), (k2, .inl (d2, 32, .inl (e2))), (k3, .inl (d3, 32, .inl (e3))), (hi0, .inl (di, 8, .inl (fi))), (ho, .inl (dq, 8, .inl (upd (sk_fill (fun j => sk_b (sk_by qq j)) fo 6) 6 (sk_b (sk_by qq 6)))))] := hD
  have hP : va_P (dC, dI) vwCl [(h0, .inr (2, [.ref k0, .ref k1, .ref k2, .ref k3, .int en])), (k0, .inl (d0, 32, .inl (e0))), (k1, .inl (d1, 32, .inl (e1))), (k2, .inl (d2, 32, .inl (e2))), (k3, .inl (d3, 32, .inl (e3))), (hi0, .inl (di, 8, .inl (fi))), (ho, .inl (dq, 8, .inl (sk_fill (fun j => sk_b (sk_by qq j)) fo 7)))] H := by rw [sk_fill_s (fun j => sk_b (sk_by qq j)) fo 6 rfl] at hP; exact hP
  have hD : va_D A [(h0, .inr (2, [.ref k0, .ref k1, .ref k2, .ref k3, .int en])), (k0, .inl (d0, 32, .inl (e0))), (k1, .inl (d1, 32, .inl (e1))), (k2, .inl (d2, 32, .inl (e2))), (k3, .inl (d3, 32, .inl (e3))), (hi0, .inl (di, 8, .inl (fi))), (ho, .inl (dq, 8, .inl (sk_fill (fun j => sk_b (sk_by qq j)) fo 7)))] := by rw [sk_fill_s (fun j => sk_b (sk_by qq j)) fo 6 rfl] at hD; exact hD
  refine lv_aload_n hx hb dX2_decryptBlock_283 rfl (lv_at hl 1 rfl) ?_
  refine lv_iload hx hb dX2_decryptBlock_284 (lv_at hl 2 rfl) ?_
  refine lv_bipush (v := nI 7) hx hb dX2_decryptBlock_286 (by decide) ?_
  refine lv_iadd hx hb dX2_decryptBlock_288 ?_
  refine sk_top (y := nI 7) (by decide) ?_
  refine lv_iload hx hb dX2_decryptBlock_289 (lv_at hl 6 rfl) ?_
  refine lv_i2b (v := sk_b (sk_by qq 7)) hx hb dX2_decryptBlock_291 (by rw [sk_i8lo, hinv.2.2.2]; rfl) ?_
  refine sk_bast (k := 7) hx hb hK hP hD hS 6 5 rfl rfl (by decide) (by decide) dX2_decryptBlock_292 (fun H locs hP hD hS => ?_)
  have hP : va_P (dC, dI) vwCl [(h0, .inr (2, [.ref k0, .ref k1, .ref k2, .ref k3, .int en])), (k0, .inl (d0, 32, .inl (e0))), (k1, .inl (d1, 32, .inl (e1))), (k2, .inl (d2, 32, .inl (e2))), (k3, .inl (d3, 32, .inl (e3))), (hi0, .inl (di, 8, .inl (fi))), (ho, .inl (dq, 8, .inl (upd (sk_fill (fun j => sk_b (sk_by qq j)) fo 7) 7 (sk_b (sk_by qq 7)))))] H := hP
  have hD : va_D A [(h0, .inr (2, [.ref k0, .ref k1, .ref k2, .ref k3, .int en])), (k0, .inl (d0, 32, .inl (e0))), (k1, .inl (d1, 32, .inl (e1))), (k2, .inl (d2, 32, .inl (e2))), (k3, .inl (d3, 32, .inl (e3))), (hi0, .inl (di, 8, .inl (fi))), (ho, .inl (dq, 8, .inl (upd (sk_fill (fun j => sk_b (sk_by qq j)) fo 7) 7 (sk_b (sk_by qq 7)))))] := hD
  have hP : va_P (dC, dI) vwCl [(h0, .inr (2, [.ref k0, .ref k1, .ref k2, .ref k3, .int en])), (k0, .inl (d0, 32, .inl (e0))), (k1, .inl (d1, 32, .inl (e1))), (k2, .inl (d2, 32, .inl (e2))), (k3, .inl (d3, 32, .inl (e3))), (hi0, .inl (di, 8, .inl (fi))), (ho, .inl (dq, 8, .inl (sk_fill (fun j => sk_b (sk_by qq j)) fo 8)))] H := by rw [sk_fill_s (fun j => sk_b (sk_by qq j)) fo 7 rfl] at hP; exact hP
  have hD : va_D A [(h0, .inr (2, [.ref k0, .ref k1, .ref k2, .ref k3, .int en])), (k0, .inl (d0, 32, .inl (e0))), (k1, .inl (d1, 32, .inl (e1))), (k2, .inl (d2, 32, .inl (e2))), (k3, .inl (d3, 32, .inl (e3))), (hi0, .inl (di, 8, .inl (fi))), (ho, .inl (dq, 8, .inl (sk_fill (fun j => sk_b (sk_by qq j)) fo 8)))] := by rw [sk_fill_s (fun j => sk_b (sk_by qq j)) fo 7 rfl] at hD; exact hD
  refine lv_bipush (v := nI 8) hx hb dX2_decryptBlock_293 (by decide) ?_
  have hP9 := hP.sub (ws' := [(h0, .inr (2, [.ref k0, .ref k1, .ref k2, .ref k3, .int en])), (k0, .inl (d0, 32, .inl (e0))), (k1, .inl (d1, 32, .inl (e1))), (k2, .inl (d2, 32, .inl (e2))), (k3, .inl (d3, 32, .inl (e3))), (hi0, .inl (di, 8, .inl (fi))), (ho, .inl (dq, 8, .inl (sk_fill (fun j => sk_b (sk_by qq j)) fo 8)))]) [0, 1, 2, 3, 4, 5, 6] rfl
  have hD9 := hD.sub (ws' := [(h0, .inr (2, [.ref k0, .ref k1, .ref k2, .ref k3, .int en])), (k0, .inl (d0, 32, .inl (e0))), (k1, .inl (d1, 32, .inl (e1))), (k2, .inl (d2, 32, .inl (e2))), (k3, .inl (d3, 32, .inl (e3))), (hi0, .inl (di, 8, .inl (fi))), (ho, .inl (dq, 8, .inl (sk_fill (fun j => sk_b (sk_by qq j)) fo 8)))]) [0, 1, 2, 3, 4, 5, 6] (by decide) rfl
  have hK9 := hK.sub (tys' := [(d0, .int), (d1, .int), (d2, .int), (d3, .int), (di, .byte), (dq, .byte)]) [0, 1, 2, 3, 4, 5] rfl
  exact W.iret (v := nI 8) hx hb hr (fun t ht hW => ⟨⟨nI 8, (), rfl, trivial, by rw [ht]; exact hP9, va_K.moved hW.alike hK9, hD9⟩, hS.F ht⟩) hS.2.2 dX2_decryptBlock_295
end
section
/-! SkipjackEngine.encryptBlock: its loops -/
set_option maxHeartbeats 1000000 in
set_option maxRecDepth 100000 in
theorem eng_enc_A {p : Program} {l : Launch} {e : Env} {s : State} {m : MethodId} {args : Array Value} {below : List Frame} {meth : Method} {c : Code} {dC : Nat → ClassId} {dI : Nat → Nat → Nat} {A : Nat → Prop} {Q : State → Prop} (h0 k0 k1 k2 k3 : Nat) (d0 d1 d2 d3 : ClassId) (e0 e1 e2 e3 : Nat → Int32) (en : Int32) (K : Nat → Nat) (tE : Nat) (hi0 ho : Nat) (di dq : ClassId) (fi fo : Nat → Int32) (q0 : sk_Q) (t : Nat) (ht : t < 2) (hx : p.tables.exec = Jvm.exec) (hb : c.code = cX2_encryptBlock) (hml : c.maxLocals = 13) (hown : s.vm.findClass RX2 = some m.cls) (hts : ∀ w ∈ lw_all, w.before args s = true) (hK : va_K (dC, dI) vwCl [(d0, .int), (d1, .int), (d2, .int), (d3, .int), (di, .byte), (dq, .byte)] s) (hA : ∀ q : Nat, s.heap.size ≤ q → A q) (hT : sk_TE tE A s) (hK0 : sk_K K) (he0 : ∀ j, j < 32 → e0 j = nI (K ((4 * j + 0) % 10))) (he1 : ∀ j, j < 32 → e1 j = nI (K ((4 * j + 1) % 10))) (he2 : ∀ j, j < 32 → e2 j = nI (K ((4 * j + 2) % 10))) (he3 : ∀ j, j < 32 → e3 j = nI (K ((4 * j + 3) % 10)))
    (hend : ∀ (w1 w2 w3 w4 : Int32) (H : Heap) (locs : List Loc) (ls : Array Slot), sk_inv (sk_enc K (16 * t + 8) q0) w1 w2 w3 w4 → va_P (dC, dI) vwCl [(h0, .inr (2, [.ref k0, .ref k1, .ref k2, .ref k3, .int en])), (k0, .inl (d0, 32, .inl (e0))), (k1, .inl (d1, 32, .inl (e1))), (k2, .inl (d2, 32, .inl (e2))), (k3, .inl (d3, 32, .inl (e3))), (hi0, .inl (di, 8, .inl (fi))), (ho, .inl (dq, 8, .inl (fo)))] H → va_D A [(h0, .inr (2, [.ref k0, .ref k1, .ref k2, .ref k3, .int en])), (k0, .inl (d0, 32, .inl (e0))), (k1, .inl (d1, 32, .inl (e1))), (k2, .inl (d2, 32, .inl (e2))), (k3, .inl (d3, 32, .inl (e3))), (hi0, .inl (di, 8, .inl (fi))), (ho, .inl (dq, 8, .inl (fo)))] → va_S A s.heap H locs → lv_has ls 13 [(0, .ref h0), (3, .ref ho), (4, .int (nI 0)), (5, .int w1), (6, .int w2), (7, .int w3), (8, .int w4), (9, .int (nI (16 * t + 8))), (10, .int (nI t)), (11, .int (nI 8))] → W p l e (headSpec (ws_ yX2_encryptBlock cX2_encryptBlock 13 (some .int)) ({ frames := 1, cells := 0, slots := 0, locals := 28 })).room s m args below meth c H locs 0 0 Q (F0 m 147 ls [])) :
    ∀ (n i : Nat), i + n = 8 → ∀ (w1 w2 w3 w4 : Int32) (H : Heap) (locs : List Loc) (ls : Array Slot), sk_inv (sk_enc K (16 * t + i) q0) w1 w2 w3 w4 → va_P (dC, dI) vwCl [(h0, .inr (2, [.ref k0, .ref k1, .ref k2, .ref k3, .int en])), (k0, .inl (d0, 32, .inl (e0))), (k1, .inl (d1, 32, .inl (e1))), (k2, .inl (d2, 32, .inl (e2))), (k3, .inl (d3, 32, .inl (e3))), (hi0, .inl (di, 8, .inl (fi))), (ho, .inl (dq, 8, .inl (fo)))] H → va_D A [(h0, .inr (2, [.ref k0, .ref k1, .ref k2, .ref k3, .int en])), (k0, .inl (d0, 32, .inl (e0))), (k1, .inl (d1, 32, .inl (e1))), (k2, .inl (d2, 32, .inl (e2))), (k3, .inl (d3, 32, .inl (e3))), (hi0, .inl (di, 8, .inl (fi))), (ho, .inl (dq, 8, .inl (fo)))] → va_S A s.heap H locs → lv_has ls 13 [(0, .ref h0), (3, .ref ho), (4, .int (nI 0)), (5, .int w1), (6, .int w2), (7, .int w3), (8, .int w4), (9, .int (nI (16 * t + i))), (10, .int (nI t)), (11, .int (nI i))] → W p l e (headSpec (ws_ yX2_encryptBlock cX2_encryptBlock 13 (some .int)) ({ frames := 1, cells := 0, slots := 0, locals := 28 })).room s m args below meth c H locs 0 0 Q (F0 m 97 ls []) := by
  intro n
  induction n with
  | zero =>
    intro i hi w1 w2 w3 w4 H locs ls hinv hP hD hS hl
    have hi : i = 8 := by omega
    subst hi
    refine lv_iload hx hb dX2_encryptBlock_97 (lv_at hl 9 rfl) ?_
    refine lv_bipush (v := nI 8) hx hb dX2_encryptBlock_99 (by decide) ?_
    refine sk_geY (tgt := 147) hx hb (Nat.le_refl 8) (by decide) dX2_encryptBlock_101 (by decide) ?_
    exact hend w1 w2 w3 w4 H locs ls hinv hP hD hS hl
  | succ n ih =>
    intro i hi w1 w2 w3 w4 H locs ls hinv hP hD hS hl
    have hk : 16 * t + i < 32 := by omega
    refine lv_iload hx hb dX2_encryptBlock_97 (lv_at hl 9 rfl) ?_
    refine lv_bipush (v := nI 8) hx hb dX2_encryptBlock_99 (by decide) ?_
    refine sk_geN (tgt := 147) hx hb (show i < 8 by omega) (by decide) dX2_encryptBlock_101 (by decide) ?_
    refine lv_iload hx hb dX2_encryptBlock_104 (lv_at hl 6 rfl) ?_
    refine lv_istore (lv' := [(12, .int w4), (0, .ref h0), (3, .ref ho), (4, .int (nI 0)), (5, .int w1), (6, .int w2), (7, .int w3), (8, .int w4), (9, .int (nI (16 * t + i))), (10, .int (nI t)), (11, .int (nI i))]) hx hb dX2_encryptBlock_106 hl (by decide) rfl (fun ls hl => ?_)
    refine lv_iload hx hb dX2_encryptBlock_108 (lv_at hl 6 rfl) ?_
    refine lv_istore (lv' := [(8, .int w3), (12, .int w4), (0, .ref h0), (3, .ref ho), (4, .int (nI 0)), (5, .int w1), (6, .int w2), (7, .int w3), (9, .int (nI (16 * t + i))), (10, .int (nI t)), (11, .int (nI i))]) hx hb dX2_encryptBlock_110 hl (by decide) rfl (fun ls hl => ?_)
    refine lv_iload hx hb dX2_encryptBlock_112 (lv_at hl 6 rfl) ?_
    refine lv_istore (lv' := [(7, .int w2), (8, .int w3), (12, .int w4), (0, .ref h0), (3, .ref ho), (4, .int (nI 0)), (5, .int w1), (6, .int w2), (9, .int (nI (16 * t + i))), (10, .int (nI t)), (11, .int (nI i))]) hx hb dX2_encryptBlock_114 hl (by decide) rfl (fun ls hl => ?_)
    refine lv_aload_n hx hb dX2_encryptBlock_116 rfl (lv_at hl 3 rfl) ?_
    refine lv_iload hx hb dX2_encryptBlock_117 (lv_at hl 8 rfl) ?_
    refine lv_iload hx hb dX2_encryptBlock_119 (lv_at hl 6 rfl) ?_
    have hPc := hP.sub (ws' := [(h0, .inr (2, [.ref k0, .ref k1, .ref k2, .ref k3, .int en])), (k0, .inl (d0, 32, .inl (e0))), (k1, .inl (d1, 32, .inl (e1))), (k2, .inl (d2, 32, .inl (e2))), (k3, .inl (d3, 32, .inl (e3)))]) [0, 1, 2, 3, 4] rfl
    have hDc := hD.sub (ws' := [(h0, .inr (2, [.ref k0, .ref k1, .ref k2, .ref k3, .int en])), (k0, .inl (d0, 32, .inl (e0))), (k1, .inl (d1, 32, .inl (e1))), (k2, .inl (d2, 32, .inl (e2))), (k3, .inl (d3, 32, .inl (e3)))]) [0, 1, 2, 3, 4] (by decide) rfl
    have hKc := hK.sub (tys' := [(d0, .int), (d1, .int), (d2, .int), (d3, .int)]) [0, 1, 2, 3] rfl
    have hFc := va_free (wc := [(h0, .inr (2, [.ref k0, .ref k1, .ref k2, .ref k3, .int en])), (k0, .inl (d0, 32, .inl (e0))), (k1, .inl (d1, 32, .inl (e1))), (k2, .inl (d2, 32, .inl (e2))), (k3, .inl (d3, 32, .inl (e3)))]) hD hS hA [0, 1, 2, 3, 4] rfl
    refine va_calli (va_runV (As := [.int (nI (16 * t + i)), .int w1]) (rest := []) ⟨hx, hb, hml, hown, hts⟩ (eng_g l dC dI H.size h0 k0 k1 k2 k3 d0 d1 d2 d3 e0 e1 e2 e3 en K tE (16 * t + i) w1 hK0 he0 he1 he2 he3 hk) (cwV 2 hts (lw_V q254 q256 qs2 q11 q257) rfl rfl rfl (by decide +kernel) ⟨Nat.le_of_ble_eq_true rfl, Nat.le_of_ble_eq_true rfl⟩) ⟨fun a U g mk q => by obtain ⟨q0, q1, qP, qK, qD, qT0⟩ := q; exact ⟨q0, q1, qP, va_K.moved (u := U) (U := U.calling g mk a) (Vm.Alike.refl U.vm) qK, qD, qT0.calling⟩, va_recv hKc hPc (ci := 2) (q0 := 0) rfl rfl, fun U hU hW => ⟨rfl, by rw [hU], by rw [hU]; exact hPc, va_K.moved hW.alike hKc, hDc.weaken (fun _ _ _ _ => trivial), hT.call hW.alike hU hS hFc⟩⟩ rfl rfl hl.1 rfl (lv_room (Nat.le_of_ble_eq_true rfl)) dX2_encryptBlock_121 ⟨Nat.le_of_ble_eq_true rfl, Nat.le_of_ble_eq_true rfl⟩) hS (fun q _ h => hFc q h) hFc (fun gg uS tS H1 locs htS hvm hw hB hz1 hk1 hS => ?_)
    obtain ⟨hP1, hK1, hD1⟩ := hB
    rw [htS] at hP1
    obtain ⟨hP, hD⟩ := va_join (wr := [(hi0, .inl (di, 8, .inl (fi))), (ho, .inl (dq, 8, .inl (fo)))]) (w1 := [(h0, .inr (2, [.ref k0, .ref k1, .ref k2, .ref k3, .int en])), (k0, .inl (d0, 32, .inl (e0))), (k1, .inl (d1, 32, .inl (e1))), (k2, .inl (d2, 32, .inl (e2))), (k3, .inl (d3, 32, .inl (e3)))]) hP hD [0, 1, 2, 3, 4] [5, 6] rfl rfl (by decide) (by decide) hk1 hFc hP1 hD1
    generalize H1 = H at hP hS ⊢
    have hP : va_P (dC, dI) vwCl [(hi0, .inl (di, 8, .inl (fi))), (ho, .inl (dq, 8, .inl (fo))), (h0, .inr (2, [.ref k0, .ref k1, .ref k2, .ref k3, .int en])), (k0, .inl (d0, 32, .inl (e0))), (k1, .inl (d1, 32, .inl (e1))), (k2, .inl (d2, 32, .inl (e2))), (k3, .inl (d3, 32, .inl (e3)))] H := hP
    have hD : va_D A [(hi0, .inl (di, 8, .inl (fi))), (ho, .inl (dq, 8, .inl (fo))), (h0, .inr (2, [.ref k0, .ref k1, .ref k2, .ref k3, .int en])), (k0, .inl (d0, 32, .inl (e0))), (k1, .inl (d1, 32, .inl (e1))), (k2, .inl (d2, 32, .inl (e2))), (k3, .inl (d3, 32, .inl (e3)))] := hD
    refine W.widen (k := 0) (n := 0) (Nat.le_of_ble_eq_true rfl) (Nat.le_of_ble_eq_true rfl) ?_
    have hw : gg = nI (sk_g K (16 * t + i) (sk_lo w1)) := hw
    refine lv_istore (lv' := [(6, .int gg), (7, .int w2), (8, .int w3), (12, .int w4), (0, .ref h0), (3, .ref ho), (4, .int (nI 0)), (5, .int w1), (9, .int (nI (16 * t + i))), (10, .int (nI t)), (11, .int (nI i))]) hx hb dX2_encryptBlock_124 hl (by decide) rfl (fun ls hl => ?_)
    refine lv_iload hx hb dX2_encryptBlock_126 (lv_at hl 0 rfl) ?_
    refine lv_iload hx hb dX2_encryptBlock_128 (lv_at hl 3 rfl) ?_
    refine lv_ixor hx hb dX2_encryptBlock_130 ?_
    refine lv_iload hx hb dX2_encryptBlock_131 (lv_at hl 8 rfl) ?_
    refine lv_iconst (v := nI 1) hx hb dX2_encryptBlock_133 (by decide) ?_
    refine lv_iadd hx hb dX2_encryptBlock_134 ?_
    refine sk_top (y := nI ((16 * t + i) + 1)) (nI_add _ 1) ?_
    refine lv_ixor hx hb dX2_encryptBlock_135 ?_
    refine lv_topi (fun yy eyy => ?_)
    refine lv_istore (lv' := [(5, .int yy), (6, .int gg), (7, .int w2), (8, .int w3), (12, .int w4), (0, .ref h0), (3, .ref ho), (4, .int (nI 0)), (9, .int (nI (16 * t + i))), (10, .int (nI t)), (11, .int (nI i))]) hx hb dX2_encryptBlock_136 hl (by decide) rfl (fun ls hl => ?_)
    refine lv_iinc (v := nI (16 * t + (i + 1))) (lv' := [(9, .int (nI (16 * t + (i + 1)))), (5, .int yy), (6, .int gg), (7, .int w2), (8, .int w3), (12, .int w4), (0, .ref h0), (3, .ref ho), (4, .int (nI 0)), (10, .int (nI t)), (11, .int (nI i))]) hx hb dX2_encryptBlock_138 hl (k := 8) rfl (nI_1 (16 * t + i)) (by decide) rfl (fun ls hl => ?_)
    refine lv_iinc (v := nI (i + 1)) (lv' := [(11, .int (nI (i + 1))), (9, .int (nI (16 * t + (i + 1)))), (5, .int yy), (6, .int gg), (7, .int w2), (8, .int w3), (12, .int w4), (0, .ref h0), (3, .ref ho), (4, .int (nI 0)), (10, .int (nI t))]) hx hb dX2_encryptBlock_141 hl (k := 10) rfl (nI_1 i) (by decide) rfl (fun ls hl => ?_)
    refine lv_goto (tgt := 97) hx hb dX2_encryptBlock_144 (by decide) ?_
    have hP := hP.sub (ws' := [(h0, .inr (2, [.ref k0, .ref k1, .ref k2, .ref k3, .int en])), (k0, .inl (d0, 32, .inl (e0))), (k1, .inl (d1, 32, .inl (e1))), (k2, .inl (d2, 32, .inl (e2))), (k3, .inl (d3, 32, .inl (e3))), (hi0, .inl (di, 8, .inl (fi))), (ho, .inl (dq, 8, .inl (fo)))]) [2, 3, 4, 5, 6, 0, 1] rfl
    have hD := hD.sub (ws' := [(h0, .inr (2, [.ref k0, .ref k1, .ref k2, .ref k3, .int en])), (k0, .inl (d0, 32, .inl (e0))), (k1, .inl (d1, 32, .inl (e1))), (k2, .inl (d2, 32, .inl (e2))), (k3, .inl (d3, 32, .inl (e3))), (hi0, .inl (di, 8, .inl (fi))), (ho, .inl (dq, 8, .inl (fo)))]) [2, 3, 4, 5, 6, 0, 1] (by decide) rfl
    have hn : sk_inv (sk_st K (16 * t + i) (sk_enc K (16 * t + i) q0)) yy gg w2 w3 := by rw [eyy]; exact sk_inv_A hK0 hk (by omega) hinv hw
    exact ih (i + 1) (by omega) yy gg w2 w3 H locs ls hn hP hD hS (lv_sub hl [7, 8, 9, 2, 3, 4, 5, 1, 10, 0] rfl)
set_option maxHeartbeats 1000000 in
set_option maxRecDepth 100000 in
theorem eng_enc_B {p : Program} {l : Launch} {e : Env} {s : State} {m : MethodId} {args : Array Value} {below : List Frame} {meth : Method} {c : Code} {dC : Nat → ClassId} {dI : Nat → Nat → Nat} {A : Nat → Prop} {Q : State → Prop} (h0 k0 k1 k2 k3 : Nat) (d0 d1 d2 d3 : ClassId) (e0 e1 e2 e3 : Nat → Int32) (en : Int32) (K : Nat → Nat) (tE : Nat) (hi0 ho : Nat) (di dq : ClassId) (fi fo : Nat → Int32) (q0 : sk_Q) (t : Nat) (ht : t < 2) (hx : p.tables.exec = Jvm.exec) (hb : c.code = cX2_encryptBlock) (hml : c.maxLocals = 13) (hown : s.vm.findClass RX2 = some m.cls) (hts : ∀ w ∈ lw_all, w.before args s = true) (hK : va_K (dC, dI) vwCl [(d0, .int), (d1, .int), (d2, .int), (d3, .int), (di, .byte), (dq, .byte)] s) (hA : ∀ q : Nat, s.heap.size ≤ q → A q) (hT : sk_TE tE A s) (hK0 : sk_K K) (he0 : ∀ j, j < 32 → e0 j = nI (K ((4 * j + 0) % 10))) (he1 : ∀ j, j < 32 → e1 j = nI (K ((4 * j + 1) % 10))) (he2 : ∀ j, j < 32 → e2 j = nI (K ((4 * j + 2) % 10))) (he3 : ∀ j, j < 32 → e3 j = nI (K ((4 * j + 3) % 10)))
    (hend : ∀ (w1 w2 w3 w4 : Int32) (H : Heap) (locs : List Loc) (ls : Array Slot), sk_inv (sk_enc K (16 * t + 8 + 8) q0) w1 w2 w3 w4 → va_P (dC, dI) vwCl [(h0, .inr (2, [.ref k0, .ref k1, .ref k2, .ref k3, .int en])), (k0, .inl (d0, 32, .inl (e0))), (k1, .inl (d1, 32, .inl (e1))), (k2, .inl (d2, 32, .inl (e2))), (k3, .inl (d3, 32, .inl (e3))), (hi0, .inl (di, 8, .inl (fi))), (ho, .inl (dq, 8, .inl (fo)))] H → va_D A [(h0, .inr (2, [.ref k0, .ref k1, .ref k2, .ref k3, .int en])), (k0, .inl (d0, 32, .inl (e0))), (k1, .inl (d1, 32, .inl (e1))), (k2, .inl (d2, 32, .inl (e2))), (k3, .inl (d3, 32, .inl (e3))), (hi0, .inl (di, 8, .inl (fi))), (ho, .inl (dq, 8, .inl (fo)))] → va_S A s.heap H locs → lv_has ls 13 [(0, .ref h0), (3, .ref ho), (4, .int (nI 0)), (5, .int w1), (6, .int w2), (7, .int w3), (8, .int w4), (9, .int (nI (16 * t + 8 + 8))), (10, .int (nI t)), (11, .int (nI 8))] → W p l e (headSpec (ws_ yX2_encryptBlock cX2_encryptBlock 13 (some .int)) ({ frames := 1, cells := 0, slots := 0, locals := 28 })).room s m args below meth c H locs 0 0 Q (F0 m 200 ls [])) :
    ∀ (n i : Nat), i + n = 8 → ∀ (w1 w2 w3 w4 : Int32) (H : Heap) (locs : List Loc) (ls : Array Slot), sk_inv (sk_enc K (16 * t + 8 + i) q0) w1 w2 w3 w4 → va_P (dC, dI) vwCl [(h0, .inr (2, [.ref k0, .ref k1, .ref k2, .ref k3, .int en])), (k0, .inl (d0, 32, .inl (e0))), (k1, .inl (d1, 32, .inl (e1))), (k2, .inl (d2, 32, .inl (e2))), (k3, .inl (d3, 32, .inl (e3))), (hi0, .inl (di, 8, .inl (fi))), (ho, .inl (dq, 8, .inl (fo)))] H → va_D A [(h0, .inr (2, [.ref k0, .ref k1, .ref k2, .ref k3, .int en])), (k0, .inl (d0, 32, .inl (e0))), (k1, .inl (d1, 32, .inl (e1))), (k2, .inl (d2, 32, .inl (e2))), (k3, .inl (d3, 32, .inl (e3))), (hi0, .inl (di, 8, .inl (fi))), (ho, .inl (dq, 8, .inl (fo)))] → va_S A s.heap H locs → lv_has ls 13 [(0, .ref h0), (3, .ref ho), (4, .int (nI 0)), (5, .int w1), (6, .int w2), (7, .int w3), (8, .int w4), (9, .int (nI (16 * t + 8 + i))), (10, .int (nI t)), (11, .int (nI i))] → W p l e (headSpec (ws_ yX2_encryptBlock cX2_encryptBlock 13 (some .int)) ({ frames := 1, cells := 0, slots := 0, locals := 28 })).room s m args below meth c H locs 0 0 Q (F0 m 150 ls []) := by
  intro n
  induction n with
  | zero =>
    intro i hi w1 w2 w3 w4 H locs ls hinv hP hD hS hl
    have hi : i = 8 := by omega
    subst hi
    refine lv_iload hx hb dX2_encryptBlock_150 (lv_at hl 9 rfl) ?_
    refine lv_bipush (v := nI 8) hx hb dX2_encryptBlock_152 (by decide) ?_
    refine sk_geY (tgt := 200) hx hb (Nat.le_refl 8) (by decide) dX2_encryptBlock_154 (by decide) ?_
    exact hend w1 w2 w3 w4 H locs ls hinv hP hD hS hl
  | succ n ih =>
    intro i hi w1 w2 w3 w4 H locs ls hinv hP hD hS hl
    have hk : 16 * t + 8 + i < 32 := by omega
    refine lv_iload hx hb dX2_encryptBlock_150 (lv_at hl 9 rfl) ?_
    refine lv_bipush (v := nI 8) hx hb dX2_encryptBlock_152 (by decide) ?_
    refine sk_geN (tgt := 200) hx hb (show i < 8 by omega) (by decide) dX2_encryptBlock_154 (by decide) ?_
    refine lv_iload hx hb dX2_encryptBlock_157 (lv_at hl 6 rfl) ?_
    refine lv_istore (lv' := [(12, .int w4), (0, .ref h0), (3, .ref ho), (4, .int (nI 0)), (5, .int w1), (6, .int w2), (7, .int w3), (8, .int w4), (9, .int (nI (16 * t + 8 + i))), (10, .int (nI t)), (11, .int (nI i))]) hx hb dX2_encryptBlock_159 hl (by decide) rfl (fun ls hl => ?_)
    refine lv_iload hx hb dX2_encryptBlock_161 (lv_at hl 6 rfl) ?_
    refine lv_istore (lv' := [(8, .int w3), (12, .int w4), (0, .ref h0), (3, .ref ho), (4, .int (nI 0)), (5, .int w1), (6, .int w2), (7, .int w3), (9, .int (nI (16 * t + 8 + i))), (10, .int (nI t)), (11, .int (nI i))]) hx hb dX2_encryptBlock_163 hl (by decide) rfl (fun ls hl => ?_)
    refine lv_iload hx hb dX2_encryptBlock_165 (lv_at hl 5 rfl) ?_
    refine lv_iload hx hb dX2_encryptBlock_167 (lv_at hl 6 rfl) ?_
    refine lv_ixor hx hb dX2_encryptBlock_169 ?_
    refine lv_iload hx hb dX2_encryptBlock_170 (lv_at hl 8 rfl) ?_
    refine lv_iconst (v := nI 1) hx hb dX2_encryptBlock_172 (by decide) ?_
    refine lv_iadd hx hb dX2_encryptBlock_173 ?_
    refine sk_top (y := nI ((16 * t + 8 + i) + 1)) (nI_add _ 1) ?_
    refine lv_ixor hx hb dX2_encryptBlock_174 ?_
    refine lv_topi (fun yy eyy => ?_)
    refine lv_istore (lv' := [(7, .int yy), (8, .int w3), (12, .int w4), (0, .ref h0), (3, .ref ho), (4, .int (nI 0)), (5, .int w1), (6, .int w2), (9, .int (nI (16 * t + 8 + i))), (10, .int (nI t)), (11, .int (nI i))]) hx hb dX2_encryptBlock_175 hl (by decide) rfl (fun ls hl => ?_)
    refine lv_aload_n hx hb dX2_encryptBlock_177 rfl (lv_at hl 3 rfl) ?_
    refine lv_iload hx hb dX2_encryptBlock_178 (lv_at hl 8 rfl) ?_
    refine lv_iload hx hb dX2_encryptBlock_180 (lv_at hl 6 rfl) ?_
    have hPc := hP.sub (ws' := [(h0, .inr (2, [.ref k0, .ref k1, .ref k2, .ref k3, .int en])), (k0, .inl (d0, 32, .inl (e0))), (k1, .inl (d1, 32, .inl (e1))), (k2, .inl (d2, 32, .inl (e2))), (k3, .inl (d3, 32, .inl (e3)))]) [0, 1, 2, 3, 4] rfl
    have hDc := hD.sub (ws' := [(h0, .inr (2, [.ref k0, .ref k1, .ref k2, .ref k3, .int en])), (k0, .inl (d0, 32, .inl (e0))), (k1, .inl (d1, 32, .inl (e1))), (k2, .inl (d2, 32, .inl (e2))), (k3, .inl (d3, 32, .inl (e3)))]) [0, 1, 2, 3, 4] (by decide) rfl
    have hKc := hK.sub (tys' := [(d0, .int), (d1, .int), (d2, .int), (d3, .int)]) [0, 1, 2, 3] rfl
    have hFc := va_free (wc := [(h0, .inr (2, [.ref k0, .ref k1, .ref k2, .ref k3, .int en])), (k0, .inl (d0, 32, .inl (e0))), (k1, .inl (d1, 32, .inl (e1))), (k2, .inl (d2, 32, .inl (e2))), (k3, .inl (d3, 32, .inl (e3)))]) hD hS hA [0, 1, 2, 3, 4] rfl
    refine va_calli (va_runV (As := [.int (nI (16 * t + 8 + i)), .int w1]) (rest := []) ⟨hx, hb, hml, hown, hts⟩ (eng_g l dC dI H.size h0 k0 k1 k2 k3 d0 d1 d2 d3 e0 e1 e2 e3 en K tE (16 * t + 8 + i) w1 hK0 he0 he1 he2 he3 hk) (cwV 2 hts (lw_V q254 q256 qs2 q11 q257) rfl rfl rfl (by decide +kernel) ⟨Nat.le_of_ble_eq_true rfl, Nat.le_of_ble_eq_true rfl⟩) ⟨fun a U g mk q => by obtain ⟨q0, q1, qP, qK, qD, qT0⟩ := q; exact ⟨q0, q1, qP, va_K.moved (u := U) (U := U.calling g mk a) (Vm.Alike.refl U.vm) qK, qD, qT0.calling⟩, va_recv hKc hPc (ci := 2) (q0 := 0) rfl rfl, fun U hU hW => ⟨rfl, by rw [hU], by rw [hU]; exact hPc, va_K.moved hW.alike hKc, hDc.weaken (fun _ _ _ _ => trivial), hT.call hW.alike hU hS hFc⟩⟩ rfl rfl hl.1 rfl (lv_room (Nat.le_of_ble_eq_true rfl)) dX2_encryptBlock_182 ⟨Nat.le_of_ble_eq_true rfl, Nat.le_of_ble_eq_true rfl⟩) hS (fun q _ h => hFc q h) hFc (fun gg uS tS H1 locs htS hvm hw hB hz1 hk1 hS => ?_)
    obtain ⟨hP1, hK1, hD1⟩ := hB
    rw [htS] at hP1
    obtain ⟨hP, hD⟩ := va_join (wr := [(hi0, .inl (di, 8, .inl (fi))), (ho, .inl (dq, 8, .inl (fo)))]) (w1 := [(h0, .inr (2, [.ref k0, .ref k1, .ref k2, .ref k3, .int en])), (k0, .inl (d0, 32, .inl (e0))), (k1, .inl (d1, 32, .inl (e1))), (k2, .inl (d2, 32, .inl (e2))), (k3, .inl (d3, 32, .inl (e3)))]) hP hD [0, 1, 2, 3, 4] [5, 6] rfl rfl (by decide) (by decide) hk1 hFc hP1 hD1
    generalize H1 = H at hP hS ⊢
    have hP : va_P (dC, dI) vwCl [(hi0, .inl (di, 8, .inl (fi))), (ho, .inl (dq, 8, .inl (fo))), (h0, .inr (2, [.ref k0, .ref k1, .ref k2, .ref k3, .int en])), (k0, .inl (d0, 32, .inl (e0))), (k1, .inl (d1, 32, .inl (e1))), (k2, .inl (d2, 32, .inl (e2))), (k3, .inl (d3, 32, .inl (e3)))] H := hP
    have hD : va_D A [(hi0, .inl (di, 8, .inl (fi))), (ho, .inl (dq, 8, .inl (fo))), (h0, .inr (2, [.ref k0, .ref k1, .ref k2, .ref k3, .int en])), (k0, .inl (d0, 32, .inl (e0))), (k1, .inl (d1, 32, .inl (e1))), (k2, .inl (d2, 32, .inl (e2))), (k3, .inl (d3, 32, .inl (e3)))] := hD
    refine W.widen (k := 0) (n := 0) (Nat.le_of_ble_eq_true rfl) (Nat.le_of_ble_eq_true rfl) ?_
    have hw : gg = nI (sk_g K (16 * t + 8 + i) (sk_lo w1)) := hw
    refine lv_istore (lv' := [(6, .int gg), (7, .int yy), (8, .int w3), (12, .int w4), (0, .ref h0), (3, .ref ho), (4, .int (nI 0)), (5, .int w1), (9, .int (nI (16 * t + 8 + i))), (10, .int (nI t)), (11, .int (nI i))]) hx hb dX2_encryptBlock_185 hl (by decide) rfl (fun ls hl => ?_)
    refine lv_iload hx hb dX2_encryptBlock_187 (lv_at hl 3 rfl) ?_
    refine lv_istore (lv' := [(5, .int w4), (6, .int gg), (7, .int yy), (8, .int w3), (12, .int w4), (0, .ref h0), (3, .ref ho), (4, .int (nI 0)), (9, .int (nI (16 * t + 8 + i))), (10, .int (nI t)), (11, .int (nI i))]) hx hb dX2_encryptBlock_189 hl (by decide) rfl (fun ls hl => ?_)
    refine lv_iinc (v := nI (16 * t + 8 + (i + 1))) (lv' := [(9, .int (nI (16 * t + 8 + (i + 1)))), (5, .int w4), (6, .int gg), (7, .int yy), (8, .int w3), (12, .int w4), (0, .ref h0), (3, .ref ho), (4, .int (nI 0)), (10, .int (nI t)), (11, .int (nI i))]) hx hb dX2_encryptBlock_191 hl (k := 8) rfl (nI_1 (16 * t + 8 + i)) (by decide) rfl (fun ls hl => ?_)
    refine lv_iinc (v := nI (i + 1)) (lv' := [(11, .int (nI (i + 1))), (9, .int (nI (16 * t + 8 + (i + 1)))), (5, .int w4), (6, .int gg), (7, .int yy), (8, .int w3), (12, .int w4), (0, .ref h0), (3, .ref ho), (4, .int (nI 0)), (10, .int (nI t))]) hx hb dX2_encryptBlock_194 hl (k := 10) rfl (nI_1 i) (by decide) rfl (fun ls hl => ?_)
    refine lv_goto (tgt := 150) hx hb dX2_encryptBlock_197 (by decide) ?_
    have hP := hP.sub (ws' := [(h0, .inr (2, [.ref k0, .ref k1, .ref k2, .ref k3, .int en])), (k0, .inl (d0, 32, .inl (e0))), (k1, .inl (d1, 32, .inl (e1))), (k2, .inl (d2, 32, .inl (e2))), (k3, .inl (d3, 32, .inl (e3))), (hi0, .inl (di, 8, .inl (fi))), (ho, .inl (dq, 8, .inl (fo)))]) [2, 3, 4, 5, 6, 0, 1] rfl
    have hD := hD.sub (ws' := [(h0, .inr (2, [.ref k0, .ref k1, .ref k2, .ref k3, .int en])), (k0, .inl (d0, 32, .inl (e0))), (k1, .inl (d1, 32, .inl (e1))), (k2, .inl (d2, 32, .inl (e2))), (k3, .inl (d3, 32, .inl (e3))), (hi0, .inl (di, 8, .inl (fi))), (ho, .inl (dq, 8, .inl (fo)))]) [2, 3, 4, 5, 6, 0, 1] (by decide) rfl
    have hn : sk_inv (sk_st K (16 * t + 8 + i) (sk_enc K (16 * t + 8 + i) q0)) w4 gg yy w3 := by rw [eyy]; exact sk_inv_B hK0 hk (by omega) hinv hw
    exact ih (i + 1) (by omega) w4 gg yy w3 H locs ls hn hP hD hS (lv_sub hl [7, 8, 9, 2, 3, 4, 5, 1, 10, 0] rfl)
set_option maxHeartbeats 1000000 in
set_option maxRecDepth 100000 in
theorem eng_enc_T {p : Program} {l : Launch} {e : Env} {s : State} {m : MethodId} {args : Array Value} {below : List Frame} {meth : Method} {c : Code} {dC : Nat → ClassId} {dI : Nat → Nat → Nat} {A : Nat → Prop} {Q : State → Prop} (h0 k0 k1 k2 k3 : Nat) (d0 d1 d2 d3 : ClassId) (e0 e1 e2 e3 : Nat → Int32) (en : Int32) (K : Nat → Nat) (tE : Nat) (hi0 ho : Nat) (di dq : ClassId) (fi fo : Nat → Int32) (q0 : sk_Q) (hx : p.tables.exec = Jvm.exec) (hb : c.code = cX2_encryptBlock) (hml : c.maxLocals = 13) (hown : s.vm.findClass RX2 = some m.cls) (hts : ∀ w ∈ lw_all, w.before args s = true) (hK : va_K (dC, dI) vwCl [(d0, .int), (d1, .int), (d2, .int), (d3, .int), (di, .byte), (dq, .byte)] s) (hA : ∀ q : Nat, s.heap.size ≤ q → A q) (hT : sk_TE tE A s) (hK0 : sk_K K) (he0 : ∀ j, j < 32 → e0 j = nI (K ((4 * j + 0) % 10))) (he1 : ∀ j, j < 32 → e1 j = nI (K ((4 * j + 1) % 10))) (he2 : ∀ j, j < 32 → e2 j = nI (K ((4 * j + 2) % 10))) (he3 : ∀ j, j < 32 → e3 j = nI (K ((4 * j + 3) % 10)))
    (hend : ∀ (w1 w2 w3 w4 : Int32) (H : Heap) (locs : List Loc) (ls : Array Slot), sk_inv (sk_enc K (16 * 2) q0) w1 w2 w3 w4 → va_P (dC, dI) vwCl [(h0, .inr (2, [.ref k0, .ref k1, .ref k2, .ref k3, .int en])), (k0, .inl (d0, 32, .inl (e0))), (k1, .inl (d1, 32, .inl (e1))), (k2, .inl (d2, 32, .inl (e2))), (k3, .inl (d3, 32, .inl (e3))), (hi0, .inl (di, 8, .inl (fi))), (ho, .inl (dq, 8, .inl (fo)))] H → va_D A [(h0, .inr (2, [.ref k0, .ref k1, .ref k2, .ref k3, .int en])), (k0, .inl (d0, 32, .inl (e0))), (k1, .inl (d1, 32, .inl (e1))), (k2, .inl (d2, 32, .inl (e2))), (k3, .inl (d3, 32, .inl (e3))), (hi0, .inl (di, 8, .inl (fi))), (ho, .inl (dq, 8, .inl (fo)))] → va_S A s.heap H locs → lv_has ls 13 [(0, .ref h0), (3, .ref ho), (4, .int (nI 0)), (5, .int w1), (6, .int w2), (7, .int w3), (8, .int w4), (9, .int (nI (16 * 2))), (10, .int (nI 2))] → W p l e (headSpec (ws_ yX2_encryptBlock cX2_encryptBlock 13 (some .int)) ({ frames := 1, cells := 0, slots := 0, locals := 28 })).room s m args below meth c H locs 0 0 Q (F0 m 206 ls [])) :
    ∀ (n t : Nat), t + n = 2 → ∀ (w1 w2 w3 w4 : Int32) (H : Heap) (locs : List Loc) (ls : Array Slot), sk_inv (sk_enc K (16 * t) q0) w1 w2 w3 w4 → va_P (dC, dI) vwCl [(h0, .inr (2, [.ref k0, .ref k1, .ref k2, .ref k3, .int en])), (k0, .inl (d0, 32, .inl (e0))), (k1, .inl (d1, 32, .inl (e1))), (k2, .inl (d2, 32, .inl (e2))), (k3, .inl (d3, 32, .inl (e3))), (hi0, .inl (di, 8, .inl (fi))), (ho, .inl (dq, 8, .inl (fo)))] H → va_D A [(h0, .inr (2, [.ref k0, .ref k1, .ref k2, .ref k3, .int en])), (k0, .inl (d0, 32, .inl (e0))), (k1, .inl (d1, 32, .inl (e1))), (k2, .inl (d2, 32, .inl (e2))), (k3, .inl (d3, 32, .inl (e3))), (hi0, .inl (di, 8, .inl (fi))), (ho, .inl (dq, 8, .inl (fo)))] → va_S A s.heap H locs → lv_has ls 13 [(0, .ref h0), (3, .ref ho), (4, .int (nI 0)), (5, .int w1), (6, .int w2), (7, .int w3), (8, .int w4), (9, .int (nI (16 * t))), (10, .int (nI t))] → W p l e (headSpec (ws_ yX2_encryptBlock cX2_encryptBlock 13 (some .int)) ({ frames := 1, cells := 0, slots := 0, locals := 28 })).room s m args below meth c H locs 0 0 Q (F0 m 88 ls []) := by
  intro n
  induction n with
  | zero =>
    intro t ht w1 w2 w3 w4 H locs ls hinv hP hD hS hl
    have ht : t = 2 := by omega
    subst ht
    refine lv_iload hx hb dX2_encryptBlock_88 (lv_at hl 8 rfl) ?_
    refine lv_iconst (v := nI 2) hx hb dX2_encryptBlock_90 (by decide) ?_
    refine sk_geY (tgt := 206) hx hb (Nat.le_refl 2) (by decide) dX2_encryptBlock_91 (by decide) ?_
    exact hend w1 w2 w3 w4 H locs ls hinv hP hD hS hl
  | succ n ih =>
    intro t ht w1 w2 w3 w4 H locs ls hinv hP hD hS hl
    refine lv_iload hx hb dX2_encryptBlock_88 (lv_at hl 8 rfl) ?_
    refine lv_iconst (v := nI 2) hx hb dX2_encryptBlock_90 (by decide) ?_
    refine sk_geN (tgt := 206) hx hb (show t < 2 by omega) (by decide) dX2_encryptBlock_91 (by decide) ?_
    refine lv_iconst (v := nI 0) hx hb dX2_encryptBlock_94 (by decide) ?_
    refine lv_istore (lv' := [(11, .int (nI 0)), (0, .ref h0), (3, .ref ho), (4, .int (nI 0)), (5, .int w1), (6, .int w2), (7, .int w3), (8, .int w4), (9, .int (nI (16 * t))), (10, .int (nI t))]) hx hb dX2_encryptBlock_95 hl (by decide) rfl (fun ls hl => ?_)
    refine eng_enc_A h0 k0 k1 k2 k3 d0 d1 d2 d3 e0 e1 e2 e3 en K tE hi0 ho di dq fi fo q0 t (by omega) hx hb hml hown hts hK hA hT hK0 he0 he1 he2 he3 ?_ 8 0 (by decide) w1 w2 w3 w4 H locs ls hinv hP hD hS (lv_sub hl [1, 2, 3, 4, 5, 6, 7, 8, 9, 0] rfl)
    intro w1 w2 w3 w4 H locs ls hinv hP hD hS hl
    refine lv_iconst (v := nI 0) hx hb dX2_encryptBlock_147 (by decide) ?_
    refine lv_istore (lv' := [(11, .int (nI 0)), (0, .ref h0), (3, .ref ho), (4, .int (nI 0)), (5, .int w1), (6, .int w2), (7, .int w3), (8, .int w4), (9, .int (nI (16 * t + 8))), (10, .int (nI t))]) hx hb dX2_encryptBlock_148 hl (by decide) rfl (fun ls hl => ?_)
    refine eng_enc_B h0 k0 k1 k2 k3 d0 d1 d2 d3 e0 e1 e2 e3 en K tE hi0 ho di dq fi fo q0 t (by omega) hx hb hml hown hts hK hA hT hK0 he0 he1 he2 he3 ?_ 8 0 (by decide) w1 w2 w3 w4 H locs ls hinv hP hD hS (lv_sub hl [1, 2, 3, 4, 5, 6, 7, 8, 9, 0] rfl)
    intro w1 w2 w3 w4 H locs ls hinv hP hD hS hl
    have e16 : 16 * t + 8 + 8 = 16 * (t + 1) := by omega
    rw [e16] at hinv hl
    refine lv_iinc (v := nI (t + 1)) (lv' := [(10, .int (nI (t + 1))), (0, .ref h0), (3, .ref ho), (4, .int (nI 0)), (5, .int w1), (6, .int w2), (7, .int w3), (8, .int w4), (9, .int (nI (16 * (t + 1)))), (11, .int (nI 8))]) hx hb dX2_encryptBlock_200 hl (k := 8) rfl (nI_1 t) (by decide) rfl (fun ls hl => ?_)
    refine lv_goto (tgt := 88) hx hb dX2_encryptBlock_203 (by decide) ?_
    exact ih (t + 1) (by omega) w1 w2 w3 w4 H locs ls hinv hP hD hS (lv_sub hl [1, 2, 3, 4, 5, 6, 7, 8, 0] rfl)
end
section
/-! SkipjackEngine.encryptBlock -/
set_option maxHeartbeats 1000000 in
set_option maxRecDepth 100000 in
/-- SkipjackEngine.X2_encryptBlock: 32 steps -/
theorem eng_enc (l : Launch) (dC : Nat → ClassId) (dI : Nat → Nat → Nat) (sz : Nat) (h0 k0 k1 k2 k3 : Nat) (d0 d1 d2 d3 : ClassId) (e0 e1 e2 e3 : Nat → Int32) (en : Int32) (K : Nat → Nat) (tE : Nat) (hi0 ho : Nat) (di dq : ClassId) (fi fo : Nat → Int32) (B : Nat → Nat) (hK0 : sk_K K) (he0 : ∀ j, j < 32 → e0 j = nI (K ((4 * j + 0) % 10))) (he1 : ∀ j, j < 32 → e1 j = nI (K ((4 * j + 1) % 10))) (he2 : ∀ j, j < 32 → e2 j = nI (K ((4 * j + 2) % 10))) (he3 : ∀ j, j < 32 → e3 j = nI (K ((4 * j + 3) % 10))) (hB : sk_B B) (hfi : ∀ j, j < 8 → fi j = sk_b (B j)) : Met l yX2_encryptBlock (ws_ yX2_encryptBlock cX2_encryptBlock 13 (some .int)) ({ frames := 1, cells := 0, slots := 0, locals := 28 }) (va_Pc [.ref h0, .ref hi0, .int (nI 0), .ref ho, .int (nI 0)] (fun U => U.heap.size = sz ∧ va_P (dC, dI) vwCl [(h0, .inr (2, [.ref k0, .ref k1, .ref k2, .ref k3, .int en])), (k0, .inl (d0, 32, .inl (e0))), (k1, .inl (d1, 32, .inl (e1))), (k2, .inl (d2, 32, .inl (e2))), (k3, .inl (d3, 32, .inl (e3))), (hi0, .inl (di, 8, .inl (fi))), (ho, .inl (dq, 8, .inl (fo)))] U.heap ∧ va_K (dC, dI) vwCl [(d0, .int), (d1, .int), (d2, .int), (d3, .int), (di, .byte), (dq, .byte)] U ∧ va_D (fun _ => True) [(h0, .inr (2, [.ref k0, .ref k1, .ref k2, .ref k3, .int en])), (k0, .inl (d0, 32, .inl (e0))), (k1, .inl (d1, 32, .inl (e1))), (k2, .inl (d2, 32, .inl (e2))), (k3, .inl (d3, 32, .inl (e3))), (hi0, .inl (di, 8, .inl (fi))), (ho, .inl (dq, 8, .inl (fo)))] ∧ sk_TE tE (va_A [(h0, .inr (2, [.ref k0, .ref k1, .ref k2, .ref k3, .int en])), (k0, .inl (d0, 32, .inl (e0))), (k1, .inl (d1, 32, .inl (e1))), (k2, .inl (d2, 32, .inl (e2))), (k3, .inl (d3, 32, .inl (e3))), (hi0, .inl (di, 8, .inl (fi))), (ho, .inl (dq, 8, .inl (fo)))] sz) U)) (va_Qi (fun (r : Int32) (_ : Unit) => True) (fun (_ : Unit) (t : State) => va_P (dC, dI) vwCl [(h0, .inr (2, [.ref k0, .ref k1, .ref k2, .ref k3, .int en])), (k0, .inl (d0, 32, .inl (e0))), (k1, .inl (d1, 32, .inl (e1))), (k2, .inl (d2, 32, .inl (e2))), (k3, .inl (d3, 32, .inl (e3))), (hi0, .inl (di, 8, .inl (fi))), (ho, .inl (dq, 8, .inl (sk_fill (fun j => sk_b (sk_by (sk_enc K 32 (sk_wd B)) j)) fo 8)))] t.heap ∧ va_K (dC, dI) vwCl [(d0, .int), (d1, .int), (d2, .int), (d3, .int), (di, .byte), (dq, .byte)] t ∧ va_D (va_A [(h0, .inr (2, [.ref k0, .ref k1, .ref k2, .ref k3, .int en])), (k0, .inl (d0, 32, .inl (e0))), (k1, .inl (d1, 32, .inl (e1))), (k2, .inl (d2, 32, .inl (e2))), (k3, .inl (d3, 32, .inl (e3))), (hi0, .inl (di, 8, .inl (fi))), (ho, .inl (dq, 8, .inl (fo)))] sz) [(h0, .inr (2, [.ref k0, .ref k1, .ref k2, .ref k3, .int en])), (k0, .inl (d0, 32, .inl (e0))), (k1, .inl (d1, 32, .inl (e1))), (k2, .inl (d2, 32, .inl (e2))), (k3, .inl (d3, 32, .inl (e3))), (hi0, .inl (di, 8, .inl (fi))), (ho, .inl (dq, 8, .inl (sk_fill (fun j => sk_b (sk_by (sk_enc K 32 (sk_wd B)) j)) fo 8)))]) (va_A [(h0, .inr (2, [.ref k0, .ref k1, .ref k2, .ref k3, .int en])), (k0, .inl (d0, 32, .inl (e0))), (k1, .inl (d1, 32, .inl (e1))), (k2, .inl (d2, 32, .inl (e2))), (k3, .inl (d3, 32, .inl (e3))), (hi0, .inl (di, 8, .inl (fi))), (ho, .inl (dq, 8, .inl (fo)))] sz)) 0 0 (va_A [(h0, .inr (2, [.ref k0, .ref k1, .ref k2, .ref k3, .int en])), (k0, .inl (d0, 32, .inl (e0))), (k1, .inl (d1, 32, .inl (e1))), (k2, .inl (d2, 32, .inl (e2))), (k3, .inl (d3, 32, .inl (e3))), (hi0, .inl (di, 8, .inl (fi))), (ho, .inl (dq, 8, .inl (fo)))] sz) := by
  refine Met.ofW (cc := cX2_encryptBlock) (maxL := 13) (ret := (some .int)) (by decide) rfl ?_
  intro p e s m args below meth c s₁ BO hml hv
  obtain ⟨rfl, hsz, hP, hK, hD0, hT⟩ := hv
  have hx := BO.exec
  have hb := BO.bytes
  have hr := BO.returns
  have hts := atoms_spec (ws := (ws_ yX2_encryptBlock cX2_encryptBlock 13 (some .int))) BO.pre
  have hts : ∀ w ∈ lw_all, w.before _ s = true := fun w h => hts w (List.mem_cons_of_mem _ h)
  have hown : s.vm.findClass RX2 = some m.cls := findClass_of_methodNamed BO.named
  have hlocks := BO.notSynchronized
  subst hsz
  have hD := hD0.self (sz := s.heap.size)
  generalize hAe : va_A [(h0, .inr (2, [.ref k0, .ref k1, .ref k2, .ref k3, .int en])), (k0, .inl (d0, 32, .inl (e0))), (k1, .inl (d1, 32, .inl (e1))), (k2, .inl (d2, 32, .inl (e2))), (k3, .inl (d3, 32, .inl (e3))), (hi0, .inl (di, 8, .inl (fi))), (ho, .inl (dq, 8, .inl (fo)))] s.heap.size = A at hD hT ⊢
  have hA : ∀ q : Nat, s.heap.size ≤ q → A q := fun q h => by rw [← hAe]; exact Or.inr h
  have hS : va_S A s.heap s.heap [] := va_S.rf
  have hP : va_P (dC, dI) vwCl [(h0, .inr (2, [.ref k0, .ref k1, .ref k2, .ref k3, .int en])), (k0, .inl (d0, 32, .inl (e0))), (k1, .inl (d1, 32, .inl (e1))), (k2, .inl (d2, 32, .inl (e2))), (k3, .inl (d3, 32, .inl (e3))), (hi0, .inl (di, 8, .inl (fi))), (ho, .inl (dq, 8, .inl (fo)))] s.heap := hP
  have hl := lv_entry ([.ref h0, .ref hi0, .int (nI 0), .ref ho, .int (nI 0)]) (n := 13) (Nat.le_of_ble_eq_true rfl)
  rw [lg_entry_eq]
  generalize (lg_sl ([.ref h0, .ref hi0, .int (nI 0), .ref ho, .int (nI 0)]) ++ List.replicate (13 - (lg_sl ([.ref h0, .ref hi0, .int (nI 0), .ref ho, .int (nI 0)])).length) Slot.unset).toArray = ls at hl ⊢
  have hl : lv_has ls 13 [(0, .ref h0), (1, .ref hi0), (2, .int (nI 0)), (3, .ref ho), (4, .int (nI 0))] := hl
  refine lv_aload_n hx hb dX2_encryptBlock_0 rfl (lv_at hl 1 rfl) ?_
  refine lv_iload_n hx hb dX2_encryptBlock_1 rfl (lv_at hl 2 rfl) ?_
  refine lv_iconst (v := nI 0) hx hb dX2_encryptBlock_2 (by decide) ?_
  refine lv_iadd hx hb dX2_encryptBlock_3 ?_
  refine sk_top (y := nI 0) (by decide) ?_
  refine sk_bald (k := 0) hx hb hK hP 5 4 rfl rfl (by decide) (by decide) dX2_encryptBlock_4 ?_
  refine sk_top (y := sk_b (B 0)) (hfi 0 (by decide)) ?_
  refine lv_bipush (v := nI 8) hx hb dX2_encryptBlock_5 (by decide) ?_
  refine lv_ishl hx hb dX2_encryptBlock_7 ?_
  refine lv_aload_n hx hb dX2_encryptBlock_8 rfl (lv_at hl 1 rfl) ?_
  refine lv_iload_n hx hb dX2_encryptBlock_9 rfl (lv_at hl 2 rfl) ?_
  refine lv_iconst (v := nI 1) hx hb dX2_encryptBlock_10 (by decide) ?_
  refine lv_iadd hx hb dX2_encryptBlock_11 ?_
  refine sk_top (y := nI 1) (by decide) ?_
  refine sk_bald (k := 1) hx hb hK hP 5 4 rfl rfl (by decide) (by decide) dX2_encryptBlock_12 ?_
  refine sk_top (y := sk_b (B 1)) (hfi 1 (by decide)) ?_
  refine lv_sipush (v := nI 255) hx hb dX2_encryptBlock_13 (by decide) ?_
  refine lv_iand hx hb dX2_encryptBlock_16 ?_
  refine lv_iadd hx hb dX2_encryptBlock_17 ?_
  refine lv_topi (fun w1 ew1 => ?_)
  refine lv_istore (lv' := [(5, .int w1), (0, .ref h0), (1, .ref hi0), (2, .int (nI 0)), (3, .ref ho), (4, .int (nI 0))]) hx hb dX2_encryptBlock_18 hl (by decide) rfl (fun ls hl => ?_)
  refine lv_aload_n hx hb dX2_encryptBlock_20 rfl (lv_at hl 2 rfl) ?_
  refine lv_iload_n hx hb dX2_encryptBlock_21 rfl (lv_at hl 3 rfl) ?_
  refine lv_iconst (v := nI 2) hx hb dX2_encryptBlock_22 (by decide) ?_
  refine lv_iadd hx hb dX2_encryptBlock_23 ?_
  refine sk_top (y := nI 2) (by decide) ?_
  refine sk_bald (k := 2) hx hb hK hP 5 4 rfl rfl (by decide) (by decide) dX2_encryptBlock_24 ?_
  refine sk_top (y := sk_b (B 2)) (hfi 2 (by decide)) ?_
  refine lv_bipush (v := nI 8) hx hb dX2_encryptBlock_25 (by decide) ?_
  refine lv_ishl hx hb dX2_encryptBlock_27 ?_
  refine lv_aload_n hx hb dX2_encryptBlock_28 rfl (lv_at hl 2 rfl) ?_
  refine lv_iload_n hx hb dX2_encryptBlock_29 rfl (lv_at hl 3 rfl) ?_
  refine lv_iconst (v := nI 3) hx hb dX2_encryptBlock_30 (by decide) ?_
  refine lv_iadd hx hb dX2_encryptBlock_31 ?_
  refine sk_top (y := nI 3) (by decide) ?_
  refine sk_bald (k := 3) hx hb hK hP 5 4 rfl rfl (by decide) (by decide) dX2_encryptBlock_32 ?_
  refine sk_top (y := sk_b (B 3)) (hfi 3 (by decide)) ?_
  refine lv_sipush (v := nI 255) hx hb dX2_encryptBlock_33 (by decide) ?_
  refine lv_iand hx hb dX2_encryptBlock_36 ?_
  refine lv_iadd hx hb dX2_encryptBlock_37 ?_
  refine lv_topi (fun w2 ew2 => ?_)
  refine lv_istore (lv' := [(6, .int w2), (5, .int w1), (0, .ref h0), (1, .ref hi0), (2, .int (nI 0)), (3, .ref ho), (4, .int (nI 0))]) hx hb dX2_encryptBlock_38 hl (by decide) rfl (fun ls hl => ?_)
  refine lv_aload_n hx hb dX2_encryptBlock_40 rfl (lv_at hl 3 rfl) ?_
  refine lv_iload_n hx hb dX2_encryptBlock_41 rfl (lv_at hl 4 rfl) ?_
  refine lv_iconst (v := nI 4) hx hb dX2_encryptBlock_42 (by decide) ?_
  refine lv_iadd hx hb dX2_encryptBlock_43 ?_
  refine sk_top (y := nI 4) (by decide) ?_
  refine sk_bald (k := 4) hx hb hK hP 5 4 rfl rfl (by decide) (by decide) dX2_encryptBlock_44 ?_
  refine sk_top (y := sk_b (B 4)) (hfi 4 (by decide)) ?_
  refine lv_bipush (v := nI 8) hx hb dX2_encryptBlock_45 (by decide) ?_
  refine lv_ishl hx hb dX2_encryptBlock_47 ?_
  refine lv_aload_n hx hb dX2_encryptBlock_48 rfl (lv_at hl 3 rfl) ?_
  refine lv_iload_n hx hb dX2_encryptBlock_49 rfl (lv_at hl 4 rfl) ?_
  refine lv_iconst (v := nI 5) hx hb dX2_encryptBlock_50 (by decide) ?_
  refine lv_iadd hx hb dX2_encryptBlock_51 ?_
  refine sk_top (y := nI 5) (by decide) ?_
  refine sk_bald (k := 5) hx hb hK hP 5 4 rfl rfl (by decide) (by decide) dX2_encryptBlock_52 ?_
  refine sk_top (y := sk_b (B 5)) (hfi 5 (by decide)) ?_
  refine lv_sipush (v := nI 255) hx hb dX2_encryptBlock_53 (by decide) ?_
  refine lv_iand hx hb dX2_encryptBlock_56 ?_
  refine lv_iadd hx hb dX2_encryptBlock_57 ?_
  refine lv_topi (fun w3 ew3 => ?_)
  refine lv_istore (lv' := [(7, .int w3), (6, .int w2), (5, .int w1), (0, .ref h0), (1, .ref hi0), (2, .int (nI 0)), (3, .ref ho), (4, .int (nI 0))]) hx hb dX2_encryptBlock_58 hl (by decide) rfl (fun ls hl => ?_)
  refine lv_aload_n hx hb dX2_encryptBlock_60 rfl (lv_at hl 4 rfl) ?_
  refine lv_iload_n hx hb dX2_encryptBlock_61 rfl (lv_at hl 5 rfl) ?_
  refine lv_bipush (v := nI 6) hx hb dX2_encryptBlock_62 (by decide) ?_
  refine lv_iadd hx hb dX2_encryptBlock_64 ?_
  refine sk_top (y := nI 6) (by decide) ?_
  refine sk_bald (k := 6) hx hb hK hP 5 4 rfl rfl (by decide) (by decide) dX2_encryptBlock_65 ?_
  refine sk_top (y := sk_b (B 6)) (hfi 6 (by decide)) ?_
  refine lv_bipush (v := nI 8) hx hb dX2_encryptBlock_66 (by decide) ?_
  refine lv_ishl hx hb dX2_encryptBlock_68 ?_
  refine lv_aload_n hx hb dX2_encryptBlock_69 rfl (lv_at hl 4 rfl) ?_
  refine lv_iload_n hx hb dX2_encryptBlock_70 rfl (lv_at hl 5 rfl) ?_
  refine lv_bipush (v := nI 7) hx hb dX2_encryptBlock_71 (by decide) ?_
  refine lv_iadd hx hb dX2_encryptBlock_73 ?_
  refine sk_top (y := nI 7) (by decide) ?_
  refine sk_bald (k := 7) hx hb hK hP 5 4 rfl rfl (by decide) (by decide) dX2_encryptBlock_74 ?_
  refine sk_top (y := sk_b (B 7)) (hfi 7 (by decide)) ?_
  refine lv_sipush (v := nI 255) hx hb dX2_encryptBlock_75 (by decide) ?_
  refine lv_iand hx hb dX2_encryptBlock_78 ?_
  refine lv_iadd hx hb dX2_encryptBlock_79 ?_
  refine lv_topi (fun w4 ew4 => ?_)
  refine lv_istore (lv' := [(8, .int w4), (7, .int w3), (6, .int w2), (5, .int w1), (0, .ref h0), (1, .ref hi0), (2, .int (nI 0)), (3, .ref ho), (4, .int (nI 0))]) hx hb dX2_encryptBlock_80 hl (by decide) rfl (fun ls hl => ?_)
  have el1 : sk_lo w1 = B 0 * 256 + B 1 := by rw [ew1]; exact sk_word (hB 0 (by decide)) (hB 1 (by decide))
  have el2 : sk_lo w2 = B 2 * 256 + B 3 := by rw [ew2]; exact sk_word (hB 2 (by decide)) (hB 3 (by decide))
  have el3 : sk_lo w3 = B 4 * 256 + B 5 := by rw [ew3]; exact sk_word (hB 4 (by decide)) (hB 5 (by decide))
  have el4 : sk_lo w4 = B 6 * 256 + B 7 := by rw [ew4]; exact sk_word (hB 6 (by decide)) (hB 7 (by decide))
  refine lv_iconst (v := nI 0) hx hb dX2_encryptBlock_82 (by decide) ?_
  refine sk_top (y := nI (16 * 0)) (by decide) ?_
  refine lv_istore (lv' := [(9, .int (nI (16 * 0))), (8, .int w4), (7, .int w3), (6, .int w2), (5, .int w1), (0, .ref h0), (1, .ref hi0), (2, .int (nI 0)), (3, .ref ho), (4, .int (nI 0))]) hx hb dX2_encryptBlock_83 hl (by decide) rfl (fun ls hl => ?_)
  refine lv_iconst (v := nI 0) hx hb dX2_encryptBlock_85 (by decide) ?_
  refine lv_istore (lv' := [(10, .int (nI 0)), (9, .int (nI (16 * 0))), (8, .int w4), (7, .int w3), (6, .int w2), (5, .int w1), (0, .ref h0), (1, .ref hi0), (2, .int (nI 0)), (3, .ref ho), (4, .int (nI 0))]) hx hb dX2_encryptBlock_86 hl (by decide) rfl (fun ls hl => ?_)
  refine eng_enc_T h0 k0 k1 k2 k3 d0 d1 d2 d3 e0 e1 e2 e3 en K tE hi0 ho di dq fi fo (sk_wd B) hx hb hml hown hts hK hA hT hK0 he0 he1 he2 he3 ?_ 2 0 (by decide) w1 w2 w3 w4 _ _ ls ⟨el1, el2, el3, el4⟩ hP hD hS (lv_sub hl [6, 9, 10, 5, 4, 3, 2, 1, 0] rfl)
  intro w1 w2 w3 w4 H locs ls hinv hP hD hS hl
  have hinv : sk_inv (sk_enc K 32 (sk_wd B)) w1 w2 w3 w4 := hinv
  generalize hQ : sk_enc K 32 (sk_wd B) = qq at hinv ⊢
  have hP : va_P (dC, dI) vwCl [(h0, .inr (2, [.ref k0, .ref k1, .ref k2, .ref k3, .int en])), (k0, .inl (d0, 32, .inl (e0))), (k1, .inl (d1, 32, .inl (e1))), (k2, .inl (d2, 32, .inl (e2))), (k3, .inl (d3, 32, .inl (e3))), (hi0, .inl (di, 8, .inl (fi))), (ho, .inl (dq, 8, .inl (sk_fill (fun j => sk_b (sk_by qq j)) fo 0)))] H := by rw [← sk_fill_0 (fun j => sk_b (sk_by qq j)) fo]; exact hP
  have hD : va_D A [(h0, .inr (2, [.ref k0, .ref k1, .ref k2, .ref k3, .int en])), (k0, .inl (d0, 32, .inl (e0))), (k1, .inl (d1, 32, .inl (e1))), (k2, .inl (d2, 32, .inl (e2))), (k3, .inl (d3, 32, .inl (e3))), (hi0, .inl (di, 8, .inl (fi))), (ho, .inl (dq, 8, .inl (sk_fill (fun j => sk_b (sk_by qq j)) fo 0)))] := by rw [← sk_fill_0 (fun j => sk_b (sk_by qq j)) fo]; exact hD
  refine lv_aload_n hx hb dX2_encryptBlock_206 rfl (lv_at hl 1 rfl) ?_
  refine lv_iload hx hb dX2_encryptBlock_207 (lv_at hl 2 rfl) ?_
  refine lv_iconst (v := nI 0) hx hb dX2_encryptBlock_209 (by decide) ?_
  refine lv_iadd hx hb dX2_encryptBlock_210 ?_
  refine sk_top (y := nI 0) (by decide) ?_
  refine lv_iload hx hb dX2_encryptBlock_211 (lv_at hl 3 rfl) ?_
  refine lv_bipush (v := nI 8) hx hb dX2_encryptBlock_213 (by decide) ?_
  refine lv_ishr hx hb dX2_encryptBlock_215 ?_
  refine lv_i2b (v := sk_b (sk_by qq 0)) hx hb dX2_encryptBlock_216 (by rw [sk_i8hi, hinv.1]; rfl) ?_
  refine sk_bast (k := 0) hx hb hK hP hD hS 6 5 rfl rfl (by decide) (by decide) dX2_encryptBlock_217 (fun H locs hP hD hS => ?_)
  have hP : va_P (dC, dI) vwCl [(h0, .inr (2, [.ref k0, .ref k1, .ref k2, .ref k3, .int en])), (k0, .inl (d0, 32, .inl (e0))), (k1, .inl (d1, 32, .inl (e1))), (k2, .inl (d2, 32, .inl (e2))), (k3, .inl (d3, 32, .inl (e3))), (hi0, .inl (di, 8, .inl (fi))), (ho, .inl (dq, 8, .inl (upd (sk_fill (fun j => sk_b (sk_by qq j)) fo 0) 0 (sk_b (sk_by qq 0)))))] H := hP
  have hD : va_D A [(h0, .inr (2, [.ref k0, .ref k1, .ref k2, .ref k3, .int en])), (k0, .inl (d0, 32, .inl (e0))), (k1, .inl (d1, 32, .inl (e1))), (k2, .inl (d2, 32, .inl (e2))), (k3, .inl (d3, 32, .inl (e3))), (hi0, .inl (di, 8, .inl (fi))), (ho, .inl (dq, 8, .inl (upd (sk_fill (fun j => sk_b (sk_by qq j)) fo 0) 0 (sk_b (sk_by qq 0)))))] := hD
  have hP : va_P (dC, dI) vwCl [(h0, .inr (2, [.ref k0, .ref k1, .ref k2, .ref k3, .int en])), (k0, .inl (d0, 32, .inl (e0))), (k1, .inl (d1, 32, .inl (e1))), (k2, .inl (d2, 32, .inl (e2))), (k3, .inl (d3, 32, .inl (e3))), (hi0, .inl (di, 8, .inl (fi))), (ho, .inl (dq, 8, .inl (sk_fill (fun j => sk_b (sk_by qq j)) fo 1)))] H := by rw [sk_fill_s (fun j => sk_b (sk_by qq j)) fo 0 rfl] at hP; exact hP
  have hD : va_D A [(h0, .inr (2, [.ref k0, .ref k1, .ref k2, .ref k3, .int en])), (k0, .inl (d0, 32, .inl (e0))), (k1, .inl (d1, 32, .inl (e1))), (k2, .inl (d2, 32, .inl (e2))), (k3, .inl (d3, 32, .inl (e3))), (hi0, .inl (di, 8, .inl (fi))), (ho, .inl (dq, 8, .inl (sk_fill (fun j => sk_b (sk_by qq j)) fo 1)))] := by rw [sk_fill_s (fun j => sk_b (sk_by qq j)) fo 0 rfl] at hD; exact hD
  refine lv_aload_n hx hb dX2_encryptBlock_218 rfl (lv_at hl 1 rfl) ?_
  refine lv_iload hx hb dX2_encryptBlock_219 (lv_at hl 2 rfl) ?_
  refine lv_iconst (v := nI 1) hx hb dX2_encryptBlock_221 (by decide) ?_
  refine lv_iadd hx hb dX2_encryptBlock_222 ?_
  refine sk_top (y := nI 1) (by decide) ?_
  refine lv_iload hx hb dX2_encryptBlock_223 (lv_at hl 3 rfl) ?_
  refine lv_i2b (v := sk_b (sk_by qq 1)) hx hb dX2_encryptBlock_225 (by rw [sk_i8lo, hinv.1]; rfl) ?_
  refine sk_bast (k := 1) hx hb hK hP hD hS 6 5 rfl rfl (by decide) (by decide) dX2_encryptBlock_226 (fun H locs hP hD hS => ?_)
  have hP : va_P (dC, dI) vwCl [(h0, .inr (2, [.ref k0, .ref k1, .ref k2, .ref k3, .int en])), (k0, .inl (d0, 32, .inl (e0))), (k1, .inl (d1, 32, .inl (e1))), (k2, .inl (d2, 32, .inl (e2))), (k3, .inl (d3, 32, .inl (e3))), (hi0, .inl (di, 8, .inl (fi))), (ho, .inl (dq, 8, .inl (upd (sk_fill (fun j => sk_b (sk_by qq j)) fo 1) 1 (sk_b (sk_by qq 1)))))] H := hP
  have hD : va_D A [(h0, .inr (2, [.ref k0, .ref k1, .ref k2, .ref k3, .int en])), (k0, .inl (d0, 32, .inl (e0))), (k1, .inl (d1, 32, .inl (e1))), (k2, .inl (d2, 32, .inl (e2))), (k3, .inl (d3, 32, .inl (e3))), (hi0, .inl (di, 8, .inl (fi))), (ho, .inl (dq, 8, .inl (upd (sk_fill (fun j => sk_b (sk_by qq j)) fo 1) 1 (sk_b (sk_by qq 1)))))] := hD
  have hP : va_P (dC, dI) vwCl [(h0, .inr (2, [.ref k0, .ref k1, .ref k2, .ref k3, .int en])), (k0, .inl (d0, 32, .inl (e0))), (k1, .inl (d1, 32, .inl (e1))), (k2, .inl (d2, 32, .inl (e2))), (k3, .inl (d3, 32, .inl (e3))), (hi0, .inl (di, 8, .inl (fi))), (ho, .inl (dq, 8, .inl (sk_fill (fun j => sk_b (sk_by qq j)) fo 2)))] H := by rw [sk_fill_s (fun j => sk_b (sk_by qq j)) fo 1 rfl] at hP; exact hP
  have hD : va_D A [(h0, .inr (2, [.ref k0, .ref k1, .ref k2, .ref k3, .int en])), (k0, .inl (d0, 32, .inl (e0))), (k1, .inl (d1, 32, .inl (e1))), (k2, .inl (d2, 32, .inl (e2))), (k3, .inl (d3, 32, .inl (e3))), (hi0, .inl (di, 8, .inl (fi))), (ho, .inl (dq, 8, .inl (sk_fill (fun j => sk_b (sk_by qq j)) fo 2)))] := by rw [sk_fill_s (fun j => sk_b (sk_by qq j)) fo 1 rfl] at hD; exact hD
  refine lv_aload_n hx hb dX2_encryptBlock_227 rfl (lv_at hl 1 rfl) ?_
  refine lv_iload hx hb dX2_encryptBlock_228 (lv_at hl 2 rfl) ?_
  refine lv_iconst (v := nI 2) hx hb dX2_encryptBlock_230 (by decide) ?_
  refine lv_iadd hx hb dX2_encryptBlock_231 ?_
  refine sk_top (y := nI 2) (by decide) ?_
  refine lv_iload hx hb dX2_encryptBlock_232 (lv_at hl 4 rfl) ?_
  refine lv_bipush (v := nI 8) hx hb dX2_encryptBlock_234 (by decide) ?_
  refine lv_ishr hx hb dX2_encryptBlock_236 ?_
  refine lv_i2b (v := sk_b (sk_by qq 2)) hx hb dX2_encryptBlock_237 (by rw [sk_i8hi, hinv.2.1]; rfl) ?_
  refine sk_bast (k := 2) hx hb hK hP hD hS 6 5 rfl rfl (by decide) (by decide) dX2_encryptBlock_238 (fun H locs hP hD hS => ?_)
  have hP : va_P (dC, dI) vwCl [(h0, .inr (2, [.ref k0, .ref k1, .ref k2, .ref k3, .int en])), (k0, .inl (d0, 32, .inl (e0))), (k1, .inl (d1, 32, .inl (e1))), (k2, .inl (d2, 32, .inl (e2))), (k3, .inl (d3, 32, .inl (e3))), (hi0, .inl (di, 8, .inl (fi))), (ho, .inl (dq, 8, .inl (upd (sk_fill (fun j => sk_b (sk_by qq j)) fo 2) 2 (sk_b (sk_by qq 2)))))] H := hP
  have hD : va_D A [(h0, .inr (2, [.ref k0, .ref k1, .ref k2, .ref k3, .int en])), (k0, .inl (d0, 32, .inl (e0))), (k1, .inl (d1, 32, .inl (e1))), (k2, .inl (d2, 32, .inl (e2))), (k3, .inl (d3, 32, .inl (e3))), (hi0, .inl (di, 8, .inl (fi))), (ho, .inl (dq, 8, .inl (upd (sk_fill (fun j => sk_b (sk_by qq j)) fo 2) 2 (sk_b (sk_by qq 2)))))] := hD
  have hP : va_P (dC, dI) vwCl [(h0, .inr (2, [.ref k0, .ref k1, .ref k2, .ref k3, .int en])), (k0, .inl (d0, 32, .inl (e0))), (k1, .inl (d1, 32, .inl (e1))), (k2, .inl (d2, 32, .inl (e2))), (k3, .inl (d3, 32, .inl (e3))), (hi0, .inl (di, 8, .inl (fi))), (ho, .inl (dq, 8, .inl (sk_fill (fun j => sk_b (sk_by qq j)) fo 3)))] H := by rw [sk_fill_s (fun j => sk_b (sk_by qq j)) fo 2 rfl] at hP; exact hP
  have hD : va_D A [(h0, .inr (2, [.ref k0, .ref k1, .ref k2, .ref k3, .int en])), (k0, .inl (d0, 32, .inl (e0))), (k1, .inl (d1, 32, .inl (e1))), (k2, .inl (d2, 32, .inl (e2))), (k3, .inl (d3, 32, .inl (e3))), (hi0, .inl (di, 8, .inl (fi))), (ho, .inl (dq, 8, .inl (sk_fill (fun j => sk_b (sk_by qq j)) fo 3)))] := by rw [sk_fill_s (fun j => sk_b (sk_by qq j)) fo 2 rfl] at hD; exact hD
  refine lv_aload_n hx hb dX2_encryptBlock_239 rfl (lv_at hl 1 rfl) ?_
  refine lv_iload hx hb dX2_encryptBlock_240 (lv_at hl 2 rfl) ?_
  refine lv_iconst (v := nI 3) hx hb dX2_encryptBlock_242 (by decide) ?_
  refine lv_iadd hx hb dX2_encryptBlock_243 ?_
  refine sk_top (y := nI 3) (by decide) ?_
  refine lv_iload hx hb dX2_encryptBlock_244 (lv_at hl 4 rfl) ?_
  refine lv_i2b (v := sk_b (sk_by qq 3)) hx hb dX2_encryptBlock_246 (by rw [sk_i8lo, hinv.2.1]; rfl) ?_
  refine sk_bast (k := 3) hx hb hK hP hD hS 6 5 rfl rfl (by decide) (by decide) dX2_encryptBlock_247 (fun H locs hP hD hS => ?_)
  have hP : va_P (dC, dI) vwCl [(h0, .inr (2, [.ref k0, .ref k1, .ref k2, .ref k3, .int en])), (k0, .inl (d0, 32, .inl (e0))), (k1, .inl (d1, 32, .inl (e1))), (k2, .inl (d2, 32, .inl (e2))), (k3, .inl (d3, 32, .inl (e3))), (hi0, .inl (di, 8, .inl (fi))), (ho, .inl (dq, 8, .inl (upd (sk_fill (fun j => sk_b (sk_by qq j)) fo 3) 3 (sk_b (sk_by qq 3)))))] H := hP
  have hD : va_D A [(h0, .inr (2, [.ref k0, .ref k1, .ref k2, .ref k3, .int en])), (k0, .inl (d0, 32, .inl (e0))), (k1, .inl (d1, 32, .inl (e1))), (k2, .inl (d2, 32, .inl (e2))), (k3, .inl (d3, 32, .inl (e3))), (hi0, .inl (di, 8, .inl (fi))), (ho, .inl (dq, 8, .inl (upd (sk_fill (fun j => sk_b (sk_by qq j)) fo 3) 3 (sk_b (sk_by qq 3)))))] := hD
  have hP : va_P (dC, dI) vwCl [(h0, .inr (2, [.ref k0, .ref k1, .ref k2, .ref k3, .int en])), (k0, .inl (d0, 32, .inl (e0))), (k1, .inl (d1, 32, .inl (e1))), (k2, .inl (d2, 32, .inl (e2))), (k3, .inl (d3, 32, .inl (e3))), (hi0, .inl (di, 8, .inl (fi))), (ho, .inl (dq, 8, .inl (sk_fill (fun j => sk_b (sk_by qq j)) fo 4)))] H := by rw [sk_fill_s (fun j => sk_b (sk_by qq j)) fo 3 rfl] at hP; exact hP
  have hD : va_D A [(h0, .inr (2, [.ref k0, .ref k1, .ref k2, .ref k3, .int en])), (k0, .inl (d0, 32, .inl (e0))), (k1, .inl (d1, 32, .inl (e1))), (k2, .inl (d2, 32, .inl (e2))), (k3, .inl (d3, 32, .inl (e3))), (hi0, .inl (di, 8, .inl (fi))), (ho, .inl (dq, 8, .inl (sk_fill (fun j => sk_b (sk_by qq j)) fo 4)))] := by rw [sk_fill_s (fun j => sk_b (sk_by qq j)) fo 3 rfl] at hD; exact hD
  refine lv_aload_n hx hb dX2_encryptBlock_248 rfl (lv_at hl 1 rfl) ?_
  refine lv_iload hx hb dX2_encryptBlock_249 (lv_at hl 2 rfl) ?_
  refine lv_iconst (v := nI 4) hx hb dX2_encryptBlock_251 (by decide) ?_
  refine lv_iadd hx hb dX2_encryptBlock_252 ?_
  refine sk_top (y := nI 4) (by decide) ?_
  refine lv_iload hx hb dX2_encryptBlock_253 (lv_at hl 5 rfl) ?_
  refine lv_bipush (v := nI 8) hx hb dX2_encryptBlock_255 (by decide) ?_
  refine lv_ishr hx hb dX2_encryptBlock_257 ?_
  refine lv_i2b (v := sk_b (sk_by qq 4)) hx hb dX2_encryptBlock_258 (by rw [sk_i8hi, hinv.2.2.1]; rfl) ?_
  refine sk_bast (k := 4) hx hb hK hP hD hS 6 5 rfl rfl (by decide) (by decide) dX2_encryptBlock_259 (fun H locs hP hD hS => ?_)
  have hP : va_P (dC, dI) vwCl [(h0, .inr (2, [.ref k0, .ref k1, .ref k2, .ref k3, .int en])), (k0, .inl (d0, 32, .inl (e0))), (k1, .inl (d1, 32, .inl (e1))), (k2, .inl (d2, 32, .inl (e2))), (k3, .inl (d3, 32, .inl (e3))), (hi0, .inl (di, 8, .inl (fi))), (ho, .inl (dq, 8, .inl (upd (sk_fill (fun j => sk_b (sk_by qq j)) fo 4) 4 (sk_b (sk_by qq 4)))))] H := hP
  have hD : va_D A [(h0, .inr (2, [.ref k0, .ref k1, .ref k2, .ref k3, .int en])), (k0, .inl (d0, 32, .inl (e0))), (k1, .inl (d1, 32, .inl (e1))), (k2, .inl (d2, 32, .inl (e2))), (k3, .inl (d3, 32, .inl (e3))), (hi0, .inl (di, 8, .inl (fi))), (ho, .inl (dq, 8, .inl (upd (sk_fill (fun j => sk_b (sk_by qq j)) fo 4) 4 (sk_b (sk_by qq 4)))))] := hD
  have hP : va_P (dC, dI) vwCl [(h0, .inr (2, [.ref k0, .ref k1, .ref k2, .ref k3, .int en])), (k0, .inl (d0, 32, .inl (e0))), (k1, .inl (d1, 32, .inl (e1))), (k2, .inl (d2, 32, .inl (e2))), (k3, .inl (d3, 32, .inl (e3))), (hi0, .inl (di, 8, .inl (fi))), (ho, .inl (dq, 8, .inl (sk_fill (fun j => sk_b (sk_by qq j)) fo 5)))] H := by rw [sk_fill_s (fun j => sk_b (sk_by qq j)) fo 4 rfl] at hP; exact hP
  have hD : va_D A [(h0, .inr (2, [.ref k0, .ref k1, .ref k2, .ref k3, .int en])), (k0, .inl (d0, 32, .inl (e0))), (k1, .inl (d1, 32, .inl (e1))), (k2, .inl (d2, 32, .inl (e2))), (k3, .inl (d3, 32, .inl (e3))), (hi0, .inl (di, 8, .inl (fi))), (ho, .inl (dq, 8, .inl (sk_fill (fun j => sk_b (sk_by qq j)) fo 5)))] := by rw [sk_fill_s (fun j => sk_b (sk_by qq j)) fo 4 rfl] at hD; exact hD
  refine lv_aload_n hx hb dX2_encryptBlock_260 rfl (lv_at hl 1 rfl) ?_
  refine lv_iload hx hb dX2_encryptBlock_261 (lv_at hl 2 rfl) ?_
  refine lv_iconst (v := nI 5) hx hb dX2_encryptBlock_263 (by decide) ?_
  refine lv_iadd hx hb dX2_encryptBlock_264 ?_
  refine sk_top (y := nI 5) (by decide) ?_
  refine lv_iload hx hb dX2_encryptBlock_265 (lv_at hl 5 rfl) ?_
  refine lv_i2b (v := sk_b (sk_by qq 5)) hx hb dX2_encryptBlock_267 (by rw [sk_i8lo, hinv.2.2.1]; rfl) ?_
  refine sk_bast (k := 5) hx hb hK hP hD hS 6 5 rfl rfl (by decide) (by decide) dX2_encryptBlock_268 (fun H locs hP hD hS => ?_)
  have hP : va_P (dC, dI) vwCl [(h0, .inr (2, [.ref k0, .ref k1, .ref k2, .ref k3, .int en])), (k0, .inl (d0, 32, .inl (e0))), (k1, .inl (d1, 32, .inl (e1))), (k2, .inl (d2, 32, .inl (e2))), (k3, .inl (d3, 32, .inl (e3))), (hi0, .inl (di, 8, .inl (fi))), (ho, .inl (dq, 8, .inl (upd (sk_fill (fun j => sk_b (sk_by qq j)) fo 5) 5 (sk_b (sk_by qq 5)))))] H := hP
  have hD : va_D A [(h0, .inr (2, [.ref k0, .ref k1, .ref k2, .ref k3, .int en])), (k0, .inl (d0, 32, .inl (e0))), (k1, .inl (d1, 32, .inl (e1))), (k2, .inl (d2, 32, .inl (e2))), (k3, .inl (d3, 32, .inl (e3))), (hi0, .inl (di, 8, .inl (fi))), (ho, .inl (dq, 8, .inl (upd (sk_fill (fun j => sk_b (sk_by qq j)) fo 5) 5 (sk_b (sk_by qq 5)))))] := hD
  have hP : va_P (dC, dI) vwCl [(h0, .inr (2, [.ref k0, .ref k1, .ref k2, .ref k3, .int en])), (k0, .inl (d0, 32, .inl (e0))), (k1, .inl (d1, 32, .inl (e1))), (k2, .inl (d2, 32, .inl (e2))), (k3, .inl (d3, 32, .inl (e3))), (hi0, .inl (di, 8, .inl (fi))), (ho, .inl (dq, 8, .inl (sk_fill (fun j => sk_b (sk_by qq j)) fo 6)))] H := by rw [sk_fill_s (fun j => sk_b (sk_by qq j)) fo 5 rfl] at hP; exact hP
  have hD : va_D A [(h0, .inr (2, [.ref k0, .ref k1, .ref k2, .ref k3, .int en])), (k0, .inl (d0, 32, .inl (e0))), (k1, .inl (d1, 32, .inl (e1))), (k2, .inl (d2, 32, .inl (e2))), (k3, .inl (d3, 32, .inl (e3))), (hi0, .inl (di, 8, .inl (fi))), (ho, .inl (dq, 8, .inl (sk_fill (fun j => sk_b (sk_by qq j)) fo 6)))] := by rw [sk_fill_s (fun j => sk_b (sk_by qq j)) fo 5 rfl] at hD; exact hD
  refine lv_aload_n hx hb dX2_encryptBlock_269 rfl (lv_at hl 1 rfl) ?_
  refine lv_iload hx hb dX2_encryptBlock_270 (lv_at hl 2 rfl) ?_
  refine lv_bipush (v := nI 6) hx hb dX2_encryptBlock_272 (by decide) ?_
  refine lv_iadd hx hb dX2_encryptBlock_274 ?_
  refine sk_top (y := nI 6) (by decide) ?_
  refine lv_iload hx hb dX2_encryptBlock_275 (lv_at hl 6 rfl) ?_
  refine lv_bipush (v := nI 8) hx hb dX2_encryptBlock_277 (by decide) ?_
  refine lv_ishr hx hb dX2_encryptBlock_279 ?_
  refine lv_i2b (v := sk_b (sk_by qq 6)) hx hb dX2_encryptBlock_280 (by rw [sk_i8hi, hinv.2.2.2]; rfl) ?_
  refine sk_bast (k := 6) hx hb hK hP hD hS 6 5 rfl rfl (by decide) (by decide) dX2_encryptBlock_281 (fun H locs hP hD hS => ?_)
  have hP : va_P (dC, dI) vwCl [(h0, .inr (2, [.ref k0, .ref k1, .ref k2, .ref k3, .int en])), (k0, .inl (d0, 32, .inl (e0))), (k1, .inl (d1, 32, .inl (e1))), (k2, .inl (d2, 32, .inl (e2))), (k3, .inl (d3, 32, .inl (e3))), (hi0, .inl (di, 8, .inl (fi))), (ho, .inl (dq, 8, .inl (upd (sk_fill (fun j => sk_b (sk_by qq j)) fo 6) 6 (sk_b (sk_by qq 6)))))] H := hP
  have hD : va_D A [(h0, .inr (2, [.ref k0, .ref k1, .ref k2, .ref k3, .int en])), (k0, .inl (d0, 32, .inl (e0))), (k1, .inl (d1, 32, .inl (e1))), (k2, .inl (d2, 32, .inl (e2))), (k3, .inl (d3, 32, .inl (e3))), (hi0, .inl (di, 8, .inl (fi))), (ho, .inl (dq, 8, .inl (upd (sk_fill (fun j => sk_b (sk_by qq j)) fo 6) 6 (sk_b (sk_by qq 6)))))] := hD
  have hP : va_P (dC, dI) vwCl [(h0, .inr (2, [.ref k0, .ref k1, .ref k2, .ref k3, .int en])), (k0, .inl (d0, 32, .inl (e0))), (k1, .inl (d1, 32, .inl (e1))), (k2, .inl (d2, 32, .inl (e2))), (k3, .inl (d3, 32, .inl (e3))), (hi0, .inl (di, 8, .inl (fi))), (ho, .inl (dq, 8, .inl (sk_fill (fun j => sk_b (sk_by qq j)) fo 7)))] H := by rw [sk_fill_s (fun j => sk_b (sk_by qq j)) fo 6 rfl] at hP; exact hP
  have hD : va_D A [(h0, .inr (2, [.ref k0, .ref k1, .ref k2, .ref k3, .int en])), (k0, .inl (d0, 32, .inl (e0))), (k1, .inl (d1, 32, .inl (e1))), (k2, .inl (d2, 32, .inl (e2))), (k3, .inl (d3, 32, .inl (e3))), (hi0, .inl (di, 8, .inl (fi))), (ho, .inl (dq, 8, .inl (sk_fill (fun j => sk_b (sk_by qq j)) fo 7)))] := by rw [sk_fill_s (fun j => sk_b (sk_by qq j)) fo 6 rfl] at hD; exact hD
  refine lv_aload_n hx hb dX2_encryptBlock_282 rfl (lv_at hl 1 rfl) ?_
  refine lv_iload hx hb dX2_encryptBlock_283 (lv_at hl 2 rfl) ?_
  refine lv_bipush (v := nI 7) hx hb dX2_encryptBlock_285 (by decide) ?_
  refine lv_iadd hx hb dX2_encryptBlock_287 ?_
  refine sk_top (y := nI 7) (by decide) ?_
  refine lv_iload hx hb dX2_encryptBlock_288 (lv_at hl 6 rfl) ?_
  refine lv_i2b (v := sk_b (sk_by qq 7)) hx hb dX2_encryptBlock_290 (by rw [sk_i8lo, hinv.2.2.2]; rfl) ?_
  refine sk_bast (k := 7) hx hb hK hP hD hS 6 5 rfl rfl (by decide) (by decide) dX2_encryptBlock_291 (fun H locs hP hD hS => ?_)
  have hP : va_P (dC, dI) vwCl [(h0, .inr (2, [.ref k0, .ref k1, .ref k2, .ref k3, .int en])), (k0, .inl (d0, 32, .inl (e0))), (k1, .inl (d1, 32, .inl (e1))), (k2, .inl (d2, 32, .inl (e2))), (k3, .inl (d3, 32, .inl (e3))), (hi0, .inl (di, 8, .inl (fi))), (ho, .inl (dq, 8, .inl (upd (sk_fill (fun j => sk_b (sk_by qq j)) fo 7) 7 (sk_b (sk_by qq 7)))))] H := hP
  have hD : va_D A [(h0, .inr (2, [.ref k0, .ref k1, .ref k2, .ref k3, .int en])), (k0, .inl (d0, 32, .inl (e0))), (k1, .inl (d1, 32, .inl (e1))), (k2, .inl (d2, 32, .inl (e2))), (k3, .inl (d3, 32, .inl (e3))), (hi0, .inl (di, 8, .inl (fi))), (ho, .inl (dq, 8, .inl (upd (sk_fill (fun j => sk_b (sk_by qq j)) fo 7) 7 (sk_b (sk_by qq 7)))))] := hD
  have hP : va_P (dC, dI) vwCl [(h0, .inr (2, [.ref k0, .ref k1, .ref k2, .ref k3, .int en])), (k0, .inl (d0, 32, .inl (e0))), (k1, .inl (d1, 32, .inl (e1))), (k2, .inl (d2, 32, .inl (e2))), (k3, .inl (d3, 32, .inl (e3))), (hi0, .inl (di, 8, .inl (fi))), (ho, .inl (dq, 8, .inl (sk_fill (fun j => sk_b (sk_by qq j)) fo 8)))] H := by rw [sk_fill_s (fun j => sk_b (sk_by qq j)) fo 7 rfl] at hP; exact hP
  have hD : va_D A [(h0, .inr (2, [.ref k0, .ref k1, .ref k2, .ref k3, .int en])), (k0, .inl (d0, 32, .inl (e0))), (k1, .inl (d1, 32, .inl (e1))), (k2, .inl (d2, 32, .inl (e2))), (k3, .inl (d3, 32, .inl (e3))), (hi0, .inl (di, 8, .inl (fi))), (ho, .inl (dq, 8, .inl (sk_fill (fun j => sk_b (sk_by qq j)) fo 8)))] := by rw [sk_fill_s (fun j => sk_b (sk_by qq j)) fo 7 rfl] at hD; exact hD
  refine lv_bipush (v := nI 8) hx hb dX2_encryptBlock_292 (by decide) ?_
  have hP9 := hP.sub (ws' := [(h0, .inr (2, [.ref k0, .ref k1, .ref k2, .ref k3, .int en])), (k0, .inl (d0, 32, .inl (e0))), (k1, .inl (d1, 32, .inl (e1))), (k2, .inl (d2, 32, .inl (e2))), (k3, .inl (d3, 32, .inl (e3))), (hi0, .inl (di, 8, .inl (fi))), (ho, .inl (dq, 8, .inl (sk_fill (fun j => sk_b (sk_by qq j)) fo 8)))]) [0, 1, 2, 3, 4, 5, 6] rfl
  have hD9 := hD.sub (ws' := [(h0, .inr (2, [.ref k0, .ref k1, .ref k2, .ref k3, .int en])), (k0, .inl (d0, 32, .inl (e0))), (k1, .inl (d1, 32, .inl (e1))), (k2, .inl (d2, 32, .inl (e2))), (k3, .inl (d3, 32, .inl (e3))), (hi0, .inl (di, 8, .inl (fi))), (ho, .inl (dq, 8, .inl (sk_fill (fun j => sk_b (sk_by qq j)) fo 8)))]) [0, 1, 2, 3, 4, 5, 6] (by decide) rfl
  have hK9 := hK.sub (tys' := [(d0, .int), (d1, .int), (d2, .int), (d3, .int), (di, .byte), (dq, .byte)]) [0, 1, 2, 3, 4, 5] rfl
  exact W.iret (v := nI 8) hx hb hr (fun t ht hW => ⟨⟨nI 8, (), rfl, trivial, by rw [ht]; exact hP9, va_K.moved hW.alike hK9, hD9⟩, hS.F ht⟩) hS.2.2 dX2_encryptBlock_294
end
section
/-! SkipjackEngine.processBlock; SkipjackDesk.run, lock, open -/
set_option maxHeartbeats 1000000 in
set_option maxRecDepth 100000 in
/-- SkipjackEngine.processBlock, encrypting = 1 -/
theorem eng_pb1 (l : Launch) (dC : Nat → ClassId) (dI : Nat → Nat → Nat) (sz : Nat) (h0 k0 k1 k2 k3 : Nat) (d0 d1 d2 d3 : ClassId) (e0 e1 e2 e3 : Nat → Int32) (K : Nat → Nat) (tE : Nat) (hi0 ho : Nat) (di dq : ClassId) (fi fo : Nat → Int32) (B : Nat → Nat) (hK0 : sk_K K) (he0 : ∀ j, j < 32 → e0 j = nI (K ((4 * j + 0) % 10))) (he1 : ∀ j, j < 32 → e1 j = nI (K ((4 * j + 1) % 10))) (he2 : ∀ j, j < 32 → e2 j = nI (K ((4 * j + 2) % 10))) (he3 : ∀ j, j < 32 → e3 j = nI (K ((4 * j + 3) % 10))) (hB : sk_B B) (hfi : ∀ j, j < 8 → fi j = sk_b (B j)) : Met l yX2_processBlock (ws_ yX2_processBlock cX2_processBlock 5 (some .int)) ({ frames := 2, cells := 0, slots := 0, locals := 60 }) (va_Pc [.ref h0, .ref hi0, .int (nI 0), .ref ho, .int (nI 0)] (fun U => U.heap.size = sz ∧ va_P (dC, dI) vwCl [(h0, .inr (2, [.ref k0, .ref k1, .ref k2, .ref k3, .int (nI 1)])), (k0, .inl (d0, 32, .inl (e0))), (k1, .inl (d1, 32, .inl (e1))), (k2, .inl (d2, 32, .inl (e2))), (k3, .inl (d3, 32, .inl (e3))), (hi0, .inl (di, 8, .inl (fi))), (ho, .inl (dq, 8, .inl (fo)))] U.heap ∧ va_K (dC, dI) vwCl [(d0, .int), (d1, .int), (d2, .int), (d3, .int), (di, .byte), (dq, .byte)] U ∧ va_D (fun _ => True) [(h0, .inr (2, [.ref k0, .ref k1, .ref k2, .ref k3, .int (nI 1)])), (k0, .inl (d0, 32, .inl (e0))), (k1, .inl (d1, 32, .inl (e1))), (k2, .inl (d2, 32, .inl (e2))), (k3, .inl (d3, 32, .inl (e3))), (hi0, .inl (di, 8, .inl (fi))), (ho, .inl (dq, 8, .inl (fo)))] ∧ sk_TE tE (va_A [(h0, .inr (2, [.ref k0, .ref k1, .ref k2, .ref k3, .int (nI 1)])), (k0, .inl (d0, 32, .inl (e0))), (k1, .inl (d1, 32, .inl (e1))), (k2, .inl (d2, 32, .inl (e2))), (k3, .inl (d3, 32, .inl (e3))), (hi0, .inl (di, 8, .inl (fi))), (ho, .inl (dq, 8, .inl (fo)))] sz) U)) (va_Qi (fun (r : Int32) (_ : Unit) => True) (fun (_ : Unit) (t : State) => va_P (dC, dI) vwCl [(h0, .inr (2, [.ref k0, .ref k1, .ref k2, .ref k3, .int (nI 1)])), (k0, .inl (d0, 32, .inl (e0))), (k1, .inl (d1, 32, .inl (e1))), (k2, .inl (d2, 32, .inl (e2))), (k3, .inl (d3, 32, .inl (e3))), (hi0, .inl (di, 8, .inl (fi))), (ho, .inl (dq, 8, .inl (sk_fill (fun j => sk_b (sk_by (sk_enc K 32 (sk_wd B)) j)) fo 8)))] t.heap ∧ va_K (dC, dI) vwCl [(d0, .int), (d1, .int), (d2, .int), (d3, .int), (di, .byte), (dq, .byte)] t ∧ va_D (va_A [(h0, .inr (2, [.ref k0, .ref k1, .ref k2, .ref k3, .int (nI 1)])), (k0, .inl (d0, 32, .inl (e0))), (k1, .inl (d1, 32, .inl (e1))), (k2, .inl (d2, 32, .inl (e2))), (k3, .inl (d3, 32, .inl (e3))), (hi0, .inl (di, 8, .inl (fi))), (ho, .inl (dq, 8, .inl (fo)))] sz) [(h0, .inr (2, [.ref k0, .ref k1, .ref k2, .ref k3, .int (nI 1)])), (k0, .inl (d0, 32, .inl (e0))), (k1, .inl (d1, 32, .inl (e1))), (k2, .inl (d2, 32, .inl (e2))), (k3, .inl (d3, 32, .inl (e3))), (hi0, .inl (di, 8, .inl (fi))), (ho, .inl (dq, 8, .inl (sk_fill (fun j => sk_b (sk_by (sk_enc K 32 (sk_wd B)) j)) fo 8)))]) (va_A [(h0, .inr (2, [.ref k0, .ref k1, .ref k2, .ref k3, .int (nI 1)])), (k0, .inl (d0, 32, .inl (e0))), (k1, .inl (d1, 32, .inl (e1))), (k2, .inl (d2, 32, .inl (e2))), (k3, .inl (d3, 32, .inl (e3))), (hi0, .inl (di, 8, .inl (fi))), (ho, .inl (dq, 8, .inl (fo)))] sz)) 0 0 (va_A [(h0, .inr (2, [.ref k0, .ref k1, .ref k2, .ref k3, .int (nI 1)])), (k0, .inl (d0, 32, .inl (e0))), (k1, .inl (d1, 32, .inl (e1))), (k2, .inl (d2, 32, .inl (e2))), (k3, .inl (d3, 32, .inl (e3))), (hi0, .inl (di, 8, .inl (fi))), (ho, .inl (dq, 8, .inl (fo)))] sz) := by
  refine Met.ofW (cc := cX2_processBlock) (maxL := 5) (ret := (some .int)) (by decide) rfl ?_
  intro p e s m args below meth c s₁ BO hml hv
  obtain ⟨rfl, hsz, hP, hK, hD0, hT⟩ := hv
  have hx := BO.exec
  have hb := BO.bytes
  have hr := BO.returns
  have hts := atoms_spec (ws := (ws_ yX2_processBlock cX2_processBlock 5 (some .int))) BO.pre
  have hts : ∀ w ∈ lw_all, w.before _ s = true := fun w h => hts w (List.mem_cons_of_mem _ h)
  have hown : s.vm.findClass RX2 = some m.cls := findClass_of_methodNamed BO.named
  have hlocks := BO.notSynchronized
  subst hsz
  have hD := hD0.self (sz := s.heap.size)
  generalize hAe : va_A [(h0, .inr (2, [.ref k0, .ref k1, .ref k2, .ref k3, .int (nI 1)])), (k0, .inl (d0, 32, .inl (e0))), (k1, .inl (d1, 32, .inl (e1))), (k2, .inl (d2, 32, .inl (e2))), (k3, .inl (d3, 32, .inl (e3))), (hi0, .inl (di, 8, .inl (fi))), (ho, .inl (dq, 8, .inl (fo)))] s.heap.size = A at hD hT ⊢
  have hA : ∀ q : Nat, s.heap.size ≤ q → A q := fun q h => by rw [← hAe]; exact Or.inr h
  have hS : va_S A s.heap s.heap [] := va_S.rf
  have hP : va_P (dC, dI) vwCl [(h0, .inr (2, [.ref k0, .ref k1, .ref k2, .ref k3, .int (nI 1)])), (k0, .inl (d0, 32, .inl (e0))), (k1, .inl (d1, 32, .inl (e1))), (k2, .inl (d2, 32, .inl (e2))), (k3, .inl (d3, 32, .inl (e3))), (hi0, .inl (di, 8, .inl (fi))), (ho, .inl (dq, 8, .inl (fo)))] s.heap := hP
  have hl := lv_entry ([.ref h0, .ref hi0, .int (nI 0), .ref ho, .int (nI 0)]) (n := 5) (Nat.le_of_ble_eq_true rfl)
  rw [lg_entry_eq]
  generalize (lg_sl ([.ref h0, .ref hi0, .int (nI 0), .ref ho, .int (nI 0)]) ++ List.replicate (5 - (lg_sl ([.ref h0, .ref hi0, .int (nI 0), .ref ho, .int (nI 0)])).length) Slot.unset).toArray = ls at hl ⊢
  have hl : lv_has ls 5 [(0, .ref h0), (1, .ref hi0), (2, .int (nI 0)), (3, .ref ho), (4, .int (nI 0))] := hl
  refine lv_aload_n hx hb dX2_processBlock_0 rfl (lv_at hl 0 rfl) ?_
  refine va_get (D := (dC, dI)) (ci := 2) (v := .ref k1) (C := RX2) (T := TX2) (N := 5) hx hb hts in_X2 hown hK hP 0 rfl rfl 1 (by decide) (hts _ q70) (fun _ h9 => h9) rfl dX2_processBlock_1 ?_
  refine lv_ifnonnull (tgt := 17) hx hb dX2_processBlock_4 (by decide) ?_
  refine lv_iload_n hx hb dX2_processBlock_17 rfl (lv_at hl 2 rfl) ?_
  refine lv_bipush (v := nI 8) hx hb dX2_processBlock_18 (by decide) ?_
  refine lv_iadd hx hb dX2_processBlock_20 ?_
  refine sk_top (y := nI 8) (by decide) ?_
  refine lv_aload_n hx hb dX2_processBlock_21 rfl (lv_at hl 1 rfl) ?_
  refine va_alen (v := nI 8) hx hb hK hP 5 4 rfl rfl rfl dX2_processBlock_22 ?_
  refine lv_icmp_le (tgt := 36) hx hb dX2_processBlock_23 (by decide) (fun _ => ?_) (fun q => absurd (nI_le (Nat.le_refl 8) (by decide)) q)
  refine lv_iload hx hb dX2_processBlock_36 (lv_at hl 4 rfl) ?_
  refine lv_bipush (v := nI 8) hx hb dX2_processBlock_38 (by decide) ?_
  refine lv_iadd hx hb dX2_processBlock_40 ?_
  refine sk_top (y := nI 8) (by decide) ?_
  refine lv_aload_n hx hb dX2_processBlock_41 rfl (lv_at hl 3 rfl) ?_
  refine va_alen (v := nI 8) hx hb hK hP 6 5 rfl rfl rfl dX2_processBlock_42 ?_
  refine lv_icmp_le (tgt := 56) hx hb dX2_processBlock_43 (by decide) (fun _ => ?_) (fun q => absurd (nI_le (Nat.le_refl 8) (by decide)) q)
  refine lv_aload_n hx hb dX2_processBlock_56 rfl (lv_at hl 0 rfl) ?_
  refine va_get (D := (dC, dI)) (ci := 2) (v := .int (nI 1)) (C := RX2) (T := TX2) (N := 5) hx hb hts in_X2 hown hK hP 0 rfl rfl 4 (by decide) (hts _ q73) (fun _ h9 => h9) rfl dX2_processBlock_57 ?_
  refine lv_if_eq (tgt := 76) hx hb dX2_processBlock_60 (by decide) (fun q => absurd q (by decide)) (fun _ => ?_)
  refine lv_aload_n hx hb dX2_processBlock_63 rfl (lv_at hl 0 rfl) ?_
  refine lv_aload_n hx hb dX2_processBlock_64 rfl (lv_at hl 1 rfl) ?_
  refine lv_iload_n hx hb dX2_processBlock_65 rfl (lv_at hl 2 rfl) ?_
  refine lv_aload_n hx hb dX2_processBlock_66 rfl (lv_at hl 3 rfl) ?_
  refine lv_iload hx hb dX2_processBlock_67 (lv_at hl 4 rfl) ?_
  have hPc := hP.sub (ws' := [(h0, .inr (2, [.ref k0, .ref k1, .ref k2, .ref k3, .int (nI 1)])), (k0, .inl (d0, 32, .inl (e0))), (k1, .inl (d1, 32, .inl (e1))), (k2, .inl (d2, 32, .inl (e2))), (k3, .inl (d3, 32, .inl (e3))), (hi0, .inl (di, 8, .inl (fi))), (ho, .inl (dq, 8, .inl (fo)))]) [0, 1, 2, 3, 4, 5, 6] rfl
  have hDc := hD.sub (ws' := [(h0, .inr (2, [.ref k0, .ref k1, .ref k2, .ref k3, .int (nI 1)])), (k0, .inl (d0, 32, .inl (e0))), (k1, .inl (d1, 32, .inl (e1))), (k2, .inl (d2, 32, .inl (e2))), (k3, .inl (d3, 32, .inl (e3))), (hi0, .inl (di, 8, .inl (fi))), (ho, .inl (dq, 8, .inl (fo)))]) [0, 1, 2, 3, 4, 5, 6] (by decide) rfl
  have hKc := hK.sub (tys' := [(d0, .int), (d1, .int), (d2, .int), (d3, .int), (di, .byte), (dq, .byte)]) [0, 1, 2, 3, 4, 5] rfl
  have hFc := va_free (wc := [(h0, .inr (2, [.ref k0, .ref k1, .ref k2, .ref k3, .int (nI 1)])), (k0, .inl (d0, 32, .inl (e0))), (k1, .inl (d1, 32, .inl (e1))), (k2, .inl (d2, 32, .inl (e2))), (k3, .inl (d3, 32, .inl (e3))), (hi0, .inl (di, 8, .inl (fi))), (ho, .inl (dq, 8, .inl (fo)))]) hD hS hA [0, 1, 2, 3, 4, 5, 6] rfl
  refine va_calli (va_runV (As := [.ref hi0, .int (nI 0), .ref ho, .int (nI 0)]) (rest := []) ⟨hx, hb, hml, hown, hts⟩ (eng_enc l dC dI s.heap.size h0 k0 k1 k2 k3 d0 d1 d2 d3 e0 e1 e2 e3 (nI 1) K tE hi0 ho di dq fi fo B hK0 he0 he1 he2 he3 hB hfi) (cwV 4 hts (lw_V q250 q251 q252 q11 q253) rfl rfl rfl (by decide +kernel) ⟨Nat.le_of_ble_eq_true rfl, Nat.le_of_ble_eq_true rfl⟩) ⟨fun a U g mk q => by obtain ⟨q0, q1, qP, qK, qD, qT0⟩ := q; exact ⟨q0, q1, qP, va_K.moved (u := U) (U := U.calling g mk a) (Vm.Alike.refl U.vm) qK, qD, qT0.calling⟩, va_recv hKc hPc (ci := 2) (q0 := 0) rfl rfl, fun U hU hW => ⟨rfl, by rw [hU], by rw [hU]; exact hPc, va_K.moved hW.alike hKc, hDc.weaken (fun _ _ _ _ => trivial), hT.call hW.alike hU hS hFc⟩⟩ rfl rfl hl.1 rfl (lv_room (Nat.le_of_ble_eq_true rfl)) dX2_processBlock_69 ⟨Nat.le_of_ble_eq_true rfl, Nat.le_of_ble_eq_true rfl⟩) hS (fun q _ h => hFc q h) hFc (fun r8 uS tS H1 locs htS hvm hw hB hz1 hk1 hS => ?_)
  obtain ⟨hP1, hK1, hD1⟩ := hB
  rw [htS] at hP1
  obtain ⟨hP, hD⟩ := va_join (wr := []) (w1 := [(h0, .inr (2, [.ref k0, .ref k1, .ref k2, .ref k3, .int (nI 1)])), (k0, .inl (d0, 32, .inl (e0))), (k1, .inl (d1, 32, .inl (e1))), (k2, .inl (d2, 32, .inl (e2))), (k3, .inl (d3, 32, .inl (e3))), (hi0, .inl (di, 8, .inl (fi))), (ho, .inl (dq, 8, .inl (sk_fill (fun j => sk_b (sk_by (sk_enc K 32 (sk_wd B)) j)) fo 8)))]) hP hD [0, 1, 2, 3, 4, 5, 6] [] rfl rfl (by decide) (by decide) hk1 hFc hP1 hD1
  generalize H1 = H at hP hS ⊢
  have hP : va_P (dC, dI) vwCl [(h0, .inr (2, [.ref k0, .ref k1, .ref k2, .ref k3, .int (nI 1)])), (k0, .inl (d0, 32, .inl (e0))), (k1, .inl (d1, 32, .inl (e1))), (k2, .inl (d2, 32, .inl (e2))), (k3, .inl (d3, 32, .inl (e3))), (hi0, .inl (di, 8, .inl (fi))), (ho, .inl (dq, 8, .inl (sk_fill (fun j => sk_b (sk_by (sk_enc K 32 (sk_wd B)) j)) fo 8)))] H := hP
  have hD : va_D A [(h0, .inr (2, [.ref k0, .ref k1, .ref k2, .ref k3, .int (nI 1)])), (k0, .inl (d0, 32, .inl (e0))), (k1, .inl (d1, 32, .inl (e1))), (k2, .inl (d2, 32, .inl (e2))), (k3, .inl (d3, 32, .inl (e3))), (hi0, .inl (di, 8, .inl (fi))), (ho, .inl (dq, 8, .inl (sk_fill (fun j => sk_b (sk_by (sk_enc K 32 (sk_wd B)) j)) fo 8)))] := hD
  refine W.widen (k := 0) (n := 0) (Nat.le_of_ble_eq_true rfl) (Nat.le_of_ble_eq_true rfl) ?_
  refine lv_pop hx hb dX2_processBlock_72 rfl ?_
  refine lv_goto (tgt := 86) hx hb dX2_processBlock_73 (by decide) ?_
  refine lv_bipush (v := nI 8) hx hb dX2_processBlock_86 (by decide) ?_
  have hP9 := hP.sub (ws' := [(h0, .inr (2, [.ref k0, .ref k1, .ref k2, .ref k3, .int (nI 1)])), (k0, .inl (d0, 32, .inl (e0))), (k1, .inl (d1, 32, .inl (e1))), (k2, .inl (d2, 32, .inl (e2))), (k3, .inl (d3, 32, .inl (e3))), (hi0, .inl (di, 8, .inl (fi))), (ho, .inl (dq, 8, .inl (sk_fill (fun j => sk_b (sk_by (sk_enc K 32 (sk_wd B)) j)) fo 8)))]) [0, 1, 2, 3, 4, 5, 6] rfl
  have hD9 := hD.sub (ws' := [(h0, .inr (2, [.ref k0, .ref k1, .ref k2, .ref k3, .int (nI 1)])), (k0, .inl (d0, 32, .inl (e0))), (k1, .inl (d1, 32, .inl (e1))), (k2, .inl (d2, 32, .inl (e2))), (k3, .inl (d3, 32, .inl (e3))), (hi0, .inl (di, 8, .inl (fi))), (ho, .inl (dq, 8, .inl (sk_fill (fun j => sk_b (sk_by (sk_enc K 32 (sk_wd B)) j)) fo 8)))]) [0, 1, 2, 3, 4, 5, 6] (by decide) rfl
  have hK9 := hK.sub (tys' := [(d0, .int), (d1, .int), (d2, .int), (d3, .int), (di, .byte), (dq, .byte)]) [0, 1, 2, 3, 4, 5] rfl
  exact W.iret (v := nI 8) hx hb hr (fun t ht hW => ⟨⟨nI 8, (), rfl, trivial, by rw [ht]; exact hP9, va_K.moved hW.alike hK9, hD9⟩, hS.F ht⟩) hS.2.2 dX2_processBlock_88
set_option maxHeartbeats 1000000 in
set_option maxRecDepth 100000 in
/-- SkipjackEngine.processBlock, encrypting = 0 -/
theorem eng_pb0 (l : Launch) (dC : Nat → ClassId) (dI : Nat → Nat → Nat) (sz : Nat) (h0 k0 k1 k2 k3 : Nat) (d0 d1 d2 d3 : ClassId) (e0 e1 e2 e3 : Nat → Int32) (K : Nat → Nat) (tE : Nat) (hi0 ho : Nat) (di dq : ClassId) (fi fo : Nat → Int32) (B : Nat → Nat) (hK0 : sk_K K) (he0 : ∀ j, j < 32 → e0 j = nI (K ((4 * j + 0) % 10))) (he1 : ∀ j, j < 32 → e1 j = nI (K ((4 * j + 1) % 10))) (he2 : ∀ j, j < 32 → e2 j = nI (K ((4 * j + 2) % 10))) (he3 : ∀ j, j < 32 → e3 j = nI (K ((4 * j + 3) % 10))) (hB : sk_B B) (hfi : ∀ j, j < 8 → fi j = sk_b (B j)) : Met l yX2_processBlock (ws_ yX2_processBlock cX2_processBlock 5 (some .int)) ({ frames := 2, cells := 0, slots := 0, locals := 60 }) (va_Pc [.ref h0, .ref hi0, .int (nI 0), .ref ho, .int (nI 0)] (fun U => U.heap.size = sz ∧ va_P (dC, dI) vwCl [(h0, .inr (2, [.ref k0, .ref k1, .ref k2, .ref k3, .int (nI 0)])), (k0, .inl (d0, 32, .inl (e0))), (k1, .inl (d1, 32, .inl (e1))), (k2, .inl (d2, 32, .inl (e2))), (k3, .inl (d3, 32, .inl (e3))), (hi0, .inl (di, 8, .inl (fi))), (ho, .inl (dq, 8, .inl (fo)))] U.heap ∧ va_K (dC, dI) vwCl [(d0, .int), (d1, .int), (d2, .int), (d3, .int), (di, .byte), (dq, .byte)] U ∧ va_D (fun _ => True) [(h0, .inr (2, [.ref k0, .ref k1, .ref k2, .ref k3, .int (nI 0)])), (k0, .inl (d0, 32, .inl (e0))), (k1, .inl (d1, 32, .inl (e1))), (k2, .inl (d2, 32, .inl (e2))), (k3, .inl (d3, 32, .inl (e3))), (hi0, .inl (di, 8, .inl (fi))), (ho, .inl (dq, 8, .inl (fo)))] ∧ sk_TE tE (va_A [(h0, .inr (2, [.ref k0, .ref k1, .ref k2, .ref k3, .int (nI 0)])), (k0, .inl (d0, 32, .inl (e0))), (k1, .inl (d1, 32, .inl (e1))), (k2, .inl (d2, 32, .inl (e2))), (k3, .inl (d3, 32, .inl (e3))), (hi0, .inl (di, 8, .inl (fi))), (ho, .inl (dq, 8, .inl (fo)))] sz) U)) (va_Qi (fun (r : Int32) (_ : Unit) => True) (fun (_ : Unit) (t : State) => va_P (dC, dI) vwCl [(h0, .inr (2, [.ref k0, .ref k1, .ref k2, .ref k3, .int (nI 0)])), (k0, .inl (d0, 32, .inl (e0))), (k1, .inl (d1, 32, .inl (e1))), (k2, .inl (d2, 32, .inl (e2))), (k3, .inl (d3, 32, .inl (e3))), (hi0, .inl (di, 8, .inl (fi))), (ho, .inl (dq, 8, .inl (sk_fill (fun j => sk_b (sk_by (sk_dec K 32 (sk_wd B)) j)) fo 8)))] t.heap ∧ va_K (dC, dI) vwCl [(d0, .int), (d1, .int), (d2, .int), (d3, .int), (di, .byte), (dq, .byte)] t ∧ va_D (va_A [(h0, .inr (2, [.ref k0, .ref k1, .ref k2, .ref k3, .int (nI 0)])), (k0, .inl (d0, 32, .inl (e0))), (k1, .inl (d1, 32, .inl (e1))), (k2, .inl (d2, 32, .inl (e2))), (k3, .inl (d3, 32, .inl (e3))), (hi0, .inl (di, 8, .inl (fi))), (ho, .inl (dq, 8, .inl (fo)))] sz) [(h0, .inr (2, [.ref k0, .ref k1, .ref k2, .ref k3, .int (nI 0)])), (k0, .inl (d0, 32, .inl (e0))), (k1, .inl (d1, 32, .inl (e1))), (k2, .inl (d2, 32, .inl (e2))), (k3, .inl (d3, 32, .inl (e3))), (hi0, .inl (di, 8, .inl (fi))), (ho, .inl (dq, 8, .inl (sk_fill (fun j => sk_b (sk_by (sk_dec K 32 (sk_wd B)) j)) fo 8)))]) (va_A [(h0, .inr (2, [.ref k0, .ref k1, .ref k2, .ref k3, .int (nI 0)])), (k0, .inl (d0, 32, .inl (e0))), (k1, .inl (d1, 32, .inl (e1))), (k2, .inl (d2, 32, .inl (e2))), (k3, .inl (d3, 32, .inl (e3))), (hi0, .inl (di, 8, .inl (fi))), (ho, .inl (dq, 8, .inl (fo)))] sz)) 0 0 (va_A [(h0, .inr (2, [.ref k0, .ref k1, .ref k2, .ref k3, .int (nI 0)])), (k0, .inl (d0, 32, .inl (e0))), (k1, .inl (d1, 32, .inl (e1))), (k2, .inl (d2, 32, .inl (e2))), (k3, .inl (d3, 32, .inl (e3))), (hi0, .inl (di, 8, .inl (fi))), (ho, .inl (dq, 8, .inl (fo)))] sz) := by
  refine Met.ofW (cc := cX2_processBlock) (maxL := 5) (ret := (some .int)) (by decide) rfl ?_
  intro p e s m args below meth c s₁ BO hml hv
  obtain ⟨rfl, hsz, hP, hK, hD0, hT⟩ := hv
  have hx := BO.exec
  have hb := BO.bytes
  have hr := BO.returns
  have hts := atoms_spec (ws := (ws_ yX2_processBlock cX2_processBlock 5 (some .int))) BO.pre
  have hts : ∀ w ∈ lw_all, w.before _ s = true := fun w h => hts w (List.mem_cons_of_mem _ h)
  have hown : s.vm.findClass RX2 = some m.cls := findClass_of_methodNamed BO.named
  have hlocks := BO.notSynchronized
  subst hsz
  have hD := hD0.self (sz := s.heap.size)
  generalize hAe : va_A [(h0, .inr (2, [.ref k0, .ref k1, .ref k2, .ref k3, .int (nI 0)])), (k0, .inl (d0, 32, .inl (e0))), (k1, .inl (d1, 32, .inl (e1))), (k2, .inl (d2, 32, .inl (e2))), (k3, .inl (d3, 32, .inl (e3))), (hi0, .inl (di, 8, .inl (fi))), (ho, .inl (dq, 8, .inl (fo)))] s.heap.size = A at hD hT ⊢
  have hA : ∀ q : Nat, s.heap.size ≤ q → A q := fun q h => by rw [← hAe]; exact Or.inr h
  have hS : va_S A s.heap s.heap [] := va_S.rf
  have hP : va_P (dC, dI) vwCl [(h0, .inr (2, [.ref k0, .ref k1, .ref k2, .ref k3, .int (nI 0)])), (k0, .inl (d0, 32, .inl (e0))), (k1, .inl (d1, 32, .inl (e1))), (k2, .inl (d2, 32, .inl (e2))), (k3, .inl (d3, 32, .inl (e3))), (hi0, .inl (di, 8, .inl (fi))), (ho, .inl (dq, 8, .inl (fo)))] s.heap := hP
  have hl := lv_entry ([.ref h0, .ref hi0, .int (nI 0), .ref ho, .int (nI 0)]) (n := 5) (Nat.le_of_ble_eq_true rfl)
  rw [lg_entry_eq]
  generalize (lg_sl ([.ref h0, .ref hi0, .int (nI 0), .ref ho, .int (nI 0)]) ++ List.replicate (5 - (lg_sl ([.ref h0, .ref hi0, .int (nI 0), .ref ho, .int (nI 0)])).length) Slot.unset).toArray = ls at hl ⊢
  have hl : lv_has ls 5 [(0, .ref h0), (1, .ref hi0), (2, .int (nI 0)), (3, .ref ho), (4, .int (nI 0))] := hl
  refine lv_aload_n hx hb dX2_processBlock_0 rfl (lv_at hl 0 rfl) ?_
  refine va_get (D := (dC, dI)) (ci := 2) (v := .ref k1) (C := RX2) (T := TX2) (N := 5) hx hb hts in_X2 hown hK hP 0 rfl rfl 1 (by decide) (hts _ q70) (fun _ h9 => h9) rfl dX2_processBlock_1 ?_
  refine lv_ifnonnull (tgt := 17) hx hb dX2_processBlock_4 (by decide) ?_
  refine lv_iload_n hx hb dX2_processBlock_17 rfl (lv_at hl 2 rfl) ?_
  refine lv_bipush (v := nI 8) hx hb dX2_processBlock_18 (by decide) ?_
  refine lv_iadd hx hb dX2_processBlock_20 ?_
  refine sk_top (y := nI 8) (by decide) ?_
  refine lv_aload_n hx hb dX2_processBlock_21 rfl (lv_at hl 1 rfl) ?_
  refine va_alen (v := nI 8) hx hb hK hP 5 4 rfl rfl rfl dX2_processBlock_22 ?_
  refine lv_icmp_le (tgt := 36) hx hb dX2_processBlock_23 (by decide) (fun _ => ?_) (fun q => absurd (nI_le (Nat.le_refl 8) (by decide)) q)
  refine lv_iload hx hb dX2_processBlock_36 (lv_at hl 4 rfl) ?_
  refine lv_bipush (v := nI 8) hx hb dX2_processBlock_38 (by decide) ?_
  refine lv_iadd hx hb dX2_processBlock_40 ?_
  refine sk_top (y := nI 8) (by decide) ?_
  refine lv_aload_n hx hb dX2_processBlock_41 rfl (lv_at hl 3 rfl) ?_
  refine va_alen (v := nI 8) hx hb hK hP 6 5 rfl rfl rfl dX2_processBlock_42 ?_
  refine lv_icmp_le (tgt := 56) hx hb dX2_processBlock_43 (by decide) (fun _ => ?_) (fun q => absurd (nI_le (Nat.le_refl 8) (by decide)) q)
  refine lv_aload_n hx hb dX2_processBlock_56 rfl (lv_at hl 0 rfl) ?_
  refine va_get (D := (dC, dI)) (ci := 2) (v := .int (nI 0)) (C := RX2) (T := TX2) (N := 5) hx hb hts in_X2 hown hK hP 0 rfl rfl 4 (by decide) (hts _ q73) (fun _ h9 => h9) rfl dX2_processBlock_57 ?_
  refine lv_if_eq (tgt := 76) hx hb dX2_processBlock_60 (by decide) (fun _ => ?_) (fun q => absurd (by decide) q)
  refine lv_aload_n hx hb dX2_processBlock_76 rfl (lv_at hl 0 rfl) ?_
  refine lv_aload_n hx hb dX2_processBlock_77 rfl (lv_at hl 1 rfl) ?_
  refine lv_iload_n hx hb dX2_processBlock_78 rfl (lv_at hl 2 rfl) ?_
  refine lv_aload_n hx hb dX2_processBlock_79 rfl (lv_at hl 3 rfl) ?_
  refine lv_iload hx hb dX2_processBlock_80 (lv_at hl 4 rfl) ?_
  have hPc := hP.sub (ws' := [(h0, .inr (2, [.ref k0, .ref k1, .ref k2, .ref k3, .int (nI 0)])), (k0, .inl (d0, 32, .inl (e0))), (k1, .inl (d1, 32, .inl (e1))), (k2, .inl (d2, 32, .inl (e2))), (k3, .inl (d3, 32, .inl (e3))), (hi0, .inl (di, 8, .inl (fi))), (ho, .inl (dq, 8, .inl (fo)))]) [0, 1, 2, 3, 4, 5, 6] rfl
  have hDc := hD.sub (ws' := [(h0, .inr (2, [.ref k0, .ref k1, .ref k2, .ref k3, .int (nI 0)])), (k0, .inl (d0, 32, .inl (e0))), (k1, .inl (d1, 32, .inl (e1))), (k2, .inl (d2, 32, .inl (e2))), (k3, .inl (d3, 32, .inl (e3))), (hi0, .inl (di, 8, .inl (fi))), (ho, .inl (dq, 8, .inl (fo)))]) [0, 1, 2, 3, 4, 5, 6] (by decide) rfl
  have hKc := hK.sub (tys' := [(d0, .int), (d1, .int), (d2, .int), (d3, .int), (di, .byte), (dq, .byte)]) [0, 1, 2, 3, 4, 5] rfl
  have hFc := va_free (wc := [(h0, .inr (2, [.ref k0, .ref k1, .ref k2, .ref k3, .int (nI 0)])), (k0, .inl (d0, 32, .inl (e0))), (k1, .inl (d1, 32, .inl (e1))), (k2, .inl (d2, 32, .inl (e2))), (k3, .inl (d3, 32, .inl (e3))), (hi0, .inl (di, 8, .inl (fi))), (ho, .inl (dq, 8, .inl (fo)))]) hD hS hA [0, 1, 2, 3, 4, 5, 6] rfl
  refine va_calli (va_runV (As := [.ref hi0, .int (nI 0), .ref ho, .int (nI 0)]) (rest := []) ⟨hx, hb, hml, hown, hts⟩ (eng_dec l dC dI s.heap.size h0 k0 k1 k2 k3 d0 d1 d2 d3 e0 e1 e2 e3 (nI 0) K tE hi0 ho di dq fi fo B hK0 he0 he1 he2 he3 hB hfi) (cwV 4 hts (lw_V q260 q261 q262 q11 q263) rfl rfl rfl (by decide +kernel) ⟨Nat.le_of_ble_eq_true rfl, Nat.le_of_ble_eq_true rfl⟩) ⟨fun a U g mk q => by obtain ⟨q0, q1, qP, qK, qD, qT0⟩ := q; exact ⟨q0, q1, qP, va_K.moved (u := U) (U := U.calling g mk a) (Vm.Alike.refl U.vm) qK, qD, qT0.calling⟩, va_recv hKc hPc (ci := 2) (q0 := 0) rfl rfl, fun U hU hW => ⟨rfl, by rw [hU], by rw [hU]; exact hPc, va_K.moved hW.alike hKc, hDc.weaken (fun _ _ _ _ => trivial), hT.call hW.alike hU hS hFc⟩⟩ rfl rfl hl.1 rfl (lv_room (Nat.le_of_ble_eq_true rfl)) dX2_processBlock_82 ⟨Nat.le_of_ble_eq_true rfl, Nat.le_of_ble_eq_true rfl⟩) hS (fun q _ h => hFc q h) hFc (fun r8 uS tS H1 locs htS hvm hw hB hz1 hk1 hS => ?_)
  obtain ⟨hP1, hK1, hD1⟩ := hB
  rw [htS] at hP1
  obtain ⟨hP, hD⟩ := va_join (wr := []) (w1 := [(h0, .inr (2, [.ref k0, .ref k1, .ref k2, .ref k3, .int (nI 0)])), (k0, .inl (d0, 32, .inl (e0))), (k1, .inl (d1, 32, .inl (e1))), (k2, .inl (d2, 32, .inl (e2))), (k3, .inl (d3, 32, .inl (e3))), (hi0, .inl (di, 8, .inl (fi))), (ho, .inl (dq, 8, .inl (sk_fill (fun j => sk_b (sk_by (sk_dec K 32 (sk_wd B)) j)) fo 8)))]) hP hD [0, 1, 2, 3, 4, 5, 6] [] rfl rfl (by decide) (by decide) hk1 hFc hP1 hD1
  generalize H1 = H at hP hS ⊢
  have hP : va_P (dC, dI) vwCl [(h0, .inr (2, [.ref k0, .ref k1, .ref k2, .ref k3, .int (nI 0)])), (k0, .inl (d0, 32, .inl (e0))), (k1, .inl (d1, 32, .inl (e1))), (k2, .inl (d2, 32, .inl (e2))), (k3, .inl (d3, 32, .inl (e3))), (hi0, .inl (di, 8, .inl (fi))), (ho, .inl (dq, 8, .inl (sk_fill (fun j => sk_b (sk_by (sk_dec K 32 (sk_wd B)) j)) fo 8)))] H := hP
  have hD : va_D A [(h0, .inr (2, [.ref k0, .ref k1, .ref k2, .ref k3, .int (nI 0)])), (k0, .inl (d0, 32, .inl (e0))), (k1, .inl (d1, 32, .inl (e1))), (k2, .inl (d2, 32, .inl (e2))), (k3, .inl (d3, 32, .inl (e3))), (hi0, .inl (di, 8, .inl (fi))), (ho, .inl (dq, 8, .inl (sk_fill (fun j => sk_b (sk_by (sk_dec K 32 (sk_wd B)) j)) fo 8)))] := hD
  refine W.widen (k := 0) (n := 0) (Nat.le_of_ble_eq_true rfl) (Nat.le_of_ble_eq_true rfl) ?_
  refine lv_pop hx hb dX2_processBlock_85 rfl ?_
  refine lv_bipush (v := nI 8) hx hb dX2_processBlock_86 (by decide) ?_
  have hP9 := hP.sub (ws' := [(h0, .inr (2, [.ref k0, .ref k1, .ref k2, .ref k3, .int (nI 0)])), (k0, .inl (d0, 32, .inl (e0))), (k1, .inl (d1, 32, .inl (e1))), (k2, .inl (d2, 32, .inl (e2))), (k3, .inl (d3, 32, .inl (e3))), (hi0, .inl (di, 8, .inl (fi))), (ho, .inl (dq, 8, .inl (sk_fill (fun j => sk_b (sk_by (sk_dec K 32 (sk_wd B)) j)) fo 8)))]) [0, 1, 2, 3, 4, 5, 6] rfl
  have hD9 := hD.sub (ws' := [(h0, .inr (2, [.ref k0, .ref k1, .ref k2, .ref k3, .int (nI 0)])), (k0, .inl (d0, 32, .inl (e0))), (k1, .inl (d1, 32, .inl (e1))), (k2, .inl (d2, 32, .inl (e2))), (k3, .inl (d3, 32, .inl (e3))), (hi0, .inl (di, 8, .inl (fi))), (ho, .inl (dq, 8, .inl (sk_fill (fun j => sk_b (sk_by (sk_dec K 32 (sk_wd B)) j)) fo 8)))]) [0, 1, 2, 3, 4, 5, 6] (by decide) rfl
  have hK9 := hK.sub (tys' := [(d0, .int), (d1, .int), (d2, .int), (d3, .int), (di, .byte), (dq, .byte)]) [0, 1, 2, 3, 4, 5] rfl
  exact W.iret (v := nI 8) hx hb hr (fun t ht hW => ⟨⟨nI 8, (), rfl, trivial, by rw [ht]; exact hP9, va_K.moved hW.alike hK9, hD9⟩, hS.F ht⟩) hS.2.2 dX2_processBlock_88
set_option maxHeartbeats 1000000 in
set_option maxRecDepth 100000 in
theorem dsk_run_lp {p : Program} {l : Launch} {e : Env} {R : Room} {s : State} {m : MethodId} {args : Array Value} {below : List Frame} {meth : Method} {c : Code} {dC : Nat → ClassId} {dI : Nat → Nat → Nat} {A : Nat → Prop} {Q : State → Prop} {cells slots : Nat} (h0 hk hb0 ho kq : Nat) (dk db dq dc : ClassId) (fk fb fo : Nat → Int32) (K : Nat → Nat) (en : Int32) (hx : p.tables.exec = Jvm.exec) (hb : c.code = cX0_run) (hown : s.vm.findClass RX0 = some m.cls) (hts : ∀ w ∈ lw_all, w.before args s = true) (hK : va_K (dC, dI) vwCl [(dk, .byte), (db, .byte), (dq, .byte), (dc, .byte)] s) (hfk : ∀ j, j < 10 → fk j = sk_b (K j))
    (hend : ∀ (H : Heap) (locs : List Loc) (ls : Array Slot), va_P (dC, dI) vwCl [(h0, .inr (0, [.ref hk, .ref hb0, .ref ho])), (hk, .inl (dk, 32, .inl (fk))), (hb0, .inl (db, 8, .inl (fb))), (ho, .inl (dq, 8, .inl (fo))), (kq, .inl (dc, 10, .inl (sk_fill (fun j => sk_b (K j)) (fun _ => 0) 10)))] H → va_D A [(h0, .inr (0, [.ref hk, .ref hb0, .ref ho])), (hk, .inl (dk, 32, .inl (fk))), (hb0, .inl (db, 8, .inl (fb))), (ho, .inl (dq, 8, .inl (fo))), (kq, .inl (dc, 10, .inl (sk_fill (fun j => sk_b (K j)) (fun _ => 0) 10)))] → va_S A s.heap H locs → lv_has ls 6 [(0, .ref h0), (1, .int en), (3, .int (nI 10)), (4, .ref kq), (5, .int (nI 10))] → W p l e R s m args below meth c H locs cells slots Q (F0 m 39 ls [])) :
    ∀ (cnt i : Nat), i + cnt = 10 → ∀ (H : Heap) (locs : List Loc) (ls : Array Slot), va_P (dC, dI) vwCl [(h0, .inr (0, [.ref hk, .ref hb0, .ref ho])), (hk, .inl (dk, 32, .inl (fk))), (hb0, .inl (db, 8, .inl (fb))), (ho, .inl (dq, 8, .inl (fo))), (kq, .inl (dc, 10, .inl (sk_fill (fun j => sk_b (K j)) (fun _ => 0) i)))] H → va_D A [(h0, .inr (0, [.ref hk, .ref hb0, .ref ho])), (hk, .inl (dk, 32, .inl (fk))), (hb0, .inl (db, 8, .inl (fb))), (ho, .inl (dq, 8, .inl (fo))), (kq, .inl (dc, 10, .inl (sk_fill (fun j => sk_b (K j)) (fun _ => 0) i)))] → va_S A s.heap H locs → lv_has ls 6 [(0, .ref h0), (1, .int en), (3, .int (nI 10)), (4, .ref kq), (5, .int (nI i))] → W p l e R s m args below meth c H locs cells slots Q (F0 m 15 ls []) := by
  intro cnt
  induction cnt with
  | zero =>
    intro i hi H locs ls hP hD hS hl
    have hi : i = 10 := by omega
    subst hi
    refine lv_iload hx hb dX0_run_15 (lv_at hl 4 rfl) ?_
    refine lv_iload_n hx hb dX0_run_17 rfl (lv_at hl 2 rfl) ?_
    refine sk_geY (tgt := 39) hx hb (Nat.le_refl 10) (by decide) dX0_run_18 (by decide) ?_
    exact hend H locs ls hP hD hS hl
  | succ cnt ih =>
    intro i hi H locs ls hP hD hS hl
    refine lv_iload hx hb dX0_run_15 (lv_at hl 4 rfl) ?_
    refine lv_iload_n hx hb dX0_run_17 rfl (lv_at hl 2 rfl) ?_
    refine sk_geN (tgt := 39) hx hb (show i < 10 by omega) (by decide) dX0_run_18 (by decide) ?_
    refine lv_aload hx hb dX0_run_21 (lv_at hl 3 rfl) ?_
    refine lv_iload hx hb dX0_run_23 (lv_at hl 4 rfl) ?_
    refine lv_aload_n hx hb dX0_run_25 rfl (lv_at hl 0 rfl) ?_
    refine va_get (D := (dC, dI)) (ci := 0) (v := .ref hk) (C := RX0) (T := TX0) (N := 3) hx hb hts in_X0 hown hK hP 0 rfl rfl 0 (by decide) (hts _ q30) (fun _ h9 => h9) rfl dX0_run_26 ?_
    refine lv_iload hx hb dX0_run_29 (lv_at hl 4 rfl) ?_
    refine sk_bald (k := i) hx hb hK hP 1 0 rfl rfl (by omega) (by decide) dX0_run_31 ?_
    refine sk_top (y := sk_b (K i)) (hfk i (by omega)) ?_
    refine sk_bast (k := i) hx hb hK hP hD hS 4 3 rfl rfl (by omega) (by decide) dX0_run_32 (fun H locs hP hD hS => ?_)
    have hP : va_P (dC, dI) vwCl [(h0, .inr (0, [.ref hk, .ref hb0, .ref ho])), (hk, .inl (dk, 32, .inl (fk))), (hb0, .inl (db, 8, .inl (fb))), (ho, .inl (dq, 8, .inl (fo))), (kq, .inl (dc, 10, .inl (upd (sk_fill (fun j => sk_b (K j)) (fun _ => 0) i) i (sk_b (K i)))))] H := hP
    have hD : va_D A [(h0, .inr (0, [.ref hk, .ref hb0, .ref ho])), (hk, .inl (dk, 32, .inl (fk))), (hb0, .inl (db, 8, .inl (fb))), (ho, .inl (dq, 8, .inl (fo))), (kq, .inl (dc, 10, .inl (upd (sk_fill (fun j => sk_b (K j)) (fun _ => 0) i) i (sk_b (K i)))))] := hD
    have hP : va_P (dC, dI) vwCl [(h0, .inr (0, [.ref hk, .ref hb0, .ref ho])), (hk, .inl (dk, 32, .inl (fk))), (hb0, .inl (db, 8, .inl (fb))), (ho, .inl (dq, 8, .inl (fo))), (kq, .inl (dc, 10, .inl (sk_fill (fun j => sk_b (K j)) (fun _ => 0) (i + 1))))] H := by rw [sk_fill_s (fun j => sk_b (K j)) (fun _ => 0) i rfl] at hP; exact hP
    have hD : va_D A [(h0, .inr (0, [.ref hk, .ref hb0, .ref ho])), (hk, .inl (dk, 32, .inl (fk))), (hb0, .inl (db, 8, .inl (fb))), (ho, .inl (dq, 8, .inl (fo))), (kq, .inl (dc, 10, .inl (sk_fill (fun j => sk_b (K j)) (fun _ => 0) (i + 1))))] := by rw [sk_fill_s (fun j => sk_b (K j)) (fun _ => 0) i rfl] at hD; exact hD
    refine lv_iinc (v := nI (i + 1)) (lv' := [(5, .int (nI (i + 1))), (0, .ref h0), (1, .int en), (3, .int (nI 10)), (4, .ref kq)]) hx hb dX0_run_33 hl (k := 4) rfl (nI_1 i) (by decide) rfl (fun ls hl => ?_)
    refine lv_goto (tgt := 15) hx hb dX0_run_36 (by decide) ?_
    exact ih (i + 1) (by omega) H locs ls hP hD hS (lv_sub hl [1, 2, 3, 4, 0] rfl)
set_option maxHeartbeats 1000000 in
set_option maxRecDepth 100000 in
/-- SkipjackDesk.run, lock = 1 -/
theorem dsk_run1 (l : Launch) (dC : Nat → ClassId) (dI : Nat → Nat → Nat) (sz : Nat) (h0 hk hb0 ho : Nat) (dk db dq : ClassId) (fk fb fo : Nat → Int32) (K B : Nat → Nat) (kd : Int32) (tE : Nat) (hK0 : sk_K K) (hfk : ∀ j, j < 10 → fk j = sk_b (K j)) (hB : sk_B B) (hfb : ∀ j, j < 8 → fb j = sk_b (B j)) : Met l yX0_run (ws_ yX0_run cX0_run 6 none) ({ frames := 5, cells := 8, slots := 154, locals := 120 }) (va_Pc [.ref h0, .int (nI 1), .int kd] (fun U => U.heap.size = sz ∧ va_P (dC, dI) vwCl [(h0, .inr (0, [.ref hk, .ref hb0, .ref ho])), (hk, .inl (dk, 32, .inl (fk))), (hb0, .inl (db, 8, .inl (fb))), (ho, .inl (dq, 8, .inl (fo)))] U.heap ∧ va_K (dC, dI) vwCl [(dk, .byte), (db, .byte), (dq, .byte)] U ∧ va_D (fun _ => True) [(h0, .inr (0, [.ref hk, .ref hb0, .ref ho])), (hk, .inl (dk, 32, .inl (fk))), (hb0, .inl (db, 8, .inl (fb))), (ho, .inl (dq, 8, .inl (fo)))] ∧ sk_TE tE (va_A [(h0, .inr (0, [.ref hk, .ref hb0, .ref ho])), (hk, .inl (dk, 32, .inl (fk))), (hb0, .inl (db, 8, .inl (fb))), (ho, .inl (dq, 8, .inl (fo)))] sz) U ∧ sk_I (va_A [(h0, .inr (0, [.ref hk, .ref hb0, .ref ho])), (hk, .inl (dk, 32, .inl (fk))), (hb0, .inl (db, 8, .inl (fb))), (ho, .inl (dq, 8, .inl (fo)))] sz) U)) (va_Qv (fun (_ : Unit) => True) (fun (_ : Unit) (t : State) => va_P (dC, dI) vwCl [(h0, .inr (0, [.ref hk, .ref hb0, .ref ho])), (hk, .inl (dk, 32, .inl (fk))), (hb0, .inl (db, 8, .inl (fb))), (ho, .inl (dq, 8, .inl (sk_fill (fun j => sk_b (sk_by (sk_enc K 32 (sk_wd B)) j)) fo 8)))] t.heap ∧ va_K (dC, dI) vwCl [(dk, .byte), (db, .byte), (dq, .byte)] t ∧ va_D (va_A [(h0, .inr (0, [.ref hk, .ref hb0, .ref ho])), (hk, .inl (dk, 32, .inl (fk))), (hb0, .inl (db, 8, .inl (fb))), (ho, .inl (dq, 8, .inl (fo)))] sz) [(h0, .inr (0, [.ref hk, .ref hb0, .ref ho])), (hk, .inl (dk, 32, .inl (fk))), (hb0, .inl (db, 8, .inl (fb))), (ho, .inl (dq, 8, .inl (sk_fill (fun j => sk_b (sk_by (sk_enc K 32 (sk_wd B)) j)) fo 8)))]) (va_A [(h0, .inr (0, [.ref hk, .ref hb0, .ref ho])), (hk, .inl (dk, 32, .inl (fk))), (hb0, .inl (db, 8, .inl (fb))), (ho, .inl (dq, 8, .inl (fo)))] sz)) 8 154 (va_A [(h0, .inr (0, [.ref hk, .ref hb0, .ref ho])), (hk, .inl (dk, 32, .inl (fk))), (hb0, .inl (db, 8, .inl (fb))), (ho, .inl (dq, 8, .inl (fo)))] sz) := by
  refine Met.ofW (cc := cX0_run) (maxL := 6) (ret := none) (by decide) rfl ?_
  intro p e s m args below meth c s₁ BO hml hv
  obtain ⟨rfl, hsz, hP, hK, hD0, hT, hI⟩ := hv
  have hx := BO.exec
  have hb := BO.bytes
  have hr := BO.returns
  have hts := atoms_spec (ws := (ws_ yX0_run cX0_run 6 none)) BO.pre
  have hts : ∀ w ∈ lw_all, w.before _ s = true := fun w h => hts w (List.mem_cons_of_mem _ h)
  have hown : s.vm.findClass RX0 = some m.cls := findClass_of_methodNamed BO.named
  have hlocks := BO.notSynchronized
  subst hsz
  have hD := hD0.self (sz := s.heap.size)
  generalize hAe : va_A [(h0, .inr (0, [.ref hk, .ref hb0, .ref ho])), (hk, .inl (dk, 32, .inl (fk))), (hb0, .inl (db, 8, .inl (fb))), (ho, .inl (dq, 8, .inl (fo)))] s.heap.size = A at hD hT hI ⊢
  have hA : ∀ q : Nat, s.heap.size ≤ q → A q := fun q h => by rw [← hAe]; exact Or.inr h
  have hS : va_S A s.heap s.heap [] := va_S.rf
  have hP : va_P (dC, dI) vwCl [(h0, .inr (0, [.ref hk, .ref hb0, .ref ho])), (hk, .inl (dk, 32, .inl (fk))), (hb0, .inl (db, 8, .inl (fb))), (ho, .inl (dq, 8, .inl (fo)))] s.heap := hP
  have hl := lv_entry ([.ref h0, .int (nI 1), .int kd]) (n := 6) (Nat.le_of_ble_eq_true rfl)
  rw [lg_entry_eq]
  generalize (lg_sl ([.ref h0, .int (nI 1), .int kd]) ++ List.replicate (6 - (lg_sl ([.ref h0, .int (nI 1), .int kd])).length) Slot.unset).toArray = ls at hl ⊢
  have hl : lv_has ls 6 [(0, .ref h0), (1, .int (nI 1)), (2, .int kd)] := hl
  refine lv_iload_n hx hb dX0_run_0 rfl (lv_at hl 2 rfl) ?_
  refine lv_iconst (v := nI 3) hx hb dX0_run_1 (by decide) ?_
  refine lv_iand hx hb dX0_run_2 ?_
  have hPc := hP.sub (ws' := []) [] rfl
  have hDc := hD.sub (ws' := []) [] (by decide) rfl
  have hKc := hK.sub (tys' := []) [] rfl
  have hFc := va_free (wc := []) hD hS hA [] rfl
  refine va_calli (va_runS (As := [.int (kd &&& (nI 3))]) (rest := []) ⟨hx, hb, hml, hown, hts⟩ (dsk_size l dC dI s.heap.size (kd &&& nI 3)) (va_cwS 1 hts (lw_S q60 q61 q9 q62) rfl rfl rfl (by decide +kernel) ⟨Nat.le_of_ble_eq_true rfl, Nat.le_of_ble_eq_true rfl⟩) ⟨fun a U g mk q => by obtain ⟨q0, q1, qP, qK, qD⟩ := q; exact ⟨q0, q1, qP, va_K.moved (u := U) (U := U.calling g mk a) (Vm.Alike.refl U.vm) qK, qD⟩, fun U hU hW => ⟨rfl, by rw [hU], by rw [hU]; exact hPc, va_K.moved hW.alike hKc, hDc.weaken (fun _ _ _ _ => trivial)⟩⟩ rfl rfl hl.1 rfl (lv_room (Nat.le_of_ble_eq_true rfl)) dX0_run_3 ⟨Nat.le_of_ble_eq_true rfl, Nat.le_of_ble_eq_true rfl⟩) hS (fun q _ h => hFc q h) hFc (fun n10 uS tS H1 locs htS hvm hw hB hz1 hk1 hS => ?_)
  obtain ⟨hP1, hK1, hD1⟩ := hB
  rw [htS] at hP1
  obtain ⟨hP, hD⟩ := va_join (wr := [(h0, .inr (0, [.ref hk, .ref hb0, .ref ho])), (hk, .inl (dk, 32, .inl (fk))), (hb0, .inl (db, 8, .inl (fb))), (ho, .inl (dq, 8, .inl (fo)))]) (w1 := []) hP hD [] [0, 1, 2, 3] rfl rfl (by decide) (by decide) hk1 hFc hP1 hD1
  generalize H1 = H at hP hS ⊢
  have hP : va_P (dC, dI) vwCl [(h0, .inr (0, [.ref hk, .ref hb0, .ref ho])), (hk, .inl (dk, 32, .inl (fk))), (hb0, .inl (db, 8, .inl (fb))), (ho, .inl (dq, 8, .inl (fo)))] H := hP
  have hD : va_D A [(h0, .inr (0, [.ref hk, .ref hb0, .ref ho])), (hk, .inl (dk, 32, .inl (fk))), (hb0, .inl (db, 8, .inl (fb))), (ho, .inl (dq, 8, .inl (fo)))] := hD
  refine W.widen (k := 0) (n := 0) (Nat.le_of_ble_eq_true rfl) (Nat.le_of_ble_eq_true rfl) ?_
  have hw : n10 = nI 10 := hw
  subst hw
  refine lv_istore_n (lv' := [(3, .int (nI 10)), (0, .ref h0), (1, .int (nI 1)), (2, .int kd)]) hx hb dX0_run_6 rfl hl (by decide) rfl (fun ls hl => ?_)
  refine lv_iload_n hx hb dX0_run_7 rfl (lv_at hl 0 rfl) ?_
  refine va_newa (atype := .byte) (N' := 10) (a0 := (10, .inl (fun _ => 0))) hx hb (hts _ q40) rfl hK hP hD hS hA (fun _ => rfl) (by decide) (by decide) (by decide) (Nat.le_of_ble_eq_true rfl) (Nat.le_of_ble_eq_true rfl) dX0_run_8 (fun kq dc H hK hP hD hS => ?_)
  have hP : va_P (dC, dI) vwCl [(h0, .inr (0, [.ref hk, .ref hb0, .ref ho])), (hk, .inl (dk, 32, .inl (fk))), (hb0, .inl (db, 8, .inl (fb))), (ho, .inl (dq, 8, .inl (fo))), (kq, .inl (dc, 10, .inl (fun _ => 0)))] H := hP
  have hD : va_D A [(h0, .inr (0, [.ref hk, .ref hb0, .ref ho])), (hk, .inl (dk, 32, .inl (fk))), (hb0, .inl (db, 8, .inl (fb))), (ho, .inl (dq, 8, .inl (fo))), (kq, .inl (dc, 10, .inl (fun _ => 0)))] := hD
  have hK : va_K (dC, dI) vwCl [(dk, .byte), (db, .byte), (dq, .byte), (dc, .byte)] s := hK
  refine W.widen (k := 1) (n := 10) (Nat.le_of_ble_eq_true rfl) (Nat.le_of_ble_eq_true rfl) ?_
  have hP : va_P (dC, dI) vwCl [(h0, .inr (0, [.ref hk, .ref hb0, .ref ho])), (hk, .inl (dk, 32, .inl (fk))), (hb0, .inl (db, 8, .inl (fb))), (ho, .inl (dq, 8, .inl (fo))), (kq, .inl (dc, 10, .inl (sk_fill (fun j => sk_b (K j)) (fun _ => 0) 0)))] H := by rw [← sk_fill_0 (fun j => sk_b (K j)) (fun _ => 0)]; exact hP
  have hD : va_D A [(h0, .inr (0, [.ref hk, .ref hb0, .ref ho])), (hk, .inl (dk, 32, .inl (fk))), (hb0, .inl (db, 8, .inl (fb))), (ho, .inl (dq, 8, .inl (fo))), (kq, .inl (dc, 10, .inl (sk_fill (fun j => sk_b (K j)) (fun _ => 0) 0)))] := by rw [← sk_fill_0 (fun j => sk_b (K j)) (fun _ => 0)]; exact hD
  refine lv_astore (lv' := [(4, .ref kq), (3, .int (nI 10)), (0, .ref h0), (1, .int (nI 1)), (2, .int kd)]) hx hb dX0_run_10 hl (by decide) rfl (fun ls hl => ?_)
  refine lv_iconst (v := nI 0) hx hb dX0_run_12 (by decide) ?_
  refine lv_istore (lv' := [(5, .int (nI 0)), (4, .ref kq), (3, .int (nI 10)), (0, .ref h0), (1, .int (nI 1)), (2, .int kd)]) hx hb dX0_run_13 hl (by decide) rfl (fun ls hl => ?_)
  refine dsk_run_lp h0 hk hb0 ho kq dk db dq dc fk fb fo K (nI 1) hx hb hown hts hK hfk ?_ 10 0 (by decide) _ _ ls hP hD hS (lv_sub hl [3, 4, 2, 1, 0] rfl)
  intro H locs ls hP hD hS hl
  refine va_new (ci := 2) (fs := [.null, .null, .null, .null, .int 0]) (C := RX2) (T := TX2) (N := 5) hx hb hts in_X2 tyX2 tyX2_ok hown (hts _ q63) (hts _ q64) (hts _ q11) hK hP hD hS hA rfl (fun j hj => by rcases (show j = 0 ∨ j = 1 ∨ j = 2 ∨ j = 3 ∨ j = 4 by omega) with rfl | rfl | rfl | rfl | rfl <;> rfl) (Nat.le_of_ble_eq_true rfl) (Nat.le_of_ble_eq_true rfl) dX0_run_39 (fun qe H hP hD hS => ?_)
  have hP : va_P (dC, dI) vwCl [(h0, .inr (0, [.ref hk, .ref hb0, .ref ho])), (hk, .inl (dk, 32, .inl (fk))), (hb0, .inl (db, 8, .inl (fb))), (ho, .inl (dq, 8, .inl (fo))), (kq, .inl (dc, 10, .inl (sk_fill (fun j => sk_b (K j)) (fun _ => 0) 10))), (qe, .inr (2, [.null, .null, .null, .null, .int 0]))] H := hP
  have hD : va_D A [(h0, .inr (0, [.ref hk, .ref hb0, .ref ho])), (hk, .inl (dk, 32, .inl (fk))), (hb0, .inl (db, 8, .inl (fb))), (ho, .inl (dq, 8, .inl (fo))), (kq, .inl (dc, 10, .inl (sk_fill (fun j => sk_b (K j)) (fun _ => 0) 10))), (qe, .inr (2, [.null, .null, .null, .null, .int 0]))] := hD
  refine W.widen (k := 2) (n := 15) (Nat.le_of_ble_eq_true rfl) (Nat.le_of_ble_eq_true rfl) ?_
  refine lv_dup hx hb dX0_run_42 rfl ?_
  have hPc := hP.sub (ws' := [(qe, .inr (2, [.null, .null, .null, .null, .int 0]))]) [5] rfl
  have hDc := hD.sub (ws' := [(qe, .inr (2, [.null, .null, .null, .null, .int 0]))]) [5] (by decide) rfl
  have hKc := hK.sub (tys' := []) [] rfl
  have hFc := va_free (wc := [(qe, .inr (2, [.null, .null, .null, .null, .int 0]))]) hD hS hA [5] rfl
  refine va_callv (va_runI (As := []) (rest := [.ref qe]) ⟨hx, hb, hml, hown, hts⟩ (eng_init0 l dC dI H.size qe) (cwI 0 hts (lw_meth q67) rfl rfl rfl (hts _ q11) (hts _ q65) (hts _ q66) rfl (by decide +kernel) ⟨Nat.le_of_ble_eq_true rfl, Nat.le_of_ble_eq_true rfl⟩) ⟨fun a U g mk q => by obtain ⟨q0, q1, qP, qK, qD⟩ := q; exact ⟨q0, q1, qP, va_K.moved (u := U) (U := U.calling g mk a) (Vm.Alike.refl U.vm) qK, qD⟩, fun U hU hW => ⟨rfl, by rw [hU], by rw [hU]; exact hPc, va_K.moved hW.alike hKc, hDc.weaken (fun _ _ _ _ => trivial)⟩⟩ rfl rfl hl.1 rfl (lv_room (Nat.le_of_ble_eq_true rfl)) dX0_run_43 ⟨Nat.le_of_ble_eq_true rfl, Nat.le_of_ble_eq_true rfl⟩) hS (fun q _ h => hFc q h) hFc (fun uS tS H1 locs htS hvm hw hB hz1 hk1 hS => ?_)
  obtain ⟨hP1, hK1, hD1⟩ := hB
  rw [htS] at hP1
  obtain ⟨hP, hD⟩ := va_join (wr := [(h0, .inr (0, [.ref hk, .ref hb0, .ref ho])), (hk, .inl (dk, 32, .inl (fk))), (hb0, .inl (db, 8, .inl (fb))), (ho, .inl (dq, 8, .inl (fo))), (kq, .inl (dc, 10, .inl (sk_fill (fun j => sk_b (K j)) (fun _ => 0) 10)))]) (w1 := [(qe, .inr (2, [.null, .null, .null, .null, .int 0]))]) hP hD [5] [0, 1, 2, 3, 4] rfl rfl (by decide) (by decide) hk1 hFc hP1 hD1
  generalize H1 = H at hP hS ⊢
  have hP : va_P (dC, dI) vwCl [(h0, .inr (0, [.ref hk, .ref hb0, .ref ho])), (hk, .inl (dk, 32, .inl (fk))), (hb0, .inl (db, 8, .inl (fb))), (ho, .inl (dq, 8, .inl (fo))), (kq, .inl (dc, 10, .inl (sk_fill (fun j => sk_b (K j)) (fun _ => 0) 10))), (qe, .inr (2, [.null, .null, .null, .null, .int 0]))] H := hP
  have hD : va_D A [(h0, .inr (0, [.ref hk, .ref hb0, .ref ho])), (hk, .inl (dk, 32, .inl (fk))), (hb0, .inl (db, 8, .inl (fb))), (ho, .inl (dq, 8, .inl (fo))), (kq, .inl (dc, 10, .inl (sk_fill (fun j => sk_b (K j)) (fun _ => 0) 10))), (qe, .inr (2, [.null, .null, .null, .null, .int 0]))] := hD
  refine W.widen (k := 2) (n := 15) (Nat.le_of_ble_eq_true rfl) (Nat.le_of_ble_eq_true rfl) ?_
  refine lv_astore (lv' := [(5, .ref qe), (0, .ref h0), (1, .int (nI 1)), (3, .int (nI 10)), (4, .ref kq)]) hx hb dX0_run_46 hl (by decide) rfl (fun ls hl => ?_)
  refine lv_aload hx hb dX0_run_48 (lv_at hl 0 rfl) ?_
  refine lv_iload_n hx hb dX0_run_50 rfl (lv_at hl 2 rfl) ?_
  refine va_new (ci := 3) (fs := [.null]) (C := RX3) (T := TX3) (N := 1) hx hb hts in_X3 tyX3 tyX3_ok hown (hts _ q85) (hts _ q86) (hts _ q12) hK hP hD hS hA rfl (fun j hj => by rcases (show j = 0 by omega) with rfl <;> rfl) (Nat.le_of_ble_eq_true rfl) (Nat.le_of_ble_eq_true rfl) dX0_run_51 (fun qp H hP hD hS => ?_)
  have hP : va_P (dC, dI) vwCl [(h0, .inr (0, [.ref hk, .ref hb0, .ref ho])), (hk, .inl (dk, 32, .inl (fk))), (hb0, .inl (db, 8, .inl (fb))), (ho, .inl (dq, 8, .inl (fo))), (kq, .inl (dc, 10, .inl (sk_fill (fun j => sk_b (K j)) (fun _ => 0) 10))), (qe, .inr (2, [.null, .null, .null, .null, .int 0])), (qp, .inr (3, [.null]))] H := hP
  have hD : va_D A [(h0, .inr (0, [.ref hk, .ref hb0, .ref ho])), (hk, .inl (dk, 32, .inl (fk))), (hb0, .inl (db, 8, .inl (fb))), (ho, .inl (dq, 8, .inl (fo))), (kq, .inl (dc, 10, .inl (sk_fill (fun j => sk_b (K j)) (fun _ => 0) 10))), (qe, .inr (2, [.null, .null, .null, .null, .int 0])), (qp, .inr (3, [.null]))] := hD
  refine W.widen (k := 3) (n := 16) (Nat.le_of_ble_eq_true rfl) (Nat.le_of_ble_eq_true rfl) ?_
  refine lv_dup hx hb dX0_run_54 rfl ?_
  refine lv_aload hx hb dX0_run_55 (lv_at hl 4 rfl) ?_
  have hPc := hP.sub (ws' := [(qp, .inr (3, [.null])), (kq, .inl (dc, 10, .inl (sk_fill (fun j => sk_b (K j)) (fun _ => 0) 10)))]) [6, 4] rfl
  have hDc := hD.sub (ws' := [(qp, .inr (3, [.null])), (kq, .inl (dc, 10, .inl (sk_fill (fun j => sk_b (K j)) (fun _ => 0) 10)))]) [6, 4] (by decide) rfl
  have hKc := hK.sub (tys' := [(dc, .byte)]) [3] rfl
  have hFc := va_free (wc := [(qp, .inr (3, [.null])), (kq, .inl (dc, 10, .inl (sk_fill (fun j => sk_b (K j)) (fun _ => 0) 10)))]) hD hS hA [6, 4] rfl
  refine va_callv (va_runI (As := [.ref kq]) (rest := [.ref qp, .int (nI 1), .ref qe]) ⟨hx, hb, hml, hown, hts⟩ (kp_init l dC dI H.size qp kq dc (sk_fill (fun j => sk_b (K j)) (fun _ => 0) 10) K (fun j hj => sk_fill_lt hj)) (cwI 1 hts (lw_meth q89) rfl rfl rfl (hts _ q12) (hts _ q87) (hts _ q88) rfl (by decide +kernel) ⟨Nat.le_of_ble_eq_true rfl, Nat.le_of_ble_eq_true rfl⟩) ⟨fun a U g mk q => by obtain ⟨q0, q1, qP, qK, qD⟩ := q; exact ⟨q0, q1, qP, va_K.moved (u := U) (U := U.calling g mk a) (Vm.Alike.refl U.vm) qK, qD⟩, fun U hU hW => ⟨rfl, by rw [hU], by rw [hU]; exact hPc, va_K.moved hW.alike hKc, hDc.weaken (fun _ _ _ _ => trivial)⟩⟩ rfl rfl hl.1 rfl (lv_room (Nat.le_of_ble_eq_true rfl)) dX0_run_57 ⟨Nat.le_of_ble_eq_true rfl, Nat.le_of_ble_eq_true rfl⟩) hS (fun q _ h => hFc q h) hFc (fun uS tS H1 locs htS hvm hw hB hz1 hk1 hS => ?_)
  obtain ⟨qk, dk2, hP1, hK1, hD1⟩ := hB
  rw [htS] at hP1
  obtain ⟨hP, hD⟩ := va_join (wr := [(h0, .inr (0, [.ref hk, .ref hb0, .ref ho])), (hk, .inl (dk, 32, .inl (fk))), (hb0, .inl (db, 8, .inl (fb))), (ho, .inl (dq, 8, .inl (fo))), (qe, .inr (2, [.null, .null, .null, .null, .int 0]))]) (w1 := [(qp, .inr (3, [.ref qk])), (kq, .inl (dc, 10, .inl (sk_fill (fun j => sk_b (K j)) (fun _ => 0) 10))), (qk, .inl (dk2, 10, .inl (sk_fill (sk_fill (fun j => sk_b (K j)) (fun _ => 0) 10) (fun _ => 0) 10)))]) hP hD [6, 4] [0, 1, 2, 3, 5] rfl rfl (by decide) (by decide) hk1 hFc hP1 hD1
  have hK1 := va_K.moved hvm.symm hK1
  have hK := hK.app hK1
  generalize H1 = H at hP hS ⊢
  have hP : va_P (dC, dI) vwCl [(h0, .inr (0, [.ref hk, .ref hb0, .ref ho])), (hk, .inl (dk, 32, .inl (fk))), (hb0, .inl (db, 8, .inl (fb))), (ho, .inl (dq, 8, .inl (fo))), (qe, .inr (2, [.null, .null, .null, .null, .int 0])), (qp, .inr (3, [.ref qk])), (kq, .inl (dc, 10, .inl (sk_fill (fun j => sk_b (K j)) (fun _ => 0) 10))), (qk, .inl (dk2, 10, .inl (sk_fill (sk_fill (fun j => sk_b (K j)) (fun _ => 0) 10) (fun _ => 0) 10)))] H := hP
  have hD : va_D A [(h0, .inr (0, [.ref hk, .ref hb0, .ref ho])), (hk, .inl (dk, 32, .inl (fk))), (hb0, .inl (db, 8, .inl (fb))), (ho, .inl (dq, 8, .inl (fo))), (qe, .inr (2, [.null, .null, .null, .null, .int 0])), (qp, .inr (3, [.ref qk])), (kq, .inl (dc, 10, .inl (sk_fill (fun j => sk_b (K j)) (fun _ => 0) 10))), (qk, .inl (dk2, 10, .inl (sk_fill (sk_fill (fun j => sk_b (K j)) (fun _ => 0) 10) (fun _ => 0) 10)))] := hD
  have hK : va_K (dC, dI) vwCl [(dk, .byte), (db, .byte), (dq, .byte), (dc, .byte), (dc, .byte), (dk2, .byte)] s := hK
  refine W.widen (k := 4) (n := 26) (Nat.le_of_ble_eq_true rfl) (Nat.le_of_ble_eq_true rfl) ?_
  have hPc := hP.sub (ws' := [(qe, .inr (2, [.null, .null, .null, .null, .int 0])), (qp, .inr (3, [.ref qk])), (qk, .inl (dk2, 10, .inl (sk_fill (sk_fill (fun j => sk_b (K j)) (fun _ => 0) 10) (fun _ => 0) 10)))]) [4, 5, 7] rfl
  have hDc := hD.sub (ws' := [(qe, .inr (2, [.null, .null, .null, .null, .int 0])), (qp, .inr (3, [.ref qk])), (qk, .inl (dk2, 10, .inl (sk_fill (sk_fill (fun j => sk_b (K j)) (fun _ => 0) 10) (fun _ => 0) 10)))]) [4, 5, 7] (by decide) rfl
  have hKc := hK.sub (tys' := [(dk2, .byte)]) [5] rfl
  have hFc := va_free (wc := [(qe, .inr (2, [.null, .null, .null, .null, .int 0])), (qp, .inr (3, [.ref qk])), (qk, .inl (dk2, 10, .inl (sk_fill (sk_fill (fun j => sk_b (K j)) (fun _ => 0) 10) (fun _ => 0) 10)))]) hD hS hA [4, 5, 7] rfl
  refine va_callFv (va_runF (hK.1 2 _ rfl).2 (As := [.int (nI 1), .ref qp]) (rest := []) ⟨hx, hb, hml, hown, hts⟩ (eng_init l dC dI H.size qe qp qk dk2 (sk_fill (sk_fill (fun j => sk_b (K j)) (fun _ => 0) 10) (fun _ => 0) 10) K (nI 1) hK0 (fun j hj => (sk_fill_lt hj).trans (sk_fill_lt hj)) (by decide) (by decide)) (va_cwF 2 hts (sk_GF q105 q109 q111 q11 q113) rfl rfl rfl hI.1 (by decide +kernel) ⟨Nat.le_of_ble_eq_true rfl, Nat.le_of_ble_eq_true rfl⟩) ⟨fun a U g mk q => by obtain ⟨q0, q1, qP, qK, qD⟩ := q; exact ⟨q0, q1, qP, va_K.moved (u := U) (U := U.calling g mk a) (Vm.Alike.refl U.vm) qK, qD⟩, va_recv hKc hPc (ci := 2) (q0 := 0) rfl rfl, fun U hU hW => ⟨rfl, by rw [hU], by rw [hU]; exact hPc, va_K.moved hW.alike hKc, hDc.weaken (fun _ _ _ _ => trivial)⟩⟩ rfl rfl hl.1 rfl (lv_room (Nat.le_of_ble_eq_true rfl)) dX0_run_60 ⟨Nat.le_of_ble_eq_true rfl, Nat.le_of_ble_eq_true rfl⟩) hS (fun q _ h => hFc q h) hFc (fun uS tS H1 locs htS hvm hw hB hz1 hk1 hS => ?_)
  obtain ⟨k0, k1, k2, k3, d0, d1, d2, d3, hP1, hK1, hD1⟩ := hB
  rw [htS] at hP1
  obtain ⟨hP, hD⟩ := va_join (wr := [(h0, .inr (0, [.ref hk, .ref hb0, .ref ho])), (hk, .inl (dk, 32, .inl (fk))), (hb0, .inl (db, 8, .inl (fb))), (ho, .inl (dq, 8, .inl (fo))), (kq, .inl (dc, 10, .inl (sk_fill (fun j => sk_b (K j)) (fun _ => 0) 10)))]) (w1 := [(qe, .inr (2, [.ref k0, .ref k1, .ref k2, .ref k3, .int (nI 1)])), (qp, .inr (3, [.ref qk])), (qk, .inl (dk2, 10, .inl (sk_fill (sk_fill (fun j => sk_b (K j)) (fun _ => 0) 10) (fun _ => 0) 10))), (k0, .inl (d0, 32, .inl (sk_fill (fun j => nI (K ((4 * j + 0) % 10))) (fun _ => 0) 32))), (k1, .inl (d1, 32, .inl (sk_fill (fun j => nI (K ((4 * j + 1) % 10))) (fun _ => 0) 32))), (k2, .inl (d2, 32, .inl (sk_fill (fun j => nI (K ((4 * j + 2) % 10))) (fun _ => 0) 32))), (k3, .inl (d3, 32, .inl (sk_fill (fun j => nI (K ((4 * j + 3) % 10))) (fun _ => 0) 32)))]) hP hD [4, 5, 7] [0, 1, 2, 3, 6] rfl rfl (by decide) (by decide) hk1 hFc hP1 hD1
  have hK1 := va_K.moved hvm.symm hK1
  have hK := hK.app hK1
  generalize H1 = H at hP hS ⊢
  have hP : va_P (dC, dI) vwCl [(h0, .inr (0, [.ref hk, .ref hb0, .ref ho])), (hk, .inl (dk, 32, .inl (fk))), (hb0, .inl (db, 8, .inl (fb))), (ho, .inl (dq, 8, .inl (fo))), (kq, .inl (dc, 10, .inl (sk_fill (fun j => sk_b (K j)) (fun _ => 0) 10))), (qe, .inr (2, [.ref k0, .ref k1, .ref k2, .ref k3, .int (nI 1)])), (qp, .inr (3, [.ref qk])), (qk, .inl (dk2, 10, .inl (sk_fill (sk_fill (fun j => sk_b (K j)) (fun _ => 0) 10) (fun _ => 0) 10))), (k0, .inl (d0, 32, .inl (sk_fill (fun j => nI (K ((4 * j + 0) % 10))) (fun _ => 0) 32))), (k1, .inl (d1, 32, .inl (sk_fill (fun j => nI (K ((4 * j + 1) % 10))) (fun _ => 0) 32))), (k2, .inl (d2, 32, .inl (sk_fill (fun j => nI (K ((4 * j + 2) % 10))) (fun _ => 0) 32))), (k3, .inl (d3, 32, .inl (sk_fill (fun j => nI (K ((4 * j + 3) % 10))) (fun _ => 0) 32)))] H := hP
  have hD : va_D A [(h0, .inr (0, [.ref hk, .ref hb0, .ref ho])), (hk, .inl (dk, 32, .inl (fk))), (hb0, .inl (db, 8, .inl (fb))), (ho, .inl (dq, 8, .inl (fo))), (kq, .inl (dc, 10, .inl (sk_fill (fun j => sk_b (K j)) (fun _ => 0) 10))), (qe, .inr (2, [.ref k0, .ref k1, .ref k2, .ref k3, .int (nI 1)])), (qp, .inr (3, [.ref qk])), (qk, .inl (dk2, 10, .inl (sk_fill (sk_fill (fun j => sk_b (K j)) (fun _ => 0) 10) (fun _ => 0) 10))), (k0, .inl (d0, 32, .inl (sk_fill (fun j => nI (K ((4 * j + 0) % 10))) (fun _ => 0) 32))), (k1, .inl (d1, 32, .inl (sk_fill (fun j => nI (K ((4 * j + 1) % 10))) (fun _ => 0) 32))), (k2, .inl (d2, 32, .inl (sk_fill (fun j => nI (K ((4 * j + 2) % 10))) (fun _ => 0) 32))), (k3, .inl (d3, 32, .inl (sk_fill (fun j => nI (K ((4 * j + 3) % 10))) (fun _ => 0) 32)))] := hD
  have hK : va_K (dC, dI) vwCl [(dk, .byte), (db, .byte), (dq, .byte), (dc, .byte), (dc, .byte), (dk2, .byte), (dk2, .byte), (d0, .int), (d1, .int), (d2, .int), (d3, .int)] s := hK
  refine W.widen (k := 8) (n := 154) (Nat.le_of_ble_eq_true rfl) (Nat.le_of_ble_eq_true rfl) ?_
  refine lv_aload hx hb dX0_run_65 (lv_at hl 0 rfl) ?_
  refine lv_aload_n hx hb dX0_run_67 rfl (lv_at hl 1 rfl) ?_
  refine va_get (D := (dC, dI)) (ci := 0) (v := .ref hb0) (C := RX0) (T := TX0) (N := 3) hx hb hts in_X0 hown hK hP 0 rfl rfl 1 (by decide) (hts _ q31) (fun _ h9 => h9) rfl dX0_run_68 ?_
  refine lv_iconst (v := nI 0) hx hb dX0_run_71 (by decide) ?_
  refine lv_aload_n hx hb dX0_run_72 rfl (lv_at hl 1 rfl) ?_
  refine va_get (D := (dC, dI)) (ci := 0) (v := .ref ho) (C := RX0) (T := TX0) (N := 3) hx hb hts in_X0 hown hK hP 0 rfl rfl 2 (by decide) (hts _ q32) (fun _ h9 => h9) rfl dX0_run_73 ?_
  refine lv_iconst (v := nI 0) hx hb dX0_run_76 (by decide) ?_
  have hPc := hP.sub (ws' := [(qe, .inr (2, [.ref k0, .ref k1, .ref k2, .ref k3, .int (nI 1)])), (k0, .inl (d0, 32, .inl (sk_fill (fun j => nI (K ((4 * j + 0) % 10))) (fun _ => 0) 32))), (k1, .inl (d1, 32, .inl (sk_fill (fun j => nI (K ((4 * j + 1) % 10))) (fun _ => 0) 32))), (k2, .inl (d2, 32, .inl (sk_fill (fun j => nI (K ((4 * j + 2) % 10))) (fun _ => 0) 32))), (k3, .inl (d3, 32, .inl (sk_fill (fun j => nI (K ((4 * j + 3) % 10))) (fun _ => 0) 32))), (hb0, .inl (db, 8, .inl (fb))), (ho, .inl (dq, 8, .inl (fo)))]) [5, 8, 9, 10, 11, 2, 3] rfl
  have hDc := hD.sub (ws' := [(qe, .inr (2, [.ref k0, .ref k1, .ref k2, .ref k3, .int (nI 1)])), (k0, .inl (d0, 32, .inl (sk_fill (fun j => nI (K ((4 * j + 0) % 10))) (fun _ => 0) 32))), (k1, .inl (d1, 32, .inl (sk_fill (fun j => nI (K ((4 * j + 1) % 10))) (fun _ => 0) 32))), (k2, .inl (d2, 32, .inl (sk_fill (fun j => nI (K ((4 * j + 2) % 10))) (fun _ => 0) 32))), (k3, .inl (d3, 32, .inl (sk_fill (fun j => nI (K ((4 * j + 3) % 10))) (fun _ => 0) 32))), (hb0, .inl (db, 8, .inl (fb))), (ho, .inl (dq, 8, .inl (fo)))]) [5, 8, 9, 10, 11, 2, 3] (by decide) rfl
  have hKc := hK.sub (tys' := [(d0, .int), (d1, .int), (d2, .int), (d3, .int), (db, .byte), (dq, .byte)]) [7, 8, 9, 10, 1, 2] rfl
  have hFc := va_free (wc := [(qe, .inr (2, [.ref k0, .ref k1, .ref k2, .ref k3, .int (nI 1)])), (k0, .inl (d0, 32, .inl (sk_fill (fun j => nI (K ((4 * j + 0) % 10))) (fun _ => 0) 32))), (k1, .inl (d1, 32, .inl (sk_fill (fun j => nI (K ((4 * j + 1) % 10))) (fun _ => 0) 32))), (k2, .inl (d2, 32, .inl (sk_fill (fun j => nI (K ((4 * j + 2) % 10))) (fun _ => 0) 32))), (k3, .inl (d3, 32, .inl (sk_fill (fun j => nI (K ((4 * j + 3) % 10))) (fun _ => 0) 32))), (hb0, .inl (db, 8, .inl (fb))), (ho, .inl (dq, 8, .inl (fo)))]) hD hS hA [5, 8, 9, 10, 11, 2, 3] rfl
  refine va_callFi (va_runF (hK.1 2 _ rfl).2 (As := [.ref hb0, .int (nI 0), .ref ho, .int (nI 0)]) (rest := []) ⟨hx, hb, hml, hown, hts⟩ (eng_pb1 l dC dI H.size qe k0 k1 k2 k3 d0 d1 d2 d3 (sk_fill (fun j => nI (K ((4 * j + 0) % 10))) (fun _ => 0) 32) (sk_fill (fun j => nI (K ((4 * j + 1) % 10))) (fun _ => 0) 32) (sk_fill (fun j => nI (K ((4 * j + 2) % 10))) (fun _ => 0) 32) (sk_fill (fun j => nI (K ((4 * j + 3) % 10))) (fun _ => 0) 32) K tE hb0 ho db dq fb fo B hK0 (fun j hj => sk_fill_lt hj) (fun j hj => sk_fill_lt hj) (fun j hj => sk_fill_lt hj) (fun j hj => sk_fill_lt hj) hB hfb) (va_cwF 4 hts (sk_GF q188 q191 q193 q11 q195) rfl rfl rfl hI.2 (by decide +kernel) ⟨Nat.le_of_ble_eq_true rfl, Nat.le_of_ble_eq_true rfl⟩) ⟨fun a U g mk q => by obtain ⟨q0, q1, qP, qK, qD, qT0⟩ := q; exact ⟨q0, q1, qP, va_K.moved (u := U) (U := U.calling g mk a) (Vm.Alike.refl U.vm) qK, qD, qT0.calling⟩, va_recv hKc hPc (ci := 2) (q0 := 0) rfl rfl, fun U hU hW => ⟨rfl, by rw [hU], by rw [hU]; exact hPc, va_K.moved hW.alike hKc, hDc.weaken (fun _ _ _ _ => trivial), hT.call hW.alike hU hS hFc⟩⟩ rfl rfl hl.1 rfl (lv_room (Nat.le_of_ble_eq_true rfl)) dX0_run_77 ⟨Nat.le_of_ble_eq_true rfl, Nat.le_of_ble_eq_true rfl⟩) hS (fun q _ h => hFc q h) hFc (fun r8 uS tS H1 locs htS hvm hw hB hz1 hk1 hS => ?_)
  obtain ⟨hP1, hK1, hD1⟩ := hB
  rw [htS] at hP1
  obtain ⟨hP, hD⟩ := va_join (wr := [(h0, .inr (0, [.ref hk, .ref hb0, .ref ho])), (hk, .inl (dk, 32, .inl (fk))), (kq, .inl (dc, 10, .inl (sk_fill (fun j => sk_b (K j)) (fun _ => 0) 10))), (qp, .inr (3, [.ref qk])), (qk, .inl (dk2, 10, .inl (sk_fill (sk_fill (fun j => sk_b (K j)) (fun _ => 0) 10) (fun _ => 0) 10)))]) (w1 := [(qe, .inr (2, [.ref k0, .ref k1, .ref k2, .ref k3, .int (nI 1)])), (k0, .inl (d0, 32, .inl (sk_fill (fun j => nI (K ((4 * j + 0) % 10))) (fun _ => 0) 32))), (k1, .inl (d1, 32, .inl (sk_fill (fun j => nI (K ((4 * j + 1) % 10))) (fun _ => 0) 32))), (k2, .inl (d2, 32, .inl (sk_fill (fun j => nI (K ((4 * j + 2) % 10))) (fun _ => 0) 32))), (k3, .inl (d3, 32, .inl (sk_fill (fun j => nI (K ((4 * j + 3) % 10))) (fun _ => 0) 32))), (hb0, .inl (db, 8, .inl (fb))), (ho, .inl (dq, 8, .inl (sk_fill (fun j => sk_b (sk_by (sk_enc K 32 (sk_wd B)) j)) fo 8)))]) hP hD [5, 8, 9, 10, 11, 2, 3] [0, 1, 4, 6, 7] rfl rfl (by decide) (by decide) hk1 hFc hP1 hD1
  generalize H1 = H at hP hS ⊢
  have hP : va_P (dC, dI) vwCl [(h0, .inr (0, [.ref hk, .ref hb0, .ref ho])), (hk, .inl (dk, 32, .inl (fk))), (kq, .inl (dc, 10, .inl (sk_fill (fun j => sk_b (K j)) (fun _ => 0) 10))), (qp, .inr (3, [.ref qk])), (qk, .inl (dk2, 10, .inl (sk_fill (sk_fill (fun j => sk_b (K j)) (fun _ => 0) 10) (fun _ => 0) 10))), (qe, .inr (2, [.ref k0, .ref k1, .ref k2, .ref k3, .int (nI 1)])), (k0, .inl (d0, 32, .inl (sk_fill (fun j => nI (K ((4 * j + 0) % 10))) (fun _ => 0) 32))), (k1, .inl (d1, 32, .inl (sk_fill (fun j => nI (K ((4 * j + 1) % 10))) (fun _ => 0) 32))), (k2, .inl (d2, 32, .inl (sk_fill (fun j => nI (K ((4 * j + 2) % 10))) (fun _ => 0) 32))), (k3, .inl (d3, 32, .inl (sk_fill (fun j => nI (K ((4 * j + 3) % 10))) (fun _ => 0) 32))), (hb0, .inl (db, 8, .inl (fb))), (ho, .inl (dq, 8, .inl (sk_fill (fun j => sk_b (sk_by (sk_enc K 32 (sk_wd B)) j)) fo 8)))] H := hP
  have hD : va_D A [(h0, .inr (0, [.ref hk, .ref hb0, .ref ho])), (hk, .inl (dk, 32, .inl (fk))), (kq, .inl (dc, 10, .inl (sk_fill (fun j => sk_b (K j)) (fun _ => 0) 10))), (qp, .inr (3, [.ref qk])), (qk, .inl (dk2, 10, .inl (sk_fill (sk_fill (fun j => sk_b (K j)) (fun _ => 0) 10) (fun _ => 0) 10))), (qe, .inr (2, [.ref k0, .ref k1, .ref k2, .ref k3, .int (nI 1)])), (k0, .inl (d0, 32, .inl (sk_fill (fun j => nI (K ((4 * j + 0) % 10))) (fun _ => 0) 32))), (k1, .inl (d1, 32, .inl (sk_fill (fun j => nI (K ((4 * j + 1) % 10))) (fun _ => 0) 32))), (k2, .inl (d2, 32, .inl (sk_fill (fun j => nI (K ((4 * j + 2) % 10))) (fun _ => 0) 32))), (k3, .inl (d3, 32, .inl (sk_fill (fun j => nI (K ((4 * j + 3) % 10))) (fun _ => 0) 32))), (hb0, .inl (db, 8, .inl (fb))), (ho, .inl (dq, 8, .inl (sk_fill (fun j => sk_b (sk_by (sk_enc K 32 (sk_wd B)) j)) fo 8)))] := hD
  refine W.widen (k := 8) (n := 154) (Nat.le_of_ble_eq_true rfl) (Nat.le_of_ble_eq_true rfl) ?_
  refine lv_pop hx hb dX0_run_82 rfl ?_
  have hP9 := hP.sub (ws' := [(h0, .inr (0, [.ref hk, .ref hb0, .ref ho])), (hk, .inl (dk, 32, .inl (fk))), (hb0, .inl (db, 8, .inl (fb))), (ho, .inl (dq, 8, .inl (sk_fill (fun j => sk_b (sk_by (sk_enc K 32 (sk_wd B)) j)) fo 8)))]) [0, 1, 10, 11] rfl
  have hD9 := hD.sub (ws' := [(h0, .inr (0, [.ref hk, .ref hb0, .ref ho])), (hk, .inl (dk, 32, .inl (fk))), (hb0, .inl (db, 8, .inl (fb))), (ho, .inl (dq, 8, .inl (sk_fill (fun j => sk_b (sk_by (sk_enc K 32 (sk_wd B)) j)) fo 8)))]) [0, 1, 10, 11] (by decide) rfl
  have hK9 := hK.sub (tys' := [(dk, .byte), (db, .byte), (dq, .byte)]) [0, 1, 2] rfl
  exact W.vret hx hb hr (fun t ht hW => ⟨⟨(), rfl, trivial, by rw [ht]; exact hP9, va_K.moved hW.alike hK9, hD9⟩, hS.F ht⟩) hS.2.2 dX0_run_83
set_option maxHeartbeats 1000000 in
set_option maxRecDepth 100000 in
/-- SkipjackDesk.run, lock = 0 -/
theorem dsk_run0 (l : Launch) (dC : Nat → ClassId) (dI : Nat → Nat → Nat) (sz : Nat) (h0 hk hb0 ho : Nat) (dk db dq : ClassId) (fk fb fo : Nat → Int32) (K B : Nat → Nat) (kd : Int32) (tE : Nat) (hK0 : sk_K K) (hfk : ∀ j, j < 10 → fk j = sk_b (K j)) (hB : sk_B B) (hfb : ∀ j, j < 8 → fb j = sk_b (B j)) : Met l yX0_run (ws_ yX0_run cX0_run 6 none) ({ frames := 5, cells := 8, slots := 154, locals := 120 }) (va_Pc [.ref h0, .int (nI 0), .int kd] (fun U => U.heap.size = sz ∧ va_P (dC, dI) vwCl [(h0, .inr (0, [.ref hk, .ref hb0, .ref ho])), (hk, .inl (dk, 32, .inl (fk))), (hb0, .inl (db, 8, .inl (fb))), (ho, .inl (dq, 8, .inl (fo)))] U.heap ∧ va_K (dC, dI) vwCl [(dk, .byte), (db, .byte), (dq, .byte)] U ∧ va_D (fun _ => True) [(h0, .inr (0, [.ref hk, .ref hb0, .ref ho])), (hk, .inl (dk, 32, .inl (fk))), (hb0, .inl (db, 8, .inl (fb))), (ho, .inl (dq, 8, .inl (fo)))] ∧ sk_TE tE (va_A [(h0, .inr (0, [.ref hk, .ref hb0, .ref ho])), (hk, .inl (dk, 32, .inl (fk))), (hb0, .inl (db, 8, .inl (fb))), (ho, .inl (dq, 8, .inl (fo)))] sz) U ∧ sk_I (va_A [(h0, .inr (0, [.ref hk, .ref hb0, .ref ho])), (hk, .inl (dk, 32, .inl (fk))), (hb0, .inl (db, 8, .inl (fb))), (ho, .inl (dq, 8, .inl (fo)))] sz) U)) (va_Qv (fun (_ : Unit) => True) (fun (_ : Unit) (t : State) => va_P (dC, dI) vwCl [(h0, .inr (0, [.ref hk, .ref hb0, .ref ho])), (hk, .inl (dk, 32, .inl (fk))), (hb0, .inl (db, 8, .inl (fb))), (ho, .inl (dq, 8, .inl (sk_fill (fun j => sk_b (sk_by (sk_dec K 32 (sk_wd B)) j)) fo 8)))] t.heap ∧ va_K (dC, dI) vwCl [(dk, .byte), (db, .byte), (dq, .byte)] t ∧ va_D (va_A [(h0, .inr (0, [.ref hk, .ref hb0, .ref ho])), (hk, .inl (dk, 32, .inl (fk))), (hb0, .inl (db, 8, .inl (fb))), (ho, .inl (dq, 8, .inl (fo)))] sz) [(h0, .inr (0, [.ref hk, .ref hb0, .ref ho])), (hk, .inl (dk, 32, .inl (fk))), (hb0, .inl (db, 8, .inl (fb))), (ho, .inl (dq, 8, .inl (sk_fill (fun j => sk_b (sk_by (sk_dec K 32 (sk_wd B)) j)) fo 8)))]) (va_A [(h0, .inr (0, [.ref hk, .ref hb0, .ref ho])), (hk, .inl (dk, 32, .inl (fk))), (hb0, .inl (db, 8, .inl (fb))), (ho, .inl (dq, 8, .inl (fo)))] sz)) 8 154 (va_A [(h0, .inr (0, [.ref hk, .ref hb0, .ref ho])), (hk, .inl (dk, 32, .inl (fk))), (hb0, .inl (db, 8, .inl (fb))), (ho, .inl (dq, 8, .inl (fo)))] sz) := by
  refine Met.ofW (cc := cX0_run) (maxL := 6) (ret := none) (by decide) rfl ?_
  intro p e s m args below meth c s₁ BO hml hv
  obtain ⟨rfl, hsz, hP, hK, hD0, hT, hI⟩ := hv
  have hx := BO.exec
  have hb := BO.bytes
  have hr := BO.returns
  have hts := atoms_spec (ws := (ws_ yX0_run cX0_run 6 none)) BO.pre
  have hts : ∀ w ∈ lw_all, w.before _ s = true := fun w h => hts w (List.mem_cons_of_mem _ h)
  have hown : s.vm.findClass RX0 = some m.cls := findClass_of_methodNamed BO.named
  have hlocks := BO.notSynchronized
  subst hsz
  have hD := hD0.self (sz := s.heap.size)
  generalize hAe : va_A [(h0, .inr (0, [.ref hk, .ref hb0, .ref ho])), (hk, .inl (dk, 32, .inl (fk))), (hb0, .inl (db, 8, .inl (fb))), (ho, .inl (dq, 8, .inl (fo)))] s.heap.size = A at hD hT hI ⊢
  have hA : ∀ q : Nat, s.heap.size ≤ q → A q := fun q h => by rw [← hAe]; exact Or.inr h
  have hS : va_S A s.heap s.heap [] := va_S.rf
  have hP : va_P (dC, dI) vwCl [(h0, .inr (0, [.ref hk, .ref hb0, .ref ho])), (hk, .inl (dk, 32, .inl (fk))), (hb0, .inl (db, 8, .inl (fb))), (ho, .inl (dq, 8, .inl (fo)))] s.heap := hP
  have hl := lv_entry ([.ref h0, .int (nI 0), .int kd]) (n := 6) (Nat.le_of_ble_eq_true rfl)
  rw [lg_entry_eq]
  generalize (lg_sl ([.ref h0, .int (nI 0), .int kd]) ++ List.replicate (6 - (lg_sl ([.ref h0, .int (nI 0), .int kd])).length) Slot.unset).toArray = ls at hl ⊢
  have hl : lv_has ls 6 [(0, .ref h0), (1, .int (nI 0)), (2, .int kd)] := hl
  refine lv_iload_n hx hb dX0_run_0 rfl (lv_at hl 2 rfl) ?_
  refine lv_iconst (v := nI 3) hx hb dX0_run_1 (by decide) ?_
  refine lv_iand hx hb dX0_run_2 ?_
  have hPc := hP.sub (ws' := []) [] rfl
  have hDc := hD.sub (ws' := []) [] (by decide) rfl
  have hKc := hK.sub (tys' := []) [] rfl
  have hFc := va_free (wc := []) hD hS hA [] rfl
  refine va_calli (va_runS (As := [.int (kd &&& (nI 3))]) (rest := []) ⟨hx, hb, hml, hown, hts⟩ (dsk_size l dC dI s.heap.size (kd &&& nI 3)) (va_cwS 1 hts (lw_S q60 q61 q9 q62) rfl rfl rfl (by decide +kernel) ⟨Nat.le_of_ble_eq_true rfl, Nat.le_of_ble_eq_true rfl⟩) ⟨fun a U g mk q => by obtain ⟨q0, q1, qP, qK, qD⟩ := q; exact ⟨q0, q1, qP, va_K.moved (u := U) (U := U.calling g mk a) (Vm.Alike.refl U.vm) qK, qD⟩, fun U hU hW => ⟨rfl, by rw [hU], by rw [hU]; exact hPc, va_K.moved hW.alike hKc, hDc.weaken (fun _ _ _ _ => trivial)⟩⟩ rfl rfl hl.1 rfl (lv_room (Nat.le_of_ble_eq_true rfl)) dX0_run_3 ⟨Nat.le_of_ble_eq_true rfl, Nat.le_of_ble_eq_true rfl⟩) hS (fun q _ h => hFc q h) hFc (fun n10 uS tS H1 locs htS hvm hw hB hz1 hk1 hS => ?_)
  obtain ⟨hP1, hK1, hD1⟩ := hB
  rw [htS] at hP1
  obtain ⟨hP, hD⟩ := va_join (wr := [(h0, .inr (0, [.ref hk, .ref hb0, .ref ho])), (hk, .inl (dk, 32, .inl (fk))), (hb0, .inl (db, 8, .inl (fb))), (ho, .inl (dq, 8, .inl (fo)))]) (w1 := []) hP hD [] [0, 1, 2, 3] rfl rfl (by decide) (by decide) hk1 hFc hP1 hD1
  generalize H1 = H at hP hS ⊢
  have hP : va_P (dC, dI) vwCl [(h0, .inr (0, [.ref hk, .ref hb0, .ref ho])), (hk, .inl (dk, 32, .inl (fk))), (hb0, .inl (db, 8, .inl (fb))), (ho, .inl (dq, 8, .inl (fo)))] H := hP
  have hD : va_D A [(h0, .inr (0, [.ref hk, .ref hb0, .ref ho])), (hk, .inl (dk, 32, .inl (fk))), (hb0, .inl (db, 8, .inl (fb))), (ho, .inl (dq, 8, .inl (fo)))] := hD
  refine W.widen (k := 0) (n := 0) (Nat.le_of_ble_eq_true rfl) (Nat.le_of_ble_eq_true rfl) ?_
  have hw : n10 = nI 10 := hw
  subst hw
  refine lv_istore_n (lv' := [(3, .int (nI 10)), (0, .ref h0), (1, .int (nI 0)), (2, .int kd)]) hx hb dX0_run_6 rfl hl (by decide) rfl (fun ls hl => ?_)
  refine lv_iload_n hx hb dX0_run_7 rfl (lv_at hl 0 rfl) ?_
  refine va_newa (atype := .byte) (N' := 10) (a0 := (10, .inl (fun _ => 0))) hx hb (hts _ q40) rfl hK hP hD hS hA (fun _ => rfl) (by decide) (by decide) (by decide) (Nat.le_of_ble_eq_true rfl) (Nat.le_of_ble_eq_true rfl) dX0_run_8 (fun kq dc H hK hP hD hS => ?_)
  have hP : va_P (dC, dI) vwCl [(h0, .inr (0, [.ref hk, .ref hb0, .ref ho])), (hk, .inl (dk, 32, .inl (fk))), (hb0, .inl (db, 8, .inl (fb))), (ho, .inl (dq, 8, .inl (fo))), (kq, .inl (dc, 10, .inl (fun _ => 0)))] H := hP
  have hD : va_D A [(h0, .inr (0, [.ref hk, .ref hb0, .ref ho])), (hk, .inl (dk, 32, .inl (fk))), (hb0, .inl (db, 8, .inl (fb))), (ho, .inl (dq, 8, .inl (fo))), (kq, .inl (dc, 10, .inl (fun _ => 0)))] := hD
  have hK : va_K (dC, dI) vwCl [(dk, .byte), (db, .byte), (dq, .byte), (dc, .byte)] s := hK
  refine W.widen (k := 1) (n := 10) (Nat.le_of_ble_eq_true rfl) (Nat.le_of_ble_eq_true rfl) ?_
  have hP : va_P (dC, dI) vwCl [(h0, .inr (0, [.ref hk, .ref hb0, .ref ho])), (hk, .inl (dk, 32, .inl (fk))), (hb0, .inl (db, 8, .inl (fb))), (ho, .inl (dq, 8, .inl (fo))), (kq, .inl (dc, 10, .inl (sk_fill (fun j => sk_b (K j)) (fun _ => 0) 0)))] H := by rw [← sk_fill_0 (fun j => sk_b (K j)) (fun _ => 0)]; exact hP
  have hD : va_D A [(h0, .inr (0, [.ref hk, .ref hb0, .ref ho])), (hk, .inl (dk, 32, .inl (fk))), (hb0, .inl (db, 8, .inl (fb))), (ho, .inl (dq, 8, .inl (fo))), (kq, .inl (dc, 10, .inl (sk_fill (fun j => sk_b (K j)) (fun _ => 0) 0)))] := by rw [← sk_fill_0 (fun j => sk_b (K j)) (fun _ => 0)]; exact hD
  refine lv_astore (lv' := [(4, .ref kq), (3, .int (nI 10)), (0, .ref h0), (1, .int (nI 0)), (2, .int kd)]) hx hb dX0_run_10 hl (by decide) rfl (fun ls hl => ?_)
  refine lv_iconst (v := nI 0) hx hb dX0_run_12 (by decide) ?_
  refine lv_istore (lv' := [(5, .int (nI 0)), (4, .ref kq), (3, .int (nI 10)), (0, .ref h0), (1, .int (nI 0)), (2, .int kd)]) hx hb dX0_run_13 hl (by decide) rfl (fun ls hl => ?_)
  refine dsk_run_lp h0 hk hb0 ho kq dk db dq dc fk fb fo K (nI 0) hx hb hown hts hK hfk ?_ 10 0 (by decide) _ _ ls hP hD hS (lv_sub hl [3, 4, 2, 1, 0] rfl)
  intro H locs ls hP hD hS hl
  refine va_new (ci := 2) (fs := [.null, .null, .null, .null, .int 0]) (C := RX2) (T := TX2) (N := 5) hx hb hts in_X2 tyX2 tyX2_ok hown (hts _ q63) (hts _ q64) (hts _ q11) hK hP hD hS hA rfl (fun j hj => by rcases (show j = 0 ∨ j = 1 ∨ j = 2 ∨ j = 3 ∨ j = 4 by omega) with rfl | rfl | rfl | rfl | rfl <;> rfl) (Nat.le_of_ble_eq_true rfl) (Nat.le_of_ble_eq_true rfl) dX0_run_39 (fun qe H hP hD hS => ?_)
  have hP : va_P (dC, dI) vwCl [(h0, .inr (0, [.ref hk, .ref hb0, .ref ho])), (hk, .inl (dk, 32, .inl (fk))), (hb0, .inl (db, 8, .inl (fb))), (ho, .inl (dq, 8, .inl (fo))), (kq, .inl (dc, 10, .inl (sk_fill (fun j => sk_b (K j)) (fun _ => 0) 10))), (qe, .inr (2, [.null, .null, .null, .null, .int 0]))] H := hP
  have hD : va_D A [(h0, .inr (0, [.ref hk, .ref hb0, .ref ho])), (hk, .inl (dk, 32, .inl (fk))), (hb0, .inl (db, 8, .inl (fb))), (ho, .inl (dq, 8, .inl (fo))), (kq, .inl (dc, 10, .inl (sk_fill (fun j => sk_b (K j)) (fun _ => 0) 10))), (qe, .inr (2, [.null, .null, .null, .null, .int 0]))] := hD
  refine W.widen (k := 2) (n := 15) (Nat.le_of_ble_eq_true rfl) (Nat.le_of_ble_eq_true rfl) ?_
  refine lv_dup hx hb dX0_run_42 rfl ?_
  have hPc := hP.sub (ws' := [(qe, .inr (2, [.null, .null, .null, .null, .int 0]))]) [5] rfl
  have hDc := hD.sub (ws' := [(qe, .inr (2, [.null, .null, .null, .null, .int 0]))]) [5] (by decide) rfl
  have hKc := hK.sub (tys' := []) [] rfl
  have hFc := va_free (wc := [(qe, .inr (2, [.null, .null, .null, .null, .int 0]))]) hD hS hA [5] rfl
  refine va_callv (va_runI (As := []) (rest := [.ref qe]) ⟨hx, hb, hml, hown, hts⟩ (eng_init0 l dC dI H.size qe) (cwI 0 hts (lw_meth q67) rfl rfl rfl (hts _ q11) (hts _ q65) (hts _ q66) rfl (by decide +kernel) ⟨Nat.le_of_ble_eq_true rfl, Nat.le_of_ble_eq_true rfl⟩) ⟨fun a U g mk q => by obtain ⟨q0, q1, qP, qK, qD⟩ := q; exact ⟨q0, q1, qP, va_K.moved (u := U) (U := U.calling g mk a) (Vm.Alike.refl U.vm) qK, qD⟩, fun U hU hW => ⟨rfl, by rw [hU], by rw [hU]; exact hPc, va_K.moved hW.alike hKc, hDc.weaken (fun _ _ _ _ => trivial)⟩⟩ rfl rfl hl.1 rfl (lv_room (Nat.le_of_ble_eq_true rfl)) dX0_run_43 ⟨Nat.le_of_ble_eq_true rfl, Nat.le_of_ble_eq_true rfl⟩) hS (fun q _ h => hFc q h) hFc (fun uS tS H1 locs htS hvm hw hB hz1 hk1 hS => ?_)
  obtain ⟨hP1, hK1, hD1⟩ := hB
  rw [htS] at hP1
  obtain ⟨hP, hD⟩ := va_join (wr := [(h0, .inr (0, [.ref hk, .ref hb0, .ref ho])), (hk, .inl (dk, 32, .inl (fk))), (hb0, .inl (db, 8, .inl (fb))), (ho, .inl (dq, 8, .inl (fo))), (kq, .inl (dc, 10, .inl (sk_fill (fun j => sk_b (K j)) (fun _ => 0) 10)))]) (w1 := [(qe, .inr (2, [.null, .null, .null, .null, .int 0]))]) hP hD [5] [0, 1, 2, 3, 4] rfl rfl (by decide) (by decide) hk1 hFc hP1 hD1
  generalize H1 = H at hP hS ⊢
  have hP : va_P (dC, dI) vwCl [(h0, .inr (0, [.ref hk, .ref hb0, .ref ho])), (hk, .inl (dk, 32, .inl (fk))), (hb0, .inl (db, 8, .inl (fb))), (ho, .inl (dq, 8, .inl (fo))), (kq, .inl (dc, 10, .inl (sk_fill (fun j => sk_b (K j)) (fun _ => 0) 10))), (qe, .inr (2, [.null, .null, .null, .null, .int 0]))] H := hP
  have hD : va_D A [(h0, .inr (0, [.ref hk, .ref hb0, .ref ho])), (hk, .inl (dk, 32, .inl (fk))), (hb0, .inl (db, 8, .inl (fb))), (ho, .inl (dq, 8, .inl (fo))), (kq, .inl (dc, 10, .inl (sk_fill (fun j => sk_b (K j)) (fun _ => 0) 10))), (qe, .inr (2, [.null, .null, .null, .null, .int 0]))] := hD
  refine W.widen (k := 2) (n := 15) (Nat.le_of_ble_eq_true rfl) (Nat.le_of_ble_eq_true rfl) ?_
  refine lv_astore (lv' := [(5, .ref qe), (0, .ref h0), (1, .int (nI 0)), (3, .int (nI 10)), (4, .ref kq)]) hx hb dX0_run_46 hl (by decide) rfl (fun ls hl => ?_)
  refine lv_aload hx hb dX0_run_48 (lv_at hl 0 rfl) ?_
  refine lv_iload_n hx hb dX0_run_50 rfl (lv_at hl 2 rfl) ?_
  refine va_new (ci := 3) (fs := [.null]) (C := RX3) (T := TX3) (N := 1) hx hb hts in_X3 tyX3 tyX3_ok hown (hts _ q85) (hts _ q86) (hts _ q12) hK hP hD hS hA rfl (fun j hj => by rcases (show j = 0 by omega) with rfl <;> rfl) (Nat.le_of_ble_eq_true rfl) (Nat.le_of_ble_eq_true rfl) dX0_run_51 (fun qp H hP hD hS => ?_)
  have hP : va_P (dC, dI) vwCl [(h0, .inr (0, [.ref hk, .ref hb0, .ref ho])), (hk, .inl (dk, 32, .inl (fk))), (hb0, .inl (db, 8, .inl (fb))), (ho, .inl (dq, 8, .inl (fo))), (kq, .inl (dc, 10, .inl (sk_fill (fun j => sk_b (K j)) (fun _ => 0) 10))), (qe, .inr (2, [.null, .null, .null, .null, .int 0])), (qp, .inr (3, [.null]))] H := hP
  have hD : va_D A [(h0, .inr (0, [.ref hk, .ref hb0, .ref ho])), (hk, .inl (dk, 32, .inl (fk))), (hb0, .inl (db, 8, .inl (fb))), (ho, .inl (dq, 8, .inl (fo))), (kq, .inl (dc, 10, .inl (sk_fill (fun j => sk_b (K j)) (fun _ => 0) 10))), (qe, .inr (2, [.null, .null, .null, .null, .int 0])), (qp, .inr (3, [.null]))] := hD
  refine W.widen (k := 3) (n := 16) (Nat.le_of_ble_eq_true rfl) (Nat.le_of_ble_eq_true rfl) ?_
  refine lv_dup hx hb dX0_run_54 rfl ?_
  refine lv_aload hx hb dX0_run_55 (lv_at hl 4 rfl) ?_
  have hPc := hP.sub (ws' := [(qp, .inr (3, [.null])), (kq, .inl (dc, 10, .inl (sk_fill (fun j => sk_b (K j)) (fun _ => 0) 10)))]) [6, 4] rfl
  have hDc := hD.sub (ws' := [(qp, .inr (3, [.null])), (kq, .inl (dc, 10, .inl (sk_fill (fun j => sk_b (K j)) (fun _ => 0) 10)))]) [6, 4] (by decide) rfl
  have hKc := hK.sub (tys' := [(dc, .byte)]) [3] rfl
  have hFc := va_free (wc := [(qp, .inr (3, [.null])), (kq, .inl (dc, 10, .inl (sk_fill (fun j => sk_b (K j)) (fun _ => 0) 10)))]) hD hS hA [6, 4] rfl
  refine va_callv (va_runI (As := [.ref kq]) (rest := [.ref qp, .int (nI 0), .ref qe]) ⟨hx, hb, hml, hown, hts⟩ (kp_init l dC dI H.size qp kq dc (sk_fill (fun j => sk_b (K j)) (fun _ => 0) 10) K (fun j hj => sk_fill_lt hj)) (cwI 1 hts (lw_meth q89) rfl rfl rfl (hts _ q12) (hts _ q87) (hts _ q88) rfl (by decide +kernel) ⟨Nat.le_of_ble_eq_true rfl, Nat.le_of_ble_eq_true rfl⟩) ⟨fun a U g mk q => by obtain ⟨q0, q1, qP, qK, qD⟩ := q; exact ⟨q0, q1, qP, va_K.moved (u := U) (U := U.calling g mk a) (Vm.Alike.refl U.vm) qK, qD⟩, fun U hU hW => ⟨rfl, by rw [hU], by rw [hU]; exact hPc, va_K.moved hW.alike hKc, hDc.weaken (fun _ _ _ _ => trivial)⟩⟩ rfl rfl hl.1 rfl (lv_room (Nat.le_of_ble_eq_true rfl)) dX0_run_57 ⟨Nat.le_of_ble_eq_true rfl, Nat.le_of_ble_eq_true rfl⟩) hS (fun q _ h => hFc q h) hFc (fun uS tS H1 locs htS hvm hw hB hz1 hk1 hS => ?_)
  obtain ⟨qk, dk2, hP1, hK1, hD1⟩ := hB
  rw [htS] at hP1
  obtain ⟨hP, hD⟩ := va_join (wr := [(h0, .inr (0, [.ref hk, .ref hb0, .ref ho])), (hk, .inl (dk, 32, .inl (fk))), (hb0, .inl (db, 8, .inl (fb))), (ho, .inl (dq, 8, .inl (fo))), (qe, .inr (2, [.null, .null, .null, .null, .int 0]))]) (w1 := [(qp, .inr (3, [.ref qk])), (kq, .inl (dc, 10, .inl (sk_fill (fun j => sk_b (K j)) (fun _ => 0) 10))), (qk, .inl (dk2, 10, .inl (sk_fill (sk_fill (fun j => sk_b (K j)) (fun _ => 0) 10) (fun _ => 0) 10)))]) hP hD [6, 4] [0, 1, 2, 3, 5] rfl rfl (by decide) (by decide) hk1 hFc hP1 hD1
  have hK1 := va_K.moved hvm.symm hK1
  have hK := hK.app hK1
  generalize H1 = H at hP hS ⊢
  have hP : va_P (dC, dI) vwCl [(h0, .inr (0, [.ref hk, .ref hb0, .ref ho])), (hk, .inl (dk, 32, .inl (fk))), (hb0, .inl (db, 8, .inl (fb))), (ho, .inl (dq, 8, .inl (fo))), (qe, .inr (2, [.null, .null, .null, .null, .int 0])), (qp, .inr (3, [.ref qk])), (kq, .inl (dc, 10, .inl (sk_fill (fun j => sk_b (K j)) (fun _ => 0) 10))), (qk, .inl (dk2, 10, .inl (sk_fill (sk_fill (fun j => sk_b (K j)) (fun _ => 0) 10) (fun _ => 0) 10)))] H := hP
  have hD : va_D A [(h0, .inr (0, [.ref hk, .ref hb0, .ref ho])), (hk, .inl (dk, 32, .inl (fk))), (hb0, .inl (db, 8, .inl (fb))), (ho, .inl (dq, 8, .inl (fo))), (qe, .inr (2, [.null, .null, .null, .null, .int 0])), (qp, .inr (3, [.ref qk])), (kq, .inl (dc, 10, .inl (sk_fill (fun j => sk_b (K j)) (fun _ => 0) 10))), (qk, .inl (dk2, 10, .inl (sk_fill (sk_fill (fun j => sk_b (K j)) (fun _ => 0) 10) (fun _ => 0) 10)))] := hD
  have hK : va_K (dC, dI) vwCl [(dk, .byte), (db, .byte), (dq, .byte), (dc, .byte), (dc, .byte), (dk2, .byte)] s := hK
  refine W.widen (k := 4) (n := 26) (Nat.le_of_ble_eq_true rfl) (Nat.le_of_ble_eq_true rfl) ?_
  have hPc := hP.sub (ws' := [(qe, .inr (2, [.null, .null, .null, .null, .int 0])), (qp, .inr (3, [.ref qk])), (qk, .inl (dk2, 10, .inl (sk_fill (sk_fill (fun j => sk_b (K j)) (fun _ => 0) 10) (fun _ => 0) 10)))]) [4, 5, 7] rfl
  have hDc := hD.sub (ws' := [(qe, .inr (2, [.null, .null, .null, .null, .int 0])), (qp, .inr (3, [.ref qk])), (qk, .inl (dk2, 10, .inl (sk_fill (sk_fill (fun j => sk_b (K j)) (fun _ => 0) 10) (fun _ => 0) 10)))]) [4, 5, 7] (by decide) rfl
  have hKc := hK.sub (tys' := [(dk2, .byte)]) [5] rfl
  have hFc := va_free (wc := [(qe, .inr (2, [.null, .null, .null, .null, .int 0])), (qp, .inr (3, [.ref qk])), (qk, .inl (dk2, 10, .inl (sk_fill (sk_fill (fun j => sk_b (K j)) (fun _ => 0) 10) (fun _ => 0) 10)))]) hD hS hA [4, 5, 7] rfl
  refine va_callFv (va_runF (hK.1 2 _ rfl).2 (As := [.int (nI 0), .ref qp]) (rest := []) ⟨hx, hb, hml, hown, hts⟩ (eng_init l dC dI H.size qe qp qk dk2 (sk_fill (sk_fill (fun j => sk_b (K j)) (fun _ => 0) 10) (fun _ => 0) 10) K (nI 0) hK0 (fun j hj => (sk_fill_lt hj).trans (sk_fill_lt hj)) (by decide) (by decide)) (va_cwF 2 hts (sk_GF q105 q109 q111 q11 q113) rfl rfl rfl hI.1 (by decide +kernel) ⟨Nat.le_of_ble_eq_true rfl, Nat.le_of_ble_eq_true rfl⟩) ⟨fun a U g mk q => by obtain ⟨q0, q1, qP, qK, qD⟩ := q; exact ⟨q0, q1, qP, va_K.moved (u := U) (U := U.calling g mk a) (Vm.Alike.refl U.vm) qK, qD⟩, va_recv hKc hPc (ci := 2) (q0 := 0) rfl rfl, fun U hU hW => ⟨rfl, by rw [hU], by rw [hU]; exact hPc, va_K.moved hW.alike hKc, hDc.weaken (fun _ _ _ _ => trivial)⟩⟩ rfl rfl hl.1 rfl (lv_room (Nat.le_of_ble_eq_true rfl)) dX0_run_60 ⟨Nat.le_of_ble_eq_true rfl, Nat.le_of_ble_eq_true rfl⟩) hS (fun q _ h => hFc q h) hFc (fun uS tS H1 locs htS hvm hw hB hz1 hk1 hS => ?_)
  obtain ⟨k0, k1, k2, k3, d0, d1, d2, d3, hP1, hK1, hD1⟩ := hB
  rw [htS] at hP1
  obtain ⟨hP, hD⟩ := va_join (wr := [(h0, .inr (0, [.ref hk, .ref hb0, .ref ho])), (hk, .inl (dk, 32, .inl (fk))), (hb0, .inl (db, 8, .inl (fb))), (ho, .inl (dq, 8, .inl (fo))), (kq, .inl (dc, 10, .inl (sk_fill (fun j => sk_b (K j)) (fun _ => 0) 10)))]) (w1 := [(qe, .inr (2, [.ref k0, .ref k1, .ref k2, .ref k3, .int (nI 0)])), (qp, .inr (3, [.ref qk])), (qk, .inl (dk2, 10, .inl (sk_fill (sk_fill (fun j => sk_b (K j)) (fun _ => 0) 10) (fun _ => 0) 10))), (k0, .inl (d0, 32, .inl (sk_fill (fun j => nI (K ((4 * j + 0) % 10))) (fun _ => 0) 32))), (k1, .inl (d1, 32, .inl (sk_fill (fun j => nI (K ((4 * j + 1) % 10))) (fun _ => 0) 32))), (k2, .inl (d2, 32, .inl (sk_fill (fun j => nI (K ((4 * j + 2) % 10))) (fun _ => 0) 32))), (k3, .inl (d3, 32, .inl (sk_fill (fun j => nI (K ((4 * j + 3) % 10))) (fun _ => 0) 32)))]) hP hD [4, 5, 7] [0, 1, 2, 3, 6] rfl rfl (by decide) (by decide) hk1 hFc hP1 hD1
  have hK1 := va_K.moved hvm.symm hK1
  have hK := hK.app hK1
  generalize H1 = H at hP hS ⊢
  have hP : va_P (dC, dI) vwCl [(h0, .inr (0, [.ref hk, .ref hb0, .ref ho])), (hk, .inl (dk, 32, .inl (fk))), (hb0, .inl (db, 8, .inl (fb))), (ho, .inl (dq, 8, .inl (fo))), (kq, .inl (dc, 10, .inl (sk_fill (fun j => sk_b (K j)) (fun _ => 0) 10))), (qe, .inr (2, [.ref k0, .ref k1, .ref k2, .ref k3, .int (nI 0)])), (qp, .inr (3, [.ref qk])), (qk, .inl (dk2, 10, .inl (sk_fill (sk_fill (fun j => sk_b (K j)) (fun _ => 0) 10) (fun _ => 0) 10))), (k0, .inl (d0, 32, .inl (sk_fill (fun j => nI (K ((4 * j + 0) % 10))) (fun _ => 0) 32))), (k1, .inl (d1, 32, .inl (sk_fill (fun j => nI (K ((4 * j + 1) % 10))) (fun _ => 0) 32))), (k2, .inl (d2, 32, .inl (sk_fill (fun j => nI (K ((4 * j + 2) % 10))) (fun _ => 0) 32))), (k3, .inl (d3, 32, .inl (sk_fill (fun j => nI (K ((4 * j + 3) % 10))) (fun _ => 0) 32)))] H := hP
  have hD : va_D A [(h0, .inr (0, [.ref hk, .ref hb0, .ref ho])), (hk, .inl (dk, 32, .inl (fk))), (hb0, .inl (db, 8, .inl (fb))), (ho, .inl (dq, 8, .inl (fo))), (kq, .inl (dc, 10, .inl (sk_fill (fun j => sk_b (K j)) (fun _ => 0) 10))), (qe, .inr (2, [.ref k0, .ref k1, .ref k2, .ref k3, .int (nI 0)])), (qp, .inr (3, [.ref qk])), (qk, .inl (dk2, 10, .inl (sk_fill (sk_fill (fun j => sk_b (K j)) (fun _ => 0) 10) (fun _ => 0) 10))), (k0, .inl (d0, 32, .inl (sk_fill (fun j => nI (K ((4 * j + 0) % 10))) (fun _ => 0) 32))), (k1, .inl (d1, 32, .inl (sk_fill (fun j => nI (K ((4 * j + 1) % 10))) (fun _ => 0) 32))), (k2, .inl (d2, 32, .inl (sk_fill (fun j => nI (K ((4 * j + 2) % 10))) (fun _ => 0) 32))), (k3, .inl (d3, 32, .inl (sk_fill (fun j => nI (K ((4 * j + 3) % 10))) (fun _ => 0) 32)))] := hD
  have hK : va_K (dC, dI) vwCl [(dk, .byte), (db, .byte), (dq, .byte), (dc, .byte), (dc, .byte), (dk2, .byte), (dk2, .byte), (d0, .int), (d1, .int), (d2, .int), (d3, .int)] s := hK
  refine W.widen (k := 8) (n := 154) (Nat.le_of_ble_eq_true rfl) (Nat.le_of_ble_eq_true rfl) ?_
  refine lv_aload hx hb dX0_run_65 (lv_at hl 0 rfl) ?_
  refine lv_aload_n hx hb dX0_run_67 rfl (lv_at hl 1 rfl) ?_
  refine va_get (D := (dC, dI)) (ci := 0) (v := .ref hb0) (C := RX0) (T := TX0) (N := 3) hx hb hts in_X0 hown hK hP 0 rfl rfl 1 (by decide) (hts _ q31) (fun _ h9 => h9) rfl dX0_run_68 ?_
  refine lv_iconst (v := nI 0) hx hb dX0_run_71 (by decide) ?_
  refine lv_aload_n hx hb dX0_run_72 rfl (lv_at hl 1 rfl) ?_
  refine va_get (D := (dC, dI)) (ci := 0) (v := .ref ho) (C := RX0) (T := TX0) (N := 3) hx hb hts in_X0 hown hK hP 0 rfl rfl 2 (by decide) (hts _ q32) (fun _ h9 => h9) rfl dX0_run_73 ?_
  refine lv_iconst (v := nI 0) hx hb dX0_run_76 (by decide) ?_
  have hPc := hP.sub (ws' := [(qe, .inr (2, [.ref k0, .ref k1, .ref k2, .ref k3, .int (nI 0)])), (k0, .inl (d0, 32, .inl (sk_fill (fun j => nI (K ((4 * j + 0) % 10))) (fun _ => 0) 32))), (k1, .inl (d1, 32, .inl (sk_fill (fun j => nI (K ((4 * j + 1) % 10))) (fun _ => 0) 32))), (k2, .inl (d2, 32, .inl (sk_fill (fun j => nI (K ((4 * j + 2) % 10))) (fun _ => 0) 32))), (k3, .inl (d3, 32, .inl (sk_fill (fun j => nI (K ((4 * j + 3) % 10))) (fun _ => 0) 32))), (hb0, .inl (db, 8, .inl (fb))), (ho, .inl (dq, 8, .inl (fo)))]) [5, 8, 9, 10, 11, 2, 3] rfl
  have hDc := hD.sub (ws' := [(qe, .inr (2, [.ref k0, .ref k1, .ref k2, .ref k3, .int (nI 0)])), (k0, .inl (d0, 32, .inl (sk_fill (fun j => nI (K ((4 * j + 0) % 10))) (fun _ => 0) 32))), (k1, .inl (d1, 32, .inl (sk_fill (fun j => nI (K ((4 * j + 1) % 10))) (fun _ => 0) 32))), (k2, .inl (d2, 32, .inl (sk_fill (fun j => nI (K ((4 * j + 2) % 10))) (fun _ => 0) 32))), (k3, .inl (d3, 32, .inl (sk_fill (fun j => nI (K ((4 * j + 3) % 10))) (fun _ => 0) 32))), (hb0, .inl (db, 8, .inl (fb))), (ho, .inl (dq, 8, .inl (fo)))]) [5, 8, 9, 10, 11, 2, 3] (by decide) rfl
  have hKc := hK.sub (tys' := [(d0, .int), (d1, .int), (d2, .int), (d3, .int), (db, .byte), (dq, .byte)]) [7, 8, 9, 10, 1, 2] rfl
  have hFc := va_free (wc := [(qe, .inr (2, [.ref k0, .ref k1, .ref k2, .ref k3, .int (nI 0)])), (k0, .inl (d0, 32, .inl (sk_fill (fun j => nI (K ((4 * j + 0) % 10))) (fun _ => 0) 32))), (k1, .inl (d1, 32, .inl (sk_fill (fun j => nI (K ((4 * j + 1) % 10))) (fun _ => 0) 32))), (k2, .inl (d2, 32, .inl (sk_fill (fun j => nI (K ((4 * j + 2) % 10))) (fun _ => 0) 32))), (k3, .inl (d3, 32, .inl (sk_fill (fun j => nI (K ((4 * j + 3) % 10))) (fun _ => 0) 32))), (hb0, .inl (db, 8, .inl (fb))), (ho, .inl (dq, 8, .inl (fo)))]) hD hS hA [5, 8, 9, 10, 11, 2, 3] rfl
  refine va_callFi (va_runF (hK.1 2 _ rfl).2 (As := [.ref hb0, .int (nI 0), .ref ho, .int (nI 0)]) (rest := []) ⟨hx, hb, hml, hown, hts⟩ (eng_pb0 l dC dI H.size qe k0 k1 k2 k3 d0 d1 d2 d3 (sk_fill (fun j => nI (K ((4 * j + 0) % 10))) (fun _ => 0) 32) (sk_fill (fun j => nI (K ((4 * j + 1) % 10))) (fun _ => 0) 32) (sk_fill (fun j => nI (K ((4 * j + 2) % 10))) (fun _ => 0) 32) (sk_fill (fun j => nI (K ((4 * j + 3) % 10))) (fun _ => 0) 32) K tE hb0 ho db dq fb fo B hK0 (fun j hj => sk_fill_lt hj) (fun j hj => sk_fill_lt hj) (fun j hj => sk_fill_lt hj) (fun j hj => sk_fill_lt hj) hB hfb) (va_cwF 4 hts (sk_GF q188 q191 q193 q11 q195) rfl rfl rfl hI.2 (by decide +kernel) ⟨Nat.le_of_ble_eq_true rfl, Nat.le_of_ble_eq_true rfl⟩) ⟨fun a U g mk q => by obtain ⟨q0, q1, qP, qK, qD, qT0⟩ := q; exact ⟨q0, q1, qP, va_K.moved (u := U) (U := U.calling g mk a) (Vm.Alike.refl U.vm) qK, qD, qT0.calling⟩, va_recv hKc hPc (ci := 2) (q0 := 0) rfl rfl, fun U hU hW => ⟨rfl, by rw [hU], by rw [hU]; exact hPc, va_K.moved hW.alike hKc, hDc.weaken (fun _ _ _ _ => trivial), hT.call hW.alike hU hS hFc⟩⟩ rfl rfl hl.1 rfl (lv_room (Nat.le_of_ble_eq_true rfl)) dX0_run_77 ⟨Nat.le_of_ble_eq_true rfl, Nat.le_of_ble_eq_true rfl⟩) hS (fun q _ h => hFc q h) hFc (fun r8 uS tS H1 locs htS hvm hw hB hz1 hk1 hS => ?_)
  obtain ⟨hP1, hK1, hD1⟩ := hB
  rw [htS] at hP1
  obtain ⟨hP, hD⟩ := va_join (wr := [(h0, .inr (0, [.ref hk, .ref hb0, .ref ho])), (hk, .inl (dk, 32, .inl (fk))), (kq, .inl (dc, 10, .inl (sk_fill (fun j => sk_b (K j)) (fun _ => 0) 10))), (qp, .inr (3, [.ref qk])), (qk, .inl (dk2, 10, .inl (sk_fill (sk_fill (fun j => sk_b (K j)) (fun _ => 0) 10) (fun _ => 0) 10)))]) (w1 := [(qe, .inr (2, [.ref k0, .ref k1, .ref k2, .ref k3, .int (nI 0)])), (k0, .inl (d0, 32, .inl (sk_fill (fun j => nI (K ((4 * j + 0) % 10))) (fun _ => 0) 32))), (k1, .inl (d1, 32, .inl (sk_fill (fun j => nI (K ((4 * j + 1) % 10))) (fun _ => 0) 32))), (k2, .inl (d2, 32, .inl (sk_fill (fun j => nI (K ((4 * j + 2) % 10))) (fun _ => 0) 32))), (k3, .inl (d3, 32, .inl (sk_fill (fun j => nI (K ((4 * j + 3) % 10))) (fun _ => 0) 32))), (hb0, .inl (db, 8, .inl (fb))), (ho, .inl (dq, 8, .inl (sk_fill (fun j => sk_b (sk_by (sk_dec K 32 (sk_wd B)) j)) fo 8)))]) hP hD [5, 8, 9, 10, 11, 2, 3] [0, 1, 4, 6, 7] rfl rfl (by decide) (by decide) hk1 hFc hP1 hD1
  generalize H1 = H at hP hS ⊢
  have hP : va_P (dC, dI) vwCl [(h0, .inr (0, [.ref hk, .ref hb0, .ref ho])), (hk, .inl (dk, 32, .inl (fk))), (kq, .inl (dc, 10, .inl (sk_fill (fun j => sk_b (K j)) (fun _ => 0) 10))), (qp, .inr (3, [.ref qk])), (qk, .inl (dk2, 10, .inl (sk_fill (sk_fill (fun j => sk_b (K j)) (fun _ => 0) 10) (fun _ => 0) 10))), (qe, .inr (2, [.ref k0, .ref k1, .ref k2, .ref k3, .int (nI 0)])), (k0, .inl (d0, 32, .inl (sk_fill (fun j => nI (K ((4 * j + 0) % 10))) (fun _ => 0) 32))), (k1, .inl (d1, 32, .inl (sk_fill (fun j => nI (K ((4 * j + 1) % 10))) (fun _ => 0) 32))), (k2, .inl (d2, 32, .inl (sk_fill (fun j => nI (K ((4 * j + 2) % 10))) (fun _ => 0) 32))), (k3, .inl (d3, 32, .inl (sk_fill (fun j => nI (K ((4 * j + 3) % 10))) (fun _ => 0) 32))), (hb0, .inl (db, 8, .inl (fb))), (ho, .inl (dq, 8, .inl (sk_fill (fun j => sk_b (sk_by (sk_dec K 32 (sk_wd B)) j)) fo 8)))] H := hP
  have hD : va_D A [(h0, .inr (0, [.ref hk, .ref hb0, .ref ho])), (hk, .inl (dk, 32, .inl (fk))), (kq, .inl (dc, 10, .inl (sk_fill (fun j => sk_b (K j)) (fun _ => 0) 10))), (qp, .inr (3, [.ref qk])), (qk, .inl (dk2, 10, .inl (sk_fill (sk_fill (fun j => sk_b (K j)) (fun _ => 0) 10) (fun _ => 0) 10))), (qe, .inr (2, [.ref k0, .ref k1, .ref k2, .ref k3, .int (nI 0)])), (k0, .inl (d0, 32, .inl (sk_fill (fun j => nI (K ((4 * j + 0) % 10))) (fun _ => 0) 32))), (k1, .inl (d1, 32, .inl (sk_fill (fun j => nI (K ((4 * j + 1) % 10))) (fun _ => 0) 32))), (k2, .inl (d2, 32, .inl (sk_fill (fun j => nI (K ((4 * j + 2) % 10))) (fun _ => 0) 32))), (k3, .inl (d3, 32, .inl (sk_fill (fun j => nI (K ((4 * j + 3) % 10))) (fun _ => 0) 32))), (hb0, .inl (db, 8, .inl (fb))), (ho, .inl (dq, 8, .inl (sk_fill (fun j => sk_b (sk_by (sk_dec K 32 (sk_wd B)) j)) fo 8)))] := hD
  refine W.widen (k := 8) (n := 154) (Nat.le_of_ble_eq_true rfl) (Nat.le_of_ble_eq_true rfl) ?_
  refine lv_pop hx hb dX0_run_82 rfl ?_
  have hP9 := hP.sub (ws' := [(h0, .inr (0, [.ref hk, .ref hb0, .ref ho])), (hk, .inl (dk, 32, .inl (fk))), (hb0, .inl (db, 8, .inl (fb))), (ho, .inl (dq, 8, .inl (sk_fill (fun j => sk_b (sk_by (sk_dec K 32 (sk_wd B)) j)) fo 8)))]) [0, 1, 10, 11] rfl
  have hD9 := hD.sub (ws' := [(h0, .inr (0, [.ref hk, .ref hb0, .ref ho])), (hk, .inl (dk, 32, .inl (fk))), (hb0, .inl (db, 8, .inl (fb))), (ho, .inl (dq, 8, .inl (sk_fill (fun j => sk_b (sk_by (sk_dec K 32 (sk_wd B)) j)) fo 8)))]) [0, 1, 10, 11] (by decide) rfl
  have hK9 := hK.sub (tys' := [(dk, .byte), (db, .byte), (dq, .byte)]) [0, 1, 2] rfl
  exact W.vret hx hb hr (fun t ht hW => ⟨⟨(), rfl, trivial, by rw [ht]; exact hP9, va_K.moved hW.alike hK9, hD9⟩, hS.F ht⟩) hS.2.2 dX0_run_83
set_option maxHeartbeats 1000000 in
set_option maxRecDepth 100000 in
/-- SkipjackDesk.X0_lock -/
theorem dsk_lock (l : Launch) (dC : Nat → ClassId) (dI : Nat → Nat → Nat) (sz : Nat) (h0 hk hb0 ho : Nat) (dk db dq : ClassId) (fk fb fo : Nat → Int32) (K B : Nat → Nat) (kd : Int32) (tE : Nat) (hK0 : sk_K K) (hfk : ∀ j, j < 10 → fk j = sk_b (K j)) (hB : sk_B B) (hfb : ∀ j, j < 8 → fb j = sk_b (B j)) : Met l yX0_lock (ws_ yX0_lock cX0_lock 2 none) ({ frames := 6, cells := 8, slots := 154, locals := 150 }) (va_Pc [.ref h0, .int kd] (fun U => U.heap.size = sz ∧ va_P (dC, dI) vwCl [(h0, .inr (0, [.ref hk, .ref hb0, .ref ho])), (hk, .inl (dk, 32, .inl (fk))), (hb0, .inl (db, 8, .inl (fb))), (ho, .inl (dq, 8, .inl (fo)))] U.heap ∧ va_K (dC, dI) vwCl [(dk, .byte), (db, .byte), (dq, .byte)] U ∧ va_D (fun _ => True) [(h0, .inr (0, [.ref hk, .ref hb0, .ref ho])), (hk, .inl (dk, 32, .inl (fk))), (hb0, .inl (db, 8, .inl (fb))), (ho, .inl (dq, 8, .inl (fo)))] ∧ sk_TE tE (va_A [(h0, .inr (0, [.ref hk, .ref hb0, .ref ho])), (hk, .inl (dk, 32, .inl (fk))), (hb0, .inl (db, 8, .inl (fb))), (ho, .inl (dq, 8, .inl (fo)))] sz) U ∧ sk_I (va_A [(h0, .inr (0, [.ref hk, .ref hb0, .ref ho])), (hk, .inl (dk, 32, .inl (fk))), (hb0, .inl (db, 8, .inl (fb))), (ho, .inl (dq, 8, .inl (fo)))] sz) U)) (va_Qv (fun (_ : Unit) => True) (fun (_ : Unit) (t : State) => va_P (dC, dI) vwCl [(h0, .inr (0, [.ref hk, .ref hb0, .ref ho])), (hk, .inl (dk, 32, .inl (fk))), (hb0, .inl (db, 8, .inl (fb))), (ho, .inl (dq, 8, .inl (sk_fill (fun j => sk_b (sk_by (sk_enc K 32 (sk_wd B)) j)) fo 8)))] t.heap ∧ va_K (dC, dI) vwCl [(dk, .byte), (db, .byte), (dq, .byte)] t ∧ va_D (va_A [(h0, .inr (0, [.ref hk, .ref hb0, .ref ho])), (hk, .inl (dk, 32, .inl (fk))), (hb0, .inl (db, 8, .inl (fb))), (ho, .inl (dq, 8, .inl (fo)))] sz) [(h0, .inr (0, [.ref hk, .ref hb0, .ref ho])), (hk, .inl (dk, 32, .inl (fk))), (hb0, .inl (db, 8, .inl (fb))), (ho, .inl (dq, 8, .inl (sk_fill (fun j => sk_b (sk_by (sk_enc K 32 (sk_wd B)) j)) fo 8)))]) (va_A [(h0, .inr (0, [.ref hk, .ref hb0, .ref ho])), (hk, .inl (dk, 32, .inl (fk))), (hb0, .inl (db, 8, .inl (fb))), (ho, .inl (dq, 8, .inl (fo)))] sz)) 8 154 (va_A [(h0, .inr (0, [.ref hk, .ref hb0, .ref ho])), (hk, .inl (dk, 32, .inl (fk))), (hb0, .inl (db, 8, .inl (fb))), (ho, .inl (dq, 8, .inl (fo)))] sz) := by
  refine Met.ofW (cc := cX0_lock) (maxL := 2) (ret := none) (by decide) rfl ?_
  intro p e s m args below meth c s₁ BO hml hv
  obtain ⟨rfl, hsz, hP, hK, hD0, hT, hI⟩ := hv
  have hx := BO.exec
  have hb := BO.bytes
  have hr := BO.returns
  have hts := atoms_spec (ws := (ws_ yX0_lock cX0_lock 2 none)) BO.pre
  have hts : ∀ w ∈ lw_all, w.before _ s = true := fun w h => hts w (List.mem_cons_of_mem _ h)
  have hown : s.vm.findClass RX0 = some m.cls := findClass_of_methodNamed BO.named
  have hlocks := BO.notSynchronized
  subst hsz
  have hD := hD0.self (sz := s.heap.size)
  generalize hAe : va_A [(h0, .inr (0, [.ref hk, .ref hb0, .ref ho])), (hk, .inl (dk, 32, .inl (fk))), (hb0, .inl (db, 8, .inl (fb))), (ho, .inl (dq, 8, .inl (fo)))] s.heap.size = A at hD hT hI ⊢
  have hA : ∀ q : Nat, s.heap.size ≤ q → A q := fun q h => by rw [← hAe]; exact Or.inr h
  have hS : va_S A s.heap s.heap [] := va_S.rf
  have hP : va_P (dC, dI) vwCl [(h0, .inr (0, [.ref hk, .ref hb0, .ref ho])), (hk, .inl (dk, 32, .inl (fk))), (hb0, .inl (db, 8, .inl (fb))), (ho, .inl (dq, 8, .inl (fo)))] s.heap := hP
  have hl := lv_entry ([.ref h0, .int kd]) (n := 2) (Nat.le_of_ble_eq_true rfl)
  rw [lg_entry_eq]
  generalize (lg_sl ([.ref h0, .int kd]) ++ List.replicate (2 - (lg_sl ([.ref h0, .int kd])).length) Slot.unset).toArray = ls at hl ⊢
  have hl : lv_has ls 2 [(0, .ref h0), (1, .int kd)] := hl
  refine lv_aload_n hx hb dX0_lock_0 rfl (lv_at hl 0 rfl) ?_
  refine lv_iconst (v := nI 1) hx hb dX0_lock_1 (by decide) ?_
  refine lv_iload_n hx hb dX0_lock_2 rfl (lv_at hl 1 rfl) ?_
  have hPc := hP.sub (ws' := [(h0, .inr (0, [.ref hk, .ref hb0, .ref ho])), (hk, .inl (dk, 32, .inl (fk))), (hb0, .inl (db, 8, .inl (fb))), (ho, .inl (dq, 8, .inl (fo)))]) [0, 1, 2, 3] rfl
  have hDc := hD.sub (ws' := [(h0, .inr (0, [.ref hk, .ref hb0, .ref ho])), (hk, .inl (dk, 32, .inl (fk))), (hb0, .inl (db, 8, .inl (fb))), (ho, .inl (dq, 8, .inl (fo)))]) [0, 1, 2, 3] (by decide) rfl
  have hKc := hK.sub (tys' := [(dk, .byte), (db, .byte), (dq, .byte)]) [0, 1, 2] rfl
  have hFc := va_free (wc := [(h0, .inr (0, [.ref hk, .ref hb0, .ref ho])), (hk, .inl (dk, 32, .inl (fk))), (hb0, .inl (db, 8, .inl (fb))), (ho, .inl (dq, 8, .inl (fo)))]) hD hS hA [0, 1, 2, 3] rfl
  refine va_callv (va_runV (As := [.int (nI 1), .int kd]) (rest := []) ⟨hx, hb, hml, hown, hts⟩ (dsk_run1 l dC dI s.heap.size h0 hk hb0 ho dk db dq fk fb fo K B kd tE hK0 hfk hB hfb) (cwV 2 hts (lw_V q56 q58 qs0 q9 q59) rfl rfl rfl (by decide +kernel) ⟨Nat.le_of_ble_eq_true rfl, Nat.le_of_ble_eq_true rfl⟩) ⟨fun a U g mk q => by obtain ⟨q0, q1, qP, qK, qD, qT0, qT1⟩ := q; exact ⟨q0, q1, qP, va_K.moved (u := U) (U := U.calling g mk a) (Vm.Alike.refl U.vm) qK, qD, qT0.calling, qT1.calling⟩, va_recv hKc hPc (ci := 0) (q0 := 0) rfl rfl, fun U hU hW => ⟨rfl, by rw [hU], by rw [hU]; exact hPc, va_K.moved hW.alike hKc, hDc.weaken (fun _ _ _ _ => trivial), hT.call hW.alike hU hS hFc, hI.call hW.alike hU hS hFc⟩⟩ rfl rfl hl.1 rfl (lv_room (Nat.le_of_ble_eq_true rfl)) dX0_lock_3 ⟨Nat.le_of_ble_eq_true rfl, Nat.le_of_ble_eq_true rfl⟩) hS (fun q _ h => hFc q h) hFc (fun uS tS H1 locs htS hvm hw hB hz1 hk1 hS => ?_)
  obtain ⟨hP1, hK1, hD1⟩ := hB
  rw [htS] at hP1
  obtain ⟨hP, hD⟩ := va_join (wr := []) (w1 := [(h0, .inr (0, [.ref hk, .ref hb0, .ref ho])), (hk, .inl (dk, 32, .inl (fk))), (hb0, .inl (db, 8, .inl (fb))), (ho, .inl (dq, 8, .inl (sk_fill (fun j => sk_b (sk_by (sk_enc K 32 (sk_wd B)) j)) fo 8)))]) hP hD [0, 1, 2, 3] [] rfl rfl (by decide) (by decide) hk1 hFc hP1 hD1
  generalize H1 = H at hP hS ⊢
  have hP : va_P (dC, dI) vwCl [(h0, .inr (0, [.ref hk, .ref hb0, .ref ho])), (hk, .inl (dk, 32, .inl (fk))), (hb0, .inl (db, 8, .inl (fb))), (ho, .inl (dq, 8, .inl (sk_fill (fun j => sk_b (sk_by (sk_enc K 32 (sk_wd B)) j)) fo 8)))] H := hP
  have hD : va_D A [(h0, .inr (0, [.ref hk, .ref hb0, .ref ho])), (hk, .inl (dk, 32, .inl (fk))), (hb0, .inl (db, 8, .inl (fb))), (ho, .inl (dq, 8, .inl (sk_fill (fun j => sk_b (sk_by (sk_enc K 32 (sk_wd B)) j)) fo 8)))] := hD
  refine W.widen (k := 8) (n := 154) (Nat.le_of_ble_eq_true rfl) (Nat.le_of_ble_eq_true rfl) ?_
  have hP9 := hP.sub (ws' := [(h0, .inr (0, [.ref hk, .ref hb0, .ref ho])), (hk, .inl (dk, 32, .inl (fk))), (hb0, .inl (db, 8, .inl (fb))), (ho, .inl (dq, 8, .inl (sk_fill (fun j => sk_b (sk_by (sk_enc K 32 (sk_wd B)) j)) fo 8)))]) [0, 1, 2, 3] rfl
  have hD9 := hD.sub (ws' := [(h0, .inr (0, [.ref hk, .ref hb0, .ref ho])), (hk, .inl (dk, 32, .inl (fk))), (hb0, .inl (db, 8, .inl (fb))), (ho, .inl (dq, 8, .inl (sk_fill (fun j => sk_b (sk_by (sk_enc K 32 (sk_wd B)) j)) fo 8)))]) [0, 1, 2, 3] (by decide) rfl
  have hK9 := hK.sub (tys' := [(dk, .byte), (db, .byte), (dq, .byte)]) [0, 1, 2] rfl
  exact W.vret hx hb hr (fun t ht hW => ⟨⟨(), rfl, trivial, by rw [ht]; exact hP9, va_K.moved hW.alike hK9, hD9⟩, hS.F ht⟩) hS.2.2 dX0_lock_6
set_option maxHeartbeats 1000000 in
set_option maxRecDepth 100000 in
/-- SkipjackDesk.X0_open -/
theorem dsk_open (l : Launch) (dC : Nat → ClassId) (dI : Nat → Nat → Nat) (sz : Nat) (h0 hk hb0 ho : Nat) (dk db dq : ClassId) (fk fb fo : Nat → Int32) (K B : Nat → Nat) (kd : Int32) (tE : Nat) (hK0 : sk_K K) (hfk : ∀ j, j < 10 → fk j = sk_b (K j)) (hB : sk_B B) (hfb : ∀ j, j < 8 → fb j = sk_b (B j)) : Met l yX0_open (ws_ yX0_open cX0_open 2 none) ({ frames := 6, cells := 8, slots := 154, locals := 150 }) (va_Pc [.ref h0, .int kd] (fun U => U.heap.size = sz ∧ va_P (dC, dI) vwCl [(h0, .inr (0, [.ref hk, .ref hb0, .ref ho])), (hk, .inl (dk, 32, .inl (fk))), (hb0, .inl (db, 8, .inl (fb))), (ho, .inl (dq, 8, .inl (fo)))] U.heap ∧ va_K (dC, dI) vwCl [(dk, .byte), (db, .byte), (dq, .byte)] U ∧ va_D (fun _ => True) [(h0, .inr (0, [.ref hk, .ref hb0, .ref ho])), (hk, .inl (dk, 32, .inl (fk))), (hb0, .inl (db, 8, .inl (fb))), (ho, .inl (dq, 8, .inl (fo)))] ∧ sk_TE tE (va_A [(h0, .inr (0, [.ref hk, .ref hb0, .ref ho])), (hk, .inl (dk, 32, .inl (fk))), (hb0, .inl (db, 8, .inl (fb))), (ho, .inl (dq, 8, .inl (fo)))] sz) U ∧ sk_I (va_A [(h0, .inr (0, [.ref hk, .ref hb0, .ref ho])), (hk, .inl (dk, 32, .inl (fk))), (hb0, .inl (db, 8, .inl (fb))), (ho, .inl (dq, 8, .inl (fo)))] sz) U)) (va_Qv (fun (_ : Unit) => True) (fun (_ : Unit) (t : State) => va_P (dC, dI) vwCl [(h0, .inr (0, [.ref hk, .ref hb0, .ref ho])), (hk, .inl (dk, 32, .inl (fk))), (hb0, .inl (db, 8, .inl (fb))), (ho, .inl (dq, 8, .inl (sk_fill (fun j => sk_b (sk_by (sk_dec K 32 (sk_wd B)) j)) fo 8)))] t.heap ∧ va_K (dC, dI) vwCl [(dk, .byte), (db, .byte), (dq, .byte)] t ∧ va_D (va_A [(h0, .inr (0, [.ref hk, .ref hb0, .ref ho])), (hk, .inl (dk, 32, .inl (fk))), (hb0, .inl (db, 8, .inl (fb))), (ho, .inl (dq, 8, .inl (fo)))] sz) [(h0, .inr (0, [.ref hk, .ref hb0, .ref ho])), (hk, .inl (dk, 32, .inl (fk))), (hb0, .inl (db, 8, .inl (fb))), (ho, .inl (dq, 8, .inl (sk_fill (fun j => sk_b (sk_by (sk_dec K 32 (sk_wd B)) j)) fo 8)))]) (va_A [(h0, .inr (0, [.ref hk, .ref hb0, .ref ho])), (hk, .inl (dk, 32, .inl (fk))), (hb0, .inl (db, 8, .inl (fb))), (ho, .inl (dq, 8, .inl (fo)))] sz)) 8 154 (va_A [(h0, .inr (0, [.ref hk, .ref hb0, .ref ho])), (hk, .inl (dk, 32, .inl (fk))), (hb0, .inl (db, 8, .inl (fb))), (ho, .inl (dq, 8, .inl (fo)))] sz) := by
  refine Met.ofW (cc := cX0_open) (maxL := 2) (ret := none) (by decide) rfl ?_
  intro p e s m args below meth c s₁ BO hml hv
  obtain ⟨rfl, hsz, hP, hK, hD0, hT, hI⟩ := hv
  have hx := BO.exec
  have hb := BO.bytes
  have hr := BO.returns
  have hts := atoms_spec (ws := (ws_ yX0_open cX0_open 2 none)) BO.pre
  have hts : ∀ w ∈ lw_all, w.before _ s = true := fun w h => hts w (List.mem_cons_of_mem _ h)
  have hown : s.vm.findClass RX0 = some m.cls := findClass_of_methodNamed BO.named
  have hlocks := BO.notSynchronized
  subst hsz
  have hD := hD0.self (sz := s.heap.size)
  generalize hAe : va_A [(h0, .inr (0, [.ref hk, .ref hb0, .ref ho])), (hk, .inl (dk, 32, .inl (fk))), (hb0, .inl (db, 8, .inl (fb))), (ho, .inl (dq, 8, .inl (fo)))] s.heap.size = A at hD hT hI ⊢
  have hA : ∀ q : Nat, s.heap.size ≤ q → A q := fun q h => by rw [← hAe]; exact Or.inr h
  have hS : va_S A s.heap s.heap [] := va_S.rf
  have hP : va_P (dC, dI) vwCl [(h0, .inr (0, [.ref hk, .ref hb0, .ref ho])), (hk, .inl (dk, 32, .inl (fk))), (hb0, .inl (db, 8, .inl (fb))), (ho, .inl (dq, 8, .inl (fo)))] s.heap := hP
  have hl := lv_entry ([.ref h0, .int kd]) (n := 2) (Nat.le_of_ble_eq_true rfl)
  rw [lg_entry_eq]
  generalize (lg_sl ([.ref h0, .int kd]) ++ List.replicate (2 - (lg_sl ([.ref h0, .int kd])).length) Slot.unset).toArray = ls at hl ⊢
  have hl : lv_has ls 2 [(0, .ref h0), (1, .int kd)] := hl
  refine lv_aload_n hx hb dX0_open_0 rfl (lv_at hl 0 rfl) ?_
  refine lv_iconst (v := nI 0) hx hb dX0_open_1 (by decide) ?_
  refine lv_iload_n hx hb dX0_open_2 rfl (lv_at hl 1 rfl) ?_
  have hPc := hP.sub (ws' := [(h0, .inr (0, [.ref hk, .ref hb0, .ref ho])), (hk, .inl (dk, 32, .inl (fk))), (hb0, .inl (db, 8, .inl (fb))), (ho, .inl (dq, 8, .inl (fo)))]) [0, 1, 2, 3] rfl
  have hDc := hD.sub (ws' := [(h0, .inr (0, [.ref hk, .ref hb0, .ref ho])), (hk, .inl (dk, 32, .inl (fk))), (hb0, .inl (db, 8, .inl (fb))), (ho, .inl (dq, 8, .inl (fo)))]) [0, 1, 2, 3] (by decide) rfl
  have hKc := hK.sub (tys' := [(dk, .byte), (db, .byte), (dq, .byte)]) [0, 1, 2] rfl
  have hFc := va_free (wc := [(h0, .inr (0, [.ref hk, .ref hb0, .ref ho])), (hk, .inl (dk, 32, .inl (fk))), (hb0, .inl (db, 8, .inl (fb))), (ho, .inl (dq, 8, .inl (fo)))]) hD hS hA [0, 1, 2, 3] rfl
  refine va_callv (va_runV (As := [.int (nI 0), .int kd]) (rest := []) ⟨hx, hb, hml, hown, hts⟩ (dsk_run0 l dC dI s.heap.size h0 hk hb0 ho dk db dq fk fb fo K B kd tE hK0 hfk hB hfb) (cwV 2 hts (lw_V q56 q58 qs0 q9 q59) rfl rfl rfl (by decide +kernel) ⟨Nat.le_of_ble_eq_true rfl, Nat.le_of_ble_eq_true rfl⟩) ⟨fun a U g mk q => by obtain ⟨q0, q1, qP, qK, qD, qT0, qT1⟩ := q; exact ⟨q0, q1, qP, va_K.moved (u := U) (U := U.calling g mk a) (Vm.Alike.refl U.vm) qK, qD, qT0.calling, qT1.calling⟩, va_recv hKc hPc (ci := 0) (q0 := 0) rfl rfl, fun U hU hW => ⟨rfl, by rw [hU], by rw [hU]; exact hPc, va_K.moved hW.alike hKc, hDc.weaken (fun _ _ _ _ => trivial), hT.call hW.alike hU hS hFc, hI.call hW.alike hU hS hFc⟩⟩ rfl rfl hl.1 rfl (lv_room (Nat.le_of_ble_eq_true rfl)) dX0_open_3 ⟨Nat.le_of_ble_eq_true rfl, Nat.le_of_ble_eq_true rfl⟩) hS (fun q _ h => hFc q h) hFc (fun uS tS H1 locs htS hvm hw hB hz1 hk1 hS => ?_)
  obtain ⟨hP1, hK1, hD1⟩ := hB
  rw [htS] at hP1
  obtain ⟨hP, hD⟩ := va_join (wr := []) (w1 := [(h0, .inr (0, [.ref hk, .ref hb0, .ref ho])), (hk, .inl (dk, 32, .inl (fk))), (hb0, .inl (db, 8, .inl (fb))), (ho, .inl (dq, 8, .inl (sk_fill (fun j => sk_b (sk_by (sk_dec K 32 (sk_wd B)) j)) fo 8)))]) hP hD [0, 1, 2, 3] [] rfl rfl (by decide) (by decide) hk1 hFc hP1 hD1
  generalize H1 = H at hP hS ⊢
  have hP : va_P (dC, dI) vwCl [(h0, .inr (0, [.ref hk, .ref hb0, .ref ho])), (hk, .inl (dk, 32, .inl (fk))), (hb0, .inl (db, 8, .inl (fb))), (ho, .inl (dq, 8, .inl (sk_fill (fun j => sk_b (sk_by (sk_dec K 32 (sk_wd B)) j)) fo 8)))] H := hP
  have hD : va_D A [(h0, .inr (0, [.ref hk, .ref hb0, .ref ho])), (hk, .inl (dk, 32, .inl (fk))), (hb0, .inl (db, 8, .inl (fb))), (ho, .inl (dq, 8, .inl (sk_fill (fun j => sk_b (sk_by (sk_dec K 32 (sk_wd B)) j)) fo 8)))] := hD
  refine W.widen (k := 8) (n := 154) (Nat.le_of_ble_eq_true rfl) (Nat.le_of_ble_eq_true rfl) ?_
  have hP9 := hP.sub (ws' := [(h0, .inr (0, [.ref hk, .ref hb0, .ref ho])), (hk, .inl (dk, 32, .inl (fk))), (hb0, .inl (db, 8, .inl (fb))), (ho, .inl (dq, 8, .inl (sk_fill (fun j => sk_b (sk_by (sk_dec K 32 (sk_wd B)) j)) fo 8)))]) [0, 1, 2, 3] rfl
  have hD9 := hD.sub (ws' := [(h0, .inr (0, [.ref hk, .ref hb0, .ref ho])), (hk, .inl (dk, 32, .inl (fk))), (hb0, .inl (db, 8, .inl (fb))), (ho, .inl (dq, 8, .inl (sk_fill (fun j => sk_b (sk_by (sk_dec K 32 (sk_wd B)) j)) fo 8)))]) [0, 1, 2, 3] (by decide) rfl
  have hK9 := hK.sub (tys' := [(dk, .byte), (db, .byte), (dq, .byte)]) [0, 1, 2] rfl
  exact W.vret hx hb hr (fun t ht hW => ⟨⟨(), rfl, trivial, by rw [ht]; exact hP9, va_K.moved hW.alike hK9, hD9⟩, hS.F ht⟩) hS.2.2 dX0_open_6
end
section
/-! the plain law, second part: what the reference's arrays of words hold -/
theorem sk_wd_i (B : Nat → Nat) {i : Nat} (h : i < 4) : sk_wi (sk_wd B) i = B (2 * i) * 256 + B (2 * i + 1) := by
  rcases (show i = 0 ∨ i = 1 ∨ i = 2 ∨ i = 3 by omega) with rfl | rfl | rfl | rfl <;> rfl
theorem sk_by_e (q : sk_Q) (i : Nat) : sk_by q (2 * i) = sk_wi q i / 256 := by
  unfold sk_by
  rw [if_pos (by omega), show 2 * i / 2 = i by omega]
theorem sk_by_o (q : sk_Q) (i : Nat) : sk_by q (2 * i + 1) = sk_wi q i % 256 := by
  unfold sk_by
  rw [if_neg (by omega), show (2 * i + 1) / 2 = i by omega]
/-- the four words of an array -/
def sk_W4 (F : Nat → Int32) (q : sk_Q) : Prop := ∀ j, j < 4 → F j = nI (sk_wi q j)
theorem sk_four {F : Nat → Int32} {a b c d : Int32} {q : sk_Q} (h0 : a = nI q.1) (h1 : b = nI q.2.1) (h2 : c = nI q.2.2.1) (h3 : d = nI q.2.2.2) : sk_W4 (upd (upd (upd (upd F 3 d) 2 c) 1 b) 0 a) q := by
  intro j hj
  rcases (show j = 0 ∨ j = 1 ∨ j = 2 ∨ j = 3 by omega) with rfl | rfl | rfl | rfl
  · exact h0
  · exact h1
  · exact h2
  · exact h3
theorem sk_four2 {F : Nat → Int32} {a b c d : Int32} {q : sk_Q} (h0 : a = nI q.1) (h1 : b = nI q.2.1) (h2 : c = nI q.2.2.1) (h3 : d = nI q.2.2.2) : sk_W4 (upd (upd (upd (upd F 2 c) 3 d) 1 b) 0 a) q := by
  intro j hj
  rcases (show j = 0 ∨ j = 1 ∨ j = 2 ∨ j = 3 by omega) with rfl | rfl | rfl | rfl
  · exact h0
  · exact h1
  · exact h2
  · exact h3
end
section
/-! SkipjackDeskModel: its constructor, word, key, block, out, again, isRuleA -/
set_option maxHeartbeats 1000000 in
set_option maxRecDepth 100000 in
/-- the constructor: three arrays of zeros -/
theorem mod_init (l : Launch) (dC : Nat → ClassId) (dI : Nat → Nat → Nat) (sz : Nat) (h0 : Nat)  : Met l yX1_init (ws_ yX1_init cX1_init 1 none) ({ frames := 1, cells := 3, slots := 48, locals := 12 }) (va_Pc [.ref h0] (fun U => U.heap.size = sz ∧ va_P (dC, dI) vwCl [(h0, .inr (1, [.null, .null, .null]))] U.heap ∧ va_K (dC, dI) vwCl [] U ∧ va_D (fun _ => True) [(h0, .inr (1, [.null, .null, .null]))])) (va_Qv (fun (_ : Unit) => True) (fun (_ : Unit) (t : State) => ∃ (q1 q2 q3 : Nat) (d1 d2 d3 : ClassId), va_P (dC, dI) vwCl [(h0, .inr (1, [.ref q1, .ref q2, .ref q3])), (q1, .inl (d1, 32, .inl (fun _ => 0))), (q2, .inl (d2, 8, .inl (fun _ => 0))), (q3, .inl (d3, 8, .inl (fun _ => 0)))] t.heap ∧ va_K (dC, dI) vwCl [(d1, .int), (d2, .int), (d3, .int)] t ∧ va_D (va_A [(h0, .inr (1, [.null, .null, .null]))] sz) [(h0, .inr (1, [.ref q1, .ref q2, .ref q3])), (q1, .inl (d1, 32, .inl (fun _ => 0))), (q2, .inl (d2, 8, .inl (fun _ => 0))), (q3, .inl (d3, 8, .inl (fun _ => 0)))]) (va_A [(h0, .inr (1, [.null, .null, .null]))] sz)) 3 48 (va_A [(h0, .inr (1, [.null, .null, .null]))] sz) := by
  refine Met.ofW (cc := cX1_init) (maxL := 1) (ret := none) (by decide) rfl ?_
  intro p e s m args below meth c s₁ BO hml hv
  obtain ⟨rfl, hsz, hP, hK, hD0⟩ := hv
  have hx := BO.exec
  have hb := BO.bytes
  have hr := BO.returns
  have hts := atoms_spec (ws := (ws_ yX1_init cX1_init 1 none)) BO.pre
  have hts : ∀ w ∈ lw_all, w.before _ s = true := fun w h => hts w (List.mem_cons_of_mem _ h)
  have hown : s.vm.findClass RX1 = some m.cls := findClass_of_methodNamed BO.named
  have hlocks := BO.notSynchronized
  have hin := (name_of_methodNamed BO.named BO.method).1
  subst hsz
  have hD := hD0.self (sz := s.heap.size)
  generalize hAe : va_A [(h0, .inr (1, [.null, .null, .null]))] s.heap.size = A at hD ⊢
  have hA : ∀ q : Nat, s.heap.size ≤ q → A q := fun q h => by rw [← hAe]; exact Or.inr h
  have hS : va_S A s.heap s.heap [] := va_S.rf
  have hP : va_P (dC, dI) vwCl [(h0, .inr (1, [.null, .null, .null]))] s.heap := hP
  have hl := lv_entry ([.ref h0]) (n := 1) (Nat.le_of_ble_eq_true rfl)
  rw [lg_entry_eq]
  generalize (lg_sl ([.ref h0]) ++ List.replicate (1 - (lg_sl ([.ref h0])).length) Slot.unset).toArray = ls at hl ⊢
  have hl : lv_has ls 1 [(0, .ref h0)] := hl
  refine lv_aload_n hx hb dX1_init_0 rfl (lv_at hl 0 rfl) ?_
  refine W.objInit hx hb hown (hts _ q285) (hts _ q28) (hts _ q29) rfl (by rw [hml]; exact hl.1) rfl dX1_init_1 (Nat.le_of_ble_eq_true rfl) (Nat.le_of_ble_eq_true rfl) ?_
  refine W.eq (g2 := F0 m 4 ls []) rfl ?_
  refine lv_aload_n hx hb dX1_init_4 rfl (lv_at hl 0 rfl) ?_
  refine lv_bipush (v := nI 32) hx hb dX1_init_5 (by decide) ?_
  refine va_newa (atype := .int) (N' := 32) (a0 := (32, .inl (fun _ => 0))) hx hb (hts _ q212) rfl hK hP hD hS hA (fun _ => rfl) (by decide) (by decide) (by decide) (Nat.le_of_ble_eq_true rfl) (Nat.le_of_ble_eq_true rfl) dX1_init_7 (fun q1 d1 H hK hP hD hS => ?_)
  have hP : va_P (dC, dI) vwCl [(h0, .inr (1, [.null, .null, .null])), (q1, .inl (d1, 32, .inl (fun _ => 0)))] H := hP
  have hD : va_D A [(h0, .inr (1, [.null, .null, .null])), (q1, .inl (d1, 32, .inl (fun _ => 0)))] := hD
  have hK : va_K (dC, dI) vwCl [(d1, .int)] s := hK
  refine W.widen (k := 1) (n := 32) (Nat.le_of_ble_eq_true rfl) (Nat.le_of_ble_eq_true rfl) ?_
  refine va_putF (D := (dC, dI)) (ci := 1) (v := .ref q1) (ty := .array .int) (C := RX1) (T := TX1) (N := 3) hx hb hts in_X1 tyX1 tyX1_ok nmX1 hown hK hP hD hS 0 rfl rfl 0 (by decide) (hts _ q286) (fun _ h9 => h9) rfl hin rfl (by decide +kernel) rfl rfl (Nat.le_of_ble_eq_true rfl) dX1_init_9 (fun H locs hP hD hS => ?_)
  have hP : va_P (dC, dI) vwCl [(h0, .inr (1, [.ref q1, .null, .null])), (q1, .inl (d1, 32, .inl (fun _ => 0)))] H := hP
  have hD : va_D A [(h0, .inr (1, [.ref q1, .null, .null])), (q1, .inl (d1, 32, .inl (fun _ => 0)))] := hD
  refine lv_aload_n hx hb dX1_init_12 rfl (lv_at hl 0 rfl) ?_
  refine lv_bipush (v := nI 8) hx hb dX1_init_13 (by decide) ?_
  refine va_newa (atype := .int) (N' := 8) (a0 := (8, .inl (fun _ => 0))) hx hb (hts _ q212) rfl hK hP hD hS hA (fun _ => rfl) (by decide) (by decide) (by decide) (Nat.le_of_ble_eq_true rfl) (Nat.le_of_ble_eq_true rfl) dX1_init_15 (fun q2 d2 H hK hP hD hS => ?_)
  have hP : va_P (dC, dI) vwCl [(h0, .inr (1, [.ref q1, .null, .null])), (q1, .inl (d1, 32, .inl (fun _ => 0))), (q2, .inl (d2, 8, .inl (fun _ => 0)))] H := hP
  have hD : va_D A [(h0, .inr (1, [.ref q1, .null, .null])), (q1, .inl (d1, 32, .inl (fun _ => 0))), (q2, .inl (d2, 8, .inl (fun _ => 0)))] := hD
  have hK : va_K (dC, dI) vwCl [(d1, .int), (d2, .int)] s := hK
  refine W.widen (k := 2) (n := 40) (Nat.le_of_ble_eq_true rfl) (Nat.le_of_ble_eq_true rfl) ?_
  refine va_putF (D := (dC, dI)) (ci := 1) (v := .ref q2) (ty := .array .int) (C := RX1) (T := TX1) (N := 3) hx hb hts in_X1 tyX1 tyX1_ok nmX1 hown hK hP hD hS 0 rfl rfl 1 (by decide) (hts _ q287) (fun _ h9 => h9) rfl hin rfl (by decide +kernel) rfl rfl (Nat.le_of_ble_eq_true rfl) dX1_init_17 (fun H locs hP hD hS => ?_)
  have hP : va_P (dC, dI) vwCl [(h0, .inr (1, [.ref q1, .ref q2, .null])), (q1, .inl (d1, 32, .inl (fun _ => 0))), (q2, .inl (d2, 8, .inl (fun _ => 0)))] H := hP
  have hD : va_D A [(h0, .inr (1, [.ref q1, .ref q2, .null])), (q1, .inl (d1, 32, .inl (fun _ => 0))), (q2, .inl (d2, 8, .inl (fun _ => 0)))] := hD
  refine lv_aload_n hx hb dX1_init_20 rfl (lv_at hl 0 rfl) ?_
  refine lv_bipush (v := nI 8) hx hb dX1_init_21 (by decide) ?_
  refine va_newa (atype := .int) (N' := 8) (a0 := (8, .inl (fun _ => 0))) hx hb (hts _ q212) rfl hK hP hD hS hA (fun _ => rfl) (by decide) (by decide) (by decide) (Nat.le_of_ble_eq_true rfl) (Nat.le_of_ble_eq_true rfl) dX1_init_23 (fun q3 d3 H hK hP hD hS => ?_)
  have hP : va_P (dC, dI) vwCl [(h0, .inr (1, [.ref q1, .ref q2, .null])), (q1, .inl (d1, 32, .inl (fun _ => 0))), (q2, .inl (d2, 8, .inl (fun _ => 0))), (q3, .inl (d3, 8, .inl (fun _ => 0)))] H := hP
  have hD : va_D A [(h0, .inr (1, [.ref q1, .ref q2, .null])), (q1, .inl (d1, 32, .inl (fun _ => 0))), (q2, .inl (d2, 8, .inl (fun _ => 0))), (q3, .inl (d3, 8, .inl (fun _ => 0)))] := hD
  have hK : va_K (dC, dI) vwCl [(d1, .int), (d2, .int), (d3, .int)] s := hK
  refine W.widen (k := 3) (n := 48) (Nat.le_of_ble_eq_true rfl) (Nat.le_of_ble_eq_true rfl) ?_
  refine va_putF (D := (dC, dI)) (ci := 1) (v := .ref q3) (ty := .array .int) (C := RX1) (T := TX1) (N := 3) hx hb hts in_X1 tyX1 tyX1_ok nmX1 hown hK hP hD hS 0 rfl rfl 2 (by decide) (hts _ q288) (fun _ h9 => h9) rfl hin rfl (by decide +kernel) rfl rfl (Nat.le_of_ble_eq_true rfl) dX1_init_25 (fun H locs hP hD hS => ?_)
  have hP : va_P (dC, dI) vwCl [(h0, .inr (1, [.ref q1, .ref q2, .ref q3])), (q1, .inl (d1, 32, .inl (fun _ => 0))), (q2, .inl (d2, 8, .inl (fun _ => 0))), (q3, .inl (d3, 8, .inl (fun _ => 0)))] H := hP
  have hD : va_D A [(h0, .inr (1, [.ref q1, .ref q2, .ref q3])), (q1, .inl (d1, 32, .inl (fun _ => 0))), (q2, .inl (d2, 8, .inl (fun _ => 0))), (q3, .inl (d3, 8, .inl (fun _ => 0)))] := hD
  have hP9 := hP.sub (ws' := [(h0, .inr (1, [.ref q1, .ref q2, .ref q3])), (q1, .inl (d1, 32, .inl (fun _ => 0))), (q2, .inl (d2, 8, .inl (fun _ => 0))), (q3, .inl (d3, 8, .inl (fun _ => 0)))]) [0, 1, 2, 3] rfl
  have hD9 := hD.sub (ws' := [(h0, .inr (1, [.ref q1, .ref q2, .ref q3])), (q1, .inl (d1, 32, .inl (fun _ => 0))), (q2, .inl (d2, 8, .inl (fun _ => 0))), (q3, .inl (d3, 8, .inl (fun _ => 0)))]) [0, 1, 2, 3] (by decide) rfl
  have hK9 := hK.sub (tys' := [(d1, .int), (d2, .int), (d3, .int)]) [0, 1, 2] rfl
  exact W.vret hx hb hr (fun t ht hW => ⟨⟨(), rfl, trivial, q1, q2, q3, d1, d2, d3, by rw [ht]; exact hP9, va_K.moved hW.alike hK9, hD9⟩, hS.F ht⟩) hS.2.2 dX1_init_28
set_option maxHeartbeats 1000000 in
set_option maxRecDepth 100000 in
theorem mod_word_lp {p : Program} {l : Launch} {e : Env} {R : Room} {s : State} {m : MethodId} {args : Array Value} {below : List Frame} {meth : Method} {c : Code} {dC : Nat → ClassId} {dI : Nat → Nat → Nat} {A : Nat → Prop} {Q : State → Prop} {cells slots : Nat} (h : Nat) (d : ClassId) (n a : Nat) (f : Nat → Int32) (w : Int32) (hx : p.tables.exec = Jvm.exec) (hb : c.code = cX1_word) (hown : s.vm.findClass RX1 = some m.cls) (hts : ∀ w ∈ lw_all, w.before args s = true) (hK : va_K (dC, dI) vwCl [(d, .int)] s) (ha : a + 4 ≤ n) (hn : n < 2 ^ 31)
    (hend : ∀ (H : Heap) (locs : List Loc) (ls : Array Slot), va_P (dC, dI) vwCl [(h, .inl (d, n, .inl (sk_pI f a 4 w)))] H → va_D A [(h, .inl (d, n, .inl (sk_pI f a 4 w)))] → va_S A s.heap H locs → lv_has ls 4 [(0, .ref h), (1, .int (nI a)), (2, .int w), (3, .int (nI 4))] → W p l e R s m args below meth c H locs cells slots Q (F0 m 31 ls [])) :
    ∀ (cnt i : Nat), i + cnt = 4 → ∀ (H : Heap) (locs : List Loc) (ls : Array Slot), va_P (dC, dI) vwCl [(h, .inl (d, n, .inl (sk_pI f a i w)))] H → va_D A [(h, .inl (d, n, .inl (sk_pI f a i w)))] → va_S A s.heap H locs → lv_has ls 4 [(0, .ref h), (1, .int (nI a)), (2, .int w), (3, .int (nI i))] → W p l e R s m args below meth c H locs cells slots Q (F0 m 2 ls []) := by
  intro cnt
  induction cnt with
  | zero =>
    intro i hi H locs ls hP hD hS hl
    have hi : i = 4 := by omega
    subst hi
    refine lv_iload_n hx hb dX1_word_2 rfl (lv_at hl 3 rfl) ?_
    refine lv_iconst (v := nI 4) hx hb dX1_word_3 (by decide) ?_
    refine sk_geY (tgt := 31) hx hb (Nat.le_refl 4) (by decide) dX1_word_4 (by decide) ?_
    exact hend H locs ls hP hD hS hl
  | succ cnt ih =>
    intro i hi H locs ls hP hD hS hl
    refine lv_iload_n hx hb dX1_word_2 rfl (lv_at hl 3 rfl) ?_
    refine lv_iconst (v := nI 4) hx hb dX1_word_3 (by decide) ?_
    refine sk_geN (tgt := 31) hx hb (show i < 4 by omega) (by decide) dX1_word_4 (by decide) ?_
    refine lv_aload_n hx hb dX1_word_7 rfl (lv_at hl 0 rfl) ?_
    refine lv_iload_n hx hb dX1_word_8 rfl (lv_at hl 1 rfl) ?_
    refine lv_iload_n hx hb dX1_word_9 rfl (lv_at hl 3 rfl) ?_
    refine lv_iadd hx hb dX1_word_10 ?_
    refine sk_top (y := nI (a + i)) (nI_add a i) ?_
    refine lv_iload_n hx hb dX1_word_11 rfl (lv_at hl 2 rfl) ?_
    refine lv_bipush (v := nI 24) hx hb dX1_word_12 (by decide) ?_
    refine lv_bipush (v := nI 8) hx hb dX1_word_14 (by decide) ?_
    refine lv_iload_n hx hb dX1_word_16 rfl (lv_at hl 3 rfl) ?_
    refine lv_imul hx hb dX1_word_17 ?_
    refine lv_isub hx hb dX1_word_18 ?_
    refine lv_ishr hx hb dX1_word_19 ?_
    refine lv_sipush (v := nI 255) hx hb dX1_word_20 (by decide) ?_
    refine lv_iand hx hb dX1_word_23 ?_
    refine sk_top (y := nI (sk_wb w i)) (sk_wbI w (by omega)) ?_
    refine sk_iast (k := a + i) hx hb hK hP hD hS 0 0 rfl rfl (by omega) (hn) dX1_word_24 (fun H locs hP hD hS => ?_)
    have hP : va_P (dC, dI) vwCl [(h, .inl (d, n, .inl (upd (sk_pI f a i w) (a + i) (nI (sk_wb w i)))))] H := hP
    have hD : va_D A [(h, .inl (d, n, .inl (upd (sk_pI f a i w) (a + i) (nI (sk_wb w i)))))] := hD
    have hP : va_P (dC, dI) vwCl [(h, .inl (d, n, .inl (sk_pI f a (i + 1) w)))] H := by rw [sk_pI_s] at hP; exact hP
    have hD : va_D A [(h, .inl (d, n, .inl (sk_pI f a (i + 1) w)))] := by rw [sk_pI_s] at hD; exact hD
    refine lv_iinc (v := nI (i + 1)) (lv' := [(3, .int (nI (i + 1))), (0, .ref h), (1, .int (nI a)), (2, .int w)]) hx hb dX1_word_25 hl (k := 3) rfl (nI_1 i) (by decide) rfl (fun ls hl => ?_)
    refine lv_goto (tgt := 2) hx hb dX1_word_28 (by decide) ?_
    exact ih (i + 1) (by omega) H locs ls hP hD hS (lv_sub hl [1, 2, 3, 0] rfl)
set_option maxHeartbeats 1000000 in
set_option maxRecDepth 100000 in
/-- SkipjackDeskModel.word -/
theorem mod_word (l : Launch) (dC : Nat → ClassId) (dI : Nat → Nat → Nat) (sz : Nat) (h : Nat) (d : ClassId) (n a : Nat) (f : Nat → Int32) (w : Int32) (ha : a + 4 ≤ n) (hn : n < 2 ^ 31) : Met l yX1_word (ws_ yX1_word cX1_word 4 none) ({ frames := 0, cells := 0, slots := 0, locals := 0 }) (va_Pc [.ref h, .int (nI a), .int w] (fun U => U.heap.size = sz ∧ va_P (dC, dI) vwCl [(h, .inl (d, n, .inl (f)))] U.heap ∧ va_K (dC, dI) vwCl [(d, .int)] U ∧ va_D (fun _ => True) [(h, .inl (d, n, .inl (f)))])) (va_Qv (fun (_ : Unit) => True) (fun (_ : Unit) (t : State) => va_P (dC, dI) vwCl [(h, .inl (d, n, .inl (sk_pI f a 4 w)))] t.heap ∧ va_K (dC, dI) vwCl [(d, .int)] t ∧ va_D (va_A [(h, .inl (d, n, .inl (f)))] sz) [(h, .inl (d, n, .inl (sk_pI f a 4 w)))]) (va_A [(h, .inl (d, n, .inl (f)))] sz)) 0 0 (va_A [(h, .inl (d, n, .inl (f)))] sz) := by
  refine Met.ofW (cc := cX1_word) (maxL := 4) (ret := none) (by decide) rfl ?_
  intro p e s m args below meth c s₁ BO hml hv
  obtain ⟨rfl, hsz, hP, hK, hD0⟩ := hv
  have hx := BO.exec
  have hb := BO.bytes
  have hr := BO.returns
  have hts := atoms_spec (ws := (ws_ yX1_word cX1_word 4 none)) BO.pre
  have hts : ∀ w ∈ lw_all, w.before _ s = true := fun w h => hts w (List.mem_cons_of_mem _ h)
  have hown : s.vm.findClass RX1 = some m.cls := findClass_of_methodNamed BO.named
  have hlocks := BO.notSynchronized
  subst hsz
  have hD := hD0.self (sz := s.heap.size)
  generalize hAe : va_A [(h, .inl (d, n, .inl (f)))] s.heap.size = A at hD ⊢
  have hA : ∀ q : Nat, s.heap.size ≤ q → A q := fun q h => by rw [← hAe]; exact Or.inr h
  have hS : va_S A s.heap s.heap [] := va_S.rf
  have hP : va_P (dC, dI) vwCl [(h, .inl (d, n, .inl (f)))] s.heap := hP
  have hl := lv_entry ([.ref h, .int (nI a), .int w]) (n := 4) (Nat.le_of_ble_eq_true rfl)
  rw [lg_entry_eq]
  generalize (lg_sl ([.ref h, .int (nI a), .int w]) ++ List.replicate (4 - (lg_sl ([.ref h, .int (nI a), .int w])).length) Slot.unset).toArray = ls at hl ⊢
  have hl : lv_has ls 4 [(0, .ref h), (1, .int (nI a)), (2, .int w)] := hl
  have hP : va_P (dC, dI) vwCl [(h, .inl (d, n, .inl (sk_pI f a 0 w)))] s.heap := by rw [← sk_pI_0 f a w]; exact hP
  have hD : va_D A [(h, .inl (d, n, .inl (sk_pI f a 0 w)))] := by rw [← sk_pI_0 f a w]; exact hD
  refine lv_iconst (v := nI 0) hx hb dX1_word_0 (by decide) ?_
  refine lv_istore_n (lv' := [(3, .int (nI 0)), (0, .ref h), (1, .int (nI a)), (2, .int w)]) hx hb dX1_word_1 rfl hl (by decide) rfl (fun ls hl => ?_)
  refine mod_word_lp h d n a f w hx hb hown hts hK ha hn ?_ 4 0 (by decide) _ _ ls hP hD hS (lv_sub hl [1, 2, 3, 0] rfl)
  intro H locs ls hP hD hS hl
  have hP9 := hP.sub (ws' := [(h, .inl (d, n, .inl (sk_pI f a 4 w)))]) [0] rfl
  have hD9 := hD.sub (ws' := [(h, .inl (d, n, .inl (sk_pI f a 4 w)))]) [0] (by decide) rfl
  have hK9 := hK.sub (tys' := [(d, .int)]) [0] rfl
  exact W.vret hx hb hr (fun t ht hW => ⟨⟨(), rfl, trivial, by rw [ht]; exact hP9, va_K.moved hW.alike hK9, hD9⟩, hS.F ht⟩) hS.2.2 dX1_word_31
set_option maxHeartbeats 1000000 in
set_option maxRecDepth 100000 in
/-- SkipjackDeskModel.key -/
theorem mod_key (l : Launch) (dC : Nat → ClassId) (dI : Nat → Nat → Nat) (sz : Nat) (h0 hk hb0 ho : Nat) (dk : ClassId) (fk : Nat → Int32) (hf v1 v2 v3 v4 : Int32)  : Met l yX1_key (ws_ yX1_key cX1_key 7 none) ({ frames := 1, cells := 0, slots := 0, locals := 23 }) (va_Pc [.ref h0, .int hf, .int v1, .int v2, .int v3, .int v4] (fun U => U.heap.size = sz ∧ va_P (dC, dI) vwCl [(h0, .inr (1, [.ref hk, .ref hb0, .ref ho])), (hk, .inl (dk, 32, .inl (fk)))] U.heap ∧ va_K (dC, dI) vwCl [(dk, .int)] U ∧ va_D (fun _ => True) [(h0, .inr (1, [.ref hk, .ref hb0, .ref ho])), (hk, .inl (dk, 32, .inl (fk)))])) (va_Qv (fun (_ : Unit) => True) (fun (_ : Unit) (t : State) => va_P (dC, dI) vwCl [(h0, .inr (1, [.ref hk, .ref hb0, .ref ho])), (hk, .inl (dk, 32, .inl (sk_pI (sk_pI (sk_pI (sk_pI fk (sk_at hf) 4 v1) (sk_at hf + 4) 4 v2) (sk_at hf + 8) 4 v3) (sk_at hf + 12) 4 v4)))] t.heap ∧ va_K (dC, dI) vwCl [(dk, .int)] t ∧ va_D (va_A [(h0, .inr (1, [.ref hk, .ref hb0, .ref ho])), (hk, .inl (dk, 32, .inl (fk)))] sz) [(h0, .inr (1, [.ref hk, .ref hb0, .ref ho])), (hk, .inl (dk, 32, .inl (sk_pI (sk_pI (sk_pI (sk_pI fk (sk_at hf) 4 v1) (sk_at hf + 4) 4 v2) (sk_at hf + 8) 4 v3) (sk_at hf + 12) 4 v4)))]) (va_A [(h0, .inr (1, [.ref hk, .ref hb0, .ref ho])), (hk, .inl (dk, 32, .inl (fk)))] sz)) 0 0 (va_A [(h0, .inr (1, [.ref hk, .ref hb0, .ref ho])), (hk, .inl (dk, 32, .inl (fk)))] sz) := by
  refine Met.ofW (cc := cX1_key) (maxL := 7) (ret := none) (by decide) rfl ?_
  intro p e s m args below meth c s₁ BO hml hv
  obtain ⟨rfl, hsz, hP, hK, hD0⟩ := hv
  have hx := BO.exec
  have hb := BO.bytes
  have hr := BO.returns
  have hts := atoms_spec (ws := (ws_ yX1_key cX1_key 7 none)) BO.pre
  have hts : ∀ w ∈ lw_all, w.before _ s = true := fun w h => hts w (List.mem_cons_of_mem _ h)
  have hown : s.vm.findClass RX1 = some m.cls := findClass_of_methodNamed BO.named
  have hlocks := BO.notSynchronized
  subst hsz
  have hD := hD0.self (sz := s.heap.size)
  generalize hAe : va_A [(h0, .inr (1, [.ref hk, .ref hb0, .ref ho])), (hk, .inl (dk, 32, .inl (fk)))] s.heap.size = A at hD ⊢
  have hA : ∀ q : Nat, s.heap.size ≤ q → A q := fun q h => by rw [← hAe]; exact Or.inr h
  have hS : va_S A s.heap s.heap [] := va_S.rf
  have hP : va_P (dC, dI) vwCl [(h0, .inr (1, [.ref hk, .ref hb0, .ref ho])), (hk, .inl (dk, 32, .inl (fk)))] s.heap := hP
  have hl := lv_entry ([.ref h0, .int hf, .int v1, .int v2, .int v3, .int v4]) (n := 7) (Nat.le_of_ble_eq_true rfl)
  rw [lg_entry_eq]
  generalize (lg_sl ([.ref h0, .int hf, .int v1, .int v2, .int v3, .int v4]) ++ List.replicate (7 - (lg_sl ([.ref h0, .int hf, .int v1, .int v2, .int v3, .int v4])).length) Slot.unset).toArray = ls at hl ⊢
  have hl : lv_has ls 7 [(0, .ref h0), (1, .int hf), (2, .int v1), (3, .int v2), (4, .int v3), (5, .int v4)] := hl
  have hat := sk_at_le hf
  refine lv_iload_n hx hb dX1_key_0 rfl (lv_at hl 1 rfl) ?_
  refine lv_iconst (v := nI 1) hx hb dX1_key_1 (by decide) ?_
  refine lv_iand hx hb dX1_key_2 ?_
  refine lv_iconst (v := nI 4) hx hb dX1_key_3 (by decide) ?_
  refine lv_ishl hx hb dX1_key_4 ?_
  refine sk_top (y := nI (sk_at hf)) (sk_at_eq hf) ?_
  refine lv_istore (lv' := [(6, .int (nI (sk_at hf))), (0, .ref h0), (1, .int hf), (2, .int v1), (3, .int v2), (4, .int v3), (5, .int v4)]) hx hb dX1_key_5 hl (by decide) rfl (fun ls hl => ?_)
  refine lv_aload_n hx hb dX1_key_7 rfl (lv_at hl 1 rfl) ?_
  refine va_get (D := (dC, dI)) (ci := 1) (v := .ref hk) (C := RX1) (T := TX1) (N := 3) hx hb hts in_X1 hown hK hP 0 rfl rfl 0 (by decide) (hts _ q286) (fun _ h9 => h9) rfl dX1_key_8 ?_
  refine lv_iload hx hb dX1_key_11 (lv_at hl 0 rfl) ?_
  refine lv_iload_n hx hb dX1_key_13 rfl (lv_at hl 3 rfl) ?_
  have hPc := hP.sub (ws' := [(hk, .inl (dk, 32, .inl (fk)))]) [1] rfl
  have hDc := hD.sub (ws' := [(hk, .inl (dk, 32, .inl (fk)))]) [1] (by decide) rfl
  have hKc := hK.sub (tys' := [(dk, .int)]) [0] rfl
  have hFc := va_free (wc := [(hk, .inl (dk, 32, .inl (fk)))]) hD hS hA [1] rfl
  refine va_callv (va_runS (As := [.ref hk, .int (nI (sk_at hf)), .int v1]) (rest := []) ⟨hx, hb, hml, hown, hts⟩ (mod_word l dC dI s.heap.size hk dk 32 (sk_at hf) (fk) v1 (by omega) (by decide)) (va_cwS 3 hts (lw_S q300 q301 q10 q302) rfl rfl rfl (by decide +kernel) ⟨Nat.le_of_ble_eq_true rfl, Nat.le_of_ble_eq_true rfl⟩) ⟨fun a U g mk q => by obtain ⟨q0, q1, qP, qK, qD⟩ := q; exact ⟨q0, q1, qP, va_K.moved (u := U) (U := U.calling g mk a) (Vm.Alike.refl U.vm) qK, qD⟩, fun U hU hW => ⟨rfl, by rw [hU], by rw [hU]; exact hPc, va_K.moved hW.alike hKc, hDc.weaken (fun _ _ _ _ => trivial)⟩⟩ rfl rfl hl.1 rfl (lv_room (Nat.le_of_ble_eq_true rfl)) dX1_key_14 ⟨Nat.le_of_ble_eq_true rfl, Nat.le_of_ble_eq_true rfl⟩) hS (fun q _ h => hFc q h) hFc (fun uS tS H1 locs htS hvm hw hB hz1 hk1 hS => ?_)
  obtain ⟨hP1, hK1, hD1⟩ := hB
  rw [htS] at hP1
  obtain ⟨hP, hD⟩ := va_join (wr := [(h0, .inr (1, [.ref hk, .ref hb0, .ref ho]))]) (w1 := [(hk, .inl (dk, 32, .inl (sk_pI fk (sk_at hf) 4 v1)))]) hP hD [1] [0] rfl rfl (by decide) (by decide) hk1 hFc hP1 hD1
  generalize H1 = H at hP hS ⊢
  have hP : va_P (dC, dI) vwCl [(h0, .inr (1, [.ref hk, .ref hb0, .ref ho])), (hk, .inl (dk, 32, .inl (sk_pI fk (sk_at hf) 4 v1)))] H := hP
  have hD : va_D A [(h0, .inr (1, [.ref hk, .ref hb0, .ref ho])), (hk, .inl (dk, 32, .inl (sk_pI fk (sk_at hf) 4 v1)))] := hD
  refine W.widen (k := 0) (n := 0) (Nat.le_of_ble_eq_true rfl) (Nat.le_of_ble_eq_true rfl) ?_
  refine lv_aload_n hx hb dX1_key_17 rfl (lv_at hl 1 rfl) ?_
  refine va_get (D := (dC, dI)) (ci := 1) (v := .ref hk) (C := RX1) (T := TX1) (N := 3) hx hb hts in_X1 hown hK hP 0 rfl rfl 0 (by decide) (hts _ q286) (fun _ h9 => h9) rfl dX1_key_18 ?_
  refine lv_iload hx hb dX1_key_21 (lv_at hl 0 rfl) ?_
  refine lv_iconst (v := nI 4) hx hb dX1_key_23 (by decide) ?_
  refine lv_iadd hx hb dX1_key_24 ?_
  refine sk_top (y := nI (sk_at hf + 4)) (nI_add _ 4) ?_
  refine lv_iload_n hx hb dX1_key_25 rfl (lv_at hl 4 rfl) ?_
  have hPc := hP.sub (ws' := [(hk, .inl (dk, 32, .inl (sk_pI fk (sk_at hf) 4 v1)))]) [1] rfl
  have hDc := hD.sub (ws' := [(hk, .inl (dk, 32, .inl (sk_pI fk (sk_at hf) 4 v1)))]) [1] (by decide) rfl
  have hKc := hK.sub (tys' := [(dk, .int)]) [0] rfl
  have hFc := va_free (wc := [(hk, .inl (dk, 32, .inl (sk_pI fk (sk_at hf) 4 v1)))]) hD hS hA [1] rfl
  refine va_callv (va_runS (As := [.ref hk, .int (nI (sk_at hf + 4)), .int v2]) (rest := []) ⟨hx, hb, hml, hown, hts⟩ (mod_word l dC dI H.size hk dk 32 (sk_at hf + 4) (sk_pI fk (sk_at hf) 4 v1) v2 (by omega) (by decide)) (va_cwS 3 hts (lw_S q300 q301 q10 q302) rfl rfl rfl (by decide +kernel) ⟨Nat.le_of_ble_eq_true rfl, Nat.le_of_ble_eq_true rfl⟩) ⟨fun a U g mk q => by obtain ⟨q0, q1, qP, qK, qD⟩ := q; exact ⟨q0, q1, qP, va_K.moved (u := U) (U := U.calling g mk a) (Vm.Alike.refl U.vm) qK, qD⟩, fun U hU hW => ⟨rfl, by rw [hU], by rw [hU]; exact hPc, va_K.moved hW.alike hKc, hDc.weaken (fun _ _ _ _ => trivial)⟩⟩ rfl rfl hl.1 rfl (lv_room (Nat.le_of_ble_eq_true rfl)) dX1_key_26 ⟨Nat.le_of_ble_eq_true rfl, Nat.le_of_ble_eq_true rfl⟩) hS (fun q _ h => hFc q h) hFc (fun uS tS H1 locs htS hvm hw hB hz1 hk1 hS => ?_)
  obtain ⟨hP1, hK1, hD1⟩ := hB
  rw [htS] at hP1
  obtain ⟨hP, hD⟩ := va_join (wr := [(h0, .inr (1, [.ref hk, .ref hb0, .ref ho]))]) (w1 := [(hk, .inl (dk, 32, .inl (sk_pI (sk_pI fk (sk_at hf) 4 v1) (sk_at hf + 4) 4 v2)))]) hP hD [1] [0] rfl rfl (by decide) (by decide) hk1 hFc hP1 hD1
  generalize H1 = H at hP hS ⊢
  have hP : va_P (dC, dI) vwCl [(h0, .inr (1, [.ref hk, .ref hb0, .ref ho])), (hk, .inl (dk, 32, .inl (sk_pI (sk_pI fk (sk_at hf) 4 v1) (sk_at hf + 4) 4 v2)))] H := hP
  have hD : va_D A [(h0, .inr (1, [.ref hk, .ref hb0, .ref ho])), (hk, .inl (dk, 32, .inl (sk_pI (sk_pI fk (sk_at hf) 4 v1) (sk_at hf + 4) 4 v2)))] := hD
  refine W.widen (k := 0) (n := 0) (Nat.le_of_ble_eq_true rfl) (Nat.le_of_ble_eq_true rfl) ?_
  refine lv_aload_n hx hb dX1_key_29 rfl (lv_at hl 1 rfl) ?_
  refine va_get (D := (dC, dI)) (ci := 1) (v := .ref hk) (C := RX1) (T := TX1) (N := 3) hx hb hts in_X1 hown hK hP 0 rfl rfl 0 (by decide) (hts _ q286) (fun _ h9 => h9) rfl dX1_key_30 ?_
  refine lv_iload hx hb dX1_key_33 (lv_at hl 0 rfl) ?_
  refine lv_bipush (v := nI 8) hx hb dX1_key_35 (by decide) ?_
  refine lv_iadd hx hb dX1_key_37 ?_
  refine sk_top (y := nI (sk_at hf + 8)) (nI_add _ 8) ?_
  refine lv_iload hx hb dX1_key_38 (lv_at hl 5 rfl) ?_
  have hPc := hP.sub (ws' := [(hk, .inl (dk, 32, .inl (sk_pI (sk_pI fk (sk_at hf) 4 v1) (sk_at hf + 4) 4 v2)))]) [1] rfl
  have hDc := hD.sub (ws' := [(hk, .inl (dk, 32, .inl (sk_pI (sk_pI fk (sk_at hf) 4 v1) (sk_at hf + 4) 4 v2)))]) [1] (by decide) rfl
  have hKc := hK.sub (tys' := [(dk, .int)]) [0] rfl
  have hFc := va_free (wc := [(hk, .inl (dk, 32, .inl (sk_pI (sk_pI fk (sk_at hf) 4 v1) (sk_at hf + 4) 4 v2)))]) hD hS hA [1] rfl
  refine va_callv (va_runS (As := [.ref hk, .int (nI (sk_at hf + 8)), .int v3]) (rest := []) ⟨hx, hb, hml, hown, hts⟩ (mod_word l dC dI H.size hk dk 32 (sk_at hf + 8) (sk_pI (sk_pI fk (sk_at hf) 4 v1) (sk_at hf + 4) 4 v2) v3 (by omega) (by decide)) (va_cwS 3 hts (lw_S q300 q301 q10 q302) rfl rfl rfl (by decide +kernel) ⟨Nat.le_of_ble_eq_true rfl, Nat.le_of_ble_eq_true rfl⟩) ⟨fun a U g mk q => by obtain ⟨q0, q1, qP, qK, qD⟩ := q; exact ⟨q0, q1, qP, va_K.moved (u := U) (U := U.calling g mk a) (Vm.Alike.refl U.vm) qK, qD⟩, fun U hU hW => ⟨rfl, by rw [hU], by rw [hU]; exact hPc, va_K.moved hW.alike hKc, hDc.weaken (fun _ _ _ _ => trivial)⟩⟩ rfl rfl hl.1 rfl (lv_room (Nat.le_of_ble_eq_true rfl)) dX1_key_40 ⟨Nat.le_of_ble_eq_true rfl, Nat.le_of_ble_eq_true rfl⟩) hS (fun q _ h => hFc q h) hFc (fun uS tS H1 locs htS hvm hw hB hz1 hk1 hS => ?_)
  obtain ⟨hP1, hK1, hD1⟩ := hB
  rw [htS] at hP1
  obtain ⟨hP, hD⟩ := va_join (wr := [(h0, .inr (1, [.ref hk, .ref hb0, .ref ho]))]) (w1 := [(hk, .inl (dk, 32, .inl (sk_pI (sk_pI (sk_pI fk (sk_at hf) 4 v1) (sk_at hf + 4) 4 v2) (sk_at hf + 8) 4 v3)))]) hP hD [1] [0] rfl rfl (by decide) (by decide) hk1 hFc hP1 hD1
  generalize H1 = H at hP hS ⊢
  have hP : va_P (dC, dI) vwCl [(h0, .inr (1, [.ref hk, .ref hb0, .ref ho])), (hk, .inl (dk, 32, .inl (sk_pI (sk_pI (sk_pI fk (sk_at hf) 4 v1) (sk_at hf + 4) 4 v2) (sk_at hf + 8) 4 v3)))] H := hP
  have hD : va_D A [(h0, .inr (1, [.ref hk, .ref hb0, .ref ho])), (hk, .inl (dk, 32, .inl (sk_pI (sk_pI (sk_pI fk (sk_at hf) 4 v1) (sk_at hf + 4) 4 v2) (sk_at hf + 8) 4 v3)))] := hD
  refine W.widen (k := 0) (n := 0) (Nat.le_of_ble_eq_true rfl) (Nat.le_of_ble_eq_true rfl) ?_
  refine lv_aload_n hx hb dX1_key_43 rfl (lv_at hl 1 rfl) ?_
  refine va_get (D := (dC, dI)) (ci := 1) (v := .ref hk) (C := RX1) (T := TX1) (N := 3) hx hb hts in_X1 hown hK hP 0 rfl rfl 0 (by decide) (hts _ q286) (fun _ h9 => h9) rfl dX1_key_44 ?_
  refine lv_iload hx hb dX1_key_47 (lv_at hl 0 rfl) ?_
  refine lv_bipush (v := nI 12) hx hb dX1_key_49 (by decide) ?_
  refine lv_iadd hx hb dX1_key_51 ?_
  refine sk_top (y := nI (sk_at hf + 12)) (nI_add _ 12) ?_
  refine lv_iload hx hb dX1_key_52 (lv_at hl 6 rfl) ?_
  have hPc := hP.sub (ws' := [(hk, .inl (dk, 32, .inl (sk_pI (sk_pI (sk_pI fk (sk_at hf) 4 v1) (sk_at hf + 4) 4 v2) (sk_at hf + 8) 4 v3)))]) [1] rfl
  have hDc := hD.sub (ws' := [(hk, .inl (dk, 32, .inl (sk_pI (sk_pI (sk_pI fk (sk_at hf) 4 v1) (sk_at hf + 4) 4 v2) (sk_at hf + 8) 4 v3)))]) [1] (by decide) rfl
  have hKc := hK.sub (tys' := [(dk, .int)]) [0] rfl
  have hFc := va_free (wc := [(hk, .inl (dk, 32, .inl (sk_pI (sk_pI (sk_pI fk (sk_at hf) 4 v1) (sk_at hf + 4) 4 v2) (sk_at hf + 8) 4 v3)))]) hD hS hA [1] rfl
  refine va_callv (va_runS (As := [.ref hk, .int (nI (sk_at hf + 12)), .int v4]) (rest := []) ⟨hx, hb, hml, hown, hts⟩ (mod_word l dC dI H.size hk dk 32 (sk_at hf + 12) (sk_pI (sk_pI (sk_pI fk (sk_at hf) 4 v1) (sk_at hf + 4) 4 v2) (sk_at hf + 8) 4 v3) v4 (by omega) (by decide)) (va_cwS 3 hts (lw_S q300 q301 q10 q302) rfl rfl rfl (by decide +kernel) ⟨Nat.le_of_ble_eq_true rfl, Nat.le_of_ble_eq_true rfl⟩) ⟨fun a U g mk q => by obtain ⟨q0, q1, qP, qK, qD⟩ := q; exact ⟨q0, q1, qP, va_K.moved (u := U) (U := U.calling g mk a) (Vm.Alike.refl U.vm) qK, qD⟩, fun U hU hW => ⟨rfl, by rw [hU], by rw [hU]; exact hPc, va_K.moved hW.alike hKc, hDc.weaken (fun _ _ _ _ => trivial)⟩⟩ rfl rfl hl.1 rfl (lv_room (Nat.le_of_ble_eq_true rfl)) dX1_key_54 ⟨Nat.le_of_ble_eq_true rfl, Nat.le_of_ble_eq_true rfl⟩) hS (fun q _ h => hFc q h) hFc (fun uS tS H1 locs htS hvm hw hB hz1 hk1 hS => ?_)
  obtain ⟨hP1, hK1, hD1⟩ := hB
  rw [htS] at hP1
  obtain ⟨hP, hD⟩ := va_join (wr := [(h0, .inr (1, [.ref hk, .ref hb0, .ref ho]))]) (w1 := [(hk, .inl (dk, 32, .inl (sk_pI (sk_pI (sk_pI (sk_pI fk (sk_at hf) 4 v1) (sk_at hf + 4) 4 v2) (sk_at hf + 8) 4 v3) (sk_at hf + 12) 4 v4)))]) hP hD [1] [0] rfl rfl (by decide) (by decide) hk1 hFc hP1 hD1
  generalize H1 = H at hP hS ⊢
  have hP : va_P (dC, dI) vwCl [(h0, .inr (1, [.ref hk, .ref hb0, .ref ho])), (hk, .inl (dk, 32, .inl (sk_pI (sk_pI (sk_pI (sk_pI fk (sk_at hf) 4 v1) (sk_at hf + 4) 4 v2) (sk_at hf + 8) 4 v3) (sk_at hf + 12) 4 v4)))] H := hP
  have hD : va_D A [(h0, .inr (1, [.ref hk, .ref hb0, .ref ho])), (hk, .inl (dk, 32, .inl (sk_pI (sk_pI (sk_pI (sk_pI fk (sk_at hf) 4 v1) (sk_at hf + 4) 4 v2) (sk_at hf + 8) 4 v3) (sk_at hf + 12) 4 v4)))] := hD
  refine W.widen (k := 0) (n := 0) (Nat.le_of_ble_eq_true rfl) (Nat.le_of_ble_eq_true rfl) ?_
  have hP9 := hP.sub (ws' := [(h0, .inr (1, [.ref hk, .ref hb0, .ref ho])), (hk, .inl (dk, 32, .inl (sk_pI (sk_pI (sk_pI (sk_pI fk (sk_at hf) 4 v1) (sk_at hf + 4) 4 v2) (sk_at hf + 8) 4 v3) (sk_at hf + 12) 4 v4)))]) [0, 1] rfl
  have hD9 := hD.sub (ws' := [(h0, .inr (1, [.ref hk, .ref hb0, .ref ho])), (hk, .inl (dk, 32, .inl (sk_pI (sk_pI (sk_pI (sk_pI fk (sk_at hf) 4 v1) (sk_at hf + 4) 4 v2) (sk_at hf + 8) 4 v3) (sk_at hf + 12) 4 v4)))]) [0, 1] (by decide) rfl
  have hK9 := hK.sub (tys' := [(dk, .int)]) [0] rfl
  exact W.vret hx hb hr (fun t ht hW => ⟨⟨(), rfl, trivial, by rw [ht]; exact hP9, va_K.moved hW.alike hK9, hD9⟩, hS.F ht⟩) hS.2.2 dX1_key_57
set_option maxHeartbeats 1000000 in
set_option maxRecDepth 100000 in
/-- SkipjackDeskModel.block -/
theorem mod_block (l : Launch) (dC : Nat → ClassId) (dI : Nat → Nat → Nat) (sz : Nat) (h0 hk hb0 ho : Nat) (db : ClassId) (fb : Nat → Int32) (v1 v2 : Int32)  : Met l yX1_block (ws_ yX1_block cX1_block 3 none) ({ frames := 1, cells := 0, slots := 0, locals := 23 }) (va_Pc [.ref h0, .int v1, .int v2] (fun U => U.heap.size = sz ∧ va_P (dC, dI) vwCl [(h0, .inr (1, [.ref hk, .ref hb0, .ref ho])), (hb0, .inl (db, 8, .inl (fb)))] U.heap ∧ va_K (dC, dI) vwCl [(db, .int)] U ∧ va_D (fun _ => True) [(h0, .inr (1, [.ref hk, .ref hb0, .ref ho])), (hb0, .inl (db, 8, .inl (fb)))])) (va_Qv (fun (_ : Unit) => True) (fun (_ : Unit) (t : State) => va_P (dC, dI) vwCl [(h0, .inr (1, [.ref hk, .ref hb0, .ref ho])), (hb0, .inl (db, 8, .inl (sk_pI (sk_pI fb 0 4 v1) 4 4 v2)))] t.heap ∧ va_K (dC, dI) vwCl [(db, .int)] t ∧ va_D (va_A [(h0, .inr (1, [.ref hk, .ref hb0, .ref ho])), (hb0, .inl (db, 8, .inl (fb)))] sz) [(h0, .inr (1, [.ref hk, .ref hb0, .ref ho])), (hb0, .inl (db, 8, .inl (sk_pI (sk_pI fb 0 4 v1) 4 4 v2)))]) (va_A [(h0, .inr (1, [.ref hk, .ref hb0, .ref ho])), (hb0, .inl (db, 8, .inl (fb)))] sz)) 0 0 (va_A [(h0, .inr (1, [.ref hk, .ref hb0, .ref ho])), (hb0, .inl (db, 8, .inl (fb)))] sz) := by
  refine Met.ofW (cc := cX1_block) (maxL := 3) (ret := none) (by decide) rfl ?_
  intro p e s m args below meth c s₁ BO hml hv
  obtain ⟨rfl, hsz, hP, hK, hD0⟩ := hv
  have hx := BO.exec
  have hb := BO.bytes
  have hr := BO.returns
  have hts := atoms_spec (ws := (ws_ yX1_block cX1_block 3 none)) BO.pre
  have hts : ∀ w ∈ lw_all, w.before _ s = true := fun w h => hts w (List.mem_cons_of_mem _ h)
  have hown : s.vm.findClass RX1 = some m.cls := findClass_of_methodNamed BO.named
  have hlocks := BO.notSynchronized
  subst hsz
  have hD := hD0.self (sz := s.heap.size)
  generalize hAe : va_A [(h0, .inr (1, [.ref hk, .ref hb0, .ref ho])), (hb0, .inl (db, 8, .inl (fb)))] s.heap.size = A at hD ⊢
  have hA : ∀ q : Nat, s.heap.size ≤ q → A q := fun q h => by rw [← hAe]; exact Or.inr h
  have hS : va_S A s.heap s.heap [] := va_S.rf
  have hP : va_P (dC, dI) vwCl [(h0, .inr (1, [.ref hk, .ref hb0, .ref ho])), (hb0, .inl (db, 8, .inl (fb)))] s.heap := hP
  have hl := lv_entry ([.ref h0, .int v1, .int v2]) (n := 3) (Nat.le_of_ble_eq_true rfl)
  rw [lg_entry_eq]
  generalize (lg_sl ([.ref h0, .int v1, .int v2]) ++ List.replicate (3 - (lg_sl ([.ref h0, .int v1, .int v2])).length) Slot.unset).toArray = ls at hl ⊢
  have hl : lv_has ls 3 [(0, .ref h0), (1, .int v1), (2, .int v2)] := hl
  refine lv_aload_n hx hb dX1_block_0 rfl (lv_at hl 0 rfl) ?_
  refine va_get (D := (dC, dI)) (ci := 1) (v := .ref hb0) (C := RX1) (T := TX1) (N := 3) hx hb hts in_X1 hown hK hP 0 rfl rfl 1 (by decide) (hts _ q287) (fun _ h9 => h9) rfl dX1_block_1 ?_
  refine lv_iconst (v := nI 0) hx hb dX1_block_4 (by decide) ?_
  refine lv_iload_n hx hb dX1_block_5 rfl (lv_at hl 1 rfl) ?_
  have hPc := hP.sub (ws' := [(hb0, .inl (db, 8, .inl (fb)))]) [1] rfl
  have hDc := hD.sub (ws' := [(hb0, .inl (db, 8, .inl (fb)))]) [1] (by decide) rfl
  have hKc := hK.sub (tys' := [(db, .int)]) [0] rfl
  have hFc := va_free (wc := [(hb0, .inl (db, 8, .inl (fb)))]) hD hS hA [1] rfl
  refine va_callv (va_runS (As := [.ref hb0, .int (nI 0), .int v1]) (rest := []) ⟨hx, hb, hml, hown, hts⟩ (mod_word l dC dI s.heap.size hb0 db 8 0 fb v1 (by decide) (by decide)) (va_cwS 3 hts (lw_S q300 q301 q10 q302) rfl rfl rfl (by decide +kernel) ⟨Nat.le_of_ble_eq_true rfl, Nat.le_of_ble_eq_true rfl⟩) ⟨fun a U g mk q => by obtain ⟨q0, q1, qP, qK, qD⟩ := q; exact ⟨q0, q1, qP, va_K.moved (u := U) (U := U.calling g mk a) (Vm.Alike.refl U.vm) qK, qD⟩, fun U hU hW => ⟨rfl, by rw [hU], by rw [hU]; exact hPc, va_K.moved hW.alike hKc, hDc.weaken (fun _ _ _ _ => trivial)⟩⟩ rfl rfl hl.1 rfl (lv_room (Nat.le_of_ble_eq_true rfl)) dX1_block_6 ⟨Nat.le_of_ble_eq_true rfl, Nat.le_of_ble_eq_true rfl⟩) hS (fun q _ h => hFc q h) hFc (fun uS tS H1 locs htS hvm hw hB hz1 hk1 hS => ?_)
  obtain ⟨hP1, hK1, hD1⟩ := hB
  rw [htS] at hP1
  obtain ⟨hP, hD⟩ := va_join (wr := [(h0, .inr (1, [.ref hk, .ref hb0, .ref ho]))]) (w1 := [(hb0, .inl (db, 8, .inl (sk_pI fb 0 4 v1)))]) hP hD [1] [0] rfl rfl (by decide) (by decide) hk1 hFc hP1 hD1
  generalize H1 = H at hP hS ⊢
  have hP : va_P (dC, dI) vwCl [(h0, .inr (1, [.ref hk, .ref hb0, .ref ho])), (hb0, .inl (db, 8, .inl (sk_pI fb 0 4 v1)))] H := hP
  have hD : va_D A [(h0, .inr (1, [.ref hk, .ref hb0, .ref ho])), (hb0, .inl (db, 8, .inl (sk_pI fb 0 4 v1)))] := hD
  refine W.widen (k := 0) (n := 0) (Nat.le_of_ble_eq_true rfl) (Nat.le_of_ble_eq_true rfl) ?_
  refine lv_aload_n hx hb dX1_block_9 rfl (lv_at hl 0 rfl) ?_
  refine va_get (D := (dC, dI)) (ci := 1) (v := .ref hb0) (C := RX1) (T := TX1) (N := 3) hx hb hts in_X1 hown hK hP 0 rfl rfl 1 (by decide) (hts _ q287) (fun _ h9 => h9) rfl dX1_block_10 ?_
  refine lv_iconst (v := nI 4) hx hb dX1_block_13 (by decide) ?_
  refine lv_iload_n hx hb dX1_block_14 rfl (lv_at hl 2 rfl) ?_
  have hPc := hP.sub (ws' := [(hb0, .inl (db, 8, .inl (sk_pI fb 0 4 v1)))]) [1] rfl
  have hDc := hD.sub (ws' := [(hb0, .inl (db, 8, .inl (sk_pI fb 0 4 v1)))]) [1] (by decide) rfl
  have hKc := hK.sub (tys' := [(db, .int)]) [0] rfl
  have hFc := va_free (wc := [(hb0, .inl (db, 8, .inl (sk_pI fb 0 4 v1)))]) hD hS hA [1] rfl
  refine va_callv (va_runS (As := [.ref hb0, .int (nI 4), .int v2]) (rest := []) ⟨hx, hb, hml, hown, hts⟩ (mod_word l dC dI H.size hb0 db 8 4 (sk_pI fb 0 4 v1) v2 (by decide) (by decide)) (va_cwS 3 hts (lw_S q300 q301 q10 q302) rfl rfl rfl (by decide +kernel) ⟨Nat.le_of_ble_eq_true rfl, Nat.le_of_ble_eq_true rfl⟩) ⟨fun a U g mk q => by obtain ⟨q0, q1, qP, qK, qD⟩ := q; exact ⟨q0, q1, qP, va_K.moved (u := U) (U := U.calling g mk a) (Vm.Alike.refl U.vm) qK, qD⟩, fun U hU hW => ⟨rfl, by rw [hU], by rw [hU]; exact hPc, va_K.moved hW.alike hKc, hDc.weaken (fun _ _ _ _ => trivial)⟩⟩ rfl rfl hl.1 rfl (lv_room (Nat.le_of_ble_eq_true rfl)) dX1_block_15 ⟨Nat.le_of_ble_eq_true rfl, Nat.le_of_ble_eq_true rfl⟩) hS (fun q _ h => hFc q h) hFc (fun uS tS H1 locs htS hvm hw hB hz1 hk1 hS => ?_)
  obtain ⟨hP1, hK1, hD1⟩ := hB
  rw [htS] at hP1
  obtain ⟨hP, hD⟩ := va_join (wr := [(h0, .inr (1, [.ref hk, .ref hb0, .ref ho]))]) (w1 := [(hb0, .inl (db, 8, .inl (sk_pI (sk_pI fb 0 4 v1) 4 4 v2)))]) hP hD [1] [0] rfl rfl (by decide) (by decide) hk1 hFc hP1 hD1
  generalize H1 = H at hP hS ⊢
  have hP : va_P (dC, dI) vwCl [(h0, .inr (1, [.ref hk, .ref hb0, .ref ho])), (hb0, .inl (db, 8, .inl (sk_pI (sk_pI fb 0 4 v1) 4 4 v2)))] H := hP
  have hD : va_D A [(h0, .inr (1, [.ref hk, .ref hb0, .ref ho])), (hb0, .inl (db, 8, .inl (sk_pI (sk_pI fb 0 4 v1) 4 4 v2)))] := hD
  refine W.widen (k := 0) (n := 0) (Nat.le_of_ble_eq_true rfl) (Nat.le_of_ble_eq_true rfl) ?_
  have hP9 := hP.sub (ws' := [(h0, .inr (1, [.ref hk, .ref hb0, .ref ho])), (hb0, .inl (db, 8, .inl (sk_pI (sk_pI fb 0 4 v1) 4 4 v2)))]) [0, 1] rfl
  have hD9 := hD.sub (ws' := [(h0, .inr (1, [.ref hk, .ref hb0, .ref ho])), (hb0, .inl (db, 8, .inl (sk_pI (sk_pI fb 0 4 v1) 4 4 v2)))]) [0, 1] (by decide) rfl
  have hK9 := hK.sub (tys' := [(db, .int)]) [0] rfl
  exact W.vret hx hb hr (fun t ht hW => ⟨⟨(), rfl, trivial, by rw [ht]; exact hP9, va_K.moved hW.alike hK9, hD9⟩, hS.F ht⟩) hS.2.2 dX1_block_18
set_option maxHeartbeats 1000000 in
set_option maxRecDepth 100000 in
/-- SkipjackDeskModel.out -/
theorem mod_out (l : Launch) (dC : Nat → ClassId) (dI : Nat → Nat → Nat) (sz : Nat) (h0 hk hb0 ho : Nat) (dq : ClassId) (fo : Nat → Int32) (x : Int32)  : Met l yX1_out (ws_ yX1_out cX1_out 2 (some .int)) ({ frames := 0, cells := 0, slots := 0, locals := 0 }) (va_Pc [.ref h0, .int x] (fun U => U.heap.size = sz ∧ va_P (dC, dI) vwCl [(h0, .inr (1, [.ref hk, .ref hb0, .ref ho])), (ho, .inl (dq, 8, .inl (fo)))] U.heap ∧ va_K (dC, dI) vwCl [(dq, .int)] U ∧ va_D (fun _ => True) [(h0, .inr (1, [.ref hk, .ref hb0, .ref ho])), (ho, .inl (dq, 8, .inl (fo)))])) (va_Qi (fun (r : Int32) (_ : Unit) => r = fo (x.toBitVec.toNat % 8)) (fun (_ : Unit) (t : State) => va_P (dC, dI) vwCl [(h0, .inr (1, [.ref hk, .ref hb0, .ref ho])), (ho, .inl (dq, 8, .inl (fo)))] t.heap ∧ va_K (dC, dI) vwCl [(dq, .int)] t ∧ va_D (va_A [(h0, .inr (1, [.ref hk, .ref hb0, .ref ho])), (ho, .inl (dq, 8, .inl (fo)))] sz) [(h0, .inr (1, [.ref hk, .ref hb0, .ref ho])), (ho, .inl (dq, 8, .inl (fo)))]) (va_A [(h0, .inr (1, [.ref hk, .ref hb0, .ref ho])), (ho, .inl (dq, 8, .inl (fo)))] sz)) 0 0 (va_A [(h0, .inr (1, [.ref hk, .ref hb0, .ref ho])), (ho, .inl (dq, 8, .inl (fo)))] sz) := by
  refine Met.ofW (cc := cX1_out) (maxL := 2) (ret := (some .int)) (by decide) rfl ?_
  intro p e s m args below meth c s₁ BO hml hv
  obtain ⟨rfl, hsz, hP, hK, hD0⟩ := hv
  have hx := BO.exec
  have hb := BO.bytes
  have hr := BO.returns
  have hts := atoms_spec (ws := (ws_ yX1_out cX1_out 2 (some .int))) BO.pre
  have hts : ∀ w ∈ lw_all, w.before _ s = true := fun w h => hts w (List.mem_cons_of_mem _ h)
  have hown : s.vm.findClass RX1 = some m.cls := findClass_of_methodNamed BO.named
  have hlocks := BO.notSynchronized
  subst hsz
  have hD := hD0.self (sz := s.heap.size)
  generalize hAe : va_A [(h0, .inr (1, [.ref hk, .ref hb0, .ref ho])), (ho, .inl (dq, 8, .inl (fo)))] s.heap.size = A at hD ⊢
  have hA : ∀ q : Nat, s.heap.size ≤ q → A q := fun q h => by rw [← hAe]; exact Or.inr h
  have hS : va_S A s.heap s.heap [] := va_S.rf
  have hP : va_P (dC, dI) vwCl [(h0, .inr (1, [.ref hk, .ref hb0, .ref ho])), (ho, .inl (dq, 8, .inl (fo)))] s.heap := hP
  have hl := lv_entry ([.ref h0, .int x]) (n := 2) (Nat.le_of_ble_eq_true rfl)
  rw [lg_entry_eq]
  generalize (lg_sl ([.ref h0, .int x]) ++ List.replicate (2 - (lg_sl ([.ref h0, .int x])).length) Slot.unset).toArray = ls at hl ⊢
  have hl : lv_has ls 2 [(0, .ref h0), (1, .int x)] := hl
  refine lv_aload_n hx hb dX1_out_0 rfl (lv_at hl 0 rfl) ?_
  refine va_get (D := (dC, dI)) (ci := 1) (v := .ref ho) (C := RX1) (T := TX1) (N := 3) hx hb hts in_X1 hown hK hP 0 rfl rfl 2 (by decide) (hts _ q288) (fun _ h9 => h9) rfl dX1_out_1 ?_
  refine lv_iload_n hx hb dX1_out_4 rfl (lv_at hl 1 rfl) ?_
  refine lv_bipush (v := nI 7) hx hb dX1_out_5 (by decide) ?_
  refine lv_iand hx hb dX1_out_7 ?_
  refine sk_top (y := nI (x.toBitVec.toNat % 8)) (sk_and7 x) ?_
  refine sk_iald (k := x.toBitVec.toNat % 8) hx hb hK hP 1 0 rfl rfl (Nat.mod_lt _ (by decide)) (by decide) dX1_out_8 ?_
  have hP9 := hP.sub (ws' := [(h0, .inr (1, [.ref hk, .ref hb0, .ref ho])), (ho, .inl (dq, 8, .inl (fo)))]) [0, 1] rfl
  have hD9 := hD.sub (ws' := [(h0, .inr (1, [.ref hk, .ref hb0, .ref ho])), (ho, .inl (dq, 8, .inl (fo)))]) [0, 1] (by decide) rfl
  have hK9 := hK.sub (tys' := [(dq, .int)]) [0] rfl
  exact W.iret (v := fo (x.toBitVec.toNat % 8)) hx hb hr (fun t ht hW => ⟨⟨fo (x.toBitVec.toNat % 8), (), rfl, rfl, by rw [ht]; exact hP9, va_K.moved hW.alike hK9, hD9⟩, hS.F ht⟩) hS.2.2 dX1_out_9
set_option maxHeartbeats 1000000 in
set_option maxRecDepth 100000 in
theorem mod_again_lp {p : Program} {l : Launch} {e : Env} {R : Room} {s : State} {m : MethodId} {args : Array Value} {below : List Frame} {meth : Method} {c : Code} {dC : Nat → ClassId} {dI : Nat → Nat → Nat} {A : Nat → Prop} {Q : State → Prop} {cells slots : Nat} (h0 hk hb0 ho : Nat) (db dq : ClassId) (fb fo : Nat → Int32) (O : Nat → Nat) (hx : p.tables.exec = Jvm.exec) (hb : c.code = cX1_again) (hown : s.vm.findClass RX1 = some m.cls) (hts : ∀ w ∈ lw_all, w.before args s = true) (hK : va_K (dC, dI) vwCl [(db, .int), (dq, .int)] s) (hO : ∀ j, j < 8 → fo j = nI (O j))
    (hend : ∀ (H : Heap) (locs : List Loc) (ls : Array Slot), va_P (dC, dI) vwCl [(h0, .inr (1, [.ref hk, .ref hb0, .ref ho])), (hb0, .inl (db, 8, .inl (sk_fill (fun j => nI (O j)) fb 8))), (ho, .inl (dq, 8, .inl (fo)))] H → va_D A [(h0, .inr (1, [.ref hk, .ref hb0, .ref ho])), (hb0, .inl (db, 8, .inl (sk_fill (fun j => nI (O j)) fb 8))), (ho, .inl (dq, 8, .inl (fo)))] → va_S A s.heap H locs → lv_has ls 2 [(0, .ref h0), (1, .int (nI 8))] → W p l e R s m args below meth c H locs cells slots Q (F0 m 26 ls [])) :
    ∀ (cnt i : Nat), i + cnt = 8 → ∀ (H : Heap) (locs : List Loc) (ls : Array Slot), va_P (dC, dI) vwCl [(h0, .inr (1, [.ref hk, .ref hb0, .ref ho])), (hb0, .inl (db, 8, .inl (sk_fill (fun j => nI (O j)) fb i))), (ho, .inl (dq, 8, .inl (fo)))] H → va_D A [(h0, .inr (1, [.ref hk, .ref hb0, .ref ho])), (hb0, .inl (db, 8, .inl (sk_fill (fun j => nI (O j)) fb i))), (ho, .inl (dq, 8, .inl (fo)))] → va_S A s.heap H locs → lv_has ls 2 [(0, .ref h0), (1, .int (nI i))] → W p l e R s m args below meth c H locs cells slots Q (F0 m 2 ls []) := by
  intro cnt
  induction cnt with
  | zero =>
    intro i hi H locs ls hP hD hS hl
    have hi : i = 8 := by omega
    subst hi
    refine lv_iload_n hx hb dX1_again_2 rfl (lv_at hl 1 rfl) ?_
    refine lv_bipush (v := nI 8) hx hb dX1_again_3 (by decide) ?_
    refine sk_geY (tgt := 26) hx hb (Nat.le_refl 8) (by decide) dX1_again_5 (by decide) ?_
    exact hend H locs ls hP hD hS hl
  | succ cnt ih =>
    intro i hi H locs ls hP hD hS hl
    refine lv_iload_n hx hb dX1_again_2 rfl (lv_at hl 1 rfl) ?_
    refine lv_bipush (v := nI 8) hx hb dX1_again_3 (by decide) ?_
    refine sk_geN (tgt := 26) hx hb (show i < 8 by omega) (by decide) dX1_again_5 (by decide) ?_
    refine lv_aload_n hx hb dX1_again_8 rfl (lv_at hl 0 rfl) ?_
    refine va_get (D := (dC, dI)) (ci := 1) (v := .ref hb0) (C := RX1) (T := TX1) (N := 3) hx hb hts in_X1 hown hK hP 0 rfl rfl 1 (by decide) (hts _ q287) (fun _ h9 => h9) rfl dX1_again_9 ?_
    refine lv_iload_n hx hb dX1_again_12 rfl (lv_at hl 1 rfl) ?_
    refine lv_aload_n hx hb dX1_again_13 rfl (lv_at hl 0 rfl) ?_
    refine va_get (D := (dC, dI)) (ci := 1) (v := .ref ho) (C := RX1) (T := TX1) (N := 3) hx hb hts in_X1 hown hK hP 0 rfl rfl 2 (by decide) (hts _ q288) (fun _ h9 => h9) rfl dX1_again_14 ?_
    refine lv_iload_n hx hb dX1_again_17 rfl (lv_at hl 1 rfl) ?_
    refine sk_iald (k := i) hx hb hK hP 2 1 rfl rfl (by omega) (by decide) dX1_again_18 ?_
    refine sk_top (y := nI (O i)) (hO i (by omega)) ?_
    refine sk_iast (k := i) hx hb hK hP hD hS 1 0 rfl rfl (by omega) (by decide) dX1_again_19 (fun H locs hP hD hS => ?_)
    have hP : va_P (dC, dI) vwCl [(h0, .inr (1, [.ref hk, .ref hb0, .ref ho])), (hb0, .inl (db, 8, .inl (upd (sk_fill (fun j => nI (O j)) fb i) i (nI (O i))))), (ho, .inl (dq, 8, .inl (fo)))] H := hP
    have hD : va_D A [(h0, .inr (1, [.ref hk, .ref hb0, .ref ho])), (hb0, .inl (db, 8, .inl (upd (sk_fill (fun j => nI (O j)) fb i) i (nI (O i))))), (ho, .inl (dq, 8, .inl (fo)))] := hD
    have hP : va_P (dC, dI) vwCl [(h0, .inr (1, [.ref hk, .ref hb0, .ref ho])), (hb0, .inl (db, 8, .inl (sk_fill (fun j => nI (O j)) fb (i + 1)))), (ho, .inl (dq, 8, .inl (fo)))] H := by rw [sk_fill_s (fun j => nI (O j)) fb i rfl] at hP; exact hP
    have hD : va_D A [(h0, .inr (1, [.ref hk, .ref hb0, .ref ho])), (hb0, .inl (db, 8, .inl (sk_fill (fun j => nI (O j)) fb (i + 1)))), (ho, .inl (dq, 8, .inl (fo)))] := by rw [sk_fill_s (fun j => nI (O j)) fb i rfl] at hD; exact hD
    refine lv_iinc (v := nI (i + 1)) (lv' := [(1, .int (nI (i + 1))), (0, .ref h0)]) hx hb dX1_again_20 hl (k := 1) rfl (nI_1 i) (by decide) rfl (fun ls hl => ?_)
    refine lv_goto (tgt := 2) hx hb dX1_again_23 (by decide) ?_
    exact ih (i + 1) (by omega) H locs ls hP hD hS (lv_sub hl [1, 0] rfl)
set_option maxHeartbeats 1000000 in
set_option maxRecDepth 100000 in
/-- SkipjackDeskModel.again -/
theorem mod_again (l : Launch) (dC : Nat → ClassId) (dI : Nat → Nat → Nat) (sz : Nat) (h0 hk hb0 ho : Nat) (db dq : ClassId) (fb fo : Nat → Int32) (O : Nat → Nat) (hO : ∀ j, j < 8 → fo j = nI (O j)) : Met l yX1_again (ws_ yX1_again cX1_again 2 none) ({ frames := 0, cells := 0, slots := 0, locals := 0 }) (va_Pc [.ref h0] (fun U => U.heap.size = sz ∧ va_P (dC, dI) vwCl [(h0, .inr (1, [.ref hk, .ref hb0, .ref ho])), (hb0, .inl (db, 8, .inl (fb))), (ho, .inl (dq, 8, .inl (fo)))] U.heap ∧ va_K (dC, dI) vwCl [(db, .int), (dq, .int)] U ∧ va_D (fun _ => True) [(h0, .inr (1, [.ref hk, .ref hb0, .ref ho])), (hb0, .inl (db, 8, .inl (fb))), (ho, .inl (dq, 8, .inl (fo)))])) (va_Qv (fun (_ : Unit) => True) (fun (_ : Unit) (t : State) => va_P (dC, dI) vwCl [(h0, .inr (1, [.ref hk, .ref hb0, .ref ho])), (hb0, .inl (db, 8, .inl (sk_fill (fun j => nI (O j)) fb 8))), (ho, .inl (dq, 8, .inl (fo)))] t.heap ∧ va_K (dC, dI) vwCl [(db, .int), (dq, .int)] t ∧ va_D (va_A [(h0, .inr (1, [.ref hk, .ref hb0, .ref ho])), (hb0, .inl (db, 8, .inl (fb))), (ho, .inl (dq, 8, .inl (fo)))] sz) [(h0, .inr (1, [.ref hk, .ref hb0, .ref ho])), (hb0, .inl (db, 8, .inl (sk_fill (fun j => nI (O j)) fb 8))), (ho, .inl (dq, 8, .inl (fo)))]) (va_A [(h0, .inr (1, [.ref hk, .ref hb0, .ref ho])), (hb0, .inl (db, 8, .inl (fb))), (ho, .inl (dq, 8, .inl (fo)))] sz)) 0 0 (va_A [(h0, .inr (1, [.ref hk, .ref hb0, .ref ho])), (hb0, .inl (db, 8, .inl (fb))), (ho, .inl (dq, 8, .inl (fo)))] sz) := by
  refine Met.ofW (cc := cX1_again) (maxL := 2) (ret := none) (by decide) rfl ?_
  intro p e s m args below meth c s₁ BO hml hv
  obtain ⟨rfl, hsz, hP, hK, hD0⟩ := hv
  have hx := BO.exec
  have hb := BO.bytes
  have hr := BO.returns
  have hts := atoms_spec (ws := (ws_ yX1_again cX1_again 2 none)) BO.pre
  have hts : ∀ w ∈ lw_all, w.before _ s = true := fun w h => hts w (List.mem_cons_of_mem _ h)
  have hown : s.vm.findClass RX1 = some m.cls := findClass_of_methodNamed BO.named
  have hlocks := BO.notSynchronized
  subst hsz
  have hD := hD0.self (sz := s.heap.size)
  generalize hAe : va_A [(h0, .inr (1, [.ref hk, .ref hb0, .ref ho])), (hb0, .inl (db, 8, .inl (fb))), (ho, .inl (dq, 8, .inl (fo)))] s.heap.size = A at hD ⊢
  have hA : ∀ q : Nat, s.heap.size ≤ q → A q := fun q h => by rw [← hAe]; exact Or.inr h
  have hS : va_S A s.heap s.heap [] := va_S.rf
  have hP : va_P (dC, dI) vwCl [(h0, .inr (1, [.ref hk, .ref hb0, .ref ho])), (hb0, .inl (db, 8, .inl (fb))), (ho, .inl (dq, 8, .inl (fo)))] s.heap := hP
  have hl := lv_entry ([.ref h0]) (n := 2) (Nat.le_of_ble_eq_true rfl)
  rw [lg_entry_eq]
  generalize (lg_sl ([.ref h0]) ++ List.replicate (2 - (lg_sl ([.ref h0])).length) Slot.unset).toArray = ls at hl ⊢
  have hl : lv_has ls 2 [(0, .ref h0)] := hl
  have hP : va_P (dC, dI) vwCl [(h0, .inr (1, [.ref hk, .ref hb0, .ref ho])), (hb0, .inl (db, 8, .inl (sk_fill (fun j => nI (O j)) fb 0))), (ho, .inl (dq, 8, .inl (fo)))] s.heap := by rw [← sk_fill_0 (fun j => nI (O j)) fb]; exact hP
  have hD : va_D A [(h0, .inr (1, [.ref hk, .ref hb0, .ref ho])), (hb0, .inl (db, 8, .inl (sk_fill (fun j => nI (O j)) fb 0))), (ho, .inl (dq, 8, .inl (fo)))] := by rw [← sk_fill_0 (fun j => nI (O j)) fb]; exact hD
  refine lv_iconst (v := nI 0) hx hb dX1_again_0 (by decide) ?_
  refine lv_istore_n (lv' := [(1, .int (nI 0)), (0, .ref h0)]) hx hb dX1_again_1 rfl hl (by decide) rfl (fun ls hl => ?_)
  refine mod_again_lp h0 hk hb0 ho db dq fb fo O hx hb hown hts hK hO ?_ 8 0 (by decide) _ _ ls hP hD hS (lv_sub hl [1, 0] rfl)
  intro H locs ls hP hD hS hl
  have hP9 := hP.sub (ws' := [(h0, .inr (1, [.ref hk, .ref hb0, .ref ho])), (hb0, .inl (db, 8, .inl (sk_fill (fun j => nI (O j)) fb 8))), (ho, .inl (dq, 8, .inl (fo)))]) [0, 1, 2] rfl
  have hD9 := hD.sub (ws' := [(h0, .inr (1, [.ref hk, .ref hb0, .ref ho])), (hb0, .inl (db, 8, .inl (sk_fill (fun j => nI (O j)) fb 8))), (ho, .inl (dq, 8, .inl (fo)))]) [0, 1, 2] (by decide) rfl
  have hK9 := hK.sub (tys' := [(db, .int), (dq, .int)]) [0, 1] rfl
  exact W.vret hx hb hr (fun t ht hW => ⟨⟨(), rfl, trivial, by rw [ht]; exact hP9, va_K.moved hW.alike hK9, hD9⟩, hS.F ht⟩) hS.2.2 dX1_again_26
set_option maxHeartbeats 1000000 in
set_option maxRecDepth 100000 in
/-- SkipjackDeskModel.isRuleA -/
theorem mod_rule (l : Launch) (dC : Nat → ClassId) (dI : Nat → Nat → Nat) (sz : Nat) (k : Nat) (hk : k < 32) : Met l yX1_isRuleA (ws_ yX1_isRuleA cX1_isRuleA 1 (some .boolean)) ({ frames := 0, cells := 0, slots := 0, locals := 0 }) (va_Pc [.int (nI k)] (fun U => U.heap.size = sz ∧ va_P (dC, dI) vwCl [] U.heap ∧ va_K (dC, dI) vwCl [] U ∧ va_D (fun _ => True) [])) (va_Qi (fun (r : Int32) (_ : Unit) => r = if k / 8 % 2 = 0 then nI 1 else nI 0) (fun (_ : Unit) (t : State) => va_P (dC, dI) vwCl [] t.heap ∧ va_K (dC, dI) vwCl [] t ∧ va_D (va_A [] sz) []) (va_A [] sz)) 0 0 (va_A [] sz) := by
  refine Met.ofW (cc := cX1_isRuleA) (maxL := 1) (ret := (some .boolean)) (by decide) rfl ?_
  intro p e s m args below meth c s₁ BO hml hv
  obtain ⟨rfl, hsz, hP, hK, hD0⟩ := hv
  have hx := BO.exec
  have hb := BO.bytes
  have hr := BO.returns
  have hts := atoms_spec (ws := (ws_ yX1_isRuleA cX1_isRuleA 1 (some .boolean))) BO.pre
  have hts : ∀ w ∈ lw_all, w.before _ s = true := fun w h => hts w (List.mem_cons_of_mem _ h)
  have hown : s.vm.findClass RX1 = some m.cls := findClass_of_methodNamed BO.named
  have hlocks := BO.notSynchronized
  subst hsz
  have hD := hD0.self (sz := s.heap.size)
  generalize hAe : va_A [] s.heap.size = A at hD ⊢
  have hA : ∀ q : Nat, s.heap.size ≤ q → A q := fun q h => by rw [← hAe]; exact Or.inr h
  have hS : va_S A s.heap s.heap [] := va_S.rf
  have hP : va_P (dC, dI) vwCl [] s.heap := hP
  have hl := lv_entry ([.int (nI k)]) (n := 1) (Nat.le_of_ble_eq_true rfl)
  rw [lg_entry_eq]
  generalize (lg_sl ([.int (nI k)]) ++ List.replicate (1 - (lg_sl ([.int (nI k)])).length) Slot.unset).toArray = ls at hl ⊢
  have hl : lv_has ls 1 [(0, .int (nI k))] := hl
  refine lv_iload_n hx hb dX1_isRuleA_0 rfl (lv_at hl 0 rfl) ?_
  refine lv_bipush (v := nI 8) hx hb dX1_isRuleA_1 (by decide) ?_
  refine lv_idiv hx hb dX1_isRuleA_3 (by decide) ?_
  refine sk_top (y := nI (k / 8)) (pk_div (a := k) (d := 8) (by omega) (by decide) (by decide)) ?_
  refine lv_iconst (v := nI 2) hx hb dX1_isRuleA_4 (by decide) ?_
  refine lv_irem hx hb dX1_isRuleA_5 (by decide) ?_
  refine sk_top (y := nI (k / 8 % 2)) (pk_rem (a := k / 8) (d := 2) (by omega) (by decide) (by decide)) ?_
  refine lv_if_ne (tgt := 13) hx hb dX1_isRuleA_6 (by decide) (fun c9 => ?_) (fun c9 => ?_)
  · skip
    have hn : ¬ k / 8 % 2 = 0 := fun q => c9 (by rw [q]; decide)
    refine lv_iconst (v := nI 0) hx hb dX1_isRuleA_13 (by decide) ?_
    have hP9 := hP.sub (ws' := []) [] rfl
    have hD9 := hD.sub (ws' := []) [] (by decide) rfl
    have hK9 := hK.sub (tys' := []) [] rfl
    exact W.zret (v := nI 0) hx hb hr (by decide) (fun t ht hW => ⟨⟨nI 0, (), rfl, (if_neg hn).symm, by rw [ht]; exact hP9, va_K.moved hW.alike hK9, hD9⟩, hS.F ht⟩) hS.2.2 dX1_isRuleA_14
  · skip
    have hn : k / 8 % 2 = 0 := (nI_eq (a := k / 8 % 2) (b := 0) (by omega) (by decide)).mp (c9.trans nI_0.symm)
    refine lv_iconst (v := nI 1) hx hb dX1_isRuleA_9 (by decide) ?_
    refine lv_goto (tgt := 14) hx hb dX1_isRuleA_10 (by decide) ?_
    have hP9 := hP.sub (ws' := []) [] rfl
    have hD9 := hD.sub (ws' := []) [] (by decide) rfl
    have hK9 := hK.sub (tys' := []) [] rfl
    exact W.zret (v := nI 1) hx hb hr (by decide) (fun t ht hW => ⟨⟨nI 1, (), rfl, (if_pos hn).symm, by rw [ht]; exact hP9, va_K.moved hW.alike hK9, hD9⟩, hS.F ht⟩) hS.2.2 dX1_isRuleA_14
end
section
/-! SkipjackDeskModel: g, unG, words, lays -/
set_option maxHeartbeats 1000000 in
set_option maxRecDepth 100000 in
theorem mod_g_lp {p : Program} {l : Launch} {e : Env} {R : Room} {s : State} {m : MethodId} {args : Array Value} {below : List Frame} {meth : Method} {c : Code} {dC : Nat → ClassId} {dI : Nat → Nat → Nat} {A : Nat → Prop} {Q : State → Prop} {cells slots : Nat} (h0 hk hb0 ho : Nat) (dk : ClassId) (fk : Nat → Int32) (K : Nat → Nat) (tM w k : Nat) (hx : p.tables.exec = Jvm.exec) (hb : c.code = cX1_g) (hown : s.vm.findClass RX1 = some m.cls) (hts : ∀ w ∈ lw_all, w.before args s = true) (hK : va_K (dC, dI) vwCl [(dk, .int)] s) (hK0 : sk_K K) (hfk : ∀ j, j < 10 → fk j = nI (K j)) (hw0 : w < 65536) (hk0 : k < 32) (hT : sk_TM tM A s)
    (hend : ∀ (H : Heap) (locs : List Loc) (ls : Array Slot), va_P (dC, dI) vwCl [(h0, .inr (1, [.ref hk, .ref hb0, .ref ho])), (hk, .inl (dk, 32, .inl (fk)))] H → va_D A [(h0, .inr (1, [.ref hk, .ref hb0, .ref ho])), (hk, .inl (dk, 32, .inl (fk)))] → va_S A s.heap H locs → lv_has ls 7 [(0, .ref h0), (2, .int (nI k)), (3, .int (nI (sk_gp K k 4 (w / 256, w % 256)).1)), (4, .int (nI (sk_gp K k 4 (w / 256, w % 256)).2)), (5, .int (nI 4))] → W p l e R s m args below meth c H locs cells slots Q (F0 m 59 ls [])) :
    ∀ (cnt i : Nat), i + cnt = 4 → ∀ (H : Heap) (locs : List Loc) (ls : Array Slot), va_P (dC, dI) vwCl [(h0, .inr (1, [.ref hk, .ref hb0, .ref ho])), (hk, .inl (dk, 32, .inl (fk)))] H → va_D A [(h0, .inr (1, [.ref hk, .ref hb0, .ref ho])), (hk, .inl (dk, 32, .inl (fk)))] → va_S A s.heap H locs → lv_has ls 7 [(0, .ref h0), (2, .int (nI k)), (3, .int (nI (sk_gp K k i (w / 256, w % 256)).1)), (4, .int (nI (sk_gp K k i (w / 256, w % 256)).2)), (5, .int (nI i))] → W p l e R s m args below meth c H locs cells slots Q (F0 m 15 ls []) := by
  intro cnt
  induction cnt with
  | zero =>
    intro i hi H locs ls hP hD hS hl
    have hi : i = 4 := by omega
    subst hi
    refine lv_iload hx hb dX1_g_15 (lv_at hl 4 rfl) ?_
    refine lv_iconst (v := nI 4) hx hb dX1_g_17 (by decide) ?_
    refine sk_geY (tgt := 59) hx hb (Nat.le_refl 4) (by decide) dX1_g_18 (by decide) ?_
    exact hend H locs ls hP hD hS hl
  | succ cnt ih =>
    intro i hi H locs ls hP hD hS hl
    refine lv_iload hx hb dX1_g_15 (lv_at hl 4 rfl) ?_
    refine lv_iconst (v := nI 4) hx hb dX1_g_17 (by decide) ?_
    refine sk_geN (tgt := 59) hx hb (show i < 4 by omega) (by decide) dX1_g_18 (by decide) ?_
    have hb1 := sk_gp_lt hK0 k (p := (w / 256, w % 256)) (sk_hl hw0) i
    refine va_gets (C := "SkipjackDeskModel") (n := "F") (d := "[I") hx hb hT.1 hS hown (hts _ q319) (fun _ h9 => h9) dX1_g_21 ?_
    refine lv_iload hx hb dX1_g_24 (lv_at hl 3 rfl) ?_
    refine lv_aload_n hx hb dX1_g_26 rfl (lv_at hl 0 rfl) ?_
    refine va_get (D := (dC, dI)) (ci := 1) (v := .ref hk) (C := RX1) (T := TX1) (N := 3) hx hb hts in_X1 hown hK hP 0 rfl rfl 0 (by decide) (hts _ q286) (fun _ h9 => h9) rfl dX1_g_27 ?_
    refine lv_iconst (v := nI 4) hx hb dX1_g_30 (by decide) ?_
    refine lv_iload_n hx hb dX1_g_31 rfl (lv_at hl 1 rfl) ?_
    refine lv_imul hx hb dX1_g_32 ?_
    refine sk_top (y := nI (4 * k)) (pk_mul 4 k) ?_
    refine lv_iload hx hb dX1_g_33 (lv_at hl 4 rfl) ?_
    refine lv_iadd hx hb dX1_g_35 ?_
    refine sk_top (y := nI (4 * k + i)) (nI_add _ _) ?_
    refine lv_bipush (v := nI 10) hx hb dX1_g_36 (by decide) ?_
    refine lv_irem hx hb dX1_g_38 (by decide) ?_
    refine sk_top (y := nI ((4 * k + i) % 10)) (pk_rem (a := 4 * k + i) (d := 10) (by omega) (by decide) (by decide)) ?_
    refine sk_iald (k := (4 * k + i) % 10) hx hb hK hP 1 0 rfl rfl (Nat.lt_of_lt_of_le (Nat.mod_lt _ (by decide)) (by decide : 10 ≤ 32)) (by decide) dX1_g_39 ?_
    refine sk_top (y := nI (K ((4 * k + i) % 10))) (hfk _ (Nat.mod_lt _ (by decide))) ?_
    refine lv_ixor hx hb dX1_g_40 ?_
    refine sk_top (y := nI ((sk_gp K k i (w / 256, w % 256)).2 ^^^ K ((4 * k + i) % 10))) (nx_xor _ _) ?_
    refine sk_tn32 (f := fun j => nI (sk_F j)) (k := (sk_gp K k i (w / 256, w % 256)).2 ^^^ K ((4 * k + i) % 10)) hx hb hT.2 hS (sk_xor hb1.2 (hK0.at _)) dX1_g_41 ?_
    refine lv_iload_n hx hb dX1_g_42 rfl (lv_at hl 2 rfl) ?_
    refine lv_ixor hx hb dX1_g_43 ?_
    refine sk_top (y := nI (sk_gp K k (i + 1) (w / 256, w % 256)).2) (by rw [nx_xor]; rfl) ?_
    refine lv_istore (lv' := [(6, .int (nI (sk_gp K k (i + 1) (w / 256, w % 256)).2)), (0, .ref h0), (2, .int (nI k)), (3, .int (nI (sk_gp K k i (w / 256, w % 256)).1)), (4, .int (nI (sk_gp K k i (w / 256, w % 256)).2)), (5, .int (nI i))]) hx hb dX1_g_44 hl (by decide) rfl (fun ls hl => ?_)
    refine lv_iload hx hb dX1_g_46 (lv_at hl 4 rfl) ?_
    refine sk_top (y := nI (sk_gp K k (i + 1) (w / 256, w % 256)).1) (rfl) ?_
    refine lv_istore_n (lv' := [(3, .int (nI (sk_gp K k (i + 1) (w / 256, w % 256)).1)), (6, .int (nI (sk_gp K k (i + 1) (w / 256, w % 256)).2)), (0, .ref h0), (2, .int (nI k)), (4, .int (nI (sk_gp K k i (w / 256, w % 256)).2)), (5, .int (nI i))]) hx hb dX1_g_48 rfl hl (by decide) rfl (fun ls hl => ?_)
    refine lv_iload hx hb dX1_g_49 (lv_at hl 1 rfl) ?_
    refine lv_istore (lv' := [(4, .int (nI (sk_gp K k (i + 1) (w / 256, w % 256)).2)), (3, .int (nI (sk_gp K k (i + 1) (w / 256, w % 256)).1)), (6, .int (nI (sk_gp K k (i + 1) (w / 256, w % 256)).2)), (0, .ref h0), (2, .int (nI k)), (5, .int (nI i))]) hx hb dX1_g_51 hl (by decide) rfl (fun ls hl => ?_)
    refine lv_iinc (v := nI (i + 1)) (lv' := [(5, .int (nI (i + 1))), (4, .int (nI (sk_gp K k (i + 1) (w / 256, w % 256)).2)), (3, .int (nI (sk_gp K k (i + 1) (w / 256, w % 256)).1)), (6, .int (nI (sk_gp K k (i + 1) (w / 256, w % 256)).2)), (0, .ref h0), (2, .int (nI k))]) hx hb dX1_g_53 hl (k := 5) rfl (nI_1 i) (by decide) rfl (fun ls hl => ?_)
    refine lv_goto (tgt := 15) hx hb dX1_g_56 (by decide) ?_
    exact ih (i + 1) (by omega) H locs ls hP hD hS (lv_sub hl [4, 5, 2, 1, 0] rfl)
set_option maxHeartbeats 1000000 in
set_option maxRecDepth 100000 in
/-- SkipjackDeskModel.X1_g -/
theorem mod_g (l : Launch) (dC : Nat → ClassId) (dI : Nat → Nat → Nat) (sz : Nat) (h0 hk hb0 ho : Nat) (dk : ClassId) (fk : Nat → Int32) (K : Nat → Nat) (tM w k : Nat) (hK0 : sk_K K) (hfk : ∀ j, j < 10 → fk j = nI (K j)) (hw0 : w < 65536) (hk0 : k < 32) : Met l yX1_g (ws_ yX1_g cX1_g 7 (some .int)) ({ frames := 0, cells := 0, slots := 0, locals := 0 }) (va_Pc [.ref h0, .int (nI w), .int (nI k)] (fun U => U.heap.size = sz ∧ va_P (dC, dI) vwCl [(h0, .inr (1, [.ref hk, .ref hb0, .ref ho])), (hk, .inl (dk, 32, .inl (fk)))] U.heap ∧ va_K (dC, dI) vwCl [(dk, .int)] U ∧ va_D (fun _ => True) [(h0, .inr (1, [.ref hk, .ref hb0, .ref ho])), (hk, .inl (dk, 32, .inl (fk)))] ∧ sk_TM tM (va_A [(h0, .inr (1, [.ref hk, .ref hb0, .ref ho])), (hk, .inl (dk, 32, .inl (fk)))] sz) U)) (va_Qi (fun (r : Int32) (_ : Unit) => r = nI (sk_g K k w)) (fun (_ : Unit) (t : State) => va_P (dC, dI) vwCl [(h0, .inr (1, [.ref hk, .ref hb0, .ref ho])), (hk, .inl (dk, 32, .inl (fk)))] t.heap ∧ va_K (dC, dI) vwCl [(dk, .int)] t ∧ va_D (va_A [(h0, .inr (1, [.ref hk, .ref hb0, .ref ho])), (hk, .inl (dk, 32, .inl (fk)))] sz) [(h0, .inr (1, [.ref hk, .ref hb0, .ref ho])), (hk, .inl (dk, 32, .inl (fk)))]) (va_A [(h0, .inr (1, [.ref hk, .ref hb0, .ref ho])), (hk, .inl (dk, 32, .inl (fk)))] sz)) 0 0 (va_A [(h0, .inr (1, [.ref hk, .ref hb0, .ref ho])), (hk, .inl (dk, 32, .inl (fk)))] sz) := by
  refine Met.ofW (cc := cX1_g) (maxL := 7) (ret := (some .int)) (by decide) rfl ?_
  intro p e s m args below meth c s₁ BO hml hv
  obtain ⟨rfl, hsz, hP, hK, hD0, hT⟩ := hv
  have hx := BO.exec
  have hb := BO.bytes
  have hr := BO.returns
  have hts := atoms_spec (ws := (ws_ yX1_g cX1_g 7 (some .int))) BO.pre
  have hts : ∀ w ∈ lw_all, w.before _ s = true := fun w h => hts w (List.mem_cons_of_mem _ h)
  have hown : s.vm.findClass RX1 = some m.cls := findClass_of_methodNamed BO.named
  have hlocks := BO.notSynchronized
  subst hsz
  have hD := hD0.self (sz := s.heap.size)
  generalize hAe : va_A [(h0, .inr (1, [.ref hk, .ref hb0, .ref ho])), (hk, .inl (dk, 32, .inl (fk)))] s.heap.size = A at hD hT ⊢
  have hA : ∀ q : Nat, s.heap.size ≤ q → A q := fun q h => by rw [← hAe]; exact Or.inr h
  have hS : va_S A s.heap s.heap [] := va_S.rf
  have hP : va_P (dC, dI) vwCl [(h0, .inr (1, [.ref hk, .ref hb0, .ref ho])), (hk, .inl (dk, 32, .inl (fk)))] s.heap := hP
  have hl := lv_entry ([.ref h0, .int (nI w), .int (nI k)]) (n := 7) (Nat.le_of_ble_eq_true rfl)
  rw [lg_entry_eq]
  generalize (lg_sl ([.ref h0, .int (nI w), .int (nI k)]) ++ List.replicate (7 - (lg_sl ([.ref h0, .int (nI w), .int (nI k)])).length) Slot.unset).toArray = ls at hl ⊢
  have hl : lv_has ls 7 [(0, .ref h0), (1, .int (nI w)), (2, .int (nI k))] := hl
  refine lv_iload_n hx hb dX1_g_0 rfl (lv_at hl 1 rfl) ?_
  refine lv_bipush (v := nI 8) hx hb dX1_g_1 (by decide) ?_
  refine lv_ishr hx hb dX1_g_3 ?_
  refine sk_top (y := nI (sk_gp K k 0 (w / 256, w % 256)).1) (sk_shr8 hw0) ?_
  refine lv_istore_n (lv' := [(3, .int (nI (sk_gp K k 0 (w / 256, w % 256)).1)), (0, .ref h0), (1, .int (nI w)), (2, .int (nI k))]) hx hb dX1_g_4 rfl hl (by decide) rfl (fun ls hl => ?_)
  refine lv_iload_n hx hb dX1_g_5 rfl (lv_at hl 2 rfl) ?_
  refine lv_sipush (v := nI 255) hx hb dX1_g_6 (by decide) ?_
  refine lv_iand hx hb dX1_g_9 ?_
  refine sk_top (y := nI (sk_gp K k 0 (w / 256, w % 256)).2) (sk_and8 hw0) ?_
  refine lv_istore (lv' := [(4, .int (nI (sk_gp K k 0 (w / 256, w % 256)).2)), (3, .int (nI (sk_gp K k 0 (w / 256, w % 256)).1)), (0, .ref h0), (1, .int (nI w)), (2, .int (nI k))]) hx hb dX1_g_10 hl (by decide) rfl (fun ls hl => ?_)
  refine lv_iconst (v := nI 0) hx hb dX1_g_12 (by decide) ?_
  refine lv_istore (lv' := [(5, .int (nI 0)), (4, .int (nI (sk_gp K k 0 (w / 256, w % 256)).2)), (3, .int (nI (sk_gp K k 0 (w / 256, w % 256)).1)), (0, .ref h0), (1, .int (nI w)), (2, .int (nI k))]) hx hb dX1_g_13 hl (by decide) rfl (fun ls hl => ?_)
  refine mod_g_lp h0 hk hb0 ho dk fk K tM w k hx hb hown hts hK hK0 hfk hw0 hk0 hT ?_ 4 0 (by decide) _ _ ls hP hD hS (lv_sub hl [3, 5, 2, 1, 0] rfl)
  intro H locs ls hP hD hS hl
  have hb1 := sk_gp_lt hK0 k (p := (w / 256, w % 256)) (sk_hl hw0) 4
  refine lv_iload_n hx hb dX1_g_59 rfl (lv_at hl 2 rfl) ?_
  refine lv_bipush (v := nI 8) hx hb dX1_g_60 (by decide) ?_
  refine lv_ishl hx hb dX1_g_62 ?_
  refine lv_iload hx hb dX1_g_63 (lv_at hl 3 rfl) ?_
  refine lv_ior hx hb dX1_g_65 ?_
  refine sk_top (y := nI (sk_g K k w)) (by rw [sk_cat hb1.1 hb1.2]; rfl) ?_
  have hP9 := hP.sub (ws' := [(h0, .inr (1, [.ref hk, .ref hb0, .ref ho])), (hk, .inl (dk, 32, .inl (fk)))]) [0, 1] rfl
  have hD9 := hD.sub (ws' := [(h0, .inr (1, [.ref hk, .ref hb0, .ref ho])), (hk, .inl (dk, 32, .inl (fk)))]) [0, 1] (by decide) rfl
  have hK9 := hK.sub (tys' := [(dk, .int)]) [0] rfl
  exact W.iret (v := nI (sk_g K k w)) hx hb hr (fun t ht hW => ⟨⟨nI (sk_g K k w), (), rfl, rfl, by rw [ht]; exact hP9, va_K.moved hW.alike hK9, hD9⟩, hS.F ht⟩) hS.2.2 dX1_g_66
set_option maxHeartbeats 1000000 in
set_option maxRecDepth 100000 in
theorem mod_unG_lp {p : Program} {l : Launch} {e : Env} {R : Room} {s : State} {m : MethodId} {args : Array Value} {below : List Frame} {meth : Method} {c : Code} {dC : Nat → ClassId} {dI : Nat → Nat → Nat} {A : Nat → Prop} {Q : State → Prop} {cells slots : Nat} (h0 hk hb0 ho : Nat) (dk : ClassId) (fk : Nat → Int32) (K : Nat → Nat) (tM w k : Nat) (hx : p.tables.exec = Jvm.exec) (hb : c.code = cX1_unG) (hown : s.vm.findClass RX1 = some m.cls) (hts : ∀ w ∈ lw_all, w.before args s = true) (hK : va_K (dC, dI) vwCl [(dk, .int)] s) (hK0 : sk_K K) (hfk : ∀ j, j < 10 → fk j = nI (K j)) (hw0 : w < 65536) (hk0 : k < 32) (hT : sk_TM tM A s)
    (hend : ∀ (H : Heap) (locs : List Loc) (ls : Array Slot), va_P (dC, dI) vwCl [(h0, .inr (1, [.ref hk, .ref hb0, .ref ho])), (hk, .inl (dk, 32, .inl (fk)))] H → va_D A [(h0, .inr (1, [.ref hk, .ref hb0, .ref ho])), (hk, .inl (dk, 32, .inl (fk)))] → va_S A s.heap H locs → lv_has ls 7 [(0, .ref h0), (2, .int (nI k)), (3, .int (nI (sk_hp K k 4 (w / 256, w % 256)).1)), (4, .int (nI (sk_hp K k 4 (w / 256, w % 256)).2)), (5, .int (nI (4 - 4) - 1))] → W p l e R s m args below meth c H locs cells slots Q (F0 m 57 ls [])) :
    ∀ (cnt i : Nat), i + cnt = 4 → ∀ (H : Heap) (locs : List Loc) (ls : Array Slot), va_P (dC, dI) vwCl [(h0, .inr (1, [.ref hk, .ref hb0, .ref ho])), (hk, .inl (dk, 32, .inl (fk)))] H → va_D A [(h0, .inr (1, [.ref hk, .ref hb0, .ref ho])), (hk, .inl (dk, 32, .inl (fk)))] → va_S A s.heap H locs → lv_has ls 7 [(0, .ref h0), (2, .int (nI k)), (3, .int (nI (sk_hp K k i (w / 256, w % 256)).1)), (4, .int (nI (sk_hp K k i (w / 256, w % 256)).2)), (5, .int (nI (4 - i) - 1))] → W p l e R s m args below meth c H locs cells slots Q (F0 m 15 ls []) := by
  intro cnt
  induction cnt with
  | zero =>
    intro i hi H locs ls hP hD hS hl
    have hi : i = 4 := by omega
    subst hi
    have e5 : nI (4 - 4) - 1 = -1 := by decide
    rw [e5] at hl
    refine lv_iload hx hb dX1_unG_15 (lv_at hl 4 rfl) ?_
    refine sk_ltY (tgt := 57) hx hb dX1_unG_17 (by decide) ?_
    rw [← e5] at hl
    exact hend H locs ls hP hD hS hl
  | succ cnt ih =>
    intro i hi H locs ls hP hD hS hl
    have e5 : nI (4 - i) - 1 = nI (3 - i) := by rw [show 4 - i = (3 - i) + 1 by omega]; exact nI_pred _
    rw [e5] at hl
    refine lv_iload hx hb dX1_unG_15 (lv_at hl 4 rfl) ?_
    refine sk_ltN (tgt := 57) hx hb (show 3 - i < 2 ^ 31 by omega) dX1_unG_17 (by decide) ?_
    have hb1 := sk_hp_lt hK0 k (p := (w / 256, w % 256)) (sk_hl hw0) i
    refine va_gets (C := "SkipjackDeskModel") (n := "F") (d := "[I") hx hb hT.1 hS hown (hts _ q319) (fun _ h9 => h9) dX1_unG_20 ?_
    refine lv_iload_n hx hb dX1_unG_23 rfl (lv_at hl 2 rfl) ?_
    refine lv_aload_n hx hb dX1_unG_24 rfl (lv_at hl 0 rfl) ?_
    refine va_get (D := (dC, dI)) (ci := 1) (v := .ref hk) (C := RX1) (T := TX1) (N := 3) hx hb hts in_X1 hown hK hP 0 rfl rfl 0 (by decide) (hts _ q286) (fun _ h9 => h9) rfl dX1_unG_25 ?_
    refine lv_iconst (v := nI 4) hx hb dX1_unG_28 (by decide) ?_
    refine lv_iload_n hx hb dX1_unG_29 rfl (lv_at hl 1 rfl) ?_
    refine lv_imul hx hb dX1_unG_30 ?_
    refine sk_top (y := nI (4 * k)) (pk_mul 4 k) ?_
    refine lv_iload hx hb dX1_unG_31 (lv_at hl 4 rfl) ?_
    refine lv_iadd hx hb dX1_unG_33 ?_
    refine sk_top (y := nI (4 * k + (3 - i))) (nI_add _ _) ?_
    refine lv_bipush (v := nI 10) hx hb dX1_unG_34 (by decide) ?_
    refine lv_irem hx hb dX1_unG_36 (by decide) ?_
    refine sk_top (y := nI ((4 * k + (3 - i)) % 10)) (pk_rem (a := 4 * k + (3 - i)) (d := 10) (by omega) (by decide) (by decide)) ?_
    refine sk_iald (k := (4 * k + (3 - i)) % 10) hx hb hK hP 1 0 rfl rfl (Nat.lt_of_lt_of_le (Nat.mod_lt _ (by decide)) (by decide : 10 ≤ 32)) (by decide) dX1_unG_37 ?_
    refine sk_top (y := nI (K ((4 * k + (3 - i)) % 10))) (hfk _ (Nat.mod_lt _ (by decide))) ?_
    refine lv_ixor hx hb dX1_unG_38 ?_
    refine sk_top (y := nI ((sk_hp K k i (w / 256, w % 256)).1 ^^^ K ((4 * k + (3 - i)) % 10))) (nx_xor _ _) ?_
    refine sk_tn32 (f := fun j => nI (sk_F j)) (k := (sk_hp K k i (w / 256, w % 256)).1 ^^^ K ((4 * k + (3 - i)) % 10)) hx hb hT.2 hS (sk_xor hb1.1 (hK0.at _)) dX1_unG_39 ?_
    refine lv_iload hx hb dX1_unG_40 (lv_at hl 3 rfl) ?_
    refine lv_ixor hx hb dX1_unG_42 ?_
    refine sk_top (y := nI (sk_hp K k (i + 1) (w / 256, w % 256)).1) (by rw [nx_xor]; rfl) ?_
    refine lv_istore (lv' := [(6, .int (nI (sk_hp K k (i + 1) (w / 256, w % 256)).1)), (0, .ref h0), (2, .int (nI k)), (3, .int (nI (sk_hp K k i (w / 256, w % 256)).1)), (4, .int (nI (sk_hp K k i (w / 256, w % 256)).2)), (5, .int (nI (3 - i)))]) hx hb dX1_unG_43 hl (by decide) rfl (fun ls hl => ?_)
    refine lv_iload_n hx hb dX1_unG_45 rfl (lv_at hl 3 rfl) ?_
    refine sk_top (y := nI (sk_hp K k (i + 1) (w / 256, w % 256)).2) (rfl) ?_
    refine lv_istore (lv' := [(4, .int (nI (sk_hp K k (i + 1) (w / 256, w % 256)).2)), (6, .int (nI (sk_hp K k (i + 1) (w / 256, w % 256)).1)), (0, .ref h0), (2, .int (nI k)), (3, .int (nI (sk_hp K k i (w / 256, w % 256)).1)), (5, .int (nI (3 - i)))]) hx hb dX1_unG_46 hl (by decide) rfl (fun ls hl => ?_)
    refine lv_iload hx hb dX1_unG_48 (lv_at hl 1 rfl) ?_
    refine lv_istore_n (lv' := [(3, .int (nI (sk_hp K k (i + 1) (w / 256, w % 256)).1)), (4, .int (nI (sk_hp K k (i + 1) (w / 256, w % 256)).2)), (6, .int (nI (sk_hp K k (i + 1) (w / 256, w % 256)).1)), (0, .ref h0), (2, .int (nI k)), (5, .int (nI (3 - i)))]) hx hb dX1_unG_50 rfl hl (by decide) rfl (fun ls hl => ?_)
    refine lv_iinc (v := nI (4 - (i + 1)) - 1) (lv' := [(5, .int (nI (4 - (i + 1)) - 1)), (3, .int (nI (sk_hp K k (i + 1) (w / 256, w % 256)).1)), (4, .int (nI (sk_hp K k (i + 1) (w / 256, w % 256)).2)), (6, .int (nI (sk_hp K k (i + 1) (w / 256, w % 256)).1)), (0, .ref h0), (2, .int (nI k))]) hx hb dX1_unG_51 hl (k := 5) rfl ((by rw [show 4 - (i + 1) = 3 - i by omega]; exact sk_dec1 _)) (by decide) rfl (fun ls hl => ?_)
    refine lv_goto (tgt := 15) hx hb dX1_unG_54 (by decide) ?_
    exact ih (i + 1) (by omega) H locs ls hP hD hS (lv_sub hl [4, 5, 1, 2, 0] rfl)
set_option maxHeartbeats 1000000 in
set_option maxRecDepth 100000 in
/-- SkipjackDeskModel.X1_unG -/
theorem mod_unG (l : Launch) (dC : Nat → ClassId) (dI : Nat → Nat → Nat) (sz : Nat) (h0 hk hb0 ho : Nat) (dk : ClassId) (fk : Nat → Int32) (K : Nat → Nat) (tM w k : Nat) (hK0 : sk_K K) (hfk : ∀ j, j < 10 → fk j = nI (K j)) (hw0 : w < 65536) (hk0 : k < 32) : Met l yX1_unG (ws_ yX1_unG cX1_unG 7 (some .int)) ({ frames := 0, cells := 0, slots := 0, locals := 0 }) (va_Pc [.ref h0, .int (nI w), .int (nI k)] (fun U => U.heap.size = sz ∧ va_P (dC, dI) vwCl [(h0, .inr (1, [.ref hk, .ref hb0, .ref ho])), (hk, .inl (dk, 32, .inl (fk)))] U.heap ∧ va_K (dC, dI) vwCl [(dk, .int)] U ∧ va_D (fun _ => True) [(h0, .inr (1, [.ref hk, .ref hb0, .ref ho])), (hk, .inl (dk, 32, .inl (fk)))] ∧ sk_TM tM (va_A [(h0, .inr (1, [.ref hk, .ref hb0, .ref ho])), (hk, .inl (dk, 32, .inl (fk)))] sz) U)) (va_Qi (fun (r : Int32) (_ : Unit) => r = nI (sk_h K k w)) (fun (_ : Unit) (t : State) => va_P (dC, dI) vwCl [(h0, .inr (1, [.ref hk, .ref hb0, .ref ho])), (hk, .inl (dk, 32, .inl (fk)))] t.heap ∧ va_K (dC, dI) vwCl [(dk, .int)] t ∧ va_D (va_A [(h0, .inr (1, [.ref hk, .ref hb0, .ref ho])), (hk, .inl (dk, 32, .inl (fk)))] sz) [(h0, .inr (1, [.ref hk, .ref hb0, .ref ho])), (hk, .inl (dk, 32, .inl (fk)))]) (va_A [(h0, .inr (1, [.ref hk, .ref hb0, .ref ho])), (hk, .inl (dk, 32, .inl (fk)))] sz)) 0 0 (va_A [(h0, .inr (1, [.ref hk, .ref hb0, .ref ho])), (hk, .inl (dk, 32, .inl (fk)))] sz) := by
  refine Met.ofW (cc := cX1_unG) (maxL := 7) (ret := (some .int)) (by decide) rfl ?_
  intro p e s m args below meth c s₁ BO hml hv
  obtain ⟨rfl, hsz, hP, hK, hD0, hT⟩ := hv
  have hx := BO.exec
  have hb := BO.bytes
  have hr := BO.returns
  have hts := atoms_spec (ws := (ws_ yX1_unG cX1_unG 7 (some .int))) BO.pre
  have hts : ∀ w ∈ lw_all, w.before _ s = true := fun w h => hts w (List.mem_cons_of_mem _ h)
  have hown : s.vm.findClass RX1 = some m.cls := findClass_of_methodNamed BO.named
  have hlocks := BO.notSynchronized
  subst hsz
  have hD := hD0.self (sz := s.heap.size)
  generalize hAe : va_A [(h0, .inr (1, [.ref hk, .ref hb0, .ref ho])), (hk, .inl (dk, 32, .inl (fk)))] s.heap.size = A at hD hT ⊢
  have hA : ∀ q : Nat, s.heap.size ≤ q → A q := fun q h => by rw [← hAe]; exact Or.inr h
  have hS : va_S A s.heap s.heap [] := va_S.rf
  have hP : va_P (dC, dI) vwCl [(h0, .inr (1, [.ref hk, .ref hb0, .ref ho])), (hk, .inl (dk, 32, .inl (fk)))] s.heap := hP
  have hl := lv_entry ([.ref h0, .int (nI w), .int (nI k)]) (n := 7) (Nat.le_of_ble_eq_true rfl)
  rw [lg_entry_eq]
  generalize (lg_sl ([.ref h0, .int (nI w), .int (nI k)]) ++ List.replicate (7 - (lg_sl ([.ref h0, .int (nI w), .int (nI k)])).length) Slot.unset).toArray = ls at hl ⊢
  have hl : lv_has ls 7 [(0, .ref h0), (1, .int (nI w)), (2, .int (nI k))] := hl
  refine lv_iload_n hx hb dX1_unG_0 rfl (lv_at hl 1 rfl) ?_
  refine lv_bipush (v := nI 8) hx hb dX1_unG_1 (by decide) ?_
  refine lv_ishr hx hb dX1_unG_3 ?_
  refine sk_top (y := nI (sk_hp K k 0 (w / 256, w % 256)).1) (sk_shr8 hw0) ?_
  refine lv_istore_n (lv' := [(3, .int (nI (sk_hp K k 0 (w / 256, w % 256)).1)), (0, .ref h0), (1, .int (nI w)), (2, .int (nI k))]) hx hb dX1_unG_4 rfl hl (by decide) rfl (fun ls hl => ?_)
  refine lv_iload_n hx hb dX1_unG_5 rfl (lv_at hl 2 rfl) ?_
  refine lv_sipush (v := nI 255) hx hb dX1_unG_6 (by decide) ?_
  refine lv_iand hx hb dX1_unG_9 ?_
  refine sk_top (y := nI (sk_hp K k 0 (w / 256, w % 256)).2) (sk_and8 hw0) ?_
  refine lv_istore (lv' := [(4, .int (nI (sk_hp K k 0 (w / 256, w % 256)).2)), (3, .int (nI (sk_hp K k 0 (w / 256, w % 256)).1)), (0, .ref h0), (1, .int (nI w)), (2, .int (nI k))]) hx hb dX1_unG_10 hl (by decide) rfl (fun ls hl => ?_)
  refine lv_iconst (v := nI 3) hx hb dX1_unG_12 (by decide) ?_
  refine sk_top (y := nI (4 - 0) - 1) (by decide) ?_
  refine lv_istore (lv' := [(5, .int (nI (4 - 0) - 1)), (4, .int (nI (sk_hp K k 0 (w / 256, w % 256)).2)), (3, .int (nI (sk_hp K k 0 (w / 256, w % 256)).1)), (0, .ref h0), (1, .int (nI w)), (2, .int (nI k))]) hx hb dX1_unG_13 hl (by decide) rfl (fun ls hl => ?_)
  refine mod_unG_lp h0 hk hb0 ho dk fk K tM w k hx hb hown hts hK hK0 hfk hw0 hk0 hT ?_ 4 0 (by decide) _ _ ls hP hD hS (lv_sub hl [3, 5, 2, 1, 0] rfl)
  intro H locs ls hP hD hS hl
  have hb1 := sk_hp_lt hK0 k (p := (w / 256, w % 256)) (sk_hl hw0) 4
  refine lv_iload_n hx hb dX1_unG_57 rfl (lv_at hl 2 rfl) ?_
  refine lv_bipush (v := nI 8) hx hb dX1_unG_58 (by decide) ?_
  refine lv_ishl hx hb dX1_unG_60 ?_
  refine lv_iload hx hb dX1_unG_61 (lv_at hl 3 rfl) ?_
  refine lv_ior hx hb dX1_unG_63 ?_
  refine sk_top (y := nI (sk_h K k w)) (by rw [sk_cat hb1.1 hb1.2]; rfl) ?_
  have hP9 := hP.sub (ws' := [(h0, .inr (1, [.ref hk, .ref hb0, .ref ho])), (hk, .inl (dk, 32, .inl (fk)))]) [0, 1] rfl
  have hD9 := hD.sub (ws' := [(h0, .inr (1, [.ref hk, .ref hb0, .ref ho])), (hk, .inl (dk, 32, .inl (fk)))]) [0, 1] (by decide) rfl
  have hK9 := hK.sub (tys' := [(dk, .int)]) [0] rfl
  exact W.iret (v := nI (sk_h K k w)) hx hb hr (fun t ht hW => ⟨⟨nI (sk_h K k w), (), rfl, rfl, by rw [ht]; exact hP9, va_K.moved hW.alike hK9, hD9⟩, hS.F ht⟩) hS.2.2 dX1_unG_64
set_option maxHeartbeats 1000000 in
set_option maxRecDepth 100000 in
theorem mod_words_lp {p : Program} {l : Launch} {e : Env} {R : Room} {s : State} {m : MethodId} {args : Array Value} {below : List Frame} {meth : Method} {c : Code} {dC : Nat → ClassId} {dI : Nat → Nat → Nat} {A : Nat → Prop} {Q : State → Prop} {cells slots : Nat} (h0 hk hb0 ho q : Nat) (db d1 : ClassId) (fb : Nat → Int32) (B : Nat → Nat) (hx : p.tables.exec = Jvm.exec) (hb : c.code = cX1_words) (hown : s.vm.findClass RX1 = some m.cls) (hts : ∀ w ∈ lw_all, w.before args s = true) (hK : va_K (dC, dI) vwCl [(db, .int), (d1, .int)] s) (hB : sk_B B) (hfb : ∀ j, j < 8 → fb j = nI (B j))
    (hend : ∀ (H : Heap) (locs : List Loc) (ls : Array Slot), va_P (dC, dI) vwCl [(h0, .inr (1, [.ref hk, .ref hb0, .ref ho])), (hb0, .inl (db, 8, .inl (fb))), (q, .inl (d1, 4, .inl (sk_fill (fun j => nI (sk_wi (sk_wd B) j)) (fun _ => 0) 4)))] H → va_D A [(h0, .inr (1, [.ref hk, .ref hb0, .ref ho])), (hb0, .inl (db, 8, .inl (fb))), (q, .inl (d1, 4, .inl (sk_fill (fun j => nI (sk_wi (sk_wd B) j)) (fun _ => 0) 4)))] → va_S A s.heap H locs → lv_has ls 3 [(0, .ref h0), (1, .ref q), (2, .int (nI 4))] → W p l e R s m args below meth c H locs cells slots Q (F0 m 42 ls [])) :
    ∀ (cnt i : Nat), i + cnt = 4 → ∀ (H : Heap) (locs : List Loc) (ls : Array Slot), va_P (dC, dI) vwCl [(h0, .inr (1, [.ref hk, .ref hb0, .ref ho])), (hb0, .inl (db, 8, .inl (fb))), (q, .inl (d1, 4, .inl (sk_fill (fun j => nI (sk_wi (sk_wd B) j)) (fun _ => 0) i)))] H → va_D A [(h0, .inr (1, [.ref hk, .ref hb0, .ref ho])), (hb0, .inl (db, 8, .inl (fb))), (q, .inl (d1, 4, .inl (sk_fill (fun j => nI (sk_wi (sk_wd B) j)) (fun _ => 0) i)))] → va_S A s.heap H locs → lv_has ls 3 [(0, .ref h0), (1, .ref q), (2, .int (nI i))] → W p l e R s m args below meth c H locs cells slots Q (F0 m 6 ls []) := by
  intro cnt
  induction cnt with
  | zero =>
    intro i hi H locs ls hP hD hS hl
    have hi : i = 4 := by omega
    subst hi
    refine lv_iload_n hx hb dX1_words_6 rfl (lv_at hl 2 rfl) ?_
    refine lv_iconst (v := nI 4) hx hb dX1_words_7 (by decide) ?_
    refine sk_geY (tgt := 42) hx hb (Nat.le_refl 4) (by decide) dX1_words_8 (by decide) ?_
    exact hend H locs ls hP hD hS hl
  | succ cnt ih =>
    intro i hi H locs ls hP hD hS hl
    refine lv_iload_n hx hb dX1_words_6 rfl (lv_at hl 2 rfl) ?_
    refine lv_iconst (v := nI 4) hx hb dX1_words_7 (by decide) ?_
    refine sk_geN (tgt := 42) hx hb (show i < 4 by omega) (by decide) dX1_words_8 (by decide) ?_
    refine lv_aload_n hx hb dX1_words_11 rfl (lv_at hl 1 rfl) ?_
    refine lv_iload_n hx hb dX1_words_12 rfl (lv_at hl 2 rfl) ?_
    refine lv_aload_n hx hb dX1_words_13 rfl (lv_at hl 0 rfl) ?_
    refine va_get (D := (dC, dI)) (ci := 1) (v := .ref hb0) (C := RX1) (T := TX1) (N := 3) hx hb hts in_X1 hown hK hP 0 rfl rfl 1 (by decide) (hts _ q287) (fun _ h9 => h9) rfl dX1_words_14 ?_
    refine lv_iconst (v := nI 2) hx hb dX1_words_17 (by decide) ?_
    refine lv_iload_n hx hb dX1_words_18 rfl (lv_at hl 2 rfl) ?_
    refine lv_imul hx hb dX1_words_19 ?_
    refine sk_top (y := nI (2 * i)) (pk_mul 2 i) ?_
    refine sk_iald (k := 2 * i) hx hb hK hP 1 0 rfl rfl (by omega) (by decide) dX1_words_20 ?_
    refine sk_top (y := nI (B (2 * i))) (hfb _ (by omega)) ?_
    refine lv_bipush (v := nI 8) hx hb dX1_words_21 (by decide) ?_
    refine lv_ishl hx hb dX1_words_23 ?_
    refine lv_aload_n hx hb dX1_words_24 rfl (lv_at hl 0 rfl) ?_
    refine va_get (D := (dC, dI)) (ci := 1) (v := .ref hb0) (C := RX1) (T := TX1) (N := 3) hx hb hts in_X1 hown hK hP 0 rfl rfl 1 (by decide) (hts _ q287) (fun _ h9 => h9) rfl dX1_words_25 ?_
    refine lv_iconst (v := nI 2) hx hb dX1_words_28 (by decide) ?_
    refine lv_iload_n hx hb dX1_words_29 rfl (lv_at hl 2 rfl) ?_
    refine lv_imul hx hb dX1_words_30 ?_
    refine sk_top (y := nI (2 * i)) (pk_mul 2 i) ?_
    refine lv_iconst (v := nI 1) hx hb dX1_words_31 (by decide) ?_
    refine lv_iadd hx hb dX1_words_32 ?_
    refine sk_top (y := nI (2 * i + 1)) (nI_add _ 1) ?_
    refine sk_iald (k := 2 * i + 1) hx hb hK hP 1 0 rfl rfl (by omega) (by decide) dX1_words_33 ?_
    refine sk_top (y := nI (B (2 * i + 1))) (hfb _ (by omega)) ?_
    refine lv_ior hx hb dX1_words_34 ?_
    refine sk_top (y := nI (sk_wi (sk_wd B) i)) (by rw [sk_cat (hB _ (by omega)) (hB _ (by omega)), sk_wd_i B (by omega)]) ?_
    refine sk_iast (k := i) hx hb hK hP hD hS 2 1 rfl rfl (by omega) (by decide) dX1_words_35 (fun H locs hP hD hS => ?_)
    have hP : va_P (dC, dI) vwCl [(h0, .inr (1, [.ref hk, .ref hb0, .ref ho])), (hb0, .inl (db, 8, .inl (fb))), (q, .inl (d1, 4, .inl (upd (sk_fill (fun j => nI (sk_wi (sk_wd B) j)) (fun _ => 0) i) i (nI (sk_wi (sk_wd B) i)))))] H := hP
    have hD : va_D A [(h0, .inr (1, [.ref hk, .ref hb0, .ref ho])), (hb0, .inl (db, 8, .inl (fb))), (q, .inl (d1, 4, .inl (upd (sk_fill (fun j => nI (sk_wi (sk_wd B) j)) (fun _ => 0) i) i (nI (sk_wi (sk_wd B) i)))))] := hD
    have hP : va_P (dC, dI) vwCl [(h0, .inr (1, [.ref hk, .ref hb0, .ref ho])), (hb0, .inl (db, 8, .inl (fb))), (q, .inl (d1, 4, .inl (sk_fill (fun j => nI (sk_wi (sk_wd B) j)) (fun _ => 0) (i + 1))))] H := by rw [sk_fill_s (fun j => nI (sk_wi (sk_wd B) j)) (fun _ => 0) i rfl] at hP; exact hP
    have hD : va_D A [(h0, .inr (1, [.ref hk, .ref hb0, .ref ho])), (hb0, .inl (db, 8, .inl (fb))), (q, .inl (d1, 4, .inl (sk_fill (fun j => nI (sk_wi (sk_wd B) j)) (fun _ => 0) (i + 1))))] := by rw [sk_fill_s (fun j => nI (sk_wi (sk_wd B) j)) (fun _ => 0) i rfl] at hD; exact hD
    refine lv_iinc (v := nI (i + 1)) (lv' := [(2, .int (nI (i + 1))), (0, .ref h0), (1, .ref q)]) hx hb dX1_words_36 hl (k := 2) rfl (nI_1 i) (by decide) rfl (fun ls hl => ?_)
    refine lv_goto (tgt := 6) hx hb dX1_words_39 (by decide) ?_
    exact ih (i + 1) (by omega) H locs ls hP hD hS (lv_sub hl [1, 2, 0] rfl)
set_option maxHeartbeats 1000000 in
set_option maxRecDepth 100000 in
/-- SkipjackDeskModel.words -/
theorem mod_words (l : Launch) (dC : Nat → ClassId) (dI : Nat → Nat → Nat) (sz : Nat) (h0 hk hb0 ho : Nat) (db : ClassId) (fb : Nat → Int32) (B : Nat → Nat) (hB : sk_B B) (hfb : ∀ j, j < 8 → fb j = nI (B j)) : Met l yX1_words (ws_ yX1_words cX1_words 3 (some (.array .int))) ({ frames := 0, cells := 1, slots := 4, locals := 0 }) (va_Pc [.ref h0] (fun U => U.heap.size = sz ∧ va_P (dC, dI) vwCl [(h0, .inr (1, [.ref hk, .ref hb0, .ref ho])), (hb0, .inl (db, 8, .inl (fb)))] U.heap ∧ va_K (dC, dI) vwCl [(db, .int)] U ∧ va_D (fun _ => True) [(h0, .inr (1, [.ref hk, .ref hb0, .ref ho])), (hb0, .inl (db, 8, .inl (fb)))])) (va_Qr (fun (_ : Unit) => True) (fun (_ : Unit) (q : Nat) (t : State) => ∃ (d1 : ClassId), va_P (dC, dI) vwCl [(h0, .inr (1, [.ref hk, .ref hb0, .ref ho])), (hb0, .inl (db, 8, .inl (fb))), (q, .inl (d1, 4, .inl (sk_fill (fun j => nI (sk_wi (sk_wd B) j)) (fun _ => 0) 4)))] t.heap ∧ va_K (dC, dI) vwCl [(db, .int), (d1, .int)] t ∧ va_D (va_A [(h0, .inr (1, [.ref hk, .ref hb0, .ref ho])), (hb0, .inl (db, 8, .inl (fb)))] sz) [(h0, .inr (1, [.ref hk, .ref hb0, .ref ho])), (hb0, .inl (db, 8, .inl (fb))), (q, .inl (d1, 4, .inl (sk_fill (fun j => nI (sk_wi (sk_wd B) j)) (fun _ => 0) 4)))]) (va_A [(h0, .inr (1, [.ref hk, .ref hb0, .ref ho])), (hb0, .inl (db, 8, .inl (fb)))] sz)) 1 4 (va_A [(h0, .inr (1, [.ref hk, .ref hb0, .ref ho])), (hb0, .inl (db, 8, .inl (fb)))] sz) := by
  refine Met.ofW (cc := cX1_words) (maxL := 3) (ret := (some (.array .int))) (by decide) rfl ?_
  intro p e s m args below meth c s₁ BO hml hv
  obtain ⟨rfl, hsz, hP, hK, hD0⟩ := hv
  have hx := BO.exec
  have hb := BO.bytes
  have hr := BO.returns
  have hts := atoms_spec (ws := (ws_ yX1_words cX1_words 3 (some (.array .int)))) BO.pre
  have hts : ∀ w ∈ lw_all, w.before _ s = true := fun w h => hts w (List.mem_cons_of_mem _ h)
  have hown : s.vm.findClass RX1 = some m.cls := findClass_of_methodNamed BO.named
  have hlocks := BO.notSynchronized
  subst hsz
  have hD := hD0.self (sz := s.heap.size)
  generalize hAe : va_A [(h0, .inr (1, [.ref hk, .ref hb0, .ref ho])), (hb0, .inl (db, 8, .inl (fb)))] s.heap.size = A at hD ⊢
  have hA : ∀ q : Nat, s.heap.size ≤ q → A q := fun q h => by rw [← hAe]; exact Or.inr h
  have hS : va_S A s.heap s.heap [] := va_S.rf
  have hP : va_P (dC, dI) vwCl [(h0, .inr (1, [.ref hk, .ref hb0, .ref ho])), (hb0, .inl (db, 8, .inl (fb)))] s.heap := hP
  have hl := lv_entry ([.ref h0]) (n := 3) (Nat.le_of_ble_eq_true rfl)
  rw [lg_entry_eq]
  generalize (lg_sl ([.ref h0]) ++ List.replicate (3 - (lg_sl ([.ref h0])).length) Slot.unset).toArray = ls at hl ⊢
  have hl : lv_has ls 3 [(0, .ref h0)] := hl
  refine lv_iconst (v := nI 4) hx hb dX1_words_0 (by decide) ?_
  refine va_newa (atype := .int) (N' := 4) (a0 := (4, .inl (fun _ => 0))) hx hb (hts _ q212) rfl hK hP hD hS hA (fun _ => rfl) (by decide) (by decide) (by decide) (Nat.le_of_ble_eq_true rfl) (Nat.le_of_ble_eq_true rfl) dX1_words_1 (fun q d1 H hK hP hD hS => ?_)
  have hP : va_P (dC, dI) vwCl [(h0, .inr (1, [.ref hk, .ref hb0, .ref ho])), (hb0, .inl (db, 8, .inl (fb))), (q, .inl (d1, 4, .inl (fun _ => 0)))] H := hP
  have hD : va_D A [(h0, .inr (1, [.ref hk, .ref hb0, .ref ho])), (hb0, .inl (db, 8, .inl (fb))), (q, .inl (d1, 4, .inl (fun _ => 0)))] := hD
  have hK : va_K (dC, dI) vwCl [(db, .int), (d1, .int)] s := hK
  refine W.widen (k := 1) (n := 4) (Nat.le_of_ble_eq_true rfl) (Nat.le_of_ble_eq_true rfl) ?_
  have hP : va_P (dC, dI) vwCl [(h0, .inr (1, [.ref hk, .ref hb0, .ref ho])), (hb0, .inl (db, 8, .inl (fb))), (q, .inl (d1, 4, .inl (sk_fill (fun j => nI (sk_wi (sk_wd B) j)) (fun _ => 0) 0)))] H := by rw [← sk_fill_0 (fun j => nI (sk_wi (sk_wd B) j)) (fun _ => 0)]; exact hP
  have hD : va_D A [(h0, .inr (1, [.ref hk, .ref hb0, .ref ho])), (hb0, .inl (db, 8, .inl (fb))), (q, .inl (d1, 4, .inl (sk_fill (fun j => nI (sk_wi (sk_wd B) j)) (fun _ => 0) 0)))] := by rw [← sk_fill_0 (fun j => nI (sk_wi (sk_wd B) j)) (fun _ => 0)]; exact hD
  refine lv_astore_n (lv' := [(1, .ref q), (0, .ref h0)]) hx hb dX1_words_3 rfl hl (by decide) rfl (fun ls hl => ?_)
  refine lv_iconst (v := nI 0) hx hb dX1_words_4 (by decide) ?_
  refine lv_istore_n (lv' := [(2, .int (nI 0)), (1, .ref q), (0, .ref h0)]) hx hb dX1_words_5 rfl hl (by decide) rfl (fun ls hl => ?_)
  refine mod_words_lp h0 hk hb0 ho q db d1 fb B hx hb hown hts hK hB hfb ?_ 4 0 (by decide) _ _ ls hP hD hS (lv_sub hl [2, 1, 0] rfl)
  intro H locs ls hP hD hS hl
  refine lv_aload_n hx hb dX1_words_42 rfl (lv_at hl 1 rfl) ?_
  have hP9 := hP.sub (ws' := [(h0, .inr (1, [.ref hk, .ref hb0, .ref ho])), (hb0, .inl (db, 8, .inl (fb))), (q, .inl (d1, 4, .inl (sk_fill (fun j => nI (sk_wi (sk_wd B) j)) (fun _ => 0) 4)))]) [0, 1, 2] rfl
  have hD9 := hD.sub (ws' := [(h0, .inr (1, [.ref hk, .ref hb0, .ref ho])), (hb0, .inl (db, 8, .inl (fb))), (q, .inl (d1, 4, .inl (sk_fill (fun j => nI (sk_wi (sk_wd B) j)) (fun _ => 0) 4)))]) [0, 1, 2] (by decide) rfl
  have hK9 := hK.sub (tys' := [(db, .int), (d1, .int)]) [0, 1] rfl
  exact W.aret (v := .ref q) hx hb hr (Or.inr ⟨_, rfl⟩) (Or.inr ⟨_, rfl⟩) (fun t ht hW => ⟨⟨(), q, rfl, trivial, d1, by rw [ht]; exact hP9, va_K.moved hW.alike hK9, hD9⟩, hS.F ht⟩) hS.2.2 dX1_words_43
set_option maxHeartbeats 1000000 in
set_option maxRecDepth 100000 in
theorem mod_lays_lp {p : Program} {l : Launch} {e : Env} {R : Room} {s : State} {m : MethodId} {args : Array Value} {below : List Frame} {meth : Method} {c : Code} {dC : Nat → ClassId} {dI : Nat → Nat → Nat} {A : Nat → Prop} {Q : State → Prop} {cells slots : Nat} (h0 hk hb0 ho hw : Nat) (dq dw : ClassId) (fo fw : Nat → Int32) (qq : sk_Q) (hx : p.tables.exec = Jvm.exec) (hb : c.code = cX1_lays) (hown : s.vm.findClass RX1 = some m.cls) (hts : ∀ w ∈ lw_all, w.before args s = true) (hK : va_K (dC, dI) vwCl [(dq, .int), (dw, .int)] s) (hq : sk_ok qq) (hfw : sk_W4 fw qq)
    (hend : ∀ (H : Heap) (locs : List Loc) (ls : Array Slot), va_P (dC, dI) vwCl [(h0, .inr (1, [.ref hk, .ref hb0, .ref ho])), (ho, .inl (dq, 8, .inl (sk_fill (fun j => nI (sk_by qq j)) fo (2 * 4)))), (hw, .inl (dw, 4, .inl (fw)))] H → va_D A [(h0, .inr (1, [.ref hk, .ref hb0, .ref ho])), (ho, .inl (dq, 8, .inl (sk_fill (fun j => nI (sk_by qq j)) fo (2 * 4)))), (hw, .inl (dw, 4, .inl (fw)))] → va_S A s.heap H locs → lv_has ls 3 [(0, .ref h0), (1, .ref hw), (2, .int (nI 4))] → W p l e R s m args below meth c H locs cells slots Q (F0 m 44 ls [])) :
    ∀ (cnt i : Nat), i + cnt = 4 → ∀ (H : Heap) (locs : List Loc) (ls : Array Slot), va_P (dC, dI) vwCl [(h0, .inr (1, [.ref hk, .ref hb0, .ref ho])), (ho, .inl (dq, 8, .inl (sk_fill (fun j => nI (sk_by qq j)) fo (2 * i)))), (hw, .inl (dw, 4, .inl (fw)))] H → va_D A [(h0, .inr (1, [.ref hk, .ref hb0, .ref ho])), (ho, .inl (dq, 8, .inl (sk_fill (fun j => nI (sk_by qq j)) fo (2 * i)))), (hw, .inl (dw, 4, .inl (fw)))] → va_S A s.heap H locs → lv_has ls 3 [(0, .ref h0), (1, .ref hw), (2, .int (nI i))] → W p l e R s m args below meth c H locs cells slots Q (F0 m 2 ls []) := by
  intro cnt
  induction cnt with
  | zero =>
    intro i hi H locs ls hP hD hS hl
    have hi : i = 4 := by omega
    subst hi
    refine lv_iload_n hx hb dX1_lays_2 rfl (lv_at hl 2 rfl) ?_
    refine lv_iconst (v := nI 4) hx hb dX1_lays_3 (by decide) ?_
    refine sk_geY (tgt := 44) hx hb (Nat.le_refl 4) (by decide) dX1_lays_4 (by decide) ?_
    exact hend H locs ls hP hD hS hl
  | succ cnt ih =>
    intro i hi H locs ls hP hD hS hl
    refine lv_iload_n hx hb dX1_lays_2 rfl (lv_at hl 2 rfl) ?_
    refine lv_iconst (v := nI 4) hx hb dX1_lays_3 (by decide) ?_
    refine sk_geN (tgt := 44) hx hb (show i < 4 by omega) (by decide) dX1_lays_4 (by decide) ?_
    refine lv_aload_n hx hb dX1_lays_7 rfl (lv_at hl 0 rfl) ?_
    refine va_get (D := (dC, dI)) (ci := 1) (v := .ref ho) (C := RX1) (T := TX1) (N := 3) hx hb hts in_X1 hown hK hP 0 rfl rfl 2 (by decide) (hts _ q288) (fun _ h9 => h9) rfl dX1_lays_8 ?_
    refine lv_iconst (v := nI 2) hx hb dX1_lays_11 (by decide) ?_
    refine lv_iload_n hx hb dX1_lays_12 rfl (lv_at hl 2 rfl) ?_
    refine lv_imul hx hb dX1_lays_13 ?_
    refine sk_top (y := nI (2 * i)) (pk_mul 2 i) ?_
    refine lv_aload_n hx hb dX1_lays_14 rfl (lv_at hl 1 rfl) ?_
    refine lv_iload_n hx hb dX1_lays_15 rfl (lv_at hl 2 rfl) ?_
    refine sk_iald (k := i) hx hb hK hP 2 1 rfl rfl (by omega) (by decide) dX1_lays_16 ?_
    refine sk_top (y := nI (sk_wi qq i)) (hfw i (by omega)) ?_
    refine lv_bipush (v := nI 8) hx hb dX1_lays_17 (by decide) ?_
    refine lv_ishr hx hb dX1_lays_19 ?_
    refine sk_top (y := nI (sk_by qq (2 * i))) (by rw [sk_shr8 (sk_wi_lt hq i), sk_by_e]) ?_
    refine sk_iast (k := 2 * i) hx hb hK hP hD hS 1 0 rfl rfl (by omega) (by decide) dX1_lays_20 (fun H locs hP hD hS => ?_)
    have hP : va_P (dC, dI) vwCl [(h0, .inr (1, [.ref hk, .ref hb0, .ref ho])), (ho, .inl (dq, 8, .inl (upd (sk_fill (fun j => nI (sk_by qq j)) fo (2 * i)) (2 * i) (nI (sk_by qq (2 * i)))))), (hw, .inl (dw, 4, .inl (fw)))] H := hP
    have hD : va_D A [(h0, .inr (1, [.ref hk, .ref hb0, .ref ho])), (ho, .inl (dq, 8, .inl (upd (sk_fill (fun j => nI (sk_by qq j)) fo (2 * i)) (2 * i) (nI (sk_by qq (2 * i)))))), (hw, .inl (dw, 4, .inl (fw)))] := hD
    refine lv_aload_n hx hb dX1_lays_21 rfl (lv_at hl 0 rfl) ?_
    refine va_get (D := (dC, dI)) (ci := 1) (v := .ref ho) (C := RX1) (T := TX1) (N := 3) hx hb hts in_X1 hown hK hP 0 rfl rfl 2 (by decide) (hts _ q288) (fun _ h9 => h9) rfl dX1_lays_22 ?_
    refine lv_iconst (v := nI 2) hx hb dX1_lays_25 (by decide) ?_
    refine lv_iload_n hx hb dX1_lays_26 rfl (lv_at hl 2 rfl) ?_
    refine lv_imul hx hb dX1_lays_27 ?_
    refine sk_top (y := nI (2 * i)) (pk_mul 2 i) ?_
    refine lv_iconst (v := nI 1) hx hb dX1_lays_28 (by decide) ?_
    refine lv_iadd hx hb dX1_lays_29 ?_
    refine sk_top (y := nI (2 * i + 1)) (nI_add _ 1) ?_
    refine lv_aload_n hx hb dX1_lays_30 rfl (lv_at hl 1 rfl) ?_
    refine lv_iload_n hx hb dX1_lays_31 rfl (lv_at hl 2 rfl) ?_
    refine sk_iald (k := i) hx hb hK hP 2 1 rfl rfl (by omega) (by decide) dX1_lays_32 ?_
    refine sk_top (y := nI (sk_wi qq i)) (hfw i (by omega)) ?_
    refine lv_sipush (v := nI 255) hx hb dX1_lays_33 (by decide) ?_
    refine lv_iand hx hb dX1_lays_36 ?_
    refine sk_top (y := nI (sk_by qq (2 * i + 1))) (by rw [sk_and8 (sk_wi_lt hq i), sk_by_o]) ?_
    refine sk_iast (k := 2 * i + 1) hx hb hK hP hD hS 1 0 rfl rfl (by omega) (by decide) dX1_lays_37 (fun H locs hP hD hS => ?_)
    have hP : va_P (dC, dI) vwCl [(h0, .inr (1, [.ref hk, .ref hb0, .ref ho])), (ho, .inl (dq, 8, .inl (upd (upd (sk_fill (fun j => nI (sk_by qq j)) fo (2 * i)) (2 * i) (nI (sk_by qq (2 * i)))) (2 * i + 1) (nI (sk_by qq (2 * i + 1)))))), (hw, .inl (dw, 4, .inl (fw)))] H := hP
    have hD : va_D A [(h0, .inr (1, [.ref hk, .ref hb0, .ref ho])), (ho, .inl (dq, 8, .inl (upd (upd (sk_fill (fun j => nI (sk_by qq j)) fo (2 * i)) (2 * i) (nI (sk_by qq (2 * i)))) (2 * i + 1) (nI (sk_by qq (2 * i + 1)))))), (hw, .inl (dw, 4, .inl (fw)))] := hD
    have hP : va_P (dC, dI) vwCl [(h0, .inr (1, [.ref hk, .ref hb0, .ref ho])), (ho, .inl (dq, 8, .inl (sk_fill (fun j => nI (sk_by qq j)) fo (2 * (i + 1))))), (hw, .inl (dw, 4, .inl (fw)))] H := by rw [sk_fill_2 (fun j => nI (sk_by qq j)) fo i rfl rfl] at hP; exact hP
    have hD : va_D A [(h0, .inr (1, [.ref hk, .ref hb0, .ref ho])), (ho, .inl (dq, 8, .inl (sk_fill (fun j => nI (sk_by qq j)) fo (2 * (i + 1))))), (hw, .inl (dw, 4, .inl (fw)))] := by rw [sk_fill_2 (fun j => nI (sk_by qq j)) fo i rfl rfl] at hD; exact hD
    refine lv_iinc (v := nI (i + 1)) (lv' := [(2, .int (nI (i + 1))), (0, .ref h0), (1, .ref hw)]) hx hb dX1_lays_38 hl (k := 2) rfl (nI_1 i) (by decide) rfl (fun ls hl => ?_)
    refine lv_goto (tgt := 2) hx hb dX1_lays_41 (by decide) ?_
    exact ih (i + 1) (by omega) H locs ls hP hD hS (lv_sub hl [1, 2, 0] rfl)
set_option maxHeartbeats 1000000 in
set_option maxRecDepth 100000 in
/-- SkipjackDeskModel.lays -/
theorem mod_lays (l : Launch) (dC : Nat → ClassId) (dI : Nat → Nat → Nat) (sz : Nat) (h0 hk hb0 ho hw : Nat) (dq dw : ClassId) (fo fw : Nat → Int32) (qq : sk_Q) (hq : sk_ok qq) (hfw : sk_W4 fw qq) : Met l yX1_lays (ws_ yX1_lays cX1_lays 3 none) ({ frames := 0, cells := 0, slots := 0, locals := 0 }) (va_Pc [.ref h0, .ref hw] (fun U => U.heap.size = sz ∧ va_P (dC, dI) vwCl [(h0, .inr (1, [.ref hk, .ref hb0, .ref ho])), (ho, .inl (dq, 8, .inl (fo))), (hw, .inl (dw, 4, .inl (fw)))] U.heap ∧ va_K (dC, dI) vwCl [(dq, .int), (dw, .int)] U ∧ va_D (fun _ => True) [(h0, .inr (1, [.ref hk, .ref hb0, .ref ho])), (ho, .inl (dq, 8, .inl (fo))), (hw, .inl (dw, 4, .inl (fw)))])) (va_Qv (fun (_ : Unit) => True) (fun (_ : Unit) (t : State) => va_P (dC, dI) vwCl [(h0, .inr (1, [.ref hk, .ref hb0, .ref ho])), (ho, .inl (dq, 8, .inl (sk_fill (fun j => nI (sk_by qq j)) fo 8))), (hw, .inl (dw, 4, .inl (fw)))] t.heap ∧ va_K (dC, dI) vwCl [(dq, .int), (dw, .int)] t ∧ va_D (va_A [(h0, .inr (1, [.ref hk, .ref hb0, .ref ho])), (ho, .inl (dq, 8, .inl (fo))), (hw, .inl (dw, 4, .inl (fw)))] sz) [(h0, .inr (1, [.ref hk, .ref hb0, .ref ho])), (ho, .inl (dq, 8, .inl (sk_fill (fun j => nI (sk_by qq j)) fo 8))), (hw, .inl (dw, 4, .inl (fw)))]) (va_A [(h0, .inr (1, [.ref hk, .ref hb0, .ref ho])), (ho, .inl (dq, 8, .inl (fo))), (hw, .inl (dw, 4, .inl (fw)))] sz)) 0 0 (va_A [(h0, .inr (1, [.ref hk, .ref hb0, .ref ho])), (ho, .inl (dq, 8, .inl (fo))), (hw, .inl (dw, 4, .inl (fw)))] sz) := by
  refine Met.ofW (cc := cX1_lays) (maxL := 3) (ret := none) (by decide) rfl ?_
  intro p e s m args below meth c s₁ BO hml hv
  obtain ⟨rfl, hsz, hP, hK, hD0⟩ := hv
  have hx := BO.exec
  have hb := BO.bytes
  have hr := BO.returns
  have hts := atoms_spec (ws := (ws_ yX1_lays cX1_lays 3 none)) BO.pre
  have hts : ∀ w ∈ lw_all, w.before _ s = true := fun w h => hts w (List.mem_cons_of_mem _ h)
  have hown : s.vm.findClass RX1 = some m.cls := findClass_of_methodNamed BO.named
  have hlocks := BO.notSynchronized
  subst hsz
  have hD := hD0.self (sz := s.heap.size)
  generalize hAe : va_A [(h0, .inr (1, [.ref hk, .ref hb0, .ref ho])), (ho, .inl (dq, 8, .inl (fo))), (hw, .inl (dw, 4, .inl (fw)))] s.heap.size = A at hD ⊢
  have hA : ∀ q : Nat, s.heap.size ≤ q → A q := fun q h => by rw [← hAe]; exact Or.inr h
  have hS : va_S A s.heap s.heap [] := va_S.rf
  have hP : va_P (dC, dI) vwCl [(h0, .inr (1, [.ref hk, .ref hb0, .ref ho])), (ho, .inl (dq, 8, .inl (fo))), (hw, .inl (dw, 4, .inl (fw)))] s.heap := hP
  have hl := lv_entry ([.ref h0, .ref hw]) (n := 3) (Nat.le_of_ble_eq_true rfl)
  rw [lg_entry_eq]
  generalize (lg_sl ([.ref h0, .ref hw]) ++ List.replicate (3 - (lg_sl ([.ref h0, .ref hw])).length) Slot.unset).toArray = ls at hl ⊢
  have hl : lv_has ls 3 [(0, .ref h0), (1, .ref hw)] := hl
  have hP : va_P (dC, dI) vwCl [(h0, .inr (1, [.ref hk, .ref hb0, .ref ho])), (ho, .inl (dq, 8, .inl (sk_fill (fun j => nI (sk_by qq j)) fo (2 * 0)))), (hw, .inl (dw, 4, .inl (fw)))] s.heap := by rw [show 2 * 0 = 0 from rfl, ← sk_fill_0 (fun j => nI (sk_by qq j)) fo]; exact hP
  have hD : va_D A [(h0, .inr (1, [.ref hk, .ref hb0, .ref ho])), (ho, .inl (dq, 8, .inl (sk_fill (fun j => nI (sk_by qq j)) fo (2 * 0)))), (hw, .inl (dw, 4, .inl (fw)))] := by rw [show 2 * 0 = 0 from rfl, ← sk_fill_0 (fun j => nI (sk_by qq j)) fo]; exact hD
  refine lv_iconst (v := nI 0) hx hb dX1_lays_0 (by decide) ?_
  refine lv_istore_n (lv' := [(2, .int (nI 0)), (0, .ref h0), (1, .ref hw)]) hx hb dX1_lays_1 rfl hl (by decide) rfl (fun ls hl => ?_)
  refine mod_lays_lp h0 hk hb0 ho hw dq dw fo fw qq hx hb hown hts hK hq hfw ?_ 4 0 (by decide) _ _ ls hP hD hS (lv_sub hl [1, 2, 0] rfl)
  intro H locs ls hP hD hS hl
  have hP : va_P (dC, dI) vwCl [(h0, .inr (1, [.ref hk, .ref hb0, .ref ho])), (ho, .inl (dq, 8, .inl (sk_fill (fun j => nI (sk_by qq j)) fo 8))), (hw, .inl (dw, 4, .inl (fw)))] H := hP
  have hD : va_D A [(h0, .inr (1, [.ref hk, .ref hb0, .ref ho])), (ho, .inl (dq, 8, .inl (sk_fill (fun j => nI (sk_by qq j)) fo 8))), (hw, .inl (dw, 4, .inl (fw)))] := hD
  have hP9 := hP.sub (ws' := [(h0, .inr (1, [.ref hk, .ref hb0, .ref ho])), (ho, .inl (dq, 8, .inl (sk_fill (fun j => nI (sk_by qq j)) fo 8))), (hw, .inl (dw, 4, .inl (fw)))]) [0, 1, 2] rfl
  have hD9 := hD.sub (ws' := [(h0, .inr (1, [.ref hk, .ref hb0, .ref ho])), (ho, .inl (dq, 8, .inl (sk_fill (fun j => nI (sk_by qq j)) fo 8))), (hw, .inl (dw, 4, .inl (fw)))]) [0, 1, 2] (by decide) rfl
  have hK9 := hK.sub (tys' := [(dq, .int), (dw, .int)]) [0, 1] rfl
  exact W.vret hx hb hr (fun t ht hW => ⟨⟨(), rfl, trivial, by rw [ht]; exact hP9, va_K.moved hW.alike hK9, hD9⟩, hS.F ht⟩) hS.2.2 dX1_lays_44
end
section
/-! SkipjackDeskModel: lock, open -/
set_option maxHeartbeats 1000000 in
set_option maxRecDepth 100000 in
theorem mod_lock_lp {p : Program} {l : Launch} {e : Env} {s : State} {m : MethodId} {args : Array Value} {below : List Frame} {meth : Method} {c : Code} {dC : Nat → ClassId} {dI : Nat → Nat → Nat} {A : Nat → Prop} {Q : State → Prop} (h0 hk hb0 ho : Nat) (dk db dq : ClassId) (fk fb fo : Nat → Int32) (K B : Nat → Nat) (qw tM : Nat) (dw : ClassId) (hx : p.tables.exec = Jvm.exec) (hb : c.code = cX1_lock) (hml : c.maxLocals = 8) (hown : s.vm.findClass RX1 = some m.cls) (hts : ∀ w ∈ lw_all, w.before args s = true) (hK : va_K (dC, dI) vwCl [(dk, .int), (db, .int), (dq, .int), (dw, .int)] s) (hA : ∀ q : Nat, s.heap.size ≤ q → A q) (hT : sk_TM tM A s) (hK0 : sk_K K) (hfk : ∀ j, j < 10 → fk j = nI (K j)) (hB : sk_B B) (hfb : ∀ j, j < 8 → fb j = nI (B j))
    (hend : ∀ (F : Nat → Int32) (H : Heap) (locs : List Loc) (ls : Array Slot), sk_W4 F (sk_enc K 32 (sk_wd B)) → va_P (dC, dI) vwCl [(h0, .inr (1, [.ref hk, .ref hb0, .ref ho])), (hk, .inl (dk, 32, .inl (fk))), (hb0, .inl (db, 8, .inl (fb))), (ho, .inl (dq, 8, .inl (fo))), (qw, .inl (dw, 4, .inl (F)))] H → va_D A [(h0, .inr (1, [.ref hk, .ref hb0, .ref ho])), (hk, .inl (dk, 32, .inl (fk))), (hb0, .inl (db, 8, .inl (fb))), (ho, .inl (dq, 8, .inl (fo))), (qw, .inl (dw, 4, .inl (F)))] → va_S A s.heap H locs → lv_has ls 8 [(0, .ref h0), (2, .ref qw), (3, .int (nI 32))] → W p l e (headSpec (ws_ yX1_lock cX1_lock 8 none) ({ frames := 1, cells := 1, slots := 4, locals := 26 })).room s m args below meth c H locs 1 4 Q (F0 m 104 ls [])) :
    ∀ (n i : Nat), i + n = 32 → ∀ (F : Nat → Int32) (H : Heap) (locs : List Loc) (ls : Array Slot), sk_W4 F (sk_enc K i (sk_wd B)) → va_P (dC, dI) vwCl [(h0, .inr (1, [.ref hk, .ref hb0, .ref ho])), (hk, .inl (dk, 32, .inl (fk))), (hb0, .inl (db, 8, .inl (fb))), (ho, .inl (dq, 8, .inl (fo))), (qw, .inl (dw, 4, .inl (F)))] H → va_D A [(h0, .inr (1, [.ref hk, .ref hb0, .ref ho])), (hk, .inl (dk, 32, .inl (fk))), (hb0, .inl (db, 8, .inl (fb))), (ho, .inl (dq, 8, .inl (fo))), (qw, .inl (dw, 4, .inl (F)))] → va_S A s.heap H locs → lv_has ls 8 [(0, .ref h0), (2, .ref qw), (3, .int (nI i))] → W p l e (headSpec (ws_ yX1_lock cX1_lock 8 none) ({ frames := 1, cells := 1, slots := 4, locals := 26 })).room s m args below meth c H locs 1 4 Q (F0 m 7 ls []) := by
  intro n
  induction n with
  | zero =>
    intro i hi F H locs ls hF hP hD hS hl
    have hi : i = 32 := by omega
    subst hi
    refine lv_iload_n hx hb dX1_lock_7 rfl (lv_at hl 2 rfl) ?_
    refine lv_bipush (v := nI 32) hx hb dX1_lock_8 (by decide) ?_
    refine sk_geY (tgt := 104) hx hb (Nat.le_refl 32) (by decide) dX1_lock_10 (by decide) ?_
    exact hend F H locs ls hF hP hD hS hl
  | succ n ih =>
    intro i hi F H locs ls hF hP hD hS hl
    have hk0 : i < 32 := by omega
    have hq := sk_enc_ok hK0 (sk_wd_ok hB) i (by omega)
    have hih := ih (i + 1) (by omega)
    have hnx : sk_enc K (i + 1) (sk_wd B) = sk_st K (i) (sk_enc K i (sk_wd B)) := rfl
    rw [hnx] at hih
    generalize sk_enc K i (sk_wd B) = qq at hF hq hih
    refine lv_iload_n hx hb dX1_lock_7 rfl (lv_at hl 2 rfl) ?_
    refine lv_bipush (v := nI 32) hx hb dX1_lock_8 (by decide) ?_
    refine sk_geN (tgt := 104) hx hb (show i < 32 by omega) (by decide) dX1_lock_10 (by decide) ?_
    refine lv_aload_n hx hb dX1_lock_13 rfl (lv_at hl 0 rfl) ?_
    refine lv_aload_n hx hb dX1_lock_14 rfl (lv_at hl 1 rfl) ?_
    refine lv_iconst (v := nI 0) hx hb dX1_lock_15 (by decide) ?_
    refine sk_iald (k := 0) hx hb hK hP 4 3 rfl rfl (by decide) (by decide) dX1_lock_16 ?_
    refine sk_top (y := nI qq.1) (hF 0 (by decide)) ?_
    refine lv_iload_n hx hb dX1_lock_17 rfl (lv_at hl 2 rfl) ?_
    have hPc := hP.sub (ws' := [(h0, .inr (1, [.ref hk, .ref hb0, .ref ho])), (hk, .inl (dk, 32, .inl (fk)))]) [0, 1] rfl
    have hDc := hD.sub (ws' := [(h0, .inr (1, [.ref hk, .ref hb0, .ref ho])), (hk, .inl (dk, 32, .inl (fk)))]) [0, 1] (by decide) rfl
    have hKc := hK.sub (tys' := [(dk, .int)]) [0] rfl
    have hFc := va_free (wc := [(h0, .inr (1, [.ref hk, .ref hb0, .ref ho])), (hk, .inl (dk, 32, .inl (fk)))]) hD hS hA [0, 1] rfl
    refine va_calli (va_runV (As := [.int (nI qq.1), .int (nI i)]) (rest := []) ⟨hx, hb, hml, hown, hts⟩ (mod_g l dC dI H.size h0 hk hb0 ho dk fk K tM qq.1 (i) hK0 hfk hq.1 hk0) (cwV 2 hts (lw_V q315 q317 qs5 q10 q318) rfl rfl rfl (by decide +kernel) ⟨Nat.le_of_ble_eq_true rfl, Nat.le_of_ble_eq_true rfl⟩) ⟨fun a U g mk q => by obtain ⟨q0, q1, qP, qK, qD, qT0⟩ := q; exact ⟨q0, q1, qP, va_K.moved (u := U) (U := U.calling g mk a) (Vm.Alike.refl U.vm) qK, qD, qT0.calling⟩, va_recv hKc hPc (ci := 1) (q0 := 0) rfl rfl, fun U hU hW => ⟨rfl, by rw [hU], by rw [hU]; exact hPc, va_K.moved hW.alike hKc, hDc.weaken (fun _ _ _ _ => trivial), hT.call hW.alike hU hS hFc⟩⟩ rfl rfl hl.1 rfl (lv_room (Nat.le_of_ble_eq_true rfl)) dX1_lock_18 ⟨Nat.le_of_ble_eq_true rfl, Nat.le_of_ble_eq_true rfl⟩) hS (fun q _ h => hFc q h) hFc (fun gg uS tS H1 locs htS hvm hw hB hz1 hk1 hS => ?_)
    obtain ⟨hP1, hK1, hD1⟩ := hB
    rw [htS] at hP1
    obtain ⟨hP, hD⟩ := va_join (wr := [(hb0, .inl (db, 8, .inl (fb))), (ho, .inl (dq, 8, .inl (fo))), (qw, .inl (dw, 4, .inl (F)))]) (w1 := [(h0, .inr (1, [.ref hk, .ref hb0, .ref ho])), (hk, .inl (dk, 32, .inl (fk)))]) hP hD [0, 1] [2, 3, 4] rfl rfl (by decide) (by decide) hk1 hFc hP1 hD1
    generalize H1 = H at hP hS ⊢
    have hP : va_P (dC, dI) vwCl [(hb0, .inl (db, 8, .inl (fb))), (ho, .inl (dq, 8, .inl (fo))), (qw, .inl (dw, 4, .inl (F))), (h0, .inr (1, [.ref hk, .ref hb0, .ref ho])), (hk, .inl (dk, 32, .inl (fk)))] H := hP
    have hD : va_D A [(hb0, .inl (db, 8, .inl (fb))), (ho, .inl (dq, 8, .inl (fo))), (qw, .inl (dw, 4, .inl (F))), (h0, .inr (1, [.ref hk, .ref hb0, .ref ho])), (hk, .inl (dk, 32, .inl (fk)))] := hD
    refine W.widen (k := 1) (n := 4) (Nat.le_of_ble_eq_true rfl) (Nat.le_of_ble_eq_true rfl) ?_
    have hw : gg = nI (sk_g K (i) qq.1) := hw
    subst hw
    refine lv_istore (lv' := [(4, .int (nI (sk_g K (i) qq.1))), (0, .ref h0), (2, .ref qw), (3, .int (nI i))]) hx hb dX1_lock_21 hl (by decide) rfl (fun ls hl => ?_)
    refine lv_iload_n hx hb dX1_lock_23 rfl (lv_at hl 3 rfl) ?_
    refine lv_iconst (v := nI 1) hx hb dX1_lock_24 (by decide) ?_
    refine lv_iadd hx hb dX1_lock_25 ?_
    refine sk_top (y := nI (i + 1)) (nI_add _ 1) ?_
    refine lv_istore (lv' := [(5, .int (nI (i + 1))), (4, .int (nI (sk_g K (i) qq.1))), (0, .ref h0), (2, .ref qw), (3, .int (nI i))]) hx hb dX1_lock_26 hl (by decide) rfl (fun ls hl => ?_)
    by_cases hr : (i) / 8 % 2 = 0
    · skip
      refine lv_iload_n hx hb dX1_lock_28 rfl (lv_at hl 4 rfl) ?_
      have hPc := hP.sub (ws' := []) [] rfl
      have hDc := hD.sub (ws' := []) [] (by decide) rfl
      have hKc := hK.sub (tys' := []) [] rfl
      have hFc := va_free (wc := []) hD hS hA [] rfl
      refine va_calli (va_runS (As := [.int (nI i)]) (rest := []) ⟨hx, hb, hml, hown, hts⟩ (mod_rule l dC dI H.size (i) hk0) (va_cwS 1 hts (lw_S q321 q322 q10 q323) rfl rfl rfl (by decide +kernel) ⟨Nat.le_of_ble_eq_true rfl, Nat.le_of_ble_eq_true rfl⟩) ⟨fun a U g mk q => by obtain ⟨q0, q1, qP, qK, qD⟩ := q; exact ⟨q0, q1, qP, va_K.moved (u := U) (U := U.calling g mk a) (Vm.Alike.refl U.vm) qK, qD⟩, fun U hU hW => ⟨rfl, by rw [hU], by rw [hU]; exact hPc, va_K.moved hW.alike hKc, hDc.weaken (fun _ _ _ _ => trivial)⟩⟩ rfl rfl hl.1 rfl (lv_room (Nat.le_of_ble_eq_true rfl)) dX1_lock_29 ⟨Nat.le_of_ble_eq_true rfl, Nat.le_of_ble_eq_true rfl⟩) hS (fun q _ h => hFc q h) hFc (fun rr uS tS H1 locs htS hvm hw hB hz1 hk1 hS => ?_)
      obtain ⟨hP1, hK1, hD1⟩ := hB
      rw [htS] at hP1
      obtain ⟨hP, hD⟩ := va_join (wr := [(hb0, .inl (db, 8, .inl (fb))), (ho, .inl (dq, 8, .inl (fo))), (qw, .inl (dw, 4, .inl (F))), (h0, .inr (1, [.ref hk, .ref hb0, .ref ho])), (hk, .inl (dk, 32, .inl (fk)))]) (w1 := []) hP hD [] [0, 1, 2, 3, 4] rfl rfl (by decide) (by decide) hk1 hFc hP1 hD1
      generalize H1 = H at hP hS ⊢
      have hP : va_P (dC, dI) vwCl [(hb0, .inl (db, 8, .inl (fb))), (ho, .inl (dq, 8, .inl (fo))), (qw, .inl (dw, 4, .inl (F))), (h0, .inr (1, [.ref hk, .ref hb0, .ref ho])), (hk, .inl (dk, 32, .inl (fk)))] H := hP
      have hD : va_D A [(hb0, .inl (db, 8, .inl (fb))), (ho, .inl (dq, 8, .inl (fo))), (qw, .inl (dw, 4, .inl (F))), (h0, .inr (1, [.ref hk, .ref hb0, .ref ho])), (hk, .inl (dk, 32, .inl (fk)))] := hD
      refine W.widen (k := 1) (n := 4) (Nat.le_of_ble_eq_true rfl) (Nat.le_of_ble_eq_true rfl) ?_
      have hw : rr = nI 1 := by rw [hw, if_pos hr]
      subst hw
      refine lv_if_eq (tgt := 47) hx hb dX1_lock_32 (by decide) (fun q => absurd q (by decide)) (fun _ => ?_)
      refine lv_iload hx hb dX1_lock_35 (lv_at hl 1 rfl) ?_
      refine lv_aload_n hx hb dX1_lock_37 rfl (lv_at hl 3 rfl) ?_
      refine lv_iconst (v := nI 3) hx hb dX1_lock_38 (by decide) ?_
      refine sk_iald (k := 3) hx hb hK hP 2 3 rfl rfl (by decide) (by decide) dX1_lock_39 ?_
      refine sk_top (y := nI qq.2.2.2) (hF 3 (by decide)) ?_
      refine lv_ixor hx hb dX1_lock_40 ?_
      refine lv_iload hx hb dX1_lock_41 (lv_at hl 0 rfl) ?_
      refine lv_ixor hx hb dX1_lock_43 ?_
      refine lv_goto (tgt := 50) hx hb dX1_lock_44 (by decide) ?_
      refine sk_top (y := nI (sk_g K (i) qq.1 ^^^ qq.2.2.2 ^^^ (i + 1))) (by rw [nx_xor, nx_xor]) ?_
      refine lv_istore (lv' := [(6, .int (nI (sk_g K (i) qq.1 ^^^ qq.2.2.2 ^^^ (i + 1)))), (5, .int (nI (i + 1))), (4, .int (nI (sk_g K (i) qq.1))), (0, .ref h0), (2, .ref qw), (3, .int (nI i))]) hx hb dX1_lock_50 hl (by decide) rfl (fun ls hl => ?_)
      refine lv_iload_n hx hb dX1_lock_52 rfl (lv_at hl 5 rfl) ?_
      have hPc := hP.sub (ws' := []) [] rfl
      have hDc := hD.sub (ws' := []) [] (by decide) rfl
      have hKc := hK.sub (tys' := []) [] rfl
      have hFc := va_free (wc := []) hD hS hA [] rfl
      refine va_calli (va_runS (As := [.int (nI i)]) (rest := []) ⟨hx, hb, hml, hown, hts⟩ (mod_rule l dC dI H.size (i) hk0) (va_cwS 1 hts (lw_S q321 q322 q10 q323) rfl rfl rfl (by decide +kernel) ⟨Nat.le_of_ble_eq_true rfl, Nat.le_of_ble_eq_true rfl⟩) ⟨fun a U g mk q => by obtain ⟨q0, q1, qP, qK, qD⟩ := q; exact ⟨q0, q1, qP, va_K.moved (u := U) (U := U.calling g mk a) (Vm.Alike.refl U.vm) qK, qD⟩, fun U hU hW => ⟨rfl, by rw [hU], by rw [hU]; exact hPc, va_K.moved hW.alike hKc, hDc.weaken (fun _ _ _ _ => trivial)⟩⟩ rfl rfl hl.1 rfl (lv_room (Nat.le_of_ble_eq_true rfl)) dX1_lock_53 ⟨Nat.le_of_ble_eq_true rfl, Nat.le_of_ble_eq_true rfl⟩) hS (fun q _ h => hFc q h) hFc (fun rr uS tS H1 locs htS hvm hw hB hz1 hk1 hS => ?_)
      obtain ⟨hP1, hK1, hD1⟩ := hB
      rw [htS] at hP1
      obtain ⟨hP, hD⟩ := va_join (wr := [(hb0, .inl (db, 8, .inl (fb))), (ho, .inl (dq, 8, .inl (fo))), (qw, .inl (dw, 4, .inl (F))), (h0, .inr (1, [.ref hk, .ref hb0, .ref ho])), (hk, .inl (dk, 32, .inl (fk)))]) (w1 := []) hP hD [] [0, 1, 2, 3, 4] rfl rfl (by decide) (by decide) hk1 hFc hP1 hD1
      generalize H1 = H at hP hS ⊢
      have hP : va_P (dC, dI) vwCl [(hb0, .inl (db, 8, .inl (fb))), (ho, .inl (dq, 8, .inl (fo))), (qw, .inl (dw, 4, .inl (F))), (h0, .inr (1, [.ref hk, .ref hb0, .ref ho])), (hk, .inl (dk, 32, .inl (fk)))] H := hP
      have hD : va_D A [(hb0, .inl (db, 8, .inl (fb))), (ho, .inl (dq, 8, .inl (fo))), (qw, .inl (dw, 4, .inl (F))), (h0, .inr (1, [.ref hk, .ref hb0, .ref ho])), (hk, .inl (dk, 32, .inl (fk)))] := hD
      refine W.widen (k := 1) (n := 4) (Nat.le_of_ble_eq_true rfl) (Nat.le_of_ble_eq_true rfl) ?_
      have hw : rr = nI 1 := by rw [hw, if_pos hr]
      subst hw
      refine lv_if_eq (tgt := 65) hx hb dX1_lock_56 (by decide) (fun q => absurd q (by decide)) (fun _ => ?_)
      refine lv_aload_n hx hb dX1_lock_59 rfl (lv_at hl 4 rfl) ?_
      refine lv_iconst (v := nI 1) hx hb dX1_lock_60 (by decide) ?_
      refine sk_iald (k := 1) hx hb hK hP 2 3 rfl rfl (by decide) (by decide) dX1_lock_61 ?_
      refine sk_top (y := nI qq.2.1) (hF 1 (by decide)) ?_
      refine lv_goto (tgt := 75) hx hb dX1_lock_62 (by decide) ?_
      refine lv_istore (lv' := [(7, .int (nI qq.2.1)), (6, .int (nI (sk_g K (i) qq.1 ^^^ qq.2.2.2 ^^^ (i + 1)))), (5, .int (nI (i + 1))), (4, .int (nI (sk_g K (i) qq.1))), (0, .ref h0), (2, .ref qw), (3, .int (nI i))]) hx hb dX1_lock_75 hl (by decide) rfl (fun ls hl => ?_)
      refine lv_aload_n hx hb dX1_lock_77 rfl (lv_at hl 5 rfl) ?_
      refine lv_iconst (v := nI 3) hx hb dX1_lock_78 (by decide) ?_
      refine lv_aload_n hx hb dX1_lock_79 rfl (lv_at hl 5 rfl) ?_
      refine lv_iconst (v := nI 2) hx hb dX1_lock_80 (by decide) ?_
      refine sk_iald (k := 2) hx hb hK hP 2 3 rfl rfl (by decide) (by decide) dX1_lock_81 ?_
      refine sk_top (y := nI qq.2.2.1) (hF 2 (by decide)) ?_
      refine sk_iast (k := 3) hx hb hK hP hD hS 2 3 rfl rfl (by decide) (by decide) dX1_lock_82 (fun H locs hP hD hS => ?_)
      have hP : va_P (dC, dI) vwCl [(hb0, .inl (db, 8, .inl (fb))), (ho, .inl (dq, 8, .inl (fo))), (qw, .inl (dw, 4, .inl (upd F 3 (nI qq.2.2.1)))), (h0, .inr (1, [.ref hk, .ref hb0, .ref ho])), (hk, .inl (dk, 32, .inl (fk)))] H := hP
      have hD : va_D A [(hb0, .inl (db, 8, .inl (fb))), (ho, .inl (dq, 8, .inl (fo))), (qw, .inl (dw, 4, .inl (upd F 3 (nI qq.2.2.1)))), (h0, .inr (1, [.ref hk, .ref hb0, .ref ho])), (hk, .inl (dk, 32, .inl (fk)))] := hD
      refine lv_aload_n hx hb dX1_lock_83 rfl (lv_at hl 5 rfl) ?_
      refine lv_iconst (v := nI 2) hx hb dX1_lock_84 (by decide) ?_
      refine lv_iload hx hb dX1_lock_85 (lv_at hl 0 rfl) ?_
      refine sk_iast (k := 2) hx hb hK hP hD hS 2 3 rfl rfl (by decide) (by decide) dX1_lock_87 (fun H locs hP hD hS => ?_)
      have hP : va_P (dC, dI) vwCl [(hb0, .inl (db, 8, .inl (fb))), (ho, .inl (dq, 8, .inl (fo))), (qw, .inl (dw, 4, .inl (upd (upd F 3 (nI qq.2.2.1)) 2 (nI (qq.2.1))))), (h0, .inr (1, [.ref hk, .ref hb0, .ref ho])), (hk, .inl (dk, 32, .inl (fk)))] H := hP
      have hD : va_D A [(hb0, .inl (db, 8, .inl (fb))), (ho, .inl (dq, 8, .inl (fo))), (qw, .inl (dw, 4, .inl (upd (upd F 3 (nI qq.2.2.1)) 2 (nI (qq.2.1))))), (h0, .inr (1, [.ref hk, .ref hb0, .ref ho])), (hk, .inl (dk, 32, .inl (fk)))] := hD
      refine lv_aload_n hx hb dX1_lock_88 rfl (lv_at hl 5 rfl) ?_
      refine lv_iconst (v := nI 1) hx hb dX1_lock_89 (by decide) ?_
      refine lv_iload hx hb dX1_lock_90 (lv_at hl 3 rfl) ?_
      refine sk_iast (k := 1) hx hb hK hP hD hS 2 3 rfl rfl (by decide) (by decide) dX1_lock_92 (fun H locs hP hD hS => ?_)
      have hP : va_P (dC, dI) vwCl [(hb0, .inl (db, 8, .inl (fb))), (ho, .inl (dq, 8, .inl (fo))), (qw, .inl (dw, 4, .inl (upd (upd (upd F 3 (nI qq.2.2.1)) 2 (nI (qq.2.1))) 1 (nI (sk_g K (i) qq.1))))), (h0, .inr (1, [.ref hk, .ref hb0, .ref ho])), (hk, .inl (dk, 32, .inl (fk)))] H := hP
      have hD : va_D A [(hb0, .inl (db, 8, .inl (fb))), (ho, .inl (dq, 8, .inl (fo))), (qw, .inl (dw, 4, .inl (upd (upd (upd F 3 (nI qq.2.2.1)) 2 (nI (qq.2.1))) 1 (nI (sk_g K (i) qq.1))))), (h0, .inr (1, [.ref hk, .ref hb0, .ref ho])), (hk, .inl (dk, 32, .inl (fk)))] := hD
      refine lv_aload_n hx hb dX1_lock_93 rfl (lv_at hl 5 rfl) ?_
      refine lv_iconst (v := nI 0) hx hb dX1_lock_94 (by decide) ?_
      refine lv_iload hx hb dX1_lock_95 (lv_at hl 1 rfl) ?_
      refine sk_iast (k := 0) hx hb hK hP hD hS 2 3 rfl rfl (by decide) (by decide) dX1_lock_97 (fun H locs hP hD hS => ?_)
      have hP : va_P (dC, dI) vwCl [(hb0, .inl (db, 8, .inl (fb))), (ho, .inl (dq, 8, .inl (fo))), (qw, .inl (dw, 4, .inl (upd (upd (upd (upd F 3 (nI qq.2.2.1)) 2 (nI (qq.2.1))) 1 (nI (sk_g K (i) qq.1))) 0 (nI (sk_g K (i) qq.1 ^^^ qq.2.2.2 ^^^ (i + 1)))))), (h0, .inr (1, [.ref hk, .ref hb0, .ref ho])), (hk, .inl (dk, 32, .inl (fk)))] H := hP
      have hD : va_D A [(hb0, .inl (db, 8, .inl (fb))), (ho, .inl (dq, 8, .inl (fo))), (qw, .inl (dw, 4, .inl (upd (upd (upd (upd F 3 (nI qq.2.2.1)) 2 (nI (qq.2.1))) 1 (nI (sk_g K (i) qq.1))) 0 (nI (sk_g K (i) qq.1 ^^^ qq.2.2.2 ^^^ (i + 1)))))), (h0, .inr (1, [.ref hk, .ref hb0, .ref ho])), (hk, .inl (dk, 32, .inl (fk)))] := hD
      refine lv_iinc (v := nI (i + 1)) (lv' := [(3, .int (nI (i + 1))), (7, .int (nI qq.2.1)), (6, .int (nI (sk_g K (i) qq.1 ^^^ qq.2.2.2 ^^^ (i + 1)))), (5, .int (nI (i + 1))), (4, .int (nI (sk_g K (i) qq.1))), (0, .ref h0), (2, .ref qw)]) hx hb dX1_lock_98 hl (k := 6) rfl (nI_1 i) (by decide) rfl (fun ls hl => ?_)
      refine lv_goto (tgt := 7) hx hb dX1_lock_101 (by decide) ?_
      have hP := hP.sub (ws' := [(h0, .inr (1, [.ref hk, .ref hb0, .ref ho])), (hk, .inl (dk, 32, .inl (fk))), (hb0, .inl (db, 8, .inl (fb))), (ho, .inl (dq, 8, .inl (fo))), (qw, .inl (dw, 4, .inl (upd (upd (upd (upd F 3 (nI qq.2.2.1)) 2 (nI (qq.2.1))) 1 (nI (sk_g K (i) qq.1))) 0 (nI (sk_g K (i) qq.1 ^^^ qq.2.2.2 ^^^ (i + 1))))))]) [3, 4, 0, 1, 2] rfl
      have hD := hD.sub (ws' := [(h0, .inr (1, [.ref hk, .ref hb0, .ref ho])), (hk, .inl (dk, 32, .inl (fk))), (hb0, .inl (db, 8, .inl (fb))), (ho, .inl (dq, 8, .inl (fo))), (qw, .inl (dw, 4, .inl (upd (upd (upd (upd F 3 (nI qq.2.2.1)) 2 (nI (qq.2.1))) 1 (nI (sk_g K (i) qq.1))) 0 (nI (sk_g K (i) qq.1 ^^^ qq.2.2.2 ^^^ (i + 1))))))]) [3, 4, 0, 1, 2] (by decide) rfl
      have e1 : sk_st K (i) qq = sk_stA K (i) qq := if_pos hr
      rw [e1] at hih
      exact hih _ H locs ls (sk_four rfl rfl rfl rfl) hP hD hS (lv_sub hl [5, 6, 0] rfl)
    · skip
      refine lv_iload_n hx hb dX1_lock_28 rfl (lv_at hl 4 rfl) ?_
      have hPc := hP.sub (ws' := []) [] rfl
      have hDc := hD.sub (ws' := []) [] (by decide) rfl
      have hKc := hK.sub (tys' := []) [] rfl
      have hFc := va_free (wc := []) hD hS hA [] rfl
      refine va_calli (va_runS (As := [.int (nI i)]) (rest := []) ⟨hx, hb, hml, hown, hts⟩ (mod_rule l dC dI H.size (i) hk0) (va_cwS 1 hts (lw_S q321 q322 q10 q323) rfl rfl rfl (by decide +kernel) ⟨Nat.le_of_ble_eq_true rfl, Nat.le_of_ble_eq_true rfl⟩) ⟨fun a U g mk q => by obtain ⟨q0, q1, qP, qK, qD⟩ := q; exact ⟨q0, q1, qP, va_K.moved (u := U) (U := U.calling g mk a) (Vm.Alike.refl U.vm) qK, qD⟩, fun U hU hW => ⟨rfl, by rw [hU], by rw [hU]; exact hPc, va_K.moved hW.alike hKc, hDc.weaken (fun _ _ _ _ => trivial)⟩⟩ rfl rfl hl.1 rfl (lv_room (Nat.le_of_ble_eq_true rfl)) dX1_lock_29 ⟨Nat.le_of_ble_eq_true rfl, Nat.le_of_ble_eq_true rfl⟩) hS (fun q _ h => hFc q h) hFc (fun rr uS tS H1 locs htS hvm hw hB hz1 hk1 hS => ?_)
      obtain ⟨hP1, hK1, hD1⟩ := hB
      rw [htS] at hP1
      obtain ⟨hP, hD⟩ := va_join (wr := [(hb0, .inl (db, 8, .inl (fb))), (ho, .inl (dq, 8, .inl (fo))), (qw, .inl (dw, 4, .inl (F))), (h0, .inr (1, [.ref hk, .ref hb0, .ref ho])), (hk, .inl (dk, 32, .inl (fk)))]) (w1 := []) hP hD [] [0, 1, 2, 3, 4] rfl rfl (by decide) (by decide) hk1 hFc hP1 hD1
      generalize H1 = H at hP hS ⊢
      have hP : va_P (dC, dI) vwCl [(hb0, .inl (db, 8, .inl (fb))), (ho, .inl (dq, 8, .inl (fo))), (qw, .inl (dw, 4, .inl (F))), (h0, .inr (1, [.ref hk, .ref hb0, .ref ho])), (hk, .inl (dk, 32, .inl (fk)))] H := hP
      have hD : va_D A [(hb0, .inl (db, 8, .inl (fb))), (ho, .inl (dq, 8, .inl (fo))), (qw, .inl (dw, 4, .inl (F))), (h0, .inr (1, [.ref hk, .ref hb0, .ref ho])), (hk, .inl (dk, 32, .inl (fk)))] := hD
      refine W.widen (k := 1) (n := 4) (Nat.le_of_ble_eq_true rfl) (Nat.le_of_ble_eq_true rfl) ?_
      have hw : rr = nI 0 := by rw [hw, if_neg hr]
      subst hw
      refine lv_if_eq (tgt := 47) hx hb dX1_lock_32 (by decide) (fun _ => ?_) (fun q => absurd (by decide) q)
      refine lv_aload_n hx hb dX1_lock_47 rfl (lv_at hl 3 rfl) ?_
      refine lv_iconst (v := nI 3) hx hb dX1_lock_48 (by decide) ?_
      refine sk_iald (k := 3) hx hb hK hP 2 3 rfl rfl (by decide) (by decide) dX1_lock_49 ?_
      refine sk_top (y := nI qq.2.2.2) (hF 3 (by decide)) ?_
      refine lv_istore (lv' := [(6, .int (nI qq.2.2.2)), (5, .int (nI (i + 1))), (4, .int (nI (sk_g K (i) qq.1))), (0, .ref h0), (2, .ref qw), (3, .int (nI i))]) hx hb dX1_lock_50 hl (by decide) rfl (fun ls hl => ?_)
      refine lv_iload_n hx hb dX1_lock_52 rfl (lv_at hl 5 rfl) ?_
      have hPc := hP.sub (ws' := []) [] rfl
      have hDc := hD.sub (ws' := []) [] (by decide) rfl
      have hKc := hK.sub (tys' := []) [] rfl
      have hFc := va_free (wc := []) hD hS hA [] rfl
      refine va_calli (va_runS (As := [.int (nI i)]) (rest := []) ⟨hx, hb, hml, hown, hts⟩ (mod_rule l dC dI H.size (i) hk0) (va_cwS 1 hts (lw_S q321 q322 q10 q323) rfl rfl rfl (by decide +kernel) ⟨Nat.le_of_ble_eq_true rfl, Nat.le_of_ble_eq_true rfl⟩) ⟨fun a U g mk q => by obtain ⟨q0, q1, qP, qK, qD⟩ := q; exact ⟨q0, q1, qP, va_K.moved (u := U) (U := U.calling g mk a) (Vm.Alike.refl U.vm) qK, qD⟩, fun U hU hW => ⟨rfl, by rw [hU], by rw [hU]; exact hPc, va_K.moved hW.alike hKc, hDc.weaken (fun _ _ _ _ => trivial)⟩⟩ rfl rfl hl.1 rfl (lv_room (Nat.le_of_ble_eq_true rfl)) dX1_lock_53 ⟨Nat.le_of_ble_eq_true rfl, Nat.le_of_ble_eq_true rfl⟩) hS (fun q _ h => hFc q h) hFc (fun rr uS tS H1 locs htS hvm hw hB hz1 hk1 hS => ?_)
      obtain ⟨hP1, hK1, hD1⟩ := hB
      rw [htS] at hP1
      obtain ⟨hP, hD⟩ := va_join (wr := [(hb0, .inl (db, 8, .inl (fb))), (ho, .inl (dq, 8, .inl (fo))), (qw, .inl (dw, 4, .inl (F))), (h0, .inr (1, [.ref hk, .ref hb0, .ref ho])), (hk, .inl (dk, 32, .inl (fk)))]) (w1 := []) hP hD [] [0, 1, 2, 3, 4] rfl rfl (by decide) (by decide) hk1 hFc hP1 hD1
      generalize H1 = H at hP hS ⊢
      have hP : va_P (dC, dI) vwCl [(hb0, .inl (db, 8, .inl (fb))), (ho, .inl (dq, 8, .inl (fo))), (qw, .inl (dw, 4, .inl (F))), (h0, .inr (1, [.ref hk, .ref hb0, .ref ho])), (hk, .inl (dk, 32, .inl (fk)))] H := hP
      have hD : va_D A [(hb0, .inl (db, 8, .inl (fb))), (ho, .inl (dq, 8, .inl (fo))), (qw, .inl (dw, 4, .inl (F))), (h0, .inr (1, [.ref hk, .ref hb0, .ref ho])), (hk, .inl (dk, 32, .inl (fk)))] := hD
      refine W.widen (k := 1) (n := 4) (Nat.le_of_ble_eq_true rfl) (Nat.le_of_ble_eq_true rfl) ?_
      have hw : rr = nI 0 := by rw [hw, if_neg hr]
      subst hw
      refine lv_if_eq (tgt := 65) hx hb dX1_lock_56 (by decide) (fun _ => ?_) (fun q => absurd (by decide) q)
      refine lv_aload_n hx hb dX1_lock_65 rfl (lv_at hl 4 rfl) ?_
      refine lv_iconst (v := nI 0) hx hb dX1_lock_66 (by decide) ?_
      refine sk_iald (k := 0) hx hb hK hP 2 3 rfl rfl (by decide) (by decide) dX1_lock_67 ?_
      refine sk_top (y := nI qq.1) (hF 0 (by decide)) ?_
      refine lv_aload_n hx hb dX1_lock_68 rfl (lv_at hl 4 rfl) ?_
      refine lv_iconst (v := nI 1) hx hb dX1_lock_69 (by decide) ?_
      refine sk_iald (k := 1) hx hb hK hP 2 3 rfl rfl (by decide) (by decide) dX1_lock_70 ?_
      refine sk_top (y := nI qq.2.1) (hF 1 (by decide)) ?_
      refine lv_ixor hx hb dX1_lock_71 ?_
      refine lv_iload hx hb dX1_lock_72 (lv_at hl 1 rfl) ?_
      refine lv_ixor hx hb dX1_lock_74 ?_
      refine sk_top (y := nI (qq.1 ^^^ qq.2.1 ^^^ (i + 1))) (by rw [nx_xor, nx_xor]) ?_
      refine lv_istore (lv' := [(7, .int (nI (qq.1 ^^^ qq.2.1 ^^^ (i + 1)))), (6, .int (nI qq.2.2.2)), (5, .int (nI (i + 1))), (4, .int (nI (sk_g K (i) qq.1))), (0, .ref h0), (2, .ref qw), (3, .int (nI i))]) hx hb dX1_lock_75 hl (by decide) rfl (fun ls hl => ?_)
      refine lv_aload_n hx hb dX1_lock_77 rfl (lv_at hl 5 rfl) ?_
      refine lv_iconst (v := nI 3) hx hb dX1_lock_78 (by decide) ?_
      refine lv_aload_n hx hb dX1_lock_79 rfl (lv_at hl 5 rfl) ?_
      refine lv_iconst (v := nI 2) hx hb dX1_lock_80 (by decide) ?_
      refine sk_iald (k := 2) hx hb hK hP 2 3 rfl rfl (by decide) (by decide) dX1_lock_81 ?_
      refine sk_top (y := nI qq.2.2.1) (hF 2 (by decide)) ?_
      refine sk_iast (k := 3) hx hb hK hP hD hS 2 3 rfl rfl (by decide) (by decide) dX1_lock_82 (fun H locs hP hD hS => ?_)
      have hP : va_P (dC, dI) vwCl [(hb0, .inl (db, 8, .inl (fb))), (ho, .inl (dq, 8, .inl (fo))), (qw, .inl (dw, 4, .inl (upd F 3 (nI qq.2.2.1)))), (h0, .inr (1, [.ref hk, .ref hb0, .ref ho])), (hk, .inl (dk, 32, .inl (fk)))] H := hP
      have hD : va_D A [(hb0, .inl (db, 8, .inl (fb))), (ho, .inl (dq, 8, .inl (fo))), (qw, .inl (dw, 4, .inl (upd F 3 (nI qq.2.2.1)))), (h0, .inr (1, [.ref hk, .ref hb0, .ref ho])), (hk, .inl (dk, 32, .inl (fk)))] := hD
      refine lv_aload_n hx hb dX1_lock_83 rfl (lv_at hl 5 rfl) ?_
      refine lv_iconst (v := nI 2) hx hb dX1_lock_84 (by decide) ?_
      refine lv_iload hx hb dX1_lock_85 (lv_at hl 0 rfl) ?_
      refine sk_iast (k := 2) hx hb hK hP hD hS 2 3 rfl rfl (by decide) (by decide) dX1_lock_87 (fun H locs hP hD hS => ?_)
      have hP : va_P (dC, dI) vwCl [(hb0, .inl (db, 8, .inl (fb))), (ho, .inl (dq, 8, .inl (fo))), (qw, .inl (dw, 4, .inl (upd (upd F 3 (nI qq.2.2.1)) 2 (nI (qq.1 ^^^ qq.2.1 ^^^ (i + 1)))))), (h0, .inr (1, [.ref hk, .ref hb0, .ref ho])), (hk, .inl (dk, 32, .inl (fk)))] H := hP
      have hD : va_D A [(hb0, .inl (db, 8, .inl (fb))), (ho, .inl (dq, 8, .inl (fo))), (qw, .inl (dw, 4, .inl (upd (upd F 3 (nI qq.2.2.1)) 2 (nI (qq.1 ^^^ qq.2.1 ^^^ (i + 1)))))), (h0, .inr (1, [.ref hk, .ref hb0, .ref ho])), (hk, .inl (dk, 32, .inl (fk)))] := hD
      refine lv_aload_n hx hb dX1_lock_88 rfl (lv_at hl 5 rfl) ?_
      refine lv_iconst (v := nI 1) hx hb dX1_lock_89 (by decide) ?_
      refine lv_iload hx hb dX1_lock_90 (lv_at hl 3 rfl) ?_
      refine sk_iast (k := 1) hx hb hK hP hD hS 2 3 rfl rfl (by decide) (by decide) dX1_lock_92 (fun H locs hP hD hS => ?_)
      have hP : va_P (dC, dI) vwCl [(hb0, .inl (db, 8, .inl (fb))), (ho, .inl (dq, 8, .inl (fo))), (qw, .inl (dw, 4, .inl (upd (upd (upd F 3 (nI qq.2.2.1)) 2 (nI (qq.1 ^^^ qq.2.1 ^^^ (i + 1)))) 1 (nI (sk_g K (i) qq.1))))), (h0, .inr (1, [.ref hk, .ref hb0, .ref ho])), (hk, .inl (dk, 32, .inl (fk)))] H := hP
      have hD : va_D A [(hb0, .inl (db, 8, .inl (fb))), (ho, .inl (dq, 8, .inl (fo))), (qw, .inl (dw, 4, .inl (upd (upd (upd F 3 (nI qq.2.2.1)) 2 (nI (qq.1 ^^^ qq.2.1 ^^^ (i + 1)))) 1 (nI (sk_g K (i) qq.1))))), (h0, .inr (1, [.ref hk, .ref hb0, .ref ho])), (hk, .inl (dk, 32, .inl (fk)))] := hD
      refine lv_aload_n hx hb dX1_lock_93 rfl (lv_at hl 5 rfl) ?_
      refine lv_iconst (v := nI 0) hx hb dX1_lock_94 (by decide) ?_
      refine lv_iload hx hb dX1_lock_95 (lv_at hl 1 rfl) ?_
      refine sk_iast (k := 0) hx hb hK hP hD hS 2 3 rfl rfl (by decide) (by decide) dX1_lock_97 (fun H locs hP hD hS => ?_)
      have hP : va_P (dC, dI) vwCl [(hb0, .inl (db, 8, .inl (fb))), (ho, .inl (dq, 8, .inl (fo))), (qw, .inl (dw, 4, .inl (upd (upd (upd (upd F 3 (nI qq.2.2.1)) 2 (nI (qq.1 ^^^ qq.2.1 ^^^ (i + 1)))) 1 (nI (sk_g K (i) qq.1))) 0 (nI (qq.2.2.2))))), (h0, .inr (1, [.ref hk, .ref hb0, .ref ho])), (hk, .inl (dk, 32, .inl (fk)))] H := hP
      have hD : va_D A [(hb0, .inl (db, 8, .inl (fb))), (ho, .inl (dq, 8, .inl (fo))), (qw, .inl (dw, 4, .inl (upd (upd (upd (upd F 3 (nI qq.2.2.1)) 2 (nI (qq.1 ^^^ qq.2.1 ^^^ (i + 1)))) 1 (nI (sk_g K (i) qq.1))) 0 (nI (qq.2.2.2))))), (h0, .inr (1, [.ref hk, .ref hb0, .ref ho])), (hk, .inl (dk, 32, .inl (fk)))] := hD
      refine lv_iinc (v := nI (i + 1)) (lv' := [(3, .int (nI (i + 1))), (7, .int (nI (qq.1 ^^^ qq.2.1 ^^^ (i + 1)))), (6, .int (nI qq.2.2.2)), (5, .int (nI (i + 1))), (4, .int (nI (sk_g K (i) qq.1))), (0, .ref h0), (2, .ref qw)]) hx hb dX1_lock_98 hl (k := 6) rfl (nI_1 i) (by decide) rfl (fun ls hl => ?_)
      refine lv_goto (tgt := 7) hx hb dX1_lock_101 (by decide) ?_
      have hP := hP.sub (ws' := [(h0, .inr (1, [.ref hk, .ref hb0, .ref ho])), (hk, .inl (dk, 32, .inl (fk))), (hb0, .inl (db, 8, .inl (fb))), (ho, .inl (dq, 8, .inl (fo))), (qw, .inl (dw, 4, .inl (upd (upd (upd (upd F 3 (nI qq.2.2.1)) 2 (nI (qq.1 ^^^ qq.2.1 ^^^ (i + 1)))) 1 (nI (sk_g K (i) qq.1))) 0 (nI (qq.2.2.2)))))]) [3, 4, 0, 1, 2] rfl
      have hD := hD.sub (ws' := [(h0, .inr (1, [.ref hk, .ref hb0, .ref ho])), (hk, .inl (dk, 32, .inl (fk))), (hb0, .inl (db, 8, .inl (fb))), (ho, .inl (dq, 8, .inl (fo))), (qw, .inl (dw, 4, .inl (upd (upd (upd (upd F 3 (nI qq.2.2.1)) 2 (nI (qq.1 ^^^ qq.2.1 ^^^ (i + 1)))) 1 (nI (sk_g K (i) qq.1))) 0 (nI (qq.2.2.2)))))]) [3, 4, 0, 1, 2] (by decide) rfl
      have e1 : sk_st K (i) qq = sk_stB K (i) qq := if_neg hr
      rw [e1] at hih
      exact hih _ H locs ls (sk_four rfl rfl rfl rfl) hP hD hS (lv_sub hl [5, 6, 0] rfl)
set_option maxHeartbeats 1000000 in
set_option maxRecDepth 100000 in
/-- SkipjackDeskModel.X1_lock -/
theorem mod_lock (l : Launch) (dC : Nat → ClassId) (dI : Nat → Nat → Nat) (sz : Nat) (h0 hk hb0 ho : Nat) (dk db dq : ClassId) (fk fb fo : Nat → Int32) (K B : Nat → Nat) (kd : Int32) (tM : Nat) (hK0 : sk_K K) (hfk : ∀ j, j < 10 → fk j = nI (K j)) (hB : sk_B B) (hfb : ∀ j, j < 8 → fb j = nI (B j)) : Met l yX1_lock (ws_ yX1_lock cX1_lock 8 none) ({ frames := 1, cells := 1, slots := 4, locals := 26 }) (va_Pc [.ref h0, .int kd] (fun U => U.heap.size = sz ∧ va_P (dC, dI) vwCl [(h0, .inr (1, [.ref hk, .ref hb0, .ref ho])), (hk, .inl (dk, 32, .inl (fk))), (hb0, .inl (db, 8, .inl (fb))), (ho, .inl (dq, 8, .inl (fo)))] U.heap ∧ va_K (dC, dI) vwCl [(dk, .int), (db, .int), (dq, .int)] U ∧ va_D (fun _ => True) [(h0, .inr (1, [.ref hk, .ref hb0, .ref ho])), (hk, .inl (dk, 32, .inl (fk))), (hb0, .inl (db, 8, .inl (fb))), (ho, .inl (dq, 8, .inl (fo)))] ∧ sk_TM tM (va_A [(h0, .inr (1, [.ref hk, .ref hb0, .ref ho])), (hk, .inl (dk, 32, .inl (fk))), (hb0, .inl (db, 8, .inl (fb))), (ho, .inl (dq, 8, .inl (fo)))] sz) U)) (va_Qv (fun (_ : Unit) => True) (fun (_ : Unit) (t : State) => va_P (dC, dI) vwCl [(h0, .inr (1, [.ref hk, .ref hb0, .ref ho])), (hk, .inl (dk, 32, .inl (fk))), (hb0, .inl (db, 8, .inl (fb))), (ho, .inl (dq, 8, .inl (sk_fill (fun j => nI (sk_by (sk_enc K 32 (sk_wd B)) j)) fo 8)))] t.heap ∧ va_K (dC, dI) vwCl [(dk, .int), (db, .int), (dq, .int)] t ∧ va_D (va_A [(h0, .inr (1, [.ref hk, .ref hb0, .ref ho])), (hk, .inl (dk, 32, .inl (fk))), (hb0, .inl (db, 8, .inl (fb))), (ho, .inl (dq, 8, .inl (fo)))] sz) [(h0, .inr (1, [.ref hk, .ref hb0, .ref ho])), (hk, .inl (dk, 32, .inl (fk))), (hb0, .inl (db, 8, .inl (fb))), (ho, .inl (dq, 8, .inl (sk_fill (fun j => nI (sk_by (sk_enc K 32 (sk_wd B)) j)) fo 8)))]) (va_A [(h0, .inr (1, [.ref hk, .ref hb0, .ref ho])), (hk, .inl (dk, 32, .inl (fk))), (hb0, .inl (db, 8, .inl (fb))), (ho, .inl (dq, 8, .inl (fo)))] sz)) 1 4 (va_A [(h0, .inr (1, [.ref hk, .ref hb0, .ref ho])), (hk, .inl (dk, 32, .inl (fk))), (hb0, .inl (db, 8, .inl (fb))), (ho, .inl (dq, 8, .inl (fo)))] sz) := by
  refine Met.ofW (cc := cX1_lock) (maxL := 8) (ret := none) (by decide) rfl ?_
  intro p e s m args below meth c s₁ BO hml hv
  obtain ⟨rfl, hsz, hP, hK, hD0, hT⟩ := hv
  have hx := BO.exec
  have hb := BO.bytes
  have hr := BO.returns
  have hts := atoms_spec (ws := (ws_ yX1_lock cX1_lock 8 none)) BO.pre
  have hts : ∀ w ∈ lw_all, w.before _ s = true := fun w h => hts w (List.mem_cons_of_mem _ h)
  have hown : s.vm.findClass RX1 = some m.cls := findClass_of_methodNamed BO.named
  have hlocks := BO.notSynchronized
  subst hsz
  have hD := hD0.self (sz := s.heap.size)
  generalize hAe : va_A [(h0, .inr (1, [.ref hk, .ref hb0, .ref ho])), (hk, .inl (dk, 32, .inl (fk))), (hb0, .inl (db, 8, .inl (fb))), (ho, .inl (dq, 8, .inl (fo)))] s.heap.size = A at hD hT ⊢
  have hA : ∀ q : Nat, s.heap.size ≤ q → A q := fun q h => by rw [← hAe]; exact Or.inr h
  have hS : va_S A s.heap s.heap [] := va_S.rf
  have hP : va_P (dC, dI) vwCl [(h0, .inr (1, [.ref hk, .ref hb0, .ref ho])), (hk, .inl (dk, 32, .inl (fk))), (hb0, .inl (db, 8, .inl (fb))), (ho, .inl (dq, 8, .inl (fo)))] s.heap := hP
  have hl := lv_entry ([.ref h0, .int kd]) (n := 8) (Nat.le_of_ble_eq_true rfl)
  rw [lg_entry_eq]
  generalize (lg_sl ([.ref h0, .int kd]) ++ List.replicate (8 - (lg_sl ([.ref h0, .int kd])).length) Slot.unset).toArray = ls at hl ⊢
  have hl : lv_has ls 8 [(0, .ref h0), (1, .int kd)] := hl
  refine lv_aload_n hx hb dX1_lock_0 rfl (lv_at hl 0 rfl) ?_
  have hPc := hP.sub (ws' := [(h0, .inr (1, [.ref hk, .ref hb0, .ref ho])), (hb0, .inl (db, 8, .inl (fb)))]) [0, 2] rfl
  have hDc := hD.sub (ws' := [(h0, .inr (1, [.ref hk, .ref hb0, .ref ho])), (hb0, .inl (db, 8, .inl (fb)))]) [0, 2] (by decide) rfl
  have hKc := hK.sub (tys' := [(db, .int)]) [1] rfl
  have hFc := va_free (wc := [(h0, .inr (1, [.ref hk, .ref hb0, .ref ho])), (hb0, .inl (db, 8, .inl (fb)))]) hD hS hA [0, 2] rfl
  refine va_callr (va_runV (As := []) (rest := []) ⟨hx, hb, hml, hown, hts⟩ (mod_words l dC dI s.heap.size h0 hk hb0 ho db fb B hB hfb) (cwV 0 hts (lw_V q311 q313 qs4 q10 q314) rfl rfl rfl (by decide +kernel) ⟨Nat.le_of_ble_eq_true rfl, Nat.le_of_ble_eq_true rfl⟩) ⟨fun a U g mk q => by obtain ⟨q0, q1, qP, qK, qD⟩ := q; exact ⟨q0, q1, qP, va_K.moved (u := U) (U := U.calling g mk a) (Vm.Alike.refl U.vm) qK, qD⟩, va_recv hKc hPc (ci := 1) (q0 := 0) rfl rfl, fun U hU hW => ⟨rfl, by rw [hU], by rw [hU]; exact hPc, va_K.moved hW.alike hKc, hDc.weaken (fun _ _ _ _ => trivial)⟩⟩ rfl rfl hl.1 rfl (lv_room (Nat.le_of_ble_eq_true rfl)) dX1_lock_1 ⟨Nat.le_of_ble_eq_true rfl, Nat.le_of_ble_eq_true rfl⟩) hS (fun q _ h => hFc q h) hFc (fun uS qw tS H1 locs htS hvm hw hB hz1 hk1 hS => ?_)
  obtain ⟨dw, hP1, hK1, hD1⟩ := hB
  rw [htS] at hP1
  obtain ⟨hP, hD⟩ := va_join (wr := [(hk, .inl (dk, 32, .inl (fk))), (ho, .inl (dq, 8, .inl (fo)))]) (w1 := [(h0, .inr (1, [.ref hk, .ref hb0, .ref ho])), (hb0, .inl (db, 8, .inl (fb))), (qw, .inl (dw, 4, .inl (sk_fill (fun j => nI (sk_wi (sk_wd B) j)) (fun _ => 0) 4)))]) hP hD [0, 2] [1, 3] rfl rfl (by decide) (by decide) hk1 hFc hP1 hD1
  have hK1 := va_K.moved hvm.symm hK1
  have hK := hK.app hK1
  generalize H1 = H at hP hS ⊢
  have hP : va_P (dC, dI) vwCl [(hk, .inl (dk, 32, .inl (fk))), (ho, .inl (dq, 8, .inl (fo))), (h0, .inr (1, [.ref hk, .ref hb0, .ref ho])), (hb0, .inl (db, 8, .inl (fb))), (qw, .inl (dw, 4, .inl (sk_fill (fun j => nI (sk_wi (sk_wd B) j)) (fun _ => 0) 4)))] H := hP
  have hD : va_D A [(hk, .inl (dk, 32, .inl (fk))), (ho, .inl (dq, 8, .inl (fo))), (h0, .inr (1, [.ref hk, .ref hb0, .ref ho])), (hb0, .inl (db, 8, .inl (fb))), (qw, .inl (dw, 4, .inl (sk_fill (fun j => nI (sk_wi (sk_wd B) j)) (fun _ => 0) 4)))] := hD
  have hK : va_K (dC, dI) vwCl [(dk, .int), (db, .int), (dq, .int), (db, .int), (dw, .int)] s := hK
  refine W.widen (k := 1) (n := 4) (Nat.le_of_ble_eq_true rfl) (Nat.le_of_ble_eq_true rfl) ?_
  refine lv_astore_n (lv' := [(2, .ref qw), (0, .ref h0), (1, .int kd)]) hx hb dX1_lock_4 rfl hl (by decide) rfl (fun ls hl => ?_)
  refine lv_iconst (v := nI 0) hx hb dX1_lock_5 (by decide) ?_
  refine sk_top (y := nI 0) (rfl) ?_
  refine lv_istore_n (lv' := [(3, .int (nI 0)), (2, .ref qw), (0, .ref h0), (1, .int kd)]) hx hb dX1_lock_6 rfl hl (by decide) rfl (fun ls hl => ?_)
  have hP := hP.sub (ws' := [(h0, .inr (1, [.ref hk, .ref hb0, .ref ho])), (hk, .inl (dk, 32, .inl (fk))), (hb0, .inl (db, 8, .inl (fb))), (ho, .inl (dq, 8, .inl (fo))), (qw, .inl (dw, 4, .inl (sk_fill (fun j => nI (sk_wi (sk_wd B) j)) (fun _ => 0) 4)))]) [2, 0, 3, 1, 4] rfl
  have hD := hD.sub (ws' := [(h0, .inr (1, [.ref hk, .ref hb0, .ref ho])), (hk, .inl (dk, 32, .inl (fk))), (hb0, .inl (db, 8, .inl (fb))), (ho, .inl (dq, 8, .inl (fo))), (qw, .inl (dw, 4, .inl (sk_fill (fun j => nI (sk_wi (sk_wd B) j)) (fun _ => 0) 4)))]) [2, 0, 3, 1, 4] (by decide) rfl
  have hK := hK.sub (tys' := [(dk, .int), (db, .int), (dq, .int), (dw, .int)]) [0, 1, 2, 4] rfl
  refine mod_lock_lp h0 hk hb0 ho dk db dq fk fb fo K B qw tM dw hx hb hml hown hts hK hA hT hK0 hfk hB hfb ?_ 32 0 (by decide) (sk_fill (fun j => nI (sk_wi (sk_wd B) j)) (fun _ => 0) 4) _ _ ls (fun j hj => sk_fill_lt hj) hP hD hS (lv_sub hl [2, 1, 0] rfl)
  intro F H locs ls hF hP hD hS hl
  have hq := sk_enc_ok hK0 (sk_wd_ok hB) 32 (by decide)
  refine lv_aload_n hx hb dX1_lock_104 rfl (lv_at hl 0 rfl) ?_
  refine lv_aload_n hx hb dX1_lock_105 rfl (lv_at hl 1 rfl) ?_
  have hPc := hP.sub (ws' := [(h0, .inr (1, [.ref hk, .ref hb0, .ref ho])), (ho, .inl (dq, 8, .inl (fo))), (qw, .inl (dw, 4, .inl (F)))]) [0, 3, 4] rfl
  have hDc := hD.sub (ws' := [(h0, .inr (1, [.ref hk, .ref hb0, .ref ho])), (ho, .inl (dq, 8, .inl (fo))), (qw, .inl (dw, 4, .inl (F)))]) [0, 3, 4] (by decide) rfl
  have hKc := hK.sub (tys' := [(dq, .int), (dw, .int)]) [2, 3] rfl
  have hFc := va_free (wc := [(h0, .inr (1, [.ref hk, .ref hb0, .ref ho])), (ho, .inl (dq, 8, .inl (fo))), (qw, .inl (dw, 4, .inl (F)))]) hD hS hA [0, 3, 4] rfl
  refine va_callv (va_runV (As := [.ref qw]) (rest := []) ⟨hx, hb, hml, hown, hts⟩ (mod_lays l dC dI H.size h0 hk hb0 ho qw dq dw fo F (sk_enc K 32 (sk_wd B)) hq hF) (cwV 1 hts (lw_V q324 q326 qs6 q10 q327) rfl rfl rfl (by decide +kernel) ⟨Nat.le_of_ble_eq_true rfl, Nat.le_of_ble_eq_true rfl⟩) ⟨fun a U g mk q => by obtain ⟨q0, q1, qP, qK, qD⟩ := q; exact ⟨q0, q1, qP, va_K.moved (u := U) (U := U.calling g mk a) (Vm.Alike.refl U.vm) qK, qD⟩, va_recv hKc hPc (ci := 1) (q0 := 0) rfl rfl, fun U hU hW => ⟨rfl, by rw [hU], by rw [hU]; exact hPc, va_K.moved hW.alike hKc, hDc.weaken (fun _ _ _ _ => trivial)⟩⟩ rfl rfl hl.1 rfl (lv_room (Nat.le_of_ble_eq_true rfl)) dX1_lock_106 ⟨Nat.le_of_ble_eq_true rfl, Nat.le_of_ble_eq_true rfl⟩) hS (fun q _ h => hFc q h) hFc (fun uS tS H1 locs htS hvm hw hB hz1 hk1 hS => ?_)
  obtain ⟨hP1, hK1, hD1⟩ := hB
  rw [htS] at hP1
  obtain ⟨hP, hD⟩ := va_join (wr := [(hk, .inl (dk, 32, .inl (fk))), (hb0, .inl (db, 8, .inl (fb)))]) (w1 := [(h0, .inr (1, [.ref hk, .ref hb0, .ref ho])), (ho, .inl (dq, 8, .inl (sk_fill (fun j => nI (sk_by (sk_enc K 32 (sk_wd B)) j)) fo 8))), (qw, .inl (dw, 4, .inl (F)))]) hP hD [0, 3, 4] [1, 2] rfl rfl (by decide) (by decide) hk1 hFc hP1 hD1
  generalize H1 = H at hP hS ⊢
  have hP : va_P (dC, dI) vwCl [(hk, .inl (dk, 32, .inl (fk))), (hb0, .inl (db, 8, .inl (fb))), (h0, .inr (1, [.ref hk, .ref hb0, .ref ho])), (ho, .inl (dq, 8, .inl (sk_fill (fun j => nI (sk_by (sk_enc K 32 (sk_wd B)) j)) fo 8))), (qw, .inl (dw, 4, .inl (F)))] H := hP
  have hD : va_D A [(hk, .inl (dk, 32, .inl (fk))), (hb0, .inl (db, 8, .inl (fb))), (h0, .inr (1, [.ref hk, .ref hb0, .ref ho])), (ho, .inl (dq, 8, .inl (sk_fill (fun j => nI (sk_by (sk_enc K 32 (sk_wd B)) j)) fo 8))), (qw, .inl (dw, 4, .inl (F)))] := hD
  refine W.widen (k := 1) (n := 4) (Nat.le_of_ble_eq_true rfl) (Nat.le_of_ble_eq_true rfl) ?_
  have hP9 := hP.sub (ws' := [(h0, .inr (1, [.ref hk, .ref hb0, .ref ho])), (hk, .inl (dk, 32, .inl (fk))), (hb0, .inl (db, 8, .inl (fb))), (ho, .inl (dq, 8, .inl (sk_fill (fun j => nI (sk_by (sk_enc K 32 (sk_wd B)) j)) fo 8)))]) [2, 0, 1, 3] rfl
  have hD9 := hD.sub (ws' := [(h0, .inr (1, [.ref hk, .ref hb0, .ref ho])), (hk, .inl (dk, 32, .inl (fk))), (hb0, .inl (db, 8, .inl (fb))), (ho, .inl (dq, 8, .inl (sk_fill (fun j => nI (sk_by (sk_enc K 32 (sk_wd B)) j)) fo 8)))]) [2, 0, 1, 3] (by decide) rfl
  have hK9 := hK.sub (tys' := [(dk, .int), (db, .int), (dq, .int)]) [0, 1, 2] rfl
  exact W.vret hx hb hr (fun t ht hW => ⟨⟨(), rfl, trivial, by rw [ht]; exact hP9, va_K.moved hW.alike hK9, hD9⟩, hS.F ht⟩) hS.2.2 dX1_lock_109
set_option maxHeartbeats 1000000 in
set_option maxRecDepth 100000 in
theorem mod_open_lp {p : Program} {l : Launch} {e : Env} {s : State} {m : MethodId} {args : Array Value} {below : List Frame} {meth : Method} {c : Code} {dC : Nat → ClassId} {dI : Nat → Nat → Nat} {A : Nat → Prop} {Q : State → Prop} (h0 hk hb0 ho : Nat) (dk db dq : ClassId) (fk fb fo : Nat → Int32) (K B : Nat → Nat) (qw tM : Nat) (dw : ClassId) (hx : p.tables.exec = Jvm.exec) (hb : c.code = cX1_open) (hml : c.maxLocals = 8) (hown : s.vm.findClass RX1 = some m.cls) (hts : ∀ w ∈ lw_all, w.before args s = true) (hK : va_K (dC, dI) vwCl [(dk, .int), (db, .int), (dq, .int), (dw, .int)] s) (hA : ∀ q : Nat, s.heap.size ≤ q → A q) (hT : sk_TM tM A s) (hK0 : sk_K K) (hfk : ∀ j, j < 10 → fk j = nI (K j)) (hB : sk_B B) (hfb : ∀ j, j < 8 → fb j = nI (B j))
    (hend : ∀ (F : Nat → Int32) (H : Heap) (locs : List Loc) (ls : Array Slot), sk_W4 F (sk_dec K 32 (sk_wd B)) → va_P (dC, dI) vwCl [(h0, .inr (1, [.ref hk, .ref hb0, .ref ho])), (hk, .inl (dk, 32, .inl (fk))), (hb0, .inl (db, 8, .inl (fb))), (ho, .inl (dq, 8, .inl (fo))), (qw, .inl (dw, 4, .inl (F)))] H → va_D A [(h0, .inr (1, [.ref hk, .ref hb0, .ref ho])), (hk, .inl (dk, 32, .inl (fk))), (hb0, .inl (db, 8, .inl (fb))), (ho, .inl (dq, 8, .inl (fo))), (qw, .inl (dw, 4, .inl (F)))] → va_S A s.heap H locs → lv_has ls 8 [(0, .ref h0), (2, .ref qw), (3, .int (nI (32 - 32) - 1))] → W p l e (headSpec (ws_ yX1_open cX1_open 8 none) ({ frames := 1, cells := 1, slots := 4, locals := 26 })).room s m args below meth c H locs 1 4 Q (F0 m 103 ls [])) :
    ∀ (n i : Nat), i + n = 32 → ∀ (F : Nat → Int32) (H : Heap) (locs : List Loc) (ls : Array Slot), sk_W4 F (sk_dec K i (sk_wd B)) → va_P (dC, dI) vwCl [(h0, .inr (1, [.ref hk, .ref hb0, .ref ho])), (hk, .inl (dk, 32, .inl (fk))), (hb0, .inl (db, 8, .inl (fb))), (ho, .inl (dq, 8, .inl (fo))), (qw, .inl (dw, 4, .inl (F)))] H → va_D A [(h0, .inr (1, [.ref hk, .ref hb0, .ref ho])), (hk, .inl (dk, 32, .inl (fk))), (hb0, .inl (db, 8, .inl (fb))), (ho, .inl (dq, 8, .inl (fo))), (qw, .inl (dw, 4, .inl (F)))] → va_S A s.heap H locs → lv_has ls 8 [(0, .ref h0), (2, .ref qw), (3, .int (nI (32 - i) - 1))] → W p l e (headSpec (ws_ yX1_open cX1_open 8 none) ({ frames := 1, cells := 1, slots := 4, locals := 26 })).room s m args below meth c H locs 1 4 Q (F0 m 8 ls []) := by
  intro n
  induction n with
  | zero =>
    intro i hi F H locs ls hF hP hD hS hl
    have hi : i = 32 := by omega
    subst hi
    have e3 : nI (32 - 32) - 1 = -1 := by decide
    rw [e3] at hl
    refine lv_iload_n hx hb dX1_open_8 rfl (lv_at hl 2 rfl) ?_
    refine sk_ltY (tgt := 103) hx hb dX1_open_9 (by decide) ?_
    rw [← e3] at hl
    exact hend F H locs ls hF hP hD hS hl
  | succ n ih =>
    intro i hi F H locs ls hF hP hD hS hl
    have hk0 : 31 - i < 32 := by omega
    have hq := sk_dec_ok hK0 (sk_wd_ok hB) i (by omega)
    have hih := ih (i + 1) (by omega)
    have hnx : sk_dec K (i + 1) (sk_wd B) = sk_un K (31 - i) (sk_dec K i (sk_wd B)) := rfl
    rw [hnx] at hih
    generalize sk_dec K i (sk_wd B) = qq at hF hq hih
    have e3 : nI (32 - i) - 1 = nI (31 - i) := by rw [show 32 - i = (31 - i) + 1 by omega]; exact nI_pred _
    rw [e3] at hl
    refine lv_iload_n hx hb dX1_open_8 rfl (lv_at hl 2 rfl) ?_
    refine sk_ltN (tgt := 103) hx hb (show 31 - i < 2 ^ 31 by omega) dX1_open_9 (by decide) ?_
    refine lv_aload_n hx hb dX1_open_12 rfl (lv_at hl 0 rfl) ?_
    refine lv_aload_n hx hb dX1_open_13 rfl (lv_at hl 1 rfl) ?_
    refine lv_iconst (v := nI 1) hx hb dX1_open_14 (by decide) ?_
    refine sk_iald (k := 1) hx hb hK hP 4 3 rfl rfl (by decide) (by decide) dX1_open_15 ?_
    refine sk_top (y := nI qq.2.1) (hF 1 (by decide)) ?_
    refine lv_iload_n hx hb dX1_open_16 rfl (lv_at hl 2 rfl) ?_
    have hPc := hP.sub (ws' := [(h0, .inr (1, [.ref hk, .ref hb0, .ref ho])), (hk, .inl (dk, 32, .inl (fk)))]) [0, 1] rfl
    have hDc := hD.sub (ws' := [(h0, .inr (1, [.ref hk, .ref hb0, .ref ho])), (hk, .inl (dk, 32, .inl (fk)))]) [0, 1] (by decide) rfl
    have hKc := hK.sub (tys' := [(dk, .int)]) [0] rfl
    have hFc := va_free (wc := [(h0, .inr (1, [.ref hk, .ref hb0, .ref ho])), (hk, .inl (dk, 32, .inl (fk)))]) hD hS hA [0, 1] rfl
    refine va_calli (va_runV (As := [.int (nI qq.2.1), .int (nI (31 - i))]) (rest := []) ⟨hx, hb, hml, hown, hts⟩ (mod_unG l dC dI H.size h0 hk hb0 ho dk fk K tM qq.2.1 (31 - i) hK0 hfk hq.2.1 hk0) (cwV 2 hts (lw_V q332 q334 qs7 q10 q335) rfl rfl rfl (by decide +kernel) ⟨Nat.le_of_ble_eq_true rfl, Nat.le_of_ble_eq_true rfl⟩) ⟨fun a U g mk q => by obtain ⟨q0, q1, qP, qK, qD, qT0⟩ := q; exact ⟨q0, q1, qP, va_K.moved (u := U) (U := U.calling g mk a) (Vm.Alike.refl U.vm) qK, qD, qT0.calling⟩, va_recv hKc hPc (ci := 1) (q0 := 0) rfl rfl, fun U hU hW => ⟨rfl, by rw [hU], by rw [hU]; exact hPc, va_K.moved hW.alike hKc, hDc.weaken (fun _ _ _ _ => trivial), hT.call hW.alike hU hS hFc⟩⟩ rfl rfl hl.1 rfl (lv_room (Nat.le_of_ble_eq_true rfl)) dX1_open_17 ⟨Nat.le_of_ble_eq_true rfl, Nat.le_of_ble_eq_true rfl⟩) hS (fun q _ h => hFc q h) hFc (fun gg uS tS H1 locs htS hvm hw hB hz1 hk1 hS => ?_)
    obtain ⟨hP1, hK1, hD1⟩ := hB
    rw [htS] at hP1
    obtain ⟨hP, hD⟩ := va_join (wr := [(hb0, .inl (db, 8, .inl (fb))), (ho, .inl (dq, 8, .inl (fo))), (qw, .inl (dw, 4, .inl (F)))]) (w1 := [(h0, .inr (1, [.ref hk, .ref hb0, .ref ho])), (hk, .inl (dk, 32, .inl (fk)))]) hP hD [0, 1] [2, 3, 4] rfl rfl (by decide) (by decide) hk1 hFc hP1 hD1
    generalize H1 = H at hP hS ⊢
    have hP : va_P (dC, dI) vwCl [(hb0, .inl (db, 8, .inl (fb))), (ho, .inl (dq, 8, .inl (fo))), (qw, .inl (dw, 4, .inl (F))), (h0, .inr (1, [.ref hk, .ref hb0, .ref ho])), (hk, .inl (dk, 32, .inl (fk)))] H := hP
    have hD : va_D A [(hb0, .inl (db, 8, .inl (fb))), (ho, .inl (dq, 8, .inl (fo))), (qw, .inl (dw, 4, .inl (F))), (h0, .inr (1, [.ref hk, .ref hb0, .ref ho])), (hk, .inl (dk, 32, .inl (fk)))] := hD
    refine W.widen (k := 1) (n := 4) (Nat.le_of_ble_eq_true rfl) (Nat.le_of_ble_eq_true rfl) ?_
    have hw : gg = nI (sk_h K (31 - i) qq.2.1) := hw
    subst hw
    refine lv_istore (lv' := [(4, .int (nI (sk_h K (31 - i) qq.2.1))), (0, .ref h0), (2, .ref qw), (3, .int (nI (31 - i)))]) hx hb dX1_open_20 hl (by decide) rfl (fun ls hl => ?_)
    refine lv_iload_n hx hb dX1_open_22 rfl (lv_at hl 3 rfl) ?_
    refine lv_iconst (v := nI 1) hx hb dX1_open_23 (by decide) ?_
    refine lv_iadd hx hb dX1_open_24 ?_
    refine sk_top (y := nI ((31 - i) + 1)) (nI_add _ 1) ?_
    refine lv_istore (lv' := [(5, .int (nI ((31 - i) + 1))), (4, .int (nI (sk_h K (31 - i) qq.2.1))), (0, .ref h0), (2, .ref qw), (3, .int (nI (31 - i)))]) hx hb dX1_open_25 hl (by decide) rfl (fun ls hl => ?_)
    by_cases hr : (31 - i) / 8 % 2 = 0
    · skip
      refine lv_iload_n hx hb dX1_open_27 rfl (lv_at hl 4 rfl) ?_
      have hPc := hP.sub (ws' := []) [] rfl
      have hDc := hD.sub (ws' := []) [] (by decide) rfl
      have hKc := hK.sub (tys' := []) [] rfl
      have hFc := va_free (wc := []) hD hS hA [] rfl
      refine va_calli (va_runS (As := [.int (nI (31 - i))]) (rest := []) ⟨hx, hb, hml, hown, hts⟩ (mod_rule l dC dI H.size (31 - i) hk0) (va_cwS 1 hts (lw_S q321 q322 q10 q323) rfl rfl rfl (by decide +kernel) ⟨Nat.le_of_ble_eq_true rfl, Nat.le_of_ble_eq_true rfl⟩) ⟨fun a U g mk q => by obtain ⟨q0, q1, qP, qK, qD⟩ := q; exact ⟨q0, q1, qP, va_K.moved (u := U) (U := U.calling g mk a) (Vm.Alike.refl U.vm) qK, qD⟩, fun U hU hW => ⟨rfl, by rw [hU], by rw [hU]; exact hPc, va_K.moved hW.alike hKc, hDc.weaken (fun _ _ _ _ => trivial)⟩⟩ rfl rfl hl.1 rfl (lv_room (Nat.le_of_ble_eq_true rfl)) dX1_open_28 ⟨Nat.le_of_ble_eq_true rfl, Nat.le_of_ble_eq_true rfl⟩) hS (fun q _ h => hFc q h) hFc (fun rr uS tS H1 locs htS hvm hw hB hz1 hk1 hS => ?_)
      obtain ⟨hP1, hK1, hD1⟩ := hB
      rw [htS] at hP1
      obtain ⟨hP, hD⟩ := va_join (wr := [(hb0, .inl (db, 8, .inl (fb))), (ho, .inl (dq, 8, .inl (fo))), (qw, .inl (dw, 4, .inl (F))), (h0, .inr (1, [.ref hk, .ref hb0, .ref ho])), (hk, .inl (dk, 32, .inl (fk)))]) (w1 := []) hP hD [] [0, 1, 2, 3, 4] rfl rfl (by decide) (by decide) hk1 hFc hP1 hD1
      generalize H1 = H at hP hS ⊢
      have hP : va_P (dC, dI) vwCl [(hb0, .inl (db, 8, .inl (fb))), (ho, .inl (dq, 8, .inl (fo))), (qw, .inl (dw, 4, .inl (F))), (h0, .inr (1, [.ref hk, .ref hb0, .ref ho])), (hk, .inl (dk, 32, .inl (fk)))] H := hP
      have hD : va_D A [(hb0, .inl (db, 8, .inl (fb))), (ho, .inl (dq, 8, .inl (fo))), (qw, .inl (dw, 4, .inl (F))), (h0, .inr (1, [.ref hk, .ref hb0, .ref ho])), (hk, .inl (dk, 32, .inl (fk)))] := hD
      refine W.widen (k := 1) (n := 4) (Nat.le_of_ble_eq_true rfl) (Nat.le_of_ble_eq_true rfl) ?_
      have hw : rr = nI 1 := by rw [hw, if_pos hr]
      subst hw
      refine lv_if_eq (tgt := 40) hx hb dX1_open_31 (by decide) (fun q => absurd q (by decide)) (fun _ => ?_)
      refine lv_aload_n hx hb dX1_open_34 rfl (lv_at hl 3 rfl) ?_
      refine lv_iconst (v := nI 2) hx hb dX1_open_35 (by decide) ?_
      refine sk_iald (k := 2) hx hb hK hP 2 3 rfl rfl (by decide) (by decide) dX1_open_36 ?_
      refine sk_top (y := nI qq.2.2.1) (hF 2 (by decide)) ?_
      refine lv_goto (tgt := 49) hx hb dX1_open_37 (by decide) ?_
      refine lv_istore (lv' := [(6, .int (nI qq.2.2.1)), (5, .int (nI ((31 - i) + 1))), (4, .int (nI (sk_h K (31 - i) qq.2.1))), (0, .ref h0), (2, .ref qw), (3, .int (nI (31 - i)))]) hx hb dX1_open_49 hl (by decide) rfl (fun ls hl => ?_)
      refine lv_iload_n hx hb dX1_open_51 rfl (lv_at hl 5 rfl) ?_
      have hPc := hP.sub (ws' := []) [] rfl
      have hDc := hD.sub (ws' := []) [] (by decide) rfl
      have hKc := hK.sub (tys' := []) [] rfl
      have hFc := va_free (wc := []) hD hS hA [] rfl
      refine va_calli (va_runS (As := [.int (nI (31 - i))]) (rest := []) ⟨hx, hb, hml, hown, hts⟩ (mod_rule l dC dI H.size (31 - i) hk0) (va_cwS 1 hts (lw_S q321 q322 q10 q323) rfl rfl rfl (by decide +kernel) ⟨Nat.le_of_ble_eq_true rfl, Nat.le_of_ble_eq_true rfl⟩) ⟨fun a U g mk q => by obtain ⟨q0, q1, qP, qK, qD⟩ := q; exact ⟨q0, q1, qP, va_K.moved (u := U) (U := U.calling g mk a) (Vm.Alike.refl U.vm) qK, qD⟩, fun U hU hW => ⟨rfl, by rw [hU], by rw [hU]; exact hPc, va_K.moved hW.alike hKc, hDc.weaken (fun _ _ _ _ => trivial)⟩⟩ rfl rfl hl.1 rfl (lv_room (Nat.le_of_ble_eq_true rfl)) dX1_open_52 ⟨Nat.le_of_ble_eq_true rfl, Nat.le_of_ble_eq_true rfl⟩) hS (fun q _ h => hFc q h) hFc (fun rr uS tS H1 locs htS hvm hw hB hz1 hk1 hS => ?_)
      obtain ⟨hP1, hK1, hD1⟩ := hB
      rw [htS] at hP1
      obtain ⟨hP, hD⟩ := va_join (wr := [(hb0, .inl (db, 8, .inl (fb))), (ho, .inl (dq, 8, .inl (fo))), (qw, .inl (dw, 4, .inl (F))), (h0, .inr (1, [.ref hk, .ref hb0, .ref ho])), (hk, .inl (dk, 32, .inl (fk)))]) (w1 := []) hP hD [] [0, 1, 2, 3, 4] rfl rfl (by decide) (by decide) hk1 hFc hP1 hD1
      generalize H1 = H at hP hS ⊢
      have hP : va_P (dC, dI) vwCl [(hb0, .inl (db, 8, .inl (fb))), (ho, .inl (dq, 8, .inl (fo))), (qw, .inl (dw, 4, .inl (F))), (h0, .inr (1, [.ref hk, .ref hb0, .ref ho])), (hk, .inl (dk, 32, .inl (fk)))] H := hP
      have hD : va_D A [(hb0, .inl (db, 8, .inl (fb))), (ho, .inl (dq, 8, .inl (fo))), (qw, .inl (dw, 4, .inl (F))), (h0, .inr (1, [.ref hk, .ref hb0, .ref ho])), (hk, .inl (dk, 32, .inl (fk)))] := hD
      refine W.widen (k := 1) (n := 4) (Nat.le_of_ble_eq_true rfl) (Nat.le_of_ble_eq_true rfl) ?_
      have hw : rr = nI 1 := by rw [hw, if_pos hr]
      subst hw
      refine lv_if_eq (tgt := 71) hx hb dX1_open_55 (by decide) (fun q => absurd q (by decide)) (fun _ => ?_)
      refine lv_aload_n hx hb dX1_open_58 rfl (lv_at hl 4 rfl) ?_
      refine lv_iconst (v := nI 0) hx hb dX1_open_59 (by decide) ?_
      refine sk_iald (k := 0) hx hb hK hP 2 3 rfl rfl (by decide) (by decide) dX1_open_60 ?_
      refine sk_top (y := nI qq.1) (hF 0 (by decide)) ?_
      refine lv_aload_n hx hb dX1_open_61 rfl (lv_at hl 4 rfl) ?_
      refine lv_iconst (v := nI 1) hx hb dX1_open_62 (by decide) ?_
      refine sk_iald (k := 1) hx hb hK hP 2 3 rfl rfl (by decide) (by decide) dX1_open_63 ?_
      refine sk_top (y := nI qq.2.1) (hF 1 (by decide)) ?_
      refine lv_ixor hx hb dX1_open_64 ?_
      refine lv_iload hx hb dX1_open_65 (lv_at hl 1 rfl) ?_
      refine lv_ixor hx hb dX1_open_67 ?_
      refine lv_goto (tgt := 74) hx hb dX1_open_68 (by decide) ?_
      refine sk_top (y := nI (qq.1 ^^^ qq.2.1 ^^^ ((31 - i) + 1))) (by rw [nx_xor, nx_xor]) ?_
      refine lv_istore (lv' := [(7, .int (nI (qq.1 ^^^ qq.2.1 ^^^ ((31 - i) + 1)))), (6, .int (nI qq.2.2.1)), (5, .int (nI ((31 - i) + 1))), (4, .int (nI (sk_h K (31 - i) qq.2.1))), (0, .ref h0), (2, .ref qw), (3, .int (nI (31 - i)))]) hx hb dX1_open_74 hl (by decide) rfl (fun ls hl => ?_)
      refine lv_aload_n hx hb dX1_open_76 rfl (lv_at hl 5 rfl) ?_
      refine lv_iconst (v := nI 2) hx hb dX1_open_77 (by decide) ?_
      refine lv_aload_n hx hb dX1_open_78 rfl (lv_at hl 5 rfl) ?_
      refine lv_iconst (v := nI 3) hx hb dX1_open_79 (by decide) ?_
      refine sk_iald (k := 3) hx hb hK hP 2 3 rfl rfl (by decide) (by decide) dX1_open_80 ?_
      refine sk_top (y := nI qq.2.2.2) (hF 3 (by decide)) ?_
      refine sk_iast (k := 2) hx hb hK hP hD hS 2 3 rfl rfl (by decide) (by decide) dX1_open_81 (fun H locs hP hD hS => ?_)
      have hP : va_P (dC, dI) vwCl [(hb0, .inl (db, 8, .inl (fb))), (ho, .inl (dq, 8, .inl (fo))), (qw, .inl (dw, 4, .inl (upd F 2 (nI qq.2.2.2)))), (h0, .inr (1, [.ref hk, .ref hb0, .ref ho])), (hk, .inl (dk, 32, .inl (fk)))] H := hP
      have hD : va_D A [(hb0, .inl (db, 8, .inl (fb))), (ho, .inl (dq, 8, .inl (fo))), (qw, .inl (dw, 4, .inl (upd F 2 (nI qq.2.2.2)))), (h0, .inr (1, [.ref hk, .ref hb0, .ref ho])), (hk, .inl (dk, 32, .inl (fk)))] := hD
      refine lv_aload_n hx hb dX1_open_82 rfl (lv_at hl 5 rfl) ?_
      refine lv_iconst (v := nI 3) hx hb dX1_open_83 (by decide) ?_
      refine lv_iload hx hb dX1_open_84 (lv_at hl 0 rfl) ?_
      refine sk_iast (k := 3) hx hb hK hP hD hS 2 3 rfl rfl (by decide) (by decide) dX1_open_86 (fun H locs hP hD hS => ?_)
      have hP : va_P (dC, dI) vwCl [(hb0, .inl (db, 8, .inl (fb))), (ho, .inl (dq, 8, .inl (fo))), (qw, .inl (dw, 4, .inl (upd (upd F 2 (nI qq.2.2.2)) 3 (nI (qq.1 ^^^ qq.2.1 ^^^ ((31 - i) + 1)))))), (h0, .inr (1, [.ref hk, .ref hb0, .ref ho])), (hk, .inl (dk, 32, .inl (fk)))] H := hP
      have hD : va_D A [(hb0, .inl (db, 8, .inl (fb))), (ho, .inl (dq, 8, .inl (fo))), (qw, .inl (dw, 4, .inl (upd (upd F 2 (nI qq.2.2.2)) 3 (nI (qq.1 ^^^ qq.2.1 ^^^ ((31 - i) + 1)))))), (h0, .inr (1, [.ref hk, .ref hb0, .ref ho])), (hk, .inl (dk, 32, .inl (fk)))] := hD
      refine lv_aload_n hx hb dX1_open_87 rfl (lv_at hl 5 rfl) ?_
      refine lv_iconst (v := nI 1) hx hb dX1_open_88 (by decide) ?_
      refine lv_iload hx hb dX1_open_89 (lv_at hl 1 rfl) ?_
      refine sk_iast (k := 1) hx hb hK hP hD hS 2 3 rfl rfl (by decide) (by decide) dX1_open_91 (fun H locs hP hD hS => ?_)
      have hP : va_P (dC, dI) vwCl [(hb0, .inl (db, 8, .inl (fb))), (ho, .inl (dq, 8, .inl (fo))), (qw, .inl (dw, 4, .inl (upd (upd (upd F 2 (nI qq.2.2.2)) 3 (nI (qq.1 ^^^ qq.2.1 ^^^ ((31 - i) + 1)))) 1 (nI (qq.2.2.1))))), (h0, .inr (1, [.ref hk, .ref hb0, .ref ho])), (hk, .inl (dk, 32, .inl (fk)))] H := hP
      have hD : va_D A [(hb0, .inl (db, 8, .inl (fb))), (ho, .inl (dq, 8, .inl (fo))), (qw, .inl (dw, 4, .inl (upd (upd (upd F 2 (nI qq.2.2.2)) 3 (nI (qq.1 ^^^ qq.2.1 ^^^ ((31 - i) + 1)))) 1 (nI (qq.2.2.1))))), (h0, .inr (1, [.ref hk, .ref hb0, .ref ho])), (hk, .inl (dk, 32, .inl (fk)))] := hD
      refine lv_aload_n hx hb dX1_open_92 rfl (lv_at hl 5 rfl) ?_
      refine lv_iconst (v := nI 0) hx hb dX1_open_93 (by decide) ?_
      refine lv_iload hx hb dX1_open_94 (lv_at hl 3 rfl) ?_
      refine sk_iast (k := 0) hx hb hK hP hD hS 2 3 rfl rfl (by decide) (by decide) dX1_open_96 (fun H locs hP hD hS => ?_)
      have hP : va_P (dC, dI) vwCl [(hb0, .inl (db, 8, .inl (fb))), (ho, .inl (dq, 8, .inl (fo))), (qw, .inl (dw, 4, .inl (upd (upd (upd (upd F 2 (nI qq.2.2.2)) 3 (nI (qq.1 ^^^ qq.2.1 ^^^ ((31 - i) + 1)))) 1 (nI (qq.2.2.1))) 0 (nI (sk_h K (31 - i) qq.2.1))))), (h0, .inr (1, [.ref hk, .ref hb0, .ref ho])), (hk, .inl (dk, 32, .inl (fk)))] H := hP
      have hD : va_D A [(hb0, .inl (db, 8, .inl (fb))), (ho, .inl (dq, 8, .inl (fo))), (qw, .inl (dw, 4, .inl (upd (upd (upd (upd F 2 (nI qq.2.2.2)) 3 (nI (qq.1 ^^^ qq.2.1 ^^^ ((31 - i) + 1)))) 1 (nI (qq.2.2.1))) 0 (nI (sk_h K (31 - i) qq.2.1))))), (h0, .inr (1, [.ref hk, .ref hb0, .ref ho])), (hk, .inl (dk, 32, .inl (fk)))] := hD
      refine lv_iinc (v := nI (32 - (i + 1)) - 1) (lv' := [(3, .int (nI (32 - (i + 1)) - 1)), (7, .int (nI (qq.1 ^^^ qq.2.1 ^^^ ((31 - i) + 1)))), (6, .int (nI qq.2.2.1)), (5, .int (nI ((31 - i) + 1))), (4, .int (nI (sk_h K (31 - i) qq.2.1))), (0, .ref h0), (2, .ref qw)]) hx hb dX1_open_97 hl (k := 6) rfl ((by rw [show 32 - (i + 1) = 31 - i by omega]; exact sk_dec1 _)) (by decide) rfl (fun ls hl => ?_)
      refine lv_goto (tgt := 8) hx hb dX1_open_100 (by decide) ?_
      have hP := hP.sub (ws' := [(h0, .inr (1, [.ref hk, .ref hb0, .ref ho])), (hk, .inl (dk, 32, .inl (fk))), (hb0, .inl (db, 8, .inl (fb))), (ho, .inl (dq, 8, .inl (fo))), (qw, .inl (dw, 4, .inl (upd (upd (upd (upd F 2 (nI qq.2.2.2)) 3 (nI (qq.1 ^^^ qq.2.1 ^^^ ((31 - i) + 1)))) 1 (nI (qq.2.2.1))) 0 (nI (sk_h K (31 - i) qq.2.1)))))]) [3, 4, 0, 1, 2] rfl
      have hD := hD.sub (ws' := [(h0, .inr (1, [.ref hk, .ref hb0, .ref ho])), (hk, .inl (dk, 32, .inl (fk))), (hb0, .inl (db, 8, .inl (fb))), (ho, .inl (dq, 8, .inl (fo))), (qw, .inl (dw, 4, .inl (upd (upd (upd (upd F 2 (nI qq.2.2.2)) 3 (nI (qq.1 ^^^ qq.2.1 ^^^ ((31 - i) + 1)))) 1 (nI (qq.2.2.1))) 0 (nI (sk_h K (31 - i) qq.2.1)))))]) [3, 4, 0, 1, 2] (by decide) rfl
      have e1 : sk_un K (31 - i) qq = sk_unA K (31 - i) qq := if_pos hr
      rw [e1] at hih
      exact hih _ H locs ls (sk_four2 rfl rfl rfl rfl) hP hD hS (lv_sub hl [5, 6, 0] rfl)
    · skip
      refine lv_iload_n hx hb dX1_open_27 rfl (lv_at hl 4 rfl) ?_
      have hPc := hP.sub (ws' := []) [] rfl
      have hDc := hD.sub (ws' := []) [] (by decide) rfl
      have hKc := hK.sub (tys' := []) [] rfl
      have hFc := va_free (wc := []) hD hS hA [] rfl
      refine va_calli (va_runS (As := [.int (nI (31 - i))]) (rest := []) ⟨hx, hb, hml, hown, hts⟩ (mod_rule l dC dI H.size (31 - i) hk0) (va_cwS 1 hts (lw_S q321 q322 q10 q323) rfl rfl rfl (by decide +kernel) ⟨Nat.le_of_ble_eq_true rfl, Nat.le_of_ble_eq_true rfl⟩) ⟨fun a U g mk q => by obtain ⟨q0, q1, qP, qK, qD⟩ := q; exact ⟨q0, q1, qP, va_K.moved (u := U) (U := U.calling g mk a) (Vm.Alike.refl U.vm) qK, qD⟩, fun U hU hW => ⟨rfl, by rw [hU], by rw [hU]; exact hPc, va_K.moved hW.alike hKc, hDc.weaken (fun _ _ _ _ => trivial)⟩⟩ rfl rfl hl.1 rfl (lv_room (Nat.le_of_ble_eq_true rfl)) dX1_open_28 ⟨Nat.le_of_ble_eq_true rfl, Nat.le_of_ble_eq_true rfl⟩) hS (fun q _ h => hFc q h) hFc (fun rr uS tS H1 locs htS hvm hw hB hz1 hk1 hS => ?_)
      obtain ⟨hP1, hK1, hD1⟩ := hB
      rw [htS] at hP1
      obtain ⟨hP, hD⟩ := va_join (wr := [(hb0, .inl (db, 8, .inl (fb))), (ho, .inl (dq, 8, .inl (fo))), (qw, .inl (dw, 4, .inl (F))), (h0, .inr (1, [.ref hk, .ref hb0, .ref ho])), (hk, .inl (dk, 32, .inl (fk)))]) (w1 := []) hP hD [] [0, 1, 2, 3, 4] rfl rfl (by decide) (by decide) hk1 hFc hP1 hD1
      generalize H1 = H at hP hS ⊢
      have hP : va_P (dC, dI) vwCl [(hb0, .inl (db, 8, .inl (fb))), (ho, .inl (dq, 8, .inl (fo))), (qw, .inl (dw, 4, .inl (F))), (h0, .inr (1, [.ref hk, .ref hb0, .ref ho])), (hk, .inl (dk, 32, .inl (fk)))] H := hP
      have hD : va_D A [(hb0, .inl (db, 8, .inl (fb))), (ho, .inl (dq, 8, .inl (fo))), (qw, .inl (dw, 4, .inl (F))), (h0, .inr (1, [.ref hk, .ref hb0, .ref ho])), (hk, .inl (dk, 32, .inl (fk)))] := hD
      refine W.widen (k := 1) (n := 4) (Nat.le_of_ble_eq_true rfl) (Nat.le_of_ble_eq_true rfl) ?_
      have hw : rr = nI 0 := by rw [hw, if_neg hr]
      subst hw
      refine lv_if_eq (tgt := 40) hx hb dX1_open_31 (by decide) (fun _ => ?_) (fun q => absurd (by decide) q)
      refine lv_iload hx hb dX1_open_40 (lv_at hl 1 rfl) ?_
      refine lv_aload_n hx hb dX1_open_42 rfl (lv_at hl 3 rfl) ?_
      refine lv_iconst (v := nI 2) hx hb dX1_open_43 (by decide) ?_
      refine sk_iald (k := 2) hx hb hK hP 2 3 rfl rfl (by decide) (by decide) dX1_open_44 ?_
      refine sk_top (y := nI qq.2.2.1) (hF 2 (by decide)) ?_
      refine lv_ixor hx hb dX1_open_45 ?_
      refine lv_iload hx hb dX1_open_46 (lv_at hl 0 rfl) ?_
      refine lv_ixor hx hb dX1_open_48 ?_
      refine sk_top (y := nI (sk_h K (31 - i) qq.2.1 ^^^ qq.2.2.1 ^^^ ((31 - i) + 1))) (by rw [nx_xor, nx_xor]) ?_
      refine lv_istore (lv' := [(6, .int (nI (sk_h K (31 - i) qq.2.1 ^^^ qq.2.2.1 ^^^ ((31 - i) + 1)))), (5, .int (nI ((31 - i) + 1))), (4, .int (nI (sk_h K (31 - i) qq.2.1))), (0, .ref h0), (2, .ref qw), (3, .int (nI (31 - i)))]) hx hb dX1_open_49 hl (by decide) rfl (fun ls hl => ?_)
      refine lv_iload_n hx hb dX1_open_51 rfl (lv_at hl 5 rfl) ?_
      have hPc := hP.sub (ws' := []) [] rfl
      have hDc := hD.sub (ws' := []) [] (by decide) rfl
      have hKc := hK.sub (tys' := []) [] rfl
      have hFc := va_free (wc := []) hD hS hA [] rfl
      refine va_calli (va_runS (As := [.int (nI (31 - i))]) (rest := []) ⟨hx, hb, hml, hown, hts⟩ (mod_rule l dC dI H.size (31 - i) hk0) (va_cwS 1 hts (lw_S q321 q322 q10 q323) rfl rfl rfl (by decide +kernel) ⟨Nat.le_of_ble_eq_true rfl, Nat.le_of_ble_eq_true rfl⟩) ⟨fun a U g mk q => by obtain ⟨q0, q1, qP, qK, qD⟩ := q; exact ⟨q0, q1, qP, va_K.moved (u := U) (U := U.calling g mk a) (Vm.Alike.refl U.vm) qK, qD⟩, fun U hU hW => ⟨rfl, by rw [hU], by rw [hU]; exact hPc, va_K.moved hW.alike hKc, hDc.weaken (fun _ _ _ _ => trivial)⟩⟩ rfl rfl hl.1 rfl (lv_room (Nat.le_of_ble_eq_true rfl)) dX1_open_52 ⟨Nat.le_of_ble_eq_true rfl, Nat.le_of_ble_eq_true rfl⟩) hS (fun q _ h => hFc q h) hFc (fun rr uS tS H1 locs htS hvm hw hB hz1 hk1 hS => ?_)
      obtain ⟨hP1, hK1, hD1⟩ := hB
      rw [htS] at hP1
      obtain ⟨hP, hD⟩ := va_join (wr := [(hb0, .inl (db, 8, .inl (fb))), (ho, .inl (dq, 8, .inl (fo))), (qw, .inl (dw, 4, .inl (F))), (h0, .inr (1, [.ref hk, .ref hb0, .ref ho])), (hk, .inl (dk, 32, .inl (fk)))]) (w1 := []) hP hD [] [0, 1, 2, 3, 4] rfl rfl (by decide) (by decide) hk1 hFc hP1 hD1
      generalize H1 = H at hP hS ⊢
      have hP : va_P (dC, dI) vwCl [(hb0, .inl (db, 8, .inl (fb))), (ho, .inl (dq, 8, .inl (fo))), (qw, .inl (dw, 4, .inl (F))), (h0, .inr (1, [.ref hk, .ref hb0, .ref ho])), (hk, .inl (dk, 32, .inl (fk)))] H := hP
      have hD : va_D A [(hb0, .inl (db, 8, .inl (fb))), (ho, .inl (dq, 8, .inl (fo))), (qw, .inl (dw, 4, .inl (F))), (h0, .inr (1, [.ref hk, .ref hb0, .ref ho])), (hk, .inl (dk, 32, .inl (fk)))] := hD
      refine W.widen (k := 1) (n := 4) (Nat.le_of_ble_eq_true rfl) (Nat.le_of_ble_eq_true rfl) ?_
      have hw : rr = nI 0 := by rw [hw, if_neg hr]
      subst hw
      refine lv_if_eq (tgt := 71) hx hb dX1_open_55 (by decide) (fun _ => ?_) (fun q => absurd (by decide) q)
      refine lv_aload_n hx hb dX1_open_71 rfl (lv_at hl 4 rfl) ?_
      refine lv_iconst (v := nI 0) hx hb dX1_open_72 (by decide) ?_
      refine sk_iald (k := 0) hx hb hK hP 2 3 rfl rfl (by decide) (by decide) dX1_open_73 ?_
      refine sk_top (y := nI qq.1) (hF 0 (by decide)) ?_
      refine lv_istore (lv' := [(7, .int (nI qq.1)), (6, .int (nI (sk_h K (31 - i) qq.2.1 ^^^ qq.2.2.1 ^^^ ((31 - i) + 1)))), (5, .int (nI ((31 - i) + 1))), (4, .int (nI (sk_h K (31 - i) qq.2.1))), (0, .ref h0), (2, .ref qw), (3, .int (nI (31 - i)))]) hx hb dX1_open_74 hl (by decide) rfl (fun ls hl => ?_)
      refine lv_aload_n hx hb dX1_open_76 rfl (lv_at hl 5 rfl) ?_
      refine lv_iconst (v := nI 2) hx hb dX1_open_77 (by decide) ?_
      refine lv_aload_n hx hb dX1_open_78 rfl (lv_at hl 5 rfl) ?_
      refine lv_iconst (v := nI 3) hx hb dX1_open_79 (by decide) ?_
      refine sk_iald (k := 3) hx hb hK hP 2 3 rfl rfl (by decide) (by decide) dX1_open_80 ?_
      refine sk_top (y := nI qq.2.2.2) (hF 3 (by decide)) ?_
      refine sk_iast (k := 2) hx hb hK hP hD hS 2 3 rfl rfl (by decide) (by decide) dX1_open_81 (fun H locs hP hD hS => ?_)
      have hP : va_P (dC, dI) vwCl [(hb0, .inl (db, 8, .inl (fb))), (ho, .inl (dq, 8, .inl (fo))), (qw, .inl (dw, 4, .inl (upd F 2 (nI qq.2.2.2)))), (h0, .inr (1, [.ref hk, .ref hb0, .ref ho])), (hk, .inl (dk, 32, .inl (fk)))] H := hP
      have hD : va_D A [(hb0, .inl (db, 8, .inl (fb))), (ho, .inl (dq, 8, .inl (fo))), (qw, .inl (dw, 4, .inl (upd F 2 (nI qq.2.2.2)))), (h0, .inr (1, [.ref hk, .ref hb0, .ref ho])), (hk, .inl (dk, 32, .inl (fk)))] := hD
      refine lv_aload_n hx hb dX1_open_82 rfl (lv_at hl 5 rfl) ?_
      refine lv_iconst (v := nI 3) hx hb dX1_open_83 (by decide) ?_
      refine lv_iload hx hb dX1_open_84 (lv_at hl 0 rfl) ?_
      refine sk_iast (k := 3) hx hb hK hP hD hS 2 3 rfl rfl (by decide) (by decide) dX1_open_86 (fun H locs hP hD hS => ?_)
      have hP : va_P (dC, dI) vwCl [(hb0, .inl (db, 8, .inl (fb))), (ho, .inl (dq, 8, .inl (fo))), (qw, .inl (dw, 4, .inl (upd (upd F 2 (nI qq.2.2.2)) 3 (nI (qq.1))))), (h0, .inr (1, [.ref hk, .ref hb0, .ref ho])), (hk, .inl (dk, 32, .inl (fk)))] H := hP
      have hD : va_D A [(hb0, .inl (db, 8, .inl (fb))), (ho, .inl (dq, 8, .inl (fo))), (qw, .inl (dw, 4, .inl (upd (upd F 2 (nI qq.2.2.2)) 3 (nI (qq.1))))), (h0, .inr (1, [.ref hk, .ref hb0, .ref ho])), (hk, .inl (dk, 32, .inl (fk)))] := hD
      refine lv_aload_n hx hb dX1_open_87 rfl (lv_at hl 5 rfl) ?_
      refine lv_iconst (v := nI 1) hx hb dX1_open_88 (by decide) ?_
      refine lv_iload hx hb dX1_open_89 (lv_at hl 1 rfl) ?_
      refine sk_iast (k := 1) hx hb hK hP hD hS 2 3 rfl rfl (by decide) (by decide) dX1_open_91 (fun H locs hP hD hS => ?_)
      have hP : va_P (dC, dI) vwCl [(hb0, .inl (db, 8, .inl (fb))), (ho, .inl (dq, 8, .inl (fo))), (qw, .inl (dw, 4, .inl (upd (upd (upd F 2 (nI qq.2.2.2)) 3 (nI (qq.1))) 1 (nI (sk_h K (31 - i) qq.2.1 ^^^ qq.2.2.1 ^^^ ((31 - i) + 1)))))), (h0, .inr (1, [.ref hk, .ref hb0, .ref ho])), (hk, .inl (dk, 32, .inl (fk)))] H := hP
      have hD : va_D A [(hb0, .inl (db, 8, .inl (fb))), (ho, .inl (dq, 8, .inl (fo))), (qw, .inl (dw, 4, .inl (upd (upd (upd F 2 (nI qq.2.2.2)) 3 (nI (qq.1))) 1 (nI (sk_h K (31 - i) qq.2.1 ^^^ qq.2.2.1 ^^^ ((31 - i) + 1)))))), (h0, .inr (1, [.ref hk, .ref hb0, .ref ho])), (hk, .inl (dk, 32, .inl (fk)))] := hD
      refine lv_aload_n hx hb dX1_open_92 rfl (lv_at hl 5 rfl) ?_
      refine lv_iconst (v := nI 0) hx hb dX1_open_93 (by decide) ?_
      refine lv_iload hx hb dX1_open_94 (lv_at hl 3 rfl) ?_
      refine sk_iast (k := 0) hx hb hK hP hD hS 2 3 rfl rfl (by decide) (by decide) dX1_open_96 (fun H locs hP hD hS => ?_)
      have hP : va_P (dC, dI) vwCl [(hb0, .inl (db, 8, .inl (fb))), (ho, .inl (dq, 8, .inl (fo))), (qw, .inl (dw, 4, .inl (upd (upd (upd (upd F 2 (nI qq.2.2.2)) 3 (nI (qq.1))) 1 (nI (sk_h K (31 - i) qq.2.1 ^^^ qq.2.2.1 ^^^ ((31 - i) + 1)))) 0 (nI (sk_h K (31 - i) qq.2.1))))), (h0, .inr (1, [.ref hk, .ref hb0, .ref ho])), (hk, .inl (dk, 32, .inl (fk)))] H := hP
      have hD : va_D A [(hb0, .inl (db, 8, .inl (fb))), (ho, .inl (dq, 8, .inl (fo))), (qw, .inl (dw, 4, .inl (upd (upd (upd (upd F 2 (nI qq.2.2.2)) 3 (nI (qq.1))) 1 (nI (sk_h K (31 - i) qq.2.1 ^^^ qq.2.2.1 ^^^ ((31 - i) + 1)))) 0 (nI (sk_h K (31 - i) qq.2.1))))), (h0, .inr (1, [.ref hk, .ref hb0, .ref ho])), (hk, .inl (dk, 32, .inl (fk)))] := hD
      refine lv_iinc (v := nI (32 - (i + 1)) - 1) (lv' := [(3, .int (nI (32 - (i + 1)) - 1)), (7, .int (nI qq.1)), (6, .int (nI (sk_h K (31 - i) qq.2.1 ^^^ qq.2.2.1 ^^^ ((31 - i) + 1)))), (5, .int (nI ((31 - i) + 1))), (4, .int (nI (sk_h K (31 - i) qq.2.1))), (0, .ref h0), (2, .ref qw)]) hx hb dX1_open_97 hl (k := 6) rfl ((by rw [show 32 - (i + 1) = 31 - i by omega]; exact sk_dec1 _)) (by decide) rfl (fun ls hl => ?_)
      refine lv_goto (tgt := 8) hx hb dX1_open_100 (by decide) ?_
      have hP := hP.sub (ws' := [(h0, .inr (1, [.ref hk, .ref hb0, .ref ho])), (hk, .inl (dk, 32, .inl (fk))), (hb0, .inl (db, 8, .inl (fb))), (ho, .inl (dq, 8, .inl (fo))), (qw, .inl (dw, 4, .inl (upd (upd (upd (upd F 2 (nI qq.2.2.2)) 3 (nI (qq.1))) 1 (nI (sk_h K (31 - i) qq.2.1 ^^^ qq.2.2.1 ^^^ ((31 - i) + 1)))) 0 (nI (sk_h K (31 - i) qq.2.1)))))]) [3, 4, 0, 1, 2] rfl
      have hD := hD.sub (ws' := [(h0, .inr (1, [.ref hk, .ref hb0, .ref ho])), (hk, .inl (dk, 32, .inl (fk))), (hb0, .inl (db, 8, .inl (fb))), (ho, .inl (dq, 8, .inl (fo))), (qw, .inl (dw, 4, .inl (upd (upd (upd (upd F 2 (nI qq.2.2.2)) 3 (nI (qq.1))) 1 (nI (sk_h K (31 - i) qq.2.1 ^^^ qq.2.2.1 ^^^ ((31 - i) + 1)))) 0 (nI (sk_h K (31 - i) qq.2.1)))))]) [3, 4, 0, 1, 2] (by decide) rfl
      have e1 : sk_un K (31 - i) qq = sk_unB K (31 - i) qq := if_neg hr
      rw [e1] at hih
      exact hih _ H locs ls (sk_four2 rfl rfl rfl rfl) hP hD hS (lv_sub hl [5, 6, 0] rfl)
set_option maxHeartbeats 1000000 in
set_option maxRecDepth 100000 in
/-- SkipjackDeskModel.X1_open -/
theorem mod_open (l : Launch) (dC : Nat → ClassId) (dI : Nat → Nat → Nat) (sz : Nat) (h0 hk hb0 ho : Nat) (dk db dq : ClassId) (fk fb fo : Nat → Int32) (K B : Nat → Nat) (kd : Int32) (tM : Nat) (hK0 : sk_K K) (hfk : ∀ j, j < 10 → fk j = nI (K j)) (hB : sk_B B) (hfb : ∀ j, j < 8 → fb j = nI (B j)) : Met l yX1_open (ws_ yX1_open cX1_open 8 none) ({ frames := 1, cells := 1, slots := 4, locals := 26 }) (va_Pc [.ref h0, .int kd] (fun U => U.heap.size = sz ∧ va_P (dC, dI) vwCl [(h0, .inr (1, [.ref hk, .ref hb0, .ref ho])), (hk, .inl (dk, 32, .inl (fk))), (hb0, .inl (db, 8, .inl (fb))), (ho, .inl (dq, 8, .inl (fo)))] U.heap ∧ va_K (dC, dI) vwCl [(dk, .int), (db, .int), (dq, .int)] U ∧ va_D (fun _ => True) [(h0, .inr (1, [.ref hk, .ref hb0, .ref ho])), (hk, .inl (dk, 32, .inl (fk))), (hb0, .inl (db, 8, .inl (fb))), (ho, .inl (dq, 8, .inl (fo)))] ∧ sk_TM tM (va_A [(h0, .inr (1, [.ref hk, .ref hb0, .ref ho])), (hk, .inl (dk, 32, .inl (fk))), (hb0, .inl (db, 8, .inl (fb))), (ho, .inl (dq, 8, .inl (fo)))] sz) U)) (va_Qv (fun (_ : Unit) => True) (fun (_ : Unit) (t : State) => va_P (dC, dI) vwCl [(h0, .inr (1, [.ref hk, .ref hb0, .ref ho])), (hk, .inl (dk, 32, .inl (fk))), (hb0, .inl (db, 8, .inl (fb))), (ho, .inl (dq, 8, .inl (sk_fill (fun j => nI (sk_by (sk_dec K 32 (sk_wd B)) j)) fo 8)))] t.heap ∧ va_K (dC, dI) vwCl [(dk, .int), (db, .int), (dq, .int)] t ∧ va_D (va_A [(h0, .inr (1, [.ref hk, .ref hb0, .ref ho])), (hk, .inl (dk, 32, .inl (fk))), (hb0, .inl (db, 8, .inl (fb))), (ho, .inl (dq, 8, .inl (fo)))] sz) [(h0, .inr (1, [.ref hk, .ref hb0, .ref ho])), (hk, .inl (dk, 32, .inl (fk))), (hb0, .inl (db, 8, .inl (fb))), (ho, .inl (dq, 8, .inl (sk_fill (fun j => nI (sk_by (sk_dec K 32 (sk_wd B)) j)) fo 8)))]) (va_A [(h0, .inr (1, [.ref hk, .ref hb0, .ref ho])), (hk, .inl (dk, 32, .inl (fk))), (hb0, .inl (db, 8, .inl (fb))), (ho, .inl (dq, 8, .inl (fo)))] sz)) 1 4 (va_A [(h0, .inr (1, [.ref hk, .ref hb0, .ref ho])), (hk, .inl (dk, 32, .inl (fk))), (hb0, .inl (db, 8, .inl (fb))), (ho, .inl (dq, 8, .inl (fo)))] sz) := by
  refine Met.ofW (cc := cX1_open) (maxL := 8) (ret := none) (by decide) rfl ?_
  intro p e s m args below meth c s₁ BO hml hv
  obtain ⟨rfl, hsz, hP, hK, hD0, hT⟩ := hv
  have hx := BO.exec
  have hb := BO.bytes
  have hr := BO.returns
  have hts := atoms_spec (ws := (ws_ yX1_open cX1_open 8 none)) BO.pre
  have hts : ∀ w ∈ lw_all, w.before _ s = true := fun w h => hts w (List.mem_cons_of_mem _ h)
  have hown : s.vm.findClass RX1 = some m.cls := findClass_of_methodNamed BO.named
  have hlocks := BO.notSynchronized
  subst hsz
  have hD := hD0.self (sz := s.heap.size)
  generalize hAe : va_A [(h0, .inr (1, [.ref hk, .ref hb0, .ref ho])), (hk, .inl (dk, 32, .inl (fk))), (hb0, .inl (db, 8, .inl (fb))), (ho, .inl (dq, 8, .inl (fo)))] s.heap.size = A at hD hT ⊢
  have hA : ∀ q : Nat, s.heap.size ≤ q → A q := fun q h => by rw [← hAe]; exact Or.inr h
  have hS : va_S A s.heap s.heap [] := va_S.rf
  have hP : va_P (dC, dI) vwCl [(h0, .inr (1, [.ref hk, .ref hb0, .ref ho])), (hk, .inl (dk, 32, .inl (fk))), (hb0, .inl (db, 8, .inl (fb))), (ho, .inl (dq, 8, .inl (fo)))] s.heap := hP
  have hl := lv_entry ([.ref h0, .int kd]) (n := 8) (Nat.le_of_ble_eq_true rfl)
  rw [lg_entry_eq]
  generalize (lg_sl ([.ref h0, .int kd]) ++ List.replicate (8 - (lg_sl ([.ref h0, .int kd])).length) Slot.unset).toArray = ls at hl ⊢
  have hl : lv_has ls 8 [(0, .ref h0), (1, .int kd)] := hl
  refine lv_aload_n hx hb dX1_open_0 rfl (lv_at hl 0 rfl) ?_
  have hPc := hP.sub (ws' := [(h0, .inr (1, [.ref hk, .ref hb0, .ref ho])), (hb0, .inl (db, 8, .inl (fb)))]) [0, 2] rfl
  have hDc := hD.sub (ws' := [(h0, .inr (1, [.ref hk, .ref hb0, .ref ho])), (hb0, .inl (db, 8, .inl (fb)))]) [0, 2] (by decide) rfl
  have hKc := hK.sub (tys' := [(db, .int)]) [1] rfl
  have hFc := va_free (wc := [(h0, .inr (1, [.ref hk, .ref hb0, .ref ho])), (hb0, .inl (db, 8, .inl (fb)))]) hD hS hA [0, 2] rfl
  refine va_callr (va_runV (As := []) (rest := []) ⟨hx, hb, hml, hown, hts⟩ (mod_words l dC dI s.heap.size h0 hk hb0 ho db fb B hB hfb) (cwV 0 hts (lw_V q311 q313 qs4 q10 q314) rfl rfl rfl (by decide +kernel) ⟨Nat.le_of_ble_eq_true rfl, Nat.le_of_ble_eq_true rfl⟩) ⟨fun a U g mk q => by obtain ⟨q0, q1, qP, qK, qD⟩ := q; exact ⟨q0, q1, qP, va_K.moved (u := U) (U := U.calling g mk a) (Vm.Alike.refl U.vm) qK, qD⟩, va_recv hKc hPc (ci := 1) (q0 := 0) rfl rfl, fun U hU hW => ⟨rfl, by rw [hU], by rw [hU]; exact hPc, va_K.moved hW.alike hKc, hDc.weaken (fun _ _ _ _ => trivial)⟩⟩ rfl rfl hl.1 rfl (lv_room (Nat.le_of_ble_eq_true rfl)) dX1_open_1 ⟨Nat.le_of_ble_eq_true rfl, Nat.le_of_ble_eq_true rfl⟩) hS (fun q _ h => hFc q h) hFc (fun uS qw tS H1 locs htS hvm hw hB hz1 hk1 hS => ?_)
  obtain ⟨dw, hP1, hK1, hD1⟩ := hB
  rw [htS] at hP1
  obtain ⟨hP, hD⟩ := va_join (wr := [(hk, .inl (dk, 32, .inl (fk))), (ho, .inl (dq, 8, .inl (fo)))]) (w1 := [(h0, .inr (1, [.ref hk, .ref hb0, .ref ho])), (hb0, .inl (db, 8, .inl (fb))), (qw, .inl (dw, 4, .inl (sk_fill (fun j => nI (sk_wi (sk_wd B) j)) (fun _ => 0) 4)))]) hP hD [0, 2] [1, 3] rfl rfl (by decide) (by decide) hk1 hFc hP1 hD1
  have hK1 := va_K.moved hvm.symm hK1
  have hK := hK.app hK1
  generalize H1 = H at hP hS ⊢
  have hP : va_P (dC, dI) vwCl [(hk, .inl (dk, 32, .inl (fk))), (ho, .inl (dq, 8, .inl (fo))), (h0, .inr (1, [.ref hk, .ref hb0, .ref ho])), (hb0, .inl (db, 8, .inl (fb))), (qw, .inl (dw, 4, .inl (sk_fill (fun j => nI (sk_wi (sk_wd B) j)) (fun _ => 0) 4)))] H := hP
  have hD : va_D A [(hk, .inl (dk, 32, .inl (fk))), (ho, .inl (dq, 8, .inl (fo))), (h0, .inr (1, [.ref hk, .ref hb0, .ref ho])), (hb0, .inl (db, 8, .inl (fb))), (qw, .inl (dw, 4, .inl (sk_fill (fun j => nI (sk_wi (sk_wd B) j)) (fun _ => 0) 4)))] := hD
  have hK : va_K (dC, dI) vwCl [(dk, .int), (db, .int), (dq, .int), (db, .int), (dw, .int)] s := hK
  refine W.widen (k := 1) (n := 4) (Nat.le_of_ble_eq_true rfl) (Nat.le_of_ble_eq_true rfl) ?_
  refine lv_astore_n (lv' := [(2, .ref qw), (0, .ref h0), (1, .int kd)]) hx hb dX1_open_4 rfl hl (by decide) rfl (fun ls hl => ?_)
  refine lv_bipush (v := nI 31) hx hb dX1_open_5 (by decide) ?_
  refine sk_top (y := nI (32 - 0) - 1) (by decide) ?_
  refine lv_istore_n (lv' := [(3, .int (nI (32 - 0) - 1)), (2, .ref qw), (0, .ref h0), (1, .int kd)]) hx hb dX1_open_7 rfl hl (by decide) rfl (fun ls hl => ?_)
  have hP := hP.sub (ws' := [(h0, .inr (1, [.ref hk, .ref hb0, .ref ho])), (hk, .inl (dk, 32, .inl (fk))), (hb0, .inl (db, 8, .inl (fb))), (ho, .inl (dq, 8, .inl (fo))), (qw, .inl (dw, 4, .inl (sk_fill (fun j => nI (sk_wi (sk_wd B) j)) (fun _ => 0) 4)))]) [2, 0, 3, 1, 4] rfl
  have hD := hD.sub (ws' := [(h0, .inr (1, [.ref hk, .ref hb0, .ref ho])), (hk, .inl (dk, 32, .inl (fk))), (hb0, .inl (db, 8, .inl (fb))), (ho, .inl (dq, 8, .inl (fo))), (qw, .inl (dw, 4, .inl (sk_fill (fun j => nI (sk_wi (sk_wd B) j)) (fun _ => 0) 4)))]) [2, 0, 3, 1, 4] (by decide) rfl
  have hK := hK.sub (tys' := [(dk, .int), (db, .int), (dq, .int), (dw, .int)]) [0, 1, 2, 4] rfl
  refine mod_open_lp h0 hk hb0 ho dk db dq fk fb fo K B qw tM dw hx hb hml hown hts hK hA hT hK0 hfk hB hfb ?_ 32 0 (by decide) (sk_fill (fun j => nI (sk_wi (sk_wd B) j)) (fun _ => 0) 4) _ _ ls (fun j hj => sk_fill_lt hj) hP hD hS (lv_sub hl [2, 1, 0] rfl)
  intro F H locs ls hF hP hD hS hl
  have hq := sk_dec_ok hK0 (sk_wd_ok hB) 32 (by decide)
  refine lv_aload_n hx hb dX1_open_103 rfl (lv_at hl 0 rfl) ?_
  refine lv_aload_n hx hb dX1_open_104 rfl (lv_at hl 1 rfl) ?_
  have hPc := hP.sub (ws' := [(h0, .inr (1, [.ref hk, .ref hb0, .ref ho])), (ho, .inl (dq, 8, .inl (fo))), (qw, .inl (dw, 4, .inl (F)))]) [0, 3, 4] rfl
  have hDc := hD.sub (ws' := [(h0, .inr (1, [.ref hk, .ref hb0, .ref ho])), (ho, .inl (dq, 8, .inl (fo))), (qw, .inl (dw, 4, .inl (F)))]) [0, 3, 4] (by decide) rfl
  have hKc := hK.sub (tys' := [(dq, .int), (dw, .int)]) [2, 3] rfl
  have hFc := va_free (wc := [(h0, .inr (1, [.ref hk, .ref hb0, .ref ho])), (ho, .inl (dq, 8, .inl (fo))), (qw, .inl (dw, 4, .inl (F)))]) hD hS hA [0, 3, 4] rfl
  refine va_callv (va_runV (As := [.ref qw]) (rest := []) ⟨hx, hb, hml, hown, hts⟩ (mod_lays l dC dI H.size h0 hk hb0 ho qw dq dw fo F (sk_dec K 32 (sk_wd B)) hq hF) (cwV 1 hts (lw_V q324 q326 qs6 q10 q327) rfl rfl rfl (by decide +kernel) ⟨Nat.le_of_ble_eq_true rfl, Nat.le_of_ble_eq_true rfl⟩) ⟨fun a U g mk q => by obtain ⟨q0, q1, qP, qK, qD⟩ := q; exact ⟨q0, q1, qP, va_K.moved (u := U) (U := U.calling g mk a) (Vm.Alike.refl U.vm) qK, qD⟩, va_recv hKc hPc (ci := 1) (q0 := 0) rfl rfl, fun U hU hW => ⟨rfl, by rw [hU], by rw [hU]; exact hPc, va_K.moved hW.alike hKc, hDc.weaken (fun _ _ _ _ => trivial)⟩⟩ rfl rfl hl.1 rfl (lv_room (Nat.le_of_ble_eq_true rfl)) dX1_open_105 ⟨Nat.le_of_ble_eq_true rfl, Nat.le_of_ble_eq_true rfl⟩) hS (fun q _ h => hFc q h) hFc (fun uS tS H1 locs htS hvm hw hB hz1 hk1 hS => ?_)
  obtain ⟨hP1, hK1, hD1⟩ := hB
  rw [htS] at hP1
  obtain ⟨hP, hD⟩ := va_join (wr := [(hk, .inl (dk, 32, .inl (fk))), (hb0, .inl (db, 8, .inl (fb)))]) (w1 := [(h0, .inr (1, [.ref hk, .ref hb0, .ref ho])), (ho, .inl (dq, 8, .inl (sk_fill (fun j => nI (sk_by (sk_dec K 32 (sk_wd B)) j)) fo 8))), (qw, .inl (dw, 4, .inl (F)))]) hP hD [0, 3, 4] [1, 2] rfl rfl (by decide) (by decide) hk1 hFc hP1 hD1
  generalize H1 = H at hP hS ⊢
  have hP : va_P (dC, dI) vwCl [(hk, .inl (dk, 32, .inl (fk))), (hb0, .inl (db, 8, .inl (fb))), (h0, .inr (1, [.ref hk, .ref hb0, .ref ho])), (ho, .inl (dq, 8, .inl (sk_fill (fun j => nI (sk_by (sk_dec K 32 (sk_wd B)) j)) fo 8))), (qw, .inl (dw, 4, .inl (F)))] H := hP
  have hD : va_D A [(hk, .inl (dk, 32, .inl (fk))), (hb0, .inl (db, 8, .inl (fb))), (h0, .inr (1, [.ref hk, .ref hb0, .ref ho])), (ho, .inl (dq, 8, .inl (sk_fill (fun j => nI (sk_by (sk_dec K 32 (sk_wd B)) j)) fo 8))), (qw, .inl (dw, 4, .inl (F)))] := hD
  refine W.widen (k := 1) (n := 4) (Nat.le_of_ble_eq_true rfl) (Nat.le_of_ble_eq_true rfl) ?_
  have hP9 := hP.sub (ws' := [(h0, .inr (1, [.ref hk, .ref hb0, .ref ho])), (hk, .inl (dk, 32, .inl (fk))), (hb0, .inl (db, 8, .inl (fb))), (ho, .inl (dq, 8, .inl (sk_fill (fun j => nI (sk_by (sk_dec K 32 (sk_wd B)) j)) fo 8)))]) [2, 0, 1, 3] rfl
  have hD9 := hD.sub (ws' := [(h0, .inr (1, [.ref hk, .ref hb0, .ref ho])), (hk, .inl (dk, 32, .inl (fk))), (hb0, .inl (db, 8, .inl (fb))), (ho, .inl (dq, 8, .inl (sk_fill (fun j => nI (sk_by (sk_dec K 32 (sk_wd B)) j)) fo 8)))]) [2, 0, 1, 3] (by decide) rfl
  have hK9 := hK.sub (tys' := [(dk, .int), (db, .int), (dq, .int)]) [0, 1, 2] rfl
  exact W.vret hx hb hr (fun t ht hW => ⟨⟨(), rfl, trivial, by rw [ht]; exact hP9, va_K.moved hW.alike hK9, hD9⟩, hS.F ht⟩) hS.2.2 dX1_open_108
end
section
/-! THE CLAIM OUT OF ONE WALK OF THE LAW'S BODY. Your part is whole_start (and what it stands on); all else here is the same for every law, but numbers. -/
def R_law : String := "SkipjackDeskLaw"
def lw_P (b : Addr) (xs : List Int32) (args : Array Value) (s : State) : Prop := args = #[.ref b] ∧ s.IntsAt b xs ∧ xs.length ≤ 288 ∧ (Jvm.Cond.and given_1 narrow_1).before args s = true
def lw_Q (_ : Array Value) (s : State) (o : Outcome) (t : State) : Prop := o = .returned (some (.int 1)) ∧ Framed s o t [] 600096 7301386
def lw_Z (below : List Frame) (a : Array Value) (s : State) : State → Prop := fun t => ∃ o, t.status = .running ∧ Ended t below o ∧ lw_Q a s o t
/-- the law's own end, with 1 on the stack, nothing written that was there before, its room as the claim has it -/
theorem lw_ret {p : Program} {l : Launch} {e : Env} {s : State} {m : MethodId} {below : List Frame} {meth : Method} {c : Code} {b : Nat} (hx : p.tables.exec = Jvm.exec) (hb : c.code = code) (hr : meth.sig.returnType = ret) (hlocks : meth.locks = false) {pc : Nat} {H : Heap} {ls : Array Slot} (hdg : decode code pc = .ok (.ireturn, 1)) : W p l e room_1 s m #[Value.ref b] below meth c H [] 600096 7301386 (lw_Z below #[Value.ref b] s) (F0 m pc ls [.int 1]) := by
  intro T hT X
  obtain ⟨fs, hret, hrun, hended, hW, hframe⟩ := X.leave (v := some (.int 1)) (hlocks := hlocks) (fun h => by rw [hr] at h; cases h)
  have hmeth' : T.vm.method? m = some meth := X.method'
  refine ⟨T.setFrames fs, ?_, .returned (some (.int 1)), hrun, hended, rfl, ⟨_, rfl⟩, hW, hframe⟩
  jvm_step X.here [X.here.top, hx, hb, hdg, hmeth', hr, ret, narrow_b1]
  (try refine ⟨rfl, ?_⟩); (try refine ⟨rfl, ?_⟩)
  first | (intro acts; rw [hret _ acts rfl rfl rfl]) | rw [hret _ _ rfl rfl rfl]
  exact Steps.refl _
/-- what holds at the law's entry: the machine, the code, the tables' words (any of lw_tbl by 'hts w (by decide +kernel)'), the script of L ints xs at the cell b, what the Statement gives of the start (any of its parts by flat_of_before) -/
def lw_At (p : Program) (s : State) (m : MethodId) (meth : Method) (c : Code) (b L : Nat) (xs : Nat → Int32) : Prop :=
  p.tables.exec = Jvm.exec ∧ c.code = code ∧ meth.sig.returnType = ret ∧ c.maxLocals = 4 ∧ s.vm.findClass R_law = some m.cls ∧ (∀ w ∈ lw_tbl, w.before #[Value.ref b] s = true) ∧ va_X b L xs s s.heap ∧ b < s.heap.size ∧ meth.locks = false ∧ (Jvm.Cond.and given_1 narrow_1).before #[Value.ref b] s = true
theorem sk_R_new {n : Nat} {O : Nat → Nat} {f g : Nat → Int32} (h : ∀ j, j < n → O j < 256) : sk_R n O (sk_fill (fun j => sk_b (O j)) f n) (sk_fill (fun j => nI (O j)) g n) := by
  intro j hj
  rw [sk_fill_lt hj, sk_fill_lt hj]
  exact ⟨h j hj, rfl, rfl⟩
/-- i <= L - 6 in ints: six more are there -/
theorem sk_more {L i : Nat} (hL : L ≤ 288) (hi : i ≤ 288) (h : ¬ nI L - nI 6 < nI i) : i + 6 ≤ L := by
  rcases Nat.lt_or_ge L (i + 6) with q | q
  · refine absurd (Int32.lt_iff_toInt_lt.mpr ?_) h
    rw [pk_sub_toInt (by omega) (by omega), nI_toInt (by omega)]
    omega
  · exact q
section SKL
variable {p : Program} {l : Launch} {e : Env} {R : Room} {s : State} {m : MethodId} {args : Array Value} {below : List Frame} {meth : Method} {c : Code} {H : Heap} {locs : List Loc} {cells slots : Nat} {Q : State → Prop}
variable {cc : ByteArray} {pc : Nat} {ls : Array Slot} {rest : List Value} {A : Nat → Prop} {H0 : Heap}
theorem sk_sld (hexec : p.tables.exec = Jvm.exec) (hb : c.code = cc) {b L : Nat} {xs : Nat → Int32} (hX : va_X b L xs s H0) (hbl : b < H0.size) (hbA : ¬ A b) (hS : va_S A H0 H locs) {k : Nat} (hk : k < L) (hL : L ≤ 288) (hdg : decode cc pc = .ok (.iaload, 1))
    (kk : W p l e R s m args below meth c H locs cells slots Q (F0 m (pc + 1) ls (.int (xs k) :: rest))) : W p l e R s m args below meth c H locs cells slots Q (F0 m pc ls (.int (nI k) :: .ref b :: rest)) := by
  refine va_sld hexec hb hX hbl hbA hS (vp_in_nI hk (by omega)) hdg ?_
  rw [nI_clamp (by omega)]
  exact kk
end SKL
set_option maxHeartbeats 4000000 in
set_option maxRecDepth 100000 in
/-- THE LAW'S LOOP: at its head, with ct calls made, both hold the same bytes -/
theorem law_loop {p : Program} {l : Launch} {e : Env} {s : State} {m : MethodId} {below : List Frame} {meth : Method} {c : Code} {dC : Nat → ClassId} {dI : Nat → Nat → Nat} {b L : Nat} {xs : Nat → Int32} (hL : L ≤ 288) (C0 : lw_At p s m meth c b L xs) (x0 xk xb xo y0 yk yb yo : Nat) (a1 a2 a3 b1 b2 b3 : ClassId) (tE tM : Nat) (hK : va_K (dC, dI) vwCl [(a1, .byte), (a2, .byte), (a3, .byte), (b1, .int), (b2, .int), (b3, .int)] s) (hT : sk_TE tE (fun q : Nat => s.heap.size ≤ q) s) (hM : sk_TM tM (fun q : Nat => s.heap.size ≤ q) s) (hI : sk_I (fun q : Nat => s.heap.size ≤ q) s) :
    ∀ (n ct : Nat), 6 * ct ≤ L → 49 ≤ ct + n → ∀ (K B O : Nat → Nat) (fk fb fo gk gb go : Nat → Int32) (H : Heap) (locs : List Loc) (ls : Array Slot), sk_R 32 K fk gk → sk_R 8 B fb gb → sk_R 8 O fo go → va_P (dC, dI) vwCl [(x0, .inr (0, [.ref xk, .ref xb, .ref xo])), (xk, .inl (a1, 32, .inl (fk))), (xb, .inl (a2, 8, .inl (fb))), (xo, .inl (a3, 8, .inl (fo))), (y0, .inr (1, [.ref yk, .ref yb, .ref yo])), (yk, .inl (b1, 32, .inl (gk))), (yb, .inl (b2, 8, .inl (gb))), (yo, .inl (b3, 8, .inl (go)))] H → va_D (fun q : Nat => s.heap.size ≤ q) [(x0, .inr (0, [.ref xk, .ref xb, .ref xo])), (xk, .inl (a1, 32, .inl (fk))), (xb, .inl (a2, 8, .inl (fb))), (xo, .inl (a3, 8, .inl (fo))), (y0, .inr (1, [.ref yk, .ref yb, .ref yo])), (yk, .inl (b1, 32, .inl (gk))), (yb, .inl (b2, 8, .inl (gb))), (yo, .inl (b3, 8, .inl (go)))] → va_S (fun q : Nat => s.heap.size ≤ q) s.heap H locs → lv_has ls 4 [(0, .ref b), (1, .ref x0), (2, .ref y0), (3, .int (nI (6 * ct)))] → W p l e room_1 s m #[Value.ref b] below meth c H locs (8 + 9 * ct) (102 + 158 * ct) (lw_Z below #[Value.ref b] s) (F0 m 18 ls []) := by
  obtain ⟨hx, hb, hr, hml, hown, hts0, hX, hbl, hlocks, hgv⟩ := C0
  have hts : ∀ w ∈ lw_all, w.before #[Value.ref b] s = true := fun w h => hts0 w (lw_all_tbl h)
  have hA : ∀ q : Nat, s.heap.size ≤ q → (fun q : Nat => s.heap.size ≤ q) q := fun _ h => h
  have hbA : ¬ (fun q : Nat => s.heap.size ≤ q) b := Nat.not_le.mpr hbl
  intro n
  induction n with
  | zero =>
    intro ct h1 h2
    exact absurd h2 (by omega)
  | succ n ih =>
    intro ct hct hn K B O fk fb fo gk gb go H locs ls hRk hRb hRo hP hD hS hl
    refine lv_iload_n hx hb dL_law_18 rfl (lv_at hl 3 rfl) ?_
    refine lv_aload_n hx hb dL_law_19 rfl (lv_at hl 0 rfl) ?_
    refine va_slen hx hb hX hbl hbA hS dL_law_20 ?_
    refine sk_top (y := nI L) rfl ?_
    refine lv_bipush (v := nI 6) hx hb dL_law_21 (by decide) ?_
    refine lv_isub hx hb dL_law_23 ?_
    refine lv_icmp_gt (tgt := 246) hx hb dL_law_24 (by decide) (fun c9 => ?_) (fun c9 => ?_)
    · skip
      refine lv_iconst (v := 1) hx hb dL_law_246 (by decide) ?_
      refine va_forget (fun q hq => hS.2.2 q hq) ?_
      refine W.widen (k := 600096) (n := 7301386) (by omega) (by omega) ?_
      exact lw_ret hx hb hr hlocks dL_law_247
    · skip
      have hmore := sk_more hL (by omega) c9
      refine lv_aload_n hx hb dL_law_27 rfl (lv_at hl 0 rfl) ?_
      refine lv_iload_n hx hb dL_law_28 rfl (lv_at hl 3 rfl) ?_
      refine sk_sld (k := 6 * ct) hx hb hX hbl hbA hS (by omega) hL dL_law_29 ?_
      refine lv_bipush (v := nI 7) hx hb dL_law_30 (by decide) ?_
      refine lv_iand hx hb dL_law_32 ?_
      obtain ⟨v, hv, ev⟩ : ∃ v : Nat, v < 8 ∧ xs (6 * ct) &&& nI 7 = nI v := ⟨_, Nat.mod_lt _ (by decide), sk_and7 _⟩
      refine sk_top ev ?_
      have hK0 : sk_K K := fun j hj => (hRk j (by omega)).1
      have hB0 : sk_B B := fun j hj => (hRb j hj).1
      rcases (show v = 0 ∨ v = 1 ∨ v = 2 ∨ v = 3 ∨ v = 4 ∨ v = 5 ∨ v = 6 ∨ v = 7 by omega) with rfl | rfl | rfl | rfl | rfl | rfl | rfl | rfl
      · skip
        refine lv_tableIn (off := 39) (tgt := 72) hx hb dL_law_33 (by decide) (by decide) (by decide) (by decide) ?_
        refine lv_aload_n hx hb dL_law_72 rfl (lv_at hl 1 rfl) ?_
        refine lv_aload_n hx hb dL_law_73 rfl (lv_at hl 0 rfl) ?_
        refine lv_iload_n hx hb dL_law_74 rfl (lv_at hl 3 rfl) ?_
        refine lv_iconst (v := nI 1) hx hb dL_law_75 (by decide) ?_
        refine lv_iadd hx hb dL_law_76 ?_
        refine sk_top (y := nI (6 * ct + 1)) (nI_add _ 1) ?_
        refine sk_sld (k := 6 * ct + 1) hx hb hX hbl hbA hS (by omega) hL dL_law_77 ?_
        refine lv_aload_n hx hb dL_law_78 rfl (lv_at hl 0 rfl) ?_
        refine lv_iload_n hx hb dL_law_79 rfl (lv_at hl 3 rfl) ?_
        refine lv_iconst (v := nI 2) hx hb dL_law_80 (by decide) ?_
        refine lv_iadd hx hb dL_law_81 ?_
        refine sk_top (y := nI (6 * ct + 2)) (nI_add _ 2) ?_
        refine sk_sld (k := 6 * ct + 2) hx hb hX hbl hbA hS (by omega) hL dL_law_82 ?_
        refine lv_aload_n hx hb dL_law_83 rfl (lv_at hl 0 rfl) ?_
        refine lv_iload_n hx hb dL_law_84 rfl (lv_at hl 3 rfl) ?_
        refine lv_iconst (v := nI 3) hx hb dL_law_85 (by decide) ?_
        refine lv_iadd hx hb dL_law_86 ?_
        refine sk_top (y := nI (6 * ct + 3)) (nI_add _ 3) ?_
        refine sk_sld (k := 6 * ct + 3) hx hb hX hbl hbA hS (by omega) hL dL_law_87 ?_
        refine lv_aload_n hx hb dL_law_88 rfl (lv_at hl 0 rfl) ?_
        refine lv_iload_n hx hb dL_law_89 rfl (lv_at hl 3 rfl) ?_
        refine lv_iconst (v := nI 4) hx hb dL_law_90 (by decide) ?_
        refine lv_iadd hx hb dL_law_91 ?_
        refine sk_top (y := nI (6 * ct + 4)) (nI_add _ 4) ?_
        refine sk_sld (k := 6 * ct + 4) hx hb hX hbl hbA hS (by omega) hL dL_law_92 ?_
        refine lv_aload_n hx hb dL_law_93 rfl (lv_at hl 0 rfl) ?_
        refine lv_iload_n hx hb dL_law_94 rfl (lv_at hl 3 rfl) ?_
        refine lv_iconst (v := nI 5) hx hb dL_law_95 (by decide) ?_
        refine lv_iadd hx hb dL_law_96 ?_
        refine sk_top (y := nI (6 * ct + 5)) (nI_add _ 5) ?_
        refine sk_sld (k := 6 * ct + 5) hx hb hX hbl hbA hS (by omega) hL dL_law_97 ?_
        have hPc := hP.sub (ws' := [(x0, .inr (0, [.ref xk, .ref xb, .ref xo])), (xk, .inl (a1, 32, .inl (fk)))]) [0, 1] rfl
        have hDc := hD.sub (ws' := [(x0, .inr (0, [.ref xk, .ref xb, .ref xo])), (xk, .inl (a1, 32, .inl (fk)))]) [0, 1] (by decide) rfl
        have hKc := hK.sub (tys' := [(a1, .byte)]) [0] rfl
        have hFc := va_free (wc := [(x0, .inr (0, [.ref xk, .ref xb, .ref xo])), (xk, .inl (a1, 32, .inl (fk)))]) hD hS hA [0, 1] rfl
        refine va_callv (va_runV (As := [.int (xs (6 * ct + 1)), .int (xs (6 * ct + 2)), .int (xs (6 * ct + 3)), .int (xs (6 * ct + 4)), .int (xs (6 * ct + 5))]) (rest := []) ⟨hx, hb, hml, hown, hts⟩ (dsk_key l dC dI H.size x0 xk xb xo a1 fk (xs (6 * ct + 1)) (xs (6 * ct + 2)) (xs (6 * ct + 3)) (xs (6 * ct + 4)) (xs (6 * ct + 5))) (cwV 5 hts (lw_V q41 q42 q43 q9 q44) rfl rfl rfl (by decide +kernel) ⟨Nat.le_of_ble_eq_true rfl, Nat.le_of_ble_eq_true rfl⟩) ⟨fun a U g mk q => by obtain ⟨q0, q1, qP, qK, qD⟩ := q; exact ⟨q0, q1, qP, va_K.moved (u := U) (U := U.calling g mk a) (Vm.Alike.refl U.vm) qK, qD⟩, va_recv hKc hPc (ci := 0) (q0 := 0) rfl rfl, fun U hU hW => ⟨rfl, by rw [hU], by rw [hU]; exact hPc, va_K.moved hW.alike hKc, hDc.weaken (fun _ _ _ _ => trivial)⟩⟩ rfl rfl hl.1 rfl (lv_room (Nat.le_of_ble_eq_true rfl)) dL_law_98 ⟨show 8 + 9 * ct + 0 ≤ 600096 by omega, show 102 + 158 * ct + 0 ≤ 7301386 by omega⟩) hS (fun q _ h => hFc q h) hFc (fun uS tS H1 locs htS hvm hw hB hz1 hk1 hS => ?_)
        obtain ⟨hP1, hK1, hD1⟩ := hB
        rw [htS] at hP1
        obtain ⟨hP, hD⟩ := va_join (wr := [(xb, .inl (a2, 8, .inl (fb))), (xo, .inl (a3, 8, .inl (fo))), (y0, .inr (1, [.ref yk, .ref yb, .ref yo])), (yk, .inl (b1, 32, .inl (gk))), (yb, .inl (b2, 8, .inl (gb))), (yo, .inl (b3, 8, .inl (go)))]) (w1 := [(x0, .inr (0, [.ref xk, .ref xb, .ref xo])), (xk, .inl (a1, 32, .inl (sk_pB (sk_pB (sk_pB (sk_pB fk (sk_at (xs (6 * ct + 1))) (xs (6 * ct + 2))) (sk_at (xs (6 * ct + 1)) + 4) (xs (6 * ct + 3))) (sk_at (xs (6 * ct + 1)) + 8) (xs (6 * ct + 4))) (sk_at (xs (6 * ct + 1)) + 12) (xs (6 * ct + 5)))))]) hP hD [0, 1] [2, 3, 4, 5, 6, 7] rfl rfl (by decide) (by decide) hk1 hFc hP1 hD1
        generalize H1 = H at hP hS ⊢
        have hP : va_P (dC, dI) vwCl [(xb, .inl (a2, 8, .inl (fb))), (xo, .inl (a3, 8, .inl (fo))), (y0, .inr (1, [.ref yk, .ref yb, .ref yo])), (yk, .inl (b1, 32, .inl (gk))), (yb, .inl (b2, 8, .inl (gb))), (yo, .inl (b3, 8, .inl (go))), (x0, .inr (0, [.ref xk, .ref xb, .ref xo])), (xk, .inl (a1, 32, .inl (sk_pB (sk_pB (sk_pB (sk_pB fk (sk_at (xs (6 * ct + 1))) (xs (6 * ct + 2))) (sk_at (xs (6 * ct + 1)) + 4) (xs (6 * ct + 3))) (sk_at (xs (6 * ct + 1)) + 8) (xs (6 * ct + 4))) (sk_at (xs (6 * ct + 1)) + 12) (xs (6 * ct + 5)))))] H := hP
        have hD : va_D (fun q : Nat => s.heap.size ≤ q) [(xb, .inl (a2, 8, .inl (fb))), (xo, .inl (a3, 8, .inl (fo))), (y0, .inr (1, [.ref yk, .ref yb, .ref yo])), (yk, .inl (b1, 32, .inl (gk))), (yb, .inl (b2, 8, .inl (gb))), (yo, .inl (b3, 8, .inl (go))), (x0, .inr (0, [.ref xk, .ref xb, .ref xo])), (xk, .inl (a1, 32, .inl (sk_pB (sk_pB (sk_pB (sk_pB fk (sk_at (xs (6 * ct + 1))) (xs (6 * ct + 2))) (sk_at (xs (6 * ct + 1)) + 4) (xs (6 * ct + 3))) (sk_at (xs (6 * ct + 1)) + 8) (xs (6 * ct + 4))) (sk_at (xs (6 * ct + 1)) + 12) (xs (6 * ct + 5)))))] := hD
        refine lv_aload_n hx hb dL_law_101 rfl (lv_at hl 2 rfl) ?_
        refine lv_aload_n hx hb dL_law_102 rfl (lv_at hl 0 rfl) ?_
        refine lv_iload_n hx hb dL_law_103 rfl (lv_at hl 3 rfl) ?_
        refine lv_iconst (v := nI 1) hx hb dL_law_104 (by decide) ?_
        refine lv_iadd hx hb dL_law_105 ?_
        refine sk_top (y := nI (6 * ct + 1)) (nI_add _ 1) ?_
        refine sk_sld (k := 6 * ct + 1) hx hb hX hbl hbA hS (by omega) hL dL_law_106 ?_
        refine lv_aload_n hx hb dL_law_107 rfl (lv_at hl 0 rfl) ?_
        refine lv_iload_n hx hb dL_law_108 rfl (lv_at hl 3 rfl) ?_
        refine lv_iconst (v := nI 2) hx hb dL_law_109 (by decide) ?_
        refine lv_iadd hx hb dL_law_110 ?_
        refine sk_top (y := nI (6 * ct + 2)) (nI_add _ 2) ?_
        refine sk_sld (k := 6 * ct + 2) hx hb hX hbl hbA hS (by omega) hL dL_law_111 ?_
        refine lv_aload_n hx hb dL_law_112 rfl (lv_at hl 0 rfl) ?_
        refine lv_iload_n hx hb dL_law_113 rfl (lv_at hl 3 rfl) ?_
        refine lv_iconst (v := nI 3) hx hb dL_law_114 (by decide) ?_
        refine lv_iadd hx hb dL_law_115 ?_
        refine sk_top (y := nI (6 * ct + 3)) (nI_add _ 3) ?_
        refine sk_sld (k := 6 * ct + 3) hx hb hX hbl hbA hS (by omega) hL dL_law_116 ?_
        refine lv_aload_n hx hb dL_law_117 rfl (lv_at hl 0 rfl) ?_
        refine lv_iload_n hx hb dL_law_118 rfl (lv_at hl 3 rfl) ?_
        refine lv_iconst (v := nI 4) hx hb dL_law_119 (by decide) ?_
        refine lv_iadd hx hb dL_law_120 ?_
        refine sk_top (y := nI (6 * ct + 4)) (nI_add _ 4) ?_
        refine sk_sld (k := 6 * ct + 4) hx hb hX hbl hbA hS (by omega) hL dL_law_121 ?_
        refine lv_aload_n hx hb dL_law_122 rfl (lv_at hl 0 rfl) ?_
        refine lv_iload_n hx hb dL_law_123 rfl (lv_at hl 3 rfl) ?_
        refine lv_iconst (v := nI 5) hx hb dL_law_124 (by decide) ?_
        refine lv_iadd hx hb dL_law_125 ?_
        refine sk_top (y := nI (6 * ct + 5)) (nI_add _ 5) ?_
        refine sk_sld (k := 6 * ct + 5) hx hb hX hbl hbA hS (by omega) hL dL_law_126 ?_
        have hPc := hP.sub (ws' := [(y0, .inr (1, [.ref yk, .ref yb, .ref yo])), (yk, .inl (b1, 32, .inl (gk)))]) [2, 3] rfl
        have hDc := hD.sub (ws' := [(y0, .inr (1, [.ref yk, .ref yb, .ref yo])), (yk, .inl (b1, 32, .inl (gk)))]) [2, 3] (by decide) rfl
        have hKc := hK.sub (tys' := [(b1, .int)]) [3] rfl
        have hFc := va_free (wc := [(y0, .inr (1, [.ref yk, .ref yb, .ref yo])), (yk, .inl (b1, 32, .inl (gk)))]) hD hS hA [2, 3] rfl
        refine va_callv (va_runV (As := [.int (xs (6 * ct + 1)), .int (xs (6 * ct + 2)), .int (xs (6 * ct + 3)), .int (xs (6 * ct + 4)), .int (xs (6 * ct + 5))]) (rest := []) ⟨hx, hb, hml, hown, hts⟩ (mod_key l dC dI H.size y0 yk yb yo b1 gk (xs (6 * ct + 1)) (xs (6 * ct + 2)) (xs (6 * ct + 3)) (xs (6 * ct + 4)) (xs (6 * ct + 5))) (cwV 5 hts (lw_V q296 q297 q298 q10 q299) rfl rfl rfl (by decide +kernel) ⟨Nat.le_of_ble_eq_true rfl, Nat.le_of_ble_eq_true rfl⟩) ⟨fun a U g mk q => by obtain ⟨q0, q1, qP, qK, qD⟩ := q; exact ⟨q0, q1, qP, va_K.moved (u := U) (U := U.calling g mk a) (Vm.Alike.refl U.vm) qK, qD⟩, va_recv hKc hPc (ci := 1) (q0 := 0) rfl rfl, fun U hU hW => ⟨rfl, by rw [hU], by rw [hU]; exact hPc, va_K.moved hW.alike hKc, hDc.weaken (fun _ _ _ _ => trivial)⟩⟩ rfl rfl hl.1 rfl (lv_room (Nat.le_of_ble_eq_true rfl)) dL_law_127 ⟨show 8 + 9 * ct + 0 + 0 ≤ 600096 by omega, show 102 + 158 * ct + 0 + 0 ≤ 7301386 by omega⟩) hS (fun q _ h => hFc q h) hFc (fun uS tS H1 locs htS hvm hw hB hz1 hk1 hS => ?_)
        obtain ⟨hP1, hK1, hD1⟩ := hB
        rw [htS] at hP1
        obtain ⟨hP, hD⟩ := va_join (wr := [(xb, .inl (a2, 8, .inl (fb))), (xo, .inl (a3, 8, .inl (fo))), (yb, .inl (b2, 8, .inl (gb))), (yo, .inl (b3, 8, .inl (go))), (x0, .inr (0, [.ref xk, .ref xb, .ref xo])), (xk, .inl (a1, 32, .inl (sk_pB (sk_pB (sk_pB (sk_pB fk (sk_at (xs (6 * ct + 1))) (xs (6 * ct + 2))) (sk_at (xs (6 * ct + 1)) + 4) (xs (6 * ct + 3))) (sk_at (xs (6 * ct + 1)) + 8) (xs (6 * ct + 4))) (sk_at (xs (6 * ct + 1)) + 12) (xs (6 * ct + 5)))))]) (w1 := [(y0, .inr (1, [.ref yk, .ref yb, .ref yo])), (yk, .inl (b1, 32, .inl (sk_pI (sk_pI (sk_pI (sk_pI gk (sk_at (xs (6 * ct + 1))) 4 (xs (6 * ct + 2))) (sk_at (xs (6 * ct + 1)) + 4) 4 (xs (6 * ct + 3))) (sk_at (xs (6 * ct + 1)) + 8) 4 (xs (6 * ct + 4))) (sk_at (xs (6 * ct + 1)) + 12) 4 (xs (6 * ct + 5)))))]) hP hD [2, 3] [0, 1, 4, 5, 6, 7] rfl rfl (by decide) (by decide) hk1 hFc hP1 hD1
        generalize H1 = H at hP hS ⊢
        have hP : va_P (dC, dI) vwCl [(xb, .inl (a2, 8, .inl (fb))), (xo, .inl (a3, 8, .inl (fo))), (yb, .inl (b2, 8, .inl (gb))), (yo, .inl (b3, 8, .inl (go))), (x0, .inr (0, [.ref xk, .ref xb, .ref xo])), (xk, .inl (a1, 32, .inl (sk_pB (sk_pB (sk_pB (sk_pB fk (sk_at (xs (6 * ct + 1))) (xs (6 * ct + 2))) (sk_at (xs (6 * ct + 1)) + 4) (xs (6 * ct + 3))) (sk_at (xs (6 * ct + 1)) + 8) (xs (6 * ct + 4))) (sk_at (xs (6 * ct + 1)) + 12) (xs (6 * ct + 5))))), (y0, .inr (1, [.ref yk, .ref yb, .ref yo])), (yk, .inl (b1, 32, .inl (sk_pI (sk_pI (sk_pI (sk_pI gk (sk_at (xs (6 * ct + 1))) 4 (xs (6 * ct + 2))) (sk_at (xs (6 * ct + 1)) + 4) 4 (xs (6 * ct + 3))) (sk_at (xs (6 * ct + 1)) + 8) 4 (xs (6 * ct + 4))) (sk_at (xs (6 * ct + 1)) + 12) 4 (xs (6 * ct + 5)))))] H := hP
        have hD : va_D (fun q : Nat => s.heap.size ≤ q) [(xb, .inl (a2, 8, .inl (fb))), (xo, .inl (a3, 8, .inl (fo))), (yb, .inl (b2, 8, .inl (gb))), (yo, .inl (b3, 8, .inl (go))), (x0, .inr (0, [.ref xk, .ref xb, .ref xo])), (xk, .inl (a1, 32, .inl (sk_pB (sk_pB (sk_pB (sk_pB fk (sk_at (xs (6 * ct + 1))) (xs (6 * ct + 2))) (sk_at (xs (6 * ct + 1)) + 4) (xs (6 * ct + 3))) (sk_at (xs (6 * ct + 1)) + 8) (xs (6 * ct + 4))) (sk_at (xs (6 * ct + 1)) + 12) (xs (6 * ct + 5))))), (y0, .inr (1, [.ref yk, .ref yb, .ref yo])), (yk, .inl (b1, 32, .inl (sk_pI (sk_pI (sk_pI (sk_pI gk (sk_at (xs (6 * ct + 1))) 4 (xs (6 * ct + 2))) (sk_at (xs (6 * ct + 1)) + 4) 4 (xs (6 * ct + 3))) (sk_at (xs (6 * ct + 1)) + 8) 4 (xs (6 * ct + 4))) (sk_at (xs (6 * ct + 1)) + 12) 4 (xs (6 * ct + 5)))))] := hD
        refine lv_goto (tgt := 240) hx hb dL_law_130 (by decide) ?_
        refine lv_iinc (v := nI (6 * (ct + 1))) (lv' := [(3, .int (nI (6 * (ct + 1)))), (0, .ref b), (1, .ref x0), (2, .ref y0)]) hx hb dL_law_240 hl (k := 3) rfl (by rw [show Int32.ofInt 6 = nI 6 by decide, nI_add, show 6 * ct + 6 = 6 * (ct + 1) by omega]) (by decide) rfl (fun ls hl => ?_)
        refine lv_goto (tgt := 18) hx hb dL_law_243 (by decide) ?_
        refine W.widen (k := 8 + 9 * (ct + 1)) (n := 102 + 158 * (ct + 1)) (by omega) (by omega) ?_
        have hP := hP.sub (ws' := [(x0, .inr (0, [.ref xk, .ref xb, .ref xo])), (xk, .inl (a1, 32, .inl (sk_pB (sk_pB (sk_pB (sk_pB fk (sk_at (xs (6 * ct + 1))) (xs (6 * ct + 2))) (sk_at (xs (6 * ct + 1)) + 4) (xs (6 * ct + 3))) (sk_at (xs (6 * ct + 1)) + 8) (xs (6 * ct + 4))) (sk_at (xs (6 * ct + 1)) + 12) (xs (6 * ct + 5))))), (xb, .inl (a2, 8, .inl (fb))), (xo, .inl (a3, 8, .inl (fo))), (y0, .inr (1, [.ref yk, .ref yb, .ref yo])), (yk, .inl (b1, 32, .inl (sk_pI (sk_pI (sk_pI (sk_pI gk (sk_at (xs (6 * ct + 1))) 4 (xs (6 * ct + 2))) (sk_at (xs (6 * ct + 1)) + 4) 4 (xs (6 * ct + 3))) (sk_at (xs (6 * ct + 1)) + 8) 4 (xs (6 * ct + 4))) (sk_at (xs (6 * ct + 1)) + 12) 4 (xs (6 * ct + 5))))), (yb, .inl (b2, 8, .inl (gb))), (yo, .inl (b3, 8, .inl (go)))]) [4, 5, 0, 1, 6, 7, 2, 3] rfl
        have hD := hD.sub (ws' := [(x0, .inr (0, [.ref xk, .ref xb, .ref xo])), (xk, .inl (a1, 32, .inl (sk_pB (sk_pB (sk_pB (sk_pB fk (sk_at (xs (6 * ct + 1))) (xs (6 * ct + 2))) (sk_at (xs (6 * ct + 1)) + 4) (xs (6 * ct + 3))) (sk_at (xs (6 * ct + 1)) + 8) (xs (6 * ct + 4))) (sk_at (xs (6 * ct + 1)) + 12) (xs (6 * ct + 5))))), (xb, .inl (a2, 8, .inl (fb))), (xo, .inl (a3, 8, .inl (fo))), (y0, .inr (1, [.ref yk, .ref yb, .ref yo])), (yk, .inl (b1, 32, .inl (sk_pI (sk_pI (sk_pI (sk_pI gk (sk_at (xs (6 * ct + 1))) 4 (xs (6 * ct + 2))) (sk_at (xs (6 * ct + 1)) + 4) 4 (xs (6 * ct + 3))) (sk_at (xs (6 * ct + 1)) + 8) 4 (xs (6 * ct + 4))) (sk_at (xs (6 * ct + 1)) + 12) 4 (xs (6 * ct + 5))))), (yb, .inl (b2, 8, .inl (gb))), (yo, .inl (b3, 8, .inl (go)))]) [4, 5, 0, 1, 6, 7, 2, 3] (by decide) rfl
        exact ih (ct + 1) (by omega) (by omega) _ B O _ _ _ _ _ _ H locs ls (sk_R_put (sk_R_put (sk_R_put (sk_R_put hRk _ _) _ _) _ _) _ _) hRb hRo hP hD hS (lv_sub hl [1, 2, 3, 0] rfl)
      · skip
        refine lv_tableIn (off := 100) (tgt := 133) hx hb dL_law_33 (by decide) (by decide) (by decide) (by decide) ?_
        refine lv_aload_n hx hb dL_law_133 rfl (lv_at hl 1 rfl) ?_
        refine lv_aload_n hx hb dL_law_134 rfl (lv_at hl 0 rfl) ?_
        refine lv_iload_n hx hb dL_law_135 rfl (lv_at hl 3 rfl) ?_
        refine lv_iconst (v := nI 1) hx hb dL_law_136 (by decide) ?_
        refine lv_iadd hx hb dL_law_137 ?_
        refine sk_top (y := nI (6 * ct + 1)) (nI_add _ 1) ?_
        refine sk_sld (k := 6 * ct + 1) hx hb hX hbl hbA hS (by omega) hL dL_law_138 ?_
        refine lv_aload_n hx hb dL_law_139 rfl (lv_at hl 0 rfl) ?_
        refine lv_iload_n hx hb dL_law_140 rfl (lv_at hl 3 rfl) ?_
        refine lv_iconst (v := nI 2) hx hb dL_law_141 (by decide) ?_
        refine lv_iadd hx hb dL_law_142 ?_
        refine sk_top (y := nI (6 * ct + 2)) (nI_add _ 2) ?_
        refine sk_sld (k := 6 * ct + 2) hx hb hX hbl hbA hS (by omega) hL dL_law_143 ?_
        have hPc := hP.sub (ws' := [(x0, .inr (0, [.ref xk, .ref xb, .ref xo])), (xb, .inl (a2, 8, .inl (fb)))]) [0, 2] rfl
        have hDc := hD.sub (ws' := [(x0, .inr (0, [.ref xk, .ref xb, .ref xo])), (xb, .inl (a2, 8, .inl (fb)))]) [0, 2] (by decide) rfl
        have hKc := hK.sub (tys' := [(a2, .byte)]) [1] rfl
        have hFc := va_free (wc := [(x0, .inr (0, [.ref xk, .ref xb, .ref xo])), (xb, .inl (a2, 8, .inl (fb)))]) hD hS hA [0, 2] rfl
        refine va_callv (va_runV (As := [.int (xs (6 * ct + 1)), .int (xs (6 * ct + 2))]) (rest := []) ⟨hx, hb, hml, hown, hts⟩ (dsk_block l dC dI H.size x0 xk xb xo a2 fb (xs (6 * ct + 1)) (xs (6 * ct + 2))) (cwV 2 hts (lw_V q48 q49 q50 q9 q51) rfl rfl rfl (by decide +kernel) ⟨Nat.le_of_ble_eq_true rfl, Nat.le_of_ble_eq_true rfl⟩) ⟨fun a U g mk q => by obtain ⟨q0, q1, qP, qK, qD⟩ := q; exact ⟨q0, q1, qP, va_K.moved (u := U) (U := U.calling g mk a) (Vm.Alike.refl U.vm) qK, qD⟩, va_recv hKc hPc (ci := 0) (q0 := 0) rfl rfl, fun U hU hW => ⟨rfl, by rw [hU], by rw [hU]; exact hPc, va_K.moved hW.alike hKc, hDc.weaken (fun _ _ _ _ => trivial)⟩⟩ rfl rfl hl.1 rfl (lv_room (Nat.le_of_ble_eq_true rfl)) dL_law_144 ⟨show 8 + 9 * ct + 0 ≤ 600096 by omega, show 102 + 158 * ct + 0 ≤ 7301386 by omega⟩) hS (fun q _ h => hFc q h) hFc (fun uS tS H1 locs htS hvm hw hB hz1 hk1 hS => ?_)
        obtain ⟨hP1, hK1, hD1⟩ := hB
        rw [htS] at hP1
        obtain ⟨hP, hD⟩ := va_join (wr := [(xk, .inl (a1, 32, .inl (fk))), (xo, .inl (a3, 8, .inl (fo))), (y0, .inr (1, [.ref yk, .ref yb, .ref yo])), (yk, .inl (b1, 32, .inl (gk))), (yb, .inl (b2, 8, .inl (gb))), (yo, .inl (b3, 8, .inl (go)))]) (w1 := [(x0, .inr (0, [.ref xk, .ref xb, .ref xo])), (xb, .inl (a2, 8, .inl (sk_pB (sk_pB fb 0 (xs (6 * ct + 1))) 4 (xs (6 * ct + 2)))))]) hP hD [0, 2] [1, 3, 4, 5, 6, 7] rfl rfl (by decide) (by decide) hk1 hFc hP1 hD1
        generalize H1 = H at hP hS ⊢
        have hP : va_P (dC, dI) vwCl [(xk, .inl (a1, 32, .inl (fk))), (xo, .inl (a3, 8, .inl (fo))), (y0, .inr (1, [.ref yk, .ref yb, .ref yo])), (yk, .inl (b1, 32, .inl (gk))), (yb, .inl (b2, 8, .inl (gb))), (yo, .inl (b3, 8, .inl (go))), (x0, .inr (0, [.ref xk, .ref xb, .ref xo])), (xb, .inl (a2, 8, .inl (sk_pB (sk_pB fb 0 (xs (6 * ct + 1))) 4 (xs (6 * ct + 2)))))] H := hP
        have hD : va_D (fun q : Nat => s.heap.size ≤ q) [(xk, .inl (a1, 32, .inl (fk))), (xo, .inl (a3, 8, .inl (fo))), (y0, .inr (1, [.ref yk, .ref yb, .ref yo])), (yk, .inl (b1, 32, .inl (gk))), (yb, .inl (b2, 8, .inl (gb))), (yo, .inl (b3, 8, .inl (go))), (x0, .inr (0, [.ref xk, .ref xb, .ref xo])), (xb, .inl (a2, 8, .inl (sk_pB (sk_pB fb 0 (xs (6 * ct + 1))) 4 (xs (6 * ct + 2)))))] := hD
        refine lv_aload_n hx hb dL_law_147 rfl (lv_at hl 2 rfl) ?_
        refine lv_aload_n hx hb dL_law_148 rfl (lv_at hl 0 rfl) ?_
        refine lv_iload_n hx hb dL_law_149 rfl (lv_at hl 3 rfl) ?_
        refine lv_iconst (v := nI 1) hx hb dL_law_150 (by decide) ?_
        refine lv_iadd hx hb dL_law_151 ?_
        refine sk_top (y := nI (6 * ct + 1)) (nI_add _ 1) ?_
        refine sk_sld (k := 6 * ct + 1) hx hb hX hbl hbA hS (by omega) hL dL_law_152 ?_
        refine lv_aload_n hx hb dL_law_153 rfl (lv_at hl 0 rfl) ?_
        refine lv_iload_n hx hb dL_law_154 rfl (lv_at hl 3 rfl) ?_
        refine lv_iconst (v := nI 2) hx hb dL_law_155 (by decide) ?_
        refine lv_iadd hx hb dL_law_156 ?_
        refine sk_top (y := nI (6 * ct + 2)) (nI_add _ 2) ?_
        refine sk_sld (k := 6 * ct + 2) hx hb hX hbl hbA hS (by omega) hL dL_law_157 ?_
        have hPc := hP.sub (ws' := [(y0, .inr (1, [.ref yk, .ref yb, .ref yo])), (yb, .inl (b2, 8, .inl (gb)))]) [2, 4] rfl
        have hDc := hD.sub (ws' := [(y0, .inr (1, [.ref yk, .ref yb, .ref yo])), (yb, .inl (b2, 8, .inl (gb)))]) [2, 4] (by decide) rfl
        have hKc := hK.sub (tys' := [(b2, .int)]) [4] rfl
        have hFc := va_free (wc := [(y0, .inr (1, [.ref yk, .ref yb, .ref yo])), (yb, .inl (b2, 8, .inl (gb)))]) hD hS hA [2, 4] rfl
        refine va_callv (va_runV (As := [.int (xs (6 * ct + 1)), .int (xs (6 * ct + 2))]) (rest := []) ⟨hx, hb, hml, hown, hts⟩ (mod_block l dC dI H.size y0 yk yb yo b2 gb (xs (6 * ct + 1)) (xs (6 * ct + 2))) (cwV 2 hts (lw_V q303 q304 q305 q10 q306) rfl rfl rfl (by decide +kernel) ⟨Nat.le_of_ble_eq_true rfl, Nat.le_of_ble_eq_true rfl⟩) ⟨fun a U g mk q => by obtain ⟨q0, q1, qP, qK, qD⟩ := q; exact ⟨q0, q1, qP, va_K.moved (u := U) (U := U.calling g mk a) (Vm.Alike.refl U.vm) qK, qD⟩, va_recv hKc hPc (ci := 1) (q0 := 0) rfl rfl, fun U hU hW => ⟨rfl, by rw [hU], by rw [hU]; exact hPc, va_K.moved hW.alike hKc, hDc.weaken (fun _ _ _ _ => trivial)⟩⟩ rfl rfl hl.1 rfl (lv_room (Nat.le_of_ble_eq_true rfl)) dL_law_158 ⟨show 8 + 9 * ct + 0 + 0 ≤ 600096 by omega, show 102 + 158 * ct + 0 + 0 ≤ 7301386 by omega⟩) hS (fun q _ h => hFc q h) hFc (fun uS tS H1 locs htS hvm hw hB hz1 hk1 hS => ?_)
        obtain ⟨hP1, hK1, hD1⟩ := hB
        rw [htS] at hP1
        obtain ⟨hP, hD⟩ := va_join (wr := [(xk, .inl (a1, 32, .inl (fk))), (xo, .inl (a3, 8, .inl (fo))), (yk, .inl (b1, 32, .inl (gk))), (yo, .inl (b3, 8, .inl (go))), (x0, .inr (0, [.ref xk, .ref xb, .ref xo])), (xb, .inl (a2, 8, .inl (sk_pB (sk_pB fb 0 (xs (6 * ct + 1))) 4 (xs (6 * ct + 2)))))]) (w1 := [(y0, .inr (1, [.ref yk, .ref yb, .ref yo])), (yb, .inl (b2, 8, .inl (sk_pI (sk_pI gb 0 4 (xs (6 * ct + 1))) 4 4 (xs (6 * ct + 2)))))]) hP hD [2, 4] [0, 1, 3, 5, 6, 7] rfl rfl (by decide) (by decide) hk1 hFc hP1 hD1
        generalize H1 = H at hP hS ⊢
        have hP : va_P (dC, dI) vwCl [(xk, .inl (a1, 32, .inl (fk))), (xo, .inl (a3, 8, .inl (fo))), (yk, .inl (b1, 32, .inl (gk))), (yo, .inl (b3, 8, .inl (go))), (x0, .inr (0, [.ref xk, .ref xb, .ref xo])), (xb, .inl (a2, 8, .inl (sk_pB (sk_pB fb 0 (xs (6 * ct + 1))) 4 (xs (6 * ct + 2))))), (y0, .inr (1, [.ref yk, .ref yb, .ref yo])), (yb, .inl (b2, 8, .inl (sk_pI (sk_pI gb 0 4 (xs (6 * ct + 1))) 4 4 (xs (6 * ct + 2)))))] H := hP
        have hD : va_D (fun q : Nat => s.heap.size ≤ q) [(xk, .inl (a1, 32, .inl (fk))), (xo, .inl (a3, 8, .inl (fo))), (yk, .inl (b1, 32, .inl (gk))), (yo, .inl (b3, 8, .inl (go))), (x0, .inr (0, [.ref xk, .ref xb, .ref xo])), (xb, .inl (a2, 8, .inl (sk_pB (sk_pB fb 0 (xs (6 * ct + 1))) 4 (xs (6 * ct + 2))))), (y0, .inr (1, [.ref yk, .ref yb, .ref yo])), (yb, .inl (b2, 8, .inl (sk_pI (sk_pI gb 0 4 (xs (6 * ct + 1))) 4 4 (xs (6 * ct + 2)))))] := hD
        refine lv_goto (tgt := 240) hx hb dL_law_161 (by decide) ?_
        refine lv_iinc (v := nI (6 * (ct + 1))) (lv' := [(3, .int (nI (6 * (ct + 1)))), (0, .ref b), (1, .ref x0), (2, .ref y0)]) hx hb dL_law_240 hl (k := 3) rfl (by rw [show Int32.ofInt 6 = nI 6 by decide, nI_add, show 6 * ct + 6 = 6 * (ct + 1) by omega]) (by decide) rfl (fun ls hl => ?_)
        refine lv_goto (tgt := 18) hx hb dL_law_243 (by decide) ?_
        refine W.widen (k := 8 + 9 * (ct + 1)) (n := 102 + 158 * (ct + 1)) (by omega) (by omega) ?_
        have hP := hP.sub (ws' := [(x0, .inr (0, [.ref xk, .ref xb, .ref xo])), (xk, .inl (a1, 32, .inl (fk))), (xb, .inl (a2, 8, .inl (sk_pB (sk_pB fb 0 (xs (6 * ct + 1))) 4 (xs (6 * ct + 2))))), (xo, .inl (a3, 8, .inl (fo))), (y0, .inr (1, [.ref yk, .ref yb, .ref yo])), (yk, .inl (b1, 32, .inl (gk))), (yb, .inl (b2, 8, .inl (sk_pI (sk_pI gb 0 4 (xs (6 * ct + 1))) 4 4 (xs (6 * ct + 2))))), (yo, .inl (b3, 8, .inl (go)))]) [4, 0, 5, 1, 6, 2, 7, 3] rfl
        have hD := hD.sub (ws' := [(x0, .inr (0, [.ref xk, .ref xb, .ref xo])), (xk, .inl (a1, 32, .inl (fk))), (xb, .inl (a2, 8, .inl (sk_pB (sk_pB fb 0 (xs (6 * ct + 1))) 4 (xs (6 * ct + 2))))), (xo, .inl (a3, 8, .inl (fo))), (y0, .inr (1, [.ref yk, .ref yb, .ref yo])), (yk, .inl (b1, 32, .inl (gk))), (yb, .inl (b2, 8, .inl (sk_pI (sk_pI gb 0 4 (xs (6 * ct + 1))) 4 4 (xs (6 * ct + 2))))), (yo, .inl (b3, 8, .inl (go)))]) [4, 0, 5, 1, 6, 2, 7, 3] (by decide) rfl
        exact ih (ct + 1) (by omega) (by omega) K _ O _ _ _ _ _ _ H locs ls hRk (sk_R_put (sk_R_put hRb _ _) _ _) hRo hP hD hS (lv_sub hl [1, 2, 3, 0] rfl)
      · skip
        refine lv_tableIn (off := 131) (tgt := 164) hx hb dL_law_33 (by decide) (by decide) (by decide) (by decide) ?_
        refine lv_aload_n hx hb dL_law_164 rfl (lv_at hl 1 rfl) ?_
        refine lv_aload_n hx hb dL_law_165 rfl (lv_at hl 0 rfl) ?_
        refine lv_iload_n hx hb dL_law_166 rfl (lv_at hl 3 rfl) ?_
        refine lv_iconst (v := nI 1) hx hb dL_law_167 (by decide) ?_
        refine lv_iadd hx hb dL_law_168 ?_
        refine sk_top (y := nI (6 * ct + 1)) (nI_add _ 1) ?_
        refine sk_sld (k := 6 * ct + 1) hx hb hX hbl hbA hS (by omega) hL dL_law_169 ?_
        have hPc := hP.sub (ws' := [(x0, .inr (0, [.ref xk, .ref xb, .ref xo])), (xk, .inl (a1, 32, .inl (fk))), (xb, .inl (a2, 8, .inl (fb))), (xo, .inl (a3, 8, .inl (fo)))]) [0, 1, 2, 3] rfl
        have hDc := hD.sub (ws' := [(x0, .inr (0, [.ref xk, .ref xb, .ref xo])), (xk, .inl (a1, 32, .inl (fk))), (xb, .inl (a2, 8, .inl (fb))), (xo, .inl (a3, 8, .inl (fo)))]) [0, 1, 2, 3] (by decide) rfl
        have hKc := hK.sub (tys' := [(a1, .byte), (a2, .byte), (a3, .byte)]) [0, 1, 2] rfl
        have hFc := va_free (wc := [(x0, .inr (0, [.ref xk, .ref xb, .ref xo])), (xk, .inl (a1, 32, .inl (fk))), (xb, .inl (a2, 8, .inl (fb))), (xo, .inl (a3, 8, .inl (fo)))]) hD hS hA [0, 1, 2, 3] rfl
        refine va_callv (va_runV (As := [.int (xs (6 * ct + 1))]) (rest := []) ⟨hx, hb, hml, hown, hts⟩ (dsk_lock l dC dI H.size x0 xk xb xo a1 a2 a3 fk fb fo K B (xs (6 * ct + 1)) tE hK0 (fun j hj => (hRk j (by omega)).2.1) hB0 (fun j hj => (hRb j hj).2.1)) (cwV 1 hts (lw_V q52 q53 q54 q9 q55) rfl rfl rfl (by decide +kernel) ⟨Nat.le_of_ble_eq_true rfl, Nat.le_of_ble_eq_true rfl⟩) ⟨fun a U g mk q => by obtain ⟨q0, q1, qP, qK, qD, qT0, qT1⟩ := q; exact ⟨q0, q1, qP, va_K.moved (u := U) (U := U.calling g mk a) (Vm.Alike.refl U.vm) qK, qD, qT0.calling, qT1.calling⟩, va_recv hKc hPc (ci := 0) (q0 := 0) rfl rfl, fun U hU hW => ⟨rfl, by rw [hU], by rw [hU]; exact hPc, va_K.moved hW.alike hKc, hDc.weaken (fun _ _ _ _ => trivial), hT.call hW.alike hU hS hFc, hI.call hW.alike hU hS hFc⟩⟩ rfl rfl hl.1 rfl (lv_room (Nat.le_of_ble_eq_true rfl)) dL_law_170 ⟨show 8 + 9 * ct + 8 ≤ 600096 by omega, show 102 + 158 * ct + 154 ≤ 7301386 by omega⟩) hS (fun q _ h => hFc q h) hFc (fun uS tS H1 locs htS hvm hw hB hz1 hk1 hS => ?_)
        obtain ⟨hP1, hK1, hD1⟩ := hB
        rw [htS] at hP1
        obtain ⟨hP, hD⟩ := va_join (wr := [(y0, .inr (1, [.ref yk, .ref yb, .ref yo])), (yk, .inl (b1, 32, .inl (gk))), (yb, .inl (b2, 8, .inl (gb))), (yo, .inl (b3, 8, .inl (go)))]) (w1 := [(x0, .inr (0, [.ref xk, .ref xb, .ref xo])), (xk, .inl (a1, 32, .inl (fk))), (xb, .inl (a2, 8, .inl (fb))), (xo, .inl (a3, 8, .inl (sk_fill (fun j => sk_b (sk_by (sk_enc K 32 (sk_wd B)) j)) fo 8)))]) hP hD [0, 1, 2, 3] [4, 5, 6, 7] rfl rfl (by decide) (by decide) hk1 hFc hP1 hD1
        generalize H1 = H at hP hS ⊢
        have hP : va_P (dC, dI) vwCl [(y0, .inr (1, [.ref yk, .ref yb, .ref yo])), (yk, .inl (b1, 32, .inl (gk))), (yb, .inl (b2, 8, .inl (gb))), (yo, .inl (b3, 8, .inl (go))), (x0, .inr (0, [.ref xk, .ref xb, .ref xo])), (xk, .inl (a1, 32, .inl (fk))), (xb, .inl (a2, 8, .inl (fb))), (xo, .inl (a3, 8, .inl (sk_fill (fun j => sk_b (sk_by (sk_enc K 32 (sk_wd B)) j)) fo 8)))] H := hP
        have hD : va_D (fun q : Nat => s.heap.size ≤ q) [(y0, .inr (1, [.ref yk, .ref yb, .ref yo])), (yk, .inl (b1, 32, .inl (gk))), (yb, .inl (b2, 8, .inl (gb))), (yo, .inl (b3, 8, .inl (go))), (x0, .inr (0, [.ref xk, .ref xb, .ref xo])), (xk, .inl (a1, 32, .inl (fk))), (xb, .inl (a2, 8, .inl (fb))), (xo, .inl (a3, 8, .inl (sk_fill (fun j => sk_b (sk_by (sk_enc K 32 (sk_wd B)) j)) fo 8)))] := hD
        refine lv_aload_n hx hb dL_law_173 rfl (lv_at hl 2 rfl) ?_
        refine lv_aload_n hx hb dL_law_174 rfl (lv_at hl 0 rfl) ?_
        refine lv_iload_n hx hb dL_law_175 rfl (lv_at hl 3 rfl) ?_
        refine lv_iconst (v := nI 1) hx hb dL_law_176 (by decide) ?_
        refine lv_iadd hx hb dL_law_177 ?_
        refine sk_top (y := nI (6 * ct + 1)) (nI_add _ 1) ?_
        refine sk_sld (k := 6 * ct + 1) hx hb hX hbl hbA hS (by omega) hL dL_law_178 ?_
        have hPc := hP.sub (ws' := [(y0, .inr (1, [.ref yk, .ref yb, .ref yo])), (yk, .inl (b1, 32, .inl (gk))), (yb, .inl (b2, 8, .inl (gb))), (yo, .inl (b3, 8, .inl (go)))]) [0, 1, 2, 3] rfl
        have hDc := hD.sub (ws' := [(y0, .inr (1, [.ref yk, .ref yb, .ref yo])), (yk, .inl (b1, 32, .inl (gk))), (yb, .inl (b2, 8, .inl (gb))), (yo, .inl (b3, 8, .inl (go)))]) [0, 1, 2, 3] (by decide) rfl
        have hKc := hK.sub (tys' := [(b1, .int), (b2, .int), (b3, .int)]) [3, 4, 5] rfl
        have hFc := va_free (wc := [(y0, .inr (1, [.ref yk, .ref yb, .ref yo])), (yk, .inl (b1, 32, .inl (gk))), (yb, .inl (b2, 8, .inl (gb))), (yo, .inl (b3, 8, .inl (go)))]) hD hS hA [0, 1, 2, 3] rfl
        refine va_callv (va_runV (As := [.int (xs (6 * ct + 1))]) (rest := []) ⟨hx, hb, hml, hown, hts⟩ (mod_lock l dC dI H.size y0 yk yb yo b1 b2 b3 gk gb go K B (xs (6 * ct + 1)) tM hK0 (fun j hj => (hRk j (by omega)).2.2) hB0 (fun j hj => (hRb j hj).2.2)) (cwV 1 hts (lw_V q307 q308 q309 q10 q310) rfl rfl rfl (by decide +kernel) ⟨Nat.le_of_ble_eq_true rfl, Nat.le_of_ble_eq_true rfl⟩) ⟨fun a U g mk q => by obtain ⟨q0, q1, qP, qK, qD, qT0⟩ := q; exact ⟨q0, q1, qP, va_K.moved (u := U) (U := U.calling g mk a) (Vm.Alike.refl U.vm) qK, qD, qT0.calling⟩, va_recv hKc hPc (ci := 1) (q0 := 0) rfl rfl, fun U hU hW => ⟨rfl, by rw [hU], by rw [hU]; exact hPc, va_K.moved hW.alike hKc, hDc.weaken (fun _ _ _ _ => trivial), hM.call hW.alike hU hS hFc⟩⟩ rfl rfl hl.1 rfl (lv_room (Nat.le_of_ble_eq_true rfl)) dL_law_179 ⟨show 8 + 9 * ct + 8 + 1 ≤ 600096 by omega, show 102 + 158 * ct + 154 + 4 ≤ 7301386 by omega⟩) hS (fun q _ h => hFc q h) hFc (fun uS tS H1 locs htS hvm hw hB hz1 hk1 hS => ?_)
        obtain ⟨hP1, hK1, hD1⟩ := hB
        rw [htS] at hP1
        obtain ⟨hP, hD⟩ := va_join (wr := [(x0, .inr (0, [.ref xk, .ref xb, .ref xo])), (xk, .inl (a1, 32, .inl (fk))), (xb, .inl (a2, 8, .inl (fb))), (xo, .inl (a3, 8, .inl (sk_fill (fun j => sk_b (sk_by (sk_enc K 32 (sk_wd B)) j)) fo 8)))]) (w1 := [(y0, .inr (1, [.ref yk, .ref yb, .ref yo])), (yk, .inl (b1, 32, .inl (gk))), (yb, .inl (b2, 8, .inl (gb))), (yo, .inl (b3, 8, .inl (sk_fill (fun j => nI (sk_by (sk_enc K 32 (sk_wd B)) j)) go 8)))]) hP hD [0, 1, 2, 3] [4, 5, 6, 7] rfl rfl (by decide) (by decide) hk1 hFc hP1 hD1
        generalize H1 = H at hP hS ⊢
        have hP : va_P (dC, dI) vwCl [(x0, .inr (0, [.ref xk, .ref xb, .ref xo])), (xk, .inl (a1, 32, .inl (fk))), (xb, .inl (a2, 8, .inl (fb))), (xo, .inl (a3, 8, .inl (sk_fill (fun j => sk_b (sk_by (sk_enc K 32 (sk_wd B)) j)) fo 8))), (y0, .inr (1, [.ref yk, .ref yb, .ref yo])), (yk, .inl (b1, 32, .inl (gk))), (yb, .inl (b2, 8, .inl (gb))), (yo, .inl (b3, 8, .inl (sk_fill (fun j => nI (sk_by (sk_enc K 32 (sk_wd B)) j)) go 8)))] H := hP
        have hD : va_D (fun q : Nat => s.heap.size ≤ q) [(x0, .inr (0, [.ref xk, .ref xb, .ref xo])), (xk, .inl (a1, 32, .inl (fk))), (xb, .inl (a2, 8, .inl (fb))), (xo, .inl (a3, 8, .inl (sk_fill (fun j => sk_b (sk_by (sk_enc K 32 (sk_wd B)) j)) fo 8))), (y0, .inr (1, [.ref yk, .ref yb, .ref yo])), (yk, .inl (b1, 32, .inl (gk))), (yb, .inl (b2, 8, .inl (gb))), (yo, .inl (b3, 8, .inl (sk_fill (fun j => nI (sk_by (sk_enc K 32 (sk_wd B)) j)) go 8)))] := hD
        refine lv_goto (tgt := 240) hx hb dL_law_182 (by decide) ?_
        refine lv_iinc (v := nI (6 * (ct + 1))) (lv' := [(3, .int (nI (6 * (ct + 1)))), (0, .ref b), (1, .ref x0), (2, .ref y0)]) hx hb dL_law_240 hl (k := 3) rfl (by rw [show Int32.ofInt 6 = nI 6 by decide, nI_add, show 6 * ct + 6 = 6 * (ct + 1) by omega]) (by decide) rfl (fun ls hl => ?_)
        refine lv_goto (tgt := 18) hx hb dL_law_243 (by decide) ?_
        refine W.widen (k := 8 + 9 * (ct + 1)) (n := 102 + 158 * (ct + 1)) (by omega) (by omega) ?_
        have hP := hP.sub (ws' := [(x0, .inr (0, [.ref xk, .ref xb, .ref xo])), (xk, .inl (a1, 32, .inl (fk))), (xb, .inl (a2, 8, .inl (fb))), (xo, .inl (a3, 8, .inl (sk_fill (fun j => sk_b (sk_by (sk_enc K 32 (sk_wd B)) j)) fo 8))), (y0, .inr (1, [.ref yk, .ref yb, .ref yo])), (yk, .inl (b1, 32, .inl (gk))), (yb, .inl (b2, 8, .inl (gb))), (yo, .inl (b3, 8, .inl (sk_fill (fun j => nI (sk_by (sk_enc K 32 (sk_wd B)) j)) go 8)))]) [0, 1, 2, 3, 4, 5, 6, 7] rfl
        have hD := hD.sub (ws' := [(x0, .inr (0, [.ref xk, .ref xb, .ref xo])), (xk, .inl (a1, 32, .inl (fk))), (xb, .inl (a2, 8, .inl (fb))), (xo, .inl (a3, 8, .inl (sk_fill (fun j => sk_b (sk_by (sk_enc K 32 (sk_wd B)) j)) fo 8))), (y0, .inr (1, [.ref yk, .ref yb, .ref yo])), (yk, .inl (b1, 32, .inl (gk))), (yb, .inl (b2, 8, .inl (gb))), (yo, .inl (b3, 8, .inl (sk_fill (fun j => nI (sk_by (sk_enc K 32 (sk_wd B)) j)) go 8)))]) [0, 1, 2, 3, 4, 5, 6, 7] (by decide) rfl
        exact ih (ct + 1) (by omega) (by omega) K B (sk_by (sk_enc K 32 (sk_wd B))) _ _ _ _ _ _ H locs ls hRk hRb (sk_R_new (fun j _ => sk_by_lt (sk_enc_ok hK0 (sk_wd_ok hB0) 32 (Nat.le_refl 32)) j)) hP hD hS (lv_sub hl [1, 2, 3, 0] rfl)
      · skip
        refine lv_tableIn (off := 152) (tgt := 185) hx hb dL_law_33 (by decide) (by decide) (by decide) (by decide) ?_
        refine lv_aload_n hx hb dL_law_185 rfl (lv_at hl 1 rfl) ?_
        refine lv_aload_n hx hb dL_law_186 rfl (lv_at hl 0 rfl) ?_
        refine lv_iload_n hx hb dL_law_187 rfl (lv_at hl 3 rfl) ?_
        refine lv_iconst (v := nI 1) hx hb dL_law_188 (by decide) ?_
        refine lv_iadd hx hb dL_law_189 ?_
        refine sk_top (y := nI (6 * ct + 1)) (nI_add _ 1) ?_
        refine sk_sld (k := 6 * ct + 1) hx hb hX hbl hbA hS (by omega) hL dL_law_190 ?_
        have hPc := hP.sub (ws' := [(x0, .inr (0, [.ref xk, .ref xb, .ref xo])), (xk, .inl (a1, 32, .inl (fk))), (xb, .inl (a2, 8, .inl (fb))), (xo, .inl (a3, 8, .inl (fo)))]) [0, 1, 2, 3] rfl
        have hDc := hD.sub (ws' := [(x0, .inr (0, [.ref xk, .ref xb, .ref xo])), (xk, .inl (a1, 32, .inl (fk))), (xb, .inl (a2, 8, .inl (fb))), (xo, .inl (a3, 8, .inl (fo)))]) [0, 1, 2, 3] (by decide) rfl
        have hKc := hK.sub (tys' := [(a1, .byte), (a2, .byte), (a3, .byte)]) [0, 1, 2] rfl
        have hFc := va_free (wc := [(x0, .inr (0, [.ref xk, .ref xb, .ref xo])), (xk, .inl (a1, 32, .inl (fk))), (xb, .inl (a2, 8, .inl (fb))), (xo, .inl (a3, 8, .inl (fo)))]) hD hS hA [0, 1, 2, 3] rfl
        refine va_callv (va_runV (As := [.int (xs (6 * ct + 1))]) (rest := []) ⟨hx, hb, hml, hown, hts⟩ (dsk_open l dC dI H.size x0 xk xb xo a1 a2 a3 fk fb fo K B (xs (6 * ct + 1)) tE hK0 (fun j hj => (hRk j (by omega)).2.1) hB0 (fun j hj => (hRb j hj).2.1)) (cwV 1 hts (lw_V q268 q269 q270 q9 q271) rfl rfl rfl (by decide +kernel) ⟨Nat.le_of_ble_eq_true rfl, Nat.le_of_ble_eq_true rfl⟩) ⟨fun a U g mk q => by obtain ⟨q0, q1, qP, qK, qD, qT0, qT1⟩ := q; exact ⟨q0, q1, qP, va_K.moved (u := U) (U := U.calling g mk a) (Vm.Alike.refl U.vm) qK, qD, qT0.calling, qT1.calling⟩, va_recv hKc hPc (ci := 0) (q0 := 0) rfl rfl, fun U hU hW => ⟨rfl, by rw [hU], by rw [hU]; exact hPc, va_K.moved hW.alike hKc, hDc.weaken (fun _ _ _ _ => trivial), hT.call hW.alike hU hS hFc, hI.call hW.alike hU hS hFc⟩⟩ rfl rfl hl.1 rfl (lv_room (Nat.le_of_ble_eq_true rfl)) dL_law_191 ⟨show 8 + 9 * ct + 8 ≤ 600096 by omega, show 102 + 158 * ct + 154 ≤ 7301386 by omega⟩) hS (fun q _ h => hFc q h) hFc (fun uS tS H1 locs htS hvm hw hB hz1 hk1 hS => ?_)
        obtain ⟨hP1, hK1, hD1⟩ := hB
        rw [htS] at hP1
        obtain ⟨hP, hD⟩ := va_join (wr := [(y0, .inr (1, [.ref yk, .ref yb, .ref yo])), (yk, .inl (b1, 32, .inl (gk))), (yb, .inl (b2, 8, .inl (gb))), (yo, .inl (b3, 8, .inl (go)))]) (w1 := [(x0, .inr (0, [.ref xk, .ref xb, .ref xo])), (xk, .inl (a1, 32, .inl (fk))), (xb, .inl (a2, 8, .inl (fb))), (xo, .inl (a3, 8, .inl (sk_fill (fun j => sk_b (sk_by (sk_dec K 32 (sk_wd B)) j)) fo 8)))]) hP hD [0, 1, 2, 3] [4, 5, 6, 7] rfl rfl (by decide) (by decide) hk1 hFc hP1 hD1
        generalize H1 = H at hP hS ⊢
        have hP : va_P (dC, dI) vwCl [(y0, .inr (1, [.ref yk, .ref yb, .ref yo])), (yk, .inl (b1, 32, .inl (gk))), (yb, .inl (b2, 8, .inl (gb))), (yo, .inl (b3, 8, .inl (go))), (x0, .inr (0, [.ref xk, .ref xb, .ref xo])), (xk, .inl (a1, 32, .inl (fk))), (xb, .inl (a2, 8, .inl (fb))), (xo, .inl (a3, 8, .inl (sk_fill (fun j => sk_b (sk_by (sk_dec K 32 (sk_wd B)) j)) fo 8)))] H := hP
        have hD : va_D (fun q : Nat => s.heap.size ≤ q) [(y0, .inr (1, [.ref yk, .ref yb, .ref yo])), (yk, .inl (b1, 32, .inl (gk))), (yb, .inl (b2, 8, .inl (gb))), (yo, .inl (b3, 8, .inl (go))), (x0, .inr (0, [.ref xk, .ref xb, .ref xo])), (xk, .inl (a1, 32, .inl (fk))), (xb, .inl (a2, 8, .inl (fb))), (xo, .inl (a3, 8, .inl (sk_fill (fun j => sk_b (sk_by (sk_dec K 32 (sk_wd B)) j)) fo 8)))] := hD
        refine lv_aload_n hx hb dL_law_194 rfl (lv_at hl 2 rfl) ?_
        refine lv_aload_n hx hb dL_law_195 rfl (lv_at hl 0 rfl) ?_
        refine lv_iload_n hx hb dL_law_196 rfl (lv_at hl 3 rfl) ?_
        refine lv_iconst (v := nI 1) hx hb dL_law_197 (by decide) ?_
        refine lv_iadd hx hb dL_law_198 ?_
        refine sk_top (y := nI (6 * ct + 1)) (nI_add _ 1) ?_
        refine sk_sld (k := 6 * ct + 1) hx hb hX hbl hbA hS (by omega) hL dL_law_199 ?_
        have hPc := hP.sub (ws' := [(y0, .inr (1, [.ref yk, .ref yb, .ref yo])), (yk, .inl (b1, 32, .inl (gk))), (yb, .inl (b2, 8, .inl (gb))), (yo, .inl (b3, 8, .inl (go)))]) [0, 1, 2, 3] rfl
        have hDc := hD.sub (ws' := [(y0, .inr (1, [.ref yk, .ref yb, .ref yo])), (yk, .inl (b1, 32, .inl (gk))), (yb, .inl (b2, 8, .inl (gb))), (yo, .inl (b3, 8, .inl (go)))]) [0, 1, 2, 3] (by decide) rfl
        have hKc := hK.sub (tys' := [(b1, .int), (b2, .int), (b3, .int)]) [3, 4, 5] rfl
        have hFc := va_free (wc := [(y0, .inr (1, [.ref yk, .ref yb, .ref yo])), (yk, .inl (b1, 32, .inl (gk))), (yb, .inl (b2, 8, .inl (gb))), (yo, .inl (b3, 8, .inl (go)))]) hD hS hA [0, 1, 2, 3] rfl
        refine va_callv (va_runV (As := [.int (xs (6 * ct + 1))]) (rest := []) ⟨hx, hb, hml, hown, hts⟩ (mod_open l dC dI H.size y0 yk yb yo b1 b2 b3 gk gb go K B (xs (6 * ct + 1)) tM hK0 (fun j hj => (hRk j (by omega)).2.2) hB0 (fun j hj => (hRb j hj).2.2)) (cwV 1 hts (lw_V q328 q329 q330 q10 q331) rfl rfl rfl (by decide +kernel) ⟨Nat.le_of_ble_eq_true rfl, Nat.le_of_ble_eq_true rfl⟩) ⟨fun a U g mk q => by obtain ⟨q0, q1, qP, qK, qD, qT0⟩ := q; exact ⟨q0, q1, qP, va_K.moved (u := U) (U := U.calling g mk a) (Vm.Alike.refl U.vm) qK, qD, qT0.calling⟩, va_recv hKc hPc (ci := 1) (q0 := 0) rfl rfl, fun U hU hW => ⟨rfl, by rw [hU], by rw [hU]; exact hPc, va_K.moved hW.alike hKc, hDc.weaken (fun _ _ _ _ => trivial), hM.call hW.alike hU hS hFc⟩⟩ rfl rfl hl.1 rfl (lv_room (Nat.le_of_ble_eq_true rfl)) dL_law_200 ⟨show 8 + 9 * ct + 8 + 1 ≤ 600096 by omega, show 102 + 158 * ct + 154 + 4 ≤ 7301386 by omega⟩) hS (fun q _ h => hFc q h) hFc (fun uS tS H1 locs htS hvm hw hB hz1 hk1 hS => ?_)
        obtain ⟨hP1, hK1, hD1⟩ := hB
        rw [htS] at hP1
        obtain ⟨hP, hD⟩ := va_join (wr := [(x0, .inr (0, [.ref xk, .ref xb, .ref xo])), (xk, .inl (a1, 32, .inl (fk))), (xb, .inl (a2, 8, .inl (fb))), (xo, .inl (a3, 8, .inl (sk_fill (fun j => sk_b (sk_by (sk_dec K 32 (sk_wd B)) j)) fo 8)))]) (w1 := [(y0, .inr (1, [.ref yk, .ref yb, .ref yo])), (yk, .inl (b1, 32, .inl (gk))), (yb, .inl (b2, 8, .inl (gb))), (yo, .inl (b3, 8, .inl (sk_fill (fun j => nI (sk_by (sk_dec K 32 (sk_wd B)) j)) go 8)))]) hP hD [0, 1, 2, 3] [4, 5, 6, 7] rfl rfl (by decide) (by decide) hk1 hFc hP1 hD1
        generalize H1 = H at hP hS ⊢
        have hP : va_P (dC, dI) vwCl [(x0, .inr (0, [.ref xk, .ref xb, .ref xo])), (xk, .inl (a1, 32, .inl (fk))), (xb, .inl (a2, 8, .inl (fb))), (xo, .inl (a3, 8, .inl (sk_fill (fun j => sk_b (sk_by (sk_dec K 32 (sk_wd B)) j)) fo 8))), (y0, .inr (1, [.ref yk, .ref yb, .ref yo])), (yk, .inl (b1, 32, .inl (gk))), (yb, .inl (b2, 8, .inl (gb))), (yo, .inl (b3, 8, .inl (sk_fill (fun j => nI (sk_by (sk_dec K 32 (sk_wd B)) j)) go 8)))] H := hP
        have hD : va_D (fun q : Nat => s.heap.size ≤ q) [(x0, .inr (0, [.ref xk, .ref xb, .ref xo])), (xk, .inl (a1, 32, .inl (fk))), (xb, .inl (a2, 8, .inl (fb))), (xo, .inl (a3, 8, .inl (sk_fill (fun j => sk_b (sk_by (sk_dec K 32 (sk_wd B)) j)) fo 8))), (y0, .inr (1, [.ref yk, .ref yb, .ref yo])), (yk, .inl (b1, 32, .inl (gk))), (yb, .inl (b2, 8, .inl (gb))), (yo, .inl (b3, 8, .inl (sk_fill (fun j => nI (sk_by (sk_dec K 32 (sk_wd B)) j)) go 8)))] := hD
        refine lv_goto (tgt := 240) hx hb dL_law_203 (by decide) ?_
        refine lv_iinc (v := nI (6 * (ct + 1))) (lv' := [(3, .int (nI (6 * (ct + 1)))), (0, .ref b), (1, .ref x0), (2, .ref y0)]) hx hb dL_law_240 hl (k := 3) rfl (by rw [show Int32.ofInt 6 = nI 6 by decide, nI_add, show 6 * ct + 6 = 6 * (ct + 1) by omega]) (by decide) rfl (fun ls hl => ?_)
        refine lv_goto (tgt := 18) hx hb dL_law_243 (by decide) ?_
        refine W.widen (k := 8 + 9 * (ct + 1)) (n := 102 + 158 * (ct + 1)) (by omega) (by omega) ?_
        have hP := hP.sub (ws' := [(x0, .inr (0, [.ref xk, .ref xb, .ref xo])), (xk, .inl (a1, 32, .inl (fk))), (xb, .inl (a2, 8, .inl (fb))), (xo, .inl (a3, 8, .inl (sk_fill (fun j => sk_b (sk_by (sk_dec K 32 (sk_wd B)) j)) fo 8))), (y0, .inr (1, [.ref yk, .ref yb, .ref yo])), (yk, .inl (b1, 32, .inl (gk))), (yb, .inl (b2, 8, .inl (gb))), (yo, .inl (b3, 8, .inl (sk_fill (fun j => nI (sk_by (sk_dec K 32 (sk_wd B)) j)) go 8)))]) [0, 1, 2, 3, 4, 5, 6, 7] rfl
        have hD := hD.sub (ws' := [(x0, .inr (0, [.ref xk, .ref xb, .ref xo])), (xk, .inl (a1, 32, .inl (fk))), (xb, .inl (a2, 8, .inl (fb))), (xo, .inl (a3, 8, .inl (sk_fill (fun j => sk_b (sk_by (sk_dec K 32 (sk_wd B)) j)) fo 8))), (y0, .inr (1, [.ref yk, .ref yb, .ref yo])), (yk, .inl (b1, 32, .inl (gk))), (yb, .inl (b2, 8, .inl (gb))), (yo, .inl (b3, 8, .inl (sk_fill (fun j => nI (sk_by (sk_dec K 32 (sk_wd B)) j)) go 8)))]) [0, 1, 2, 3, 4, 5, 6, 7] (by decide) rfl
        exact ih (ct + 1) (by omega) (by omega) K B (sk_by (sk_dec K 32 (sk_wd B))) _ _ _ _ _ _ H locs ls hRk hRb (sk_R_new (fun j _ => sk_by_lt (sk_dec_ok hK0 (sk_wd_ok hB0) 32 (Nat.le_refl 32)) j)) hP hD hS (lv_sub hl [1, 2, 3, 0] rfl)
      · skip
        refine lv_tableIn (off := 173) (tgt := 206) hx hb dL_law_33 (by decide) (by decide) (by decide) (by decide) ?_
        refine lv_aload_n hx hb dL_law_206 rfl (lv_at hl 1 rfl) ?_
        have hPc := hP.sub (ws' := [(x0, .inr (0, [.ref xk, .ref xb, .ref xo])), (xb, .inl (a2, 8, .inl (fb))), (xo, .inl (a3, 8, .inl (fo)))]) [0, 2, 3] rfl
        have hDc := hD.sub (ws' := [(x0, .inr (0, [.ref xk, .ref xb, .ref xo])), (xb, .inl (a2, 8, .inl (fb))), (xo, .inl (a3, 8, .inl (fo)))]) [0, 2, 3] (by decide) rfl
        have hKc := hK.sub (tys' := [(a2, .byte), (a3, .byte)]) [1, 2] rfl
        have hFc := va_free (wc := [(x0, .inr (0, [.ref xk, .ref xb, .ref xo])), (xb, .inl (a2, 8, .inl (fb))), (xo, .inl (a3, 8, .inl (fo)))]) hD hS hA [0, 2, 3] rfl
        refine va_callv (va_runV (As := []) (rest := []) ⟨hx, hb, hml, hown, hts⟩ (dsk_again l dC dI H.size x0 xk xb xo a2 a3 fb fo O (fun j hj => (hRo j hj).2.1)) (cwV 0 hts (lw_V q272 q273 q274 q9 q275) rfl rfl rfl (by decide +kernel) ⟨Nat.le_of_ble_eq_true rfl, Nat.le_of_ble_eq_true rfl⟩) ⟨fun a U g mk q => by obtain ⟨q0, q1, qP, qK, qD⟩ := q; exact ⟨q0, q1, qP, va_K.moved (u := U) (U := U.calling g mk a) (Vm.Alike.refl U.vm) qK, qD⟩, va_recv hKc hPc (ci := 0) (q0 := 0) rfl rfl, fun U hU hW => ⟨rfl, by rw [hU], by rw [hU]; exact hPc, va_K.moved hW.alike hKc, hDc.weaken (fun _ _ _ _ => trivial)⟩⟩ rfl rfl hl.1 rfl (lv_room (Nat.le_of_ble_eq_true rfl)) dL_law_207 ⟨show 8 + 9 * ct + 0 ≤ 600096 by omega, show 102 + 158 * ct + 0 ≤ 7301386 by omega⟩) hS (fun q _ h => hFc q h) hFc (fun uS tS H1 locs htS hvm hw hB hz1 hk1 hS => ?_)
        obtain ⟨hP1, hK1, hD1⟩ := hB
        rw [htS] at hP1
        obtain ⟨hP, hD⟩ := va_join (wr := [(xk, .inl (a1, 32, .inl (fk))), (y0, .inr (1, [.ref yk, .ref yb, .ref yo])), (yk, .inl (b1, 32, .inl (gk))), (yb, .inl (b2, 8, .inl (gb))), (yo, .inl (b3, 8, .inl (go)))]) (w1 := [(x0, .inr (0, [.ref xk, .ref xb, .ref xo])), (xb, .inl (a2, 8, .inl (sk_fill (fun j => sk_b (O j)) fb 8))), (xo, .inl (a3, 8, .inl (fo)))]) hP hD [0, 2, 3] [1, 4, 5, 6, 7] rfl rfl (by decide) (by decide) hk1 hFc hP1 hD1
        generalize H1 = H at hP hS ⊢
        have hP : va_P (dC, dI) vwCl [(xk, .inl (a1, 32, .inl (fk))), (y0, .inr (1, [.ref yk, .ref yb, .ref yo])), (yk, .inl (b1, 32, .inl (gk))), (yb, .inl (b2, 8, .inl (gb))), (yo, .inl (b3, 8, .inl (go))), (x0, .inr (0, [.ref xk, .ref xb, .ref xo])), (xb, .inl (a2, 8, .inl (sk_fill (fun j => sk_b (O j)) fb 8))), (xo, .inl (a3, 8, .inl (fo)))] H := hP
        have hD : va_D (fun q : Nat => s.heap.size ≤ q) [(xk, .inl (a1, 32, .inl (fk))), (y0, .inr (1, [.ref yk, .ref yb, .ref yo])), (yk, .inl (b1, 32, .inl (gk))), (yb, .inl (b2, 8, .inl (gb))), (yo, .inl (b3, 8, .inl (go))), (x0, .inr (0, [.ref xk, .ref xb, .ref xo])), (xb, .inl (a2, 8, .inl (sk_fill (fun j => sk_b (O j)) fb 8))), (xo, .inl (a3, 8, .inl (fo)))] := hD
        refine lv_aload_n hx hb dL_law_210 rfl (lv_at hl 2 rfl) ?_
        have hPc := hP.sub (ws' := [(y0, .inr (1, [.ref yk, .ref yb, .ref yo])), (yb, .inl (b2, 8, .inl (gb))), (yo, .inl (b3, 8, .inl (go)))]) [1, 3, 4] rfl
        have hDc := hD.sub (ws' := [(y0, .inr (1, [.ref yk, .ref yb, .ref yo])), (yb, .inl (b2, 8, .inl (gb))), (yo, .inl (b3, 8, .inl (go)))]) [1, 3, 4] (by decide) rfl
        have hKc := hK.sub (tys' := [(b2, .int), (b3, .int)]) [4, 5] rfl
        have hFc := va_free (wc := [(y0, .inr (1, [.ref yk, .ref yb, .ref yo])), (yb, .inl (b2, 8, .inl (gb))), (yo, .inl (b3, 8, .inl (go)))]) hD hS hA [1, 3, 4] rfl
        refine va_callv (va_runV (As := []) (rest := []) ⟨hx, hb, hml, hown, hts⟩ (mod_again l dC dI H.size y0 yk yb yo b2 b3 gb go O (fun j hj => (hRo j hj).2.2)) (cwV 0 hts (lw_V q336 q337 q338 q10 q339) rfl rfl rfl (by decide +kernel) ⟨Nat.le_of_ble_eq_true rfl, Nat.le_of_ble_eq_true rfl⟩) ⟨fun a U g mk q => by obtain ⟨q0, q1, qP, qK, qD⟩ := q; exact ⟨q0, q1, qP, va_K.moved (u := U) (U := U.calling g mk a) (Vm.Alike.refl U.vm) qK, qD⟩, va_recv hKc hPc (ci := 1) (q0 := 0) rfl rfl, fun U hU hW => ⟨rfl, by rw [hU], by rw [hU]; exact hPc, va_K.moved hW.alike hKc, hDc.weaken (fun _ _ _ _ => trivial)⟩⟩ rfl rfl hl.1 rfl (lv_room (Nat.le_of_ble_eq_true rfl)) dL_law_211 ⟨show 8 + 9 * ct + 0 + 0 ≤ 600096 by omega, show 102 + 158 * ct + 0 + 0 ≤ 7301386 by omega⟩) hS (fun q _ h => hFc q h) hFc (fun uS tS H1 locs htS hvm hw hB hz1 hk1 hS => ?_)
        obtain ⟨hP1, hK1, hD1⟩ := hB
        rw [htS] at hP1
        obtain ⟨hP, hD⟩ := va_join (wr := [(xk, .inl (a1, 32, .inl (fk))), (yk, .inl (b1, 32, .inl (gk))), (x0, .inr (0, [.ref xk, .ref xb, .ref xo])), (xb, .inl (a2, 8, .inl (sk_fill (fun j => sk_b (O j)) fb 8))), (xo, .inl (a3, 8, .inl (fo)))]) (w1 := [(y0, .inr (1, [.ref yk, .ref yb, .ref yo])), (yb, .inl (b2, 8, .inl (sk_fill (fun j => nI (O j)) gb 8))), (yo, .inl (b3, 8, .inl (go)))]) hP hD [1, 3, 4] [0, 2, 5, 6, 7] rfl rfl (by decide) (by decide) hk1 hFc hP1 hD1
        generalize H1 = H at hP hS ⊢
        have hP : va_P (dC, dI) vwCl [(xk, .inl (a1, 32, .inl (fk))), (yk, .inl (b1, 32, .inl (gk))), (x0, .inr (0, [.ref xk, .ref xb, .ref xo])), (xb, .inl (a2, 8, .inl (sk_fill (fun j => sk_b (O j)) fb 8))), (xo, .inl (a3, 8, .inl (fo))), (y0, .inr (1, [.ref yk, .ref yb, .ref yo])), (yb, .inl (b2, 8, .inl (sk_fill (fun j => nI (O j)) gb 8))), (yo, .inl (b3, 8, .inl (go)))] H := hP
        have hD : va_D (fun q : Nat => s.heap.size ≤ q) [(xk, .inl (a1, 32, .inl (fk))), (yk, .inl (b1, 32, .inl (gk))), (x0, .inr (0, [.ref xk, .ref xb, .ref xo])), (xb, .inl (a2, 8, .inl (sk_fill (fun j => sk_b (O j)) fb 8))), (xo, .inl (a3, 8, .inl (fo))), (y0, .inr (1, [.ref yk, .ref yb, .ref yo])), (yb, .inl (b2, 8, .inl (sk_fill (fun j => nI (O j)) gb 8))), (yo, .inl (b3, 8, .inl (go)))] := hD
        refine lv_goto (tgt := 240) hx hb dL_law_214 (by decide) ?_
        refine lv_iinc (v := nI (6 * (ct + 1))) (lv' := [(3, .int (nI (6 * (ct + 1)))), (0, .ref b), (1, .ref x0), (2, .ref y0)]) hx hb dL_law_240 hl (k := 3) rfl (by rw [show Int32.ofInt 6 = nI 6 by decide, nI_add, show 6 * ct + 6 = 6 * (ct + 1) by omega]) (by decide) rfl (fun ls hl => ?_)
        refine lv_goto (tgt := 18) hx hb dL_law_243 (by decide) ?_
        refine W.widen (k := 8 + 9 * (ct + 1)) (n := 102 + 158 * (ct + 1)) (by omega) (by omega) ?_
        have hP := hP.sub (ws' := [(x0, .inr (0, [.ref xk, .ref xb, .ref xo])), (xk, .inl (a1, 32, .inl (fk))), (xb, .inl (a2, 8, .inl (sk_fill (fun j => sk_b (O j)) fb 8))), (xo, .inl (a3, 8, .inl (fo))), (y0, .inr (1, [.ref yk, .ref yb, .ref yo])), (yk, .inl (b1, 32, .inl (gk))), (yb, .inl (b2, 8, .inl (sk_fill (fun j => nI (O j)) gb 8))), (yo, .inl (b3, 8, .inl (go)))]) [2, 0, 3, 4, 5, 1, 6, 7] rfl
        have hD := hD.sub (ws' := [(x0, .inr (0, [.ref xk, .ref xb, .ref xo])), (xk, .inl (a1, 32, .inl (fk))), (xb, .inl (a2, 8, .inl (sk_fill (fun j => sk_b (O j)) fb 8))), (xo, .inl (a3, 8, .inl (fo))), (y0, .inr (1, [.ref yk, .ref yb, .ref yo])), (yk, .inl (b1, 32, .inl (gk))), (yb, .inl (b2, 8, .inl (sk_fill (fun j => nI (O j)) gb 8))), (yo, .inl (b3, 8, .inl (go)))]) [2, 0, 3, 4, 5, 1, 6, 7] (by decide) rfl
        exact ih (ct + 1) (by omega) (by omega) K O O _ _ _ _ _ _ H locs ls hRk (sk_R_new (fun j hj => (hRo j hj).1)) hRo hP hD hS (lv_sub hl [1, 2, 3, 0] rfl)
      · skip
        refine lv_tableIn (off := 184) (tgt := 217) hx hb dL_law_33 (by decide) (by decide) (by decide) (by decide) ?_
        refine lv_aload_n hx hb dL_law_217 rfl (lv_at hl 1 rfl) ?_
        refine lv_aload_n hx hb dL_law_218 rfl (lv_at hl 0 rfl) ?_
        refine lv_iload_n hx hb dL_law_219 rfl (lv_at hl 3 rfl) ?_
        refine lv_iconst (v := nI 1) hx hb dL_law_220 (by decide) ?_
        refine lv_iadd hx hb dL_law_221 ?_
        refine sk_top (y := nI (6 * ct + 1)) (nI_add _ 1) ?_
        refine sk_sld (k := 6 * ct + 1) hx hb hX hbl hbA hS (by omega) hL dL_law_222 ?_
        have hPc := hP.sub (ws' := [(x0, .inr (0, [.ref xk, .ref xb, .ref xo])), (xo, .inl (a3, 8, .inl (fo)))]) [0, 3] rfl
        have hDc := hD.sub (ws' := [(x0, .inr (0, [.ref xk, .ref xb, .ref xo])), (xo, .inl (a3, 8, .inl (fo)))]) [0, 3] (by decide) rfl
        have hKc := hK.sub (tys' := [(a3, .byte)]) [2] rfl
        have hFc := va_free (wc := [(x0, .inr (0, [.ref xk, .ref xb, .ref xo])), (xo, .inl (a3, 8, .inl (fo)))]) hD hS hA [0, 3] rfl
        refine va_calli (va_runV (As := [.int (xs (6 * ct + 1))]) (rest := []) ⟨hx, hb, hml, hown, hts⟩ (dsk_out l dC dI H.size x0 xk xb xo a3 fo (xs (6 * ct + 1))) (cwV 1 hts (lw_V q276 q277 q278 q9 q279) rfl rfl rfl (by decide +kernel) ⟨Nat.le_of_ble_eq_true rfl, Nat.le_of_ble_eq_true rfl⟩) ⟨fun a U g mk q => by obtain ⟨q0, q1, qP, qK, qD⟩ := q; exact ⟨q0, q1, qP, va_K.moved (u := U) (U := U.calling g mk a) (Vm.Alike.refl U.vm) qK, qD⟩, va_recv hKc hPc (ci := 0) (q0 := 0) rfl rfl, fun U hU hW => ⟨rfl, by rw [hU], by rw [hU]; exact hPc, va_K.moved hW.alike hKc, hDc.weaken (fun _ _ _ _ => trivial)⟩⟩ rfl rfl hl.1 rfl (lv_room (Nat.le_of_ble_eq_true rfl)) dL_law_223 ⟨show 8 + 9 * ct + 0 ≤ 600096 by omega, show 102 + 158 * ct + 0 ≤ 7301386 by omega⟩) hS (fun q _ h => hFc q h) hFc (fun r1 uS tS H1 locs htS hvm hw hB hz1 hk1 hS => ?_)
        obtain ⟨hP1, hK1, hD1⟩ := hB
        rw [htS] at hP1
        obtain ⟨hP, hD⟩ := va_join (wr := [(xk, .inl (a1, 32, .inl (fk))), (xb, .inl (a2, 8, .inl (fb))), (y0, .inr (1, [.ref yk, .ref yb, .ref yo])), (yk, .inl (b1, 32, .inl (gk))), (yb, .inl (b2, 8, .inl (gb))), (yo, .inl (b3, 8, .inl (go)))]) (w1 := [(x0, .inr (0, [.ref xk, .ref xb, .ref xo])), (xo, .inl (a3, 8, .inl (fo)))]) hP hD [0, 3] [1, 2, 4, 5, 6, 7] rfl rfl (by decide) (by decide) hk1 hFc hP1 hD1
        generalize H1 = H at hP hS ⊢
        have hP : va_P (dC, dI) vwCl [(xk, .inl (a1, 32, .inl (fk))), (xb, .inl (a2, 8, .inl (fb))), (y0, .inr (1, [.ref yk, .ref yb, .ref yo])), (yk, .inl (b1, 32, .inl (gk))), (yb, .inl (b2, 8, .inl (gb))), (yo, .inl (b3, 8, .inl (go))), (x0, .inr (0, [.ref xk, .ref xb, .ref xo])), (xo, .inl (a3, 8, .inl (fo)))] H := hP
        have hD : va_D (fun q : Nat => s.heap.size ≤ q) [(xk, .inl (a1, 32, .inl (fk))), (xb, .inl (a2, 8, .inl (fb))), (y0, .inr (1, [.ref yk, .ref yb, .ref yo])), (yk, .inl (b1, 32, .inl (gk))), (yb, .inl (b2, 8, .inl (gb))), (yo, .inl (b3, 8, .inl (go))), (x0, .inr (0, [.ref xk, .ref xb, .ref xo])), (xo, .inl (a3, 8, .inl (fo)))] := hD
        have hw1 : r1 = fo ((xs (6 * ct + 1)).toBitVec.toNat % 8) &&& nI 255 := hw
        refine lv_aload_n hx hb dL_law_226 rfl (lv_at hl 2 rfl) ?_
        refine lv_aload_n hx hb dL_law_227 rfl (lv_at hl 0 rfl) ?_
        refine lv_iload_n hx hb dL_law_228 rfl (lv_at hl 3 rfl) ?_
        refine lv_iconst (v := nI 1) hx hb dL_law_229 (by decide) ?_
        refine lv_iadd hx hb dL_law_230 ?_
        refine sk_top (y := nI (6 * ct + 1)) (nI_add _ 1) ?_
        refine sk_sld (k := 6 * ct + 1) hx hb hX hbl hbA hS (by omega) hL dL_law_231 ?_
        have hPc := hP.sub (ws' := [(y0, .inr (1, [.ref yk, .ref yb, .ref yo])), (yo, .inl (b3, 8, .inl (go)))]) [2, 5] rfl
        have hDc := hD.sub (ws' := [(y0, .inr (1, [.ref yk, .ref yb, .ref yo])), (yo, .inl (b3, 8, .inl (go)))]) [2, 5] (by decide) rfl
        have hKc := hK.sub (tys' := [(b3, .int)]) [5] rfl
        have hFc := va_free (wc := [(y0, .inr (1, [.ref yk, .ref yb, .ref yo])), (yo, .inl (b3, 8, .inl (go)))]) hD hS hA [2, 5] rfl
        refine va_calli (va_runV (As := [.int (xs (6 * ct + 1))]) (rest := [.int r1]) ⟨hx, hb, hml, hown, hts⟩ (mod_out l dC dI H.size y0 yk yb yo b3 go (xs (6 * ct + 1))) (cwV 1 hts (lw_V q340 q341 q342 q10 q343) rfl rfl rfl (by decide +kernel) ⟨Nat.le_of_ble_eq_true rfl, Nat.le_of_ble_eq_true rfl⟩) ⟨fun a U g mk q => by obtain ⟨q0, q1, qP, qK, qD⟩ := q; exact ⟨q0, q1, qP, va_K.moved (u := U) (U := U.calling g mk a) (Vm.Alike.refl U.vm) qK, qD⟩, va_recv hKc hPc (ci := 1) (q0 := 0) rfl rfl, fun U hU hW => ⟨rfl, by rw [hU], by rw [hU]; exact hPc, va_K.moved hW.alike hKc, hDc.weaken (fun _ _ _ _ => trivial)⟩⟩ rfl rfl hl.1 rfl (lv_room (Nat.le_of_ble_eq_true rfl)) dL_law_232 ⟨show 8 + 9 * ct + 0 + 0 ≤ 600096 by omega, show 102 + 158 * ct + 0 + 0 ≤ 7301386 by omega⟩) hS (fun q _ h => hFc q h) hFc (fun r2 uS tS H1 locs htS hvm hw hB hz1 hk1 hS => ?_)
        obtain ⟨hP1, hK1, hD1⟩ := hB
        rw [htS] at hP1
        obtain ⟨hP, hD⟩ := va_join (wr := [(xk, .inl (a1, 32, .inl (fk))), (xb, .inl (a2, 8, .inl (fb))), (yk, .inl (b1, 32, .inl (gk))), (yb, .inl (b2, 8, .inl (gb))), (x0, .inr (0, [.ref xk, .ref xb, .ref xo])), (xo, .inl (a3, 8, .inl (fo)))]) (w1 := [(y0, .inr (1, [.ref yk, .ref yb, .ref yo])), (yo, .inl (b3, 8, .inl (go)))]) hP hD [2, 5] [0, 1, 3, 4, 6, 7] rfl rfl (by decide) (by decide) hk1 hFc hP1 hD1
        generalize H1 = H at hP hS ⊢
        have hP : va_P (dC, dI) vwCl [(xk, .inl (a1, 32, .inl (fk))), (xb, .inl (a2, 8, .inl (fb))), (yk, .inl (b1, 32, .inl (gk))), (yb, .inl (b2, 8, .inl (gb))), (x0, .inr (0, [.ref xk, .ref xb, .ref xo])), (xo, .inl (a3, 8, .inl (fo))), (y0, .inr (1, [.ref yk, .ref yb, .ref yo])), (yo, .inl (b3, 8, .inl (go)))] H := hP
        have hD : va_D (fun q : Nat => s.heap.size ≤ q) [(xk, .inl (a1, 32, .inl (fk))), (xb, .inl (a2, 8, .inl (fb))), (yk, .inl (b1, 32, .inl (gk))), (yb, .inl (b2, 8, .inl (gb))), (x0, .inr (0, [.ref xk, .ref xb, .ref xo])), (xo, .inl (a3, 8, .inl (fo))), (y0, .inr (1, [.ref yk, .ref yb, .ref yo])), (yo, .inl (b3, 8, .inl (go)))] := hD
        have hw2 : r2 = go ((xs (6 * ct + 1)).toBitVec.toNat % 8) := hw
        have hO1 := hRo ((xs (6 * ct + 1)).toBitVec.toNat % 8) (Nat.mod_lt _ (by decide))
        refine lv_icmp_eq (tgt := 240) hx hb dL_law_235 (by decide) (fun _ => ?_) (fun q => absurd (by rw [hw1, hw2, hO1.2.1, hO1.2.2, sk_b255 hO1.1]) q)
        refine lv_iinc (v := nI (6 * (ct + 1))) (lv' := [(3, .int (nI (6 * (ct + 1)))), (0, .ref b), (1, .ref x0), (2, .ref y0)]) hx hb dL_law_240 hl (k := 3) rfl (by rw [show Int32.ofInt 6 = nI 6 by decide, nI_add, show 6 * ct + 6 = 6 * (ct + 1) by omega]) (by decide) rfl (fun ls hl => ?_)
        refine lv_goto (tgt := 18) hx hb dL_law_243 (by decide) ?_
        refine W.widen (k := 8 + 9 * (ct + 1)) (n := 102 + 158 * (ct + 1)) (by omega) (by omega) ?_
        have hP := hP.sub (ws' := [(x0, .inr (0, [.ref xk, .ref xb, .ref xo])), (xk, .inl (a1, 32, .inl (fk))), (xb, .inl (a2, 8, .inl (fb))), (xo, .inl (a3, 8, .inl (fo))), (y0, .inr (1, [.ref yk, .ref yb, .ref yo])), (yk, .inl (b1, 32, .inl (gk))), (yb, .inl (b2, 8, .inl (gb))), (yo, .inl (b3, 8, .inl (go)))]) [4, 0, 1, 5, 6, 2, 3, 7] rfl
        have hD := hD.sub (ws' := [(x0, .inr (0, [.ref xk, .ref xb, .ref xo])), (xk, .inl (a1, 32, .inl (fk))), (xb, .inl (a2, 8, .inl (fb))), (xo, .inl (a3, 8, .inl (fo))), (y0, .inr (1, [.ref yk, .ref yb, .ref yo])), (yk, .inl (b1, 32, .inl (gk))), (yb, .inl (b2, 8, .inl (gb))), (yo, .inl (b3, 8, .inl (go)))]) [4, 0, 1, 5, 6, 2, 3, 7] (by decide) rfl
        exact ih (ct + 1) (by omega) (by omega) K B O _ _ _ _ _ _ H locs ls hRk hRb hRo hP hD hS (lv_sub hl [1, 2, 3, 0] rfl)
      · skip
        refine lv_tableOut (tgt := 240) hx hb dL_law_33 (by decide) (by decide) ?_
        refine lv_iinc (v := nI (6 * (ct + 1))) (lv' := [(3, .int (nI (6 * (ct + 1)))), (0, .ref b), (1, .ref x0), (2, .ref y0)]) hx hb dL_law_240 hl (k := 3) rfl (by rw [show Int32.ofInt 6 = nI 6 by decide, nI_add, show 6 * ct + 6 = 6 * (ct + 1) by omega]) (by decide) rfl (fun ls hl => ?_)
        refine lv_goto (tgt := 18) hx hb dL_law_243 (by decide) ?_
        refine W.widen (k := 8 + 9 * (ct + 1)) (n := 102 + 158 * (ct + 1)) (by omega) (by omega) ?_
        have hP := hP.sub (ws' := [(x0, .inr (0, [.ref xk, .ref xb, .ref xo])), (xk, .inl (a1, 32, .inl (fk))), (xb, .inl (a2, 8, .inl (fb))), (xo, .inl (a3, 8, .inl (fo))), (y0, .inr (1, [.ref yk, .ref yb, .ref yo])), (yk, .inl (b1, 32, .inl (gk))), (yb, .inl (b2, 8, .inl (gb))), (yo, .inl (b3, 8, .inl (go)))]) [0, 1, 2, 3, 4, 5, 6, 7] rfl
        have hD := hD.sub (ws' := [(x0, .inr (0, [.ref xk, .ref xb, .ref xo])), (xk, .inl (a1, 32, .inl (fk))), (xb, .inl (a2, 8, .inl (fb))), (xo, .inl (a3, 8, .inl (fo))), (y0, .inr (1, [.ref yk, .ref yb, .ref yo])), (yk, .inl (b1, 32, .inl (gk))), (yb, .inl (b2, 8, .inl (gb))), (yo, .inl (b3, 8, .inl (go)))]) [0, 1, 2, 3, 4, 5, 6, 7] (by decide) rfl
        exact ih (ct + 1) (by omega) (by omega) K B O _ _ _ _ _ _ H locs ls hRk hRb hRo hP hD hS (lv_sub hl [1, 2, 3, 0] rfl)
      · skip
        refine lv_tableOut (tgt := 240) hx hb dL_law_33 (by decide) (by decide) ?_
        refine lv_iinc (v := nI (6 * (ct + 1))) (lv' := [(3, .int (nI (6 * (ct + 1)))), (0, .ref b), (1, .ref x0), (2, .ref y0)]) hx hb dL_law_240 hl (k := 3) rfl (by rw [show Int32.ofInt 6 = nI 6 by decide, nI_add, show 6 * ct + 6 = 6 * (ct + 1) by omega]) (by decide) rfl (fun ls hl => ?_)
        refine lv_goto (tgt := 18) hx hb dL_law_243 (by decide) ?_
        refine W.widen (k := 8 + 9 * (ct + 1)) (n := 102 + 158 * (ct + 1)) (by omega) (by omega) ?_
        have hP := hP.sub (ws' := [(x0, .inr (0, [.ref xk, .ref xb, .ref xo])), (xk, .inl (a1, 32, .inl (fk))), (xb, .inl (a2, 8, .inl (fb))), (xo, .inl (a3, 8, .inl (fo))), (y0, .inr (1, [.ref yk, .ref yb, .ref yo])), (yk, .inl (b1, 32, .inl (gk))), (yb, .inl (b2, 8, .inl (gb))), (yo, .inl (b3, 8, .inl (go)))]) [0, 1, 2, 3, 4, 5, 6, 7] rfl
        have hD := hD.sub (ws' := [(x0, .inr (0, [.ref xk, .ref xb, .ref xo])), (xk, .inl (a1, 32, .inl (fk))), (xb, .inl (a2, 8, .inl (fb))), (xo, .inl (a3, 8, .inl (fo))), (y0, .inr (1, [.ref yk, .ref yb, .ref yo])), (yk, .inl (b1, 32, .inl (gk))), (yb, .inl (b2, 8, .inl (gb))), (yo, .inl (b3, 8, .inl (go)))]) [0, 1, 2, 3, 4, 5, 6, 7] (by decide) rfl
        exact ih (ct + 1) (by omega) (by omega) K B O _ _ _ _ _ _ H locs ls hRk hRb hRo hP hD hS (lv_sub hl [1, 2, 3, 0] rfl)
end
section
/-! what the Statement says of the start: the two tables, the interface's entries -/
def sk_flat : List Cond := flatC (Jvm.Cond.and given_1 narrow_1)
theorem sk_runE : (List.range 256).map (fun j => Cond.eq (.elem (.static "SkipjackEngine" "ftable" "[S") (.int (Int32.ofNat j))) (.int (nI (sk_F j)))) = (sk_flat.drop 11).take 256 := by decide +kernel
theorem sk_runM : (List.range 256).map (fun j => Cond.eq (.elem (.static "SkipjackDeskModel" "F" "[I") (.int (Int32.ofNat j))) (.int (nI (sk_F j)))) = (sk_flat.drop 271).take 256 := by decide +kernel
theorem sk_fE8 : (Cond.arrayOf (.static "SkipjackEngine" "ftable" "[S") .short) ∈ sk_flat := List.mem_of_getElem? (i := 8) (by decide +kernel)
theorem sk_fE10 : (Cond.eq (.length (.static "SkipjackEngine" "ftable" "[S")) (.int (Int32.ofNat 256))) ∈ sk_flat := List.mem_of_getElem? (i := 10) (by decide +kernel)
theorem sk_fM268 : (Cond.arrayOf (.static "SkipjackDeskModel" "F" "[I") .int) ∈ sk_flat := List.mem_of_getElem? (i := 268) (by decide +kernel)
theorem sk_fM270 : (Cond.eq (.length (.static "SkipjackDeskModel" "F" "[I")) (.int (Int32.ofNat 256))) ∈ sk_flat := List.mem_of_getElem? (i := 270) (by decide +kernel)
theorem sk_startE {s : State} {b : Nat} (hts0 : ∀ w ∈ lw_tbl, w.before #[Value.ref b] s = true) (hgv : (Jvm.Cond.and given_1 narrow_1).before #[Value.ref b] s = true) : ∃ t : Nat, sk_TE t (fun q : Nat => s.heap.size ≤ q) s := by
  have hs : ∀ w ∈ sk_flat, w.before #[Value.ref b] s = true := flat_of_before _ hgv
  have hA : ∀ a : Nat, a < s.heap.size → ¬ (fun q : Nat => s.heap.size ≤ q) a := fun a h => Nat.not_le.mpr h
  obtain ⟨t, h1, h2⟩ := va_Tof (f := fun j => .int (nI (sk_F j))) (N := 256) (by decide) (hs _ sk_fE8) (va_eqt (hs _ sk_fE10)) (fun j hj => va_eqt (hs _ (va_run sk_runE j hj))) hA
  exact ⟨t, va_Zref (hts0 _ q259) (hts0 _ (lw_all_tbl q11)) h1 hA, h2⟩
theorem sk_startM {s : State} {b : Nat} (hts0 : ∀ w ∈ lw_tbl, w.before #[Value.ref b] s = true) (hgv : (Jvm.Cond.and given_1 narrow_1).before #[Value.ref b] s = true) : ∃ t : Nat, sk_TM t (fun q : Nat => s.heap.size ≤ q) s := by
  have hs : ∀ w ∈ sk_flat, w.before #[Value.ref b] s = true := flat_of_before _ hgv
  have hA : ∀ a : Nat, a < s.heap.size → ¬ (fun q : Nat => s.heap.size ≤ q) a := fun a h => Nat.not_le.mpr h
  obtain ⟨t, h1, h2⟩ := va_Tof (f := fun j => .int (nI (sk_F j))) (N := 256) (by decide) (hs _ sk_fM268) (va_eqt (hs _ sk_fM270)) (fun j hj => va_eqt (hs _ (va_run sk_runM j hj))) hA
  exact ⟨t, va_Zref (hts0 _ q320) (hts0 _ (lw_all_tbl q10)) h1 hA, h2⟩
theorem sk_startI {s : State} {b : Nat} (hts0 : ∀ w ∈ lw_tbl, w.before #[Value.ref b] s = true) : sk_I (fun q : Nat => s.heap.size ≤ q) s :=
  ⟨va_Fw.of (hts0 _ q107) (hts0 _ q106) (hts0 _ q112) (hts0 _ q110) (hts0 _ q108), va_Fw.of (hts0 _ q190) (hts0 _ q189) (hts0 _ q194) (hts0 _ q192) (hts0 _ q108)⟩
end
section
set_option maxHeartbeats 4000000 in
set_option maxRecDepth 100000 in
/-- THE LAW, from its entry -/
theorem whole_start {p : Program} {e : Env} {s : State} {m : MethodId} {below : List Frame} {meth : Method} {c : Code} (l : Launch) (hflags : l.flags = flags0) {b L : Nat} {xs : Nat → Int32} (hL : L ≤ 288) (C0 : lw_At p s m meth c b L xs) : W p l e room_1 s m #[Value.ref b] below meth c s.heap [] 0 0 (lw_Z below #[Value.ref b] s) (entryFrame m ([Value.ref b] : List Value).toArray 4) := by
  obtain ⟨hx, hb, hr, hml, hown, hts0, hX, hbl, hlocks, hgv⟩ := id C0
  have hts : ∀ w ∈ lw_all, w.before #[Value.ref b] s = true := fun w h => hts0 w (lw_all_tbl h)
  have hA : ∀ q : Nat, s.heap.size ≤ q → (fun q : Nat => s.heap.size ≤ q) q := fun _ h => h
  obtain ⟨tE, hT⟩ := sk_startE hts0 hgv
  obtain ⟨tM, hM⟩ := sk_startM hts0 hgv
  have hI := sk_startI hts0
  obtain ⟨c0, iS0, hKn0⟩ := u_known (C := RX0) (T := TX0) (N := 3) (n := 3) hts0 (fun w h => lw_all_tbl (in_X0 w h)) (hts0 _ (lw_all_tbl q23))
  obtain ⟨c1, iS1, hKn1⟩ := u_known (C := RX1) (T := TX1) (N := 3) (n := 3) hts0 (fun w h => lw_all_tbl (in_X1 w h)) (hts0 _ (lw_all_tbl q281))
  obtain ⟨c2, iS2, hKn2⟩ := u_known (C := RX2) (T := TX2) (N := 5) (n := 5) hts0 (fun w h => lw_all_tbl (in_X2 w h)) (hts0 _ (lw_all_tbl q64))
  obtain ⟨c3, iS3, hKn3⟩ := u_known (C := RX3) (T := TX3) (N := 1) (n := 1) hts0 (fun w h => lw_all_tbl (in_X3 w h)) (hts0 _ (lw_all_tbl q86))
  obtain ⟨dC, dI, hKc⟩ : ∃ (dC : Nat → ClassId) (dI : Nat → Nat → Nat), ∀ (k : Nat) (q : vw_C), vwCl[k]? = some q → u_Kn s q.1 q.2.1 q.2.2 (dC k) (dI k) := by
    refine ⟨fun k => if k = 0 then c0 else if k = 1 then c1 else if k = 2 then c2 else c3, fun k => if k = 0 then iS0 else if k = 1 then iS1 else if k = 2 then iS2 else iS3, ?_⟩
    intro k q hq
    match k, hq with
    | 0, hq => cases hq; exact hKn0
    | 1, hq => cases hq; exact hKn1
    | 2, hq => cases hq; exact hKn2
    | 3, hq => cases hq; exact hKn3
    | k + 4, hq => simp [vwCl] at hq
  have hS : va_S (fun q : Nat => s.heap.size ≤ q) s.heap s.heap [] := va_S.rf
  have hK : va_K (dC, dI) vwCl [] s := ⟨hKc, fun k q h => by simp at h⟩
  have hP : va_P (dC, dI) vwCl [] s.heap := fun k q h => by simp at h
  have hD : va_D (fun q : Nat => s.heap.size ≤ q) [] := ⟨fun i j p q h => by simp at h, fun k q h => by simp at h⟩
  have hl := lv_entry ([.ref b]) (n := 4) (Nat.le_of_ble_eq_true rfl)
  rw [lg_entry_eq]
  generalize (lg_sl ([.ref b]) ++ List.replicate (4 - (lg_sl ([.ref b])).length) Slot.unset).toArray = ls at hl ⊢
  have hl : lv_has ls 4 [(0, .ref b)] := hl
  refine va_new (ci := 0) (fs := [.null, .null, .null]) (C := RX0) (T := TX0) (N := 3) hx hb hts in_X0 tyX0 tyX0_ok hown (hts _ q22) (hts _ q23) (hts _ q9) hK hP hD hS hA rfl (fun j hj => by rcases (show j = 0 ∨ j = 1 ∨ j = 2 by omega) with rfl | rfl | rfl <;> rfl) (Nat.le_of_ble_eq_true rfl) (Nat.le_of_ble_eq_true rfl) dL_law_0 (fun x0 H hP hD hS => ?_)
  have hP : va_P (dC, dI) vwCl [(x0, .inr (0, [.null, .null, .null]))] H := hP
  have hD : va_D (fun q : Nat => s.heap.size ≤ q) [(x0, .inr (0, [.null, .null, .null]))] := hD
  refine W.widen (k := 1) (n := 3) (Nat.le_of_ble_eq_true rfl) (Nat.le_of_ble_eq_true rfl) ?_
  refine lv_dup hx hb dL_law_3 rfl ?_
  have hPc := hP.sub (ws' := [(x0, .inr (0, [.null, .null, .null]))]) [0] rfl
  have hDc := hD.sub (ws' := [(x0, .inr (0, [.null, .null, .null]))]) [0] (by decide) rfl
  have hKc := hK.sub (tys' := []) [] rfl
  have hFc := va_free (wc := [(x0, .inr (0, [.null, .null, .null]))]) hD hS hA [0] rfl
  refine va_callv (va_runI (As := []) (rest := [.ref x0]) ⟨hx, hb, hml, hown, hts⟩ (dsk_init l dC dI H.size x0) (cwI 0 hts (lw_meth q26) rfl rfl rfl (hts _ q9) (hts _ q24) (hts _ q25) rfl (by decide +kernel) ⟨Nat.le_of_ble_eq_true rfl, Nat.le_of_ble_eq_true rfl⟩) ⟨fun a U g mk q => by obtain ⟨q0, q1, qP, qK, qD⟩ := q; exact ⟨q0, q1, qP, va_K.moved (u := U) (U := U.calling g mk a) (Vm.Alike.refl U.vm) qK, qD⟩, fun U hU hW => ⟨rfl, by rw [hU], by rw [hU]; exact hPc, va_K.moved hW.alike hKc, hDc.weaken (fun _ _ _ _ => trivial)⟩⟩ rfl rfl hl.1 rfl (lv_room (Nat.le_of_ble_eq_true rfl)) dL_law_4 ⟨Nat.le_of_ble_eq_true rfl, Nat.le_of_ble_eq_true rfl⟩) hS (fun q _ h => hFc q h) hFc (fun uS tS H1 locs htS hvm hw hB hz1 hk1 hS => ?_)
  obtain ⟨xk, xb, xo, a1, a2, a3, hP1, hK1, hD1⟩ := hB
  rw [htS] at hP1
  obtain ⟨hP, hD⟩ := va_join (wr := []) (w1 := [(x0, .inr (0, [.ref xk, .ref xb, .ref xo])), (xk, .inl (a1, 32, .inl (fun _ => 0))), (xb, .inl (a2, 8, .inl (fun _ => 0))), (xo, .inl (a3, 8, .inl (fun _ => 0)))]) hP hD [0] [] rfl rfl (by decide) (by decide) hk1 hFc hP1 hD1
  have hK1 := va_K.moved hvm.symm hK1
  have hK := hK.app hK1
  generalize H1 = H at hP hS ⊢
  have hP : va_P (dC, dI) vwCl [(x0, .inr (0, [.ref xk, .ref xb, .ref xo])), (xk, .inl (a1, 32, .inl (fun _ => 0))), (xb, .inl (a2, 8, .inl (fun _ => 0))), (xo, .inl (a3, 8, .inl (fun _ => 0)))] H := hP
  have hD : va_D (fun q : Nat => s.heap.size ≤ q) [(x0, .inr (0, [.ref xk, .ref xb, .ref xo])), (xk, .inl (a1, 32, .inl (fun _ => 0))), (xb, .inl (a2, 8, .inl (fun _ => 0))), (xo, .inl (a3, 8, .inl (fun _ => 0)))] := hD
  have hK : va_K (dC, dI) vwCl [(a1, .byte), (a2, .byte), (a3, .byte)] s := hK
  refine W.widen (k := 4) (n := 51) (Nat.le_of_ble_eq_true rfl) (Nat.le_of_ble_eq_true rfl) ?_
  refine lv_astore_n (lv' := [(1, .ref x0), (0, .ref b)]) hx hb dL_law_7 rfl hl (by decide) rfl (fun ls hl => ?_)
  refine va_new (ci := 1) (fs := [.null, .null, .null]) (C := RX1) (T := TX1) (N := 3) hx hb hts in_X1 tyX1 tyX1_ok hown (hts _ q280) (hts _ q281) (hts _ q10) hK hP hD hS hA rfl (fun j hj => by rcases (show j = 0 ∨ j = 1 ∨ j = 2 by omega) with rfl | rfl | rfl <;> rfl) (Nat.le_of_ble_eq_true rfl) (Nat.le_of_ble_eq_true rfl) dL_law_8 (fun y0 H hP hD hS => ?_)
  have hP : va_P (dC, dI) vwCl [(x0, .inr (0, [.ref xk, .ref xb, .ref xo])), (xk, .inl (a1, 32, .inl (fun _ => 0))), (xb, .inl (a2, 8, .inl (fun _ => 0))), (xo, .inl (a3, 8, .inl (fun _ => 0))), (y0, .inr (1, [.null, .null, .null]))] H := hP
  have hD : va_D (fun q : Nat => s.heap.size ≤ q) [(x0, .inr (0, [.ref xk, .ref xb, .ref xo])), (xk, .inl (a1, 32, .inl (fun _ => 0))), (xb, .inl (a2, 8, .inl (fun _ => 0))), (xo, .inl (a3, 8, .inl (fun _ => 0))), (y0, .inr (1, [.null, .null, .null]))] := hD
  refine W.widen (k := 5) (n := 54) (Nat.le_of_ble_eq_true rfl) (Nat.le_of_ble_eq_true rfl) ?_
  refine lv_dup hx hb dL_law_11 rfl ?_
  have hPc := hP.sub (ws' := [(y0, .inr (1, [.null, .null, .null]))]) [4] rfl
  have hDc := hD.sub (ws' := [(y0, .inr (1, [.null, .null, .null]))]) [4] (by decide) rfl
  have hKc := hK.sub (tys' := []) [] rfl
  have hFc := va_free (wc := [(y0, .inr (1, [.null, .null, .null]))]) hD hS hA [4] rfl
  refine va_callv (va_runI (As := []) (rest := [.ref y0]) ⟨hx, hb, hml, hown, hts⟩ (mod_init l dC dI H.size y0) (cwI 0 hts (lw_meth q284) rfl rfl rfl (hts _ q10) (hts _ q282) (hts _ q283) rfl (by decide +kernel) ⟨Nat.le_of_ble_eq_true rfl, Nat.le_of_ble_eq_true rfl⟩) ⟨fun a U g mk q => by obtain ⟨q0, q1, qP, qK, qD⟩ := q; exact ⟨q0, q1, qP, va_K.moved (u := U) (U := U.calling g mk a) (Vm.Alike.refl U.vm) qK, qD⟩, fun U hU hW => ⟨rfl, by rw [hU], by rw [hU]; exact hPc, va_K.moved hW.alike hKc, hDc.weaken (fun _ _ _ _ => trivial)⟩⟩ rfl rfl hl.1 rfl (lv_room (Nat.le_of_ble_eq_true rfl)) dL_law_12 ⟨Nat.le_of_ble_eq_true rfl, Nat.le_of_ble_eq_true rfl⟩) hS (fun q _ h => hFc q h) hFc (fun uS tS H1 locs htS hvm hw hB hz1 hk1 hS => ?_)
  obtain ⟨yk, yb, yo, b1, b2, b3, hP1, hK1, hD1⟩ := hB
  rw [htS] at hP1
  obtain ⟨hP, hD⟩ := va_join (wr := [(x0, .inr (0, [.ref xk, .ref xb, .ref xo])), (xk, .inl (a1, 32, .inl (fun _ => 0))), (xb, .inl (a2, 8, .inl (fun _ => 0))), (xo, .inl (a3, 8, .inl (fun _ => 0)))]) (w1 := [(y0, .inr (1, [.ref yk, .ref yb, .ref yo])), (yk, .inl (b1, 32, .inl (fun _ => 0))), (yb, .inl (b2, 8, .inl (fun _ => 0))), (yo, .inl (b3, 8, .inl (fun _ => 0)))]) hP hD [4] [0, 1, 2, 3] rfl rfl (by decide) (by decide) hk1 hFc hP1 hD1
  have hK1 := va_K.moved hvm.symm hK1
  have hK := hK.app hK1
  generalize H1 = H at hP hS ⊢
  have hP : va_P (dC, dI) vwCl [(x0, .inr (0, [.ref xk, .ref xb, .ref xo])), (xk, .inl (a1, 32, .inl (fun _ => 0))), (xb, .inl (a2, 8, .inl (fun _ => 0))), (xo, .inl (a3, 8, .inl (fun _ => 0))), (y0, .inr (1, [.ref yk, .ref yb, .ref yo])), (yk, .inl (b1, 32, .inl (fun _ => 0))), (yb, .inl (b2, 8, .inl (fun _ => 0))), (yo, .inl (b3, 8, .inl (fun _ => 0)))] H := hP
  have hD : va_D (fun q : Nat => s.heap.size ≤ q) [(x0, .inr (0, [.ref xk, .ref xb, .ref xo])), (xk, .inl (a1, 32, .inl (fun _ => 0))), (xb, .inl (a2, 8, .inl (fun _ => 0))), (xo, .inl (a3, 8, .inl (fun _ => 0))), (y0, .inr (1, [.ref yk, .ref yb, .ref yo])), (yk, .inl (b1, 32, .inl (fun _ => 0))), (yb, .inl (b2, 8, .inl (fun _ => 0))), (yo, .inl (b3, 8, .inl (fun _ => 0)))] := hD
  have hK : va_K (dC, dI) vwCl [(a1, .byte), (a2, .byte), (a3, .byte), (b1, .int), (b2, .int), (b3, .int)] s := hK
  refine W.widen (k := 8) (n := 102) (Nat.le_of_ble_eq_true rfl) (Nat.le_of_ble_eq_true rfl) ?_
  refine lv_astore_n (lv' := [(2, .ref y0), (1, .ref x0), (0, .ref b)]) hx hb dL_law_15 rfl hl (by decide) rfl (fun ls hl => ?_)
  refine lv_iconst (v := nI 0) hx hb dL_law_16 (by decide) ?_
  refine lv_istore_n (lv' := [(3, .int (nI 0)), (2, .ref y0), (1, .ref x0), (0, .ref b)]) hx hb dL_law_17 rfl hl (by decide) rfl (fun ls hl => ?_)
  have hP := hP.sub (ws' := [(x0, .inr (0, [.ref xk, .ref xb, .ref xo])), (xk, .inl (a1, 32, .inl (fun _ => 0))), (xb, .inl (a2, 8, .inl (fun _ => 0))), (xo, .inl (a3, 8, .inl (fun _ => 0))), (y0, .inr (1, [.ref yk, .ref yb, .ref yo])), (yk, .inl (b1, 32, .inl (fun _ => 0))), (yb, .inl (b2, 8, .inl (fun _ => 0))), (yo, .inl (b3, 8, .inl (fun _ => 0)))]) [0, 1, 2, 3, 4, 5, 6, 7] rfl
  have hD := hD.sub (ws' := [(x0, .inr (0, [.ref xk, .ref xb, .ref xo])), (xk, .inl (a1, 32, .inl (fun _ => 0))), (xb, .inl (a2, 8, .inl (fun _ => 0))), (xo, .inl (a3, 8, .inl (fun _ => 0))), (y0, .inr (1, [.ref yk, .ref yb, .ref yo])), (yk, .inl (b1, 32, .inl (fun _ => 0))), (yb, .inl (b2, 8, .inl (fun _ => 0))), (yo, .inl (b3, 8, .inl (fun _ => 0)))]) [0, 1, 2, 3, 4, 5, 6, 7] (by decide) rfl
  have hK := hK.sub (tys' := [(a1, .byte), (a2, .byte), (a3, .byte), (b1, .int), (b2, .int), (b3, .int)]) [0, 1, 2, 3, 4, 5] rfl
  exact law_loop hL C0 x0 xk xb xo y0 yk yb yo a1 a2 a3 b1 b2 b3 tE tM hK hT hM hI 49 0 (Nat.zero_le L) (by decide) _ _ _ _ _ _ _ _ _ _ _ ls (sk_R_0 32) (sk_R_0 8) (sk_R_0 8) hP hD hS (lv_sub hl [3, 2, 1, 0] rfl)
-- ===== YOUR PART ENDS =====
set_option maxHeartbeats 4000000 in
theorem lw_walk (l : Launch) (hflags : l.flags = flags0) (b : Addr) (xs : List Int32) : MetFree l x (headSpec (Jvm.Cond.code x code maxLocals ret :: tables_1) room_1) (lw_P b xs) (fun _ _ _ _ _ => True) lw_Q := by
  refine MetFree.of_bodyS (code := code) (maxLocals := maxLocals) (ret := ret) (by decide) ?_ ?_
  · intro args s m h hn
    obtain ⟨meth, c, h1, h2, h3, h4, h5, h6, -, -⟩ := Cond.code_spec hn (atoms_spec (ws := Jvm.Cond.code x code maxLocals ret :: tables_1) h _ List.mem_cons_self)
    exact ⟨meth, c, h1, h2, h3, h4, h5, h6⟩
  · intro p e s m args below meth c s₁ B hml0 hP _
    obtain ⟨rfl, hx, hbd, hgv⟩ := hP
    obtain ⟨scr, harrAt, hlist, hof, hsmall⟩ := hx
    obtain ⟨hcb, hkn, -, -⟩ := State.arrayAt?_spec harrAt
    have hown : s.vm.findClass R_law = some m.cls := findClass_of_methodNamed B.named
    have hts0 : ∀ c ∈ (Jvm.Cond.code x code maxLocals ret :: tables_1), c.before #[Value.ref b] s = true := atoms_spec (ws := Jvm.Cond.code x code maxLocals ret :: tables_1) B.pre
    have hts : ∀ w ∈ lw_tbl, w.before #[Value.ref b] s = true := k2_hts_sels lw_privs (fun w hw => hts0 w (List.mem_cons_of_mem _ hw)) lw_privs_ok
    have hml : c.maxLocals = 4 := B.maxLocals_eq (hts0 _ List.mem_cons_self)
    have X₀ : Stand p l e room_1 s m #[Value.ref b] below meth c s₁ [] 0 0 := Stand.of_body B
    have hh0 : s₁.heap = s.heap := by rw [B.state]; rfl
    have hsz : scr.slots.size = xs.length := by rw [← Array.length_toList, hlist, List.length_map]
    have hval : ∀ j : Nat, j < xs.length → scr.slots[j]? = some (.int (xs.getD j 0)) := fun j hj => by
      rw [← Array.getElem?_toList, hlist]
      simp [hj]
    have hbl : b < s.heap.size := (Array.getElem?_eq_some_iff.mp hcb).1
    have hX : va_X b xs.length (fun j => xs.getD j 0) s s.heap := ⟨scr, hcb, hof, hkn, hsz, hval⟩
    have K : W p l e room_1 s m #[Value.ref b] below meth c s₁.heap [] 0 0 (lw_Z below #[Value.ref b] s) (entryFrame m ([Value.ref b] : List Value).toArray 4) := by
      rw [hh0]
      exact whole_start l hflags hbd ⟨B.exec, B.bytes, B.returns, hml, hown, hts, hX, hbl, B.notSynchronized, hgv⟩
    obtain ⟨t, a1, o, b1, b2, b3⟩ := K s₁ rfl X₀
    exact ⟨t, o, a1, b1, b2, b3⟩
theorem lw_pre_spec {args : Array Value} {s : State} (h : (Jvm.Cond.and given_1 narrow_1).before args s = true) (hr : rest_1_c.before args s = true) : ∃ (b : Addr) (xs : List Int32), lw_P b xs args s := by
  have hs := flat_of_before _ h
  have hq := flat_of_before _ hr
  have hc : (Cond.count 1).before args s = true := hs _ (by decide +kernel)
  have harr : (Cond.arrayOf (.arg 0) .int).before args s = true := hs _ (by decide +kernel)
  have hle : (Cond.le (.length (.arg 0)) (.int 288)).before args s = true := hs _ (by decide +kernel)
  have hlen : (Cond.isInt (.length (.arg 0))).before args s = true := hq _ (by decide +kernel)
  have hall : (Cond.all (.arg 0) (.isInt (.elem (.arg 0) (.index 0)))).before args s = true := hq _ (by decide +kernel)
  obtain ⟨b, xs, hb, hx⟩ := State.ints_of_pre rfl harr hlen hall
  have hsm : xs.length < 2 ^ 31 := hx.choose_spec.2.2.2
  have hev : (Term.length (.arg 0)).eval args s none [] s = some (.int xs.length.toInt32) := hx.length_eval hb
  have hv := Cond.le_ints hev (show (Term.int 288).eval args s none [] s = some (.int 288) from rfl)
  have hd : xs.length.toInt32 ≤ 288 := by
    simpa [Cond.before, Cond.holds, hv] using hle
  have hN : xs.length ≤ 288 := (Int32.ofNat_le_ofNat hsm (by decide)).mp (show Int32.ofNat xs.length ≤ Int32.ofNat 288 from hd)
  exact ⟨b, xs, Cond.one_arg hc (show args[0]? = some (.ref b) from hb), hx, hN, h⟩
theorem lw_comes (l : Launch) (hflags : l.flags = flags0) : Comes l x (Jvm.Cond.code x code maxLocals ret :: tables_1) room_1 (fun tb e args s => Calls_1 tb e args s ∧ rest_1 tb e args s ∧ Pre_1 tb e args s)
    (fun _ _ args s o t => lw_Q args s o t) := by
  intro p e ha hc hk s m args below hf hfit hheap happ hpre
  obtain ⟨b, xs, hP⟩ := lw_pre_spec hpre.2.2 hpre.2.1
  obtain ⟨k, o, h1, h2, h3, hQ⟩ := lw_walk l hflags b xs p e ha hc hk s m args below hf ((Spec.applies_iff_loose hf).mp happ).1 hP trivial
  exact ⟨k, o, h1, h2, h3, hQ⟩
theorem lw_frame {s t : State} {o : Outcome} {args : Array Value} (h : Framed s o t [] 600096 7301386) :
    Framed s o t (fieldLocs frame_1_writes args s ++ arrayLocs frame_1_arrays args s ++ staticLocs frame_1_statics s) 600096 7301386 := h
theorem lw_limb (L : Cond) (hL : ∀ (args : Array Value) (s t : State), L.after args s (.returned (some (.int 1))) t = true) :
    ArmFor flags0 classFile x code maxLocals ret World_1 tables_1 room_1 Calls_1 rest_1 Pre_1
      (fun tb e a s o t => postC L tb e a s o t ∧ Framed s o t (fieldLocs frame_1_writes a s ++ arrayLocs frame_1_arrays a s ++ staticLocs frame_1_statics s) 600096 7301386) := by
  intro l hflags _ _ p e ha hc hk s m args below hf hfit hheap happ hpre
  obtain ⟨k, o, h1, h2, h3, rfl, hF⟩ := lw_comes l hflags p e ha hc hk s m args below hf hfit hheap happ hpre
  exact ⟨k, _, h1, h2, h3, hL args s _, lw_frame hF⟩
theorem i_vc : Claimed_1_1 ∧ Claimed_1_2 := ⟨lw_limb limb_1_1 (fun args s t => by simp [limb_1_1, Cond.after, Cond.holds, Cond.value]), lw_limb limb_1_2 (fun args s t => Cond.after_iff.mpr (by
  first | (rw [show limb_1_2 = Cond.eq .result (.int 1) from rfl, Cond.eq_ints (x := 1) (y := 1) rfl rfl]; simp; done) | (simp [limb_1_2, Cond.value, Term.eval]; done)))⟩
end
