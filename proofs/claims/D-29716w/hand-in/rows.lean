section
-- ===== PART A: goes FIRST, ahead of the names: the tables' words, and 'selects' of the private methods out of them =====
/-- a private method of a class that the tables say can be made, by its rows of tables_1 -/
def lw_okq (q : MethodName × Nat) : Prop := (q.1.cls ≠ "java/lang/invoke/MethodHandle" ∧ q.1.cls ≠ "java/lang/invoke/VarHandle") ∧ Cond.instantiable q.1.cls q.2 ∈ tables_1 ∧ Cond.privateMethod q.1 ∈ tables_1 ∧ Cond.instanceMethod q.1 ∈ tables_1
set_option maxRecDepth 100000
theorem lw_t1 {w : Cond} (h : w ∈ tables_1_1) : w ∈ tables_1 := List.mem_append_left _ h
theorem lw_t2 {w : Cond} (h : w ∈ tables_1_2) : w ∈ tables_1 := List.mem_append_right _ h
theorem lw_p0 : lw_okq (⟨"SmFourDesk", "run", "(ZI)V"⟩, 3) := ⟨⟨by decide +kernel, by decide +kernel⟩, lw_t1 (List.mem_of_getElem? (i := 21) rfl), lw_t1 (List.mem_of_getElem? (i := 19) rfl), lw_t1 (List.mem_of_getElem? (i := 20) rfl)⟩
theorem lw_p1 : lw_okq (⟨"java/lang/Throwable", "fillInStackTrace", "(I)Ljava/lang/Throwable;"⟩, 6) := ⟨⟨by decide +kernel, by decide +kernel⟩, lw_t1 (List.mem_of_getElem? (i := 117) rfl), lw_t1 (List.mem_of_getElem? (i := 115) rfl), lw_t1 (List.mem_of_getElem? (i := 116) rfl)⟩
theorem lw_p2 : lw_okq (⟨"SM4Engine", "expandKey", "(Z[B)[I"⟩, 2) := ⟨⟨by decide +kernel, by decide +kernel⟩, lw_t1 (List.mem_of_getElem? (i := 27) rfl), lw_t1 (List.mem_of_getElem? (i := 146) rfl), lw_t1 (List.mem_of_getElem? (i := 147) rfl)⟩
theorem lw_p3 : lw_okq (⟨"SM4Engine", "T_ap", "(I)I"⟩, 2) := ⟨⟨by decide +kernel, by decide +kernel⟩, lw_t1 (List.mem_of_getElem? (i := 27) rfl), lw_t1 (List.mem_of_getElem? (i := 157) rfl), lw_t1 (List.mem_of_getElem? (i := 158) rfl)⟩
theorem lw_p4 : lw_okq (⟨"SM4Engine", "tau", "(I)I"⟩, 2) := ⟨⟨by decide +kernel, by decide +kernel⟩, lw_t1 (List.mem_of_getElem? (i := 27) rfl), lw_t1 (List.mem_of_getElem? (i := 161) rfl), lw_t1 (List.mem_of_getElem? (i := 162) rfl)⟩
theorem lw_p5 : lw_okq (⟨"SM4Engine", "L_ap", "(I)I"⟩, 2) := ⟨⟨by decide +kernel, by decide +kernel⟩, lw_t1 (List.mem_of_getElem? (i := 27) rfl), lw_t1 (List.mem_of_getElem? (i := 167) rfl), lw_t1 (List.mem_of_getElem? (i := 168) rfl)⟩
theorem lw_p6 : lw_okq (⟨"SM4Engine", "rotateLeft", "(II)I"⟩, 2) := ⟨⟨by decide +kernel, by decide +kernel⟩, lw_t1 (List.mem_of_getElem? (i := 27) rfl), lw_t1 (List.mem_of_getElem? (i := 171) rfl), lw_t1 (List.mem_of_getElem? (i := 172) rfl)⟩
theorem lw_p7 : lw_okq (⟨"SM4Engine", "F0", "([II)I"⟩, 2) := ⟨⟨by decide +kernel, by decide +kernel⟩, lw_t1 (List.mem_of_getElem? (i := 27) rfl), lw_t1 (List.mem_of_getElem? (i := 238) rfl), lw_t1 (List.mem_of_getElem? (i := 239) rfl)⟩
theorem lw_p8 : lw_okq (⟨"SM4Engine", "T", "(I)I"⟩, 2) := ⟨⟨by decide +kernel, by decide +kernel⟩, lw_t1 (List.mem_of_getElem? (i := 27) rfl), lw_t2 (List.mem_of_getElem? (i := 2) rfl), lw_t2 (List.mem_of_getElem? (i := 3) rfl)⟩
theorem lw_p9 : lw_okq (⟨"SM4Engine", "L", "(I)I"⟩, 2) := ⟨⟨by decide +kernel, by decide +kernel⟩, lw_t1 (List.mem_of_getElem? (i := 27) rfl), lw_t2 (List.mem_of_getElem? (i := 6) rfl), lw_t2 (List.mem_of_getElem? (i := 7) rfl)⟩
theorem lw_p10 : lw_okq (⟨"SM4Engine", "F1", "([II)I"⟩, 2) := ⟨⟨by decide +kernel, by decide +kernel⟩, lw_t1 (List.mem_of_getElem? (i := 27) rfl), lw_t2 (List.mem_of_getElem? (i := 10) rfl), lw_t2 (List.mem_of_getElem? (i := 11) rfl)⟩
theorem lw_p11 : lw_okq (⟨"SM4Engine", "F2", "([II)I"⟩, 2) := ⟨⟨by decide +kernel, by decide +kernel⟩, lw_t1 (List.mem_of_getElem? (i := 27) rfl), lw_t2 (List.mem_of_getElem? (i := 14) rfl), lw_t2 (List.mem_of_getElem? (i := 15) rfl)⟩
theorem lw_p12 : lw_okq (⟨"SM4Engine", "F3", "([II)I"⟩, 2) := ⟨⟨by decide +kernel, by decide +kernel⟩, lw_t1 (List.mem_of_getElem? (i := 27) rfl), lw_t2 (List.mem_of_getElem? (i := 18) rfl), lw_t2 (List.mem_of_getElem? (i := 19) rfl)⟩
def lw_privs_1 : List (MethodName × Nat) := [(⟨"SmFourDesk", "run", "(ZI)V"⟩, 3), (⟨"java/lang/Throwable", "fillInStackTrace", "(I)Ljava/lang/Throwable;"⟩, 6), (⟨"SM4Engine", "expandKey", "(Z[B)[I"⟩, 2), (⟨"SM4Engine", "T_ap", "(I)I"⟩, 2), (⟨"SM4Engine", "tau", "(I)I"⟩, 2), (⟨"SM4Engine", "L_ap", "(I)I"⟩, 2), (⟨"SM4Engine", "rotateLeft", "(II)I"⟩, 2), (⟨"SM4Engine", "F0", "([II)I"⟩, 2), (⟨"SM4Engine", "T", "(I)I"⟩, 2), (⟨"SM4Engine", "L", "(I)I"⟩, 2), (⟨"SM4Engine", "F1", "([II)I"⟩, 2), (⟨"SM4Engine", "F2", "([II)I"⟩, 2), (⟨"SM4Engine", "F3", "([II)I"⟩, 2)]
theorem lw_r1 : ∀ q ∈ lw_privs_1, lw_okq q := List.forall_mem_cons.mpr ⟨lw_p0, List.forall_mem_cons.mpr ⟨lw_p1, List.forall_mem_cons.mpr ⟨lw_p2, List.forall_mem_cons.mpr ⟨lw_p3, List.forall_mem_cons.mpr ⟨lw_p4, List.forall_mem_cons.mpr ⟨lw_p5, List.forall_mem_cons.mpr ⟨lw_p6, List.forall_mem_cons.mpr ⟨lw_p7, List.forall_mem_cons.mpr ⟨lw_p8, List.forall_mem_cons.mpr ⟨lw_p9, List.forall_mem_cons.mpr ⟨lw_p10, List.forall_mem_cons.mpr ⟨lw_p11, List.forall_mem_cons.mpr ⟨lw_p12, fun _ h => absurd h List.not_mem_nil⟩⟩⟩⟩⟩⟩⟩⟩⟩⟩⟩⟩⟩
def lw_privs : List (MethodName × Nat) := lw_privs_1
def lw_tbl : List Cond := k2_sels lw_privs ++ tables_1
theorem lw_privs_ok : ∀ q ∈ lw_privs, lw_okq q := lw_r1
-- ===== ONE list of words for every method: the tables' words that hold all through a run =====
def lw_all : List Cond := lw_tbl.filter goodWord
/-- a word of the tables by its place: claim/WORDS.tsv -/
theorem lw_w {w : Cond} (i : Nat) (h : lw_tbl[i]? = some w) (g : goodWord w = true) : w ∈ lw_all := List.mem_filter.mpr ⟨List.mem_of_getElem? h, g⟩
theorem lw_all_tbl {w : Cond} (h : w ∈ lw_all) : w ∈ lw_tbl := (List.mem_filter.mp h).1
theorem lw_self : GoodIn lw_all lw_all := fun w h => ⟨h, good_of_word (List.mem_filter.mp h).2⟩
/-- a class's field words, by their places -/
theorem lw_in (ws : List Cond) (ps : List Nat) (hp : ws = ps.filterMap (fun i => lw_tbl[i]?)) (hg : ws.all goodWord = true) : ∀ w ∈ ws, w ∈ lw_all := by
  intro w h
  have h1 := List.all_eq_true.mp hg w h
  rw [hp] at h
  obtain ⟨i, -, hi⟩ := List.mem_filterMap.mp h
  exact lw_w i hi h1
/-- the words of a contract for the method y with code b, L locals, answer r -/
abbrev ws_ (y : MethodName) (b : ByteArray) (L : Nat) (r : Option FieldType) : List Cond := Cond.code y b L r :: lw_all
theorem lw_meth {y : MethodName} {b : ByteArray} {L : Nat} {r : Option FieldType} (h : Cond.code y b L r ∈ lw_all) : GoodIn lw_all (ws_ y b L r) := by
  intro w hw
  rcases List.mem_cons.mp hw with e | e
  · rw [e]
    exact lw_self _ h
  · exact lw_self _ e
theorem lw_app {a c : List Cond} (ha : ∀ w ∈ a, w ∈ lw_all) (hc : GoodIn lw_all c) : GoodIn lw_all (a ++ c) := by
  intro w hw
  rcases List.mem_append.mp hw with e | e
  · exact lw_self w (ha w e)
  · exact hc w e
/-- what a call through an object asks: cwV n hts (lw_V ..) -/
theorem lw_V {own : String} {idx : Nat} {C : String} {y : MethodName} {b : ByteArray} {L : Nat} {r : Option FieldType} (h1 : Cond.methodLink own idx y ∈ lw_all) (h2 : Cond.instanceMethod y ∈ lw_all) (h3 : Cond.selects C y y ∈ lw_all) (h4 : Cond.initialized C ∈ lw_all) (h5 : Cond.code y b L r ∈ lw_all) : GoodIn lw_all (wsV own idx C y (ws_ y b L r)) := by
  refine lw_app ?_ (lw_meth h5)
  intro w hw
  simp only [List.mem_cons, List.not_mem_nil, or_false] at hw
  rcases hw with e | e | e | e
  · rw [e]; exact h1
  · rw [e]; exact h2
  · rw [e]; exact h3
  · rw [e]; exact h4
/-- what a static call asks: va_cwS n hts (lw_S ..) -/
theorem lw_S {own : String} {idx : Nat} {y : MethodName} {b : ByteArray} {L : Nat} {r : Option FieldType} (h1 : Cond.methodLink own idx y ∈ lw_all) (h2 : Cond.static y ∈ lw_all) (h3 : Cond.initialized y.cls ∈ lw_all) (h4 : Cond.code y b L r ∈ lw_all) : GoodIn lw_all (va_wsS own idx y (ws_ y b L r)) := by
  refine lw_app ?_ (lw_meth h4)
  intro w hw
  simp only [List.mem_cons, List.not_mem_nil, or_false] at hw
  rcases hw with e | e | e
  · rw [e]; exact h1
  · rw [e]; exact h2
  · rw [e]; exact h3
/-- the words of a contract for a method WITH HANDLERS (hh: its table) -/
abbrev wsW_ (y : MethodName) (b : ByteArray) (L : Nat) (r : Option FieldType) (hh : List (Nat × Nat × Nat × Nat)) : List Cond := Cond.codeWith y b L r hh :: lw_all
theorem lw_methW {y : MethodName} {b : ByteArray} {L : Nat} {r : Option FieldType} {hh : List (Nat × Nat × Nat × Nat)} (h : Cond.codeWith y b L r hh ∈ lw_all) : GoodIn lw_all (wsW_ y b L r hh) := by
  intro w hw
  rcases List.mem_cons.mp hw with e | e
  · rw [e]
    exact lw_self _ h
  · exact lw_self _ e
/-- any list of words by their places (lw_in), good -/
theorem lw_good {ws : List Cond} (h : ∀ w ∈ ws, w ∈ lw_all) : GoodIn lw_all ws := fun w hw => lw_self w (h w hw)
/-- what a call of a method with handlers asks: vx_cwVW n hts (lw_VW ..), vx_cwSW n hts (lw_SW ..) -/
theorem lw_VW {own : String} {idx : Nat} {C : String} {y : MethodName} {b : ByteArray} {L : Nat} {r : Option FieldType} {hh : List (Nat × Nat × Nat × Nat)} (h1 : Cond.methodLink own idx y ∈ lw_all) (h2 : Cond.instanceMethod y ∈ lw_all) (h3 : Cond.selects C y y ∈ lw_all) (h4 : Cond.initialized C ∈ lw_all) (h5 : Cond.codeWith y b L r hh ∈ lw_all) : GoodIn lw_all (wsV own idx C y (wsW_ y b L r hh)) := by
  refine lw_app ?_ (lw_methW h5)
  intro w hw
  simp only [List.mem_cons, List.not_mem_nil, or_false] at hw
  rcases hw with e | e | e | e
  · rw [e]; exact h1
  · rw [e]; exact h2
  · rw [e]; exact h3
  · rw [e]; exact h4
theorem lw_SW {own : String} {idx : Nat} {y : MethodName} {b : ByteArray} {L : Nat} {r : Option FieldType} {hh : List (Nat × Nat × Nat × Nat)} (h1 : Cond.methodLink own idx y ∈ lw_all) (h2 : Cond.static y ∈ lw_all) (h3 : Cond.initialized y.cls ∈ lw_all) (h4 : Cond.codeWith y b L r hh ∈ lw_all) : GoodIn lw_all (va_wsS own idx y (wsW_ y b L r hh)) := by
  refine lw_app ?_ (lw_methW h4)
  intro w hw
  simp only [List.mem_cons, List.not_mem_nil, or_false] at hw
  rcases hw with e | e | e
  · rw [e]; exact h1
  · rw [e]; exact h2
  · rw [e]; exact h3
/-- a word by its place in its run of the tables -/
theorem lw_at {r : List Cond} (hr : ∀ w ∈ r, w ∈ lw_tbl) {w : Cond} (i : Nat) (h : r[i]? = some w) : w ∈ lw_tbl := hr w (List.mem_of_getElem? h)
theorem lw_g {w : Cond} (h : w ∈ lw_tbl) (g : goodWord w = true) : w ∈ lw_all := List.mem_filter.mpr ⟨h, g⟩
theorem lw_ms : ∀ w ∈ k2_sels lw_privs, w ∈ lw_tbl := fun w h => show w ∈ k2_sels lw_privs ++ tables_1 from List.mem_append_left _ h
theorem lw_m1 : ∀ w ∈ tables_1_1, w ∈ lw_tbl := fun w h => show w ∈ k2_sels lw_privs ++ tables_1 from List.mem_append_right (k2_sels lw_privs) (show w ∈ tables_1 from List.mem_append_left _ h)
theorem lw_m2 : ∀ w ∈ tables_1_2, w ∈ lw_tbl := fun w h => show w ∈ k2_sels lw_privs ++ tables_1 from List.mem_append_right (k2_sels lw_privs) (show w ∈ tables_1 from List.mem_append_right _ h)
theorem qs0 : (Cond.selects "SmFourDesk" ⟨"SmFourDesk", "run", "(ZI)V"⟩ ⟨"SmFourDesk", "run", "(ZI)V"⟩) ∈ lw_all := lw_g (lw_at lw_ms 0 rfl) rfl
theorem qs1 : (Cond.selects "java/lang/Throwable" ⟨"java/lang/Throwable", "fillInStackTrace", "(I)Ljava/lang/Throwable;"⟩ ⟨"java/lang/Throwable", "fillInStackTrace", "(I)Ljava/lang/Throwable;"⟩) ∈ lw_all := lw_g (lw_at lw_ms 1 rfl) rfl
theorem qs2 : (Cond.selects "SM4Engine" ⟨"SM4Engine", "expandKey", "(Z[B)[I"⟩ ⟨"SM4Engine", "expandKey", "(Z[B)[I"⟩) ∈ lw_all := lw_g (lw_at lw_ms 2 rfl) rfl
theorem qs3 : (Cond.selects "SM4Engine" ⟨"SM4Engine", "T_ap", "(I)I"⟩ ⟨"SM4Engine", "T_ap", "(I)I"⟩) ∈ lw_all := lw_g (lw_at lw_ms 3 rfl) rfl
theorem qs4 : (Cond.selects "SM4Engine" ⟨"SM4Engine", "tau", "(I)I"⟩ ⟨"SM4Engine", "tau", "(I)I"⟩) ∈ lw_all := lw_g (lw_at lw_ms 4 rfl) rfl
theorem qs5 : (Cond.selects "SM4Engine" ⟨"SM4Engine", "L_ap", "(I)I"⟩ ⟨"SM4Engine", "L_ap", "(I)I"⟩) ∈ lw_all := lw_g (lw_at lw_ms 5 rfl) rfl
theorem qs6 : (Cond.selects "SM4Engine" ⟨"SM4Engine", "rotateLeft", "(II)I"⟩ ⟨"SM4Engine", "rotateLeft", "(II)I"⟩) ∈ lw_all := lw_g (lw_at lw_ms 6 rfl) rfl
theorem qs7 : (Cond.selects "SM4Engine" ⟨"SM4Engine", "F0", "([II)I"⟩ ⟨"SM4Engine", "F0", "([II)I"⟩) ∈ lw_all := lw_g (lw_at lw_ms 7 rfl) rfl
theorem qs8 : (Cond.selects "SM4Engine" ⟨"SM4Engine", "T", "(I)I"⟩ ⟨"SM4Engine", "T", "(I)I"⟩) ∈ lw_all := lw_g (lw_at lw_ms 8 rfl) rfl
theorem qs9 : (Cond.selects "SM4Engine" ⟨"SM4Engine", "L", "(I)I"⟩ ⟨"SM4Engine", "L", "(I)I"⟩) ∈ lw_all := lw_g (lw_at lw_ms 9 rfl) rfl
theorem qs10 : (Cond.selects "SM4Engine" ⟨"SM4Engine", "F1", "([II)I"⟩ ⟨"SM4Engine", "F1", "([II)I"⟩) ∈ lw_all := lw_g (lw_at lw_ms 10 rfl) rfl
theorem qs11 : (Cond.selects "SM4Engine" ⟨"SM4Engine", "F2", "([II)I"⟩ ⟨"SM4Engine", "F2", "([II)I"⟩) ∈ lw_all := lw_g (lw_at lw_ms 11 rfl) rfl
theorem qs12 : (Cond.selects "SM4Engine" ⟨"SM4Engine", "F3", "([II)I"⟩ ⟨"SM4Engine", "F3", "([II)I"⟩) ∈ lw_all := lw_g (lw_at lw_ms 12 rfl) rfl
/-! DECODE ROWS BY BYTES: one lemma an opcode; a method's code is cut into short pieces once, and a row reads its own piece alone. -/
set_option maxRecDepth 100000
/-- the code has just these bytes from pc on -/
def DkAt (code : ByteArray) (pc : Nat) (bs : List UInt8) : Prop := ∀ (j : Nat) (b : UInt8), bs[j]? = some b → code.data.toList[pc + j]? = some b
/-- the piece W has the bytes bs from its place j on -/
def dkIn (W : List UInt8) (j : Nat) (bs : List UInt8) : Bool := decide ((W.drop j).take bs.length = bs)
theorem dk_seg {l W T : List UInt8} {o o2 : Nat} (h : l.drop o = W ++ T) (n : Nat) (hn : W.length = n) (ho : o + n = o2) : l.drop o2 = T := by
  subst ho
  rw [← List.drop_drop, h, List.drop_left' hn]
theorem dk_at {code : ByteArray} {W T bs : List UInt8} {o pc : Nat} (h : code.data.toList.drop o = W ++ T) (j : Nat) (hp : o + j = pc) (hw : dkIn W j bs = true) : DkAt code pc bs := by
  subst hp
  intro i b e
  have h1 := of_decide_eq_true hw
  have h2 : i < bs.length := (List.getElem?_eq_some_iff.mp e).1
  have h3 : W[j + i]? = some b := by
    rw [← h1, List.getElem?_take, if_pos h2, List.getElem?_drop] at e
    exact e
  have h4 : j + i < W.length := (List.getElem?_eq_some_iff.mp h3).1
  have h5 : (code.data.toList.drop o)[j + i]? = some b := by
    rw [h, List.getElem?_append_left h4]
    exact h3
  rw [List.getElem?_drop, ← Nat.add_assoc] at h5
  exact h5
theorem dk_u1 {A : ByteArray} {p : Nat} {b : UInt8} (h : A.data.toList[p]? = some b) : (Reader.u1 : Reader DecodeError Nat) A p = .ok (b.toNat, p + 1) := by
  obtain ⟨h1, h2⟩ := List.getElem?_eq_some_iff.mp h
  have h3 : p < A.size := by simpa using h1
  have h4 : A[p]'h3 = b := h2
  have e : (Reader.u1 : Reader DecodeError Nat) A p = (if h : p < A.size then .ok (A[p].toNat, p + 1) else .error (HasTruncated.truncated p)) := by
    show (do if h : p < A.size then do set (p + 1); Pure.pure A[p].toNat else MonadExcept.throw (HasTruncated.truncated p) : Reader DecodeError Nat) A p = _
    by_cases hi : p < A.size
    · rw [dif_pos hi, dif_pos hi]; rfl
    · rw [dif_neg hi, dif_neg hi]; rfl
  rw [e, dif_pos h3, h4]
theorem dk_bind {α β : Type} {r : Reader DecodeError α} {f : α → Reader DecodeError β} {A : ByteArray} {p s : Nat} {a : α} (h : r A p = .ok (a, s)) : (r >>= f) A p = f a A s := by
  show (do let (a, s) ← r A p; f a A s : Except DecodeError (β × Nat)) = _
  rw [h]
  rfl
theorem dk_map {α β : Type} {r : Reader DecodeError α} {g : α → β} {A : ByteArray} {p s : Nat} {a : α} (h : r A p = .ok (a, s)) : (g <$> r) A p = .ok (g a, s) := by
  show (do let (a, s) ← r A p; .ok (g a, s) : Except DecodeError (β × Nat)) = _
  rw [h]
  rfl
theorem dk_u2 {A : ByteArray} {p : Nat} {a b : UInt8} (h : A.data.toList[p]? = some a) (h2 : A.data.toList[p + 1]? = some b) : (Reader.u2 : Reader DecodeError Nat) A p = .ok (a.toNat * 256 + b.toNat, p + 2) := by
  show (Reader.u1 >>= fun hi => Reader.u1 >>= fun lo => Pure.pure (hi * 256 + lo) : Reader DecodeError Nat) A p = _
  rw [dk_bind (dk_u1 h), dk_bind (dk_u1 h2)]
  rfl
theorem dk_of {code : ByteArray} {pc n : Nat} {i : Instr} (h : Decoder.instr pc code pc = .ok (i, pc + n)) : decode code pc = .ok (i, n) := by
  have e : decode code pc = (match Decoder.instr pc code pc with | .error x => .error x | .ok (j, s) => .ok (j, s - pc)) := by
    show (do let (j, s) ← Decoder.instr pc code pc; Pure.pure (j, s - pc) : Except DecodeError (Instr × Nat)) = _
    cases Decoder.instr pc code pc <;> rfl
  rw [e, h]
  show Except.ok (i, pc + n - pc) = _
  rw [Nat.add_sub_cancel_left]
theorem dk_3 {code : ByteArray} {pc : Nat} (h : DkAt code pc [3]) : decode code pc = .ok (.iconst 0, 1) := dk_of ((dk_bind (dk_u1 (h 0 _ rfl))).trans rfl)
theorem dk_4 {code : ByteArray} {pc : Nat} (h : DkAt code pc [4]) : decode code pc = .ok (.iconst 1, 1) := dk_of ((dk_bind (dk_u1 (h 0 _ rfl))).trans rfl)
theorem dk_5 {code : ByteArray} {pc : Nat} (h : DkAt code pc [5]) : decode code pc = .ok (.iconst 2, 1) := dk_of ((dk_bind (dk_u1 (h 0 _ rfl))).trans rfl)
theorem dk_6 {code : ByteArray} {pc : Nat} (h : DkAt code pc [6]) : decode code pc = .ok (.iconst 3, 1) := dk_of ((dk_bind (dk_u1 (h 0 _ rfl))).trans rfl)
theorem dk_7 {code : ByteArray} {pc : Nat} (h : DkAt code pc [7]) : decode code pc = .ok (.iconst 4, 1) := dk_of ((dk_bind (dk_u1 (h 0 _ rfl))).trans rfl)
theorem dk_8 {code : ByteArray} {pc : Nat} (h : DkAt code pc [8]) : decode code pc = .ok (.iconst 5, 1) := dk_of ((dk_bind (dk_u1 (h 0 _ rfl))).trans rfl)
theorem dk_16 {code : ByteArray} {pc : Nat} (a : UInt8) (h : DkAt code pc [16, a]) : decode code pc = .ok (.bipush (Reader.signed 8 a.toNat), 2) := dk_of ((dk_bind (dk_u1 (h 0 _ rfl))).trans ((dk_bind (dk_map (dk_u1 (h 1 _ rfl)))).trans rfl))
theorem dk_17 {code : ByteArray} {pc : Nat} (a b : UInt8) (h : DkAt code pc [17, a, b]) : decode code pc = .ok (.sipush (Reader.signed 16 (a.toNat * 256 + b.toNat)), 3) := dk_of ((dk_bind (dk_u1 (h 0 _ rfl))).trans ((dk_bind (dk_map (dk_u2 (h 1 _ rfl) (h 2 _ rfl)))).trans rfl))
theorem dk_18 {code : ByteArray} {pc : Nat} (a : UInt8) (h : DkAt code pc [18, a]) : decode code pc = .ok (.ldc a.toNat, 2) := dk_of ((dk_bind (dk_u1 (h 0 _ rfl))).trans ((dk_bind (dk_u1 (h 1 _ rfl))).trans rfl))
theorem dk_21 {code : ByteArray} {pc : Nat} (a : UInt8) (h : DkAt code pc [21, a]) : decode code pc = .ok (.iload a.toNat, 2) := dk_of ((dk_bind (dk_u1 (h 0 _ rfl))).trans ((dk_bind (dk_u1 (h 1 _ rfl))).trans rfl))
theorem dk_25 {code : ByteArray} {pc : Nat} (a : UInt8) (h : DkAt code pc [25, a]) : decode code pc = .ok (.aload a.toNat, 2) := dk_of ((dk_bind (dk_u1 (h 0 _ rfl))).trans ((dk_bind (dk_u1 (h 1 _ rfl))).trans rfl))
theorem dk_26 {code : ByteArray} {pc : Nat} (h : DkAt code pc [26]) : decode code pc = .ok (.iload_n 0, 1) := dk_of ((dk_bind (dk_u1 (h 0 _ rfl))).trans rfl)
theorem dk_27 {code : ByteArray} {pc : Nat} (h : DkAt code pc [27]) : decode code pc = .ok (.iload_n 1, 1) := dk_of ((dk_bind (dk_u1 (h 0 _ rfl))).trans rfl)
theorem dk_28 {code : ByteArray} {pc : Nat} (h : DkAt code pc [28]) : decode code pc = .ok (.iload_n 2, 1) := dk_of ((dk_bind (dk_u1 (h 0 _ rfl))).trans rfl)
theorem dk_29 {code : ByteArray} {pc : Nat} (h : DkAt code pc [29]) : decode code pc = .ok (.iload_n 3, 1) := dk_of ((dk_bind (dk_u1 (h 0 _ rfl))).trans rfl)
theorem dk_42 {code : ByteArray} {pc : Nat} (h : DkAt code pc [42]) : decode code pc = .ok (.aload_n 0, 1) := dk_of ((dk_bind (dk_u1 (h 0 _ rfl))).trans rfl)
theorem dk_43 {code : ByteArray} {pc : Nat} (h : DkAt code pc [43]) : decode code pc = .ok (.aload_n 1, 1) := dk_of ((dk_bind (dk_u1 (h 0 _ rfl))).trans rfl)
theorem dk_44 {code : ByteArray} {pc : Nat} (h : DkAt code pc [44]) : decode code pc = .ok (.aload_n 2, 1) := dk_of ((dk_bind (dk_u1 (h 0 _ rfl))).trans rfl)
theorem dk_45 {code : ByteArray} {pc : Nat} (h : DkAt code pc [45]) : decode code pc = .ok (.aload_n 3, 1) := dk_of ((dk_bind (dk_u1 (h 0 _ rfl))).trans rfl)
theorem dk_46 {code : ByteArray} {pc : Nat} (h : DkAt code pc [46]) : decode code pc = .ok (.iaload, 1) := dk_of ((dk_bind (dk_u1 (h 0 _ rfl))).trans rfl)
theorem dk_51 {code : ByteArray} {pc : Nat} (h : DkAt code pc [51]) : decode code pc = .ok (.baload, 1) := dk_of ((dk_bind (dk_u1 (h 0 _ rfl))).trans rfl)
theorem dk_54 {code : ByteArray} {pc : Nat} (a : UInt8) (h : DkAt code pc [54, a]) : decode code pc = .ok (.istore a.toNat, 2) := dk_of ((dk_bind (dk_u1 (h 0 _ rfl))).trans ((dk_bind (dk_u1 (h 1 _ rfl))).trans rfl))
theorem dk_58 {code : ByteArray} {pc : Nat} (a : UInt8) (h : DkAt code pc [58, a]) : decode code pc = .ok (.astore a.toNat, 2) := dk_of ((dk_bind (dk_u1 (h 0 _ rfl))).trans ((dk_bind (dk_u1 (h 1 _ rfl))).trans rfl))
theorem dk_60 {code : ByteArray} {pc : Nat} (h : DkAt code pc [60]) : decode code pc = .ok (.istore_n 1, 1) := dk_of ((dk_bind (dk_u1 (h 0 _ rfl))).trans rfl)
theorem dk_61 {code : ByteArray} {pc : Nat} (h : DkAt code pc [61]) : decode code pc = .ok (.istore_n 2, 1) := dk_of ((dk_bind (dk_u1 (h 0 _ rfl))).trans rfl)
theorem dk_62 {code : ByteArray} {pc : Nat} (h : DkAt code pc [62]) : decode code pc = .ok (.istore_n 3, 1) := dk_of ((dk_bind (dk_u1 (h 0 _ rfl))).trans rfl)
theorem dk_75 {code : ByteArray} {pc : Nat} (h : DkAt code pc [75]) : decode code pc = .ok (.astore_n 0, 1) := dk_of ((dk_bind (dk_u1 (h 0 _ rfl))).trans rfl)
theorem dk_76 {code : ByteArray} {pc : Nat} (h : DkAt code pc [76]) : decode code pc = .ok (.astore_n 1, 1) := dk_of ((dk_bind (dk_u1 (h 0 _ rfl))).trans rfl)
theorem dk_77 {code : ByteArray} {pc : Nat} (h : DkAt code pc [77]) : decode code pc = .ok (.astore_n 2, 1) := dk_of ((dk_bind (dk_u1 (h 0 _ rfl))).trans rfl)
theorem dk_78 {code : ByteArray} {pc : Nat} (h : DkAt code pc [78]) : decode code pc = .ok (.astore_n 3, 1) := dk_of ((dk_bind (dk_u1 (h 0 _ rfl))).trans rfl)
theorem dk_79 {code : ByteArray} {pc : Nat} (h : DkAt code pc [79]) : decode code pc = .ok (.iastore, 1) := dk_of ((dk_bind (dk_u1 (h 0 _ rfl))).trans rfl)
theorem dk_84 {code : ByteArray} {pc : Nat} (h : DkAt code pc [84]) : decode code pc = .ok (.bastore, 1) := dk_of ((dk_bind (dk_u1 (h 0 _ rfl))).trans rfl)
theorem dk_87 {code : ByteArray} {pc : Nat} (h : DkAt code pc [87]) : decode code pc = .ok (.pop, 1) := dk_of ((dk_bind (dk_u1 (h 0 _ rfl))).trans rfl)
theorem dk_89 {code : ByteArray} {pc : Nat} (h : DkAt code pc [89]) : decode code pc = .ok (.dup, 1) := dk_of ((dk_bind (dk_u1 (h 0 _ rfl))).trans rfl)
theorem dk_96 {code : ByteArray} {pc : Nat} (h : DkAt code pc [96]) : decode code pc = .ok (.iadd, 1) := dk_of ((dk_bind (dk_u1 (h 0 _ rfl))).trans rfl)
theorem dk_100 {code : ByteArray} {pc : Nat} (h : DkAt code pc [100]) : decode code pc = .ok (.isub, 1) := dk_of ((dk_bind (dk_u1 (h 0 _ rfl))).trans rfl)
theorem dk_104 {code : ByteArray} {pc : Nat} (h : DkAt code pc [104]) : decode code pc = .ok (.imul, 1) := dk_of ((dk_bind (dk_u1 (h 0 _ rfl))).trans rfl)
theorem dk_108 {code : ByteArray} {pc : Nat} (h : DkAt code pc [108]) : decode code pc = .ok (.idiv, 1) := dk_of ((dk_bind (dk_u1 (h 0 _ rfl))).trans rfl)
theorem dk_112 {code : ByteArray} {pc : Nat} (h : DkAt code pc [112]) : decode code pc = .ok (.irem, 1) := dk_of ((dk_bind (dk_u1 (h 0 _ rfl))).trans rfl)
theorem dk_116 {code : ByteArray} {pc : Nat} (h : DkAt code pc [116]) : decode code pc = .ok (.ineg, 1) := dk_of ((dk_bind (dk_u1 (h 0 _ rfl))).trans rfl)
theorem dk_120 {code : ByteArray} {pc : Nat} (h : DkAt code pc [120]) : decode code pc = .ok (.ishl, 1) := dk_of ((dk_bind (dk_u1 (h 0 _ rfl))).trans rfl)
theorem dk_122 {code : ByteArray} {pc : Nat} (h : DkAt code pc [122]) : decode code pc = .ok (.ishr, 1) := dk_of ((dk_bind (dk_u1 (h 0 _ rfl))).trans rfl)
theorem dk_124 {code : ByteArray} {pc : Nat} (h : DkAt code pc [124]) : decode code pc = .ok (.iushr, 1) := dk_of ((dk_bind (dk_u1 (h 0 _ rfl))).trans rfl)
theorem dk_126 {code : ByteArray} {pc : Nat} (h : DkAt code pc [126]) : decode code pc = .ok (.iand, 1) := dk_of ((dk_bind (dk_u1 (h 0 _ rfl))).trans rfl)
theorem dk_128 {code : ByteArray} {pc : Nat} (h : DkAt code pc [128]) : decode code pc = .ok (.ior, 1) := dk_of ((dk_bind (dk_u1 (h 0 _ rfl))).trans rfl)
theorem dk_130 {code : ByteArray} {pc : Nat} (h : DkAt code pc [130]) : decode code pc = .ok (.ixor, 1) := dk_of ((dk_bind (dk_u1 (h 0 _ rfl))).trans rfl)
theorem dk_132 {code : ByteArray} {pc : Nat} (a b : UInt8) (h : DkAt code pc [132, a, b]) : decode code pc = .ok (.iinc a.toNat (Reader.signed 8 b.toNat), 3) := dk_of ((dk_bind (dk_u1 (h 0 _ rfl))).trans ((dk_bind (dk_u1 (h 1 _ rfl))).trans ((dk_bind (dk_map (dk_u1 (h 2 _ rfl)))).trans rfl)))
theorem dk_145 {code : ByteArray} {pc : Nat} (h : DkAt code pc [145]) : decode code pc = .ok (.i2b, 1) := dk_of ((dk_bind (dk_u1 (h 0 _ rfl))).trans rfl)
theorem dk_153 {code : ByteArray} {pc : Nat} (a b : UInt8) (h : DkAt code pc [153, a, b]) : decode code pc = .ok (.ifCond .eq (Reader.signed 16 (a.toNat * 256 + b.toNat)), 3) := dk_of ((dk_bind (dk_u1 (h 0 _ rfl))).trans ((dk_bind (dk_map (dk_u2 (h 1 _ rfl) (h 2 _ rfl)))).trans rfl))
theorem dk_154 {code : ByteArray} {pc : Nat} (a b : UInt8) (h : DkAt code pc [154, a, b]) : decode code pc = .ok (.ifCond .ne (Reader.signed 16 (a.toNat * 256 + b.toNat)), 3) := dk_of ((dk_bind (dk_u1 (h 0 _ rfl))).trans ((dk_bind (dk_map (dk_u2 (h 1 _ rfl) (h 2 _ rfl)))).trans rfl))
theorem dk_155 {code : ByteArray} {pc : Nat} (a b : UInt8) (h : DkAt code pc [155, a, b]) : decode code pc = .ok (.ifCond .lt (Reader.signed 16 (a.toNat * 256 + b.toNat)), 3) := dk_of ((dk_bind (dk_u1 (h 0 _ rfl))).trans ((dk_bind (dk_map (dk_u2 (h 1 _ rfl) (h 2 _ rfl)))).trans rfl))
theorem dk_159 {code : ByteArray} {pc : Nat} (a b : UInt8) (h : DkAt code pc [159, a, b]) : decode code pc = .ok (.if_icmp .eq (Reader.signed 16 (a.toNat * 256 + b.toNat)), 3) := dk_of ((dk_bind (dk_u1 (h 0 _ rfl))).trans ((dk_bind (dk_map (dk_u2 (h 1 _ rfl) (h 2 _ rfl)))).trans rfl))
theorem dk_162 {code : ByteArray} {pc : Nat} (a b : UInt8) (h : DkAt code pc [162, a, b]) : decode code pc = .ok (.if_icmp .ge (Reader.signed 16 (a.toNat * 256 + b.toNat)), 3) := dk_of ((dk_bind (dk_u1 (h 0 _ rfl))).trans ((dk_bind (dk_map (dk_u2 (h 1 _ rfl) (h 2 _ rfl)))).trans rfl))
theorem dk_164 {code : ByteArray} {pc : Nat} (a b : UInt8) (h : DkAt code pc [164, a, b]) : decode code pc = .ok (.if_icmp .le (Reader.signed 16 (a.toNat * 256 + b.toNat)), 3) := dk_of ((dk_bind (dk_u1 (h 0 _ rfl))).trans ((dk_bind (dk_map (dk_u2 (h 1 _ rfl) (h 2 _ rfl)))).trans rfl))
theorem dk_167 {code : ByteArray} {pc : Nat} (a b : UInt8) (h : DkAt code pc [167, a, b]) : decode code pc = .ok (.goto (Reader.signed 16 (a.toNat * 256 + b.toNat)), 3) := dk_of ((dk_bind (dk_u1 (h 0 _ rfl))).trans ((dk_bind (dk_map (dk_u2 (h 1 _ rfl) (h 2 _ rfl)))).trans rfl))
theorem dk_172 {code : ByteArray} {pc : Nat} (h : DkAt code pc [172]) : decode code pc = .ok (.ireturn, 1) := dk_of ((dk_bind (dk_u1 (h 0 _ rfl))).trans rfl)
theorem dk_176 {code : ByteArray} {pc : Nat} (h : DkAt code pc [176]) : decode code pc = .ok (.areturn, 1) := dk_of ((dk_bind (dk_u1 (h 0 _ rfl))).trans rfl)
theorem dk_177 {code : ByteArray} {pc : Nat} (h : DkAt code pc [177]) : decode code pc = .ok (.return_, 1) := dk_of ((dk_bind (dk_u1 (h 0 _ rfl))).trans rfl)
theorem dk_178 {code : ByteArray} {pc : Nat} (a b : UInt8) (h : DkAt code pc [178, a, b]) : decode code pc = .ok (.getstatic (a.toNat * 256 + b.toNat), 3) := dk_of ((dk_bind (dk_u1 (h 0 _ rfl))).trans ((dk_bind (dk_u2 (h 1 _ rfl) (h 2 _ rfl))).trans rfl))
theorem dk_180 {code : ByteArray} {pc : Nat} (a b : UInt8) (h : DkAt code pc [180, a, b]) : decode code pc = .ok (.getfield (a.toNat * 256 + b.toNat), 3) := dk_of ((dk_bind (dk_u1 (h 0 _ rfl))).trans ((dk_bind (dk_u2 (h 1 _ rfl) (h 2 _ rfl))).trans rfl))
theorem dk_181 {code : ByteArray} {pc : Nat} (a b : UInt8) (h : DkAt code pc [181, a, b]) : decode code pc = .ok (.putfield (a.toNat * 256 + b.toNat), 3) := dk_of ((dk_bind (dk_u1 (h 0 _ rfl))).trans ((dk_bind (dk_u2 (h 1 _ rfl) (h 2 _ rfl))).trans rfl))
theorem dk_182 {code : ByteArray} {pc : Nat} (a b : UInt8) (h : DkAt code pc [182, a, b]) : decode code pc = .ok (.invokevirtual (a.toNat * 256 + b.toNat), 3) := dk_of ((dk_bind (dk_u1 (h 0 _ rfl))).trans ((dk_bind (dk_u2 (h 1 _ rfl) (h 2 _ rfl))).trans rfl))
theorem dk_183 {code : ByteArray} {pc : Nat} (a b : UInt8) (h : DkAt code pc [183, a, b]) : decode code pc = .ok (.invokespecial (a.toNat * 256 + b.toNat), 3) := dk_of ((dk_bind (dk_u1 (h 0 _ rfl))).trans ((dk_bind (dk_u2 (h 1 _ rfl) (h 2 _ rfl))).trans rfl))
theorem dk_184 {code : ByteArray} {pc : Nat} (a b : UInt8) (h : DkAt code pc [184, a, b]) : decode code pc = .ok (.invokestatic (a.toNat * 256 + b.toNat), 3) := dk_of ((dk_bind (dk_u1 (h 0 _ rfl))).trans ((dk_bind (dk_u2 (h 1 _ rfl) (h 2 _ rfl))).trans rfl))
theorem dk_187 {code : ByteArray} {pc : Nat} (a b : UInt8) (h : DkAt code pc [187, a, b]) : decode code pc = .ok (.new (a.toNat * 256 + b.toNat), 3) := dk_of ((dk_bind (dk_u1 (h 0 _ rfl))).trans ((dk_bind (dk_u2 (h 1 _ rfl) (h 2 _ rfl))).trans rfl))
theorem dk_188_8 {code : ByteArray} {pc : Nat} (h : DkAt code pc [188, 8]) : decode code pc = .ok (.newarray .byte, 2) := dk_of ((dk_bind (dk_u1 (h 0 _ rfl))).trans ((dk_bind (dk_u1 (h 1 _ rfl))).trans rfl))
theorem dk_188_10 {code : ByteArray} {pc : Nat} (h : DkAt code pc [188, 10]) : decode code pc = .ok (.newarray .int, 2) := dk_of ((dk_bind (dk_u1 (h 0 _ rfl))).trans ((dk_bind (dk_u1 (h 1 _ rfl))).trans rfl))
theorem dk_190 {code : ByteArray} {pc : Nat} (h : DkAt code pc [190]) : decode code pc = .ok (.arraylength, 1) := dk_of ((dk_bind (dk_u1 (h 0 _ rfl))).trans rfl)
theorem dk_191 {code : ByteArray} {pc : Nat} (h : DkAt code pc [191]) : decode code pc = .ok (.athrow, 1) := dk_of ((dk_bind (dk_u1 (h 0 _ rfl))).trans rfl)
theorem dk_192 {code : ByteArray} {pc : Nat} (a b : UInt8) (h : DkAt code pc [192, a, b]) : decode code pc = .ok (.checkcast (a.toNat * 256 + b.toNat), 3) := dk_of ((dk_bind (dk_u1 (h 0 _ rfl))).trans ((dk_bind (dk_u2 (h 1 _ rfl) (h 2 _ rfl))).trans rfl))
theorem dk_193 {code : ByteArray} {pc : Nat} (a b : UInt8) (h : DkAt code pc [193, a, b]) : decode code pc = .ok (.instanceof (a.toNat * 256 + b.toNat), 3) := dk_of ((dk_bind (dk_u1 (h 0 _ rfl))).trans ((dk_bind (dk_u2 (h 1 _ rfl) (h 2 _ rfl))).trans rfl))
theorem dk_199 {code : ByteArray} {pc : Nat} (a b : UInt8) (h : DkAt code pc [199, a, b]) : decode code pc = .ok (.ifnonnull (Reader.signed 16 (a.toNat * 256 + b.toNat)), 3) := dk_of ((dk_bind (dk_u1 (h 0 _ rfl))).trans ((dk_bind (dk_map (dk_u2 (h 1 _ rfl) (h 2 _ rfl)))).trans rfl))
/-! java/lang/Object -/
set_option maxRecDepth 100000
def RJ5 : String := "java/lang/Object"
abbrev cJ5_init : ByteArray := object_method_1_code
def yJ5_init : MethodName := ⟨RJ5, "<init>", "()V"⟩
theorem dJ5_init_0 : decode cJ5_init 0 = .ok (.return_, 1) := by decide +kernel
theorem q45 : (Jvm.Cond.instanceMethod ({ cls := "java/lang/Object", name := "<init>", desc := "()V" } : Jvm.MethodName)) ∈ lw_all := lw_g (lw_at lw_m1 32 rfl) rfl
theorem q46 : (Jvm.Cond.code ({ cls := "java/lang/Object", name := "<init>", desc := "()V" } : Jvm.MethodName) object_method_1_code (1 : Nat) (Option.none : Option Jvm.ClassFile.FieldType)) ∈ lw_all := lw_g (lw_at lw_m1 33 rfl) rfl
theorem q54 : (Jvm.Cond.arrayClass Jvm.ClassFile.FieldType.byte) ∈ lw_all := lw_g (lw_at lw_m1 41 rfl) rfl
set_option maxRecDepth 100000
theorem q55 : (Jvm.Cond.arrayClass Jvm.ClassFile.FieldType.int) ∈ lw_all := lw_g (lw_at lw_m1 42 rfl) rfl
theorem q17 : (Jvm.Cond.initialized "java/lang/System") ∈ lw_all := lw_g (lw_at lw_m1 4 rfl) rfl
set_option maxRecDepth 100000
theorem q73 : (Jvm.Cond.static ({ cls := "java/lang/System", name := "arraycopy", desc := "(Ljava/lang/Object;ILjava/lang/Object;II)V" } : Jvm.MethodName)) ∈ lw_all := lw_g (lw_at lw_m1 60 rfl) rfl
theorem q74 : (Jvm.Cond.native ({ cls := "java/lang/System", name := "arraycopy", desc := "(Ljava/lang/Object;ILjava/lang/Object;II)V" } : Jvm.MethodName)) ∈ lw_all := lw_g (lw_at lw_m1 61 rfl) rfl
theorem q77 : (Jvm.Cond.interfaceMethod "BlockCipher" "BlockCipher" "init" "(ZLCipherParameters;)V") ∈ lw_tbl := lw_at lw_m1 64 rfl
set_option maxRecDepth 100000
theorem q78 : (Jvm.Cond.declares ({ cls := "BlockCipher", name := "init", desc := "(ZLCipherParameters;)V" } : Jvm.MethodName)) ∈ lw_tbl := lw_at lw_m1 65 rfl
theorem q190 : (Jvm.Cond.interfaceMethod "BlockCipher" "BlockCipher" "processBlock" "([BI[BI)I") ∈ lw_tbl := lw_at lw_m1 177 rfl
theorem q191 : (Jvm.Cond.declares ({ cls := "BlockCipher", name := "processBlock", desc := "([BI[BI)I" } : Jvm.MethodName)) ∈ lw_tbl := lw_at lw_m1 178 rfl
/-! Pack -/
set_option maxRecDepth 100000
def RX4 : String := "Pack"
abbrev cX4_bigEndianToInt : ByteArray := prog_6_method_2_code
def yX4_bigEndianToInt : MethodName := ⟨RX4, "bigEndianToInt", "([BI)I"⟩
def dkwX4_bigEndianToInt_2 : List UInt8 := [17, 0, 255, 126, 128, 61, 28, 172]
abbrev dktX4_bigEndianToInt_2 : List UInt8 := dkwX4_bigEndianToInt_2 ++ []
def dkwX4_bigEndianToInt_1 : List UInt8 := [42, 132, 1, 1, 27, 51, 17, 0, 255, 126, 16, 8, 120, 128, 61, 28, 42, 132, 1, 1, 27, 51]
abbrev dktX4_bigEndianToInt_1 : List UInt8 := dkwX4_bigEndianToInt_1 ++ dktX4_bigEndianToInt_2
def dkwX4_bigEndianToInt_0 : List UInt8 := [42, 27, 51, 16, 24, 120, 61, 28, 42, 132, 1, 1, 27, 51, 17, 0, 255, 126, 16, 16, 120, 128, 61, 28]
abbrev dktX4_bigEndianToInt_0 : List UInt8 := dkwX4_bigEndianToInt_0 ++ dktX4_bigEndianToInt_1
theorem dksX4_bigEndianToInt_0 : cX4_bigEndianToInt.data.toList.drop 0 = dktX4_bigEndianToInt_0 := by decide +kernel
theorem dksX4_bigEndianToInt_1 : cX4_bigEndianToInt.data.toList.drop 24 = dktX4_bigEndianToInt_1 := dk_seg dksX4_bigEndianToInt_0 24 rfl rfl
theorem dksX4_bigEndianToInt_2 : cX4_bigEndianToInt.data.toList.drop 46 = dktX4_bigEndianToInt_2 := dk_seg dksX4_bigEndianToInt_1 22 rfl rfl
theorem dX4_bigEndianToInt_0 : decode cX4_bigEndianToInt 0 = .ok (.aload_n 0, 1) := dk_42 (dk_at dksX4_bigEndianToInt_0 0 rfl rfl)
theorem dX4_bigEndianToInt_1 : decode cX4_bigEndianToInt 1 = .ok (.iload_n 1, 1) := dk_27 (dk_at dksX4_bigEndianToInt_0 1 rfl rfl)
theorem dX4_bigEndianToInt_2 : decode cX4_bigEndianToInt 2 = .ok (.baload, 1) := dk_51 (dk_at dksX4_bigEndianToInt_0 2 rfl rfl)
theorem dX4_bigEndianToInt_3 : decode cX4_bigEndianToInt 3 = .ok (.bipush 24, 2) := dk_16 24 (dk_at dksX4_bigEndianToInt_0 3 rfl rfl)
theorem dX4_bigEndianToInt_5 : decode cX4_bigEndianToInt 5 = .ok (.ishl, 1) := dk_120 (dk_at dksX4_bigEndianToInt_0 5 rfl rfl)
theorem dX4_bigEndianToInt_6 : decode cX4_bigEndianToInt 6 = .ok (.istore_n 2, 1) := dk_61 (dk_at dksX4_bigEndianToInt_0 6 rfl rfl)
theorem dX4_bigEndianToInt_7 : decode cX4_bigEndianToInt 7 = .ok (.iload_n 2, 1) := dk_28 (dk_at dksX4_bigEndianToInt_0 7 rfl rfl)
theorem dX4_bigEndianToInt_8 : decode cX4_bigEndianToInt 8 = .ok (.aload_n 0, 1) := dk_42 (dk_at dksX4_bigEndianToInt_0 8 rfl rfl)
theorem dX4_bigEndianToInt_9 : decode cX4_bigEndianToInt 9 = .ok (.iinc 1 1, 3) := dk_132 1 1 (dk_at dksX4_bigEndianToInt_0 9 rfl rfl)
theorem dX4_bigEndianToInt_12 : decode cX4_bigEndianToInt 12 = .ok (.iload_n 1, 1) := dk_27 (dk_at dksX4_bigEndianToInt_0 12 rfl rfl)
theorem dX4_bigEndianToInt_13 : decode cX4_bigEndianToInt 13 = .ok (.baload, 1) := dk_51 (dk_at dksX4_bigEndianToInt_0 13 rfl rfl)
theorem dX4_bigEndianToInt_14 : decode cX4_bigEndianToInt 14 = .ok (.sipush 255, 3) := dk_17 0 255 (dk_at dksX4_bigEndianToInt_0 14 rfl rfl)
theorem dX4_bigEndianToInt_17 : decode cX4_bigEndianToInt 17 = .ok (.iand, 1) := dk_126 (dk_at dksX4_bigEndianToInt_0 17 rfl rfl)
theorem dX4_bigEndianToInt_18 : decode cX4_bigEndianToInt 18 = .ok (.bipush 16, 2) := dk_16 16 (dk_at dksX4_bigEndianToInt_0 18 rfl rfl)
theorem dX4_bigEndianToInt_20 : decode cX4_bigEndianToInt 20 = .ok (.ishl, 1) := dk_120 (dk_at dksX4_bigEndianToInt_0 20 rfl rfl)
theorem dX4_bigEndianToInt_21 : decode cX4_bigEndianToInt 21 = .ok (.ior, 1) := dk_128 (dk_at dksX4_bigEndianToInt_0 21 rfl rfl)
theorem dX4_bigEndianToInt_22 : decode cX4_bigEndianToInt 22 = .ok (.istore_n 2, 1) := dk_61 (dk_at dksX4_bigEndianToInt_0 22 rfl rfl)
theorem dX4_bigEndianToInt_23 : decode cX4_bigEndianToInt 23 = .ok (.iload_n 2, 1) := dk_28 (dk_at dksX4_bigEndianToInt_0 23 rfl rfl)
theorem dX4_bigEndianToInt_24 : decode cX4_bigEndianToInt 24 = .ok (.aload_n 0, 1) := dk_42 (dk_at dksX4_bigEndianToInt_1 0 rfl rfl)
theorem dX4_bigEndianToInt_25 : decode cX4_bigEndianToInt 25 = .ok (.iinc 1 1, 3) := dk_132 1 1 (dk_at dksX4_bigEndianToInt_1 1 rfl rfl)
theorem dX4_bigEndianToInt_28 : decode cX4_bigEndianToInt 28 = .ok (.iload_n 1, 1) := dk_27 (dk_at dksX4_bigEndianToInt_1 4 rfl rfl)
theorem dX4_bigEndianToInt_29 : decode cX4_bigEndianToInt 29 = .ok (.baload, 1) := dk_51 (dk_at dksX4_bigEndianToInt_1 5 rfl rfl)
theorem dX4_bigEndianToInt_30 : decode cX4_bigEndianToInt 30 = .ok (.sipush 255, 3) := dk_17 0 255 (dk_at dksX4_bigEndianToInt_1 6 rfl rfl)
theorem dX4_bigEndianToInt_33 : decode cX4_bigEndianToInt 33 = .ok (.iand, 1) := dk_126 (dk_at dksX4_bigEndianToInt_1 9 rfl rfl)
theorem dX4_bigEndianToInt_34 : decode cX4_bigEndianToInt 34 = .ok (.bipush 8, 2) := dk_16 8 (dk_at dksX4_bigEndianToInt_1 10 rfl rfl)
theorem dX4_bigEndianToInt_36 : decode cX4_bigEndianToInt 36 = .ok (.ishl, 1) := dk_120 (dk_at dksX4_bigEndianToInt_1 12 rfl rfl)
theorem dX4_bigEndianToInt_37 : decode cX4_bigEndianToInt 37 = .ok (.ior, 1) := dk_128 (dk_at dksX4_bigEndianToInt_1 13 rfl rfl)
theorem dX4_bigEndianToInt_38 : decode cX4_bigEndianToInt 38 = .ok (.istore_n 2, 1) := dk_61 (dk_at dksX4_bigEndianToInt_1 14 rfl rfl)
theorem dX4_bigEndianToInt_39 : decode cX4_bigEndianToInt 39 = .ok (.iload_n 2, 1) := dk_28 (dk_at dksX4_bigEndianToInt_1 15 rfl rfl)
theorem dX4_bigEndianToInt_40 : decode cX4_bigEndianToInt 40 = .ok (.aload_n 0, 1) := dk_42 (dk_at dksX4_bigEndianToInt_1 16 rfl rfl)
theorem dX4_bigEndianToInt_41 : decode cX4_bigEndianToInt 41 = .ok (.iinc 1 1, 3) := dk_132 1 1 (dk_at dksX4_bigEndianToInt_1 17 rfl rfl)
theorem dX4_bigEndianToInt_44 : decode cX4_bigEndianToInt 44 = .ok (.iload_n 1, 1) := dk_27 (dk_at dksX4_bigEndianToInt_1 20 rfl rfl)
theorem dX4_bigEndianToInt_45 : decode cX4_bigEndianToInt 45 = .ok (.baload, 1) := dk_51 (dk_at dksX4_bigEndianToInt_1 21 rfl rfl)
theorem dX4_bigEndianToInt_46 : decode cX4_bigEndianToInt 46 = .ok (.sipush 255, 3) := dk_17 0 255 (dk_at dksX4_bigEndianToInt_2 0 rfl rfl)
theorem dX4_bigEndianToInt_49 : decode cX4_bigEndianToInt 49 = .ok (.iand, 1) := dk_126 (dk_at dksX4_bigEndianToInt_2 3 rfl rfl)
theorem dX4_bigEndianToInt_50 : decode cX4_bigEndianToInt 50 = .ok (.ior, 1) := dk_128 (dk_at dksX4_bigEndianToInt_2 4 rfl rfl)
theorem dX4_bigEndianToInt_51 : decode cX4_bigEndianToInt 51 = .ok (.istore_n 2, 1) := dk_61 (dk_at dksX4_bigEndianToInt_2 5 rfl rfl)
theorem dX4_bigEndianToInt_52 : decode cX4_bigEndianToInt 52 = .ok (.iload_n 2, 1) := dk_28 (dk_at dksX4_bigEndianToInt_2 6 rfl rfl)
theorem dX4_bigEndianToInt_53 : decode cX4_bigEndianToInt 53 = .ok (.ireturn, 1) := dk_172 (dk_at dksX4_bigEndianToInt_2 7 rfl rfl)
abbrev cX4_intToBigEndian : ByteArray := prog_6_method_3_code
def yX4_intToBigEndian : MethodName := ⟨RX4, "intToBigEndian", "(I[BI)V"⟩
def dkwX4_intToBigEndian_1 : List UInt8 := [26, 16, 8, 124, 145, 84, 43, 132, 2, 1, 28, 26, 145, 84, 177]
abbrev dktX4_intToBigEndian_1 : List UInt8 := dkwX4_intToBigEndian_1 ++ []
def dkwX4_intToBigEndian_0 : List UInt8 := [43, 28, 26, 16, 24, 124, 145, 84, 43, 132, 2, 1, 28, 26, 16, 16, 124, 145, 84, 43, 132, 2, 1, 28]
abbrev dktX4_intToBigEndian_0 : List UInt8 := dkwX4_intToBigEndian_0 ++ dktX4_intToBigEndian_1
theorem dksX4_intToBigEndian_0 : cX4_intToBigEndian.data.toList.drop 0 = dktX4_intToBigEndian_0 := by decide +kernel
theorem dksX4_intToBigEndian_1 : cX4_intToBigEndian.data.toList.drop 24 = dktX4_intToBigEndian_1 := dk_seg dksX4_intToBigEndian_0 24 rfl rfl
theorem dX4_intToBigEndian_0 : decode cX4_intToBigEndian 0 = .ok (.aload_n 1, 1) := dk_43 (dk_at dksX4_intToBigEndian_0 0 rfl rfl)
theorem dX4_intToBigEndian_1 : decode cX4_intToBigEndian 1 = .ok (.iload_n 2, 1) := dk_28 (dk_at dksX4_intToBigEndian_0 1 rfl rfl)
theorem dX4_intToBigEndian_2 : decode cX4_intToBigEndian 2 = .ok (.iload_n 0, 1) := dk_26 (dk_at dksX4_intToBigEndian_0 2 rfl rfl)
theorem dX4_intToBigEndian_3 : decode cX4_intToBigEndian 3 = .ok (.bipush 24, 2) := dk_16 24 (dk_at dksX4_intToBigEndian_0 3 rfl rfl)
theorem dX4_intToBigEndian_5 : decode cX4_intToBigEndian 5 = .ok (.iushr, 1) := dk_124 (dk_at dksX4_intToBigEndian_0 5 rfl rfl)
theorem dX4_intToBigEndian_6 : decode cX4_intToBigEndian 6 = .ok (.i2b, 1) := dk_145 (dk_at dksX4_intToBigEndian_0 6 rfl rfl)
theorem dX4_intToBigEndian_7 : decode cX4_intToBigEndian 7 = .ok (.bastore, 1) := dk_84 (dk_at dksX4_intToBigEndian_0 7 rfl rfl)
theorem dX4_intToBigEndian_8 : decode cX4_intToBigEndian 8 = .ok (.aload_n 1, 1) := dk_43 (dk_at dksX4_intToBigEndian_0 8 rfl rfl)
theorem dX4_intToBigEndian_9 : decode cX4_intToBigEndian 9 = .ok (.iinc 2 1, 3) := dk_132 2 1 (dk_at dksX4_intToBigEndian_0 9 rfl rfl)
theorem dX4_intToBigEndian_12 : decode cX4_intToBigEndian 12 = .ok (.iload_n 2, 1) := dk_28 (dk_at dksX4_intToBigEndian_0 12 rfl rfl)
theorem dX4_intToBigEndian_13 : decode cX4_intToBigEndian 13 = .ok (.iload_n 0, 1) := dk_26 (dk_at dksX4_intToBigEndian_0 13 rfl rfl)
theorem dX4_intToBigEndian_14 : decode cX4_intToBigEndian 14 = .ok (.bipush 16, 2) := dk_16 16 (dk_at dksX4_intToBigEndian_0 14 rfl rfl)
theorem dX4_intToBigEndian_16 : decode cX4_intToBigEndian 16 = .ok (.iushr, 1) := dk_124 (dk_at dksX4_intToBigEndian_0 16 rfl rfl)
theorem dX4_intToBigEndian_17 : decode cX4_intToBigEndian 17 = .ok (.i2b, 1) := dk_145 (dk_at dksX4_intToBigEndian_0 17 rfl rfl)
theorem dX4_intToBigEndian_18 : decode cX4_intToBigEndian 18 = .ok (.bastore, 1) := dk_84 (dk_at dksX4_intToBigEndian_0 18 rfl rfl)
theorem dX4_intToBigEndian_19 : decode cX4_intToBigEndian 19 = .ok (.aload_n 1, 1) := dk_43 (dk_at dksX4_intToBigEndian_0 19 rfl rfl)
theorem dX4_intToBigEndian_20 : decode cX4_intToBigEndian 20 = .ok (.iinc 2 1, 3) := dk_132 2 1 (dk_at dksX4_intToBigEndian_0 20 rfl rfl)
theorem dX4_intToBigEndian_23 : decode cX4_intToBigEndian 23 = .ok (.iload_n 2, 1) := dk_28 (dk_at dksX4_intToBigEndian_0 23 rfl rfl)
theorem dX4_intToBigEndian_24 : decode cX4_intToBigEndian 24 = .ok (.iload_n 0, 1) := dk_26 (dk_at dksX4_intToBigEndian_1 0 rfl rfl)
theorem dX4_intToBigEndian_25 : decode cX4_intToBigEndian 25 = .ok (.bipush 8, 2) := dk_16 8 (dk_at dksX4_intToBigEndian_1 1 rfl rfl)
theorem dX4_intToBigEndian_27 : decode cX4_intToBigEndian 27 = .ok (.iushr, 1) := dk_124 (dk_at dksX4_intToBigEndian_1 3 rfl rfl)
theorem dX4_intToBigEndian_28 : decode cX4_intToBigEndian 28 = .ok (.i2b, 1) := dk_145 (dk_at dksX4_intToBigEndian_1 4 rfl rfl)
theorem dX4_intToBigEndian_29 : decode cX4_intToBigEndian 29 = .ok (.bastore, 1) := dk_84 (dk_at dksX4_intToBigEndian_1 5 rfl rfl)
theorem dX4_intToBigEndian_30 : decode cX4_intToBigEndian 30 = .ok (.aload_n 1, 1) := dk_43 (dk_at dksX4_intToBigEndian_1 6 rfl rfl)
theorem dX4_intToBigEndian_31 : decode cX4_intToBigEndian 31 = .ok (.iinc 2 1, 3) := dk_132 2 1 (dk_at dksX4_intToBigEndian_1 7 rfl rfl)
theorem dX4_intToBigEndian_34 : decode cX4_intToBigEndian 34 = .ok (.iload_n 2, 1) := dk_28 (dk_at dksX4_intToBigEndian_1 10 rfl rfl)
theorem dX4_intToBigEndian_35 : decode cX4_intToBigEndian 35 = .ok (.iload_n 0, 1) := dk_26 (dk_at dksX4_intToBigEndian_1 11 rfl rfl)
theorem dX4_intToBigEndian_36 : decode cX4_intToBigEndian 36 = .ok (.i2b, 1) := dk_145 (dk_at dksX4_intToBigEndian_1 12 rfl rfl)
theorem dX4_intToBigEndian_37 : decode cX4_intToBigEndian 37 = .ok (.bastore, 1) := dk_84 (dk_at dksX4_intToBigEndian_1 13 rfl rfl)
theorem dX4_intToBigEndian_38 : decode cX4_intToBigEndian 38 = .ok (.return_, 1) := dk_177 (dk_at dksX4_intToBigEndian_1 14 rfl rfl)
theorem q22 : (Jvm.Cond.initialized "Pack") ∈ lw_all := lw_g (lw_at lw_m1 9 rfl) rfl
theorem q163 : (Jvm.Cond.static ({ cls := "Pack", name := "bigEndianToInt", desc := "([BI)I" } : Jvm.MethodName)) ∈ lw_all := lw_g (lw_at lw_m1 150 rfl) rfl
theorem q164 : (Jvm.Cond.code ({ cls := "Pack", name := "bigEndianToInt", desc := "([BI)I" } : Jvm.MethodName) prog_6_method_2_code (3 : Nat) (Option.some Jvm.ClassFile.FieldType.int)) ∈ lw_all := lw_g (lw_at lw_m1 151 rfl) rfl
theorem q275 : (Jvm.Cond.static ({ cls := "Pack", name := "intToBigEndian", desc := "(I[BI)V" } : Jvm.MethodName)) ∈ lw_all := lw_g (lw_at lw_m2 22 rfl) rfl
theorem q276 : (Jvm.Cond.code ({ cls := "Pack", name := "intToBigEndian", desc := "(I[BI)V" } : Jvm.MethodName) prog_6_method_3_code (3 : Nat) (Option.none : Option Jvm.ClassFile.FieldType)) ∈ lw_all := lw_g (lw_at lw_m2 23 rfl) rfl
/-! KeyParameter -/
set_option maxRecDepth 100000
def RX3 : String := "KeyParameter"
def TX3 : u_T := fun k => match k with
  | _ => ("KeyParameter", "key", "[B", false)
def tyX3 : Nat → FieldType := fun k => match k with
  | _ => .array .byte
abbrev wsX30 : List Cond := u_ws RX3 TX3 1
theorem nmX3 : ∀ a, a < 1 → ∀ b, b < 1 → a ≠ b → (TX3 a).2.1 ≠ (TX3 b).2.1 := by decide +kernel
theorem tyX3_ok : ∀ k, k < 1 → parseFieldDescriptor (TX3 k).2.2.1 = some (tyX3 k) := by decide +kernel
abbrev cX3_init : ByteArray := prog_4_method_1_code
def yX3_init : MethodName := ⟨RX3, "<init>", "([B)V"⟩
def dkwX3_init_0 : List UInt8 := [42, 43, 3, 43, 190, 183, 0, 1, 177]
abbrev dktX3_init_0 : List UInt8 := dkwX3_init_0 ++ []
theorem dksX3_init_0 : cX3_init.data.toList.drop 0 = dktX3_init_0 := by decide +kernel
theorem dX3_init_0 : decode cX3_init 0 = .ok (.aload_n 0, 1) := dk_42 (dk_at dksX3_init_0 0 rfl rfl)
theorem dX3_init_1 : decode cX3_init 1 = .ok (.aload_n 1, 1) := dk_43 (dk_at dksX3_init_0 1 rfl rfl)
theorem dX3_init_2 : decode cX3_init 2 = .ok (.iconst 0, 1) := dk_3 (dk_at dksX3_init_0 2 rfl rfl)
theorem dX3_init_3 : decode cX3_init 3 = .ok (.aload_n 1, 1) := dk_43 (dk_at dksX3_init_0 3 rfl rfl)
theorem dX3_init_4 : decode cX3_init 4 = .ok (.arraylength, 1) := dk_190 (dk_at dksX3_init_0 4 rfl rfl)
theorem dX3_init_5 : decode cX3_init 5 = .ok (.invokespecial 1, 3) := dk_183 0 1 (dk_at dksX3_init_0 5 rfl rfl)
theorem dX3_init_8 : decode cX3_init 8 = .ok (.return_, 1) := dk_177 (dk_at dksX3_init_0 8 rfl rfl)
abbrev cX3_init_2 : ByteArray := prog_4_method_2_code
def yX3_init_2 : MethodName := ⟨RX3, "<init>", "([BII)V"⟩
def dkwX3_init_2_0 : List UInt8 := [42, 29, 183, 0, 7, 43, 28, 42, 180, 0, 10, 3, 29, 184, 0, 14, 177]
abbrev dktX3_init_2_0 : List UInt8 := dkwX3_init_2_0 ++ []
theorem dksX3_init_2_0 : cX3_init_2.data.toList.drop 0 = dktX3_init_2_0 := by decide +kernel
theorem dX3_init_2_0 : decode cX3_init_2 0 = .ok (.aload_n 0, 1) := dk_42 (dk_at dksX3_init_2_0 0 rfl rfl)
theorem dX3_init_2_1 : decode cX3_init_2 1 = .ok (.iload_n 3, 1) := dk_29 (dk_at dksX3_init_2_0 1 rfl rfl)
theorem dX3_init_2_2 : decode cX3_init_2 2 = .ok (.invokespecial 7, 3) := dk_183 0 7 (dk_at dksX3_init_2_0 2 rfl rfl)
theorem dX3_init_2_5 : decode cX3_init_2 5 = .ok (.aload_n 1, 1) := dk_43 (dk_at dksX3_init_2_0 5 rfl rfl)
theorem dX3_init_2_6 : decode cX3_init_2 6 = .ok (.iload_n 2, 1) := dk_28 (dk_at dksX3_init_2_0 6 rfl rfl)
theorem dX3_init_2_7 : decode cX3_init_2 7 = .ok (.aload_n 0, 1) := dk_42 (dk_at dksX3_init_2_0 7 rfl rfl)
theorem dX3_init_2_8 : decode cX3_init_2 8 = .ok (.getfield 10, 3) := dk_180 0 10 (dk_at dksX3_init_2_0 8 rfl rfl)
theorem dX3_init_2_11 : decode cX3_init_2 11 = .ok (.iconst 0, 1) := dk_3 (dk_at dksX3_init_2_0 11 rfl rfl)
theorem dX3_init_2_12 : decode cX3_init_2 12 = .ok (.iload_n 3, 1) := dk_29 (dk_at dksX3_init_2_0 12 rfl rfl)
theorem dX3_init_2_13 : decode cX3_init_2 13 = .ok (.invokestatic 14, 3) := dk_184 0 14 (dk_at dksX3_init_2_0 13 rfl rfl)
theorem dX3_init_2_16 : decode cX3_init_2 16 = .ok (.return_, 1) := dk_177 (dk_at dksX3_init_2_0 16 rfl rfl)
abbrev cX3_init_3 : ByteArray := prog_4_method_3_code
def yX3_init_3 : MethodName := ⟨RX3, "<init>", "(I)V"⟩
def dkwX3_init_3_0 : List UInt8 := [42, 183, 0, 20, 42, 27, 188, 8, 181, 0, 10, 177]
abbrev dktX3_init_3_0 : List UInt8 := dkwX3_init_3_0 ++ []
theorem dksX3_init_3_0 : cX3_init_3.data.toList.drop 0 = dktX3_init_3_0 := by decide +kernel
theorem dX3_init_3_0 : decode cX3_init_3 0 = .ok (.aload_n 0, 1) := dk_42 (dk_at dksX3_init_3_0 0 rfl rfl)
theorem dX3_init_3_1 : decode cX3_init_3 1 = .ok (.invokespecial 20, 3) := dk_183 0 20 (dk_at dksX3_init_3_0 1 rfl rfl)
theorem dX3_init_3_4 : decode cX3_init_3 4 = .ok (.aload_n 0, 1) := dk_42 (dk_at dksX3_init_3_0 4 rfl rfl)
theorem dX3_init_3_5 : decode cX3_init_3 5 = .ok (.iload_n 1, 1) := dk_27 (dk_at dksX3_init_3_0 5 rfl rfl)
theorem dX3_init_3_6 : decode cX3_init_3 6 = .ok (.newarray .byte, 2) := dk_188_8 (dk_at dksX3_init_3_0 6 rfl rfl)
theorem dX3_init_3_8 : decode cX3_init_3 8 = .ok (.putfield 10, 3) := dk_181 0 10 (dk_at dksX3_init_3_0 8 rfl rfl)
theorem dX3_init_3_11 : decode cX3_init_3 11 = .ok (.return_, 1) := dk_177 (dk_at dksX3_init_3_0 11 rfl rfl)
abbrev cX3_getKey : ByteArray := prog_4_method_4_code
def yX3_getKey : MethodName := ⟨RX3, "getKey", "()[B"⟩
theorem dX3_getKey_0 : decode cX3_getKey 0 = .ok (.aload_n 0, 1) := by decide +kernel
theorem dX3_getKey_1 : decode cX3_getKey 1 = .ok (.getfield 10, 3) := by decide +kernel
theorem dX3_getKey_4 : decode cX3_getKey 4 = .ok (.areturn, 1) := by decide +kernel
theorem q16 : (Jvm.Cond.initialized "KeyParameter") ∈ lw_all := lw_g (lw_at lw_m1 3 rfl) rfl
theorem q57 : (Jvm.Cond.instantiable "KeyParameter" (1 : Nat)) ∈ lw_all := lw_g (lw_at lw_m1 44 rfl) rfl
theorem q59 : (Jvm.Cond.instanceMethod ({ cls := "KeyParameter", name := "<init>", desc := "([B)V" } : Jvm.MethodName)) ∈ lw_all := lw_g (lw_at lw_m1 46 rfl) rfl
theorem q60 : (Jvm.Cond.code ({ cls := "KeyParameter", name := "<init>", desc := "([B)V" } : Jvm.MethodName) prog_4_method_1_code (2 : Nat) (Option.none : Option Jvm.ClassFile.FieldType)) ∈ lw_all := lw_g (lw_at lw_m1 47 rfl) rfl
theorem q61 : (Jvm.Cond.methodLink "KeyParameter" (1 : Nat) ({ cls := "KeyParameter", name := "<init>", desc := "([BII)V" } : Jvm.MethodName)) ∈ lw_all := lw_g (lw_at lw_m1 48 rfl) rfl
theorem q62 : (Jvm.Cond.instanceMethod ({ cls := "KeyParameter", name := "<init>", desc := "([BII)V" } : Jvm.MethodName)) ∈ lw_all := lw_g (lw_at lw_m1 49 rfl) rfl
theorem q63 : (Jvm.Cond.code ({ cls := "KeyParameter", name := "<init>", desc := "([BII)V" } : Jvm.MethodName) prog_4_method_2_code (4 : Nat) (Option.none : Option Jvm.ClassFile.FieldType)) ∈ lw_all := lw_g (lw_at lw_m1 50 rfl) rfl
theorem q64 : (Jvm.Cond.methodLink "KeyParameter" (7 : Nat) ({ cls := "KeyParameter", name := "<init>", desc := "(I)V" } : Jvm.MethodName)) ∈ lw_all := lw_g (lw_at lw_m1 51 rfl) rfl
theorem q65 : (Jvm.Cond.instanceMethod ({ cls := "KeyParameter", name := "<init>", desc := "(I)V" } : Jvm.MethodName)) ∈ lw_all := lw_g (lw_at lw_m1 52 rfl) rfl
theorem q66 : (Jvm.Cond.code ({ cls := "KeyParameter", name := "<init>", desc := "(I)V" } : Jvm.MethodName) prog_4_method_3_code (2 : Nat) (Option.none : Option Jvm.ClassFile.FieldType)) ∈ lw_all := lw_g (lw_at lw_m1 53 rfl) rfl
theorem q67 : (Jvm.Cond.methodLink "KeyParameter" (20 : Nat) ({ cls := "java/lang/Object", name := "<init>", desc := "()V" } : Jvm.MethodName)) ∈ lw_all := lw_g (lw_at lw_m1 54 rfl) rfl
theorem q68 : (Jvm.Cond.fieldLink "KeyParameter" (10 : Nat) "KeyParameter" "key" "[B") ∈ lw_all := lw_g (lw_at lw_m1 55 rfl) rfl
theorem q69 : (Jvm.Cond.lays "KeyParameter" "KeyParameter" "key" "[B") ∈ lw_all := lw_g (lw_at lw_m1 56 rfl) rfl
theorem q70 : (Jvm.Cond.soleField "KeyParameter" "key") ∈ lw_all := lw_g (lw_at lw_m1 57 rfl) rfl
theorem q71 : (Jvm.Cond.superclass "KeyParameter" "java/lang/Object") ∈ lw_all := lw_g (lw_at lw_m1 58 rfl) rfl
theorem q72 : (Jvm.Cond.methodLink "KeyParameter" (14 : Nat) ({ cls := "java/lang/System", name := "arraycopy", desc := "(Ljava/lang/Object;ILjava/lang/Object;II)V" } : Jvm.MethodName)) ∈ lw_all := lw_g (lw_at lw_m1 59 rfl) rfl
theorem q87 : (Jvm.Cond.instanceMethod ({ cls := "KeyParameter", name := "getKey", desc := "()[B" } : Jvm.MethodName)) ∈ lw_all := lw_g (lw_at lw_m1 74 rfl) rfl
theorem q88 : (Jvm.Cond.selects "KeyParameter" ({ cls := "KeyParameter", name := "getKey", desc := "()[B" } : Jvm.MethodName) ({ cls := "KeyParameter", name := "getKey", desc := "()[B" } : Jvm.MethodName)) ∈ lw_all := lw_g (lw_at lw_m1 75 rfl) rfl
theorem q89 : (Jvm.Cond.code ({ cls := "KeyParameter", name := "getKey", desc := "()[B" } : Jvm.MethodName) prog_4_method_4_code (1 : Nat) (Option.some (Jvm.ClassFile.FieldType.array Jvm.ClassFile.FieldType.byte))) ∈ lw_all := lw_g (lw_at lw_m1 76 rfl) rfl
theorem in_X3 : ∀ w ∈ wsX30, w ∈ lw_all := lw_in wsX30 [69] (by decide +kernel) (by decide +kernel)
/-! SmFourDesk -/
set_option maxRecDepth 100000
def RX1 : String := "SmFourDesk"
def TX1 : u_T := fun k => match k with
  | 0 => ("SmFourDesk", "key", "[B", true)
  | 1 => ("SmFourDesk", "block", "[B", true)
  | _ => ("SmFourDesk", "out", "[B", true)
def tyX1 : Nat → FieldType := fun k => match k with
  | 0 => .array .byte
  | 1 => .array .byte
  | _ => .array .byte
abbrev wsX10 : List Cond := u_ws RX1 TX1 3
theorem nmX1 : ∀ a, a < 3 → ∀ b, b < 3 → a ≠ b → (TX1 a).2.1 ≠ (TX1 b).2.1 := by decide +kernel
theorem tyX1_ok : ∀ k, k < 3 → parseFieldDescriptor (TX1 k).2.2.1 = some (tyX1 k) := by decide +kernel
abbrev cX1_lock : ByteArray := prog_9_method_7_code
def yX1_lock : MethodName := ⟨RX1, "lock", "(I)V"⟩
def dkwX1_lock_0 : List UInt8 := [42, 4, 27, 182, 0, 45, 177]
abbrev dktX1_lock_0 : List UInt8 := dkwX1_lock_0 ++ []
theorem dksX1_lock_0 : cX1_lock.data.toList.drop 0 = dktX1_lock_0 := by decide +kernel
theorem dX1_lock_0 : decode cX1_lock 0 = .ok (.aload_n 0, 1) := dk_42 (dk_at dksX1_lock_0 0 rfl rfl)
theorem dX1_lock_1 : decode cX1_lock 1 = .ok (.iconst 1, 1) := dk_4 (dk_at dksX1_lock_0 1 rfl rfl)
theorem dX1_lock_2 : decode cX1_lock 2 = .ok (.iload_n 1, 1) := dk_27 (dk_at dksX1_lock_0 2 rfl rfl)
theorem dX1_lock_3 : decode cX1_lock 3 = .ok (.invokevirtual 45, 3) := dk_182 0 45 (dk_at dksX1_lock_0 3 rfl rfl)
theorem dX1_lock_6 : decode cX1_lock 6 = .ok (.return_, 1) := dk_177 (dk_at dksX1_lock_0 6 rfl rfl)
abbrev cX1_run : ByteArray := prog_9_method_5_code
def yX1_run : MethodName := ⟨RX1, "run", "(ZI)V"⟩
def dkwX1_run_3 : List UInt8 := [180, 0, 13, 3, 42, 180, 0, 16, 3, 185, 0, 41, 5, 0, 87, 177]
abbrev dktX1_run_3 : List UInt8 := dkwX1_run_3 ++ []
def dkwX1_run_2 : List UInt8 := [58, 5, 25, 5, 27, 187, 0, 30, 89, 25, 4, 183, 0, 32, 185, 0, 35, 3, 0, 25, 5, 42]
abbrev dktX1_run_2 : List UInt8 := dkwX1_run_2 ++ dktX1_run_3
def dkwX1_run_1 : List UInt8 := [21, 5, 42, 180, 0, 7, 21, 5, 51, 84, 132, 5, 1, 167, 255, 235, 187, 0, 27, 89, 183, 0, 29]
abbrev dktX1_run_1 : List UInt8 := dkwX1_run_1 ++ dktX1_run_2
def dkwX1_run_0 : List UInt8 := [28, 6, 126, 184, 0, 23, 62, 29, 188, 8, 58, 4, 3, 54, 5, 21, 5, 29, 162, 0, 21, 25, 4]
abbrev dktX1_run_0 : List UInt8 := dkwX1_run_0 ++ dktX1_run_1
theorem dksX1_run_0 : cX1_run.data.toList.drop 0 = dktX1_run_0 := by decide +kernel
theorem dksX1_run_1 : cX1_run.data.toList.drop 23 = dktX1_run_1 := dk_seg dksX1_run_0 23 rfl rfl
theorem dksX1_run_2 : cX1_run.data.toList.drop 46 = dktX1_run_2 := dk_seg dksX1_run_1 23 rfl rfl
theorem dksX1_run_3 : cX1_run.data.toList.drop 68 = dktX1_run_3 := dk_seg dksX1_run_2 22 rfl rfl
theorem dX1_run_0 : decode cX1_run 0 = .ok (.iload_n 2, 1) := dk_28 (dk_at dksX1_run_0 0 rfl rfl)
theorem dX1_run_1 : decode cX1_run 1 = .ok (.iconst 3, 1) := dk_6 (dk_at dksX1_run_0 1 rfl rfl)
theorem dX1_run_2 : decode cX1_run 2 = .ok (.iand, 1) := dk_126 (dk_at dksX1_run_0 2 rfl rfl)
theorem dX1_run_3 : decode cX1_run 3 = .ok (.invokestatic 23, 3) := dk_184 0 23 (dk_at dksX1_run_0 3 rfl rfl)
theorem dX1_run_6 : decode cX1_run 6 = .ok (.istore_n 3, 1) := dk_62 (dk_at dksX1_run_0 6 rfl rfl)
theorem dX1_run_7 : decode cX1_run 7 = .ok (.iload_n 3, 1) := dk_29 (dk_at dksX1_run_0 7 rfl rfl)
theorem dX1_run_8 : decode cX1_run 8 = .ok (.newarray .byte, 2) := dk_188_8 (dk_at dksX1_run_0 8 rfl rfl)
theorem dX1_run_10 : decode cX1_run 10 = .ok (.astore 4, 2) := dk_58 4 (dk_at dksX1_run_0 10 rfl rfl)
theorem dX1_run_12 : decode cX1_run 12 = .ok (.iconst 0, 1) := dk_3 (dk_at dksX1_run_0 12 rfl rfl)
theorem dX1_run_13 : decode cX1_run 13 = .ok (.istore 5, 2) := dk_54 5 (dk_at dksX1_run_0 13 rfl rfl)
theorem dX1_run_15 : decode cX1_run 15 = .ok (.iload 5, 2) := dk_21 5 (dk_at dksX1_run_0 15 rfl rfl)
theorem dX1_run_17 : decode cX1_run 17 = .ok (.iload_n 3, 1) := dk_29 (dk_at dksX1_run_0 17 rfl rfl)
theorem dX1_run_18 : decode cX1_run 18 = .ok (.if_icmp .ge 21, 3) := dk_162 0 21 (dk_at dksX1_run_0 18 rfl rfl)
theorem dX1_run_21 : decode cX1_run 21 = .ok (.aload 4, 2) := dk_25 4 (dk_at dksX1_run_0 21 rfl rfl)
theorem dX1_run_23 : decode cX1_run 23 = .ok (.iload 5, 2) := dk_21 5 (dk_at dksX1_run_1 0 rfl rfl)
theorem dX1_run_25 : decode cX1_run 25 = .ok (.aload_n 0, 1) := dk_42 (dk_at dksX1_run_1 2 rfl rfl)
theorem dX1_run_26 : decode cX1_run 26 = .ok (.getfield 7, 3) := dk_180 0 7 (dk_at dksX1_run_1 3 rfl rfl)
theorem dX1_run_29 : decode cX1_run 29 = .ok (.iload 5, 2) := dk_21 5 (dk_at dksX1_run_1 6 rfl rfl)
theorem dX1_run_31 : decode cX1_run 31 = .ok (.baload, 1) := dk_51 (dk_at dksX1_run_1 8 rfl rfl)
theorem dX1_run_32 : decode cX1_run 32 = .ok (.bastore, 1) := dk_84 (dk_at dksX1_run_1 9 rfl rfl)
theorem dX1_run_33 : decode cX1_run 33 = .ok (.iinc 5 1, 3) := dk_132 5 1 (dk_at dksX1_run_1 10 rfl rfl)
theorem dX1_run_36 : decode cX1_run 36 = .ok (.goto (-21), 3) := dk_167 255 235 (dk_at dksX1_run_1 13 rfl rfl)
theorem dX1_run_39 : decode cX1_run 39 = .ok (.new 27, 3) := dk_187 0 27 (dk_at dksX1_run_1 16 rfl rfl)
theorem dX1_run_42 : decode cX1_run 42 = .ok (.dup, 1) := dk_89 (dk_at dksX1_run_1 19 rfl rfl)
theorem dX1_run_43 : decode cX1_run 43 = .ok (.invokespecial 29, 3) := dk_183 0 29 (dk_at dksX1_run_1 20 rfl rfl)
theorem dX1_run_46 : decode cX1_run 46 = .ok (.astore 5, 2) := dk_58 5 (dk_at dksX1_run_2 0 rfl rfl)
theorem dX1_run_48 : decode cX1_run 48 = .ok (.aload 5, 2) := dk_25 5 (dk_at dksX1_run_2 2 rfl rfl)
theorem dX1_run_50 : decode cX1_run 50 = .ok (.iload_n 1, 1) := dk_27 (dk_at dksX1_run_2 4 rfl rfl)
theorem dX1_run_51 : decode cX1_run 51 = .ok (.new 30, 3) := dk_187 0 30 (dk_at dksX1_run_2 5 rfl rfl)
theorem dX1_run_54 : decode cX1_run 54 = .ok (.dup, 1) := dk_89 (dk_at dksX1_run_2 8 rfl rfl)
theorem dX1_run_55 : decode cX1_run 55 = .ok (.aload 4, 2) := dk_25 4 (dk_at dksX1_run_2 9 rfl rfl)
theorem dX1_run_57 : decode cX1_run 57 = .ok (.invokespecial 32, 3) := dk_183 0 32 (dk_at dksX1_run_2 11 rfl rfl)
theorem dX1_run_60 : decode cX1_run 60 = .ok (.invokeinterface 35 3, 5) := by decide +kernel
theorem dX1_run_65 : decode cX1_run 65 = .ok (.aload 5, 2) := dk_25 5 (dk_at dksX1_run_2 19 rfl rfl)
theorem dX1_run_67 : decode cX1_run 67 = .ok (.aload_n 0, 1) := dk_42 (dk_at dksX1_run_2 21 rfl rfl)
theorem dX1_run_68 : decode cX1_run 68 = .ok (.getfield 13, 3) := dk_180 0 13 (dk_at dksX1_run_3 0 rfl rfl)
theorem dX1_run_71 : decode cX1_run 71 = .ok (.iconst 0, 1) := dk_3 (dk_at dksX1_run_3 3 rfl rfl)
theorem dX1_run_72 : decode cX1_run 72 = .ok (.aload_n 0, 1) := dk_42 (dk_at dksX1_run_3 4 rfl rfl)
theorem dX1_run_73 : decode cX1_run 73 = .ok (.getfield 16, 3) := dk_180 0 16 (dk_at dksX1_run_3 5 rfl rfl)
theorem dX1_run_76 : decode cX1_run 76 = .ok (.iconst 0, 1) := dk_3 (dk_at dksX1_run_3 8 rfl rfl)
theorem dX1_run_77 : decode cX1_run 77 = .ok (.invokeinterface 41 5, 5) := by decide +kernel
theorem dX1_run_82 : decode cX1_run 82 = .ok (.pop, 1) := dk_87 (dk_at dksX1_run_3 14 rfl rfl)
theorem dX1_run_83 : decode cX1_run 83 = .ok (.return_, 1) := dk_177 (dk_at dksX1_run_3 15 rfl rfl)
abbrev cX1_size : ByteArray := prog_9_method_6_code
def yX1_size : MethodName := ⟨RX1, "size", "(I)I"⟩
theorem dX1_size_0 : decode cX1_size 0 = .ok (.bipush 16, 2) := by decide +kernel
theorem dX1_size_2 : decode cX1_size 2 = .ok (.ireturn, 1) := by decide +kernel
abbrev cX1_open : ByteArray := prog_9_method_8_code
def yX1_open : MethodName := ⟨RX1, "open", "(I)V"⟩
def dkwX1_open_0 : List UInt8 := [42, 3, 27, 182, 0, 45, 177]
abbrev dktX1_open_0 : List UInt8 := dkwX1_open_0 ++ []
theorem dksX1_open_0 : cX1_open.data.toList.drop 0 = dktX1_open_0 := by decide +kernel
theorem dX1_open_0 : decode cX1_open 0 = .ok (.aload_n 0, 1) := dk_42 (dk_at dksX1_open_0 0 rfl rfl)
theorem dX1_open_1 : decode cX1_open 1 = .ok (.iconst 0, 1) := dk_3 (dk_at dksX1_open_0 1 rfl rfl)
theorem dX1_open_2 : decode cX1_open 2 = .ok (.iload_n 1, 1) := dk_27 (dk_at dksX1_open_0 2 rfl rfl)
theorem dX1_open_3 : decode cX1_open 3 = .ok (.invokevirtual 45, 3) := dk_182 0 45 (dk_at dksX1_open_0 3 rfl rfl)
theorem dX1_open_6 : decode cX1_open 6 = .ok (.return_, 1) := dk_177 (dk_at dksX1_open_0 6 rfl rfl)
abbrev cX1_again : ByteArray := prog_9_method_9_code
def yX1_again : MethodName := ⟨RX1, "again", "()V"⟩
def dkwX1_again_1 : List UInt8 := [167, 255, 235, 177]
abbrev dktX1_again_1 : List UInt8 := dkwX1_again_1 ++ []
def dkwX1_again_0 : List UInt8 := [3, 60, 27, 16, 16, 162, 0, 21, 42, 180, 0, 13, 27, 42, 180, 0, 16, 27, 51, 84, 132, 1, 1]
abbrev dktX1_again_0 : List UInt8 := dkwX1_again_0 ++ dktX1_again_1
theorem dksX1_again_0 : cX1_again.data.toList.drop 0 = dktX1_again_0 := by decide +kernel
theorem dksX1_again_1 : cX1_again.data.toList.drop 23 = dktX1_again_1 := dk_seg dksX1_again_0 23 rfl rfl
theorem dX1_again_0 : decode cX1_again 0 = .ok (.iconst 0, 1) := dk_3 (dk_at dksX1_again_0 0 rfl rfl)
theorem dX1_again_1 : decode cX1_again 1 = .ok (.istore_n 1, 1) := dk_60 (dk_at dksX1_again_0 1 rfl rfl)
theorem dX1_again_2 : decode cX1_again 2 = .ok (.iload_n 1, 1) := dk_27 (dk_at dksX1_again_0 2 rfl rfl)
theorem dX1_again_3 : decode cX1_again 3 = .ok (.bipush 16, 2) := dk_16 16 (dk_at dksX1_again_0 3 rfl rfl)
theorem dX1_again_5 : decode cX1_again 5 = .ok (.if_icmp .ge 21, 3) := dk_162 0 21 (dk_at dksX1_again_0 5 rfl rfl)
theorem dX1_again_8 : decode cX1_again 8 = .ok (.aload_n 0, 1) := dk_42 (dk_at dksX1_again_0 8 rfl rfl)
theorem dX1_again_9 : decode cX1_again 9 = .ok (.getfield 13, 3) := dk_180 0 13 (dk_at dksX1_again_0 9 rfl rfl)
theorem dX1_again_12 : decode cX1_again 12 = .ok (.iload_n 1, 1) := dk_27 (dk_at dksX1_again_0 12 rfl rfl)
theorem dX1_again_13 : decode cX1_again 13 = .ok (.aload_n 0, 1) := dk_42 (dk_at dksX1_again_0 13 rfl rfl)
theorem dX1_again_14 : decode cX1_again 14 = .ok (.getfield 16, 3) := dk_180 0 16 (dk_at dksX1_again_0 14 rfl rfl)
theorem dX1_again_17 : decode cX1_again 17 = .ok (.iload_n 1, 1) := dk_27 (dk_at dksX1_again_0 17 rfl rfl)
theorem dX1_again_18 : decode cX1_again 18 = .ok (.baload, 1) := dk_51 (dk_at dksX1_again_0 18 rfl rfl)
theorem dX1_again_19 : decode cX1_again 19 = .ok (.bastore, 1) := dk_84 (dk_at dksX1_again_0 19 rfl rfl)
theorem dX1_again_20 : decode cX1_again 20 = .ok (.iinc 1 1, 3) := dk_132 1 1 (dk_at dksX1_again_0 20 rfl rfl)
theorem dX1_again_23 : decode cX1_again 23 = .ok (.goto (-21), 3) := dk_167 255 235 (dk_at dksX1_again_1 0 rfl rfl)
theorem dX1_again_26 : decode cX1_again 26 = .ok (.return_, 1) := dk_177 (dk_at dksX1_again_1 3 rfl rfl)
abbrev cX1_init : ByteArray := prog_9_method_1_code
def yX1_init : MethodName := ⟨RX1, "<init>", "()V"⟩
def dkwX1_init_1 : List UInt8 := [188, 8, 181, 0, 16, 177]
abbrev dktX1_init_1 : List UInt8 := dkwX1_init_1 ++ []
def dkwX1_init_0 : List UInt8 := [42, 183, 0, 1, 42, 16, 32, 188, 8, 181, 0, 7, 42, 16, 16, 188, 8, 181, 0, 13, 42, 16, 16]
abbrev dktX1_init_0 : List UInt8 := dkwX1_init_0 ++ dktX1_init_1
theorem dksX1_init_0 : cX1_init.data.toList.drop 0 = dktX1_init_0 := by decide +kernel
theorem dksX1_init_1 : cX1_init.data.toList.drop 23 = dktX1_init_1 := dk_seg dksX1_init_0 23 rfl rfl
theorem dX1_init_0 : decode cX1_init 0 = .ok (.aload_n 0, 1) := dk_42 (dk_at dksX1_init_0 0 rfl rfl)
theorem dX1_init_1 : decode cX1_init 1 = .ok (.invokespecial 1, 3) := dk_183 0 1 (dk_at dksX1_init_0 1 rfl rfl)
theorem dX1_init_4 : decode cX1_init 4 = .ok (.aload_n 0, 1) := dk_42 (dk_at dksX1_init_0 4 rfl rfl)
theorem dX1_init_5 : decode cX1_init 5 = .ok (.bipush 32, 2) := dk_16 32 (dk_at dksX1_init_0 5 rfl rfl)
theorem dX1_init_7 : decode cX1_init 7 = .ok (.newarray .byte, 2) := dk_188_8 (dk_at dksX1_init_0 7 rfl rfl)
theorem dX1_init_9 : decode cX1_init 9 = .ok (.putfield 7, 3) := dk_181 0 7 (dk_at dksX1_init_0 9 rfl rfl)
theorem dX1_init_12 : decode cX1_init 12 = .ok (.aload_n 0, 1) := dk_42 (dk_at dksX1_init_0 12 rfl rfl)
theorem dX1_init_13 : decode cX1_init 13 = .ok (.bipush 16, 2) := dk_16 16 (dk_at dksX1_init_0 13 rfl rfl)
theorem dX1_init_15 : decode cX1_init 15 = .ok (.newarray .byte, 2) := dk_188_8 (dk_at dksX1_init_0 15 rfl rfl)
theorem dX1_init_17 : decode cX1_init 17 = .ok (.putfield 13, 3) := dk_181 0 13 (dk_at dksX1_init_0 17 rfl rfl)
theorem dX1_init_20 : decode cX1_init 20 = .ok (.aload_n 0, 1) := dk_42 (dk_at dksX1_init_0 20 rfl rfl)
theorem dX1_init_21 : decode cX1_init 21 = .ok (.bipush 16, 2) := dk_16 16 (dk_at dksX1_init_0 21 rfl rfl)
theorem dX1_init_23 : decode cX1_init 23 = .ok (.newarray .byte, 2) := dk_188_8 (dk_at dksX1_init_1 0 rfl rfl)
theorem dX1_init_25 : decode cX1_init 25 = .ok (.putfield 16, 3) := dk_181 0 16 (dk_at dksX1_init_1 2 rfl rfl)
theorem dX1_init_28 : decode cX1_init 28 = .ok (.return_, 1) := dk_177 (dk_at dksX1_init_1 5 rfl rfl)
abbrev cX1_key : ByteArray := prog_9_method_3_code
def yX1_key : MethodName := ⟨RX1, "key", "(IIIII)V"⟩
def dkwX1_key_2 : List UInt8 := [21, 6, 16, 12, 96, 21, 5, 184, 0, 19, 177]
abbrev dktX1_key_2 : List UInt8 := dkwX1_key_2 ++ []
def dkwX1_key_1 : List UInt8 := [96, 29, 184, 0, 19, 42, 180, 0, 7, 21, 6, 16, 8, 96, 21, 4, 184, 0, 19, 42, 180, 0, 7]
abbrev dktX1_key_1 : List UInt8 := dkwX1_key_1 ++ dktX1_key_2
def dkwX1_key_0 : List UInt8 := [27, 4, 126, 7, 120, 54, 6, 42, 180, 0, 7, 21, 6, 28, 184, 0, 19, 42, 180, 0, 7, 21, 6, 7]
abbrev dktX1_key_0 : List UInt8 := dkwX1_key_0 ++ dktX1_key_1
theorem dksX1_key_0 : cX1_key.data.toList.drop 0 = dktX1_key_0 := by decide +kernel
theorem dksX1_key_1 : cX1_key.data.toList.drop 24 = dktX1_key_1 := dk_seg dksX1_key_0 24 rfl rfl
theorem dksX1_key_2 : cX1_key.data.toList.drop 47 = dktX1_key_2 := dk_seg dksX1_key_1 23 rfl rfl
theorem dX1_key_0 : decode cX1_key 0 = .ok (.iload_n 1, 1) := dk_27 (dk_at dksX1_key_0 0 rfl rfl)
theorem dX1_key_1 : decode cX1_key 1 = .ok (.iconst 1, 1) := dk_4 (dk_at dksX1_key_0 1 rfl rfl)
theorem dX1_key_2 : decode cX1_key 2 = .ok (.iand, 1) := dk_126 (dk_at dksX1_key_0 2 rfl rfl)
theorem dX1_key_3 : decode cX1_key 3 = .ok (.iconst 4, 1) := dk_7 (dk_at dksX1_key_0 3 rfl rfl)
theorem dX1_key_4 : decode cX1_key 4 = .ok (.ishl, 1) := dk_120 (dk_at dksX1_key_0 4 rfl rfl)
theorem dX1_key_5 : decode cX1_key 5 = .ok (.istore 6, 2) := dk_54 6 (dk_at dksX1_key_0 5 rfl rfl)
theorem dX1_key_7 : decode cX1_key 7 = .ok (.aload_n 0, 1) := dk_42 (dk_at dksX1_key_0 7 rfl rfl)
theorem dX1_key_8 : decode cX1_key 8 = .ok (.getfield 7, 3) := dk_180 0 7 (dk_at dksX1_key_0 8 rfl rfl)
theorem dX1_key_11 : decode cX1_key 11 = .ok (.iload 6, 2) := dk_21 6 (dk_at dksX1_key_0 11 rfl rfl)
theorem dX1_key_13 : decode cX1_key 13 = .ok (.iload_n 2, 1) := dk_28 (dk_at dksX1_key_0 13 rfl rfl)
theorem dX1_key_14 : decode cX1_key 14 = .ok (.invokestatic 19, 3) := dk_184 0 19 (dk_at dksX1_key_0 14 rfl rfl)
theorem dX1_key_17 : decode cX1_key 17 = .ok (.aload_n 0, 1) := dk_42 (dk_at dksX1_key_0 17 rfl rfl)
theorem dX1_key_18 : decode cX1_key 18 = .ok (.getfield 7, 3) := dk_180 0 7 (dk_at dksX1_key_0 18 rfl rfl)
theorem dX1_key_21 : decode cX1_key 21 = .ok (.iload 6, 2) := dk_21 6 (dk_at dksX1_key_0 21 rfl rfl)
theorem dX1_key_23 : decode cX1_key 23 = .ok (.iconst 4, 1) := dk_7 (dk_at dksX1_key_0 23 rfl rfl)
theorem dX1_key_24 : decode cX1_key 24 = .ok (.iadd, 1) := dk_96 (dk_at dksX1_key_1 0 rfl rfl)
theorem dX1_key_25 : decode cX1_key 25 = .ok (.iload_n 3, 1) := dk_29 (dk_at dksX1_key_1 1 rfl rfl)
theorem dX1_key_26 : decode cX1_key 26 = .ok (.invokestatic 19, 3) := dk_184 0 19 (dk_at dksX1_key_1 2 rfl rfl)
theorem dX1_key_29 : decode cX1_key 29 = .ok (.aload_n 0, 1) := dk_42 (dk_at dksX1_key_1 5 rfl rfl)
theorem dX1_key_30 : decode cX1_key 30 = .ok (.getfield 7, 3) := dk_180 0 7 (dk_at dksX1_key_1 6 rfl rfl)
theorem dX1_key_33 : decode cX1_key 33 = .ok (.iload 6, 2) := dk_21 6 (dk_at dksX1_key_1 9 rfl rfl)
theorem dX1_key_35 : decode cX1_key 35 = .ok (.bipush 8, 2) := dk_16 8 (dk_at dksX1_key_1 11 rfl rfl)
theorem dX1_key_37 : decode cX1_key 37 = .ok (.iadd, 1) := dk_96 (dk_at dksX1_key_1 13 rfl rfl)
theorem dX1_key_38 : decode cX1_key 38 = .ok (.iload 4, 2) := dk_21 4 (dk_at dksX1_key_1 14 rfl rfl)
theorem dX1_key_40 : decode cX1_key 40 = .ok (.invokestatic 19, 3) := dk_184 0 19 (dk_at dksX1_key_1 16 rfl rfl)
theorem dX1_key_43 : decode cX1_key 43 = .ok (.aload_n 0, 1) := dk_42 (dk_at dksX1_key_1 19 rfl rfl)
theorem dX1_key_44 : decode cX1_key 44 = .ok (.getfield 7, 3) := dk_180 0 7 (dk_at dksX1_key_1 20 rfl rfl)
theorem dX1_key_47 : decode cX1_key 47 = .ok (.iload 6, 2) := dk_21 6 (dk_at dksX1_key_2 0 rfl rfl)
theorem dX1_key_49 : decode cX1_key 49 = .ok (.bipush 12, 2) := dk_16 12 (dk_at dksX1_key_2 2 rfl rfl)
theorem dX1_key_51 : decode cX1_key 51 = .ok (.iadd, 1) := dk_96 (dk_at dksX1_key_2 4 rfl rfl)
theorem dX1_key_52 : decode cX1_key 52 = .ok (.iload 5, 2) := dk_21 5 (dk_at dksX1_key_2 5 rfl rfl)
theorem dX1_key_54 : decode cX1_key 54 = .ok (.invokestatic 19, 3) := dk_184 0 19 (dk_at dksX1_key_2 7 rfl rfl)
theorem dX1_key_57 : decode cX1_key 57 = .ok (.return_, 1) := dk_177 (dk_at dksX1_key_2 10 rfl rfl)
abbrev cX1_word : ByteArray := prog_9_method_2_code
def yX1_word : MethodName := ⟨RX1, "word", "([BII)V"⟩
def dkwX1_word_1 : List UInt8 := [16, 8, 122, 145, 84, 42, 27, 6, 96, 28, 145, 84, 177]
abbrev dktX1_word_1 : List UInt8 := dkwX1_word_1 ++ []
def dkwX1_word_0 : List UInt8 := [42, 27, 28, 16, 24, 122, 145, 84, 42, 27, 4, 96, 28, 16, 16, 122, 145, 84, 42, 27, 5, 96, 28]
abbrev dktX1_word_0 : List UInt8 := dkwX1_word_0 ++ dktX1_word_1
theorem dksX1_word_0 : cX1_word.data.toList.drop 0 = dktX1_word_0 := by decide +kernel
theorem dksX1_word_1 : cX1_word.data.toList.drop 23 = dktX1_word_1 := dk_seg dksX1_word_0 23 rfl rfl
theorem dX1_word_0 : decode cX1_word 0 = .ok (.aload_n 0, 1) := dk_42 (dk_at dksX1_word_0 0 rfl rfl)
theorem dX1_word_1 : decode cX1_word 1 = .ok (.iload_n 1, 1) := dk_27 (dk_at dksX1_word_0 1 rfl rfl)
theorem dX1_word_2 : decode cX1_word 2 = .ok (.iload_n 2, 1) := dk_28 (dk_at dksX1_word_0 2 rfl rfl)
theorem dX1_word_3 : decode cX1_word 3 = .ok (.bipush 24, 2) := dk_16 24 (dk_at dksX1_word_0 3 rfl rfl)
theorem dX1_word_5 : decode cX1_word 5 = .ok (.ishr, 1) := dk_122 (dk_at dksX1_word_0 5 rfl rfl)
theorem dX1_word_6 : decode cX1_word 6 = .ok (.i2b, 1) := dk_145 (dk_at dksX1_word_0 6 rfl rfl)
theorem dX1_word_7 : decode cX1_word 7 = .ok (.bastore, 1) := dk_84 (dk_at dksX1_word_0 7 rfl rfl)
theorem dX1_word_8 : decode cX1_word 8 = .ok (.aload_n 0, 1) := dk_42 (dk_at dksX1_word_0 8 rfl rfl)
theorem dX1_word_9 : decode cX1_word 9 = .ok (.iload_n 1, 1) := dk_27 (dk_at dksX1_word_0 9 rfl rfl)
theorem dX1_word_10 : decode cX1_word 10 = .ok (.iconst 1, 1) := dk_4 (dk_at dksX1_word_0 10 rfl rfl)
theorem dX1_word_11 : decode cX1_word 11 = .ok (.iadd, 1) := dk_96 (dk_at dksX1_word_0 11 rfl rfl)
theorem dX1_word_12 : decode cX1_word 12 = .ok (.iload_n 2, 1) := dk_28 (dk_at dksX1_word_0 12 rfl rfl)
theorem dX1_word_13 : decode cX1_word 13 = .ok (.bipush 16, 2) := dk_16 16 (dk_at dksX1_word_0 13 rfl rfl)
theorem dX1_word_15 : decode cX1_word 15 = .ok (.ishr, 1) := dk_122 (dk_at dksX1_word_0 15 rfl rfl)
theorem dX1_word_16 : decode cX1_word 16 = .ok (.i2b, 1) := dk_145 (dk_at dksX1_word_0 16 rfl rfl)
theorem dX1_word_17 : decode cX1_word 17 = .ok (.bastore, 1) := dk_84 (dk_at dksX1_word_0 17 rfl rfl)
theorem dX1_word_18 : decode cX1_word 18 = .ok (.aload_n 0, 1) := dk_42 (dk_at dksX1_word_0 18 rfl rfl)
theorem dX1_word_19 : decode cX1_word 19 = .ok (.iload_n 1, 1) := dk_27 (dk_at dksX1_word_0 19 rfl rfl)
theorem dX1_word_20 : decode cX1_word 20 = .ok (.iconst 2, 1) := dk_5 (dk_at dksX1_word_0 20 rfl rfl)
theorem dX1_word_21 : decode cX1_word 21 = .ok (.iadd, 1) := dk_96 (dk_at dksX1_word_0 21 rfl rfl)
theorem dX1_word_22 : decode cX1_word 22 = .ok (.iload_n 2, 1) := dk_28 (dk_at dksX1_word_0 22 rfl rfl)
theorem dX1_word_23 : decode cX1_word 23 = .ok (.bipush 8, 2) := dk_16 8 (dk_at dksX1_word_1 0 rfl rfl)
theorem dX1_word_25 : decode cX1_word 25 = .ok (.ishr, 1) := dk_122 (dk_at dksX1_word_1 2 rfl rfl)
theorem dX1_word_26 : decode cX1_word 26 = .ok (.i2b, 1) := dk_145 (dk_at dksX1_word_1 3 rfl rfl)
theorem dX1_word_27 : decode cX1_word 27 = .ok (.bastore, 1) := dk_84 (dk_at dksX1_word_1 4 rfl rfl)
theorem dX1_word_28 : decode cX1_word 28 = .ok (.aload_n 0, 1) := dk_42 (dk_at dksX1_word_1 5 rfl rfl)
theorem dX1_word_29 : decode cX1_word 29 = .ok (.iload_n 1, 1) := dk_27 (dk_at dksX1_word_1 6 rfl rfl)
theorem dX1_word_30 : decode cX1_word 30 = .ok (.iconst 3, 1) := dk_6 (dk_at dksX1_word_1 7 rfl rfl)
theorem dX1_word_31 : decode cX1_word 31 = .ok (.iadd, 1) := dk_96 (dk_at dksX1_word_1 8 rfl rfl)
theorem dX1_word_32 : decode cX1_word 32 = .ok (.iload_n 2, 1) := dk_28 (dk_at dksX1_word_1 9 rfl rfl)
theorem dX1_word_33 : decode cX1_word 33 = .ok (.i2b, 1) := dk_145 (dk_at dksX1_word_1 10 rfl rfl)
theorem dX1_word_34 : decode cX1_word 34 = .ok (.bastore, 1) := dk_84 (dk_at dksX1_word_1 11 rfl rfl)
theorem dX1_word_35 : decode cX1_word 35 = .ok (.return_, 1) := dk_177 (dk_at dksX1_word_1 12 rfl rfl)
abbrev cX1_block : ByteArray := prog_9_method_4_code
def yX1_block : MethodName := ⟨RX1, "block", "(IIII)V"⟩
def dkwX1_block_1 : List UInt8 := [29, 184, 0, 19, 42, 180, 0, 13, 16, 12, 21, 4, 184, 0, 19, 177]
abbrev dktX1_block_1 : List UInt8 := dkwX1_block_1 ++ []
def dkwX1_block_0 : List UInt8 := [42, 180, 0, 13, 3, 27, 184, 0, 19, 42, 180, 0, 13, 7, 28, 184, 0, 19, 42, 180, 0, 13, 16, 8]
abbrev dktX1_block_0 : List UInt8 := dkwX1_block_0 ++ dktX1_block_1
theorem dksX1_block_0 : cX1_block.data.toList.drop 0 = dktX1_block_0 := by decide +kernel
theorem dksX1_block_1 : cX1_block.data.toList.drop 24 = dktX1_block_1 := dk_seg dksX1_block_0 24 rfl rfl
theorem dX1_block_0 : decode cX1_block 0 = .ok (.aload_n 0, 1) := dk_42 (dk_at dksX1_block_0 0 rfl rfl)
theorem dX1_block_1 : decode cX1_block 1 = .ok (.getfield 13, 3) := dk_180 0 13 (dk_at dksX1_block_0 1 rfl rfl)
theorem dX1_block_4 : decode cX1_block 4 = .ok (.iconst 0, 1) := dk_3 (dk_at dksX1_block_0 4 rfl rfl)
theorem dX1_block_5 : decode cX1_block 5 = .ok (.iload_n 1, 1) := dk_27 (dk_at dksX1_block_0 5 rfl rfl)
theorem dX1_block_6 : decode cX1_block 6 = .ok (.invokestatic 19, 3) := dk_184 0 19 (dk_at dksX1_block_0 6 rfl rfl)
theorem dX1_block_9 : decode cX1_block 9 = .ok (.aload_n 0, 1) := dk_42 (dk_at dksX1_block_0 9 rfl rfl)
theorem dX1_block_10 : decode cX1_block 10 = .ok (.getfield 13, 3) := dk_180 0 13 (dk_at dksX1_block_0 10 rfl rfl)
theorem dX1_block_13 : decode cX1_block 13 = .ok (.iconst 4, 1) := dk_7 (dk_at dksX1_block_0 13 rfl rfl)
theorem dX1_block_14 : decode cX1_block 14 = .ok (.iload_n 2, 1) := dk_28 (dk_at dksX1_block_0 14 rfl rfl)
theorem dX1_block_15 : decode cX1_block 15 = .ok (.invokestatic 19, 3) := dk_184 0 19 (dk_at dksX1_block_0 15 rfl rfl)
theorem dX1_block_18 : decode cX1_block 18 = .ok (.aload_n 0, 1) := dk_42 (dk_at dksX1_block_0 18 rfl rfl)
theorem dX1_block_19 : decode cX1_block 19 = .ok (.getfield 13, 3) := dk_180 0 13 (dk_at dksX1_block_0 19 rfl rfl)
theorem dX1_block_22 : decode cX1_block 22 = .ok (.bipush 8, 2) := dk_16 8 (dk_at dksX1_block_0 22 rfl rfl)
theorem dX1_block_24 : decode cX1_block 24 = .ok (.iload_n 3, 1) := dk_29 (dk_at dksX1_block_1 0 rfl rfl)
theorem dX1_block_25 : decode cX1_block 25 = .ok (.invokestatic 19, 3) := dk_184 0 19 (dk_at dksX1_block_1 1 rfl rfl)
theorem dX1_block_28 : decode cX1_block 28 = .ok (.aload_n 0, 1) := dk_42 (dk_at dksX1_block_1 4 rfl rfl)
theorem dX1_block_29 : decode cX1_block 29 = .ok (.getfield 13, 3) := dk_180 0 13 (dk_at dksX1_block_1 5 rfl rfl)
theorem dX1_block_32 : decode cX1_block 32 = .ok (.bipush 12, 2) := dk_16 12 (dk_at dksX1_block_1 8 rfl rfl)
theorem dX1_block_34 : decode cX1_block 34 = .ok (.iload 4, 2) := dk_21 4 (dk_at dksX1_block_1 10 rfl rfl)
theorem dX1_block_36 : decode cX1_block 36 = .ok (.invokestatic 19, 3) := dk_184 0 19 (dk_at dksX1_block_1 12 rfl rfl)
theorem dX1_block_39 : decode cX1_block 39 = .ok (.return_, 1) := dk_177 (dk_at dksX1_block_1 15 rfl rfl)
abbrev cX1_out : ByteArray := prog_9_method_10_code
def yX1_out : MethodName := ⟨RX1, "out", "(I)I"⟩
def dkwX1_out_0 : List UInt8 := [42, 180, 0, 16, 27, 16, 15, 126, 51, 17, 0, 255, 126, 172]
abbrev dktX1_out_0 : List UInt8 := dkwX1_out_0 ++ []
theorem dksX1_out_0 : cX1_out.data.toList.drop 0 = dktX1_out_0 := by decide +kernel
theorem dX1_out_0 : decode cX1_out 0 = .ok (.aload_n 0, 1) := dk_42 (dk_at dksX1_out_0 0 rfl rfl)
theorem dX1_out_1 : decode cX1_out 1 = .ok (.getfield 16, 3) := dk_180 0 16 (dk_at dksX1_out_0 1 rfl rfl)
theorem dX1_out_4 : decode cX1_out 4 = .ok (.iload_n 1, 1) := dk_27 (dk_at dksX1_out_0 4 rfl rfl)
theorem dX1_out_5 : decode cX1_out 5 = .ok (.bipush 15, 2) := dk_16 15 (dk_at dksX1_out_0 5 rfl rfl)
theorem dX1_out_7 : decode cX1_out 7 = .ok (.iand, 1) := dk_126 (dk_at dksX1_out_0 7 rfl rfl)
theorem dX1_out_8 : decode cX1_out 8 = .ok (.baload, 1) := dk_51 (dk_at dksX1_out_0 8 rfl rfl)
theorem dX1_out_9 : decode cX1_out 9 = .ok (.sipush 255, 3) := dk_17 0 255 (dk_at dksX1_out_0 9 rfl rfl)
theorem dX1_out_12 : decode cX1_out 12 = .ok (.iand, 1) := dk_126 (dk_at dksX1_out_0 12 rfl rfl)
theorem dX1_out_13 : decode cX1_out 13 = .ok (.ireturn, 1) := dk_172 (dk_at dksX1_out_0 13 rfl rfl)
theorem q14 : (Jvm.Cond.initialized "SmFourDesk") ∈ lw_all := lw_g (lw_at lw_m1 1 rfl) rfl
theorem q28 : (Jvm.Cond.instanceMethod ({ cls := "SmFourDesk", name := "lock", desc := "(I)V" } : Jvm.MethodName)) ∈ lw_all := lw_g (lw_at lw_m1 15 rfl) rfl
theorem q29 : (Jvm.Cond.selects "SmFourDesk" ({ cls := "SmFourDesk", name := "lock", desc := "(I)V" } : Jvm.MethodName) ({ cls := "SmFourDesk", name := "lock", desc := "(I)V" } : Jvm.MethodName)) ∈ lw_all := lw_g (lw_at lw_m1 16 rfl) rfl
theorem q30 : (Jvm.Cond.code ({ cls := "SmFourDesk", name := "lock", desc := "(I)V" } : Jvm.MethodName) prog_9_method_7_code (2 : Nat) (Option.none : Option Jvm.ClassFile.FieldType)) ∈ lw_all := lw_g (lw_at lw_m1 17 rfl) rfl
theorem q31 : (Jvm.Cond.methodLink "SmFourDesk" (45 : Nat) ({ cls := "SmFourDesk", name := "run", desc := "(ZI)V" } : Jvm.MethodName)) ∈ lw_all := lw_g (lw_at lw_m1 18 rfl) rfl
theorem q32 : (Jvm.Cond.privateMethod ({ cls := "SmFourDesk", name := "run", desc := "(ZI)V" } : Jvm.MethodName)) ∈ lw_tbl := lw_at lw_m1 19 rfl
theorem q33 : (Jvm.Cond.instanceMethod ({ cls := "SmFourDesk", name := "run", desc := "(ZI)V" } : Jvm.MethodName)) ∈ lw_all := lw_g (lw_at lw_m1 20 rfl) rfl
theorem q34 : (Jvm.Cond.instantiable "SmFourDesk" (3 : Nat)) ∈ lw_all := lw_g (lw_at lw_m1 21 rfl) rfl
theorem q35 : (Jvm.Cond.code ({ cls := "SmFourDesk", name := "run", desc := "(ZI)V" } : Jvm.MethodName) prog_9_method_5_code (6 : Nat) (Option.none : Option Jvm.ClassFile.FieldType)) ∈ lw_all := lw_g (lw_at lw_m1 22 rfl) rfl
theorem q36 : (Jvm.Cond.methodLink "SmFourDesk" (23 : Nat) ({ cls := "SmFourDesk", name := "size", desc := "(I)I" } : Jvm.MethodName)) ∈ lw_all := lw_g (lw_at lw_m1 23 rfl) rfl
theorem q37 : (Jvm.Cond.static ({ cls := "SmFourDesk", name := "size", desc := "(I)I" } : Jvm.MethodName)) ∈ lw_all := lw_g (lw_at lw_m1 24 rfl) rfl
theorem q38 : (Jvm.Cond.code ({ cls := "SmFourDesk", name := "size", desc := "(I)I" } : Jvm.MethodName) prog_9_method_6_code (1 : Nat) (Option.some Jvm.ClassFile.FieldType.int)) ∈ lw_all := lw_g (lw_at lw_m1 25 rfl) rfl
theorem q39 : (Jvm.Cond.classLink "SmFourDesk" (27 : Nat) "SM4Engine") ∈ lw_all := lw_g (lw_at lw_m1 26 rfl) rfl
theorem q41 : (Jvm.Cond.methodLink "SmFourDesk" (29 : Nat) ({ cls := "SM4Engine", name := "<init>", desc := "()V" } : Jvm.MethodName)) ∈ lw_all := lw_g (lw_at lw_m1 28 rfl) rfl
theorem q56 : (Jvm.Cond.classLink "SmFourDesk" (30 : Nat) "KeyParameter") ∈ lw_all := lw_g (lw_at lw_m1 43 rfl) rfl
theorem q58 : (Jvm.Cond.methodLink "SmFourDesk" (32 : Nat) ({ cls := "KeyParameter", name := "<init>", desc := "([B)V" } : Jvm.MethodName)) ∈ lw_all := lw_g (lw_at lw_m1 45 rfl) rfl
theorem q75 : (Jvm.Cond.interfaceEntry "SmFourDesk" (35 : Nat)) ∈ lw_tbl := lw_at lw_m1 62 rfl
theorem q76 : (Jvm.Cond.methodLink "SmFourDesk" (35 : Nat) ({ cls := "BlockCipher", name := "init", desc := "(ZLCipherParameters;)V" } : Jvm.MethodName)) ∈ lw_all := lw_g (lw_at lw_m1 63 rfl) rfl
theorem q188 : (Jvm.Cond.interfaceEntry "SmFourDesk" (41 : Nat)) ∈ lw_tbl := lw_at lw_m1 175 rfl
theorem q189 : (Jvm.Cond.methodLink "SmFourDesk" (41 : Nat) ({ cls := "BlockCipher", name := "processBlock", desc := "([BI[BI)I" } : Jvm.MethodName)) ∈ lw_all := lw_g (lw_at lw_m1 176 rfl) rfl
theorem q278 : (Jvm.Cond.instanceMethod ({ cls := "SmFourDesk", name := "open", desc := "(I)V" } : Jvm.MethodName)) ∈ lw_all := lw_g (lw_at lw_m2 25 rfl) rfl
theorem q279 : (Jvm.Cond.selects "SmFourDesk" ({ cls := "SmFourDesk", name := "open", desc := "(I)V" } : Jvm.MethodName) ({ cls := "SmFourDesk", name := "open", desc := "(I)V" } : Jvm.MethodName)) ∈ lw_all := lw_g (lw_at lw_m2 26 rfl) rfl
theorem q280 : (Jvm.Cond.code ({ cls := "SmFourDesk", name := "open", desc := "(I)V" } : Jvm.MethodName) prog_9_method_8_code (2 : Nat) (Option.none : Option Jvm.ClassFile.FieldType)) ∈ lw_all := lw_g (lw_at lw_m2 27 rfl) rfl
theorem q282 : (Jvm.Cond.instanceMethod ({ cls := "SmFourDesk", name := "again", desc := "()V" } : Jvm.MethodName)) ∈ lw_all := lw_g (lw_at lw_m2 29 rfl) rfl
theorem q283 : (Jvm.Cond.selects "SmFourDesk" ({ cls := "SmFourDesk", name := "again", desc := "()V" } : Jvm.MethodName) ({ cls := "SmFourDesk", name := "again", desc := "()V" } : Jvm.MethodName)) ∈ lw_all := lw_g (lw_at lw_m2 30 rfl) rfl
theorem q284 : (Jvm.Cond.code ({ cls := "SmFourDesk", name := "again", desc := "()V" } : Jvm.MethodName) prog_9_method_9_code (2 : Nat) (Option.none : Option Jvm.ClassFile.FieldType)) ∈ lw_all := lw_g (lw_at lw_m2 31 rfl) rfl
theorem q290 : (Jvm.Cond.instanceMethod ({ cls := "SmFourDesk", name := "<init>", desc := "()V" } : Jvm.MethodName)) ∈ lw_all := lw_g (lw_at lw_m2 37 rfl) rfl
theorem q291 : (Jvm.Cond.code ({ cls := "SmFourDesk", name := "<init>", desc := "()V" } : Jvm.MethodName) prog_9_method_1_code (1 : Nat) (Option.none : Option Jvm.ClassFile.FieldType)) ∈ lw_all := lw_g (lw_at lw_m2 38 rfl) rfl
theorem q292 : (Jvm.Cond.methodLink "SmFourDesk" (1 : Nat) ({ cls := "java/lang/Object", name := "<init>", desc := "()V" } : Jvm.MethodName)) ∈ lw_all := lw_g (lw_at lw_m2 39 rfl) rfl
theorem q293 : (Jvm.Cond.fieldLink "SmFourDesk" (7 : Nat) "SmFourDesk" "key" "[B") ∈ lw_all := lw_g (lw_at lw_m2 40 rfl) rfl
theorem q294 : (Jvm.Cond.fieldLink "SmFourDesk" (13 : Nat) "SmFourDesk" "block" "[B") ∈ lw_all := lw_g (lw_at lw_m2 41 rfl) rfl
theorem q295 : (Jvm.Cond.fieldLink "SmFourDesk" (16 : Nat) "SmFourDesk" "out" "[B") ∈ lw_all := lw_g (lw_at lw_m2 42 rfl) rfl
theorem q296 : (Jvm.Cond.laysFinal "SmFourDesk" "SmFourDesk" "key" "[B") ∈ lw_all := lw_g (lw_at lw_m2 43 rfl) rfl
theorem q297 : (Jvm.Cond.soleField "SmFourDesk" "key") ∈ lw_all := lw_g (lw_at lw_m2 44 rfl) rfl
theorem q298 : (Jvm.Cond.laysFinal "SmFourDesk" "SmFourDesk" "block" "[B") ∈ lw_all := lw_g (lw_at lw_m2 45 rfl) rfl
theorem q299 : (Jvm.Cond.soleField "SmFourDesk" "block") ∈ lw_all := lw_g (lw_at lw_m2 46 rfl) rfl
theorem q300 : (Jvm.Cond.laysFinal "SmFourDesk" "SmFourDesk" "out" "[B") ∈ lw_all := lw_g (lw_at lw_m2 47 rfl) rfl
theorem q301 : (Jvm.Cond.soleField "SmFourDesk" "out") ∈ lw_all := lw_g (lw_at lw_m2 48 rfl) rfl
theorem q302 : (Jvm.Cond.superclass "SmFourDesk" "java/lang/Object") ∈ lw_all := lw_g (lw_at lw_m2 49 rfl) rfl
theorem q307 : (Jvm.Cond.instanceMethod ({ cls := "SmFourDesk", name := "key", desc := "(IIIII)V" } : Jvm.MethodName)) ∈ lw_all := lw_g (lw_at lw_m2 54 rfl) rfl
theorem q308 : (Jvm.Cond.selects "SmFourDesk" ({ cls := "SmFourDesk", name := "key", desc := "(IIIII)V" } : Jvm.MethodName) ({ cls := "SmFourDesk", name := "key", desc := "(IIIII)V" } : Jvm.MethodName)) ∈ lw_all := lw_g (lw_at lw_m2 55 rfl) rfl
theorem q309 : (Jvm.Cond.code ({ cls := "SmFourDesk", name := "key", desc := "(IIIII)V" } : Jvm.MethodName) prog_9_method_3_code (7 : Nat) (Option.none : Option Jvm.ClassFile.FieldType)) ∈ lw_all := lw_g (lw_at lw_m2 56 rfl) rfl
theorem q310 : (Jvm.Cond.methodLink "SmFourDesk" (19 : Nat) ({ cls := "SmFourDesk", name := "word", desc := "([BII)V" } : Jvm.MethodName)) ∈ lw_all := lw_g (lw_at lw_m2 57 rfl) rfl
theorem q311 : (Jvm.Cond.static ({ cls := "SmFourDesk", name := "word", desc := "([BII)V" } : Jvm.MethodName)) ∈ lw_all := lw_g (lw_at lw_m2 58 rfl) rfl
theorem q312 : (Jvm.Cond.code ({ cls := "SmFourDesk", name := "word", desc := "([BII)V" } : Jvm.MethodName) prog_9_method_2_code (3 : Nat) (Option.none : Option Jvm.ClassFile.FieldType)) ∈ lw_all := lw_g (lw_at lw_m2 59 rfl) rfl
theorem q314 : (Jvm.Cond.instanceMethod ({ cls := "SmFourDesk", name := "block", desc := "(IIII)V" } : Jvm.MethodName)) ∈ lw_all := lw_g (lw_at lw_m2 61 rfl) rfl
theorem q315 : (Jvm.Cond.selects "SmFourDesk" ({ cls := "SmFourDesk", name := "block", desc := "(IIII)V" } : Jvm.MethodName) ({ cls := "SmFourDesk", name := "block", desc := "(IIII)V" } : Jvm.MethodName)) ∈ lw_all := lw_g (lw_at lw_m2 62 rfl) rfl
theorem q316 : (Jvm.Cond.code ({ cls := "SmFourDesk", name := "block", desc := "(IIII)V" } : Jvm.MethodName) prog_9_method_4_code (5 : Nat) (Option.none : Option Jvm.ClassFile.FieldType)) ∈ lw_all := lw_g (lw_at lw_m2 63 rfl) rfl
theorem q321 : (Jvm.Cond.instanceMethod ({ cls := "SmFourDesk", name := "out", desc := "(I)I" } : Jvm.MethodName)) ∈ lw_all := lw_g (lw_at lw_m2 68 rfl) rfl
theorem q322 : (Jvm.Cond.selects "SmFourDesk" ({ cls := "SmFourDesk", name := "out", desc := "(I)I" } : Jvm.MethodName) ({ cls := "SmFourDesk", name := "out", desc := "(I)I" } : Jvm.MethodName)) ∈ lw_all := lw_g (lw_at lw_m2 69 rfl) rfl
theorem q323 : (Jvm.Cond.code ({ cls := "SmFourDesk", name := "out", desc := "(I)I" } : Jvm.MethodName) prog_9_method_10_code (2 : Nat) (Option.some Jvm.ClassFile.FieldType.int)) ∈ lw_all := lw_g (lw_at lw_m2 70 rfl) rfl
theorem in_X1 : ∀ w ∈ wsX10, w ∈ lw_all := lw_in wsX10 [296, 298, 300] (by decide +kernel) (by decide +kernel)
/-! SmFourDeskLaw -/
set_option maxRecDepth 100000
def RX0 : String := "SmFourDeskLaw"
abbrev cX0_with : ByteArray := method_3_code
def yX0_with : MethodName := ⟨RX0, "with", "([I)LSmFourDesk;"⟩
def dkwX0_with_3 : List UInt8 := [184, 0, 10, 42, 16, 10, 184, 0, 10, 42, 16, 11, 184, 0, 10, 182, 0, 20, 43, 176]
abbrev dktX0_with_3 : List UInt8 := dkwX0_with_3 ++ []
def dkwX0_with_2 : List UInt8 := [16, 6, 184, 0, 10, 42, 16, 7, 184, 0, 10, 182, 0, 16, 43, 42, 16, 8, 184, 0, 10, 42, 16, 9]
abbrev dktX0_with_2 : List UInt8 := dkwX0_with_2 ++ dktX0_with_3
def dkwX0_with_1 : List UInt8 := [184, 0, 10, 42, 6, 184, 0, 10, 182, 0, 16, 43, 4, 42, 7, 184, 0, 10, 42, 8, 184, 0, 10, 42]
abbrev dktX0_with_1 : List UInt8 := dkwX0_with_1 ++ dktX0_with_2
def dkwX0_with_0 : List UInt8 := [187, 0, 7, 89, 183, 0, 9, 76, 43, 3, 42, 3, 184, 0, 10, 42, 4, 184, 0, 10, 42, 5]
abbrev dktX0_with_0 : List UInt8 := dkwX0_with_0 ++ dktX0_with_1
theorem dksX0_with_0 : cX0_with.data.toList.drop 0 = dktX0_with_0 := by decide +kernel
theorem dksX0_with_1 : cX0_with.data.toList.drop 22 = dktX0_with_1 := dk_seg dksX0_with_0 22 rfl rfl
theorem dksX0_with_2 : cX0_with.data.toList.drop 46 = dktX0_with_2 := dk_seg dksX0_with_1 24 rfl rfl
theorem dksX0_with_3 : cX0_with.data.toList.drop 70 = dktX0_with_3 := dk_seg dksX0_with_2 24 rfl rfl
theorem dX0_with_0 : decode cX0_with 0 = .ok (.new 7, 3) := dk_187 0 7 (dk_at dksX0_with_0 0 rfl rfl)
theorem dX0_with_3 : decode cX0_with 3 = .ok (.dup, 1) := dk_89 (dk_at dksX0_with_0 3 rfl rfl)
theorem dX0_with_4 : decode cX0_with 4 = .ok (.invokespecial 9, 3) := dk_183 0 9 (dk_at dksX0_with_0 4 rfl rfl)
theorem dX0_with_7 : decode cX0_with 7 = .ok (.astore_n 1, 1) := dk_76 (dk_at dksX0_with_0 7 rfl rfl)
theorem dX0_with_8 : decode cX0_with 8 = .ok (.aload_n 1, 1) := dk_43 (dk_at dksX0_with_0 8 rfl rfl)
theorem dX0_with_9 : decode cX0_with 9 = .ok (.iconst 0, 1) := dk_3 (dk_at dksX0_with_0 9 rfl rfl)
theorem dX0_with_10 : decode cX0_with 10 = .ok (.aload_n 0, 1) := dk_42 (dk_at dksX0_with_0 10 rfl rfl)
theorem dX0_with_11 : decode cX0_with 11 = .ok (.iconst 0, 1) := dk_3 (dk_at dksX0_with_0 11 rfl rfl)
theorem dX0_with_12 : decode cX0_with 12 = .ok (.invokestatic 10, 3) := dk_184 0 10 (dk_at dksX0_with_0 12 rfl rfl)
theorem dX0_with_15 : decode cX0_with 15 = .ok (.aload_n 0, 1) := dk_42 (dk_at dksX0_with_0 15 rfl rfl)
theorem dX0_with_16 : decode cX0_with 16 = .ok (.iconst 1, 1) := dk_4 (dk_at dksX0_with_0 16 rfl rfl)
theorem dX0_with_17 : decode cX0_with 17 = .ok (.invokestatic 10, 3) := dk_184 0 10 (dk_at dksX0_with_0 17 rfl rfl)
theorem dX0_with_20 : decode cX0_with 20 = .ok (.aload_n 0, 1) := dk_42 (dk_at dksX0_with_0 20 rfl rfl)
theorem dX0_with_21 : decode cX0_with 21 = .ok (.iconst 2, 1) := dk_5 (dk_at dksX0_with_0 21 rfl rfl)
theorem dX0_with_22 : decode cX0_with 22 = .ok (.invokestatic 10, 3) := dk_184 0 10 (dk_at dksX0_with_1 0 rfl rfl)
theorem dX0_with_25 : decode cX0_with 25 = .ok (.aload_n 0, 1) := dk_42 (dk_at dksX0_with_1 3 rfl rfl)
theorem dX0_with_26 : decode cX0_with 26 = .ok (.iconst 3, 1) := dk_6 (dk_at dksX0_with_1 4 rfl rfl)
theorem dX0_with_27 : decode cX0_with 27 = .ok (.invokestatic 10, 3) := dk_184 0 10 (dk_at dksX0_with_1 5 rfl rfl)
theorem dX0_with_30 : decode cX0_with 30 = .ok (.invokevirtual 16, 3) := dk_182 0 16 (dk_at dksX0_with_1 8 rfl rfl)
theorem dX0_with_33 : decode cX0_with 33 = .ok (.aload_n 1, 1) := dk_43 (dk_at dksX0_with_1 11 rfl rfl)
theorem dX0_with_34 : decode cX0_with 34 = .ok (.iconst 1, 1) := dk_4 (dk_at dksX0_with_1 12 rfl rfl)
theorem dX0_with_35 : decode cX0_with 35 = .ok (.aload_n 0, 1) := dk_42 (dk_at dksX0_with_1 13 rfl rfl)
theorem dX0_with_36 : decode cX0_with 36 = .ok (.iconst 4, 1) := dk_7 (dk_at dksX0_with_1 14 rfl rfl)
theorem dX0_with_37 : decode cX0_with 37 = .ok (.invokestatic 10, 3) := dk_184 0 10 (dk_at dksX0_with_1 15 rfl rfl)
theorem dX0_with_40 : decode cX0_with 40 = .ok (.aload_n 0, 1) := dk_42 (dk_at dksX0_with_1 18 rfl rfl)
theorem dX0_with_41 : decode cX0_with 41 = .ok (.iconst 5, 1) := dk_8 (dk_at dksX0_with_1 19 rfl rfl)
theorem dX0_with_42 : decode cX0_with 42 = .ok (.invokestatic 10, 3) := dk_184 0 10 (dk_at dksX0_with_1 20 rfl rfl)
theorem dX0_with_45 : decode cX0_with 45 = .ok (.aload_n 0, 1) := dk_42 (dk_at dksX0_with_1 23 rfl rfl)
theorem dX0_with_46 : decode cX0_with 46 = .ok (.bipush 6, 2) := dk_16 6 (dk_at dksX0_with_2 0 rfl rfl)
theorem dX0_with_48 : decode cX0_with 48 = .ok (.invokestatic 10, 3) := dk_184 0 10 (dk_at dksX0_with_2 2 rfl rfl)
theorem dX0_with_51 : decode cX0_with 51 = .ok (.aload_n 0, 1) := dk_42 (dk_at dksX0_with_2 5 rfl rfl)
theorem dX0_with_52 : decode cX0_with 52 = .ok (.bipush 7, 2) := dk_16 7 (dk_at dksX0_with_2 6 rfl rfl)
theorem dX0_with_54 : decode cX0_with 54 = .ok (.invokestatic 10, 3) := dk_184 0 10 (dk_at dksX0_with_2 8 rfl rfl)
theorem dX0_with_57 : decode cX0_with 57 = .ok (.invokevirtual 16, 3) := dk_182 0 16 (dk_at dksX0_with_2 11 rfl rfl)
theorem dX0_with_60 : decode cX0_with 60 = .ok (.aload_n 1, 1) := dk_43 (dk_at dksX0_with_2 14 rfl rfl)
theorem dX0_with_61 : decode cX0_with 61 = .ok (.aload_n 0, 1) := dk_42 (dk_at dksX0_with_2 15 rfl rfl)
theorem dX0_with_62 : decode cX0_with 62 = .ok (.bipush 8, 2) := dk_16 8 (dk_at dksX0_with_2 16 rfl rfl)
theorem dX0_with_64 : decode cX0_with 64 = .ok (.invokestatic 10, 3) := dk_184 0 10 (dk_at dksX0_with_2 18 rfl rfl)
theorem dX0_with_67 : decode cX0_with 67 = .ok (.aload_n 0, 1) := dk_42 (dk_at dksX0_with_2 21 rfl rfl)
theorem dX0_with_68 : decode cX0_with 68 = .ok (.bipush 9, 2) := dk_16 9 (dk_at dksX0_with_2 22 rfl rfl)
theorem dX0_with_70 : decode cX0_with 70 = .ok (.invokestatic 10, 3) := dk_184 0 10 (dk_at dksX0_with_3 0 rfl rfl)
theorem dX0_with_73 : decode cX0_with 73 = .ok (.aload_n 0, 1) := dk_42 (dk_at dksX0_with_3 3 rfl rfl)
theorem dX0_with_74 : decode cX0_with 74 = .ok (.bipush 10, 2) := dk_16 10 (dk_at dksX0_with_3 4 rfl rfl)
theorem dX0_with_76 : decode cX0_with 76 = .ok (.invokestatic 10, 3) := dk_184 0 10 (dk_at dksX0_with_3 6 rfl rfl)
theorem dX0_with_79 : decode cX0_with 79 = .ok (.aload_n 0, 1) := dk_42 (dk_at dksX0_with_3 9 rfl rfl)
theorem dX0_with_80 : decode cX0_with 80 = .ok (.bipush 11, 2) := dk_16 11 (dk_at dksX0_with_3 10 rfl rfl)
theorem dX0_with_82 : decode cX0_with 82 = .ok (.invokestatic 10, 3) := dk_184 0 10 (dk_at dksX0_with_3 12 rfl rfl)
theorem dX0_with_85 : decode cX0_with 85 = .ok (.invokevirtual 20, 3) := dk_182 0 20 (dk_at dksX0_with_3 15 rfl rfl)
theorem dX0_with_88 : decode cX0_with 88 = .ok (.aload_n 1, 1) := dk_43 (dk_at dksX0_with_3 18 rfl rfl)
theorem dX0_with_89 : decode cX0_with 89 = .ok (.areturn, 1) := dk_176 (dk_at dksX0_with_3 19 rfl rfl)
abbrev cX0_cell : ByteArray := method_2_code
def yX0_cell : MethodName := ⟨RX0, "cell", "([II)I"⟩
def dkwX0_cell_0 : List UInt8 := [27, 42, 190, 162, 0, 9, 42, 27, 46, 167, 0, 4, 3, 172]
abbrev dktX0_cell_0 : List UInt8 := dkwX0_cell_0 ++ []
theorem dksX0_cell_0 : cX0_cell.data.toList.drop 0 = dktX0_cell_0 := by decide +kernel
theorem dX0_cell_0 : decode cX0_cell 0 = .ok (.iload_n 1, 1) := dk_27 (dk_at dksX0_cell_0 0 rfl rfl)
theorem dX0_cell_1 : decode cX0_cell 1 = .ok (.aload_n 0, 1) := dk_42 (dk_at dksX0_cell_0 1 rfl rfl)
theorem dX0_cell_2 : decode cX0_cell 2 = .ok (.arraylength, 1) := dk_190 (dk_at dksX0_cell_0 2 rfl rfl)
theorem dX0_cell_3 : decode cX0_cell 3 = .ok (.if_icmp .ge 9, 3) := dk_162 0 9 (dk_at dksX0_cell_0 3 rfl rfl)
theorem dX0_cell_6 : decode cX0_cell 6 = .ok (.aload_n 0, 1) := dk_42 (dk_at dksX0_cell_0 6 rfl rfl)
theorem dX0_cell_7 : decode cX0_cell 7 = .ok (.iload_n 1, 1) := dk_27 (dk_at dksX0_cell_0 7 rfl rfl)
theorem dX0_cell_8 : decode cX0_cell 8 = .ok (.iaload, 1) := dk_46 (dk_at dksX0_cell_0 8 rfl rfl)
theorem dX0_cell_9 : decode cX0_cell 9 = .ok (.goto 4, 3) := dk_167 0 4 (dk_at dksX0_cell_0 9 rfl rfl)
theorem dX0_cell_12 : decode cX0_cell 12 = .ok (.iconst 0, 1) := dk_3 (dk_at dksX0_cell_0 12 rfl rfl)
theorem dX0_cell_13 : decode cX0_cell 13 = .ok (.ireturn, 1) := dk_172 (dk_at dksX0_cell_0 13 rfl rfl)
abbrev cX0_same : ByteArray := method_4_code
def yX0_same : MethodName := ⟨RX0, "same", "(LSmFourDesk;[I)Z"⟩
def dkwX0_same_2 : List UInt8 := [167, 255, 213, 4, 172]
abbrev dktX0_same_2 : List UInt8 := dkwX0_same_2 ++ []
def dkwX0_same_1 : List UInt8 := [16, 24, 16, 8, 28, 7, 112, 104, 100, 124, 17, 0, 255, 126, 159, 0, 5, 3, 172, 132, 2, 1]
abbrev dktX0_same_1 : List UInt8 := dkwX0_same_1 ++ dktX0_same_2
def dkwX0_same_0 : List UInt8 := [3, 61, 28, 16, 16, 162, 0, 43, 42, 28, 182, 0, 24, 43, 16, 8, 28, 7, 108, 96, 184, 0, 10]
abbrev dktX0_same_0 : List UInt8 := dkwX0_same_0 ++ dktX0_same_1
theorem dksX0_same_0 : cX0_same.data.toList.drop 0 = dktX0_same_0 := by decide +kernel
theorem dksX0_same_1 : cX0_same.data.toList.drop 23 = dktX0_same_1 := dk_seg dksX0_same_0 23 rfl rfl
theorem dksX0_same_2 : cX0_same.data.toList.drop 45 = dktX0_same_2 := dk_seg dksX0_same_1 22 rfl rfl
theorem dX0_same_0 : decode cX0_same 0 = .ok (.iconst 0, 1) := dk_3 (dk_at dksX0_same_0 0 rfl rfl)
theorem dX0_same_1 : decode cX0_same 1 = .ok (.istore_n 2, 1) := dk_61 (dk_at dksX0_same_0 1 rfl rfl)
theorem dX0_same_2 : decode cX0_same 2 = .ok (.iload_n 2, 1) := dk_28 (dk_at dksX0_same_0 2 rfl rfl)
theorem dX0_same_3 : decode cX0_same 3 = .ok (.bipush 16, 2) := dk_16 16 (dk_at dksX0_same_0 3 rfl rfl)
theorem dX0_same_5 : decode cX0_same 5 = .ok (.if_icmp .ge 43, 3) := dk_162 0 43 (dk_at dksX0_same_0 5 rfl rfl)
theorem dX0_same_8 : decode cX0_same 8 = .ok (.aload_n 0, 1) := dk_42 (dk_at dksX0_same_0 8 rfl rfl)
theorem dX0_same_9 : decode cX0_same 9 = .ok (.iload_n 2, 1) := dk_28 (dk_at dksX0_same_0 9 rfl rfl)
theorem dX0_same_10 : decode cX0_same 10 = .ok (.invokevirtual 24, 3) := dk_182 0 24 (dk_at dksX0_same_0 10 rfl rfl)
theorem dX0_same_13 : decode cX0_same 13 = .ok (.aload_n 1, 1) := dk_43 (dk_at dksX0_same_0 13 rfl rfl)
theorem dX0_same_14 : decode cX0_same 14 = .ok (.bipush 8, 2) := dk_16 8 (dk_at dksX0_same_0 14 rfl rfl)
theorem dX0_same_16 : decode cX0_same 16 = .ok (.iload_n 2, 1) := dk_28 (dk_at dksX0_same_0 16 rfl rfl)
theorem dX0_same_17 : decode cX0_same 17 = .ok (.iconst 4, 1) := dk_7 (dk_at dksX0_same_0 17 rfl rfl)
theorem dX0_same_18 : decode cX0_same 18 = .ok (.idiv, 1) := dk_108 (dk_at dksX0_same_0 18 rfl rfl)
theorem dX0_same_19 : decode cX0_same 19 = .ok (.iadd, 1) := dk_96 (dk_at dksX0_same_0 19 rfl rfl)
theorem dX0_same_20 : decode cX0_same 20 = .ok (.invokestatic 10, 3) := dk_184 0 10 (dk_at dksX0_same_0 20 rfl rfl)
theorem dX0_same_23 : decode cX0_same 23 = .ok (.bipush 24, 2) := dk_16 24 (dk_at dksX0_same_1 0 rfl rfl)
theorem dX0_same_25 : decode cX0_same 25 = .ok (.bipush 8, 2) := dk_16 8 (dk_at dksX0_same_1 2 rfl rfl)
theorem dX0_same_27 : decode cX0_same 27 = .ok (.iload_n 2, 1) := dk_28 (dk_at dksX0_same_1 4 rfl rfl)
theorem dX0_same_28 : decode cX0_same 28 = .ok (.iconst 4, 1) := dk_7 (dk_at dksX0_same_1 5 rfl rfl)
theorem dX0_same_29 : decode cX0_same 29 = .ok (.irem, 1) := dk_112 (dk_at dksX0_same_1 6 rfl rfl)
theorem dX0_same_30 : decode cX0_same 30 = .ok (.imul, 1) := dk_104 (dk_at dksX0_same_1 7 rfl rfl)
theorem dX0_same_31 : decode cX0_same 31 = .ok (.isub, 1) := dk_100 (dk_at dksX0_same_1 8 rfl rfl)
theorem dX0_same_32 : decode cX0_same 32 = .ok (.iushr, 1) := dk_124 (dk_at dksX0_same_1 9 rfl rfl)
theorem dX0_same_33 : decode cX0_same 33 = .ok (.sipush 255, 3) := dk_17 0 255 (dk_at dksX0_same_1 10 rfl rfl)
theorem dX0_same_36 : decode cX0_same 36 = .ok (.iand, 1) := dk_126 (dk_at dksX0_same_1 13 rfl rfl)
theorem dX0_same_37 : decode cX0_same 37 = .ok (.if_icmp .eq 5, 3) := dk_159 0 5 (dk_at dksX0_same_1 14 rfl rfl)
theorem dX0_same_40 : decode cX0_same 40 = .ok (.iconst 0, 1) := dk_3 (dk_at dksX0_same_1 17 rfl rfl)
theorem dX0_same_41 : decode cX0_same 41 = .ok (.ireturn, 1) := dk_172 (dk_at dksX0_same_1 18 rfl rfl)
theorem dX0_same_42 : decode cX0_same 42 = .ok (.iinc 2 1, 3) := dk_132 2 1 (dk_at dksX0_same_1 19 rfl rfl)
theorem dX0_same_45 : decode cX0_same 45 = .ok (.goto (-43), 3) := dk_167 255 213 (dk_at dksX0_same_2 0 rfl rfl)
theorem dX0_same_48 : decode cX0_same 48 = .ok (.iconst 1, 1) := dk_4 (dk_at dksX0_same_2 3 rfl rfl)
theorem dX0_same_49 : decode cX0_same 49 = .ok (.ireturn, 1) := dk_172 (dk_at dksX0_same_2 4 rfl rfl)
abbrev cX0_known : ByteArray := method_5_code
def yX0_known : MethodName := ⟨RX0, "known", "()Z"⟩
def dkwX0_known_7 : List UInt8 := [159, 0, 5, 3, 172, 132, 2, 1, 167, 255, 234, 4, 172]
abbrev dktX0_known_7 : List UInt8 := dkwX0_known_7 ++ []
def dkwX0_known_6 : List UInt8 := [16, 15, 16, 70, 79, 76, 3, 61, 28, 16, 16, 162, 0, 22, 42, 28, 182, 0, 24, 43, 28, 46]
abbrev dktX0_known_6 : List UInt8 := dkwX0_known_6 ++ dktX0_known_7
def dkwX0_known_5 : List UInt8 := [16, 11, 16, 79, 79, 89, 16, 12, 16, 83, 79, 89, 16, 13, 16, 110, 79, 89, 16, 14, 16, 66, 79, 89]
abbrev dktX0_known_5 : List UInt8 := dkwX0_known_5 ++ dktX0_known_6
def dkwX0_known_4 : List UInt8 := [79, 89, 16, 8, 17, 0, 134, 79, 89, 16, 9, 17, 0, 179, 79, 89, 16, 10, 17, 0, 233, 79, 89]
abbrev dktX0_known_4 : List UInt8 := dkwX0_known_4 ++ dktX0_known_5
def dkwX0_known_3 : List UInt8 := [79, 89, 7, 17, 0, 210, 79, 89, 8, 16, 6, 79, 89, 16, 6, 17, 0, 150, 79, 89, 16, 7, 16, 94]
abbrev dktX0_known_3 : List UInt8 := dkwX0_known_3 ++ dktX0_known_4
def dkwX0_known_2 : List UInt8 := [16, 16, 188, 10, 89, 3, 16, 104, 79, 89, 4, 16, 30, 79, 89, 5, 17, 0, 223, 79, 89, 6, 16, 52]
abbrev dktX0_known_2 : List UInt8 := dkwX0_known_2 ++ dktX0_known_3
def dkwX0_known_1 : List UInt8 := [3, 3, 3, 182, 0, 16, 42, 18, 28, 18, 29, 18, 30, 18, 31, 182, 0, 20, 42, 3, 182, 0, 32]
abbrev dktX0_known_1 : List UInt8 := dkwX0_known_1 ++ dktX0_known_2
def dkwX0_known_0 : List UInt8 := [187, 0, 7, 89, 183, 0, 9, 75, 42, 3, 18, 28, 18, 29, 18, 30, 18, 31, 182, 0, 16, 42, 4, 3]
abbrev dktX0_known_0 : List UInt8 := dkwX0_known_0 ++ dktX0_known_1
theorem dksX0_known_0 : cX0_known.data.toList.drop 0 = dktX0_known_0 := by decide +kernel
theorem dksX0_known_1 : cX0_known.data.toList.drop 24 = dktX0_known_1 := dk_seg dksX0_known_0 24 rfl rfl
theorem dksX0_known_2 : cX0_known.data.toList.drop 47 = dktX0_known_2 := dk_seg dksX0_known_1 23 rfl rfl
theorem dksX0_known_3 : cX0_known.data.toList.drop 71 = dktX0_known_3 := dk_seg dksX0_known_2 24 rfl rfl
theorem dksX0_known_4 : cX0_known.data.toList.drop 95 = dktX0_known_4 := dk_seg dksX0_known_3 24 rfl rfl
theorem dksX0_known_5 : cX0_known.data.toList.drop 118 = dktX0_known_5 := dk_seg dksX0_known_4 23 rfl rfl
theorem dksX0_known_6 : cX0_known.data.toList.drop 142 = dktX0_known_6 := dk_seg dksX0_known_5 24 rfl rfl
theorem dksX0_known_7 : cX0_known.data.toList.drop 164 = dktX0_known_7 := dk_seg dksX0_known_6 22 rfl rfl
theorem dX0_known_0 : decode cX0_known 0 = .ok (.new 7, 3) := dk_187 0 7 (dk_at dksX0_known_0 0 rfl rfl)
theorem dX0_known_3 : decode cX0_known 3 = .ok (.dup, 1) := dk_89 (dk_at dksX0_known_0 3 rfl rfl)
theorem dX0_known_4 : decode cX0_known 4 = .ok (.invokespecial 9, 3) := dk_183 0 9 (dk_at dksX0_known_0 4 rfl rfl)
theorem dX0_known_7 : decode cX0_known 7 = .ok (.astore_n 0, 1) := dk_75 (dk_at dksX0_known_0 7 rfl rfl)
theorem dX0_known_8 : decode cX0_known 8 = .ok (.aload_n 0, 1) := dk_42 (dk_at dksX0_known_0 8 rfl rfl)
theorem dX0_known_9 : decode cX0_known 9 = .ok (.iconst 0, 1) := dk_3 (dk_at dksX0_known_0 9 rfl rfl)
theorem dX0_known_10 : decode cX0_known 10 = .ok (.ldc 28, 2) := dk_18 28 (dk_at dksX0_known_0 10 rfl rfl)
theorem dX0_known_12 : decode cX0_known 12 = .ok (.ldc 29, 2) := dk_18 29 (dk_at dksX0_known_0 12 rfl rfl)
theorem dX0_known_14 : decode cX0_known 14 = .ok (.ldc 30, 2) := dk_18 30 (dk_at dksX0_known_0 14 rfl rfl)
theorem dX0_known_16 : decode cX0_known 16 = .ok (.ldc 31, 2) := dk_18 31 (dk_at dksX0_known_0 16 rfl rfl)
theorem dX0_known_18 : decode cX0_known 18 = .ok (.invokevirtual 16, 3) := dk_182 0 16 (dk_at dksX0_known_0 18 rfl rfl)
theorem dX0_known_21 : decode cX0_known 21 = .ok (.aload_n 0, 1) := dk_42 (dk_at dksX0_known_0 21 rfl rfl)
theorem dX0_known_22 : decode cX0_known 22 = .ok (.iconst 1, 1) := dk_4 (dk_at dksX0_known_0 22 rfl rfl)
theorem dX0_known_23 : decode cX0_known 23 = .ok (.iconst 0, 1) := dk_3 (dk_at dksX0_known_0 23 rfl rfl)
theorem dX0_known_24 : decode cX0_known 24 = .ok (.iconst 0, 1) := dk_3 (dk_at dksX0_known_1 0 rfl rfl)
theorem dX0_known_25 : decode cX0_known 25 = .ok (.iconst 0, 1) := dk_3 (dk_at dksX0_known_1 1 rfl rfl)
theorem dX0_known_26 : decode cX0_known 26 = .ok (.iconst 0, 1) := dk_3 (dk_at dksX0_known_1 2 rfl rfl)
theorem dX0_known_27 : decode cX0_known 27 = .ok (.invokevirtual 16, 3) := dk_182 0 16 (dk_at dksX0_known_1 3 rfl rfl)
theorem dX0_known_30 : decode cX0_known 30 = .ok (.aload_n 0, 1) := dk_42 (dk_at dksX0_known_1 6 rfl rfl)
theorem dX0_known_31 : decode cX0_known 31 = .ok (.ldc 28, 2) := dk_18 28 (dk_at dksX0_known_1 7 rfl rfl)
theorem dX0_known_33 : decode cX0_known 33 = .ok (.ldc 29, 2) := dk_18 29 (dk_at dksX0_known_1 9 rfl rfl)
theorem dX0_known_35 : decode cX0_known 35 = .ok (.ldc 30, 2) := dk_18 30 (dk_at dksX0_known_1 11 rfl rfl)
theorem dX0_known_37 : decode cX0_known 37 = .ok (.ldc 31, 2) := dk_18 31 (dk_at dksX0_known_1 13 rfl rfl)
theorem dX0_known_39 : decode cX0_known 39 = .ok (.invokevirtual 20, 3) := dk_182 0 20 (dk_at dksX0_known_1 15 rfl rfl)
theorem dX0_known_42 : decode cX0_known 42 = .ok (.aload_n 0, 1) := dk_42 (dk_at dksX0_known_1 18 rfl rfl)
theorem dX0_known_43 : decode cX0_known 43 = .ok (.iconst 0, 1) := dk_3 (dk_at dksX0_known_1 19 rfl rfl)
theorem dX0_known_44 : decode cX0_known 44 = .ok (.invokevirtual 32, 3) := dk_182 0 32 (dk_at dksX0_known_1 20 rfl rfl)
theorem dX0_known_47 : decode cX0_known 47 = .ok (.bipush 16, 2) := dk_16 16 (dk_at dksX0_known_2 0 rfl rfl)
theorem dX0_known_49 : decode cX0_known 49 = .ok (.newarray .int, 2) := dk_188_10 (dk_at dksX0_known_2 2 rfl rfl)
theorem dX0_known_51 : decode cX0_known 51 = .ok (.dup, 1) := dk_89 (dk_at dksX0_known_2 4 rfl rfl)
theorem dX0_known_52 : decode cX0_known 52 = .ok (.iconst 0, 1) := dk_3 (dk_at dksX0_known_2 5 rfl rfl)
theorem dX0_known_53 : decode cX0_known 53 = .ok (.bipush 104, 2) := dk_16 104 (dk_at dksX0_known_2 6 rfl rfl)
theorem dX0_known_55 : decode cX0_known 55 = .ok (.iastore, 1) := dk_79 (dk_at dksX0_known_2 8 rfl rfl)
theorem dX0_known_56 : decode cX0_known 56 = .ok (.dup, 1) := dk_89 (dk_at dksX0_known_2 9 rfl rfl)
theorem dX0_known_57 : decode cX0_known 57 = .ok (.iconst 1, 1) := dk_4 (dk_at dksX0_known_2 10 rfl rfl)
theorem dX0_known_58 : decode cX0_known 58 = .ok (.bipush 30, 2) := dk_16 30 (dk_at dksX0_known_2 11 rfl rfl)
theorem dX0_known_60 : decode cX0_known 60 = .ok (.iastore, 1) := dk_79 (dk_at dksX0_known_2 13 rfl rfl)
theorem dX0_known_61 : decode cX0_known 61 = .ok (.dup, 1) := dk_89 (dk_at dksX0_known_2 14 rfl rfl)
theorem dX0_known_62 : decode cX0_known 62 = .ok (.iconst 2, 1) := dk_5 (dk_at dksX0_known_2 15 rfl rfl)
theorem dX0_known_63 : decode cX0_known 63 = .ok (.sipush 223, 3) := dk_17 0 223 (dk_at dksX0_known_2 16 rfl rfl)
theorem dX0_known_66 : decode cX0_known 66 = .ok (.iastore, 1) := dk_79 (dk_at dksX0_known_2 19 rfl rfl)
theorem dX0_known_67 : decode cX0_known 67 = .ok (.dup, 1) := dk_89 (dk_at dksX0_known_2 20 rfl rfl)
theorem dX0_known_68 : decode cX0_known 68 = .ok (.iconst 3, 1) := dk_6 (dk_at dksX0_known_2 21 rfl rfl)
theorem dX0_known_69 : decode cX0_known 69 = .ok (.bipush 52, 2) := dk_16 52 (dk_at dksX0_known_2 22 rfl rfl)
theorem dX0_known_71 : decode cX0_known 71 = .ok (.iastore, 1) := dk_79 (dk_at dksX0_known_3 0 rfl rfl)
theorem dX0_known_72 : decode cX0_known 72 = .ok (.dup, 1) := dk_89 (dk_at dksX0_known_3 1 rfl rfl)
theorem dX0_known_73 : decode cX0_known 73 = .ok (.iconst 4, 1) := dk_7 (dk_at dksX0_known_3 2 rfl rfl)
theorem dX0_known_74 : decode cX0_known 74 = .ok (.sipush 210, 3) := dk_17 0 210 (dk_at dksX0_known_3 3 rfl rfl)
theorem dX0_known_77 : decode cX0_known 77 = .ok (.iastore, 1) := dk_79 (dk_at dksX0_known_3 6 rfl rfl)
theorem dX0_known_78 : decode cX0_known 78 = .ok (.dup, 1) := dk_89 (dk_at dksX0_known_3 7 rfl rfl)
theorem dX0_known_79 : decode cX0_known 79 = .ok (.iconst 5, 1) := dk_8 (dk_at dksX0_known_3 8 rfl rfl)
theorem dX0_known_80 : decode cX0_known 80 = .ok (.bipush 6, 2) := dk_16 6 (dk_at dksX0_known_3 9 rfl rfl)
theorem dX0_known_82 : decode cX0_known 82 = .ok (.iastore, 1) := dk_79 (dk_at dksX0_known_3 11 rfl rfl)
theorem dX0_known_83 : decode cX0_known 83 = .ok (.dup, 1) := dk_89 (dk_at dksX0_known_3 12 rfl rfl)
theorem dX0_known_84 : decode cX0_known 84 = .ok (.bipush 6, 2) := dk_16 6 (dk_at dksX0_known_3 13 rfl rfl)
theorem dX0_known_86 : decode cX0_known 86 = .ok (.sipush 150, 3) := dk_17 0 150 (dk_at dksX0_known_3 15 rfl rfl)
theorem dX0_known_89 : decode cX0_known 89 = .ok (.iastore, 1) := dk_79 (dk_at dksX0_known_3 18 rfl rfl)
theorem dX0_known_90 : decode cX0_known 90 = .ok (.dup, 1) := dk_89 (dk_at dksX0_known_3 19 rfl rfl)
theorem dX0_known_91 : decode cX0_known 91 = .ok (.bipush 7, 2) := dk_16 7 (dk_at dksX0_known_3 20 rfl rfl)
theorem dX0_known_93 : decode cX0_known 93 = .ok (.bipush 94, 2) := dk_16 94 (dk_at dksX0_known_3 22 rfl rfl)
theorem dX0_known_95 : decode cX0_known 95 = .ok (.iastore, 1) := dk_79 (dk_at dksX0_known_4 0 rfl rfl)
theorem dX0_known_96 : decode cX0_known 96 = .ok (.dup, 1) := dk_89 (dk_at dksX0_known_4 1 rfl rfl)
theorem dX0_known_97 : decode cX0_known 97 = .ok (.bipush 8, 2) := dk_16 8 (dk_at dksX0_known_4 2 rfl rfl)
theorem dX0_known_99 : decode cX0_known 99 = .ok (.sipush 134, 3) := dk_17 0 134 (dk_at dksX0_known_4 4 rfl rfl)
theorem dX0_known_102 : decode cX0_known 102 = .ok (.iastore, 1) := dk_79 (dk_at dksX0_known_4 7 rfl rfl)
theorem dX0_known_103 : decode cX0_known 103 = .ok (.dup, 1) := dk_89 (dk_at dksX0_known_4 8 rfl rfl)
theorem dX0_known_104 : decode cX0_known 104 = .ok (.bipush 9, 2) := dk_16 9 (dk_at dksX0_known_4 9 rfl rfl)
theorem dX0_known_106 : decode cX0_known 106 = .ok (.sipush 179, 3) := dk_17 0 179 (dk_at dksX0_known_4 11 rfl rfl)
theorem dX0_known_109 : decode cX0_known 109 = .ok (.iastore, 1) := dk_79 (dk_at dksX0_known_4 14 rfl rfl)
theorem dX0_known_110 : decode cX0_known 110 = .ok (.dup, 1) := dk_89 (dk_at dksX0_known_4 15 rfl rfl)
theorem dX0_known_111 : decode cX0_known 111 = .ok (.bipush 10, 2) := dk_16 10 (dk_at dksX0_known_4 16 rfl rfl)
theorem dX0_known_113 : decode cX0_known 113 = .ok (.sipush 233, 3) := dk_17 0 233 (dk_at dksX0_known_4 18 rfl rfl)
theorem dX0_known_116 : decode cX0_known 116 = .ok (.iastore, 1) := dk_79 (dk_at dksX0_known_4 21 rfl rfl)
theorem dX0_known_117 : decode cX0_known 117 = .ok (.dup, 1) := dk_89 (dk_at dksX0_known_4 22 rfl rfl)
theorem dX0_known_118 : decode cX0_known 118 = .ok (.bipush 11, 2) := dk_16 11 (dk_at dksX0_known_5 0 rfl rfl)
theorem dX0_known_120 : decode cX0_known 120 = .ok (.bipush 79, 2) := dk_16 79 (dk_at dksX0_known_5 2 rfl rfl)
theorem dX0_known_122 : decode cX0_known 122 = .ok (.iastore, 1) := dk_79 (dk_at dksX0_known_5 4 rfl rfl)
theorem dX0_known_123 : decode cX0_known 123 = .ok (.dup, 1) := dk_89 (dk_at dksX0_known_5 5 rfl rfl)
theorem dX0_known_124 : decode cX0_known 124 = .ok (.bipush 12, 2) := dk_16 12 (dk_at dksX0_known_5 6 rfl rfl)
theorem dX0_known_126 : decode cX0_known 126 = .ok (.bipush 83, 2) := dk_16 83 (dk_at dksX0_known_5 8 rfl rfl)
theorem dX0_known_128 : decode cX0_known 128 = .ok (.iastore, 1) := dk_79 (dk_at dksX0_known_5 10 rfl rfl)
theorem dX0_known_129 : decode cX0_known 129 = .ok (.dup, 1) := dk_89 (dk_at dksX0_known_5 11 rfl rfl)
theorem dX0_known_130 : decode cX0_known 130 = .ok (.bipush 13, 2) := dk_16 13 (dk_at dksX0_known_5 12 rfl rfl)
theorem dX0_known_132 : decode cX0_known 132 = .ok (.bipush 110, 2) := dk_16 110 (dk_at dksX0_known_5 14 rfl rfl)
theorem dX0_known_134 : decode cX0_known 134 = .ok (.iastore, 1) := dk_79 (dk_at dksX0_known_5 16 rfl rfl)
theorem dX0_known_135 : decode cX0_known 135 = .ok (.dup, 1) := dk_89 (dk_at dksX0_known_5 17 rfl rfl)
theorem dX0_known_136 : decode cX0_known 136 = .ok (.bipush 14, 2) := dk_16 14 (dk_at dksX0_known_5 18 rfl rfl)
theorem dX0_known_138 : decode cX0_known 138 = .ok (.bipush 66, 2) := dk_16 66 (dk_at dksX0_known_5 20 rfl rfl)
theorem dX0_known_140 : decode cX0_known 140 = .ok (.iastore, 1) := dk_79 (dk_at dksX0_known_5 22 rfl rfl)
theorem dX0_known_141 : decode cX0_known 141 = .ok (.dup, 1) := dk_89 (dk_at dksX0_known_5 23 rfl rfl)
theorem dX0_known_142 : decode cX0_known 142 = .ok (.bipush 15, 2) := dk_16 15 (dk_at dksX0_known_6 0 rfl rfl)
theorem dX0_known_144 : decode cX0_known 144 = .ok (.bipush 70, 2) := dk_16 70 (dk_at dksX0_known_6 2 rfl rfl)
theorem dX0_known_146 : decode cX0_known 146 = .ok (.iastore, 1) := dk_79 (dk_at dksX0_known_6 4 rfl rfl)
theorem dX0_known_147 : decode cX0_known 147 = .ok (.astore_n 1, 1) := dk_76 (dk_at dksX0_known_6 5 rfl rfl)
theorem dX0_known_148 : decode cX0_known 148 = .ok (.iconst 0, 1) := dk_3 (dk_at dksX0_known_6 6 rfl rfl)
theorem dX0_known_149 : decode cX0_known 149 = .ok (.istore_n 2, 1) := dk_61 (dk_at dksX0_known_6 7 rfl rfl)
theorem dX0_known_150 : decode cX0_known 150 = .ok (.iload_n 2, 1) := dk_28 (dk_at dksX0_known_6 8 rfl rfl)
theorem dX0_known_151 : decode cX0_known 151 = .ok (.bipush 16, 2) := dk_16 16 (dk_at dksX0_known_6 9 rfl rfl)
theorem dX0_known_153 : decode cX0_known 153 = .ok (.if_icmp .ge 22, 3) := dk_162 0 22 (dk_at dksX0_known_6 11 rfl rfl)
theorem dX0_known_156 : decode cX0_known 156 = .ok (.aload_n 0, 1) := dk_42 (dk_at dksX0_known_6 14 rfl rfl)
theorem dX0_known_157 : decode cX0_known 157 = .ok (.iload_n 2, 1) := dk_28 (dk_at dksX0_known_6 15 rfl rfl)
theorem dX0_known_158 : decode cX0_known 158 = .ok (.invokevirtual 24, 3) := dk_182 0 24 (dk_at dksX0_known_6 16 rfl rfl)
theorem dX0_known_161 : decode cX0_known 161 = .ok (.aload_n 1, 1) := dk_43 (dk_at dksX0_known_6 19 rfl rfl)
theorem dX0_known_162 : decode cX0_known 162 = .ok (.iload_n 2, 1) := dk_28 (dk_at dksX0_known_6 20 rfl rfl)
theorem dX0_known_163 : decode cX0_known 163 = .ok (.iaload, 1) := dk_46 (dk_at dksX0_known_6 21 rfl rfl)
theorem dX0_known_164 : decode cX0_known 164 = .ok (.if_icmp .eq 5, 3) := dk_159 0 5 (dk_at dksX0_known_7 0 rfl rfl)
theorem dX0_known_167 : decode cX0_known 167 = .ok (.iconst 0, 1) := dk_3 (dk_at dksX0_known_7 3 rfl rfl)
theorem dX0_known_168 : decode cX0_known 168 = .ok (.ireturn, 1) := dk_172 (dk_at dksX0_known_7 4 rfl rfl)
theorem dX0_known_169 : decode cX0_known 169 = .ok (.iinc 2 1, 3) := dk_132 2 1 (dk_at dksX0_known_7 5 rfl rfl)
theorem dX0_known_172 : decode cX0_known 172 = .ok (.goto (-22), 3) := dk_167 255 234 (dk_at dksX0_known_7 8 rfl rfl)
theorem dX0_known_175 : decode cX0_known 175 = .ok (.iconst 1, 1) := dk_4 (dk_at dksX0_known_7 11 rfl rfl)
theorem dX0_known_176 : decode cX0_known 176 = .ok (.ireturn, 1) := dk_172 (dk_at dksX0_known_7 12 rfl rfl)
theorem q13 : (Jvm.Cond.initialized "SmFourDeskLaw") ∈ lw_all := lw_g (lw_at lw_m1 0 rfl) rfl
theorem q27 : (Jvm.Cond.methodLink "SmFourDeskLaw" (32 : Nat) ({ cls := "SmFourDesk", name := "lock", desc := "(I)V" } : Jvm.MethodName)) ∈ lw_all := lw_g (lw_at lw_m1 14 rfl) rfl
theorem q277 : (Jvm.Cond.methodLink "SmFourDeskLaw" (44 : Nat) ({ cls := "SmFourDesk", name := "open", desc := "(I)V" } : Jvm.MethodName)) ∈ lw_all := lw_g (lw_at lw_m2 24 rfl) rfl
theorem q281 : (Jvm.Cond.methodLink "SmFourDeskLaw" (47 : Nat) ({ cls := "SmFourDesk", name := "again", desc := "()V" } : Jvm.MethodName)) ∈ lw_all := lw_g (lw_at lw_m2 28 rfl) rfl
theorem q285 : (Jvm.Cond.methodLink "SmFourDeskLaw" (40 : Nat) ({ cls := "SmFourDeskLaw", name := "with", desc := "([I)LSmFourDesk;" } : Jvm.MethodName)) ∈ lw_all := lw_g (lw_at lw_m2 32 rfl) rfl
theorem q286 : (Jvm.Cond.static ({ cls := "SmFourDeskLaw", name := "with", desc := "([I)LSmFourDesk;" } : Jvm.MethodName)) ∈ lw_all := lw_g (lw_at lw_m2 33 rfl) rfl
theorem q287 : (Jvm.Cond.code ({ cls := "SmFourDeskLaw", name := "with", desc := "([I)LSmFourDesk;" } : Jvm.MethodName) method_3_code (2 : Nat) (Option.some (Jvm.ClassFile.FieldType.object "SmFourDesk"))) ∈ lw_all := lw_g (lw_at lw_m2 34 rfl) rfl
theorem q288 : (Jvm.Cond.classLink "SmFourDeskLaw" (7 : Nat) "SmFourDesk") ∈ lw_all := lw_g (lw_at lw_m2 35 rfl) rfl
theorem q289 : (Jvm.Cond.methodLink "SmFourDeskLaw" (9 : Nat) ({ cls := "SmFourDesk", name := "<init>", desc := "()V" } : Jvm.MethodName)) ∈ lw_all := lw_g (lw_at lw_m2 36 rfl) rfl
theorem q303 : (Jvm.Cond.methodLink "SmFourDeskLaw" (10 : Nat) ({ cls := "SmFourDeskLaw", name := "cell", desc := "([II)I" } : Jvm.MethodName)) ∈ lw_all := lw_g (lw_at lw_m2 50 rfl) rfl
theorem q304 : (Jvm.Cond.static ({ cls := "SmFourDeskLaw", name := "cell", desc := "([II)I" } : Jvm.MethodName)) ∈ lw_all := lw_g (lw_at lw_m2 51 rfl) rfl
theorem q305 : (Jvm.Cond.code ({ cls := "SmFourDeskLaw", name := "cell", desc := "([II)I" } : Jvm.MethodName) method_2_code (2 : Nat) (Option.some Jvm.ClassFile.FieldType.int)) ∈ lw_all := lw_g (lw_at lw_m2 52 rfl) rfl
theorem q306 : (Jvm.Cond.methodLink "SmFourDeskLaw" (16 : Nat) ({ cls := "SmFourDesk", name := "key", desc := "(IIIII)V" } : Jvm.MethodName)) ∈ lw_all := lw_g (lw_at lw_m2 53 rfl) rfl
theorem q313 : (Jvm.Cond.methodLink "SmFourDeskLaw" (20 : Nat) ({ cls := "SmFourDesk", name := "block", desc := "(IIII)V" } : Jvm.MethodName)) ∈ lw_all := lw_g (lw_at lw_m2 60 rfl) rfl
theorem q317 : (Jvm.Cond.methodLink "SmFourDeskLaw" (50 : Nat) ({ cls := "SmFourDeskLaw", name := "same", desc := "(LSmFourDesk;[I)Z" } : Jvm.MethodName)) ∈ lw_all := lw_g (lw_at lw_m2 64 rfl) rfl
theorem q318 : (Jvm.Cond.static ({ cls := "SmFourDeskLaw", name := "same", desc := "(LSmFourDesk;[I)Z" } : Jvm.MethodName)) ∈ lw_all := lw_g (lw_at lw_m2 65 rfl) rfl
theorem q319 : (Jvm.Cond.code ({ cls := "SmFourDeskLaw", name := "same", desc := "(LSmFourDesk;[I)Z" } : Jvm.MethodName) method_4_code (3 : Nat) (Option.some Jvm.ClassFile.FieldType.boolean)) ∈ lw_all := lw_g (lw_at lw_m2 66 rfl) rfl
theorem q320 : (Jvm.Cond.methodLink "SmFourDeskLaw" (24 : Nat) ({ cls := "SmFourDesk", name := "out", desc := "(I)I" } : Jvm.MethodName)) ∈ lw_all := lw_g (lw_at lw_m2 67 rfl) rfl
theorem q324 : (Jvm.Cond.methodLink "SmFourDeskLaw" (36 : Nat) ({ cls := "SmFourDeskLaw", name := "known", desc := "()Z" } : Jvm.MethodName)) ∈ lw_all := lw_g (lw_at lw_m2 71 rfl) rfl
theorem q325 : (Jvm.Cond.static ({ cls := "SmFourDeskLaw", name := "known", desc := "()Z" } : Jvm.MethodName)) ∈ lw_all := lw_g (lw_at lw_m2 72 rfl) rfl
theorem q326 : (Jvm.Cond.code ({ cls := "SmFourDeskLaw", name := "known", desc := "()Z" } : Jvm.MethodName) method_5_code (3 : Nat) (Option.some Jvm.ClassFile.FieldType.boolean)) ∈ lw_all := lw_g (lw_at lw_m2 73 rfl) rfl
theorem q327 : (Jvm.Cond.constant "SmFourDeskLaw" (28 : Nat) (19088743 : Int32)) ∈ lw_all := lw_g (lw_at lw_m2 74 rfl) rfl
theorem q328 : (Jvm.Cond.constant "SmFourDeskLaw" (29 : Nat) (-1985229329 : Int32)) ∈ lw_all := lw_g (lw_at lw_m2 75 rfl) rfl
theorem q329 : (Jvm.Cond.constant "SmFourDeskLaw" (30 : Nat) (-19088744 : Int32)) ∈ lw_all := lw_g (lw_at lw_m2 76 rfl) rfl
theorem q330 : (Jvm.Cond.constant "SmFourDeskLaw" (31 : Nat) (1985229328 : Int32)) ∈ lw_all := lw_g (lw_at lw_m2 77 rfl) rfl
/-! the law's own entry -/
set_option maxRecDepth 100000
abbrev cL_law : ByteArray := code
def dkwL_law_4 : List UInt8 := [25, 7, 42, 184, 0, 50, 154, 0, 5, 3, 172, 132, 4, 1, 167, 255, 171, 4, 172]
abbrev dktL_law_4 : List UInt8 := dkwL_law_4 ++ []
def dkwL_law_3 : List UInt8 := [182, 0, 44, 25, 7, 182, 0, 47, 25, 7, 21, 5, 182, 0, 32, 25, 6, 42, 184, 0, 50, 153, 0, 12]
abbrev dktL_law_3 : List UInt8 := dkwL_law_3 ++ dktL_law_4
def dkwL_law_2 : List UInt8 := [25, 6, 21, 5, 182, 0, 32, 25, 7, 21, 5, 182, 0, 44, 25, 6, 182, 0, 47, 25, 6, 21, 5]
abbrev dktL_law_2 : List UInt8 := dkwL_law_2 ++ dktL_law_3
def dkwL_law_1 : List UInt8 := [21, 4, 29, 162, 0, 85, 44, 21, 4, 46, 54, 5, 42, 184, 0, 40, 58, 6, 42, 184, 0, 40, 58, 7]
abbrev dktL_law_1 : List UInt8 := dkwL_law_1 ++ dktL_law_2
def dkwL_law_0 : List UInt8 := [184, 0, 36, 154, 0, 5, 3, 172, 4, 188, 10, 89, 3, 3, 79, 76, 43, 77, 44, 190, 62, 3, 54, 4]
abbrev dktL_law_0 : List UInt8 := dkwL_law_0 ++ dktL_law_1
theorem dksL_law_0 : cL_law.data.toList.drop 0 = dktL_law_0 := by decide +kernel
theorem dksL_law_1 : cL_law.data.toList.drop 24 = dktL_law_1 := dk_seg dksL_law_0 24 rfl rfl
theorem dksL_law_2 : cL_law.data.toList.drop 48 = dktL_law_2 := dk_seg dksL_law_1 24 rfl rfl
theorem dksL_law_3 : cL_law.data.toList.drop 71 = dktL_law_3 := dk_seg dksL_law_2 23 rfl rfl
theorem dksL_law_4 : cL_law.data.toList.drop 95 = dktL_law_4 := dk_seg dksL_law_3 24 rfl rfl
theorem dL_law_0 : decode cL_law 0 = .ok (.invokestatic 36, 3) := dk_184 0 36 (dk_at dksL_law_0 0 rfl rfl)
theorem dL_law_3 : decode cL_law 3 = .ok (.ifCond .ne 5, 3) := dk_154 0 5 (dk_at dksL_law_0 3 rfl rfl)
theorem dL_law_6 : decode cL_law 6 = .ok (.iconst 0, 1) := dk_3 (dk_at dksL_law_0 6 rfl rfl)
theorem dL_law_7 : decode cL_law 7 = .ok (.ireturn, 1) := dk_172 (dk_at dksL_law_0 7 rfl rfl)
theorem dL_law_8 : decode cL_law 8 = .ok (.iconst 1, 1) := dk_4 (dk_at dksL_law_0 8 rfl rfl)
theorem dL_law_9 : decode cL_law 9 = .ok (.newarray .int, 2) := dk_188_10 (dk_at dksL_law_0 9 rfl rfl)
theorem dL_law_11 : decode cL_law 11 = .ok (.dup, 1) := dk_89 (dk_at dksL_law_0 11 rfl rfl)
theorem dL_law_12 : decode cL_law 12 = .ok (.iconst 0, 1) := dk_3 (dk_at dksL_law_0 12 rfl rfl)
theorem dL_law_13 : decode cL_law 13 = .ok (.iconst 0, 1) := dk_3 (dk_at dksL_law_0 13 rfl rfl)
theorem dL_law_14 : decode cL_law 14 = .ok (.iastore, 1) := dk_79 (dk_at dksL_law_0 14 rfl rfl)
theorem dL_law_15 : decode cL_law 15 = .ok (.astore_n 1, 1) := dk_76 (dk_at dksL_law_0 15 rfl rfl)
theorem dL_law_16 : decode cL_law 16 = .ok (.aload_n 1, 1) := dk_43 (dk_at dksL_law_0 16 rfl rfl)
theorem dL_law_17 : decode cL_law 17 = .ok (.astore_n 2, 1) := dk_77 (dk_at dksL_law_0 17 rfl rfl)
theorem dL_law_18 : decode cL_law 18 = .ok (.aload_n 2, 1) := dk_44 (dk_at dksL_law_0 18 rfl rfl)
theorem dL_law_19 : decode cL_law 19 = .ok (.arraylength, 1) := dk_190 (dk_at dksL_law_0 19 rfl rfl)
theorem dL_law_20 : decode cL_law 20 = .ok (.istore_n 3, 1) := dk_62 (dk_at dksL_law_0 20 rfl rfl)
theorem dL_law_21 : decode cL_law 21 = .ok (.iconst 0, 1) := dk_3 (dk_at dksL_law_0 21 rfl rfl)
theorem dL_law_22 : decode cL_law 22 = .ok (.istore 4, 2) := dk_54 4 (dk_at dksL_law_0 22 rfl rfl)
theorem dL_law_24 : decode cL_law 24 = .ok (.iload 4, 2) := dk_21 4 (dk_at dksL_law_1 0 rfl rfl)
theorem dL_law_26 : decode cL_law 26 = .ok (.iload_n 3, 1) := dk_29 (dk_at dksL_law_1 2 rfl rfl)
theorem dL_law_27 : decode cL_law 27 = .ok (.if_icmp .ge 85, 3) := dk_162 0 85 (dk_at dksL_law_1 3 rfl rfl)
theorem dL_law_30 : decode cL_law 30 = .ok (.aload_n 2, 1) := dk_44 (dk_at dksL_law_1 6 rfl rfl)
theorem dL_law_31 : decode cL_law 31 = .ok (.iload 4, 2) := dk_21 4 (dk_at dksL_law_1 7 rfl rfl)
theorem dL_law_33 : decode cL_law 33 = .ok (.iaload, 1) := dk_46 (dk_at dksL_law_1 9 rfl rfl)
theorem dL_law_34 : decode cL_law 34 = .ok (.istore 5, 2) := dk_54 5 (dk_at dksL_law_1 10 rfl rfl)
theorem dL_law_36 : decode cL_law 36 = .ok (.aload_n 0, 1) := dk_42 (dk_at dksL_law_1 12 rfl rfl)
theorem dL_law_37 : decode cL_law 37 = .ok (.invokestatic 40, 3) := dk_184 0 40 (dk_at dksL_law_1 13 rfl rfl)
theorem dL_law_40 : decode cL_law 40 = .ok (.astore 6, 2) := dk_58 6 (dk_at dksL_law_1 16 rfl rfl)
theorem dL_law_42 : decode cL_law 42 = .ok (.aload_n 0, 1) := dk_42 (dk_at dksL_law_1 18 rfl rfl)
theorem dL_law_43 : decode cL_law 43 = .ok (.invokestatic 40, 3) := dk_184 0 40 (dk_at dksL_law_1 19 rfl rfl)
theorem dL_law_46 : decode cL_law 46 = .ok (.astore 7, 2) := dk_58 7 (dk_at dksL_law_1 22 rfl rfl)
theorem dL_law_48 : decode cL_law 48 = .ok (.aload 6, 2) := dk_25 6 (dk_at dksL_law_2 0 rfl rfl)
theorem dL_law_50 : decode cL_law 50 = .ok (.iload 5, 2) := dk_21 5 (dk_at dksL_law_2 2 rfl rfl)
theorem dL_law_52 : decode cL_law 52 = .ok (.invokevirtual 32, 3) := dk_182 0 32 (dk_at dksL_law_2 4 rfl rfl)
theorem dL_law_55 : decode cL_law 55 = .ok (.aload 7, 2) := dk_25 7 (dk_at dksL_law_2 7 rfl rfl)
theorem dL_law_57 : decode cL_law 57 = .ok (.iload 5, 2) := dk_21 5 (dk_at dksL_law_2 9 rfl rfl)
theorem dL_law_59 : decode cL_law 59 = .ok (.invokevirtual 44, 3) := dk_182 0 44 (dk_at dksL_law_2 11 rfl rfl)
theorem dL_law_62 : decode cL_law 62 = .ok (.aload 6, 2) := dk_25 6 (dk_at dksL_law_2 14 rfl rfl)
theorem dL_law_64 : decode cL_law 64 = .ok (.invokevirtual 47, 3) := dk_182 0 47 (dk_at dksL_law_2 16 rfl rfl)
theorem dL_law_67 : decode cL_law 67 = .ok (.aload 6, 2) := dk_25 6 (dk_at dksL_law_2 19 rfl rfl)
theorem dL_law_69 : decode cL_law 69 = .ok (.iload 5, 2) := dk_21 5 (dk_at dksL_law_2 21 rfl rfl)
theorem dL_law_71 : decode cL_law 71 = .ok (.invokevirtual 44, 3) := dk_182 0 44 (dk_at dksL_law_3 0 rfl rfl)
theorem dL_law_74 : decode cL_law 74 = .ok (.aload 7, 2) := dk_25 7 (dk_at dksL_law_3 3 rfl rfl)
theorem dL_law_76 : decode cL_law 76 = .ok (.invokevirtual 47, 3) := dk_182 0 47 (dk_at dksL_law_3 5 rfl rfl)
theorem dL_law_79 : decode cL_law 79 = .ok (.aload 7, 2) := dk_25 7 (dk_at dksL_law_3 8 rfl rfl)
theorem dL_law_81 : decode cL_law 81 = .ok (.iload 5, 2) := dk_21 5 (dk_at dksL_law_3 10 rfl rfl)
theorem dL_law_83 : decode cL_law 83 = .ok (.invokevirtual 32, 3) := dk_182 0 32 (dk_at dksL_law_3 12 rfl rfl)
theorem dL_law_86 : decode cL_law 86 = .ok (.aload 6, 2) := dk_25 6 (dk_at dksL_law_3 15 rfl rfl)
theorem dL_law_88 : decode cL_law 88 = .ok (.aload_n 0, 1) := dk_42 (dk_at dksL_law_3 17 rfl rfl)
theorem dL_law_89 : decode cL_law 89 = .ok (.invokestatic 50, 3) := dk_184 0 50 (dk_at dksL_law_3 18 rfl rfl)
theorem dL_law_92 : decode cL_law 92 = .ok (.ifCond .eq 12, 3) := dk_153 0 12 (dk_at dksL_law_3 21 rfl rfl)
theorem dL_law_95 : decode cL_law 95 = .ok (.aload 7, 2) := dk_25 7 (dk_at dksL_law_4 0 rfl rfl)
theorem dL_law_97 : decode cL_law 97 = .ok (.aload_n 0, 1) := dk_42 (dk_at dksL_law_4 2 rfl rfl)
theorem dL_law_98 : decode cL_law 98 = .ok (.invokestatic 50, 3) := dk_184 0 50 (dk_at dksL_law_4 3 rfl rfl)
theorem dL_law_101 : decode cL_law 101 = .ok (.ifCond .ne 5, 3) := dk_154 0 5 (dk_at dksL_law_4 6 rfl rfl)
theorem dL_law_104 : decode cL_law 104 = .ok (.iconst 0, 1) := dk_3 (dk_at dksL_law_4 9 rfl rfl)
theorem dL_law_105 : decode cL_law 105 = .ok (.ireturn, 1) := dk_172 (dk_at dksL_law_4 10 rfl rfl)
theorem dL_law_106 : decode cL_law 106 = .ok (.iinc 4 1, 3) := dk_132 4 1 (dk_at dksL_law_4 11 rfl rfl)
theorem dL_law_109 : decode cL_law 109 = .ok (.goto (-85), 3) := dk_167 255 171 (dk_at dksL_law_4 14 rfl rfl)
theorem dL_law_112 : decode cL_law 112 = .ok (.iconst 1, 1) := dk_4 (dk_at dksL_law_4 17 rfl rfl)
theorem dL_law_113 : decode cL_law 113 = .ok (.ireturn, 1) := dk_172 (dk_at dksL_law_4 18 rfl rfl)
end
section
/-! SM4Engine -/
set_option maxRecDepth 100000
def RX2 : String := "SM4Engine"
def TX2 : u_T := fun k => match k with
  | 0 => ("SM4Engine", "X", "[I", true)
  | _ => ("SM4Engine", "rk", "[I", false)
def tyX2 : Nat → FieldType := fun k => match k with
  | 0 => .array .int
  | _ => .array .int
abbrev wsX20 : List Cond := u_ws RX2 TX2 2
theorem nmX2 : ∀ a, a < 2 → ∀ b, b < 2 → a ≠ b → (TX2 a).2.1 ≠ (TX2 b).2.1 := by decide +kernel
theorem tyX2_ok : ∀ k, k < 2 → parseFieldDescriptor (TX2 k).2.2.1 = some (tyX2 k) := by decide +kernel
abbrev cX2_init : ByteArray := prog_8_method_1_code
def yX2_init : MethodName := ⟨RX2, "<init>", "()V"⟩
def dkwX2_init_0 : List UInt8 := [42, 183, 0, 1, 42, 7, 188, 10, 181, 0, 7, 177]
abbrev dktX2_init_0 : List UInt8 := dkwX2_init_0 ++ []
theorem dksX2_init_0 : cX2_init.data.toList.drop 0 = dktX2_init_0 := by decide +kernel
theorem dX2_init_0 : decode cX2_init 0 = .ok (.aload_n 0, 1) := dk_42 (dk_at dksX2_init_0 0 rfl rfl)
theorem dX2_init_1 : decode cX2_init 1 = .ok (.invokespecial 1, 3) := dk_183 0 1 (dk_at dksX2_init_0 1 rfl rfl)
theorem dX2_init_4 : decode cX2_init 4 = .ok (.aload_n 0, 1) := dk_42 (dk_at dksX2_init_0 4 rfl rfl)
theorem dX2_init_5 : decode cX2_init 5 = .ok (.iconst 4, 1) := dk_7 (dk_at dksX2_init_0 5 rfl rfl)
theorem dX2_init_6 : decode cX2_init 6 = .ok (.newarray .int, 2) := dk_188_10 (dk_at dksX2_init_0 6 rfl rfl)
theorem dX2_init_8 : decode cX2_init 8 = .ok (.putfield 7, 3) := dk_181 0 7 (dk_at dksX2_init_0 8 rfl rfl)
theorem dX2_init_11 : decode cX2_init 11 = .ok (.return_, 1) := dk_177 (dk_at dksX2_init_0 11 rfl rfl)
abbrev cX2_init_2 : ByteArray := prog_8_method_13_code
def yX2_init_2 : MethodName := ⟨RX2, "init", "(ZLCipherParameters;)V"⟩
def dkwX2_init_2_2 : List UInt8 := [187, 0, 55, 89, 18, 69, 183, 0, 59, 191, 177]
abbrev dktX2_init_2_2 : List UInt8 := dkwX2_init_2_2 ++ []
def dkwX2_init_2_1 : List UInt8 := [187, 0, 55, 89, 18, 57, 183, 0, 59, 191, 42, 42, 27, 45, 182, 0, 62, 181, 0, 66, 167, 0, 13]
abbrev dktX2_init_2_1 : List UInt8 := dkwX2_init_2_1 ++ dktX2_init_2_2
def dkwX2_init_2_0 : List UInt8 := [44, 193, 0, 49, 153, 0, 41, 44, 192, 0, 49, 182, 0, 51, 78, 45, 190, 16, 16, 159, 0, 13]
abbrev dktX2_init_2_0 : List UInt8 := dkwX2_init_2_0 ++ dktX2_init_2_1
theorem dksX2_init_2_0 : cX2_init_2.data.toList.drop 0 = dktX2_init_2_0 := by decide +kernel
theorem dksX2_init_2_1 : cX2_init_2.data.toList.drop 22 = dktX2_init_2_1 := dk_seg dksX2_init_2_0 22 rfl rfl
theorem dksX2_init_2_2 : cX2_init_2.data.toList.drop 45 = dktX2_init_2_2 := dk_seg dksX2_init_2_1 23 rfl rfl
theorem dX2_init_2_0 : decode cX2_init_2 0 = .ok (.aload_n 2, 1) := dk_44 (dk_at dksX2_init_2_0 0 rfl rfl)
theorem dX2_init_2_1 : decode cX2_init_2 1 = .ok (.instanceof 49, 3) := dk_193 0 49 (dk_at dksX2_init_2_0 1 rfl rfl)
theorem dX2_init_2_4 : decode cX2_init_2 4 = .ok (.ifCond .eq 41, 3) := dk_153 0 41 (dk_at dksX2_init_2_0 4 rfl rfl)
theorem dX2_init_2_7 : decode cX2_init_2 7 = .ok (.aload_n 2, 1) := dk_44 (dk_at dksX2_init_2_0 7 rfl rfl)
theorem dX2_init_2_8 : decode cX2_init_2 8 = .ok (.checkcast 49, 3) := dk_192 0 49 (dk_at dksX2_init_2_0 8 rfl rfl)
theorem dX2_init_2_11 : decode cX2_init_2 11 = .ok (.invokevirtual 51, 3) := dk_182 0 51 (dk_at dksX2_init_2_0 11 rfl rfl)
theorem dX2_init_2_14 : decode cX2_init_2 14 = .ok (.astore_n 3, 1) := dk_78 (dk_at dksX2_init_2_0 14 rfl rfl)
theorem dX2_init_2_15 : decode cX2_init_2 15 = .ok (.aload_n 3, 1) := dk_45 (dk_at dksX2_init_2_0 15 rfl rfl)
theorem dX2_init_2_16 : decode cX2_init_2 16 = .ok (.arraylength, 1) := dk_190 (dk_at dksX2_init_2_0 16 rfl rfl)
theorem dX2_init_2_17 : decode cX2_init_2 17 = .ok (.bipush 16, 2) := dk_16 16 (dk_at dksX2_init_2_0 17 rfl rfl)
theorem dX2_init_2_19 : decode cX2_init_2 19 = .ok (.if_icmp .eq 13, 3) := dk_159 0 13 (dk_at dksX2_init_2_0 19 rfl rfl)
theorem dX2_init_2_22 : decode cX2_init_2 22 = .ok (.new 55, 3) := dk_187 0 55 (dk_at dksX2_init_2_1 0 rfl rfl)
theorem dX2_init_2_25 : decode cX2_init_2 25 = .ok (.dup, 1) := dk_89 (dk_at dksX2_init_2_1 3 rfl rfl)
theorem dX2_init_2_26 : decode cX2_init_2 26 = .ok (.ldc 57, 2) := dk_18 57 (dk_at dksX2_init_2_1 4 rfl rfl)
theorem dX2_init_2_28 : decode cX2_init_2 28 = .ok (.invokespecial 59, 3) := dk_183 0 59 (dk_at dksX2_init_2_1 6 rfl rfl)
theorem dX2_init_2_31 : decode cX2_init_2 31 = .ok (.athrow, 1) := dk_191 (dk_at dksX2_init_2_1 9 rfl rfl)
theorem dX2_init_2_32 : decode cX2_init_2 32 = .ok (.aload_n 0, 1) := dk_42 (dk_at dksX2_init_2_1 10 rfl rfl)
theorem dX2_init_2_33 : decode cX2_init_2 33 = .ok (.aload_n 0, 1) := dk_42 (dk_at dksX2_init_2_1 11 rfl rfl)
theorem dX2_init_2_34 : decode cX2_init_2 34 = .ok (.iload_n 1, 1) := dk_27 (dk_at dksX2_init_2_1 12 rfl rfl)
theorem dX2_init_2_35 : decode cX2_init_2 35 = .ok (.aload_n 3, 1) := dk_45 (dk_at dksX2_init_2_1 13 rfl rfl)
theorem dX2_init_2_36 : decode cX2_init_2 36 = .ok (.invokevirtual 62, 3) := dk_182 0 62 (dk_at dksX2_init_2_1 14 rfl rfl)
theorem dX2_init_2_39 : decode cX2_init_2 39 = .ok (.putfield 66, 3) := dk_181 0 66 (dk_at dksX2_init_2_1 17 rfl rfl)
theorem dX2_init_2_42 : decode cX2_init_2 42 = .ok (.goto 13, 3) := dk_167 0 13 (dk_at dksX2_init_2_1 20 rfl rfl)
theorem dX2_init_2_45 : decode cX2_init_2 45 = .ok (.new 55, 3) := dk_187 0 55 (dk_at dksX2_init_2_2 0 rfl rfl)
theorem dX2_init_2_48 : decode cX2_init_2 48 = .ok (.dup, 1) := dk_89 (dk_at dksX2_init_2_2 3 rfl rfl)
theorem dX2_init_2_49 : decode cX2_init_2 49 = .ok (.ldc 69, 2) := dk_18 69 (dk_at dksX2_init_2_2 4 rfl rfl)
theorem dX2_init_2_51 : decode cX2_init_2 51 = .ok (.invokespecial 59, 3) := dk_183 0 59 (dk_at dksX2_init_2_2 6 rfl rfl)
theorem dX2_init_2_54 : decode cX2_init_2 54 = .ok (.athrow, 1) := dk_191 (dk_at dksX2_init_2_2 9 rfl rfl)
theorem dX2_init_2_55 : decode cX2_init_2 55 = .ok (.return_, 1) := dk_177 (dk_at dksX2_init_2_2 10 rfl rfl)
abbrev cX2_expandKey : ByteArray := prog_8_method_6_code
def yX2_expandKey : MethodName := ⟨RX2, "expandKey", "(Z[B)[I"⟩
def dkwX2_expandKey_20 : List UInt8 := [130, 182, 0, 40, 130, 79, 132, 5, 255, 167, 255, 203, 45, 176]
abbrev dktX2_expandKey_20 : List UInt8 := dkwX2_expandKey_20 ++ []
def dkwX2_expandKey_19 : List UInt8 := [46, 45, 21, 5, 5, 96, 46, 130, 45, 21, 5, 4, 96, 46, 130, 178, 0, 37, 16, 31, 21, 5, 100, 46]
abbrev dktX2_expandKey_19 : List UInt8 := dkwX2_expandKey_19 ++ dktX2_expandKey_20
def dkwX2_expandKey_18 : List UInt8 := [16, 27, 54, 5, 21, 5, 155, 0, 54, 45, 21, 5, 45, 21, 5, 7, 96, 46, 42, 45, 21, 5, 6, 96]
abbrev dktX2_expandKey_18 : List UInt8 := dkwX2_expandKey_18 ++ dktX2_expandKey_19
def dkwX2_expandKey_17 : List UInt8 := [16, 31, 46, 45, 16, 30, 46, 130, 45, 16, 29, 46, 130, 178, 0, 37, 6, 46, 130, 182, 0, 40, 130, 79]
abbrev dktX2_expandKey_17 : List UInt8 := dkwX2_expandKey_17 ++ dktX2_expandKey_18
def dkwX2_expandKey_16 : List UInt8 := [16, 30, 46, 130, 178, 0, 37, 5, 46, 130, 182, 0, 40, 130, 79, 45, 16, 28, 25, 6, 6, 46, 42, 45]
abbrev dktX2_expandKey_16 : List UInt8 := dkwX2_expandKey_16 ++ dktX2_expandKey_17
def dkwX2_expandKey_15 : List UInt8 := [130, 182, 0, 40, 130, 79, 45, 16, 29, 25, 6, 5, 46, 42, 25, 6, 6, 46, 45, 16, 31, 46, 130, 45]
abbrev dktX2_expandKey_15 : List UInt8 := dkwX2_expandKey_15 ++ dktX2_expandKey_16
def dkwX2_expandKey_14 : List UInt8 := [25, 6, 4, 46, 42, 25, 6, 5, 46, 25, 6, 6, 46, 130, 45, 16, 31, 46, 130, 178, 0, 37, 4, 46]
abbrev dktX2_expandKey_14 : List UInt8 := dkwX2_expandKey_14 ++ dktX2_expandKey_15
def dkwX2_expandKey_13 : List UInt8 := [25, 6, 5, 46, 130, 25, 6, 6, 46, 130, 178, 0, 37, 3, 46, 130, 182, 0, 40, 130, 79, 45, 16, 30]
abbrev dktX2_expandKey_13 : List UInt8 := dkwX2_expandKey_13 ++ dktX2_expandKey_14
def dkwX2_expandKey_12 : List UInt8 := [182, 0, 40, 130, 79, 132, 5, 1, 167, 255, 204, 45, 16, 31, 25, 6, 3, 46, 42, 25, 6, 4, 46]
abbrev dktX2_expandKey_12 : List UInt8 := dkwX2_expandKey_12 ++ dktX2_expandKey_13
def dkwX2_expandKey_11 : List UInt8 := [46, 45, 21, 5, 5, 100, 46, 130, 45, 21, 5, 4, 100, 46, 130, 178, 0, 37, 21, 5, 46, 130]
abbrev dktX2_expandKey_11 : List UInt8 := dkwX2_expandKey_11 ++ dktX2_expandKey_12
def dkwX2_expandKey_10 : List UInt8 := [54, 5, 21, 5, 16, 32, 162, 0, 243, 45, 21, 5, 45, 21, 5, 7, 100, 46, 42, 45, 21, 5, 6, 100]
abbrev dktX2_expandKey_10 : List UInt8 := dkwX2_expandKey_10 ++ dktX2_expandKey_11
def dkwX2_expandKey_9 : List UInt8 := [45, 3, 46, 45, 4, 46, 130, 45, 5, 46, 130, 178, 0, 37, 6, 46, 130, 182, 0, 40, 130, 79, 7]
abbrev dktX2_expandKey_9 : List UInt8 := dkwX2_expandKey_9 ++ dktX2_expandKey_10
def dkwX2_expandKey_8 : List UInt8 := [46, 130, 45, 4, 46, 130, 178, 0, 37, 5, 46, 130, 182, 0, 40, 130, 79, 45, 6, 25, 6, 6, 46, 42]
abbrev dktX2_expandKey_8 : List UInt8 := dkwX2_expandKey_8 ++ dktX2_expandKey_9
def dkwX2_expandKey_7 : List UInt8 := [178, 0, 37, 4, 46, 130, 182, 0, 40, 130, 79, 45, 5, 25, 6, 5, 46, 42, 25, 6, 6, 46, 45, 3]
abbrev dktX2_expandKey_7 : List UInt8 := dkwX2_expandKey_7 ++ dktX2_expandKey_8
def dkwX2_expandKey_6 : List UInt8 := [130, 79, 45, 4, 25, 6, 4, 46, 42, 25, 6, 5, 46, 25, 6, 6, 46, 130, 45, 3, 46, 130]
abbrev dktX2_expandKey_6 : List UInt8 := dkwX2_expandKey_6 ++ dktX2_expandKey_7
def dkwX2_expandKey_5 : List UInt8 := [42, 25, 6, 4, 46, 25, 6, 5, 46, 130, 25, 6, 6, 46, 130, 178, 0, 37, 3, 46, 130, 182, 0, 40]
abbrev dktX2_expandKey_5 : List UInt8 := dkwX2_expandKey_5 ++ dktX2_expandKey_6
def dkwX2_expandKey_4 : List UInt8 := [25, 6, 6, 25, 4, 6, 46, 178, 0, 34, 6, 46, 130, 79, 27, 153, 0, 183, 45, 3, 25, 6, 3, 46]
abbrev dktX2_expandKey_4 : List UInt8 := dkwX2_expandKey_4 ++ dktX2_expandKey_5
def dkwX2_expandKey_3 : List UInt8 := [4, 46, 178, 0, 34, 4, 46, 130, 79, 25, 6, 5, 25, 4, 5, 46, 178, 0, 34, 5, 46, 130, 79]
abbrev dktX2_expandKey_3 : List UInt8 := dkwX2_expandKey_3 ++ dktX2_expandKey_4
def dkwX2_expandKey_2 : List UInt8 := [7, 188, 10, 58, 6, 25, 6, 3, 25, 4, 3, 46, 178, 0, 34, 3, 46, 130, 79, 25, 6, 4, 25, 4]
abbrev dktX2_expandKey_2 : List UInt8 := dkwX2_expandKey_2 ++ dktX2_expandKey_3
def dkwX2_expandKey_1 : List UInt8 := [184, 0, 28, 79, 25, 4, 5, 44, 16, 8, 184, 0, 28, 79, 25, 4, 6, 44, 16, 12, 184, 0, 28, 79]
abbrev dktX2_expandKey_1 : List UInt8 := dkwX2_expandKey_1 ++ dktX2_expandKey_2
def dkwX2_expandKey_0 : List UInt8 := [16, 32, 188, 10, 78, 7, 188, 10, 58, 4, 25, 4, 3, 44, 3, 184, 0, 28, 79, 25, 4, 4, 44, 7]
abbrev dktX2_expandKey_0 : List UInt8 := dkwX2_expandKey_0 ++ dktX2_expandKey_1
theorem dksX2_expandKey_0 : cX2_expandKey.data.toList.drop 0 = dktX2_expandKey_0 := by decide +kernel
theorem dksX2_expandKey_1 : cX2_expandKey.data.toList.drop 24 = dktX2_expandKey_1 := dk_seg dksX2_expandKey_0 24 rfl rfl
theorem dksX2_expandKey_2 : cX2_expandKey.data.toList.drop 48 = dktX2_expandKey_2 := dk_seg dksX2_expandKey_1 24 rfl rfl
theorem dksX2_expandKey_3 : cX2_expandKey.data.toList.drop 72 = dktX2_expandKey_3 := dk_seg dksX2_expandKey_2 24 rfl rfl
theorem dksX2_expandKey_4 : cX2_expandKey.data.toList.drop 95 = dktX2_expandKey_4 := dk_seg dksX2_expandKey_3 23 rfl rfl
theorem dksX2_expandKey_5 : cX2_expandKey.data.toList.drop 119 = dktX2_expandKey_5 := dk_seg dksX2_expandKey_4 24 rfl rfl
theorem dksX2_expandKey_6 : cX2_expandKey.data.toList.drop 143 = dktX2_expandKey_6 := dk_seg dksX2_expandKey_5 24 rfl rfl
theorem dksX2_expandKey_7 : cX2_expandKey.data.toList.drop 165 = dktX2_expandKey_7 := dk_seg dksX2_expandKey_6 22 rfl rfl
theorem dksX2_expandKey_8 : cX2_expandKey.data.toList.drop 189 = dktX2_expandKey_8 := dk_seg dksX2_expandKey_7 24 rfl rfl
theorem dksX2_expandKey_9 : cX2_expandKey.data.toList.drop 213 = dktX2_expandKey_9 := dk_seg dksX2_expandKey_8 24 rfl rfl
theorem dksX2_expandKey_10 : cX2_expandKey.data.toList.drop 236 = dktX2_expandKey_10 := dk_seg dksX2_expandKey_9 23 rfl rfl
theorem dksX2_expandKey_11 : cX2_expandKey.data.toList.drop 260 = dktX2_expandKey_11 := dk_seg dksX2_expandKey_10 24 rfl rfl
theorem dksX2_expandKey_12 : cX2_expandKey.data.toList.drop 282 = dktX2_expandKey_12 := dk_seg dksX2_expandKey_11 22 rfl rfl
theorem dksX2_expandKey_13 : cX2_expandKey.data.toList.drop 305 = dktX2_expandKey_13 := dk_seg dksX2_expandKey_12 23 rfl rfl
theorem dksX2_expandKey_14 : cX2_expandKey.data.toList.drop 329 = dktX2_expandKey_14 := dk_seg dksX2_expandKey_13 24 rfl rfl
theorem dksX2_expandKey_15 : cX2_expandKey.data.toList.drop 353 = dktX2_expandKey_15 := dk_seg dksX2_expandKey_14 24 rfl rfl
theorem dksX2_expandKey_16 : cX2_expandKey.data.toList.drop 377 = dktX2_expandKey_16 := dk_seg dksX2_expandKey_15 24 rfl rfl
theorem dksX2_expandKey_17 : cX2_expandKey.data.toList.drop 401 = dktX2_expandKey_17 := dk_seg dksX2_expandKey_16 24 rfl rfl
theorem dksX2_expandKey_18 : cX2_expandKey.data.toList.drop 425 = dktX2_expandKey_18 := dk_seg dksX2_expandKey_17 24 rfl rfl
theorem dksX2_expandKey_19 : cX2_expandKey.data.toList.drop 449 = dktX2_expandKey_19 := dk_seg dksX2_expandKey_18 24 rfl rfl
theorem dksX2_expandKey_20 : cX2_expandKey.data.toList.drop 473 = dktX2_expandKey_20 := dk_seg dksX2_expandKey_19 24 rfl rfl
theorem dX2_expandKey_0 : decode cX2_expandKey 0 = .ok (.bipush 32, 2) := dk_16 32 (dk_at dksX2_expandKey_0 0 rfl rfl)
theorem dX2_expandKey_2 : decode cX2_expandKey 2 = .ok (.newarray .int, 2) := dk_188_10 (dk_at dksX2_expandKey_0 2 rfl rfl)
theorem dX2_expandKey_4 : decode cX2_expandKey 4 = .ok (.astore_n 3, 1) := dk_78 (dk_at dksX2_expandKey_0 4 rfl rfl)
theorem dX2_expandKey_5 : decode cX2_expandKey 5 = .ok (.iconst 4, 1) := dk_7 (dk_at dksX2_expandKey_0 5 rfl rfl)
theorem dX2_expandKey_6 : decode cX2_expandKey 6 = .ok (.newarray .int, 2) := dk_188_10 (dk_at dksX2_expandKey_0 6 rfl rfl)
theorem dX2_expandKey_8 : decode cX2_expandKey 8 = .ok (.astore 4, 2) := dk_58 4 (dk_at dksX2_expandKey_0 8 rfl rfl)
theorem dX2_expandKey_10 : decode cX2_expandKey 10 = .ok (.aload 4, 2) := dk_25 4 (dk_at dksX2_expandKey_0 10 rfl rfl)
theorem dX2_expandKey_12 : decode cX2_expandKey 12 = .ok (.iconst 0, 1) := dk_3 (dk_at dksX2_expandKey_0 12 rfl rfl)
theorem dX2_expandKey_13 : decode cX2_expandKey 13 = .ok (.aload_n 2, 1) := dk_44 (dk_at dksX2_expandKey_0 13 rfl rfl)
theorem dX2_expandKey_14 : decode cX2_expandKey 14 = .ok (.iconst 0, 1) := dk_3 (dk_at dksX2_expandKey_0 14 rfl rfl)
theorem dX2_expandKey_15 : decode cX2_expandKey 15 = .ok (.invokestatic 28, 3) := dk_184 0 28 (dk_at dksX2_expandKey_0 15 rfl rfl)
theorem dX2_expandKey_18 : decode cX2_expandKey 18 = .ok (.iastore, 1) := dk_79 (dk_at dksX2_expandKey_0 18 rfl rfl)
theorem dX2_expandKey_19 : decode cX2_expandKey 19 = .ok (.aload 4, 2) := dk_25 4 (dk_at dksX2_expandKey_0 19 rfl rfl)
theorem dX2_expandKey_21 : decode cX2_expandKey 21 = .ok (.iconst 1, 1) := dk_4 (dk_at dksX2_expandKey_0 21 rfl rfl)
theorem dX2_expandKey_22 : decode cX2_expandKey 22 = .ok (.aload_n 2, 1) := dk_44 (dk_at dksX2_expandKey_0 22 rfl rfl)
theorem dX2_expandKey_23 : decode cX2_expandKey 23 = .ok (.iconst 4, 1) := dk_7 (dk_at dksX2_expandKey_0 23 rfl rfl)
theorem dX2_expandKey_24 : decode cX2_expandKey 24 = .ok (.invokestatic 28, 3) := dk_184 0 28 (dk_at dksX2_expandKey_1 0 rfl rfl)
theorem dX2_expandKey_27 : decode cX2_expandKey 27 = .ok (.iastore, 1) := dk_79 (dk_at dksX2_expandKey_1 3 rfl rfl)
theorem dX2_expandKey_28 : decode cX2_expandKey 28 = .ok (.aload 4, 2) := dk_25 4 (dk_at dksX2_expandKey_1 4 rfl rfl)
theorem dX2_expandKey_30 : decode cX2_expandKey 30 = .ok (.iconst 2, 1) := dk_5 (dk_at dksX2_expandKey_1 6 rfl rfl)
theorem dX2_expandKey_31 : decode cX2_expandKey 31 = .ok (.aload_n 2, 1) := dk_44 (dk_at dksX2_expandKey_1 7 rfl rfl)
theorem dX2_expandKey_32 : decode cX2_expandKey 32 = .ok (.bipush 8, 2) := dk_16 8 (dk_at dksX2_expandKey_1 8 rfl rfl)
theorem dX2_expandKey_34 : decode cX2_expandKey 34 = .ok (.invokestatic 28, 3) := dk_184 0 28 (dk_at dksX2_expandKey_1 10 rfl rfl)
theorem dX2_expandKey_37 : decode cX2_expandKey 37 = .ok (.iastore, 1) := dk_79 (dk_at dksX2_expandKey_1 13 rfl rfl)
theorem dX2_expandKey_38 : decode cX2_expandKey 38 = .ok (.aload 4, 2) := dk_25 4 (dk_at dksX2_expandKey_1 14 rfl rfl)
theorem dX2_expandKey_40 : decode cX2_expandKey 40 = .ok (.iconst 3, 1) := dk_6 (dk_at dksX2_expandKey_1 16 rfl rfl)
theorem dX2_expandKey_41 : decode cX2_expandKey 41 = .ok (.aload_n 2, 1) := dk_44 (dk_at dksX2_expandKey_1 17 rfl rfl)
theorem dX2_expandKey_42 : decode cX2_expandKey 42 = .ok (.bipush 12, 2) := dk_16 12 (dk_at dksX2_expandKey_1 18 rfl rfl)
theorem dX2_expandKey_44 : decode cX2_expandKey 44 = .ok (.invokestatic 28, 3) := dk_184 0 28 (dk_at dksX2_expandKey_1 20 rfl rfl)
theorem dX2_expandKey_47 : decode cX2_expandKey 47 = .ok (.iastore, 1) := dk_79 (dk_at dksX2_expandKey_1 23 rfl rfl)
theorem dX2_expandKey_48 : decode cX2_expandKey 48 = .ok (.iconst 4, 1) := dk_7 (dk_at dksX2_expandKey_2 0 rfl rfl)
theorem dX2_expandKey_49 : decode cX2_expandKey 49 = .ok (.newarray .int, 2) := dk_188_10 (dk_at dksX2_expandKey_2 1 rfl rfl)
theorem dX2_expandKey_51 : decode cX2_expandKey 51 = .ok (.astore 6, 2) := dk_58 6 (dk_at dksX2_expandKey_2 3 rfl rfl)
theorem dX2_expandKey_53 : decode cX2_expandKey 53 = .ok (.aload 6, 2) := dk_25 6 (dk_at dksX2_expandKey_2 5 rfl rfl)
theorem dX2_expandKey_55 : decode cX2_expandKey 55 = .ok (.iconst 0, 1) := dk_3 (dk_at dksX2_expandKey_2 7 rfl rfl)
theorem dX2_expandKey_56 : decode cX2_expandKey 56 = .ok (.aload 4, 2) := dk_25 4 (dk_at dksX2_expandKey_2 8 rfl rfl)
theorem dX2_expandKey_58 : decode cX2_expandKey 58 = .ok (.iconst 0, 1) := dk_3 (dk_at dksX2_expandKey_2 10 rfl rfl)
theorem dX2_expandKey_59 : decode cX2_expandKey 59 = .ok (.iaload, 1) := dk_46 (dk_at dksX2_expandKey_2 11 rfl rfl)
theorem dX2_expandKey_60 : decode cX2_expandKey 60 = .ok (.getstatic 34, 3) := dk_178 0 34 (dk_at dksX2_expandKey_2 12 rfl rfl)
theorem dX2_expandKey_63 : decode cX2_expandKey 63 = .ok (.iconst 0, 1) := dk_3 (dk_at dksX2_expandKey_2 15 rfl rfl)
theorem dX2_expandKey_64 : decode cX2_expandKey 64 = .ok (.iaload, 1) := dk_46 (dk_at dksX2_expandKey_2 16 rfl rfl)
theorem dX2_expandKey_65 : decode cX2_expandKey 65 = .ok (.ixor, 1) := dk_130 (dk_at dksX2_expandKey_2 17 rfl rfl)
theorem dX2_expandKey_66 : decode cX2_expandKey 66 = .ok (.iastore, 1) := dk_79 (dk_at dksX2_expandKey_2 18 rfl rfl)
theorem dX2_expandKey_67 : decode cX2_expandKey 67 = .ok (.aload 6, 2) := dk_25 6 (dk_at dksX2_expandKey_2 19 rfl rfl)
theorem dX2_expandKey_69 : decode cX2_expandKey 69 = .ok (.iconst 1, 1) := dk_4 (dk_at dksX2_expandKey_2 21 rfl rfl)
theorem dX2_expandKey_70 : decode cX2_expandKey 70 = .ok (.aload 4, 2) := dk_25 4 (dk_at dksX2_expandKey_2 22 rfl rfl)
theorem dX2_expandKey_72 : decode cX2_expandKey 72 = .ok (.iconst 1, 1) := dk_4 (dk_at dksX2_expandKey_3 0 rfl rfl)
theorem dX2_expandKey_73 : decode cX2_expandKey 73 = .ok (.iaload, 1) := dk_46 (dk_at dksX2_expandKey_3 1 rfl rfl)
theorem dX2_expandKey_74 : decode cX2_expandKey 74 = .ok (.getstatic 34, 3) := dk_178 0 34 (dk_at dksX2_expandKey_3 2 rfl rfl)
theorem dX2_expandKey_77 : decode cX2_expandKey 77 = .ok (.iconst 1, 1) := dk_4 (dk_at dksX2_expandKey_3 5 rfl rfl)
theorem dX2_expandKey_78 : decode cX2_expandKey 78 = .ok (.iaload, 1) := dk_46 (dk_at dksX2_expandKey_3 6 rfl rfl)
theorem dX2_expandKey_79 : decode cX2_expandKey 79 = .ok (.ixor, 1) := dk_130 (dk_at dksX2_expandKey_3 7 rfl rfl)
theorem dX2_expandKey_80 : decode cX2_expandKey 80 = .ok (.iastore, 1) := dk_79 (dk_at dksX2_expandKey_3 8 rfl rfl)
theorem dX2_expandKey_81 : decode cX2_expandKey 81 = .ok (.aload 6, 2) := dk_25 6 (dk_at dksX2_expandKey_3 9 rfl rfl)
theorem dX2_expandKey_83 : decode cX2_expandKey 83 = .ok (.iconst 2, 1) := dk_5 (dk_at dksX2_expandKey_3 11 rfl rfl)
theorem dX2_expandKey_84 : decode cX2_expandKey 84 = .ok (.aload 4, 2) := dk_25 4 (dk_at dksX2_expandKey_3 12 rfl rfl)
theorem dX2_expandKey_86 : decode cX2_expandKey 86 = .ok (.iconst 2, 1) := dk_5 (dk_at dksX2_expandKey_3 14 rfl rfl)
theorem dX2_expandKey_87 : decode cX2_expandKey 87 = .ok (.iaload, 1) := dk_46 (dk_at dksX2_expandKey_3 15 rfl rfl)
theorem dX2_expandKey_88 : decode cX2_expandKey 88 = .ok (.getstatic 34, 3) := dk_178 0 34 (dk_at dksX2_expandKey_3 16 rfl rfl)
theorem dX2_expandKey_91 : decode cX2_expandKey 91 = .ok (.iconst 2, 1) := dk_5 (dk_at dksX2_expandKey_3 19 rfl rfl)
theorem dX2_expandKey_92 : decode cX2_expandKey 92 = .ok (.iaload, 1) := dk_46 (dk_at dksX2_expandKey_3 20 rfl rfl)
theorem dX2_expandKey_93 : decode cX2_expandKey 93 = .ok (.ixor, 1) := dk_130 (dk_at dksX2_expandKey_3 21 rfl rfl)
theorem dX2_expandKey_94 : decode cX2_expandKey 94 = .ok (.iastore, 1) := dk_79 (dk_at dksX2_expandKey_3 22 rfl rfl)
theorem dX2_expandKey_95 : decode cX2_expandKey 95 = .ok (.aload 6, 2) := dk_25 6 (dk_at dksX2_expandKey_4 0 rfl rfl)
theorem dX2_expandKey_97 : decode cX2_expandKey 97 = .ok (.iconst 3, 1) := dk_6 (dk_at dksX2_expandKey_4 2 rfl rfl)
theorem dX2_expandKey_98 : decode cX2_expandKey 98 = .ok (.aload 4, 2) := dk_25 4 (dk_at dksX2_expandKey_4 3 rfl rfl)
theorem dX2_expandKey_100 : decode cX2_expandKey 100 = .ok (.iconst 3, 1) := dk_6 (dk_at dksX2_expandKey_4 5 rfl rfl)
theorem dX2_expandKey_101 : decode cX2_expandKey 101 = .ok (.iaload, 1) := dk_46 (dk_at dksX2_expandKey_4 6 rfl rfl)
theorem dX2_expandKey_102 : decode cX2_expandKey 102 = .ok (.getstatic 34, 3) := dk_178 0 34 (dk_at dksX2_expandKey_4 7 rfl rfl)
theorem dX2_expandKey_105 : decode cX2_expandKey 105 = .ok (.iconst 3, 1) := dk_6 (dk_at dksX2_expandKey_4 10 rfl rfl)
theorem dX2_expandKey_106 : decode cX2_expandKey 106 = .ok (.iaload, 1) := dk_46 (dk_at dksX2_expandKey_4 11 rfl rfl)
theorem dX2_expandKey_107 : decode cX2_expandKey 107 = .ok (.ixor, 1) := dk_130 (dk_at dksX2_expandKey_4 12 rfl rfl)
theorem dX2_expandKey_108 : decode cX2_expandKey 108 = .ok (.iastore, 1) := dk_79 (dk_at dksX2_expandKey_4 13 rfl rfl)
theorem dX2_expandKey_109 : decode cX2_expandKey 109 = .ok (.iload_n 1, 1) := dk_27 (dk_at dksX2_expandKey_4 14 rfl rfl)
theorem dX2_expandKey_110 : decode cX2_expandKey 110 = .ok (.ifCond .eq 183, 3) := dk_153 0 183 (dk_at dksX2_expandKey_4 15 rfl rfl)
theorem dX2_expandKey_113 : decode cX2_expandKey 113 = .ok (.aload_n 3, 1) := dk_45 (dk_at dksX2_expandKey_4 18 rfl rfl)
theorem dX2_expandKey_114 : decode cX2_expandKey 114 = .ok (.iconst 0, 1) := dk_3 (dk_at dksX2_expandKey_4 19 rfl rfl)
theorem dX2_expandKey_115 : decode cX2_expandKey 115 = .ok (.aload 6, 2) := dk_25 6 (dk_at dksX2_expandKey_4 20 rfl rfl)
theorem dX2_expandKey_117 : decode cX2_expandKey 117 = .ok (.iconst 0, 1) := dk_3 (dk_at dksX2_expandKey_4 22 rfl rfl)
theorem dX2_expandKey_118 : decode cX2_expandKey 118 = .ok (.iaload, 1) := dk_46 (dk_at dksX2_expandKey_4 23 rfl rfl)
theorem dX2_expandKey_119 : decode cX2_expandKey 119 = .ok (.aload_n 0, 1) := dk_42 (dk_at dksX2_expandKey_5 0 rfl rfl)
theorem dX2_expandKey_120 : decode cX2_expandKey 120 = .ok (.aload 6, 2) := dk_25 6 (dk_at dksX2_expandKey_5 1 rfl rfl)
theorem dX2_expandKey_122 : decode cX2_expandKey 122 = .ok (.iconst 1, 1) := dk_4 (dk_at dksX2_expandKey_5 3 rfl rfl)
theorem dX2_expandKey_123 : decode cX2_expandKey 123 = .ok (.iaload, 1) := dk_46 (dk_at dksX2_expandKey_5 4 rfl rfl)
theorem dX2_expandKey_124 : decode cX2_expandKey 124 = .ok (.aload 6, 2) := dk_25 6 (dk_at dksX2_expandKey_5 5 rfl rfl)
theorem dX2_expandKey_126 : decode cX2_expandKey 126 = .ok (.iconst 2, 1) := dk_5 (dk_at dksX2_expandKey_5 7 rfl rfl)
theorem dX2_expandKey_127 : decode cX2_expandKey 127 = .ok (.iaload, 1) := dk_46 (dk_at dksX2_expandKey_5 8 rfl rfl)
theorem dX2_expandKey_128 : decode cX2_expandKey 128 = .ok (.ixor, 1) := dk_130 (dk_at dksX2_expandKey_5 9 rfl rfl)
theorem dX2_expandKey_129 : decode cX2_expandKey 129 = .ok (.aload 6, 2) := dk_25 6 (dk_at dksX2_expandKey_5 10 rfl rfl)
theorem dX2_expandKey_131 : decode cX2_expandKey 131 = .ok (.iconst 3, 1) := dk_6 (dk_at dksX2_expandKey_5 12 rfl rfl)
theorem dX2_expandKey_132 : decode cX2_expandKey 132 = .ok (.iaload, 1) := dk_46 (dk_at dksX2_expandKey_5 13 rfl rfl)
theorem dX2_expandKey_133 : decode cX2_expandKey 133 = .ok (.ixor, 1) := dk_130 (dk_at dksX2_expandKey_5 14 rfl rfl)
theorem dX2_expandKey_134 : decode cX2_expandKey 134 = .ok (.getstatic 37, 3) := dk_178 0 37 (dk_at dksX2_expandKey_5 15 rfl rfl)
theorem dX2_expandKey_137 : decode cX2_expandKey 137 = .ok (.iconst 0, 1) := dk_3 (dk_at dksX2_expandKey_5 18 rfl rfl)
theorem dX2_expandKey_138 : decode cX2_expandKey 138 = .ok (.iaload, 1) := dk_46 (dk_at dksX2_expandKey_5 19 rfl rfl)
theorem dX2_expandKey_139 : decode cX2_expandKey 139 = .ok (.ixor, 1) := dk_130 (dk_at dksX2_expandKey_5 20 rfl rfl)
theorem dX2_expandKey_140 : decode cX2_expandKey 140 = .ok (.invokevirtual 40, 3) := dk_182 0 40 (dk_at dksX2_expandKey_5 21 rfl rfl)
theorem dX2_expandKey_143 : decode cX2_expandKey 143 = .ok (.ixor, 1) := dk_130 (dk_at dksX2_expandKey_6 0 rfl rfl)
theorem dX2_expandKey_144 : decode cX2_expandKey 144 = .ok (.iastore, 1) := dk_79 (dk_at dksX2_expandKey_6 1 rfl rfl)
theorem dX2_expandKey_145 : decode cX2_expandKey 145 = .ok (.aload_n 3, 1) := dk_45 (dk_at dksX2_expandKey_6 2 rfl rfl)
theorem dX2_expandKey_146 : decode cX2_expandKey 146 = .ok (.iconst 1, 1) := dk_4 (dk_at dksX2_expandKey_6 3 rfl rfl)
theorem dX2_expandKey_147 : decode cX2_expandKey 147 = .ok (.aload 6, 2) := dk_25 6 (dk_at dksX2_expandKey_6 4 rfl rfl)
theorem dX2_expandKey_149 : decode cX2_expandKey 149 = .ok (.iconst 1, 1) := dk_4 (dk_at dksX2_expandKey_6 6 rfl rfl)
theorem dX2_expandKey_150 : decode cX2_expandKey 150 = .ok (.iaload, 1) := dk_46 (dk_at dksX2_expandKey_6 7 rfl rfl)
theorem dX2_expandKey_151 : decode cX2_expandKey 151 = .ok (.aload_n 0, 1) := dk_42 (dk_at dksX2_expandKey_6 8 rfl rfl)
theorem dX2_expandKey_152 : decode cX2_expandKey 152 = .ok (.aload 6, 2) := dk_25 6 (dk_at dksX2_expandKey_6 9 rfl rfl)
theorem dX2_expandKey_154 : decode cX2_expandKey 154 = .ok (.iconst 2, 1) := dk_5 (dk_at dksX2_expandKey_6 11 rfl rfl)
theorem dX2_expandKey_155 : decode cX2_expandKey 155 = .ok (.iaload, 1) := dk_46 (dk_at dksX2_expandKey_6 12 rfl rfl)
theorem dX2_expandKey_156 : decode cX2_expandKey 156 = .ok (.aload 6, 2) := dk_25 6 (dk_at dksX2_expandKey_6 13 rfl rfl)
theorem dX2_expandKey_158 : decode cX2_expandKey 158 = .ok (.iconst 3, 1) := dk_6 (dk_at dksX2_expandKey_6 15 rfl rfl)
theorem dX2_expandKey_159 : decode cX2_expandKey 159 = .ok (.iaload, 1) := dk_46 (dk_at dksX2_expandKey_6 16 rfl rfl)
theorem dX2_expandKey_160 : decode cX2_expandKey 160 = .ok (.ixor, 1) := dk_130 (dk_at dksX2_expandKey_6 17 rfl rfl)
theorem dX2_expandKey_161 : decode cX2_expandKey 161 = .ok (.aload_n 3, 1) := dk_45 (dk_at dksX2_expandKey_6 18 rfl rfl)
theorem dX2_expandKey_162 : decode cX2_expandKey 162 = .ok (.iconst 0, 1) := dk_3 (dk_at dksX2_expandKey_6 19 rfl rfl)
theorem dX2_expandKey_163 : decode cX2_expandKey 163 = .ok (.iaload, 1) := dk_46 (dk_at dksX2_expandKey_6 20 rfl rfl)
theorem dX2_expandKey_164 : decode cX2_expandKey 164 = .ok (.ixor, 1) := dk_130 (dk_at dksX2_expandKey_6 21 rfl rfl)
theorem dX2_expandKey_165 : decode cX2_expandKey 165 = .ok (.getstatic 37, 3) := dk_178 0 37 (dk_at dksX2_expandKey_7 0 rfl rfl)
theorem dX2_expandKey_168 : decode cX2_expandKey 168 = .ok (.iconst 1, 1) := dk_4 (dk_at dksX2_expandKey_7 3 rfl rfl)
theorem dX2_expandKey_169 : decode cX2_expandKey 169 = .ok (.iaload, 1) := dk_46 (dk_at dksX2_expandKey_7 4 rfl rfl)
theorem dX2_expandKey_170 : decode cX2_expandKey 170 = .ok (.ixor, 1) := dk_130 (dk_at dksX2_expandKey_7 5 rfl rfl)
theorem dX2_expandKey_171 : decode cX2_expandKey 171 = .ok (.invokevirtual 40, 3) := dk_182 0 40 (dk_at dksX2_expandKey_7 6 rfl rfl)
theorem dX2_expandKey_174 : decode cX2_expandKey 174 = .ok (.ixor, 1) := dk_130 (dk_at dksX2_expandKey_7 9 rfl rfl)
theorem dX2_expandKey_175 : decode cX2_expandKey 175 = .ok (.iastore, 1) := dk_79 (dk_at dksX2_expandKey_7 10 rfl rfl)
theorem dX2_expandKey_176 : decode cX2_expandKey 176 = .ok (.aload_n 3, 1) := dk_45 (dk_at dksX2_expandKey_7 11 rfl rfl)
theorem dX2_expandKey_177 : decode cX2_expandKey 177 = .ok (.iconst 2, 1) := dk_5 (dk_at dksX2_expandKey_7 12 rfl rfl)
theorem dX2_expandKey_178 : decode cX2_expandKey 178 = .ok (.aload 6, 2) := dk_25 6 (dk_at dksX2_expandKey_7 13 rfl rfl)
theorem dX2_expandKey_180 : decode cX2_expandKey 180 = .ok (.iconst 2, 1) := dk_5 (dk_at dksX2_expandKey_7 15 rfl rfl)
theorem dX2_expandKey_181 : decode cX2_expandKey 181 = .ok (.iaload, 1) := dk_46 (dk_at dksX2_expandKey_7 16 rfl rfl)
theorem dX2_expandKey_182 : decode cX2_expandKey 182 = .ok (.aload_n 0, 1) := dk_42 (dk_at dksX2_expandKey_7 17 rfl rfl)
theorem dX2_expandKey_183 : decode cX2_expandKey 183 = .ok (.aload 6, 2) := dk_25 6 (dk_at dksX2_expandKey_7 18 rfl rfl)
theorem dX2_expandKey_185 : decode cX2_expandKey 185 = .ok (.iconst 3, 1) := dk_6 (dk_at dksX2_expandKey_7 20 rfl rfl)
theorem dX2_expandKey_186 : decode cX2_expandKey 186 = .ok (.iaload, 1) := dk_46 (dk_at dksX2_expandKey_7 21 rfl rfl)
theorem dX2_expandKey_187 : decode cX2_expandKey 187 = .ok (.aload_n 3, 1) := dk_45 (dk_at dksX2_expandKey_7 22 rfl rfl)
theorem dX2_expandKey_188 : decode cX2_expandKey 188 = .ok (.iconst 0, 1) := dk_3 (dk_at dksX2_expandKey_7 23 rfl rfl)
theorem dX2_expandKey_189 : decode cX2_expandKey 189 = .ok (.iaload, 1) := dk_46 (dk_at dksX2_expandKey_8 0 rfl rfl)
theorem dX2_expandKey_190 : decode cX2_expandKey 190 = .ok (.ixor, 1) := dk_130 (dk_at dksX2_expandKey_8 1 rfl rfl)
theorem dX2_expandKey_191 : decode cX2_expandKey 191 = .ok (.aload_n 3, 1) := dk_45 (dk_at dksX2_expandKey_8 2 rfl rfl)
theorem dX2_expandKey_192 : decode cX2_expandKey 192 = .ok (.iconst 1, 1) := dk_4 (dk_at dksX2_expandKey_8 3 rfl rfl)
theorem dX2_expandKey_193 : decode cX2_expandKey 193 = .ok (.iaload, 1) := dk_46 (dk_at dksX2_expandKey_8 4 rfl rfl)
theorem dX2_expandKey_194 : decode cX2_expandKey 194 = .ok (.ixor, 1) := dk_130 (dk_at dksX2_expandKey_8 5 rfl rfl)
theorem dX2_expandKey_195 : decode cX2_expandKey 195 = .ok (.getstatic 37, 3) := dk_178 0 37 (dk_at dksX2_expandKey_8 6 rfl rfl)
theorem dX2_expandKey_198 : decode cX2_expandKey 198 = .ok (.iconst 2, 1) := dk_5 (dk_at dksX2_expandKey_8 9 rfl rfl)
theorem dX2_expandKey_199 : decode cX2_expandKey 199 = .ok (.iaload, 1) := dk_46 (dk_at dksX2_expandKey_8 10 rfl rfl)
theorem dX2_expandKey_200 : decode cX2_expandKey 200 = .ok (.ixor, 1) := dk_130 (dk_at dksX2_expandKey_8 11 rfl rfl)
theorem dX2_expandKey_201 : decode cX2_expandKey 201 = .ok (.invokevirtual 40, 3) := dk_182 0 40 (dk_at dksX2_expandKey_8 12 rfl rfl)
theorem dX2_expandKey_204 : decode cX2_expandKey 204 = .ok (.ixor, 1) := dk_130 (dk_at dksX2_expandKey_8 15 rfl rfl)
theorem dX2_expandKey_205 : decode cX2_expandKey 205 = .ok (.iastore, 1) := dk_79 (dk_at dksX2_expandKey_8 16 rfl rfl)
theorem dX2_expandKey_206 : decode cX2_expandKey 206 = .ok (.aload_n 3, 1) := dk_45 (dk_at dksX2_expandKey_8 17 rfl rfl)
theorem dX2_expandKey_207 : decode cX2_expandKey 207 = .ok (.iconst 3, 1) := dk_6 (dk_at dksX2_expandKey_8 18 rfl rfl)
theorem dX2_expandKey_208 : decode cX2_expandKey 208 = .ok (.aload 6, 2) := dk_25 6 (dk_at dksX2_expandKey_8 19 rfl rfl)
theorem dX2_expandKey_210 : decode cX2_expandKey 210 = .ok (.iconst 3, 1) := dk_6 (dk_at dksX2_expandKey_8 21 rfl rfl)
theorem dX2_expandKey_211 : decode cX2_expandKey 211 = .ok (.iaload, 1) := dk_46 (dk_at dksX2_expandKey_8 22 rfl rfl)
theorem dX2_expandKey_212 : decode cX2_expandKey 212 = .ok (.aload_n 0, 1) := dk_42 (dk_at dksX2_expandKey_8 23 rfl rfl)
theorem dX2_expandKey_213 : decode cX2_expandKey 213 = .ok (.aload_n 3, 1) := dk_45 (dk_at dksX2_expandKey_9 0 rfl rfl)
theorem dX2_expandKey_214 : decode cX2_expandKey 214 = .ok (.iconst 0, 1) := dk_3 (dk_at dksX2_expandKey_9 1 rfl rfl)
theorem dX2_expandKey_215 : decode cX2_expandKey 215 = .ok (.iaload, 1) := dk_46 (dk_at dksX2_expandKey_9 2 rfl rfl)
theorem dX2_expandKey_216 : decode cX2_expandKey 216 = .ok (.aload_n 3, 1) := dk_45 (dk_at dksX2_expandKey_9 3 rfl rfl)
theorem dX2_expandKey_217 : decode cX2_expandKey 217 = .ok (.iconst 1, 1) := dk_4 (dk_at dksX2_expandKey_9 4 rfl rfl)
theorem dX2_expandKey_218 : decode cX2_expandKey 218 = .ok (.iaload, 1) := dk_46 (dk_at dksX2_expandKey_9 5 rfl rfl)
theorem dX2_expandKey_219 : decode cX2_expandKey 219 = .ok (.ixor, 1) := dk_130 (dk_at dksX2_expandKey_9 6 rfl rfl)
theorem dX2_expandKey_220 : decode cX2_expandKey 220 = .ok (.aload_n 3, 1) := dk_45 (dk_at dksX2_expandKey_9 7 rfl rfl)
theorem dX2_expandKey_221 : decode cX2_expandKey 221 = .ok (.iconst 2, 1) := dk_5 (dk_at dksX2_expandKey_9 8 rfl rfl)
theorem dX2_expandKey_222 : decode cX2_expandKey 222 = .ok (.iaload, 1) := dk_46 (dk_at dksX2_expandKey_9 9 rfl rfl)
theorem dX2_expandKey_223 : decode cX2_expandKey 223 = .ok (.ixor, 1) := dk_130 (dk_at dksX2_expandKey_9 10 rfl rfl)
theorem dX2_expandKey_224 : decode cX2_expandKey 224 = .ok (.getstatic 37, 3) := dk_178 0 37 (dk_at dksX2_expandKey_9 11 rfl rfl)
theorem dX2_expandKey_227 : decode cX2_expandKey 227 = .ok (.iconst 3, 1) := dk_6 (dk_at dksX2_expandKey_9 14 rfl rfl)
theorem dX2_expandKey_228 : decode cX2_expandKey 228 = .ok (.iaload, 1) := dk_46 (dk_at dksX2_expandKey_9 15 rfl rfl)
theorem dX2_expandKey_229 : decode cX2_expandKey 229 = .ok (.ixor, 1) := dk_130 (dk_at dksX2_expandKey_9 16 rfl rfl)
theorem dX2_expandKey_230 : decode cX2_expandKey 230 = .ok (.invokevirtual 40, 3) := dk_182 0 40 (dk_at dksX2_expandKey_9 17 rfl rfl)
theorem dX2_expandKey_233 : decode cX2_expandKey 233 = .ok (.ixor, 1) := dk_130 (dk_at dksX2_expandKey_9 20 rfl rfl)
theorem dX2_expandKey_234 : decode cX2_expandKey 234 = .ok (.iastore, 1) := dk_79 (dk_at dksX2_expandKey_9 21 rfl rfl)
theorem dX2_expandKey_235 : decode cX2_expandKey 235 = .ok (.iconst 4, 1) := dk_7 (dk_at dksX2_expandKey_9 22 rfl rfl)
theorem dX2_expandKey_236 : decode cX2_expandKey 236 = .ok (.istore 5, 2) := dk_54 5 (dk_at dksX2_expandKey_10 0 rfl rfl)
theorem dX2_expandKey_238 : decode cX2_expandKey 238 = .ok (.iload 5, 2) := dk_21 5 (dk_at dksX2_expandKey_10 2 rfl rfl)
theorem dX2_expandKey_240 : decode cX2_expandKey 240 = .ok (.bipush 32, 2) := dk_16 32 (dk_at dksX2_expandKey_10 4 rfl rfl)
theorem dX2_expandKey_242 : decode cX2_expandKey 242 = .ok (.if_icmp .ge 243, 3) := dk_162 0 243 (dk_at dksX2_expandKey_10 6 rfl rfl)
theorem dX2_expandKey_245 : decode cX2_expandKey 245 = .ok (.aload_n 3, 1) := dk_45 (dk_at dksX2_expandKey_10 9 rfl rfl)
theorem dX2_expandKey_246 : decode cX2_expandKey 246 = .ok (.iload 5, 2) := dk_21 5 (dk_at dksX2_expandKey_10 10 rfl rfl)
theorem dX2_expandKey_248 : decode cX2_expandKey 248 = .ok (.aload_n 3, 1) := dk_45 (dk_at dksX2_expandKey_10 12 rfl rfl)
theorem dX2_expandKey_249 : decode cX2_expandKey 249 = .ok (.iload 5, 2) := dk_21 5 (dk_at dksX2_expandKey_10 13 rfl rfl)
theorem dX2_expandKey_251 : decode cX2_expandKey 251 = .ok (.iconst 4, 1) := dk_7 (dk_at dksX2_expandKey_10 15 rfl rfl)
theorem dX2_expandKey_252 : decode cX2_expandKey 252 = .ok (.isub, 1) := dk_100 (dk_at dksX2_expandKey_10 16 rfl rfl)
theorem dX2_expandKey_253 : decode cX2_expandKey 253 = .ok (.iaload, 1) := dk_46 (dk_at dksX2_expandKey_10 17 rfl rfl)
theorem dX2_expandKey_254 : decode cX2_expandKey 254 = .ok (.aload_n 0, 1) := dk_42 (dk_at dksX2_expandKey_10 18 rfl rfl)
theorem dX2_expandKey_255 : decode cX2_expandKey 255 = .ok (.aload_n 3, 1) := dk_45 (dk_at dksX2_expandKey_10 19 rfl rfl)
theorem dX2_expandKey_256 : decode cX2_expandKey 256 = .ok (.iload 5, 2) := dk_21 5 (dk_at dksX2_expandKey_10 20 rfl rfl)
theorem dX2_expandKey_258 : decode cX2_expandKey 258 = .ok (.iconst 3, 1) := dk_6 (dk_at dksX2_expandKey_10 22 rfl rfl)
theorem dX2_expandKey_259 : decode cX2_expandKey 259 = .ok (.isub, 1) := dk_100 (dk_at dksX2_expandKey_10 23 rfl rfl)
theorem dX2_expandKey_260 : decode cX2_expandKey 260 = .ok (.iaload, 1) := dk_46 (dk_at dksX2_expandKey_11 0 rfl rfl)
theorem dX2_expandKey_261 : decode cX2_expandKey 261 = .ok (.aload_n 3, 1) := dk_45 (dk_at dksX2_expandKey_11 1 rfl rfl)
theorem dX2_expandKey_262 : decode cX2_expandKey 262 = .ok (.iload 5, 2) := dk_21 5 (dk_at dksX2_expandKey_11 2 rfl rfl)
theorem dX2_expandKey_264 : decode cX2_expandKey 264 = .ok (.iconst 2, 1) := dk_5 (dk_at dksX2_expandKey_11 4 rfl rfl)
theorem dX2_expandKey_265 : decode cX2_expandKey 265 = .ok (.isub, 1) := dk_100 (dk_at dksX2_expandKey_11 5 rfl rfl)
theorem dX2_expandKey_266 : decode cX2_expandKey 266 = .ok (.iaload, 1) := dk_46 (dk_at dksX2_expandKey_11 6 rfl rfl)
theorem dX2_expandKey_267 : decode cX2_expandKey 267 = .ok (.ixor, 1) := dk_130 (dk_at dksX2_expandKey_11 7 rfl rfl)
theorem dX2_expandKey_268 : decode cX2_expandKey 268 = .ok (.aload_n 3, 1) := dk_45 (dk_at dksX2_expandKey_11 8 rfl rfl)
theorem dX2_expandKey_269 : decode cX2_expandKey 269 = .ok (.iload 5, 2) := dk_21 5 (dk_at dksX2_expandKey_11 9 rfl rfl)
theorem dX2_expandKey_271 : decode cX2_expandKey 271 = .ok (.iconst 1, 1) := dk_4 (dk_at dksX2_expandKey_11 11 rfl rfl)
theorem dX2_expandKey_272 : decode cX2_expandKey 272 = .ok (.isub, 1) := dk_100 (dk_at dksX2_expandKey_11 12 rfl rfl)
theorem dX2_expandKey_273 : decode cX2_expandKey 273 = .ok (.iaload, 1) := dk_46 (dk_at dksX2_expandKey_11 13 rfl rfl)
theorem dX2_expandKey_274 : decode cX2_expandKey 274 = .ok (.ixor, 1) := dk_130 (dk_at dksX2_expandKey_11 14 rfl rfl)
theorem dX2_expandKey_275 : decode cX2_expandKey 275 = .ok (.getstatic 37, 3) := dk_178 0 37 (dk_at dksX2_expandKey_11 15 rfl rfl)
theorem dX2_expandKey_278 : decode cX2_expandKey 278 = .ok (.iload 5, 2) := dk_21 5 (dk_at dksX2_expandKey_11 18 rfl rfl)
theorem dX2_expandKey_280 : decode cX2_expandKey 280 = .ok (.iaload, 1) := dk_46 (dk_at dksX2_expandKey_11 20 rfl rfl)
theorem dX2_expandKey_281 : decode cX2_expandKey 281 = .ok (.ixor, 1) := dk_130 (dk_at dksX2_expandKey_11 21 rfl rfl)
theorem dX2_expandKey_282 : decode cX2_expandKey 282 = .ok (.invokevirtual 40, 3) := dk_182 0 40 (dk_at dksX2_expandKey_12 0 rfl rfl)
theorem dX2_expandKey_285 : decode cX2_expandKey 285 = .ok (.ixor, 1) := dk_130 (dk_at dksX2_expandKey_12 3 rfl rfl)
theorem dX2_expandKey_286 : decode cX2_expandKey 286 = .ok (.iastore, 1) := dk_79 (dk_at dksX2_expandKey_12 4 rfl rfl)
theorem dX2_expandKey_287 : decode cX2_expandKey 287 = .ok (.iinc 5 1, 3) := dk_132 5 1 (dk_at dksX2_expandKey_12 5 rfl rfl)
theorem dX2_expandKey_290 : decode cX2_expandKey 290 = .ok (.goto (-52), 3) := dk_167 255 204 (dk_at dksX2_expandKey_12 8 rfl rfl)
theorem dX2_expandKey_293 : decode cX2_expandKey 293 = .ok (.aload_n 3, 1) := dk_45 (dk_at dksX2_expandKey_12 11 rfl rfl)
theorem dX2_expandKey_294 : decode cX2_expandKey 294 = .ok (.bipush 31, 2) := dk_16 31 (dk_at dksX2_expandKey_12 12 rfl rfl)
theorem dX2_expandKey_296 : decode cX2_expandKey 296 = .ok (.aload 6, 2) := dk_25 6 (dk_at dksX2_expandKey_12 14 rfl rfl)
theorem dX2_expandKey_298 : decode cX2_expandKey 298 = .ok (.iconst 0, 1) := dk_3 (dk_at dksX2_expandKey_12 16 rfl rfl)
theorem dX2_expandKey_299 : decode cX2_expandKey 299 = .ok (.iaload, 1) := dk_46 (dk_at dksX2_expandKey_12 17 rfl rfl)
theorem dX2_expandKey_300 : decode cX2_expandKey 300 = .ok (.aload_n 0, 1) := dk_42 (dk_at dksX2_expandKey_12 18 rfl rfl)
theorem dX2_expandKey_301 : decode cX2_expandKey 301 = .ok (.aload 6, 2) := dk_25 6 (dk_at dksX2_expandKey_12 19 rfl rfl)
theorem dX2_expandKey_303 : decode cX2_expandKey 303 = .ok (.iconst 1, 1) := dk_4 (dk_at dksX2_expandKey_12 21 rfl rfl)
theorem dX2_expandKey_304 : decode cX2_expandKey 304 = .ok (.iaload, 1) := dk_46 (dk_at dksX2_expandKey_12 22 rfl rfl)
theorem dX2_expandKey_305 : decode cX2_expandKey 305 = .ok (.aload 6, 2) := dk_25 6 (dk_at dksX2_expandKey_13 0 rfl rfl)
theorem dX2_expandKey_307 : decode cX2_expandKey 307 = .ok (.iconst 2, 1) := dk_5 (dk_at dksX2_expandKey_13 2 rfl rfl)
theorem dX2_expandKey_308 : decode cX2_expandKey 308 = .ok (.iaload, 1) := dk_46 (dk_at dksX2_expandKey_13 3 rfl rfl)
theorem dX2_expandKey_309 : decode cX2_expandKey 309 = .ok (.ixor, 1) := dk_130 (dk_at dksX2_expandKey_13 4 rfl rfl)
theorem dX2_expandKey_310 : decode cX2_expandKey 310 = .ok (.aload 6, 2) := dk_25 6 (dk_at dksX2_expandKey_13 5 rfl rfl)
theorem dX2_expandKey_312 : decode cX2_expandKey 312 = .ok (.iconst 3, 1) := dk_6 (dk_at dksX2_expandKey_13 7 rfl rfl)
theorem dX2_expandKey_313 : decode cX2_expandKey 313 = .ok (.iaload, 1) := dk_46 (dk_at dksX2_expandKey_13 8 rfl rfl)
theorem dX2_expandKey_314 : decode cX2_expandKey 314 = .ok (.ixor, 1) := dk_130 (dk_at dksX2_expandKey_13 9 rfl rfl)
theorem dX2_expandKey_315 : decode cX2_expandKey 315 = .ok (.getstatic 37, 3) := dk_178 0 37 (dk_at dksX2_expandKey_13 10 rfl rfl)
theorem dX2_expandKey_318 : decode cX2_expandKey 318 = .ok (.iconst 0, 1) := dk_3 (dk_at dksX2_expandKey_13 13 rfl rfl)
theorem dX2_expandKey_319 : decode cX2_expandKey 319 = .ok (.iaload, 1) := dk_46 (dk_at dksX2_expandKey_13 14 rfl rfl)
theorem dX2_expandKey_320 : decode cX2_expandKey 320 = .ok (.ixor, 1) := dk_130 (dk_at dksX2_expandKey_13 15 rfl rfl)
theorem dX2_expandKey_321 : decode cX2_expandKey 321 = .ok (.invokevirtual 40, 3) := dk_182 0 40 (dk_at dksX2_expandKey_13 16 rfl rfl)
theorem dX2_expandKey_324 : decode cX2_expandKey 324 = .ok (.ixor, 1) := dk_130 (dk_at dksX2_expandKey_13 19 rfl rfl)
theorem dX2_expandKey_325 : decode cX2_expandKey 325 = .ok (.iastore, 1) := dk_79 (dk_at dksX2_expandKey_13 20 rfl rfl)
theorem dX2_expandKey_326 : decode cX2_expandKey 326 = .ok (.aload_n 3, 1) := dk_45 (dk_at dksX2_expandKey_13 21 rfl rfl)
theorem dX2_expandKey_327 : decode cX2_expandKey 327 = .ok (.bipush 30, 2) := dk_16 30 (dk_at dksX2_expandKey_13 22 rfl rfl)
theorem dX2_expandKey_329 : decode cX2_expandKey 329 = .ok (.aload 6, 2) := dk_25 6 (dk_at dksX2_expandKey_14 0 rfl rfl)
theorem dX2_expandKey_331 : decode cX2_expandKey 331 = .ok (.iconst 1, 1) := dk_4 (dk_at dksX2_expandKey_14 2 rfl rfl)
theorem dX2_expandKey_332 : decode cX2_expandKey 332 = .ok (.iaload, 1) := dk_46 (dk_at dksX2_expandKey_14 3 rfl rfl)
theorem dX2_expandKey_333 : decode cX2_expandKey 333 = .ok (.aload_n 0, 1) := dk_42 (dk_at dksX2_expandKey_14 4 rfl rfl)
theorem dX2_expandKey_334 : decode cX2_expandKey 334 = .ok (.aload 6, 2) := dk_25 6 (dk_at dksX2_expandKey_14 5 rfl rfl)
theorem dX2_expandKey_336 : decode cX2_expandKey 336 = .ok (.iconst 2, 1) := dk_5 (dk_at dksX2_expandKey_14 7 rfl rfl)
theorem dX2_expandKey_337 : decode cX2_expandKey 337 = .ok (.iaload, 1) := dk_46 (dk_at dksX2_expandKey_14 8 rfl rfl)
theorem dX2_expandKey_338 : decode cX2_expandKey 338 = .ok (.aload 6, 2) := dk_25 6 (dk_at dksX2_expandKey_14 9 rfl rfl)
theorem dX2_expandKey_340 : decode cX2_expandKey 340 = .ok (.iconst 3, 1) := dk_6 (dk_at dksX2_expandKey_14 11 rfl rfl)
theorem dX2_expandKey_341 : decode cX2_expandKey 341 = .ok (.iaload, 1) := dk_46 (dk_at dksX2_expandKey_14 12 rfl rfl)
theorem dX2_expandKey_342 : decode cX2_expandKey 342 = .ok (.ixor, 1) := dk_130 (dk_at dksX2_expandKey_14 13 rfl rfl)
theorem dX2_expandKey_343 : decode cX2_expandKey 343 = .ok (.aload_n 3, 1) := dk_45 (dk_at dksX2_expandKey_14 14 rfl rfl)
theorem dX2_expandKey_344 : decode cX2_expandKey 344 = .ok (.bipush 31, 2) := dk_16 31 (dk_at dksX2_expandKey_14 15 rfl rfl)
theorem dX2_expandKey_346 : decode cX2_expandKey 346 = .ok (.iaload, 1) := dk_46 (dk_at dksX2_expandKey_14 17 rfl rfl)
theorem dX2_expandKey_347 : decode cX2_expandKey 347 = .ok (.ixor, 1) := dk_130 (dk_at dksX2_expandKey_14 18 rfl rfl)
theorem dX2_expandKey_348 : decode cX2_expandKey 348 = .ok (.getstatic 37, 3) := dk_178 0 37 (dk_at dksX2_expandKey_14 19 rfl rfl)
theorem dX2_expandKey_351 : decode cX2_expandKey 351 = .ok (.iconst 1, 1) := dk_4 (dk_at dksX2_expandKey_14 22 rfl rfl)
theorem dX2_expandKey_352 : decode cX2_expandKey 352 = .ok (.iaload, 1) := dk_46 (dk_at dksX2_expandKey_14 23 rfl rfl)
theorem dX2_expandKey_353 : decode cX2_expandKey 353 = .ok (.ixor, 1) := dk_130 (dk_at dksX2_expandKey_15 0 rfl rfl)
theorem dX2_expandKey_354 : decode cX2_expandKey 354 = .ok (.invokevirtual 40, 3) := dk_182 0 40 (dk_at dksX2_expandKey_15 1 rfl rfl)
theorem dX2_expandKey_357 : decode cX2_expandKey 357 = .ok (.ixor, 1) := dk_130 (dk_at dksX2_expandKey_15 4 rfl rfl)
theorem dX2_expandKey_358 : decode cX2_expandKey 358 = .ok (.iastore, 1) := dk_79 (dk_at dksX2_expandKey_15 5 rfl rfl)
theorem dX2_expandKey_359 : decode cX2_expandKey 359 = .ok (.aload_n 3, 1) := dk_45 (dk_at dksX2_expandKey_15 6 rfl rfl)
theorem dX2_expandKey_360 : decode cX2_expandKey 360 = .ok (.bipush 29, 2) := dk_16 29 (dk_at dksX2_expandKey_15 7 rfl rfl)
theorem dX2_expandKey_362 : decode cX2_expandKey 362 = .ok (.aload 6, 2) := dk_25 6 (dk_at dksX2_expandKey_15 9 rfl rfl)
theorem dX2_expandKey_364 : decode cX2_expandKey 364 = .ok (.iconst 2, 1) := dk_5 (dk_at dksX2_expandKey_15 11 rfl rfl)
theorem dX2_expandKey_365 : decode cX2_expandKey 365 = .ok (.iaload, 1) := dk_46 (dk_at dksX2_expandKey_15 12 rfl rfl)
theorem dX2_expandKey_366 : decode cX2_expandKey 366 = .ok (.aload_n 0, 1) := dk_42 (dk_at dksX2_expandKey_15 13 rfl rfl)
theorem dX2_expandKey_367 : decode cX2_expandKey 367 = .ok (.aload 6, 2) := dk_25 6 (dk_at dksX2_expandKey_15 14 rfl rfl)
theorem dX2_expandKey_369 : decode cX2_expandKey 369 = .ok (.iconst 3, 1) := dk_6 (dk_at dksX2_expandKey_15 16 rfl rfl)
theorem dX2_expandKey_370 : decode cX2_expandKey 370 = .ok (.iaload, 1) := dk_46 (dk_at dksX2_expandKey_15 17 rfl rfl)
theorem dX2_expandKey_371 : decode cX2_expandKey 371 = .ok (.aload_n 3, 1) := dk_45 (dk_at dksX2_expandKey_15 18 rfl rfl)
theorem dX2_expandKey_372 : decode cX2_expandKey 372 = .ok (.bipush 31, 2) := dk_16 31 (dk_at dksX2_expandKey_15 19 rfl rfl)
theorem dX2_expandKey_374 : decode cX2_expandKey 374 = .ok (.iaload, 1) := dk_46 (dk_at dksX2_expandKey_15 21 rfl rfl)
theorem dX2_expandKey_375 : decode cX2_expandKey 375 = .ok (.ixor, 1) := dk_130 (dk_at dksX2_expandKey_15 22 rfl rfl)
theorem dX2_expandKey_376 : decode cX2_expandKey 376 = .ok (.aload_n 3, 1) := dk_45 (dk_at dksX2_expandKey_15 23 rfl rfl)
theorem dX2_expandKey_377 : decode cX2_expandKey 377 = .ok (.bipush 30, 2) := dk_16 30 (dk_at dksX2_expandKey_16 0 rfl rfl)
theorem dX2_expandKey_379 : decode cX2_expandKey 379 = .ok (.iaload, 1) := dk_46 (dk_at dksX2_expandKey_16 2 rfl rfl)
theorem dX2_expandKey_380 : decode cX2_expandKey 380 = .ok (.ixor, 1) := dk_130 (dk_at dksX2_expandKey_16 3 rfl rfl)
theorem dX2_expandKey_381 : decode cX2_expandKey 381 = .ok (.getstatic 37, 3) := dk_178 0 37 (dk_at dksX2_expandKey_16 4 rfl rfl)
theorem dX2_expandKey_384 : decode cX2_expandKey 384 = .ok (.iconst 2, 1) := dk_5 (dk_at dksX2_expandKey_16 7 rfl rfl)
theorem dX2_expandKey_385 : decode cX2_expandKey 385 = .ok (.iaload, 1) := dk_46 (dk_at dksX2_expandKey_16 8 rfl rfl)
theorem dX2_expandKey_386 : decode cX2_expandKey 386 = .ok (.ixor, 1) := dk_130 (dk_at dksX2_expandKey_16 9 rfl rfl)
theorem dX2_expandKey_387 : decode cX2_expandKey 387 = .ok (.invokevirtual 40, 3) := dk_182 0 40 (dk_at dksX2_expandKey_16 10 rfl rfl)
theorem dX2_expandKey_390 : decode cX2_expandKey 390 = .ok (.ixor, 1) := dk_130 (dk_at dksX2_expandKey_16 13 rfl rfl)
theorem dX2_expandKey_391 : decode cX2_expandKey 391 = .ok (.iastore, 1) := dk_79 (dk_at dksX2_expandKey_16 14 rfl rfl)
theorem dX2_expandKey_392 : decode cX2_expandKey 392 = .ok (.aload_n 3, 1) := dk_45 (dk_at dksX2_expandKey_16 15 rfl rfl)
theorem dX2_expandKey_393 : decode cX2_expandKey 393 = .ok (.bipush 28, 2) := dk_16 28 (dk_at dksX2_expandKey_16 16 rfl rfl)
theorem dX2_expandKey_395 : decode cX2_expandKey 395 = .ok (.aload 6, 2) := dk_25 6 (dk_at dksX2_expandKey_16 18 rfl rfl)
theorem dX2_expandKey_397 : decode cX2_expandKey 397 = .ok (.iconst 3, 1) := dk_6 (dk_at dksX2_expandKey_16 20 rfl rfl)
theorem dX2_expandKey_398 : decode cX2_expandKey 398 = .ok (.iaload, 1) := dk_46 (dk_at dksX2_expandKey_16 21 rfl rfl)
theorem dX2_expandKey_399 : decode cX2_expandKey 399 = .ok (.aload_n 0, 1) := dk_42 (dk_at dksX2_expandKey_16 22 rfl rfl)
theorem dX2_expandKey_400 : decode cX2_expandKey 400 = .ok (.aload_n 3, 1) := dk_45 (dk_at dksX2_expandKey_16 23 rfl rfl)
theorem dX2_expandKey_401 : decode cX2_expandKey 401 = .ok (.bipush 31, 2) := dk_16 31 (dk_at dksX2_expandKey_17 0 rfl rfl)
theorem dX2_expandKey_403 : decode cX2_expandKey 403 = .ok (.iaload, 1) := dk_46 (dk_at dksX2_expandKey_17 2 rfl rfl)
theorem dX2_expandKey_404 : decode cX2_expandKey 404 = .ok (.aload_n 3, 1) := dk_45 (dk_at dksX2_expandKey_17 3 rfl rfl)
theorem dX2_expandKey_405 : decode cX2_expandKey 405 = .ok (.bipush 30, 2) := dk_16 30 (dk_at dksX2_expandKey_17 4 rfl rfl)
theorem dX2_expandKey_407 : decode cX2_expandKey 407 = .ok (.iaload, 1) := dk_46 (dk_at dksX2_expandKey_17 6 rfl rfl)
theorem dX2_expandKey_408 : decode cX2_expandKey 408 = .ok (.ixor, 1) := dk_130 (dk_at dksX2_expandKey_17 7 rfl rfl)
theorem dX2_expandKey_409 : decode cX2_expandKey 409 = .ok (.aload_n 3, 1) := dk_45 (dk_at dksX2_expandKey_17 8 rfl rfl)
theorem dX2_expandKey_410 : decode cX2_expandKey 410 = .ok (.bipush 29, 2) := dk_16 29 (dk_at dksX2_expandKey_17 9 rfl rfl)
theorem dX2_expandKey_412 : decode cX2_expandKey 412 = .ok (.iaload, 1) := dk_46 (dk_at dksX2_expandKey_17 11 rfl rfl)
theorem dX2_expandKey_413 : decode cX2_expandKey 413 = .ok (.ixor, 1) := dk_130 (dk_at dksX2_expandKey_17 12 rfl rfl)
theorem dX2_expandKey_414 : decode cX2_expandKey 414 = .ok (.getstatic 37, 3) := dk_178 0 37 (dk_at dksX2_expandKey_17 13 rfl rfl)
theorem dX2_expandKey_417 : decode cX2_expandKey 417 = .ok (.iconst 3, 1) := dk_6 (dk_at dksX2_expandKey_17 16 rfl rfl)
theorem dX2_expandKey_418 : decode cX2_expandKey 418 = .ok (.iaload, 1) := dk_46 (dk_at dksX2_expandKey_17 17 rfl rfl)
theorem dX2_expandKey_419 : decode cX2_expandKey 419 = .ok (.ixor, 1) := dk_130 (dk_at dksX2_expandKey_17 18 rfl rfl)
theorem dX2_expandKey_420 : decode cX2_expandKey 420 = .ok (.invokevirtual 40, 3) := dk_182 0 40 (dk_at dksX2_expandKey_17 19 rfl rfl)
theorem dX2_expandKey_423 : decode cX2_expandKey 423 = .ok (.ixor, 1) := dk_130 (dk_at dksX2_expandKey_17 22 rfl rfl)
theorem dX2_expandKey_424 : decode cX2_expandKey 424 = .ok (.iastore, 1) := dk_79 (dk_at dksX2_expandKey_17 23 rfl rfl)
theorem dX2_expandKey_425 : decode cX2_expandKey 425 = .ok (.bipush 27, 2) := dk_16 27 (dk_at dksX2_expandKey_18 0 rfl rfl)
theorem dX2_expandKey_427 : decode cX2_expandKey 427 = .ok (.istore 5, 2) := dk_54 5 (dk_at dksX2_expandKey_18 2 rfl rfl)
theorem dX2_expandKey_429 : decode cX2_expandKey 429 = .ok (.iload 5, 2) := dk_21 5 (dk_at dksX2_expandKey_18 4 rfl rfl)
theorem dX2_expandKey_431 : decode cX2_expandKey 431 = .ok (.ifCond .lt 54, 3) := dk_155 0 54 (dk_at dksX2_expandKey_18 6 rfl rfl)
theorem dX2_expandKey_434 : decode cX2_expandKey 434 = .ok (.aload_n 3, 1) := dk_45 (dk_at dksX2_expandKey_18 9 rfl rfl)
theorem dX2_expandKey_435 : decode cX2_expandKey 435 = .ok (.iload 5, 2) := dk_21 5 (dk_at dksX2_expandKey_18 10 rfl rfl)
theorem dX2_expandKey_437 : decode cX2_expandKey 437 = .ok (.aload_n 3, 1) := dk_45 (dk_at dksX2_expandKey_18 12 rfl rfl)
theorem dX2_expandKey_438 : decode cX2_expandKey 438 = .ok (.iload 5, 2) := dk_21 5 (dk_at dksX2_expandKey_18 13 rfl rfl)
theorem dX2_expandKey_440 : decode cX2_expandKey 440 = .ok (.iconst 4, 1) := dk_7 (dk_at dksX2_expandKey_18 15 rfl rfl)
theorem dX2_expandKey_441 : decode cX2_expandKey 441 = .ok (.iadd, 1) := dk_96 (dk_at dksX2_expandKey_18 16 rfl rfl)
theorem dX2_expandKey_442 : decode cX2_expandKey 442 = .ok (.iaload, 1) := dk_46 (dk_at dksX2_expandKey_18 17 rfl rfl)
theorem dX2_expandKey_443 : decode cX2_expandKey 443 = .ok (.aload_n 0, 1) := dk_42 (dk_at dksX2_expandKey_18 18 rfl rfl)
theorem dX2_expandKey_444 : decode cX2_expandKey 444 = .ok (.aload_n 3, 1) := dk_45 (dk_at dksX2_expandKey_18 19 rfl rfl)
theorem dX2_expandKey_445 : decode cX2_expandKey 445 = .ok (.iload 5, 2) := dk_21 5 (dk_at dksX2_expandKey_18 20 rfl rfl)
theorem dX2_expandKey_447 : decode cX2_expandKey 447 = .ok (.iconst 3, 1) := dk_6 (dk_at dksX2_expandKey_18 22 rfl rfl)
theorem dX2_expandKey_448 : decode cX2_expandKey 448 = .ok (.iadd, 1) := dk_96 (dk_at dksX2_expandKey_18 23 rfl rfl)
theorem dX2_expandKey_449 : decode cX2_expandKey 449 = .ok (.iaload, 1) := dk_46 (dk_at dksX2_expandKey_19 0 rfl rfl)
theorem dX2_expandKey_450 : decode cX2_expandKey 450 = .ok (.aload_n 3, 1) := dk_45 (dk_at dksX2_expandKey_19 1 rfl rfl)
theorem dX2_expandKey_451 : decode cX2_expandKey 451 = .ok (.iload 5, 2) := dk_21 5 (dk_at dksX2_expandKey_19 2 rfl rfl)
theorem dX2_expandKey_453 : decode cX2_expandKey 453 = .ok (.iconst 2, 1) := dk_5 (dk_at dksX2_expandKey_19 4 rfl rfl)
theorem dX2_expandKey_454 : decode cX2_expandKey 454 = .ok (.iadd, 1) := dk_96 (dk_at dksX2_expandKey_19 5 rfl rfl)
theorem dX2_expandKey_455 : decode cX2_expandKey 455 = .ok (.iaload, 1) := dk_46 (dk_at dksX2_expandKey_19 6 rfl rfl)
theorem dX2_expandKey_456 : decode cX2_expandKey 456 = .ok (.ixor, 1) := dk_130 (dk_at dksX2_expandKey_19 7 rfl rfl)
theorem dX2_expandKey_457 : decode cX2_expandKey 457 = .ok (.aload_n 3, 1) := dk_45 (dk_at dksX2_expandKey_19 8 rfl rfl)
theorem dX2_expandKey_458 : decode cX2_expandKey 458 = .ok (.iload 5, 2) := dk_21 5 (dk_at dksX2_expandKey_19 9 rfl rfl)
theorem dX2_expandKey_460 : decode cX2_expandKey 460 = .ok (.iconst 1, 1) := dk_4 (dk_at dksX2_expandKey_19 11 rfl rfl)
theorem dX2_expandKey_461 : decode cX2_expandKey 461 = .ok (.iadd, 1) := dk_96 (dk_at dksX2_expandKey_19 12 rfl rfl)
theorem dX2_expandKey_462 : decode cX2_expandKey 462 = .ok (.iaload, 1) := dk_46 (dk_at dksX2_expandKey_19 13 rfl rfl)
theorem dX2_expandKey_463 : decode cX2_expandKey 463 = .ok (.ixor, 1) := dk_130 (dk_at dksX2_expandKey_19 14 rfl rfl)
theorem dX2_expandKey_464 : decode cX2_expandKey 464 = .ok (.getstatic 37, 3) := dk_178 0 37 (dk_at dksX2_expandKey_19 15 rfl rfl)
theorem dX2_expandKey_467 : decode cX2_expandKey 467 = .ok (.bipush 31, 2) := dk_16 31 (dk_at dksX2_expandKey_19 18 rfl rfl)
theorem dX2_expandKey_469 : decode cX2_expandKey 469 = .ok (.iload 5, 2) := dk_21 5 (dk_at dksX2_expandKey_19 20 rfl rfl)
theorem dX2_expandKey_471 : decode cX2_expandKey 471 = .ok (.isub, 1) := dk_100 (dk_at dksX2_expandKey_19 22 rfl rfl)
theorem dX2_expandKey_472 : decode cX2_expandKey 472 = .ok (.iaload, 1) := dk_46 (dk_at dksX2_expandKey_19 23 rfl rfl)
theorem dX2_expandKey_473 : decode cX2_expandKey 473 = .ok (.ixor, 1) := dk_130 (dk_at dksX2_expandKey_20 0 rfl rfl)
theorem dX2_expandKey_474 : decode cX2_expandKey 474 = .ok (.invokevirtual 40, 3) := dk_182 0 40 (dk_at dksX2_expandKey_20 1 rfl rfl)
theorem dX2_expandKey_477 : decode cX2_expandKey 477 = .ok (.ixor, 1) := dk_130 (dk_at dksX2_expandKey_20 4 rfl rfl)
theorem dX2_expandKey_478 : decode cX2_expandKey 478 = .ok (.iastore, 1) := dk_79 (dk_at dksX2_expandKey_20 5 rfl rfl)
theorem dX2_expandKey_479 : decode cX2_expandKey 479 = .ok (.iinc 5 (-1), 3) := dk_132 5 255 (dk_at dksX2_expandKey_20 6 rfl rfl)
theorem dX2_expandKey_482 : decode cX2_expandKey 482 = .ok (.goto (-53), 3) := dk_167 255 203 (dk_at dksX2_expandKey_20 9 rfl rfl)
theorem dX2_expandKey_485 : decode cX2_expandKey 485 = .ok (.aload_n 3, 1) := dk_45 (dk_at dksX2_expandKey_20 12 rfl rfl)
theorem dX2_expandKey_486 : decode cX2_expandKey 486 = .ok (.areturn, 1) := dk_176 (dk_at dksX2_expandKey_20 13 rfl rfl)
abbrev cX2_T_ap : ByteArray := prog_8_method_5_code
def yX2_T_ap : MethodName := ⟨RX2, "T_ap", "(I)I"⟩
def dkwX2_T_ap_0 : List UInt8 := [42, 42, 27, 182, 0, 21, 182, 0, 25, 172]
abbrev dktX2_T_ap_0 : List UInt8 := dkwX2_T_ap_0 ++ []
theorem dksX2_T_ap_0 : cX2_T_ap.data.toList.drop 0 = dktX2_T_ap_0 := by decide +kernel
theorem dX2_T_ap_0 : decode cX2_T_ap 0 = .ok (.aload_n 0, 1) := dk_42 (dk_at dksX2_T_ap_0 0 rfl rfl)
theorem dX2_T_ap_1 : decode cX2_T_ap 1 = .ok (.aload_n 0, 1) := dk_42 (dk_at dksX2_T_ap_0 1 rfl rfl)
theorem dX2_T_ap_2 : decode cX2_T_ap 2 = .ok (.iload_n 1, 1) := dk_27 (dk_at dksX2_T_ap_0 2 rfl rfl)
theorem dX2_T_ap_3 : decode cX2_T_ap 3 = .ok (.invokevirtual 21, 3) := dk_182 0 21 (dk_at dksX2_T_ap_0 3 rfl rfl)
theorem dX2_T_ap_6 : decode cX2_T_ap 6 = .ok (.invokevirtual 25, 3) := dk_182 0 25 (dk_at dksX2_T_ap_0 6 rfl rfl)
theorem dX2_T_ap_9 : decode cX2_T_ap 9 = .ok (.ireturn, 1) := dk_172 (dk_at dksX2_T_ap_0 9 rfl rfl)
abbrev cX2_tau : ByteArray := prog_8_method_3_code
def yX2_tau : MethodName := ⟨RX2, "tau", "(I)I"⟩
def dkwX2_tau_3 : List UInt8 := [120, 29, 16, 16, 120, 128, 21, 4, 16, 8, 120, 128, 21, 5, 128, 172]
abbrev dktX2_tau_3 : List UInt8 := dkwX2_tau_3 ++ []
def dkwX2_tau_2 : List UInt8 := [17, 0, 255, 126, 54, 4, 178, 0, 13, 27, 17, 0, 255, 126, 51, 17, 0, 255, 126, 54, 5, 28, 16, 24]
abbrev dktX2_tau_2 : List UInt8 := dkwX2_tau_2 ++ dktX2_tau_3
def dkwX2_tau_1 : List UInt8 := [17, 0, 255, 126, 51, 17, 0, 255, 126, 62, 178, 0, 13, 27, 16, 8, 122, 17, 0, 255, 126, 51]
abbrev dktX2_tau_1 : List UInt8 := dkwX2_tau_1 ++ dktX2_tau_2
def dkwX2_tau_0 : List UInt8 := [178, 0, 13, 27, 16, 24, 122, 17, 0, 255, 126, 51, 17, 0, 255, 126, 61, 178, 0, 13, 27, 16, 16, 122]
abbrev dktX2_tau_0 : List UInt8 := dkwX2_tau_0 ++ dktX2_tau_1
theorem dksX2_tau_0 : cX2_tau.data.toList.drop 0 = dktX2_tau_0 := by decide +kernel
theorem dksX2_tau_1 : cX2_tau.data.toList.drop 24 = dktX2_tau_1 := dk_seg dksX2_tau_0 24 rfl rfl
theorem dksX2_tau_2 : cX2_tau.data.toList.drop 46 = dktX2_tau_2 := dk_seg dksX2_tau_1 22 rfl rfl
theorem dksX2_tau_3 : cX2_tau.data.toList.drop 70 = dktX2_tau_3 := dk_seg dksX2_tau_2 24 rfl rfl
theorem dX2_tau_0 : decode cX2_tau 0 = .ok (.getstatic 13, 3) := dk_178 0 13 (dk_at dksX2_tau_0 0 rfl rfl)
theorem dX2_tau_3 : decode cX2_tau 3 = .ok (.iload_n 1, 1) := dk_27 (dk_at dksX2_tau_0 3 rfl rfl)
theorem dX2_tau_4 : decode cX2_tau 4 = .ok (.bipush 24, 2) := dk_16 24 (dk_at dksX2_tau_0 4 rfl rfl)
theorem dX2_tau_6 : decode cX2_tau 6 = .ok (.ishr, 1) := dk_122 (dk_at dksX2_tau_0 6 rfl rfl)
theorem dX2_tau_7 : decode cX2_tau 7 = .ok (.sipush 255, 3) := dk_17 0 255 (dk_at dksX2_tau_0 7 rfl rfl)
theorem dX2_tau_10 : decode cX2_tau 10 = .ok (.iand, 1) := dk_126 (dk_at dksX2_tau_0 10 rfl rfl)
theorem dX2_tau_11 : decode cX2_tau 11 = .ok (.baload, 1) := dk_51 (dk_at dksX2_tau_0 11 rfl rfl)
theorem dX2_tau_12 : decode cX2_tau 12 = .ok (.sipush 255, 3) := dk_17 0 255 (dk_at dksX2_tau_0 12 rfl rfl)
theorem dX2_tau_15 : decode cX2_tau 15 = .ok (.iand, 1) := dk_126 (dk_at dksX2_tau_0 15 rfl rfl)
theorem dX2_tau_16 : decode cX2_tau 16 = .ok (.istore_n 2, 1) := dk_61 (dk_at dksX2_tau_0 16 rfl rfl)
theorem dX2_tau_17 : decode cX2_tau 17 = .ok (.getstatic 13, 3) := dk_178 0 13 (dk_at dksX2_tau_0 17 rfl rfl)
theorem dX2_tau_20 : decode cX2_tau 20 = .ok (.iload_n 1, 1) := dk_27 (dk_at dksX2_tau_0 20 rfl rfl)
theorem dX2_tau_21 : decode cX2_tau 21 = .ok (.bipush 16, 2) := dk_16 16 (dk_at dksX2_tau_0 21 rfl rfl)
theorem dX2_tau_23 : decode cX2_tau 23 = .ok (.ishr, 1) := dk_122 (dk_at dksX2_tau_0 23 rfl rfl)
theorem dX2_tau_24 : decode cX2_tau 24 = .ok (.sipush 255, 3) := dk_17 0 255 (dk_at dksX2_tau_1 0 rfl rfl)
theorem dX2_tau_27 : decode cX2_tau 27 = .ok (.iand, 1) := dk_126 (dk_at dksX2_tau_1 3 rfl rfl)
theorem dX2_tau_28 : decode cX2_tau 28 = .ok (.baload, 1) := dk_51 (dk_at dksX2_tau_1 4 rfl rfl)
theorem dX2_tau_29 : decode cX2_tau 29 = .ok (.sipush 255, 3) := dk_17 0 255 (dk_at dksX2_tau_1 5 rfl rfl)
theorem dX2_tau_32 : decode cX2_tau 32 = .ok (.iand, 1) := dk_126 (dk_at dksX2_tau_1 8 rfl rfl)
theorem dX2_tau_33 : decode cX2_tau 33 = .ok (.istore_n 3, 1) := dk_62 (dk_at dksX2_tau_1 9 rfl rfl)
theorem dX2_tau_34 : decode cX2_tau 34 = .ok (.getstatic 13, 3) := dk_178 0 13 (dk_at dksX2_tau_1 10 rfl rfl)
theorem dX2_tau_37 : decode cX2_tau 37 = .ok (.iload_n 1, 1) := dk_27 (dk_at dksX2_tau_1 13 rfl rfl)
theorem dX2_tau_38 : decode cX2_tau 38 = .ok (.bipush 8, 2) := dk_16 8 (dk_at dksX2_tau_1 14 rfl rfl)
theorem dX2_tau_40 : decode cX2_tau 40 = .ok (.ishr, 1) := dk_122 (dk_at dksX2_tau_1 16 rfl rfl)
theorem dX2_tau_41 : decode cX2_tau 41 = .ok (.sipush 255, 3) := dk_17 0 255 (dk_at dksX2_tau_1 17 rfl rfl)
theorem dX2_tau_44 : decode cX2_tau 44 = .ok (.iand, 1) := dk_126 (dk_at dksX2_tau_1 20 rfl rfl)
theorem dX2_tau_45 : decode cX2_tau 45 = .ok (.baload, 1) := dk_51 (dk_at dksX2_tau_1 21 rfl rfl)
theorem dX2_tau_46 : decode cX2_tau 46 = .ok (.sipush 255, 3) := dk_17 0 255 (dk_at dksX2_tau_2 0 rfl rfl)
theorem dX2_tau_49 : decode cX2_tau 49 = .ok (.iand, 1) := dk_126 (dk_at dksX2_tau_2 3 rfl rfl)
theorem dX2_tau_50 : decode cX2_tau 50 = .ok (.istore 4, 2) := dk_54 4 (dk_at dksX2_tau_2 4 rfl rfl)
theorem dX2_tau_52 : decode cX2_tau 52 = .ok (.getstatic 13, 3) := dk_178 0 13 (dk_at dksX2_tau_2 6 rfl rfl)
theorem dX2_tau_55 : decode cX2_tau 55 = .ok (.iload_n 1, 1) := dk_27 (dk_at dksX2_tau_2 9 rfl rfl)
theorem dX2_tau_56 : decode cX2_tau 56 = .ok (.sipush 255, 3) := dk_17 0 255 (dk_at dksX2_tau_2 10 rfl rfl)
theorem dX2_tau_59 : decode cX2_tau 59 = .ok (.iand, 1) := dk_126 (dk_at dksX2_tau_2 13 rfl rfl)
theorem dX2_tau_60 : decode cX2_tau 60 = .ok (.baload, 1) := dk_51 (dk_at dksX2_tau_2 14 rfl rfl)
theorem dX2_tau_61 : decode cX2_tau 61 = .ok (.sipush 255, 3) := dk_17 0 255 (dk_at dksX2_tau_2 15 rfl rfl)
theorem dX2_tau_64 : decode cX2_tau 64 = .ok (.iand, 1) := dk_126 (dk_at dksX2_tau_2 18 rfl rfl)
theorem dX2_tau_65 : decode cX2_tau 65 = .ok (.istore 5, 2) := dk_54 5 (dk_at dksX2_tau_2 19 rfl rfl)
theorem dX2_tau_67 : decode cX2_tau 67 = .ok (.iload_n 2, 1) := dk_28 (dk_at dksX2_tau_2 21 rfl rfl)
theorem dX2_tau_68 : decode cX2_tau 68 = .ok (.bipush 24, 2) := dk_16 24 (dk_at dksX2_tau_2 22 rfl rfl)
theorem dX2_tau_70 : decode cX2_tau 70 = .ok (.ishl, 1) := dk_120 (dk_at dksX2_tau_3 0 rfl rfl)
theorem dX2_tau_71 : decode cX2_tau 71 = .ok (.iload_n 3, 1) := dk_29 (dk_at dksX2_tau_3 1 rfl rfl)
theorem dX2_tau_72 : decode cX2_tau 72 = .ok (.bipush 16, 2) := dk_16 16 (dk_at dksX2_tau_3 2 rfl rfl)
theorem dX2_tau_74 : decode cX2_tau 74 = .ok (.ishl, 1) := dk_120 (dk_at dksX2_tau_3 4 rfl rfl)
theorem dX2_tau_75 : decode cX2_tau 75 = .ok (.ior, 1) := dk_128 (dk_at dksX2_tau_3 5 rfl rfl)
theorem dX2_tau_76 : decode cX2_tau 76 = .ok (.iload 4, 2) := dk_21 4 (dk_at dksX2_tau_3 6 rfl rfl)
theorem dX2_tau_78 : decode cX2_tau 78 = .ok (.bipush 8, 2) := dk_16 8 (dk_at dksX2_tau_3 8 rfl rfl)
theorem dX2_tau_80 : decode cX2_tau 80 = .ok (.ishl, 1) := dk_120 (dk_at dksX2_tau_3 10 rfl rfl)
theorem dX2_tau_81 : decode cX2_tau 81 = .ok (.ior, 1) := dk_128 (dk_at dksX2_tau_3 11 rfl rfl)
theorem dX2_tau_82 : decode cX2_tau 82 = .ok (.iload 5, 2) := dk_21 5 (dk_at dksX2_tau_3 12 rfl rfl)
theorem dX2_tau_84 : decode cX2_tau 84 = .ok (.ior, 1) := dk_128 (dk_at dksX2_tau_3 14 rfl rfl)
theorem dX2_tau_85 : decode cX2_tau 85 = .ok (.ireturn, 1) := dk_172 (dk_at dksX2_tau_3 15 rfl rfl)
abbrev cX2_L_ap : ByteArray := prog_8_method_4_code
def yX2_L_ap : MethodName := ⟨RX2, "L_ap", "(I)I"⟩
def dkwX2_L_ap_0 : List UInt8 := [27, 42, 27, 16, 13, 182, 0, 17, 130, 42, 27, 16, 23, 182, 0, 17, 130, 172]
abbrev dktX2_L_ap_0 : List UInt8 := dkwX2_L_ap_0 ++ []
theorem dksX2_L_ap_0 : cX2_L_ap.data.toList.drop 0 = dktX2_L_ap_0 := by decide +kernel
theorem dX2_L_ap_0 : decode cX2_L_ap 0 = .ok (.iload_n 1, 1) := dk_27 (dk_at dksX2_L_ap_0 0 rfl rfl)
theorem dX2_L_ap_1 : decode cX2_L_ap 1 = .ok (.aload_n 0, 1) := dk_42 (dk_at dksX2_L_ap_0 1 rfl rfl)
theorem dX2_L_ap_2 : decode cX2_L_ap 2 = .ok (.iload_n 1, 1) := dk_27 (dk_at dksX2_L_ap_0 2 rfl rfl)
theorem dX2_L_ap_3 : decode cX2_L_ap 3 = .ok (.bipush 13, 2) := dk_16 13 (dk_at dksX2_L_ap_0 3 rfl rfl)
theorem dX2_L_ap_5 : decode cX2_L_ap 5 = .ok (.invokevirtual 17, 3) := dk_182 0 17 (dk_at dksX2_L_ap_0 5 rfl rfl)
theorem dX2_L_ap_8 : decode cX2_L_ap 8 = .ok (.ixor, 1) := dk_130 (dk_at dksX2_L_ap_0 8 rfl rfl)
theorem dX2_L_ap_9 : decode cX2_L_ap 9 = .ok (.aload_n 0, 1) := dk_42 (dk_at dksX2_L_ap_0 9 rfl rfl)
theorem dX2_L_ap_10 : decode cX2_L_ap 10 = .ok (.iload_n 1, 1) := dk_27 (dk_at dksX2_L_ap_0 10 rfl rfl)
theorem dX2_L_ap_11 : decode cX2_L_ap 11 = .ok (.bipush 23, 2) := dk_16 23 (dk_at dksX2_L_ap_0 11 rfl rfl)
theorem dX2_L_ap_13 : decode cX2_L_ap 13 = .ok (.invokevirtual 17, 3) := dk_182 0 17 (dk_at dksX2_L_ap_0 13 rfl rfl)
theorem dX2_L_ap_16 : decode cX2_L_ap 16 = .ok (.ixor, 1) := dk_130 (dk_at dksX2_L_ap_0 16 rfl rfl)
theorem dX2_L_ap_17 : decode cX2_L_ap 17 = .ok (.ireturn, 1) := dk_172 (dk_at dksX2_L_ap_0 17 rfl rfl)
abbrev cX2_rotateLeft : ByteArray := prog_8_method_2_code
def yX2_rotateLeft : MethodName := ⟨RX2, "rotateLeft", "(II)I"⟩
def dkwX2_rotateLeft_0 : List UInt8 := [27, 28, 120, 27, 28, 116, 124, 128, 172]
abbrev dktX2_rotateLeft_0 : List UInt8 := dkwX2_rotateLeft_0 ++ []
theorem dksX2_rotateLeft_0 : cX2_rotateLeft.data.toList.drop 0 = dktX2_rotateLeft_0 := by decide +kernel
theorem dX2_rotateLeft_0 : decode cX2_rotateLeft 0 = .ok (.iload_n 1, 1) := dk_27 (dk_at dksX2_rotateLeft_0 0 rfl rfl)
theorem dX2_rotateLeft_1 : decode cX2_rotateLeft 1 = .ok (.iload_n 2, 1) := dk_28 (dk_at dksX2_rotateLeft_0 1 rfl rfl)
theorem dX2_rotateLeft_2 : decode cX2_rotateLeft 2 = .ok (.ishl, 1) := dk_120 (dk_at dksX2_rotateLeft_0 2 rfl rfl)
theorem dX2_rotateLeft_3 : decode cX2_rotateLeft 3 = .ok (.iload_n 1, 1) := dk_27 (dk_at dksX2_rotateLeft_0 3 rfl rfl)
theorem dX2_rotateLeft_4 : decode cX2_rotateLeft 4 = .ok (.iload_n 2, 1) := dk_28 (dk_at dksX2_rotateLeft_0 4 rfl rfl)
theorem dX2_rotateLeft_5 : decode cX2_rotateLeft 5 = .ok (.ineg, 1) := dk_116 (dk_at dksX2_rotateLeft_0 5 rfl rfl)
theorem dX2_rotateLeft_6 : decode cX2_rotateLeft 6 = .ok (.iushr, 1) := dk_124 (dk_at dksX2_rotateLeft_0 6 rfl rfl)
theorem dX2_rotateLeft_7 : decode cX2_rotateLeft 7 = .ok (.ior, 1) := dk_128 (dk_at dksX2_rotateLeft_0 7 rfl rfl)
theorem dX2_rotateLeft_8 : decode cX2_rotateLeft 8 = .ok (.ireturn, 1) := dk_172 (dk_at dksX2_rotateLeft_0 8 rfl rfl)
abbrev cX2_processBlock : ByteArray := prog_8_method_14_code
def yX2_processBlock : MethodName := ⟨RX2, "processBlock", "([BI[BI)I"⟩
def dkwX2_processBlock_11 : List UInt8 := [96, 184, 0, 99, 42, 180, 0, 7, 3, 46, 45, 21, 4, 16, 12, 96, 184, 0, 99, 16, 16, 172]
abbrev dktX2_processBlock_11 : List UInt8 := dkwX2_processBlock_11 ++ []
def dkwX2_processBlock_10 : List UInt8 := [180, 0, 7, 5, 46, 45, 21, 4, 7, 96, 184, 0, 99, 42, 180, 0, 7, 4, 46, 45, 21, 4, 16, 8]
abbrev dktX2_processBlock_10 : List UInt8 := dkwX2_processBlock_10 ++ dktX2_processBlock_11
def dkwX2_processBlock_9 : List UInt8 := [182, 0, 96, 79, 132, 5, 4, 167, 255, 156, 42, 180, 0, 7, 6, 46, 45, 21, 4, 184, 0, 99, 42]
abbrev dktX2_processBlock_9 : List UInt8 := dkwX2_processBlock_9 ++ dktX2_processBlock_10
def dkwX2_processBlock_8 : List UInt8 := [182, 0, 93, 79, 42, 180, 0, 7, 6, 42, 42, 180, 0, 7, 42, 180, 0, 66, 21, 5, 6, 96, 46]
abbrev dktX2_processBlock_8 : List UInt8 := dkwX2_processBlock_8 ++ dktX2_processBlock_9
def dkwX2_processBlock_7 : List UInt8 := [182, 0, 90, 79, 42, 180, 0, 7, 5, 42, 42, 180, 0, 7, 42, 180, 0, 66, 21, 5, 5, 96, 46]
abbrev dktX2_processBlock_7 : List UInt8 := dkwX2_processBlock_7 ++ dktX2_processBlock_8
def dkwX2_processBlock_6 : List UInt8 := [182, 0, 86, 79, 42, 180, 0, 7, 4, 42, 42, 180, 0, 7, 42, 180, 0, 66, 21, 5, 4, 96, 46]
abbrev dktX2_processBlock_6 : List UInt8 := dkwX2_processBlock_6 ++ dktX2_processBlock_7
def dkwX2_processBlock_5 : List UInt8 := [16, 32, 162, 0, 99, 42, 180, 0, 7, 3, 42, 42, 180, 0, 7, 42, 180, 0, 66, 21, 5, 46]
abbrev dktX2_processBlock_5 : List UInt8 := dkwX2_processBlock_5 ++ dktX2_processBlock_6
def dkwX2_processBlock_4 : List UInt8 := [184, 0, 28, 79, 42, 180, 0, 7, 6, 43, 28, 16, 12, 96, 184, 0, 28, 79, 3, 54, 5, 21, 5]
abbrev dktX2_processBlock_4 : List UInt8 := dkwX2_processBlock_4 ++ dktX2_processBlock_5
def dkwX2_processBlock_3 : List UInt8 := [180, 0, 7, 4, 43, 28, 7, 96, 184, 0, 28, 79, 42, 180, 0, 7, 5, 43, 28, 16, 8, 96]
abbrev dktX2_processBlock_3 : List UInt8 := dkwX2_processBlock_3 ++ dktX2_processBlock_4
def dkwX2_processBlock_2 : List UInt8 := [187, 0, 81, 89, 18, 83, 183, 0, 85, 191, 42, 180, 0, 7, 3, 43, 28, 184, 0, 28, 79, 42]
abbrev dktX2_processBlock_2 : List UInt8 := dkwX2_processBlock_2 ++ dktX2_processBlock_3
def dkwX2_processBlock_1 : List UInt8 := [164, 0, 13, 187, 0, 76, 89, 18, 78, 183, 0, 80, 191, 21, 4, 16, 16, 96, 45, 190, 164, 0, 13]
abbrev dktX2_processBlock_1 : List UInt8 := dkwX2_processBlock_1 ++ dktX2_processBlock_2
def dkwX2_processBlock_0 : List UInt8 := [42, 180, 0, 66, 199, 0, 13, 187, 0, 71, 89, 18, 73, 183, 0, 75, 191, 28, 16, 16, 96, 43, 190]
abbrev dktX2_processBlock_0 : List UInt8 := dkwX2_processBlock_0 ++ dktX2_processBlock_1
theorem dksX2_processBlock_0 : cX2_processBlock.data.toList.drop 0 = dktX2_processBlock_0 := by decide +kernel
theorem dksX2_processBlock_1 : cX2_processBlock.data.toList.drop 23 = dktX2_processBlock_1 := dk_seg dksX2_processBlock_0 23 rfl rfl
theorem dksX2_processBlock_2 : cX2_processBlock.data.toList.drop 46 = dktX2_processBlock_2 := dk_seg dksX2_processBlock_1 23 rfl rfl
theorem dksX2_processBlock_3 : cX2_processBlock.data.toList.drop 68 = dktX2_processBlock_3 := dk_seg dksX2_processBlock_2 22 rfl rfl
theorem dksX2_processBlock_4 : cX2_processBlock.data.toList.drop 90 = dktX2_processBlock_4 := dk_seg dksX2_processBlock_3 22 rfl rfl
theorem dksX2_processBlock_5 : cX2_processBlock.data.toList.drop 113 = dktX2_processBlock_5 := dk_seg dksX2_processBlock_4 23 rfl rfl
theorem dksX2_processBlock_6 : cX2_processBlock.data.toList.drop 135 = dktX2_processBlock_6 := dk_seg dksX2_processBlock_5 22 rfl rfl
theorem dksX2_processBlock_7 : cX2_processBlock.data.toList.drop 158 = dktX2_processBlock_7 := dk_seg dksX2_processBlock_6 23 rfl rfl
theorem dksX2_processBlock_8 : cX2_processBlock.data.toList.drop 181 = dktX2_processBlock_8 := dk_seg dksX2_processBlock_7 23 rfl rfl
theorem dksX2_processBlock_9 : cX2_processBlock.data.toList.drop 204 = dktX2_processBlock_9 := dk_seg dksX2_processBlock_8 23 rfl rfl
theorem dksX2_processBlock_10 : cX2_processBlock.data.toList.drop 227 = dktX2_processBlock_10 := dk_seg dksX2_processBlock_9 23 rfl rfl
theorem dksX2_processBlock_11 : cX2_processBlock.data.toList.drop 251 = dktX2_processBlock_11 := dk_seg dksX2_processBlock_10 24 rfl rfl
theorem dX2_processBlock_0 : decode cX2_processBlock 0 = .ok (.aload_n 0, 1) := dk_42 (dk_at dksX2_processBlock_0 0 rfl rfl)
theorem dX2_processBlock_1 : decode cX2_processBlock 1 = .ok (.getfield 66, 3) := dk_180 0 66 (dk_at dksX2_processBlock_0 1 rfl rfl)
theorem dX2_processBlock_4 : decode cX2_processBlock 4 = .ok (.ifnonnull 13, 3) := dk_199 0 13 (dk_at dksX2_processBlock_0 4 rfl rfl)
theorem dX2_processBlock_7 : decode cX2_processBlock 7 = .ok (.new 71, 3) := dk_187 0 71 (dk_at dksX2_processBlock_0 7 rfl rfl)
theorem dX2_processBlock_10 : decode cX2_processBlock 10 = .ok (.dup, 1) := dk_89 (dk_at dksX2_processBlock_0 10 rfl rfl)
theorem dX2_processBlock_11 : decode cX2_processBlock 11 = .ok (.ldc 73, 2) := dk_18 73 (dk_at dksX2_processBlock_0 11 rfl rfl)
theorem dX2_processBlock_13 : decode cX2_processBlock 13 = .ok (.invokespecial 75, 3) := dk_183 0 75 (dk_at dksX2_processBlock_0 13 rfl rfl)
theorem dX2_processBlock_16 : decode cX2_processBlock 16 = .ok (.athrow, 1) := dk_191 (dk_at dksX2_processBlock_0 16 rfl rfl)
theorem dX2_processBlock_17 : decode cX2_processBlock 17 = .ok (.iload_n 2, 1) := dk_28 (dk_at dksX2_processBlock_0 17 rfl rfl)
theorem dX2_processBlock_18 : decode cX2_processBlock 18 = .ok (.bipush 16, 2) := dk_16 16 (dk_at dksX2_processBlock_0 18 rfl rfl)
theorem dX2_processBlock_20 : decode cX2_processBlock 20 = .ok (.iadd, 1) := dk_96 (dk_at dksX2_processBlock_0 20 rfl rfl)
theorem dX2_processBlock_21 : decode cX2_processBlock 21 = .ok (.aload_n 1, 1) := dk_43 (dk_at dksX2_processBlock_0 21 rfl rfl)
theorem dX2_processBlock_22 : decode cX2_processBlock 22 = .ok (.arraylength, 1) := dk_190 (dk_at dksX2_processBlock_0 22 rfl rfl)
theorem dX2_processBlock_23 : decode cX2_processBlock 23 = .ok (.if_icmp .le 13, 3) := dk_164 0 13 (dk_at dksX2_processBlock_1 0 rfl rfl)
theorem dX2_processBlock_26 : decode cX2_processBlock 26 = .ok (.new 76, 3) := dk_187 0 76 (dk_at dksX2_processBlock_1 3 rfl rfl)
theorem dX2_processBlock_29 : decode cX2_processBlock 29 = .ok (.dup, 1) := dk_89 (dk_at dksX2_processBlock_1 6 rfl rfl)
theorem dX2_processBlock_30 : decode cX2_processBlock 30 = .ok (.ldc 78, 2) := dk_18 78 (dk_at dksX2_processBlock_1 7 rfl rfl)
theorem dX2_processBlock_32 : decode cX2_processBlock 32 = .ok (.invokespecial 80, 3) := dk_183 0 80 (dk_at dksX2_processBlock_1 9 rfl rfl)
theorem dX2_processBlock_35 : decode cX2_processBlock 35 = .ok (.athrow, 1) := dk_191 (dk_at dksX2_processBlock_1 12 rfl rfl)
theorem dX2_processBlock_36 : decode cX2_processBlock 36 = .ok (.iload 4, 2) := dk_21 4 (dk_at dksX2_processBlock_1 13 rfl rfl)
theorem dX2_processBlock_38 : decode cX2_processBlock 38 = .ok (.bipush 16, 2) := dk_16 16 (dk_at dksX2_processBlock_1 15 rfl rfl)
theorem dX2_processBlock_40 : decode cX2_processBlock 40 = .ok (.iadd, 1) := dk_96 (dk_at dksX2_processBlock_1 17 rfl rfl)
theorem dX2_processBlock_41 : decode cX2_processBlock 41 = .ok (.aload_n 3, 1) := dk_45 (dk_at dksX2_processBlock_1 18 rfl rfl)
theorem dX2_processBlock_42 : decode cX2_processBlock 42 = .ok (.arraylength, 1) := dk_190 (dk_at dksX2_processBlock_1 19 rfl rfl)
theorem dX2_processBlock_43 : decode cX2_processBlock 43 = .ok (.if_icmp .le 13, 3) := dk_164 0 13 (dk_at dksX2_processBlock_1 20 rfl rfl)
theorem dX2_processBlock_46 : decode cX2_processBlock 46 = .ok (.new 81, 3) := dk_187 0 81 (dk_at dksX2_processBlock_2 0 rfl rfl)
theorem dX2_processBlock_49 : decode cX2_processBlock 49 = .ok (.dup, 1) := dk_89 (dk_at dksX2_processBlock_2 3 rfl rfl)
theorem dX2_processBlock_50 : decode cX2_processBlock 50 = .ok (.ldc 83, 2) := dk_18 83 (dk_at dksX2_processBlock_2 4 rfl rfl)
theorem dX2_processBlock_52 : decode cX2_processBlock 52 = .ok (.invokespecial 85, 3) := dk_183 0 85 (dk_at dksX2_processBlock_2 6 rfl rfl)
theorem dX2_processBlock_55 : decode cX2_processBlock 55 = .ok (.athrow, 1) := dk_191 (dk_at dksX2_processBlock_2 9 rfl rfl)
theorem dX2_processBlock_56 : decode cX2_processBlock 56 = .ok (.aload_n 0, 1) := dk_42 (dk_at dksX2_processBlock_2 10 rfl rfl)
theorem dX2_processBlock_57 : decode cX2_processBlock 57 = .ok (.getfield 7, 3) := dk_180 0 7 (dk_at dksX2_processBlock_2 11 rfl rfl)
theorem dX2_processBlock_60 : decode cX2_processBlock 60 = .ok (.iconst 0, 1) := dk_3 (dk_at dksX2_processBlock_2 14 rfl rfl)
theorem dX2_processBlock_61 : decode cX2_processBlock 61 = .ok (.aload_n 1, 1) := dk_43 (dk_at dksX2_processBlock_2 15 rfl rfl)
theorem dX2_processBlock_62 : decode cX2_processBlock 62 = .ok (.iload_n 2, 1) := dk_28 (dk_at dksX2_processBlock_2 16 rfl rfl)
theorem dX2_processBlock_63 : decode cX2_processBlock 63 = .ok (.invokestatic 28, 3) := dk_184 0 28 (dk_at dksX2_processBlock_2 17 rfl rfl)
theorem dX2_processBlock_66 : decode cX2_processBlock 66 = .ok (.iastore, 1) := dk_79 (dk_at dksX2_processBlock_2 20 rfl rfl)
theorem dX2_processBlock_67 : decode cX2_processBlock 67 = .ok (.aload_n 0, 1) := dk_42 (dk_at dksX2_processBlock_2 21 rfl rfl)
theorem dX2_processBlock_68 : decode cX2_processBlock 68 = .ok (.getfield 7, 3) := dk_180 0 7 (dk_at dksX2_processBlock_3 0 rfl rfl)
theorem dX2_processBlock_71 : decode cX2_processBlock 71 = .ok (.iconst 1, 1) := dk_4 (dk_at dksX2_processBlock_3 3 rfl rfl)
theorem dX2_processBlock_72 : decode cX2_processBlock 72 = .ok (.aload_n 1, 1) := dk_43 (dk_at dksX2_processBlock_3 4 rfl rfl)
theorem dX2_processBlock_73 : decode cX2_processBlock 73 = .ok (.iload_n 2, 1) := dk_28 (dk_at dksX2_processBlock_3 5 rfl rfl)
theorem dX2_processBlock_74 : decode cX2_processBlock 74 = .ok (.iconst 4, 1) := dk_7 (dk_at dksX2_processBlock_3 6 rfl rfl)
theorem dX2_processBlock_75 : decode cX2_processBlock 75 = .ok (.iadd, 1) := dk_96 (dk_at dksX2_processBlock_3 7 rfl rfl)
theorem dX2_processBlock_76 : decode cX2_processBlock 76 = .ok (.invokestatic 28, 3) := dk_184 0 28 (dk_at dksX2_processBlock_3 8 rfl rfl)
theorem dX2_processBlock_79 : decode cX2_processBlock 79 = .ok (.iastore, 1) := dk_79 (dk_at dksX2_processBlock_3 11 rfl rfl)
theorem dX2_processBlock_80 : decode cX2_processBlock 80 = .ok (.aload_n 0, 1) := dk_42 (dk_at dksX2_processBlock_3 12 rfl rfl)
theorem dX2_processBlock_81 : decode cX2_processBlock 81 = .ok (.getfield 7, 3) := dk_180 0 7 (dk_at dksX2_processBlock_3 13 rfl rfl)
theorem dX2_processBlock_84 : decode cX2_processBlock 84 = .ok (.iconst 2, 1) := dk_5 (dk_at dksX2_processBlock_3 16 rfl rfl)
theorem dX2_processBlock_85 : decode cX2_processBlock 85 = .ok (.aload_n 1, 1) := dk_43 (dk_at dksX2_processBlock_3 17 rfl rfl)
theorem dX2_processBlock_86 : decode cX2_processBlock 86 = .ok (.iload_n 2, 1) := dk_28 (dk_at dksX2_processBlock_3 18 rfl rfl)
theorem dX2_processBlock_87 : decode cX2_processBlock 87 = .ok (.bipush 8, 2) := dk_16 8 (dk_at dksX2_processBlock_3 19 rfl rfl)
theorem dX2_processBlock_89 : decode cX2_processBlock 89 = .ok (.iadd, 1) := dk_96 (dk_at dksX2_processBlock_3 21 rfl rfl)
theorem dX2_processBlock_90 : decode cX2_processBlock 90 = .ok (.invokestatic 28, 3) := dk_184 0 28 (dk_at dksX2_processBlock_4 0 rfl rfl)
theorem dX2_processBlock_93 : decode cX2_processBlock 93 = .ok (.iastore, 1) := dk_79 (dk_at dksX2_processBlock_4 3 rfl rfl)
theorem dX2_processBlock_94 : decode cX2_processBlock 94 = .ok (.aload_n 0, 1) := dk_42 (dk_at dksX2_processBlock_4 4 rfl rfl)
theorem dX2_processBlock_95 : decode cX2_processBlock 95 = .ok (.getfield 7, 3) := dk_180 0 7 (dk_at dksX2_processBlock_4 5 rfl rfl)
theorem dX2_processBlock_98 : decode cX2_processBlock 98 = .ok (.iconst 3, 1) := dk_6 (dk_at dksX2_processBlock_4 8 rfl rfl)
theorem dX2_processBlock_99 : decode cX2_processBlock 99 = .ok (.aload_n 1, 1) := dk_43 (dk_at dksX2_processBlock_4 9 rfl rfl)
theorem dX2_processBlock_100 : decode cX2_processBlock 100 = .ok (.iload_n 2, 1) := dk_28 (dk_at dksX2_processBlock_4 10 rfl rfl)
theorem dX2_processBlock_101 : decode cX2_processBlock 101 = .ok (.bipush 12, 2) := dk_16 12 (dk_at dksX2_processBlock_4 11 rfl rfl)
theorem dX2_processBlock_103 : decode cX2_processBlock 103 = .ok (.iadd, 1) := dk_96 (dk_at dksX2_processBlock_4 13 rfl rfl)
theorem dX2_processBlock_104 : decode cX2_processBlock 104 = .ok (.invokestatic 28, 3) := dk_184 0 28 (dk_at dksX2_processBlock_4 14 rfl rfl)
theorem dX2_processBlock_107 : decode cX2_processBlock 107 = .ok (.iastore, 1) := dk_79 (dk_at dksX2_processBlock_4 17 rfl rfl)
theorem dX2_processBlock_108 : decode cX2_processBlock 108 = .ok (.iconst 0, 1) := dk_3 (dk_at dksX2_processBlock_4 18 rfl rfl)
theorem dX2_processBlock_109 : decode cX2_processBlock 109 = .ok (.istore 5, 2) := dk_54 5 (dk_at dksX2_processBlock_4 19 rfl rfl)
theorem dX2_processBlock_111 : decode cX2_processBlock 111 = .ok (.iload 5, 2) := dk_21 5 (dk_at dksX2_processBlock_4 21 rfl rfl)
theorem dX2_processBlock_113 : decode cX2_processBlock 113 = .ok (.bipush 32, 2) := dk_16 32 (dk_at dksX2_processBlock_5 0 rfl rfl)
theorem dX2_processBlock_115 : decode cX2_processBlock 115 = .ok (.if_icmp .ge 99, 3) := dk_162 0 99 (dk_at dksX2_processBlock_5 2 rfl rfl)
theorem dX2_processBlock_118 : decode cX2_processBlock 118 = .ok (.aload_n 0, 1) := dk_42 (dk_at dksX2_processBlock_5 5 rfl rfl)
theorem dX2_processBlock_119 : decode cX2_processBlock 119 = .ok (.getfield 7, 3) := dk_180 0 7 (dk_at dksX2_processBlock_5 6 rfl rfl)
theorem dX2_processBlock_122 : decode cX2_processBlock 122 = .ok (.iconst 0, 1) := dk_3 (dk_at dksX2_processBlock_5 9 rfl rfl)
theorem dX2_processBlock_123 : decode cX2_processBlock 123 = .ok (.aload_n 0, 1) := dk_42 (dk_at dksX2_processBlock_5 10 rfl rfl)
theorem dX2_processBlock_124 : decode cX2_processBlock 124 = .ok (.aload_n 0, 1) := dk_42 (dk_at dksX2_processBlock_5 11 rfl rfl)
theorem dX2_processBlock_125 : decode cX2_processBlock 125 = .ok (.getfield 7, 3) := dk_180 0 7 (dk_at dksX2_processBlock_5 12 rfl rfl)
theorem dX2_processBlock_128 : decode cX2_processBlock 128 = .ok (.aload_n 0, 1) := dk_42 (dk_at dksX2_processBlock_5 15 rfl rfl)
theorem dX2_processBlock_129 : decode cX2_processBlock 129 = .ok (.getfield 66, 3) := dk_180 0 66 (dk_at dksX2_processBlock_5 16 rfl rfl)
theorem dX2_processBlock_132 : decode cX2_processBlock 132 = .ok (.iload 5, 2) := dk_21 5 (dk_at dksX2_processBlock_5 19 rfl rfl)
theorem dX2_processBlock_134 : decode cX2_processBlock 134 = .ok (.iaload, 1) := dk_46 (dk_at dksX2_processBlock_5 21 rfl rfl)
theorem dX2_processBlock_135 : decode cX2_processBlock 135 = .ok (.invokevirtual 86, 3) := dk_182 0 86 (dk_at dksX2_processBlock_6 0 rfl rfl)
theorem dX2_processBlock_138 : decode cX2_processBlock 138 = .ok (.iastore, 1) := dk_79 (dk_at dksX2_processBlock_6 3 rfl rfl)
theorem dX2_processBlock_139 : decode cX2_processBlock 139 = .ok (.aload_n 0, 1) := dk_42 (dk_at dksX2_processBlock_6 4 rfl rfl)
theorem dX2_processBlock_140 : decode cX2_processBlock 140 = .ok (.getfield 7, 3) := dk_180 0 7 (dk_at dksX2_processBlock_6 5 rfl rfl)
theorem dX2_processBlock_143 : decode cX2_processBlock 143 = .ok (.iconst 1, 1) := dk_4 (dk_at dksX2_processBlock_6 8 rfl rfl)
theorem dX2_processBlock_144 : decode cX2_processBlock 144 = .ok (.aload_n 0, 1) := dk_42 (dk_at dksX2_processBlock_6 9 rfl rfl)
theorem dX2_processBlock_145 : decode cX2_processBlock 145 = .ok (.aload_n 0, 1) := dk_42 (dk_at dksX2_processBlock_6 10 rfl rfl)
theorem dX2_processBlock_146 : decode cX2_processBlock 146 = .ok (.getfield 7, 3) := dk_180 0 7 (dk_at dksX2_processBlock_6 11 rfl rfl)
theorem dX2_processBlock_149 : decode cX2_processBlock 149 = .ok (.aload_n 0, 1) := dk_42 (dk_at dksX2_processBlock_6 14 rfl rfl)
theorem dX2_processBlock_150 : decode cX2_processBlock 150 = .ok (.getfield 66, 3) := dk_180 0 66 (dk_at dksX2_processBlock_6 15 rfl rfl)
theorem dX2_processBlock_153 : decode cX2_processBlock 153 = .ok (.iload 5, 2) := dk_21 5 (dk_at dksX2_processBlock_6 18 rfl rfl)
theorem dX2_processBlock_155 : decode cX2_processBlock 155 = .ok (.iconst 1, 1) := dk_4 (dk_at dksX2_processBlock_6 20 rfl rfl)
theorem dX2_processBlock_156 : decode cX2_processBlock 156 = .ok (.iadd, 1) := dk_96 (dk_at dksX2_processBlock_6 21 rfl rfl)
theorem dX2_processBlock_157 : decode cX2_processBlock 157 = .ok (.iaload, 1) := dk_46 (dk_at dksX2_processBlock_6 22 rfl rfl)
theorem dX2_processBlock_158 : decode cX2_processBlock 158 = .ok (.invokevirtual 90, 3) := dk_182 0 90 (dk_at dksX2_processBlock_7 0 rfl rfl)
theorem dX2_processBlock_161 : decode cX2_processBlock 161 = .ok (.iastore, 1) := dk_79 (dk_at dksX2_processBlock_7 3 rfl rfl)
theorem dX2_processBlock_162 : decode cX2_processBlock 162 = .ok (.aload_n 0, 1) := dk_42 (dk_at dksX2_processBlock_7 4 rfl rfl)
theorem dX2_processBlock_163 : decode cX2_processBlock 163 = .ok (.getfield 7, 3) := dk_180 0 7 (dk_at dksX2_processBlock_7 5 rfl rfl)
theorem dX2_processBlock_166 : decode cX2_processBlock 166 = .ok (.iconst 2, 1) := dk_5 (dk_at dksX2_processBlock_7 8 rfl rfl)
theorem dX2_processBlock_167 : decode cX2_processBlock 167 = .ok (.aload_n 0, 1) := dk_42 (dk_at dksX2_processBlock_7 9 rfl rfl)
theorem dX2_processBlock_168 : decode cX2_processBlock 168 = .ok (.aload_n 0, 1) := dk_42 (dk_at dksX2_processBlock_7 10 rfl rfl)
theorem dX2_processBlock_169 : decode cX2_processBlock 169 = .ok (.getfield 7, 3) := dk_180 0 7 (dk_at dksX2_processBlock_7 11 rfl rfl)
theorem dX2_processBlock_172 : decode cX2_processBlock 172 = .ok (.aload_n 0, 1) := dk_42 (dk_at dksX2_processBlock_7 14 rfl rfl)
theorem dX2_processBlock_173 : decode cX2_processBlock 173 = .ok (.getfield 66, 3) := dk_180 0 66 (dk_at dksX2_processBlock_7 15 rfl rfl)
theorem dX2_processBlock_176 : decode cX2_processBlock 176 = .ok (.iload 5, 2) := dk_21 5 (dk_at dksX2_processBlock_7 18 rfl rfl)
theorem dX2_processBlock_178 : decode cX2_processBlock 178 = .ok (.iconst 2, 1) := dk_5 (dk_at dksX2_processBlock_7 20 rfl rfl)
theorem dX2_processBlock_179 : decode cX2_processBlock 179 = .ok (.iadd, 1) := dk_96 (dk_at dksX2_processBlock_7 21 rfl rfl)
theorem dX2_processBlock_180 : decode cX2_processBlock 180 = .ok (.iaload, 1) := dk_46 (dk_at dksX2_processBlock_7 22 rfl rfl)
theorem dX2_processBlock_181 : decode cX2_processBlock 181 = .ok (.invokevirtual 93, 3) := dk_182 0 93 (dk_at dksX2_processBlock_8 0 rfl rfl)
theorem dX2_processBlock_184 : decode cX2_processBlock 184 = .ok (.iastore, 1) := dk_79 (dk_at dksX2_processBlock_8 3 rfl rfl)
theorem dX2_processBlock_185 : decode cX2_processBlock 185 = .ok (.aload_n 0, 1) := dk_42 (dk_at dksX2_processBlock_8 4 rfl rfl)
theorem dX2_processBlock_186 : decode cX2_processBlock 186 = .ok (.getfield 7, 3) := dk_180 0 7 (dk_at dksX2_processBlock_8 5 rfl rfl)
theorem dX2_processBlock_189 : decode cX2_processBlock 189 = .ok (.iconst 3, 1) := dk_6 (dk_at dksX2_processBlock_8 8 rfl rfl)
theorem dX2_processBlock_190 : decode cX2_processBlock 190 = .ok (.aload_n 0, 1) := dk_42 (dk_at dksX2_processBlock_8 9 rfl rfl)
theorem dX2_processBlock_191 : decode cX2_processBlock 191 = .ok (.aload_n 0, 1) := dk_42 (dk_at dksX2_processBlock_8 10 rfl rfl)
theorem dX2_processBlock_192 : decode cX2_processBlock 192 = .ok (.getfield 7, 3) := dk_180 0 7 (dk_at dksX2_processBlock_8 11 rfl rfl)
theorem dX2_processBlock_195 : decode cX2_processBlock 195 = .ok (.aload_n 0, 1) := dk_42 (dk_at dksX2_processBlock_8 14 rfl rfl)
theorem dX2_processBlock_196 : decode cX2_processBlock 196 = .ok (.getfield 66, 3) := dk_180 0 66 (dk_at dksX2_processBlock_8 15 rfl rfl)
theorem dX2_processBlock_199 : decode cX2_processBlock 199 = .ok (.iload 5, 2) := dk_21 5 (dk_at dksX2_processBlock_8 18 rfl rfl)
theorem dX2_processBlock_201 : decode cX2_processBlock 201 = .ok (.iconst 3, 1) := dk_6 (dk_at dksX2_processBlock_8 20 rfl rfl)
theorem dX2_processBlock_202 : decode cX2_processBlock 202 = .ok (.iadd, 1) := dk_96 (dk_at dksX2_processBlock_8 21 rfl rfl)
theorem dX2_processBlock_203 : decode cX2_processBlock 203 = .ok (.iaload, 1) := dk_46 (dk_at dksX2_processBlock_8 22 rfl rfl)
theorem dX2_processBlock_204 : decode cX2_processBlock 204 = .ok (.invokevirtual 96, 3) := dk_182 0 96 (dk_at dksX2_processBlock_9 0 rfl rfl)
theorem dX2_processBlock_207 : decode cX2_processBlock 207 = .ok (.iastore, 1) := dk_79 (dk_at dksX2_processBlock_9 3 rfl rfl)
theorem dX2_processBlock_208 : decode cX2_processBlock 208 = .ok (.iinc 5 4, 3) := dk_132 5 4 (dk_at dksX2_processBlock_9 4 rfl rfl)
theorem dX2_processBlock_211 : decode cX2_processBlock 211 = .ok (.goto (-100), 3) := dk_167 255 156 (dk_at dksX2_processBlock_9 7 rfl rfl)
theorem dX2_processBlock_214 : decode cX2_processBlock 214 = .ok (.aload_n 0, 1) := dk_42 (dk_at dksX2_processBlock_9 10 rfl rfl)
theorem dX2_processBlock_215 : decode cX2_processBlock 215 = .ok (.getfield 7, 3) := dk_180 0 7 (dk_at dksX2_processBlock_9 11 rfl rfl)
theorem dX2_processBlock_218 : decode cX2_processBlock 218 = .ok (.iconst 3, 1) := dk_6 (dk_at dksX2_processBlock_9 14 rfl rfl)
theorem dX2_processBlock_219 : decode cX2_processBlock 219 = .ok (.iaload, 1) := dk_46 (dk_at dksX2_processBlock_9 15 rfl rfl)
theorem dX2_processBlock_220 : decode cX2_processBlock 220 = .ok (.aload_n 3, 1) := dk_45 (dk_at dksX2_processBlock_9 16 rfl rfl)
theorem dX2_processBlock_221 : decode cX2_processBlock 221 = .ok (.iload 4, 2) := dk_21 4 (dk_at dksX2_processBlock_9 17 rfl rfl)
theorem dX2_processBlock_223 : decode cX2_processBlock 223 = .ok (.invokestatic 99, 3) := dk_184 0 99 (dk_at dksX2_processBlock_9 19 rfl rfl)
theorem dX2_processBlock_226 : decode cX2_processBlock 226 = .ok (.aload_n 0, 1) := dk_42 (dk_at dksX2_processBlock_9 22 rfl rfl)
theorem dX2_processBlock_227 : decode cX2_processBlock 227 = .ok (.getfield 7, 3) := dk_180 0 7 (dk_at dksX2_processBlock_10 0 rfl rfl)
theorem dX2_processBlock_230 : decode cX2_processBlock 230 = .ok (.iconst 2, 1) := dk_5 (dk_at dksX2_processBlock_10 3 rfl rfl)
theorem dX2_processBlock_231 : decode cX2_processBlock 231 = .ok (.iaload, 1) := dk_46 (dk_at dksX2_processBlock_10 4 rfl rfl)
theorem dX2_processBlock_232 : decode cX2_processBlock 232 = .ok (.aload_n 3, 1) := dk_45 (dk_at dksX2_processBlock_10 5 rfl rfl)
theorem dX2_processBlock_233 : decode cX2_processBlock 233 = .ok (.iload 4, 2) := dk_21 4 (dk_at dksX2_processBlock_10 6 rfl rfl)
theorem dX2_processBlock_235 : decode cX2_processBlock 235 = .ok (.iconst 4, 1) := dk_7 (dk_at dksX2_processBlock_10 8 rfl rfl)
theorem dX2_processBlock_236 : decode cX2_processBlock 236 = .ok (.iadd, 1) := dk_96 (dk_at dksX2_processBlock_10 9 rfl rfl)
theorem dX2_processBlock_237 : decode cX2_processBlock 237 = .ok (.invokestatic 99, 3) := dk_184 0 99 (dk_at dksX2_processBlock_10 10 rfl rfl)
theorem dX2_processBlock_240 : decode cX2_processBlock 240 = .ok (.aload_n 0, 1) := dk_42 (dk_at dksX2_processBlock_10 13 rfl rfl)
theorem dX2_processBlock_241 : decode cX2_processBlock 241 = .ok (.getfield 7, 3) := dk_180 0 7 (dk_at dksX2_processBlock_10 14 rfl rfl)
theorem dX2_processBlock_244 : decode cX2_processBlock 244 = .ok (.iconst 1, 1) := dk_4 (dk_at dksX2_processBlock_10 17 rfl rfl)
theorem dX2_processBlock_245 : decode cX2_processBlock 245 = .ok (.iaload, 1) := dk_46 (dk_at dksX2_processBlock_10 18 rfl rfl)
theorem dX2_processBlock_246 : decode cX2_processBlock 246 = .ok (.aload_n 3, 1) := dk_45 (dk_at dksX2_processBlock_10 19 rfl rfl)
theorem dX2_processBlock_247 : decode cX2_processBlock 247 = .ok (.iload 4, 2) := dk_21 4 (dk_at dksX2_processBlock_10 20 rfl rfl)
theorem dX2_processBlock_249 : decode cX2_processBlock 249 = .ok (.bipush 8, 2) := dk_16 8 (dk_at dksX2_processBlock_10 22 rfl rfl)
theorem dX2_processBlock_251 : decode cX2_processBlock 251 = .ok (.iadd, 1) := dk_96 (dk_at dksX2_processBlock_11 0 rfl rfl)
theorem dX2_processBlock_252 : decode cX2_processBlock 252 = .ok (.invokestatic 99, 3) := dk_184 0 99 (dk_at dksX2_processBlock_11 1 rfl rfl)
theorem dX2_processBlock_255 : decode cX2_processBlock 255 = .ok (.aload_n 0, 1) := dk_42 (dk_at dksX2_processBlock_11 4 rfl rfl)
theorem dX2_processBlock_256 : decode cX2_processBlock 256 = .ok (.getfield 7, 3) := dk_180 0 7 (dk_at dksX2_processBlock_11 5 rfl rfl)
theorem dX2_processBlock_259 : decode cX2_processBlock 259 = .ok (.iconst 0, 1) := dk_3 (dk_at dksX2_processBlock_11 8 rfl rfl)
theorem dX2_processBlock_260 : decode cX2_processBlock 260 = .ok (.iaload, 1) := dk_46 (dk_at dksX2_processBlock_11 9 rfl rfl)
theorem dX2_processBlock_261 : decode cX2_processBlock 261 = .ok (.aload_n 3, 1) := dk_45 (dk_at dksX2_processBlock_11 10 rfl rfl)
theorem dX2_processBlock_262 : decode cX2_processBlock 262 = .ok (.iload 4, 2) := dk_21 4 (dk_at dksX2_processBlock_11 11 rfl rfl)
theorem dX2_processBlock_264 : decode cX2_processBlock 264 = .ok (.bipush 12, 2) := dk_16 12 (dk_at dksX2_processBlock_11 13 rfl rfl)
theorem dX2_processBlock_266 : decode cX2_processBlock 266 = .ok (.iadd, 1) := dk_96 (dk_at dksX2_processBlock_11 15 rfl rfl)
theorem dX2_processBlock_267 : decode cX2_processBlock 267 = .ok (.invokestatic 99, 3) := dk_184 0 99 (dk_at dksX2_processBlock_11 16 rfl rfl)
theorem dX2_processBlock_270 : decode cX2_processBlock 270 = .ok (.bipush 16, 2) := dk_16 16 (dk_at dksX2_processBlock_11 19 rfl rfl)
theorem dX2_processBlock_272 : decode cX2_processBlock 272 = .ok (.ireturn, 1) := dk_172 (dk_at dksX2_processBlock_11 21 rfl rfl)
abbrev cX2_F0 : ByteArray := prog_8_method_9_code
def yX2_F0 : MethodName := ⟨RX2, "F0", "([II)I"⟩
def dkwX2_F0_0 : List UInt8 := [43, 3, 46, 42, 43, 4, 46, 43, 5, 46, 130, 43, 6, 46, 130, 28, 130, 182, 0, 46, 130, 172]
abbrev dktX2_F0_0 : List UInt8 := dkwX2_F0_0 ++ []
theorem dksX2_F0_0 : cX2_F0.data.toList.drop 0 = dktX2_F0_0 := by decide +kernel
theorem dX2_F0_0 : decode cX2_F0 0 = .ok (.aload_n 1, 1) := dk_43 (dk_at dksX2_F0_0 0 rfl rfl)
theorem dX2_F0_1 : decode cX2_F0 1 = .ok (.iconst 0, 1) := dk_3 (dk_at dksX2_F0_0 1 rfl rfl)
theorem dX2_F0_2 : decode cX2_F0 2 = .ok (.iaload, 1) := dk_46 (dk_at dksX2_F0_0 2 rfl rfl)
theorem dX2_F0_3 : decode cX2_F0 3 = .ok (.aload_n 0, 1) := dk_42 (dk_at dksX2_F0_0 3 rfl rfl)
theorem dX2_F0_4 : decode cX2_F0 4 = .ok (.aload_n 1, 1) := dk_43 (dk_at dksX2_F0_0 4 rfl rfl)
theorem dX2_F0_5 : decode cX2_F0 5 = .ok (.iconst 1, 1) := dk_4 (dk_at dksX2_F0_0 5 rfl rfl)
theorem dX2_F0_6 : decode cX2_F0 6 = .ok (.iaload, 1) := dk_46 (dk_at dksX2_F0_0 6 rfl rfl)
theorem dX2_F0_7 : decode cX2_F0 7 = .ok (.aload_n 1, 1) := dk_43 (dk_at dksX2_F0_0 7 rfl rfl)
theorem dX2_F0_8 : decode cX2_F0 8 = .ok (.iconst 2, 1) := dk_5 (dk_at dksX2_F0_0 8 rfl rfl)
theorem dX2_F0_9 : decode cX2_F0 9 = .ok (.iaload, 1) := dk_46 (dk_at dksX2_F0_0 9 rfl rfl)
theorem dX2_F0_10 : decode cX2_F0 10 = .ok (.ixor, 1) := dk_130 (dk_at dksX2_F0_0 10 rfl rfl)
theorem dX2_F0_11 : decode cX2_F0 11 = .ok (.aload_n 1, 1) := dk_43 (dk_at dksX2_F0_0 11 rfl rfl)
theorem dX2_F0_12 : decode cX2_F0 12 = .ok (.iconst 3, 1) := dk_6 (dk_at dksX2_F0_0 12 rfl rfl)
theorem dX2_F0_13 : decode cX2_F0 13 = .ok (.iaload, 1) := dk_46 (dk_at dksX2_F0_0 13 rfl rfl)
theorem dX2_F0_14 : decode cX2_F0 14 = .ok (.ixor, 1) := dk_130 (dk_at dksX2_F0_0 14 rfl rfl)
theorem dX2_F0_15 : decode cX2_F0 15 = .ok (.iload_n 2, 1) := dk_28 (dk_at dksX2_F0_0 15 rfl rfl)
theorem dX2_F0_16 : decode cX2_F0 16 = .ok (.ixor, 1) := dk_130 (dk_at dksX2_F0_0 16 rfl rfl)
theorem dX2_F0_17 : decode cX2_F0 17 = .ok (.invokevirtual 46, 3) := dk_182 0 46 (dk_at dksX2_F0_0 17 rfl rfl)
theorem dX2_F0_20 : decode cX2_F0 20 = .ok (.ixor, 1) := dk_130 (dk_at dksX2_F0_0 20 rfl rfl)
theorem dX2_F0_21 : decode cX2_F0 21 = .ok (.ireturn, 1) := dk_172 (dk_at dksX2_F0_0 21 rfl rfl)
abbrev cX2_T : ByteArray := prog_8_method_8_code
def yX2_T : MethodName := ⟨RX2, "T", "(I)I"⟩
def dkwX2_T_0 : List UInt8 := [42, 42, 27, 182, 0, 21, 182, 0, 43, 172]
abbrev dktX2_T_0 : List UInt8 := dkwX2_T_0 ++ []
theorem dksX2_T_0 : cX2_T.data.toList.drop 0 = dktX2_T_0 := by decide +kernel
theorem dX2_T_0 : decode cX2_T 0 = .ok (.aload_n 0, 1) := dk_42 (dk_at dksX2_T_0 0 rfl rfl)
theorem dX2_T_1 : decode cX2_T 1 = .ok (.aload_n 0, 1) := dk_42 (dk_at dksX2_T_0 1 rfl rfl)
theorem dX2_T_2 : decode cX2_T 2 = .ok (.iload_n 1, 1) := dk_27 (dk_at dksX2_T_0 2 rfl rfl)
theorem dX2_T_3 : decode cX2_T 3 = .ok (.invokevirtual 21, 3) := dk_182 0 21 (dk_at dksX2_T_0 3 rfl rfl)
theorem dX2_T_6 : decode cX2_T 6 = .ok (.invokevirtual 43, 3) := dk_182 0 43 (dk_at dksX2_T_0 6 rfl rfl)
theorem dX2_T_9 : decode cX2_T 9 = .ok (.ireturn, 1) := dk_172 (dk_at dksX2_T_0 9 rfl rfl)
abbrev cX2_L : ByteArray := prog_8_method_7_code
def yX2_L : MethodName := ⟨RX2, "L", "(I)I"⟩
def dkwX2_L_1 : List UInt8 := [42, 27, 16, 24, 182, 0, 17, 130, 61, 28, 172]
abbrev dktX2_L_1 : List UInt8 := dkwX2_L_1 ++ []
def dkwX2_L_0 : List UInt8 := [27, 42, 27, 5, 182, 0, 17, 130, 42, 27, 16, 10, 182, 0, 17, 130, 42, 27, 16, 18, 182, 0, 17, 130]
abbrev dktX2_L_0 : List UInt8 := dkwX2_L_0 ++ dktX2_L_1
theorem dksX2_L_0 : cX2_L.data.toList.drop 0 = dktX2_L_0 := by decide +kernel
theorem dksX2_L_1 : cX2_L.data.toList.drop 24 = dktX2_L_1 := dk_seg dksX2_L_0 24 rfl rfl
theorem dX2_L_0 : decode cX2_L 0 = .ok (.iload_n 1, 1) := dk_27 (dk_at dksX2_L_0 0 rfl rfl)
theorem dX2_L_1 : decode cX2_L 1 = .ok (.aload_n 0, 1) := dk_42 (dk_at dksX2_L_0 1 rfl rfl)
theorem dX2_L_2 : decode cX2_L 2 = .ok (.iload_n 1, 1) := dk_27 (dk_at dksX2_L_0 2 rfl rfl)
theorem dX2_L_3 : decode cX2_L 3 = .ok (.iconst 2, 1) := dk_5 (dk_at dksX2_L_0 3 rfl rfl)
theorem dX2_L_4 : decode cX2_L 4 = .ok (.invokevirtual 17, 3) := dk_182 0 17 (dk_at dksX2_L_0 4 rfl rfl)
theorem dX2_L_7 : decode cX2_L 7 = .ok (.ixor, 1) := dk_130 (dk_at dksX2_L_0 7 rfl rfl)
theorem dX2_L_8 : decode cX2_L 8 = .ok (.aload_n 0, 1) := dk_42 (dk_at dksX2_L_0 8 rfl rfl)
theorem dX2_L_9 : decode cX2_L 9 = .ok (.iload_n 1, 1) := dk_27 (dk_at dksX2_L_0 9 rfl rfl)
theorem dX2_L_10 : decode cX2_L 10 = .ok (.bipush 10, 2) := dk_16 10 (dk_at dksX2_L_0 10 rfl rfl)
theorem dX2_L_12 : decode cX2_L 12 = .ok (.invokevirtual 17, 3) := dk_182 0 17 (dk_at dksX2_L_0 12 rfl rfl)
theorem dX2_L_15 : decode cX2_L 15 = .ok (.ixor, 1) := dk_130 (dk_at dksX2_L_0 15 rfl rfl)
theorem dX2_L_16 : decode cX2_L 16 = .ok (.aload_n 0, 1) := dk_42 (dk_at dksX2_L_0 16 rfl rfl)
theorem dX2_L_17 : decode cX2_L 17 = .ok (.iload_n 1, 1) := dk_27 (dk_at dksX2_L_0 17 rfl rfl)
theorem dX2_L_18 : decode cX2_L 18 = .ok (.bipush 18, 2) := dk_16 18 (dk_at dksX2_L_0 18 rfl rfl)
theorem dX2_L_20 : decode cX2_L 20 = .ok (.invokevirtual 17, 3) := dk_182 0 17 (dk_at dksX2_L_0 20 rfl rfl)
theorem dX2_L_23 : decode cX2_L 23 = .ok (.ixor, 1) := dk_130 (dk_at dksX2_L_0 23 rfl rfl)
theorem dX2_L_24 : decode cX2_L 24 = .ok (.aload_n 0, 1) := dk_42 (dk_at dksX2_L_1 0 rfl rfl)
theorem dX2_L_25 : decode cX2_L 25 = .ok (.iload_n 1, 1) := dk_27 (dk_at dksX2_L_1 1 rfl rfl)
theorem dX2_L_26 : decode cX2_L 26 = .ok (.bipush 24, 2) := dk_16 24 (dk_at dksX2_L_1 2 rfl rfl)
theorem dX2_L_28 : decode cX2_L 28 = .ok (.invokevirtual 17, 3) := dk_182 0 17 (dk_at dksX2_L_1 4 rfl rfl)
theorem dX2_L_31 : decode cX2_L 31 = .ok (.ixor, 1) := dk_130 (dk_at dksX2_L_1 7 rfl rfl)
theorem dX2_L_32 : decode cX2_L 32 = .ok (.istore_n 2, 1) := dk_61 (dk_at dksX2_L_1 8 rfl rfl)
theorem dX2_L_33 : decode cX2_L 33 = .ok (.iload_n 2, 1) := dk_28 (dk_at dksX2_L_1 9 rfl rfl)
theorem dX2_L_34 : decode cX2_L 34 = .ok (.ireturn, 1) := dk_172 (dk_at dksX2_L_1 10 rfl rfl)
abbrev cX2_F1 : ByteArray := prog_8_method_10_code
def yX2_F1 : MethodName := ⟨RX2, "F1", "([II)I"⟩
def dkwX2_F1_0 : List UInt8 := [43, 4, 46, 42, 43, 5, 46, 43, 6, 46, 130, 43, 3, 46, 130, 28, 130, 182, 0, 46, 130, 172]
abbrev dktX2_F1_0 : List UInt8 := dkwX2_F1_0 ++ []
theorem dksX2_F1_0 : cX2_F1.data.toList.drop 0 = dktX2_F1_0 := by decide +kernel
theorem dX2_F1_0 : decode cX2_F1 0 = .ok (.aload_n 1, 1) := dk_43 (dk_at dksX2_F1_0 0 rfl rfl)
theorem dX2_F1_1 : decode cX2_F1 1 = .ok (.iconst 1, 1) := dk_4 (dk_at dksX2_F1_0 1 rfl rfl)
theorem dX2_F1_2 : decode cX2_F1 2 = .ok (.iaload, 1) := dk_46 (dk_at dksX2_F1_0 2 rfl rfl)
theorem dX2_F1_3 : decode cX2_F1 3 = .ok (.aload_n 0, 1) := dk_42 (dk_at dksX2_F1_0 3 rfl rfl)
theorem dX2_F1_4 : decode cX2_F1 4 = .ok (.aload_n 1, 1) := dk_43 (dk_at dksX2_F1_0 4 rfl rfl)
theorem dX2_F1_5 : decode cX2_F1 5 = .ok (.iconst 2, 1) := dk_5 (dk_at dksX2_F1_0 5 rfl rfl)
theorem dX2_F1_6 : decode cX2_F1 6 = .ok (.iaload, 1) := dk_46 (dk_at dksX2_F1_0 6 rfl rfl)
theorem dX2_F1_7 : decode cX2_F1 7 = .ok (.aload_n 1, 1) := dk_43 (dk_at dksX2_F1_0 7 rfl rfl)
theorem dX2_F1_8 : decode cX2_F1 8 = .ok (.iconst 3, 1) := dk_6 (dk_at dksX2_F1_0 8 rfl rfl)
theorem dX2_F1_9 : decode cX2_F1 9 = .ok (.iaload, 1) := dk_46 (dk_at dksX2_F1_0 9 rfl rfl)
theorem dX2_F1_10 : decode cX2_F1 10 = .ok (.ixor, 1) := dk_130 (dk_at dksX2_F1_0 10 rfl rfl)
theorem dX2_F1_11 : decode cX2_F1 11 = .ok (.aload_n 1, 1) := dk_43 (dk_at dksX2_F1_0 11 rfl rfl)
theorem dX2_F1_12 : decode cX2_F1 12 = .ok (.iconst 0, 1) := dk_3 (dk_at dksX2_F1_0 12 rfl rfl)
theorem dX2_F1_13 : decode cX2_F1 13 = .ok (.iaload, 1) := dk_46 (dk_at dksX2_F1_0 13 rfl rfl)
theorem dX2_F1_14 : decode cX2_F1 14 = .ok (.ixor, 1) := dk_130 (dk_at dksX2_F1_0 14 rfl rfl)
theorem dX2_F1_15 : decode cX2_F1 15 = .ok (.iload_n 2, 1) := dk_28 (dk_at dksX2_F1_0 15 rfl rfl)
theorem dX2_F1_16 : decode cX2_F1 16 = .ok (.ixor, 1) := dk_130 (dk_at dksX2_F1_0 16 rfl rfl)
theorem dX2_F1_17 : decode cX2_F1 17 = .ok (.invokevirtual 46, 3) := dk_182 0 46 (dk_at dksX2_F1_0 17 rfl rfl)
theorem dX2_F1_20 : decode cX2_F1 20 = .ok (.ixor, 1) := dk_130 (dk_at dksX2_F1_0 20 rfl rfl)
theorem dX2_F1_21 : decode cX2_F1 21 = .ok (.ireturn, 1) := dk_172 (dk_at dksX2_F1_0 21 rfl rfl)
abbrev cX2_F2 : ByteArray := prog_8_method_11_code
def yX2_F2 : MethodName := ⟨RX2, "F2", "([II)I"⟩
def dkwX2_F2_0 : List UInt8 := [43, 5, 46, 42, 43, 6, 46, 43, 3, 46, 130, 43, 4, 46, 130, 28, 130, 182, 0, 46, 130, 172]
abbrev dktX2_F2_0 : List UInt8 := dkwX2_F2_0 ++ []
theorem dksX2_F2_0 : cX2_F2.data.toList.drop 0 = dktX2_F2_0 := by decide +kernel
theorem dX2_F2_0 : decode cX2_F2 0 = .ok (.aload_n 1, 1) := dk_43 (dk_at dksX2_F2_0 0 rfl rfl)
theorem dX2_F2_1 : decode cX2_F2 1 = .ok (.iconst 2, 1) := dk_5 (dk_at dksX2_F2_0 1 rfl rfl)
theorem dX2_F2_2 : decode cX2_F2 2 = .ok (.iaload, 1) := dk_46 (dk_at dksX2_F2_0 2 rfl rfl)
theorem dX2_F2_3 : decode cX2_F2 3 = .ok (.aload_n 0, 1) := dk_42 (dk_at dksX2_F2_0 3 rfl rfl)
theorem dX2_F2_4 : decode cX2_F2 4 = .ok (.aload_n 1, 1) := dk_43 (dk_at dksX2_F2_0 4 rfl rfl)
theorem dX2_F2_5 : decode cX2_F2 5 = .ok (.iconst 3, 1) := dk_6 (dk_at dksX2_F2_0 5 rfl rfl)
theorem dX2_F2_6 : decode cX2_F2 6 = .ok (.iaload, 1) := dk_46 (dk_at dksX2_F2_0 6 rfl rfl)
theorem dX2_F2_7 : decode cX2_F2 7 = .ok (.aload_n 1, 1) := dk_43 (dk_at dksX2_F2_0 7 rfl rfl)
theorem dX2_F2_8 : decode cX2_F2 8 = .ok (.iconst 0, 1) := dk_3 (dk_at dksX2_F2_0 8 rfl rfl)
theorem dX2_F2_9 : decode cX2_F2 9 = .ok (.iaload, 1) := dk_46 (dk_at dksX2_F2_0 9 rfl rfl)
theorem dX2_F2_10 : decode cX2_F2 10 = .ok (.ixor, 1) := dk_130 (dk_at dksX2_F2_0 10 rfl rfl)
theorem dX2_F2_11 : decode cX2_F2 11 = .ok (.aload_n 1, 1) := dk_43 (dk_at dksX2_F2_0 11 rfl rfl)
theorem dX2_F2_12 : decode cX2_F2 12 = .ok (.iconst 1, 1) := dk_4 (dk_at dksX2_F2_0 12 rfl rfl)
theorem dX2_F2_13 : decode cX2_F2 13 = .ok (.iaload, 1) := dk_46 (dk_at dksX2_F2_0 13 rfl rfl)
theorem dX2_F2_14 : decode cX2_F2 14 = .ok (.ixor, 1) := dk_130 (dk_at dksX2_F2_0 14 rfl rfl)
theorem dX2_F2_15 : decode cX2_F2 15 = .ok (.iload_n 2, 1) := dk_28 (dk_at dksX2_F2_0 15 rfl rfl)
theorem dX2_F2_16 : decode cX2_F2 16 = .ok (.ixor, 1) := dk_130 (dk_at dksX2_F2_0 16 rfl rfl)
theorem dX2_F2_17 : decode cX2_F2 17 = .ok (.invokevirtual 46, 3) := dk_182 0 46 (dk_at dksX2_F2_0 17 rfl rfl)
theorem dX2_F2_20 : decode cX2_F2 20 = .ok (.ixor, 1) := dk_130 (dk_at dksX2_F2_0 20 rfl rfl)
theorem dX2_F2_21 : decode cX2_F2 21 = .ok (.ireturn, 1) := dk_172 (dk_at dksX2_F2_0 21 rfl rfl)
abbrev cX2_F3 : ByteArray := prog_8_method_12_code
def yX2_F3 : MethodName := ⟨RX2, "F3", "([II)I"⟩
def dkwX2_F3_0 : List UInt8 := [43, 6, 46, 42, 43, 3, 46, 43, 4, 46, 130, 43, 5, 46, 130, 28, 130, 182, 0, 46, 130, 172]
abbrev dktX2_F3_0 : List UInt8 := dkwX2_F3_0 ++ []
theorem dksX2_F3_0 : cX2_F3.data.toList.drop 0 = dktX2_F3_0 := by decide +kernel
theorem dX2_F3_0 : decode cX2_F3 0 = .ok (.aload_n 1, 1) := dk_43 (dk_at dksX2_F3_0 0 rfl rfl)
theorem dX2_F3_1 : decode cX2_F3 1 = .ok (.iconst 3, 1) := dk_6 (dk_at dksX2_F3_0 1 rfl rfl)
theorem dX2_F3_2 : decode cX2_F3 2 = .ok (.iaload, 1) := dk_46 (dk_at dksX2_F3_0 2 rfl rfl)
theorem dX2_F3_3 : decode cX2_F3 3 = .ok (.aload_n 0, 1) := dk_42 (dk_at dksX2_F3_0 3 rfl rfl)
theorem dX2_F3_4 : decode cX2_F3 4 = .ok (.aload_n 1, 1) := dk_43 (dk_at dksX2_F3_0 4 rfl rfl)
theorem dX2_F3_5 : decode cX2_F3 5 = .ok (.iconst 0, 1) := dk_3 (dk_at dksX2_F3_0 5 rfl rfl)
theorem dX2_F3_6 : decode cX2_F3 6 = .ok (.iaload, 1) := dk_46 (dk_at dksX2_F3_0 6 rfl rfl)
theorem dX2_F3_7 : decode cX2_F3 7 = .ok (.aload_n 1, 1) := dk_43 (dk_at dksX2_F3_0 7 rfl rfl)
theorem dX2_F3_8 : decode cX2_F3 8 = .ok (.iconst 1, 1) := dk_4 (dk_at dksX2_F3_0 8 rfl rfl)
theorem dX2_F3_9 : decode cX2_F3 9 = .ok (.iaload, 1) := dk_46 (dk_at dksX2_F3_0 9 rfl rfl)
theorem dX2_F3_10 : decode cX2_F3 10 = .ok (.ixor, 1) := dk_130 (dk_at dksX2_F3_0 10 rfl rfl)
theorem dX2_F3_11 : decode cX2_F3 11 = .ok (.aload_n 1, 1) := dk_43 (dk_at dksX2_F3_0 11 rfl rfl)
theorem dX2_F3_12 : decode cX2_F3 12 = .ok (.iconst 2, 1) := dk_5 (dk_at dksX2_F3_0 12 rfl rfl)
theorem dX2_F3_13 : decode cX2_F3 13 = .ok (.iaload, 1) := dk_46 (dk_at dksX2_F3_0 13 rfl rfl)
theorem dX2_F3_14 : decode cX2_F3 14 = .ok (.ixor, 1) := dk_130 (dk_at dksX2_F3_0 14 rfl rfl)
theorem dX2_F3_15 : decode cX2_F3 15 = .ok (.iload_n 2, 1) := dk_28 (dk_at dksX2_F3_0 15 rfl rfl)
theorem dX2_F3_16 : decode cX2_F3 16 = .ok (.ixor, 1) := dk_130 (dk_at dksX2_F3_0 16 rfl rfl)
theorem dX2_F3_17 : decode cX2_F3 17 = .ok (.invokevirtual 46, 3) := dk_182 0 46 (dk_at dksX2_F3_0 17 rfl rfl)
theorem dX2_F3_20 : decode cX2_F3 20 = .ok (.ixor, 1) := dk_130 (dk_at dksX2_F3_0 20 rfl rfl)
theorem dX2_F3_21 : decode cX2_F3 21 = .ok (.ireturn, 1) := dk_172 (dk_at dksX2_F3_0 21 rfl rfl)
theorem q15 : (Jvm.Cond.initialized "SM4Engine") ∈ lw_all := lw_g (lw_at lw_m1 2 rfl) rfl
theorem q40 : (Jvm.Cond.instantiable "SM4Engine" (2 : Nat)) ∈ lw_all := lw_g (lw_at lw_m1 27 rfl) rfl
theorem q42 : (Jvm.Cond.instanceMethod ({ cls := "SM4Engine", name := "<init>", desc := "()V" } : Jvm.MethodName)) ∈ lw_all := lw_g (lw_at lw_m1 29 rfl) rfl
theorem q43 : (Jvm.Cond.code ({ cls := "SM4Engine", name := "<init>", desc := "()V" } : Jvm.MethodName) prog_8_method_1_code (1 : Nat) (Option.none : Option Jvm.ClassFile.FieldType)) ∈ lw_all := lw_g (lw_at lw_m1 30 rfl) rfl
theorem q44 : (Jvm.Cond.methodLink "SM4Engine" (1 : Nat) ({ cls := "java/lang/Object", name := "<init>", desc := "()V" } : Jvm.MethodName)) ∈ lw_all := lw_g (lw_at lw_m1 31 rfl) rfl
theorem q47 : (Jvm.Cond.fieldLink "SM4Engine" (7 : Nat) "SM4Engine" "X" "[I") ∈ lw_all := lw_g (lw_at lw_m1 34 rfl) rfl
theorem q48 : (Jvm.Cond.fieldLink "SM4Engine" (66 : Nat) "SM4Engine" "rk" "[I") ∈ lw_all := lw_g (lw_at lw_m1 35 rfl) rfl
theorem q49 : (Jvm.Cond.laysFinal "SM4Engine" "SM4Engine" "X" "[I") ∈ lw_all := lw_g (lw_at lw_m1 36 rfl) rfl
theorem q50 : (Jvm.Cond.soleField "SM4Engine" "X") ∈ lw_all := lw_g (lw_at lw_m1 37 rfl) rfl
theorem q51 : (Jvm.Cond.lays "SM4Engine" "SM4Engine" "rk" "[I") ∈ lw_all := lw_g (lw_at lw_m1 38 rfl) rfl
theorem q52 : (Jvm.Cond.soleField "SM4Engine" "rk") ∈ lw_all := lw_g (lw_at lw_m1 39 rfl) rfl
theorem q53 : (Jvm.Cond.superclass "SM4Engine" "java/lang/Object") ∈ lw_all := lw_g (lw_at lw_m1 40 rfl) rfl
theorem q79 : (Jvm.Cond.castable "SM4Engine" "BlockCipher") ∈ lw_tbl := lw_at lw_m1 66 rfl
theorem q80 : (Jvm.Cond.selects "SM4Engine" ({ cls := "BlockCipher", name := "init", desc := "(ZLCipherParameters;)V" } : Jvm.MethodName) ({ cls := "SM4Engine", name := "init", desc := "(ZLCipherParameters;)V" } : Jvm.MethodName)) ∈ lw_all := lw_g (lw_at lw_m1 67 rfl) rfl
theorem q81 : (Jvm.Cond.unhidden "SM4Engine" "init" "(ZLCipherParameters;)V") ∈ lw_tbl := lw_at lw_m1 68 rfl
theorem q82 : (Jvm.Cond.instanceMethod ({ cls := "SM4Engine", name := "init", desc := "(ZLCipherParameters;)V" } : Jvm.MethodName)) ∈ lw_all := lw_g (lw_at lw_m1 69 rfl) rfl
theorem q83 : (Jvm.Cond.publicMethod ({ cls := "SM4Engine", name := "init", desc := "(ZLCipherParameters;)V" } : Jvm.MethodName)) ∈ lw_tbl := lw_at lw_m1 70 rfl
theorem q84 : (Jvm.Cond.code ({ cls := "SM4Engine", name := "init", desc := "(ZLCipherParameters;)V" } : Jvm.MethodName) prog_8_method_13_code (4 : Nat) (Option.none : Option Jvm.ClassFile.FieldType)) ∈ lw_all := lw_g (lw_at lw_m1 71 rfl) rfl
theorem q85 : (Jvm.Cond.classLink "SM4Engine" (49 : Nat) "KeyParameter") ∈ lw_all := lw_g (lw_at lw_m1 72 rfl) rfl
theorem q86 : (Jvm.Cond.methodLink "SM4Engine" (51 : Nat) ({ cls := "KeyParameter", name := "getKey", desc := "()[B" } : Jvm.MethodName)) ∈ lw_all := lw_g (lw_at lw_m1 73 rfl) rfl
theorem q90 : (Jvm.Cond.classLink "SM4Engine" (55 : Nat) "java/lang/IllegalArgumentException") ∈ lw_all := lw_g (lw_at lw_m1 77 rfl) rfl
theorem q132 : (Jvm.Cond.stringRef "SM4Engine" (57 : Nat) "SM4 requires a 128 bit key") ∈ lw_tbl := lw_at lw_m1 119 rfl
theorem q133 : (Jvm.Cond.methodLink "SM4Engine" (59 : Nat) ({ cls := "java/lang/IllegalArgumentException", name := "<init>", desc := "(Ljava/lang/String;)V" } : Jvm.MethodName)) ∈ lw_all := lw_g (lw_at lw_m1 120 rfl) rfl
theorem q158 : (Jvm.Cond.methodLink "SM4Engine" (62 : Nat) ({ cls := "SM4Engine", name := "expandKey", desc := "(Z[B)[I" } : Jvm.MethodName)) ∈ lw_all := lw_g (lw_at lw_m1 145 rfl) rfl
theorem q159 : (Jvm.Cond.privateMethod ({ cls := "SM4Engine", name := "expandKey", desc := "(Z[B)[I" } : Jvm.MethodName)) ∈ lw_tbl := lw_at lw_m1 146 rfl
theorem q160 : (Jvm.Cond.instanceMethod ({ cls := "SM4Engine", name := "expandKey", desc := "(Z[B)[I" } : Jvm.MethodName)) ∈ lw_all := lw_g (lw_at lw_m1 147 rfl) rfl
theorem q161 : (Jvm.Cond.code ({ cls := "SM4Engine", name := "expandKey", desc := "(Z[B)[I" } : Jvm.MethodName) prog_8_method_6_code (7 : Nat) (Option.some (Jvm.ClassFile.FieldType.array Jvm.ClassFile.FieldType.int))) ∈ lw_all := lw_g (lw_at lw_m1 148 rfl) rfl
theorem q162 : (Jvm.Cond.methodLink "SM4Engine" (28 : Nat) ({ cls := "Pack", name := "bigEndianToInt", desc := "([BI)I" } : Jvm.MethodName)) ∈ lw_all := lw_g (lw_at lw_m1 149 rfl) rfl
theorem q165 : (Jvm.Cond.fieldLink "SM4Engine" (34 : Nat) "SM4Engine" "FK" "[I") ∈ lw_all := lw_g (lw_at lw_m1 152 rfl) rfl
theorem q166 : (Jvm.Cond.laysStatic "SM4Engine" "FK" "[I") ∈ lw_tbl := lw_at lw_m1 153 rfl
theorem q167 : (Jvm.Cond.fieldLink "SM4Engine" (37 : Nat) "SM4Engine" "CK" "[I") ∈ lw_all := lw_g (lw_at lw_m1 154 rfl) rfl
theorem q168 : (Jvm.Cond.laysStatic "SM4Engine" "CK" "[I") ∈ lw_tbl := lw_at lw_m1 155 rfl
theorem q169 : (Jvm.Cond.methodLink "SM4Engine" (40 : Nat) ({ cls := "SM4Engine", name := "T_ap", desc := "(I)I" } : Jvm.MethodName)) ∈ lw_all := lw_g (lw_at lw_m1 156 rfl) rfl
theorem q170 : (Jvm.Cond.privateMethod ({ cls := "SM4Engine", name := "T_ap", desc := "(I)I" } : Jvm.MethodName)) ∈ lw_tbl := lw_at lw_m1 157 rfl
theorem q171 : (Jvm.Cond.instanceMethod ({ cls := "SM4Engine", name := "T_ap", desc := "(I)I" } : Jvm.MethodName)) ∈ lw_all := lw_g (lw_at lw_m1 158 rfl) rfl
theorem q172 : (Jvm.Cond.code ({ cls := "SM4Engine", name := "T_ap", desc := "(I)I" } : Jvm.MethodName) prog_8_method_5_code (2 : Nat) (Option.some Jvm.ClassFile.FieldType.int)) ∈ lw_all := lw_g (lw_at lw_m1 159 rfl) rfl
theorem q173 : (Jvm.Cond.methodLink "SM4Engine" (21 : Nat) ({ cls := "SM4Engine", name := "tau", desc := "(I)I" } : Jvm.MethodName)) ∈ lw_all := lw_g (lw_at lw_m1 160 rfl) rfl
theorem q174 : (Jvm.Cond.privateMethod ({ cls := "SM4Engine", name := "tau", desc := "(I)I" } : Jvm.MethodName)) ∈ lw_tbl := lw_at lw_m1 161 rfl
theorem q175 : (Jvm.Cond.instanceMethod ({ cls := "SM4Engine", name := "tau", desc := "(I)I" } : Jvm.MethodName)) ∈ lw_all := lw_g (lw_at lw_m1 162 rfl) rfl
theorem q176 : (Jvm.Cond.code ({ cls := "SM4Engine", name := "tau", desc := "(I)I" } : Jvm.MethodName) prog_8_method_3_code (6 : Nat) (Option.some Jvm.ClassFile.FieldType.int)) ∈ lw_all := lw_g (lw_at lw_m1 163 rfl) rfl
theorem q177 : (Jvm.Cond.fieldLink "SM4Engine" (13 : Nat) "SM4Engine" "Sbox" "[B") ∈ lw_all := lw_g (lw_at lw_m1 164 rfl) rfl
theorem q178 : (Jvm.Cond.laysStatic "SM4Engine" "Sbox" "[B") ∈ lw_tbl := lw_at lw_m1 165 rfl
theorem q179 : (Jvm.Cond.methodLink "SM4Engine" (25 : Nat) ({ cls := "SM4Engine", name := "L_ap", desc := "(I)I" } : Jvm.MethodName)) ∈ lw_all := lw_g (lw_at lw_m1 166 rfl) rfl
theorem q180 : (Jvm.Cond.privateMethod ({ cls := "SM4Engine", name := "L_ap", desc := "(I)I" } : Jvm.MethodName)) ∈ lw_tbl := lw_at lw_m1 167 rfl
theorem q181 : (Jvm.Cond.instanceMethod ({ cls := "SM4Engine", name := "L_ap", desc := "(I)I" } : Jvm.MethodName)) ∈ lw_all := lw_g (lw_at lw_m1 168 rfl) rfl
theorem q182 : (Jvm.Cond.code ({ cls := "SM4Engine", name := "L_ap", desc := "(I)I" } : Jvm.MethodName) prog_8_method_4_code (2 : Nat) (Option.some Jvm.ClassFile.FieldType.int)) ∈ lw_all := lw_g (lw_at lw_m1 169 rfl) rfl
theorem q183 : (Jvm.Cond.methodLink "SM4Engine" (17 : Nat) ({ cls := "SM4Engine", name := "rotateLeft", desc := "(II)I" } : Jvm.MethodName)) ∈ lw_all := lw_g (lw_at lw_m1 170 rfl) rfl
theorem q184 : (Jvm.Cond.privateMethod ({ cls := "SM4Engine", name := "rotateLeft", desc := "(II)I" } : Jvm.MethodName)) ∈ lw_tbl := lw_at lw_m1 171 rfl
theorem q185 : (Jvm.Cond.instanceMethod ({ cls := "SM4Engine", name := "rotateLeft", desc := "(II)I" } : Jvm.MethodName)) ∈ lw_all := lw_g (lw_at lw_m1 172 rfl) rfl
theorem q186 : (Jvm.Cond.code ({ cls := "SM4Engine", name := "rotateLeft", desc := "(II)I" } : Jvm.MethodName) prog_8_method_2_code (3 : Nat) (Option.some Jvm.ClassFile.FieldType.int)) ∈ lw_all := lw_g (lw_at lw_m1 173 rfl) rfl
theorem q187 : (Jvm.Cond.stringRef "SM4Engine" (69 : Nat) "left out") ∈ lw_tbl := lw_at lw_m1 174 rfl
theorem q192 : (Jvm.Cond.selects "SM4Engine" ({ cls := "BlockCipher", name := "processBlock", desc := "([BI[BI)I" } : Jvm.MethodName) ({ cls := "SM4Engine", name := "processBlock", desc := "([BI[BI)I" } : Jvm.MethodName)) ∈ lw_all := lw_g (lw_at lw_m1 179 rfl) rfl
theorem q193 : (Jvm.Cond.unhidden "SM4Engine" "processBlock" "([BI[BI)I") ∈ lw_tbl := lw_at lw_m1 180 rfl
theorem q194 : (Jvm.Cond.instanceMethod ({ cls := "SM4Engine", name := "processBlock", desc := "([BI[BI)I" } : Jvm.MethodName)) ∈ lw_all := lw_g (lw_at lw_m1 181 rfl) rfl
theorem q195 : (Jvm.Cond.publicMethod ({ cls := "SM4Engine", name := "processBlock", desc := "([BI[BI)I" } : Jvm.MethodName)) ∈ lw_tbl := lw_at lw_m1 182 rfl
theorem q196 : (Jvm.Cond.code ({ cls := "SM4Engine", name := "processBlock", desc := "([BI[BI)I" } : Jvm.MethodName) prog_8_method_14_code (6 : Nat) (Option.some Jvm.ClassFile.FieldType.int)) ∈ lw_all := lw_g (lw_at lw_m1 183 rfl) rfl
theorem q197 : (Jvm.Cond.classLink "SM4Engine" (71 : Nat) "java/lang/IllegalStateException") ∈ lw_all := lw_g (lw_at lw_m1 184 rfl) rfl
theorem q206 : (Jvm.Cond.stringRef "SM4Engine" (73 : Nat) "SM4 not initialised") ∈ lw_tbl := lw_at lw_m1 193 rfl
theorem q207 : (Jvm.Cond.methodLink "SM4Engine" (75 : Nat) ({ cls := "java/lang/IllegalStateException", name := "<init>", desc := "(Ljava/lang/String;)V" } : Jvm.MethodName)) ∈ lw_all := lw_g (lw_at lw_m1 194 rfl) rfl
theorem q213 : (Jvm.Cond.classLink "SM4Engine" (76 : Nat) "DataLengthException") ∈ lw_all := lw_g (lw_at lw_m1 200 rfl) rfl
theorem q223 : (Jvm.Cond.stringRef "SM4Engine" (78 : Nat) "input buffer too short") ∈ lw_tbl := lw_at lw_m1 210 rfl
theorem q224 : (Jvm.Cond.methodLink "SM4Engine" (80 : Nat) ({ cls := "DataLengthException", name := "<init>", desc := "(Ljava/lang/String;)V" } : Jvm.MethodName)) ∈ lw_all := lw_g (lw_at lw_m1 211 rfl) rfl
theorem q233 : (Jvm.Cond.classLink "SM4Engine" (81 : Nat) "OutputLengthException") ∈ lw_all := lw_g (lw_at lw_m1 220 rfl) rfl
theorem q243 : (Jvm.Cond.stringRef "SM4Engine" (83 : Nat) "output buffer too short") ∈ lw_tbl := lw_at lw_m1 230 rfl
theorem q244 : (Jvm.Cond.methodLink "SM4Engine" (85 : Nat) ({ cls := "OutputLengthException", name := "<init>", desc := "(Ljava/lang/String;)V" } : Jvm.MethodName)) ∈ lw_all := lw_g (lw_at lw_m1 231 rfl) rfl
theorem q250 : (Jvm.Cond.methodLink "SM4Engine" (86 : Nat) ({ cls := "SM4Engine", name := "F0", desc := "([II)I" } : Jvm.MethodName)) ∈ lw_all := lw_g (lw_at lw_m1 237 rfl) rfl
theorem q251 : (Jvm.Cond.privateMethod ({ cls := "SM4Engine", name := "F0", desc := "([II)I" } : Jvm.MethodName)) ∈ lw_tbl := lw_at lw_m1 238 rfl
theorem q252 : (Jvm.Cond.instanceMethod ({ cls := "SM4Engine", name := "F0", desc := "([II)I" } : Jvm.MethodName)) ∈ lw_all := lw_g (lw_at lw_m1 239 rfl) rfl
theorem q253 : (Jvm.Cond.code ({ cls := "SM4Engine", name := "F0", desc := "([II)I" } : Jvm.MethodName) prog_8_method_9_code (3 : Nat) (Option.some Jvm.ClassFile.FieldType.int)) ∈ lw_all := lw_g (lw_at lw_m2 0 rfl) rfl
theorem q254 : (Jvm.Cond.methodLink "SM4Engine" (46 : Nat) ({ cls := "SM4Engine", name := "T", desc := "(I)I" } : Jvm.MethodName)) ∈ lw_all := lw_g (lw_at lw_m2 1 rfl) rfl
theorem q255 : (Jvm.Cond.privateMethod ({ cls := "SM4Engine", name := "T", desc := "(I)I" } : Jvm.MethodName)) ∈ lw_tbl := lw_at lw_m2 2 rfl
theorem q256 : (Jvm.Cond.instanceMethod ({ cls := "SM4Engine", name := "T", desc := "(I)I" } : Jvm.MethodName)) ∈ lw_all := lw_g (lw_at lw_m2 3 rfl) rfl
theorem q257 : (Jvm.Cond.code ({ cls := "SM4Engine", name := "T", desc := "(I)I" } : Jvm.MethodName) prog_8_method_8_code (2 : Nat) (Option.some Jvm.ClassFile.FieldType.int)) ∈ lw_all := lw_g (lw_at lw_m2 4 rfl) rfl
theorem q258 : (Jvm.Cond.methodLink "SM4Engine" (43 : Nat) ({ cls := "SM4Engine", name := "L", desc := "(I)I" } : Jvm.MethodName)) ∈ lw_all := lw_g (lw_at lw_m2 5 rfl) rfl
theorem q259 : (Jvm.Cond.privateMethod ({ cls := "SM4Engine", name := "L", desc := "(I)I" } : Jvm.MethodName)) ∈ lw_tbl := lw_at lw_m2 6 rfl
theorem q260 : (Jvm.Cond.instanceMethod ({ cls := "SM4Engine", name := "L", desc := "(I)I" } : Jvm.MethodName)) ∈ lw_all := lw_g (lw_at lw_m2 7 rfl) rfl
theorem q261 : (Jvm.Cond.code ({ cls := "SM4Engine", name := "L", desc := "(I)I" } : Jvm.MethodName) prog_8_method_7_code (3 : Nat) (Option.some Jvm.ClassFile.FieldType.int)) ∈ lw_all := lw_g (lw_at lw_m2 8 rfl) rfl
theorem q262 : (Jvm.Cond.methodLink "SM4Engine" (90 : Nat) ({ cls := "SM4Engine", name := "F1", desc := "([II)I" } : Jvm.MethodName)) ∈ lw_all := lw_g (lw_at lw_m2 9 rfl) rfl
theorem q263 : (Jvm.Cond.privateMethod ({ cls := "SM4Engine", name := "F1", desc := "([II)I" } : Jvm.MethodName)) ∈ lw_tbl := lw_at lw_m2 10 rfl
theorem q264 : (Jvm.Cond.instanceMethod ({ cls := "SM4Engine", name := "F1", desc := "([II)I" } : Jvm.MethodName)) ∈ lw_all := lw_g (lw_at lw_m2 11 rfl) rfl
theorem q265 : (Jvm.Cond.code ({ cls := "SM4Engine", name := "F1", desc := "([II)I" } : Jvm.MethodName) prog_8_method_10_code (3 : Nat) (Option.some Jvm.ClassFile.FieldType.int)) ∈ lw_all := lw_g (lw_at lw_m2 12 rfl) rfl
theorem q266 : (Jvm.Cond.methodLink "SM4Engine" (93 : Nat) ({ cls := "SM4Engine", name := "F2", desc := "([II)I" } : Jvm.MethodName)) ∈ lw_all := lw_g (lw_at lw_m2 13 rfl) rfl
theorem q267 : (Jvm.Cond.privateMethod ({ cls := "SM4Engine", name := "F2", desc := "([II)I" } : Jvm.MethodName)) ∈ lw_tbl := lw_at lw_m2 14 rfl
theorem q268 : (Jvm.Cond.instanceMethod ({ cls := "SM4Engine", name := "F2", desc := "([II)I" } : Jvm.MethodName)) ∈ lw_all := lw_g (lw_at lw_m2 15 rfl) rfl
theorem q269 : (Jvm.Cond.code ({ cls := "SM4Engine", name := "F2", desc := "([II)I" } : Jvm.MethodName) prog_8_method_11_code (3 : Nat) (Option.some Jvm.ClassFile.FieldType.int)) ∈ lw_all := lw_g (lw_at lw_m2 16 rfl) rfl
theorem q270 : (Jvm.Cond.methodLink "SM4Engine" (96 : Nat) ({ cls := "SM4Engine", name := "F3", desc := "([II)I" } : Jvm.MethodName)) ∈ lw_all := lw_g (lw_at lw_m2 17 rfl) rfl
theorem q271 : (Jvm.Cond.privateMethod ({ cls := "SM4Engine", name := "F3", desc := "([II)I" } : Jvm.MethodName)) ∈ lw_tbl := lw_at lw_m2 18 rfl
theorem q272 : (Jvm.Cond.instanceMethod ({ cls := "SM4Engine", name := "F3", desc := "([II)I" } : Jvm.MethodName)) ∈ lw_all := lw_g (lw_at lw_m2 19 rfl) rfl
theorem q273 : (Jvm.Cond.code ({ cls := "SM4Engine", name := "F3", desc := "([II)I" } : Jvm.MethodName) prog_8_method_12_code (3 : Nat) (Option.some Jvm.ClassFile.FieldType.int)) ∈ lw_all := lw_g (lw_at lw_m2 20 rfl) rfl
theorem q274 : (Jvm.Cond.methodLink "SM4Engine" (99 : Nat) ({ cls := "Pack", name := "intToBigEndian", desc := "(I[BI)V" } : Jvm.MethodName)) ∈ lw_all := lw_g (lw_at lw_m2 21 rfl) rfl
theorem in_X2 : ∀ w ∈ wsX20, w ∈ lw_all := lw_in wsX20 [49, 51] (by decide +kernel) (by decide +kernel)
end
section
/-! bits: rows of BITS.to-paste (a starting text) -/
def bt (x : Int32) (i : Nat) : Bool := x.toBitVec.getLsbD i
theorem b_ext {x y : Int32} (h : ∀ i, i < 32 → bt x i = bt y i) : x = y := Int32.toBitVec_inj.mp (BitVec.eq_of_getLsbD_eq (fun i hi => h i hi))
theorem b_or (x y : Int32) (i : Nat) : bt (x ||| y) i = (bt x i || bt y i) := by unfold bt; rw [Int32.toBitVec_or, BitVec.getLsbD_or]
theorem b_and (x y : Int32) (i : Nat) : bt (x &&& y) i = (bt x i && bt y i) := by unfold bt; rw [Int32.toBitVec_and, BitVec.getLsbD_and]
theorem b_xor (x y : Int32) (i : Nat) : bt (x ^^^ y) i = (bt x i ^^ bt y i) := by unfold bt; rw [Int32.toBitVec_xor, BitVec.getLsbD_xor]
theorem b_big {x : Int32} {i : Nat} (h : 32 ≤ i) : bt x i = false := BitVec.getLsbD_of_ge _ _ h
theorem b_255 (i : Nat) : bt 255 i = decide (i < 8) := by
  rcases Nat.lt_or_ge i 32 with h | h
  · exact (by decide +kernel : ∀ i, i < 32 → bt 255 i = decide (i < 8)) i h
  · rw [b_big h, decide_eq_false (by omega)]
theorem b_65535 (i : Nat) : bt 65535 i = decide (i < 16) := by
  rcases Nat.lt_or_ge i 32 with h | h
  · exact (by decide +kernel : ∀ i, i < 32 → bt 65535 i = decide (i < 16)) i h
  · rw [b_big h, decide_eq_false (by omega)]
theorem b_m1 : ∀ i, i < 32 → bt (-1) i = true := by decide +kernel
theorem b_0 (i : Nat) : bt 0 i = false := BitVec.getLsbD_zero
theorem s_l : ∀ n, n < 32 → ((nI n &&& 31).toBitVec.smod 32).toNat = n := by decide +kernel
theorem s_u : ∀ n, n < 32 → (((nI n).toUInt32 &&& Int32.toUInt32 31).toBitVec % 32).toNat = n := by decide +kernel
theorem b_shl (n : Nat) (hn : n < 32) (x : Int32) {i : Nat} (hi : i < 32) : bt (x <<< (nI n &&& 31)) i = (decide (n ≤ i) && bt x (i - n)) := by
  unfold bt
  rw [Int32.toBitVec_shiftLeft]
  show (x.toBitVec <<< ((nI n &&& 31).toBitVec.smod 32).toNat).getLsbD i = _
  rw [s_l n hn, BitVec.getLsbD_shiftLeft]
  rcases Nat.lt_or_ge i n with h | h
  · simp [h, Nat.not_le.mpr h]
  · simp [hi, h, Nat.not_lt.mpr h]
theorem b_ushr (n : Nat) (hn : n < 32) (x : Int32) (i : Nat) : bt ((x.toUInt32 >>> ((nI n).toUInt32 &&& Int32.toUInt32 31)).toInt32) i = bt x (n + i) := by
  show (x.toUInt32 >>> ((nI n).toUInt32 &&& Int32.toUInt32 31)).toBitVec.getLsbD i = x.toUInt32.toBitVec.getLsbD (n + i)
  rw [UInt32.toBitVec_shiftRight]
  show (x.toUInt32.toBitVec >>> (((nI n).toUInt32 &&& Int32.toUInt32 31).toBitVec % 32).toNat).getLsbD i = _
  rw [s_u n hn, BitVec.getLsbD_ushiftRight]
theorem b_sshr (n : Nat) (hn : n < 32) (x : Int32) {i : Nat} (hi : i < 32) : bt (x >>> (nI n &&& 31)) i = if n + i < 32 then bt x (n + i) else bt x 31 := by
  unfold bt
  rw [Int32.toBitVec_shiftRight]
  show (x.toBitVec.sshiftRight ((nI n &&& 31).toBitVec.smod 32).toNat).getLsbD i = _
  rw [s_l n hn, BitVec.getLsbD_sshiftRight, BitVec.msb_eq_getLsbD_last]
  simp [hi]
theorem b_shl8 (x : Int32) {i : Nat} (hi : i < 32) : bt (x <<< ((8 : Int32) &&& 31)) i = (decide (8 ≤ i) && bt x (i - 8)) := b_shl 8 (by omega) x hi
theorem b_shl16 (x : Int32) {i : Nat} (hi : i < 32) : bt (x <<< ((16 : Int32) &&& 31)) i = (decide (16 ≤ i) && bt x (i - 16)) := b_shl 16 (by omega) x hi
theorem b_shl24 (x : Int32) {i : Nat} (hi : i < 32) : bt (x <<< ((24 : Int32) &&& 31)) i = (decide (24 ≤ i) && bt x (i - 24)) := b_shl 24 (by omega) x hi
theorem b_sshr8 (x : Int32) {i : Nat} (hi : i < 32) : bt (x >>> ((8 : Int32) &&& 31)) i = if 8 + i < 32 then bt x (8 + i) else bt x 31 := b_sshr 8 (by omega) x hi
theorem bp_b (x : Int32) : x.toInt8.toInt32 &&& 255 = x &&& 255 := by
  apply Int32.toBitVec_inj.mp
  rw [Int32.toBitVec_and, Int32.toBitVec_and, Int8.toBitVec_toInt32, Int32.toBitVec_toInt8]
  apply BitVec.eq_of_getLsbD_eq
  intro i hi
  rw [BitVec.getLsbD_and, BitVec.getLsbD_and]
  have hm : ∀ i < 32, 8 ≤ i → (255 : Int32).toBitVec.getLsbD i = false := by decide
  rcases Nat.lt_or_ge i 8 with z | z
  · rw [BitVec.getLsbD_signExtend, BitVec.getLsbD_signExtend, if_pos z, if_pos hi]
    simp only [z, hi, decide_true, Bool.true_and]
  · rw [hm i hi z]; simp
/-! SM4 in plain Lean -/
def sm_sbL : List Int32 := [(-42), (-112), (-23), (-2), (-52), (-31), 61, (-73), 22, (-74), 20, (-62), 40, (-5), 44, 5, 43, 103, (-102), 118, 42, (-66), 4, (-61), (-86), 68, 19, 38, 73, (-122), 6, (-103), (-100), 66, 80, (-12), (-111), (-17), (-104), 122, 51, 84, 11, 67, (-19), (-49), (-84), 98, (-28), (-77), 28, (-87), (-55), 8, (-24), (-107), (-128), (-33), (-108), (-6), 117, (-113), 63, (-90), 71, 7, (-89), (-4), (-13), 115, 23, (-70), (-125), 89, 60, 25, (-26), (-123), 79, (-88), 104, 107, (-127), (-78), 113, 100, (-38), (-117), (-8), (-21), 15, 75, 112, 86, (-99), 53, 30, 36, 14, 94, 99, 88, (-47), (-94), 37, 34, 124, 59, 1, 33, 120, (-121), (-44), 0, 70, 87, (-97), (-45), 39, 82, 76, 54, 2, (-25), (-96), (-60), (-56), (-98), (-22), (-65), (-118), (-46), 64, (-57), 56, (-75), (-93), (-9), (-14), (-50), (-7), 97, 21, (-95), (-32), (-82), 93, (-92), (-101), 52, 26, 85, (-83), (-109), 50, 48, (-11), (-116), (-79), (-29), 29, (-10), (-30), 46, (-126), 102, (-54), 96, (-64), 41, 35, (-85), 13, 83, 78, 111, (-43), (-37), 55, 69, (-34), (-3), (-114), 47, 3, (-1), 106, 114, 109, 108, 91, 81, (-115), 27, (-81), (-110), (-69), (-35), (-68), 127, 17, (-39), 92, 65, 31, 16, 90, (-40), 10, (-63), 49, (-120), (-91), (-51), 123, (-67), 45, 116, (-48), 18, (-72), (-27), (-76), (-80), (-119), 105, (-105), 74, 12, (-106), 119, 126, 101, (-71), (-15), 9, (-59), 110, (-58), (-124), 24, (-16), 125, (-20), 58, (-36), 77, 32, 121, (-18), 95, 62, (-41), (-53), 57, 72]
def sm_ckL : List Int32 := [462357, 472066609, 943670861, 1415275113, 1886879365, (-1936483679), (-1464879427), (-993275175), (-521670923), (-66909679), 404694573, 876298825, 1347903077, 1819507329, (-2003855715), (-1532251463), (-1060647211), (-589042959), (-117504499), 337322537, 808926789, 1280531041, 1752135293, (-2071227751), (-1599623499), (-1128019247), (-656414995), (-184876535), 269950501, 741554753, 1213159005, 1684763257]
def sm_fkL : List Int32 := [(-1548633402), 1453994832, 1736282519, (-1301273892)]
def sm_sb (j : Nat) : Int32 := sm_sbL.getD j 0
def sm_ck (j : Nat) : Int32 := sm_ckL.getD j 0
def sm_fk (j : Nat) : Int32 := sm_fkL.getD j 0
def sm_sx (i : Int32) : Int32 := sm_sb i.toNatClampNeg
def sm_tau (A : Int32) : Int32 := ((((sm_sx ((A >>> ((24 : Int32) &&& 31)) &&& 255) &&& 255) <<< ((24 : Int32) &&& 31)) ||| ((sm_sx ((A >>> ((16 : Int32) &&& 31)) &&& 255) &&& 255) <<< ((16 : Int32) &&& 31))) ||| ((sm_sx ((A >>> ((8 : Int32) &&& 31)) &&& 255) &&& 255) <<< ((8 : Int32) &&& 31))) ||| (sm_sx (A &&& 255) &&& 255)
def sm_rot (x b : Int32) : Int32 := (x <<< (b &&& 31)) ||| (x.toUInt32 >>> ((-b).toUInt32 &&& Int32.toUInt32 31)).toInt32
def sm_Lap (B : Int32) : Int32 := (B ^^^ sm_rot B 13) ^^^ sm_rot B 23
def sm_Tap (Z : Int32) : Int32 := sm_Lap (sm_tau Z)
def sm_L (B : Int32) : Int32 := (((B ^^^ sm_rot B 2) ^^^ sm_rot B 10) ^^^ sm_rot B 18) ^^^ sm_rot B 24
def sm_T (Z : Int32) : Int32 := sm_L (sm_tau Z)
/-- the Feistel sequence: four words, then a word out of the last four and a round key -/
def sm_sq (T : Int32 → Int32) (r : Nat → Int32) (a b c d : Int32) : Nat → Int32
  | 0 => a
  | 1 => b
  | 2 => c
  | 3 => d
  | n + 4 => sm_sq T r a b c d n ^^^ T (((sm_sq T r a b c d (n + 1) ^^^ sm_sq T r a b c d (n + 2)) ^^^ sm_sq T r a b c d (n + 3)) ^^^ r n)
theorem sm_sq4 (T : Int32 → Int32) (r : Nat → Int32) (a b c d : Int32) (n : Nat) : sm_sq T r a b c d (n + 4) = sm_sq T r a b c d n ^^^ T (((sm_sq T r a b c d (n + 1) ^^^ sm_sq T r a b c d (n + 2)) ^^^ sm_sq T r a b c d (n + 3)) ^^^ r n) := by rw [sm_sq]
theorem sm_sq_r (T : Int32 → Int32) {r r' : Nat → Int32} (a b c d : Int32) {N : Nat} (h : ∀ i, i < N → r i = r' i) : ∀ n, n < N + 4 → sm_sq T r a b c d n = sm_sq T r' a b c d n := by
  intro n
  induction n using Nat.strongRecOn with
  | ind n ih =>
    intro hn
    match n, ih, hn with
    | 0, _, _ => rfl
    | 1, _, _ => rfl
    | 2, _, _ => rfl
    | 3, _, _ => rfl
    | n + 4, ih, hn => rw [sm_sq4, sm_sq4, ih n (by omega) (by omega), ih (n + 1) (by omega) (by omega), ih (n + 2) (by omega) (by omega), ih (n + 3) (by omega) (by omega), h n (by omega)]
theorem sm_x3 (a b c k : Int32) : ((c ^^^ b) ^^^ a) ^^^ k = ((a ^^^ b) ^^^ c) ^^^ k := by rw [Int32.xor_comm c b, Int32.xor_assoc b c a, Int32.xor_comm c a, ← Int32.xor_assoc b a c, Int32.xor_comm b a]
theorem sm_xx (a t : Int32) : (a ^^^ t) ^^^ t = a := by rw [Int32.xor_assoc, Int32.xor_self, Int32.xor_zero]
/-- run backwards: with the round keys reversed, from the last four words in reverse, the sequence comes back -/
theorem sm_rev (T : Int32 → Int32) {r r' : Nat → Int32} (a b c d : Int32) (h : ∀ i, i < 32 → r' i = r (31 - i)) : ∀ n, n < 36 → sm_sq T r' (sm_sq T r a b c d 35) (sm_sq T r a b c d 34) (sm_sq T r a b c d 33) (sm_sq T r a b c d 32) n = sm_sq T r a b c d (35 - n) := by
  intro n
  induction n using Nat.strongRecOn with
  | ind n ih =>
    intro hn
    match n, ih, hn with
    | 0, _, _ => rfl
    | 1, _, _ => rfl
    | 2, _, _ => rfl
    | 3, _, _ => rfl
    | n + 4, ih, hn =>
      rw [sm_sq4, ih n (by omega) (by omega), ih (n + 1) (by omega) (by omega), ih (n + 2) (by omega) (by omega), ih (n + 3) (by omega) (by omega), h n (by omega)]
      obtain ⟨q, hq⟩ : ∃ q, q + n = 31 := ⟨31 - n, by omega⟩
      rw [show 35 - n = q + 4 by omega, show 35 - (n + 1) = q + 3 by omega, show 35 - (n + 2) = q + 2 by omega, show 35 - (n + 3) = q + 1 by omega, show 31 - n = q by omega, show 35 - (n + 4) = q by omega, sm_sq4, sm_x3, sm_xx]
/-! a word in an array of bytes -/
def sm_ba (w : Int32) : Nat → Int32
  | 0 => (w >>> ((24 : Int32) &&& 31)).toInt8.toInt32
  | 1 => (w >>> ((16 : Int32) &&& 31)).toInt8.toInt32
  | 2 => (w >>> ((8 : Int32) &&& 31)).toInt8.toInt32
  | _ => w.toInt8.toInt32
def sm_W (f : Nat → Int32) (o : Nat) (w : Int32) : Prop := f o = sm_ba w 0 ∧ f (o + 1) = sm_ba w 1 ∧ f (o + 2) = sm_ba w 2 ∧ f (o + 3) = sm_ba w 3
theorem sm_i8 (x : Int32) {i : Nat} (h : i < 8) : bt x.toInt8.toInt32 i = bt x i := by
  have e := congrArg (fun z => bt z i) (bp_b x)
  simp only [b_and, b_255, h, decide_true, Bool.and_true] at e
  exact e
theorem sm_b0 (w : Int32) {j : Nat} (h : j < 8) : bt (sm_ba w 0) j = bt w (24 + j) := by
  show bt ((w >>> ((24 : Int32) &&& 31)).toInt8.toInt32) j = _
  rw [sm_i8 _ h]
  have e := b_sshr 24 (by omega) w (i := j) (by omega)
  rw [if_pos (by omega)] at e
  exact e
theorem sm_b1 (w : Int32) {j : Nat} (h : j < 8) : bt (sm_ba w 1) j = bt w (16 + j) := by
  show bt ((w >>> ((16 : Int32) &&& 31)).toInt8.toInt32) j = _
  rw [sm_i8 _ h]
  have e := b_sshr 16 (by omega) w (i := j) (by omega)
  rw [if_pos (by omega)] at e
  exact e
theorem sm_b2 (w : Int32) {j : Nat} (h : j < 8) : bt (sm_ba w 2) j = bt w (8 + j) := by
  show bt ((w >>> ((8 : Int32) &&& 31)).toInt8.toInt32) j = _
  rw [sm_i8 _ h]
  have e := b_sshr 8 (by omega) w (i := j) (by omega)
  rw [if_pos (by omega)] at e
  exact e
theorem sm_b3 (w : Int32) {j : Nat} (h : j < 8) : bt (sm_ba w 3) j = bt w (0 + j) := by
  show bt (w.toInt8.toInt32) j = _
  rw [sm_i8 _ h, Nat.zero_add]
theorem sm_bk (w : Int32) {k : Nat} (hk : k < 4) {j : Nat} (h : j < 8) : bt (sm_ba w k) j = bt w (24 - 8 * k + j) := by
  match k, hk with
  | 0, _ => exact sm_b0 w h
  | 1, _ => exact sm_b1 w h
  | 2, _ => exact sm_b2 w h
  | 3, _ => exact sm_b3 w h
/-- big-endian: the word that four bytes make -/
def sm_be (a b c d : Int32) : Int32 := (((a <<< ((24 : Int32) &&& 31)) ||| ((b &&& 255) <<< ((16 : Int32) &&& 31))) ||| ((c &&& 255) <<< ((8 : Int32) &&& 31))) ||| (d &&& 255)
theorem sm_be_ba (w : Int32) : sm_be (sm_ba w 0) (sm_ba w 1) (sm_ba w 2) (sm_ba w 3) = w := by
  apply b_ext
  intro i hi
  unfold sm_be
  rw [b_or, b_or, b_or, b_shl24 _ hi, b_shl16 _ hi, b_shl8 _ hi, b_and, b_and, b_and, b_255, b_255, b_255]
  rcases (by omega : i < 8 ∨ (8 ≤ i ∧ i < 16) ∨ (16 ≤ i ∧ i < 24) ∨ 24 ≤ i) with h | h | h | h
  · rw [decide_eq_false (by omega : ¬ 24 ≤ i), decide_eq_false (by omega : ¬ 16 ≤ i), decide_eq_false (by omega : ¬ 8 ≤ i), decide_eq_true h, sm_b3 w h]
    simp
  · rw [decide_eq_false (by omega : ¬ 24 ≤ i), decide_eq_false (by omega : ¬ 16 ≤ i), decide_eq_true h.1, decide_eq_false (by omega : ¬ i < 8), decide_eq_true (by omega : i - 8 < 8), sm_b2 w (by omega : i - 8 < 8), show 8 + (i - 8) = i by omega]
    simp
  · rw [decide_eq_false (by omega : ¬ 24 ≤ i), decide_eq_true h.1, decide_eq_false (by omega : ¬ i < 8), decide_eq_false (by omega : ¬ i - 8 < 8), decide_eq_true (by omega : i - 16 < 8), sm_b1 w (by omega : i - 16 < 8), show 16 + (i - 16) = i by omega]
    simp
  · rw [decide_eq_true h, decide_eq_false (by omega : ¬ i < 8), decide_eq_false (by omega : ¬ i - 8 < 8), decide_eq_false (by omega : ¬ i - 16 < 8), sm_b0 w (by omega : i - 24 < 8), show 24 + (i - 24) = i by omega]
    simp
theorem sm_W_be {f : Nat → Int32} {o : Nat} {w : Int32} (h : sm_W f o w) : sm_be (f o) (f (o + 1)) (f (o + 2)) (f (o + 3)) = w := by
  obtain ⟨h0, h1, h2, h3⟩ := h
  rw [h0, h1, h2, h3]
  exact sm_be_ba w
theorem sm_eq8 {x y : Int32} (h : ∀ j, j < 8 → bt x j = bt y j) : x.toInt8 = y.toInt8 := by
  apply Int8.toBitVec_inj.mp
  rw [Int32.toBitVec_toInt8, Int32.toBitVec_toInt8]
  apply BitVec.eq_of_getLsbD_eq
  intro i hi
  rw [BitVec.getLsbD_signExtend, BitVec.getLsbD_signExtend, if_pos (by omega), if_pos (by omega)]
  have e := h i hi
  unfold bt at e
  rw [e]
/-- the logical shift's byte is the arithmetic one's -/
theorem sm_u0 (w : Int32) : ((w.toUInt32 >>> ((24 : Int32).toUInt32 &&& Int32.toUInt32 31)).toInt32).toInt8.toInt32 = sm_ba w 0 := by
  refine congrArg Int8.toInt32 (sm_eq8 fun j hj => ?_)
  rw [show bt ((w.toUInt32 >>> ((24 : Int32).toUInt32 &&& Int32.toUInt32 31)).toInt32) j = bt w (24 + j) from b_ushr 24 (by omega) w j]
  have e := b_sshr 24 (by omega) w (i := j) (by omega)
  rw [if_pos (by omega)] at e
  exact e.symm
theorem sm_u1 (w : Int32) : ((w.toUInt32 >>> ((16 : Int32).toUInt32 &&& Int32.toUInt32 31)).toInt32).toInt8.toInt32 = sm_ba w 1 := by
  refine congrArg Int8.toInt32 (sm_eq8 fun j hj => ?_)
  rw [show bt ((w.toUInt32 >>> ((16 : Int32).toUInt32 &&& Int32.toUInt32 31)).toInt32) j = bt w (16 + j) from b_ushr 16 (by omega) w j]
  have e := b_sshr 16 (by omega) w (i := j) (by omega)
  rw [if_pos (by omega)] at e
  exact e.symm
theorem sm_u2 (w : Int32) : ((w.toUInt32 >>> ((8 : Int32).toUInt32 &&& Int32.toUInt32 31)).toInt32).toInt8.toInt32 = sm_ba w 2 := by
  refine congrArg Int8.toInt32 (sm_eq8 fun j hj => ?_)
  rw [show bt ((w.toUInt32 >>> ((8 : Int32).toUInt32 &&& Int32.toUInt32 31)).toInt32) j = bt w (8 + j) from b_ushr 8 (by omega) w j]
  have e := b_sshr 8 (by omega) w (i := j) (by omega)
  rw [if_pos (by omega)] at e
  exact e.symm
/-- the law's own way to a byte of a word -/
theorem sm_ush (w : Int32) {k : Nat} (hk : k < 4) : sm_ba w k &&& 255 = (w.toUInt32 >>> ((nI (24 - 8 * k)).toUInt32 &&& Int32.toUInt32 31)).toInt32 &&& 255 := by
  apply b_ext
  intro i hi
  rw [b_and, b_and, b_255, b_ushr _ (by omega)]
  rcases Nat.lt_or_ge i 8 with h | h
  · rw [sm_bk w hk h]
  · rw [decide_eq_false (Nat.not_lt.mpr h), Bool.and_false, Bool.and_false]
theorem sm_ba_nar (w : Int32) (k : Nat) : (sm_ba w k).toInt8.toInt32 = sm_ba w k := by
  match k with
  | 0 => exact (vp_nar_byte _).symm.trans (pk_vb _)
  | 1 => exact (vp_nar_byte _).symm.trans (pk_vb _)
  | 2 => exact (vp_nar_byte _).symm.trans (pk_vb _)
  | k + 3 => exact (vp_nar_byte _).symm.trans (pk_vb _)
theorem sm_ba_fit (w : Int32) (k : Nat) : fits .byte (.int (sm_ba w k)) = true := by
  match k with
  | 0 => exact pk_fb _
  | 1 => exact pk_fb _
  | 2 => exact pk_fb _
  | k + 3 => exact pk_fb _
/-! sixteen bytes: four words -/
def sm_q (a b c d : Int32) : Nat → Int32
  | 0 => a
  | 1 => b
  | 2 => c
  | _ => d
def sm_W4 (f : Nat → Int32) (a b c d : Int32) : Prop := ∀ j, j < 16 → f j = sm_ba (sm_q a b c d (j / 4)) (j % 4)
theorem sm_W4_of {f : Nat → Int32} {a b c d : Int32} (h0 : sm_W f 0 a) (h1 : sm_W f 4 b) (h2 : sm_W f 8 c) (h3 : sm_W f 12 d) : sm_W4 f a b c d := by
  intro j hj
  obtain ⟨q, k, hq, hk, rfl⟩ : ∃ q k, q < 4 ∧ k < 4 ∧ j = 4 * q + k := ⟨j / 4, j % 4, by omega, by omega, by omega⟩
  rw [show (4 * q + k) / 4 = q by omega, show (4 * q + k) % 4 = k by omega]
  have hc : ∀ {o : Nat} {w : Int32}, sm_W f o w → f (o + k) = sm_ba w k := by
    intro o w h
    match k, hk with
    | 0, _ => exact h.1
    | 1, _ => exact h.2.1
    | 2, _ => exact h.2.2.1
    | 3, _ => exact h.2.2.2
  match q, hq with
  | 0, _ => exact hc h0
  | 1, _ => exact hc h1
  | 2, _ => exact hc h2
  | 3, _ => exact hc h3
theorem sm_W4.w0 {f : Nat → Int32} {a b c d : Int32} (h : sm_W4 f a b c d) : sm_W f 0 a := ⟨h 0 (by decide), h 1 (by decide), h 2 (by decide), h 3 (by decide)⟩
theorem sm_W4.w1 {f : Nat → Int32} {a b c d : Int32} (h : sm_W4 f a b c d) : sm_W f 4 b := ⟨h 4 (by decide), h 5 (by decide), h 6 (by decide), h 7 (by decide)⟩
theorem sm_W4.w2 {f : Nat → Int32} {a b c d : Int32} (h : sm_W4 f a b c d) : sm_W f 8 c := ⟨h 8 (by decide), h 9 (by decide), h 10 (by decide), h 11 (by decide)⟩
theorem sm_W4.w3 {f : Nat → Int32} {a b c d : Int32} (h : sm_W4 f a b c d) : sm_W f 12 d := ⟨h 12 (by decide), h 13 (by decide), h 14 (by decide), h 15 (by decide)⟩
theorem sm_W4.same {f g : Nat → Int32} {a b c d : Int32} (h : sm_W4 f a b c d) (e : ∀ j, j < 16 → g j = f j) : sm_W4 g a b c d := fun j hj => (e j hj).trans (h j hj)
/-! the cipher: key words, round keys for locking and opening, the block's words -/
def sm_k (m : Nat → Int32) : Nat → Int32 := sm_sq sm_Tap sm_ck (m 0 ^^^ sm_fk 0) (m 1 ^^^ sm_fk 1) (m 2 ^^^ sm_fk 2) (m 3 ^^^ sm_fk 3)
/-- the round keys: b is the flag 'for encryption' -/
def sm_rk (b : Int32) (m : Nat → Int32) (j : Nat) : Int32 := if b = 0 then sm_k m (35 - j) else sm_k m (j + 4)
def sm_x (r : Nat → Int32) (p : Nat → Int32) : Nat → Int32 := sm_sq sm_T r (p 0) (p 1) (p 2) (p 3)
/-- the words that come out -/
def sm_o (b : Int32) (m p : Nat → Int32) : Nat → Int32 := fun q => sm_x (sm_rk b m) p (35 - q)
def sm_b4 (f : Nat → Int32) (p : Nat → Int32) : Prop := sm_W4 f (p 0) (p 1) (p 2) (p 3)
theorem sm_lock_open (m p : Nat → Int32) {q : Nat} (hq : q < 4) : sm_o 0 m (sm_o 1 m p) q = p q := by
  have h := sm_rev sm_T (r := sm_rk 1 m) (r' := sm_rk 0 m) (p 0) (p 1) (p 2) (p 3) (fun i hi => by
    unfold sm_rk
    rw [if_pos rfl, if_neg (by decide), show 31 - i + 4 = 35 - i by omega]) (35 - q) (by omega)
  rw [show 35 - (35 - q) = q by omega] at h
  refine h.trans ?_
  match q, hq with
  | 0, _ => rfl
  | 1, _ => rfl
  | 2, _ => rfl
  | 3, _ => rfl
theorem sm_open_lock (m p : Nat → Int32) {q : Nat} (hq : q < 4) : sm_o 1 m (sm_o 0 m p) q = p q := by
  have h := sm_rev sm_T (r := sm_rk 0 m) (r' := sm_rk 1 m) (p 0) (p 1) (p 2) (p 3) (fun i hi => by
    unfold sm_rk
    rw [if_pos rfl, if_neg (by decide), show 35 - (31 - i) = i + 4 by omega]) (35 - q) (by omega)
  rw [show 35 - (35 - q) = q by omega] at h
  refine h.trans ?_
  match q, hq with
  | 0, _ => rfl
  | 1, _ => rfl
  | 2, _ => rfl
  | 3, _ => rfl
/-! the known answer: the first example of the standard -/
def sm_m0 : Nat → Int32 := sm_q 19088743 (-1985229329) (-19088744) 1985229328
theorem sm_kk0 : sm_k sm_m0 0 = (-1567424607) := by decide +kernel
theorem sm_kk1 : sm_k sm_m0 1 = (-553517377) := by decide +kernel
theorem sm_kk2 : sm_k sm_m0 2 = (-1717490929) := by decide +kernel
theorem sm_kk3 : sm_k sm_m0 3 = (-1004269364) := by decide +kernel
theorem sm_kk4 : sm_k sm_m0 4 = (-249460999) := by
  refine (sm_sq4 _ _ _ _ _ _ 0).trans ?_
  show sm_k sm_m0 0 ^^^ sm_Tap (((sm_k sm_m0 1 ^^^ sm_k sm_m0 2) ^^^ sm_k sm_m0 3) ^^^ sm_ck 0) = _
  rw [sm_kk0, sm_kk1, sm_kk2, sm_kk3]
  decide +kernel
theorem sm_kk5 : sm_k sm_m0 5 = 1097214817 := by
  refine (sm_sq4 _ _ _ _ _ _ 1).trans ?_
  show sm_k sm_m0 1 ^^^ sm_Tap (((sm_k sm_m0 2 ^^^ sm_k sm_m0 3) ^^^ sm_k sm_m0 4) ^^^ sm_ck 1) = _
  rw [sm_kk1, sm_kk2, sm_kk3, sm_kk4]
  decide +kernel
theorem sm_kk6 : sm_k sm_m0 6 = 1516941722 := by
  refine (sm_sq4 _ _ _ _ _ _ 2).trans ?_
  show sm_k sm_m0 2 ^^^ sm_Tap (((sm_k sm_m0 3 ^^^ sm_k sm_m0 4) ^^^ sm_k sm_m0 5) ^^^ sm_ck 2) = _
  rw [sm_kk2, sm_kk3, sm_kk4, sm_kk5]
  decide +kernel
theorem sm_kk7 : sm_k sm_m0 7 = 2074681463 := by
  refine (sm_sq4 _ _ _ _ _ _ 3).trans ?_
  show sm_k sm_m0 3 ^^^ sm_Tap (((sm_k sm_m0 4 ^^^ sm_k sm_m0 5) ^^^ sm_k sm_m0 6) ^^^ sm_ck 3) = _
  rw [sm_kk3, sm_kk4, sm_kk5, sm_kk6]
  decide +kernel
theorem sm_kk8 : sm_k sm_m0 8 = 913531124 := by
  refine (sm_sq4 _ _ _ _ _ _ 4).trans ?_
  show sm_k sm_m0 4 ^^^ sm_Tap (((sm_k sm_m0 5 ^^^ sm_k sm_m0 6) ^^^ sm_k sm_m0 7) ^^^ sm_ck 4) = _
  rw [sm_kk4, sm_kk5, sm_kk6, sm_kk7]
  decide +kernel
theorem sm_kk9 : sm_k sm_m0 9 = 2003438689 := by
  refine (sm_sq4 _ _ _ _ _ _ 5).trans ?_
  show sm_k sm_m0 5 ^^^ sm_Tap (((sm_k sm_m0 6 ^^^ sm_k sm_m0 7) ^^^ sm_k sm_m0 8) ^^^ sm_ck 5) = _
  rw [sm_kk5, sm_kk6, sm_kk7, sm_kk8]
  decide +kernel
theorem sm_kk10 : sm_k sm_m0 10 = (-1229223501) := by
  refine (sm_sq4 _ _ _ _ _ _ 6).trans ?_
  show sm_k sm_m0 6 ^^^ sm_Tap (((sm_k sm_m0 7 ^^^ sm_k sm_m0 8) ^^^ sm_k sm_m0 9) ^^^ sm_ck 6) = _
  rw [sm_kk6, sm_kk7, sm_kk8, sm_kk9]
  decide +kernel
theorem sm_kk11 : sm_k sm_m0 11 = 611725649 := by
  refine (sm_sq4 _ _ _ _ _ _ 7).trans ?_
  show sm_k sm_m0 7 ^^^ sm_Tap (((sm_k sm_m0 8 ^^^ sm_k sm_m0 9) ^^^ sm_k sm_m0 10) ^^^ sm_ck 7) = _
  rw [sm_kk7, sm_kk8, sm_kk9, sm_kk10]
  decide +kernel
theorem sm_kk12 : sm_k sm_m0 12 = (-1524617092) := by
  refine (sm_sq4 _ _ _ _ _ _ 8).trans ?_
  show sm_k sm_m0 8 ^^^ sm_Tap (((sm_k sm_m0 9 ^^^ sm_k sm_m0 10) ^^^ sm_k sm_m0 11) ^^^ sm_ck 8) = _
  rw [sm_kk8, sm_kk9, sm_kk10, sm_kk11]
  decide +kernel
theorem sm_kk13 : sm_k sm_m0 13 = (-1218949699) := by
  refine (sm_sq4 _ _ _ _ _ _ 9).trans ?_
  show sm_k sm_m0 9 ^^^ sm_Tap (((sm_k sm_m0 10 ^^^ sm_k sm_m0 11) ^^^ sm_k sm_m0 12) ^^^ sm_ck 9) = _
  rw [sm_kk9, sm_kk10, sm_kk11, sm_kk12]
  decide +kernel
theorem sm_kk14 : sm_k sm_m0 14 = (-1022929939) := by
  refine (sm_sq4 _ _ _ _ _ _ 10).trans ?_
  show sm_k sm_m0 10 ^^^ sm_Tap (((sm_k sm_m0 11 ^^^ sm_k sm_m0 12) ^^^ sm_k sm_m0 13) ^^^ sm_ck 10) = _
  rw [sm_kk10, sm_kk11, sm_kk12, sm_kk13]
  decide +kernel
theorem sm_kk15 : sm_k sm_m0 15 = 2128960343 := by
  refine (sm_sq4 _ _ _ _ _ _ 11).trans ?_
  show sm_k sm_m0 11 ^^^ sm_Tap (((sm_k sm_m0 12 ^^^ sm_k sm_m0 13) ^^^ sm_k sm_m0 14) ^^^ sm_ck 11) = _
  rw [sm_kk11, sm_kk12, sm_kk13, sm_kk14]
  decide +kernel
theorem sm_kk16 : sm_k sm_m0 16 = 1770545292 := by
  refine (sm_sq4 _ _ _ _ _ _ 12).trans ?_
  show sm_k sm_m0 12 ^^^ sm_Tap (((sm_k sm_m0 13 ^^^ sm_k sm_m0 14) ^^^ sm_k sm_m0 15) ^^^ sm_ck 12) = _
  rw [sm_kk12, sm_kk13, sm_kk14, sm_kk15]
  decide +kernel
theorem sm_kk17 : sm_k sm_m0 17 = 819500471 := by
  refine (sm_sq4 _ _ _ _ _ _ 13).trans ?_
  show sm_k sm_m0 13 ^^^ sm_Tap (((sm_k sm_m0 14 ^^^ sm_k sm_m0 15) ^^^ sm_k sm_m0 16) ^^^ sm_ck 13) = _
  rw [sm_kk13, sm_kk14, sm_kk15, sm_kk16]
  decide +kernel
theorem sm_kk18 : sm_k sm_m0 18 = 1153045679 := by
  refine (sm_sq4 _ _ _ _ _ _ 14).trans ?_
  show sm_k sm_m0 14 ^^^ sm_Tap (((sm_k sm_m0 15 ^^^ sm_k sm_m0 16) ^^^ sm_k sm_m0 17) ^^^ sm_ck 14) = _
  rw [sm_kk14, sm_kk15, sm_kk16, sm_kk17]
  decide +kernel
theorem sm_kk19 : sm_k sm_m0 19 = 272930209 := by
  refine (sm_sq4 _ _ _ _ _ _ 15).trans ?_
  show sm_k sm_m0 15 ^^^ sm_Tap (((sm_k sm_m0 16 ^^^ sm_k sm_m0 17) ^^^ sm_k sm_m0 18) ^^^ sm_ck 15) = _
  rw [sm_kk15, sm_kk16, sm_kk17, sm_kk18]
  decide +kernel
theorem sm_kk20 : sm_k sm_m0 20 = (-786385880) := by
  refine (sm_sq4 _ _ _ _ _ _ 16).trans ?_
  show sm_k sm_m0 16 ^^^ sm_Tap (((sm_k sm_m0 17 ^^^ sm_k sm_m0 18) ^^^ sm_k sm_m0 19) ^^^ sm_ck 16) = _
  rw [sm_kk16, sm_kk17, sm_kk18, sm_kk19]
  decide +kernel
theorem sm_kk21 : sm_k sm_m0 21 = 1941266339 := by
  refine (sm_sq4 _ _ _ _ _ _ 17).trans ?_
  show sm_k sm_m0 17 ^^^ sm_Tap (((sm_k sm_m0 18 ^^^ sm_k sm_m0 19) ^^^ sm_k sm_m0 20) ^^^ sm_ck 17) = _
  rw [sm_kk17, sm_kk18, sm_kk19, sm_kk20]
  decide +kernel
theorem sm_kk22 : sm_k sm_m0 22 = (-863549082) := by
  refine (sm_sq4 _ _ _ _ _ _ 18).trans ?_
  show sm_k sm_m0 18 ^^^ sm_Tap (((sm_k sm_m0 19 ^^^ sm_k sm_m0 20) ^^^ sm_k sm_m0 21) ^^^ sm_ck 18) = _
  rw [sm_kk18, sm_kk19, sm_kk20, sm_kk21]
  decide +kernel
theorem sm_kk23 : sm_k sm_m0 23 = (-1843116999) := by
  refine (sm_sq4 _ _ _ _ _ _ 19).trans ?_
  show sm_k sm_m0 19 ^^^ sm_Tap (((sm_k sm_m0 20 ^^^ sm_k sm_m0 21) ^^^ sm_k sm_m0 22) ^^^ sm_ck 19) = _
  rw [sm_kk19, sm_kk20, sm_kk21, sm_kk22]
  decide +kernel
theorem sm_kk24 : sm_k sm_m0 24 = (-392272865) := by
  refine (sm_sq4 _ _ _ _ _ _ 20).trans ?_
  show sm_k sm_m0 20 ^^^ sm_Tap (((sm_k sm_m0 21 ^^^ sm_k sm_m0 22) ^^^ sm_k sm_m0 23) ^^^ sm_ck 20) = _
  rw [sm_kk20, sm_kk21, sm_kk22, sm_kk23]
  decide +kernel
theorem sm_kk25 : sm_k sm_m0 25 = (-1731591846) := by
  refine (sm_sq4 _ _ _ _ _ _ 21).trans ?_
  show sm_k sm_m0 21 ^^^ sm_Tap (((sm_k sm_m0 22 ^^^ sm_k sm_m0 23) ^^^ sm_k sm_m0 24) ^^^ sm_ck 21) = _
  rw [sm_kk21, sm_kk22, sm_kk23, sm_kk24]
  decide +kernel
theorem sm_kk26 : sm_k sm_m0 26 = (-954888096) := by
  refine (sm_sq4 _ _ _ _ _ _ 22).trans ?_
  show sm_k sm_m0 22 ^^^ sm_Tap (((sm_k sm_m0 23 ^^^ sm_k sm_m0 24) ^^^ sm_k sm_m0 25) ^^^ sm_ck 22) = _
  rw [sm_kk22, sm_kk23, sm_kk24, sm_kk25]
  decide +kernel
theorem sm_kk27 : sm_k sm_m0 27 = (-1713242834) := by
  refine (sm_sq4 _ _ _ _ _ _ 23).trans ?_
  show sm_k sm_m0 23 ^^^ sm_Tap (((sm_k sm_m0 24 ^^^ sm_k sm_m0 25) ^^^ sm_k sm_m0 26) ^^^ sm_ck 23) = _
  rw [sm_kk23, sm_kk24, sm_kk25, sm_kk26]
  decide +kernel
theorem sm_kk28 : sm_k sm_m0 28 = (-1214523380) := by
  refine (sm_sq4 _ _ _ _ _ _ 24).trans ?_
  show sm_k sm_m0 24 ^^^ sm_Tap (((sm_k sm_m0 25 ^^^ sm_k sm_m0 26) ^^^ sm_k sm_m0 27) ^^^ sm_ck 24) = _
  rw [sm_kk24, sm_kk25, sm_kk26, sm_kk27]
  decide +kernel
theorem sm_kk29 : sm_k sm_m0 29 = 488707504 := by
  refine (sm_sq4 _ _ _ _ _ _ 25).trans ?_
  show sm_k sm_m0 25 ^^^ sm_Tap (((sm_k sm_m0 26 ^^^ sm_k sm_m0 27) ^^^ sm_k sm_m0 28) ^^^ sm_ck 25) = _
  rw [sm_kk25, sm_kk26, sm_kk27, sm_kk28]
  decide +kernel
theorem sm_kk30 : sm_k sm_m0 30 = 237144811 := by
  refine (sm_sq4 _ _ _ _ _ _ 26).trans ?_
  show sm_k sm_m0 26 ^^^ sm_Tap (((sm_k sm_m0 27 ^^^ sm_k sm_m0 28) ^^^ sm_k sm_m0 29) ^^^ sm_ck 26) = _
  rw [sm_kk26, sm_kk27, sm_kk28, sm_kk29]
  decide +kernel
theorem sm_kk31 : sm_k sm_m0 31 = (-243790719) := by
  refine (sm_sq4 _ _ _ _ _ _ 27).trans ?_
  show sm_k sm_m0 27 ^^^ sm_Tap (((sm_k sm_m0 28 ^^^ sm_k sm_m0 29) ^^^ sm_k sm_m0 30) ^^^ sm_ck 27) = _
  rw [sm_kk27, sm_kk28, sm_kk29, sm_kk30]
  decide +kernel
theorem sm_kk32 : sm_k sm_m0 32 = 1116550740 := by
  refine (sm_sq4 _ _ _ _ _ _ 28).trans ?_
  show sm_k sm_m0 28 ^^^ sm_Tap (((sm_k sm_m0 29 ^^^ sm_k sm_m0 30) ^^^ sm_k sm_m0 31) ^^^ sm_ck 28) = _
  rw [sm_kk28, sm_kk29, sm_kk30, sm_kk31]
  decide +kernel
theorem sm_kk33 : sm_k sm_m0 33 = 1646867606 := by
  refine (sm_sq4 _ _ _ _ _ _ 29).trans ?_
  show sm_k sm_m0 29 ^^^ sm_Tap (((sm_k sm_m0 30 ^^^ sm_k sm_m0 31) ^^^ sm_k sm_m0 32) ^^^ sm_ck 29) = _
  rw [sm_kk29, sm_kk30, sm_kk31, sm_kk32]
  decide +kernel
theorem sm_kk34 : sm_k sm_m0 34 = 30372581 := by
  refine (sm_sq4 _ _ _ _ _ _ 30).trans ?_
  show sm_k sm_m0 30 ^^^ sm_Tap (((sm_k sm_m0 31 ^^^ sm_k sm_m0 32) ^^^ sm_k sm_m0 33) ^^^ sm_ck 30) = _
  rw [sm_kk30, sm_kk31, sm_kk32, sm_kk33]
  decide +kernel
theorem sm_kk35 : sm_k sm_m0 35 = (-1859870702) := by
  refine (sm_sq4 _ _ _ _ _ _ 31).trans ?_
  show sm_k sm_m0 31 ^^^ sm_Tap (((sm_k sm_m0 32 ^^^ sm_k sm_m0 33) ^^^ sm_k sm_m0 34) ^^^ sm_ck 31) = _
  rw [sm_kk31, sm_kk32, sm_kk33, sm_kk34]
  decide +kernel
def sm_xk : Nat → Int32 := sm_x (sm_rk 1 sm_m0) sm_m0
theorem sm_xx0 : sm_xk 0 = 19088743 := rfl
theorem sm_xx1 : sm_xk 1 = (-1985229329) := rfl
theorem sm_xx2 : sm_xk 2 = (-19088744) := rfl
theorem sm_xx3 : sm_xk 3 = 1985229328 := rfl
theorem sm_xx4 : sm_xk 4 = 670749509 := by
  refine (sm_sq4 _ _ _ _ _ _ 0).trans ?_
  show sm_xk 0 ^^^ sm_T (((sm_xk 1 ^^^ sm_xk 2) ^^^ sm_xk 3) ^^^ sm_rk 1 sm_m0 0) = _
  rw [sm_xx0, sm_xx1, sm_xx2, sm_xx3, show sm_rk 1 sm_m0 0 = (-249460999) from (if_neg (by decide)).trans sm_kk4]
  decide +kernel
theorem sm_xx5 : sm_xk 5 = (-1584706382) := by
  refine (sm_sq4 _ _ _ _ _ _ 1).trans ?_
  show sm_xk 1 ^^^ sm_T (((sm_xk 2 ^^^ sm_xk 3) ^^^ sm_xk 4) ^^^ sm_rk 1 sm_m0 1) = _
  rw [sm_xx1, sm_xx2, sm_xx3, sm_xx4, show sm_rk 1 sm_m0 1 = 1097214817 from (if_neg (by decide)).trans sm_kk5]
  decide +kernel
theorem sm_xx6 : sm_xk 6 = 297919018 := by
  refine (sm_sq4 _ _ _ _ _ _ 2).trans ?_
  show sm_xk 2 ^^^ sm_T (((sm_xk 3 ^^^ sm_xk 4) ^^^ sm_xk 5) ^^^ sm_rk 1 sm_m0 2) = _
  rw [sm_xx2, sm_xx3, sm_xx4, sm_xx5, show sm_rk 1 sm_m0 2 = 1516941722 from (if_neg (by decide)).trans sm_kk6]
  decide +kernel
theorem sm_xx7 : sm_xk 7 = (-871111954) := by
  refine (sm_sq4 _ _ _ _ _ _ 3).trans ?_
  show sm_xk 3 ^^^ sm_T (((sm_xk 4 ^^^ sm_xk 5) ^^^ sm_xk 6) ^^^ sm_rk 1 sm_m0 3) = _
  rw [sm_xx3, sm_xx4, sm_xx5, sm_xx6, show sm_rk 1 sm_m0 3 = 2074681463 from (if_neg (by decide)).trans sm_kk7]
  decide +kernel
theorem sm_xx8 : sm_xk 8 = (-126067755) := by
  refine (sm_sq4 _ _ _ _ _ _ 4).trans ?_
  show sm_xk 4 ^^^ sm_T (((sm_xk 5 ^^^ sm_xk 6) ^^^ sm_xk 7) ^^^ sm_rk 1 sm_m0 4) = _
  rw [sm_xx4, sm_xx5, sm_xx6, sm_xx7, show sm_rk 1 sm_m0 4 = 913531124 from (if_neg (by decide)).trans sm_kk8]
  decide +kernel
theorem sm_xx9 : sm_xk 9 = 857868119 := by
  refine (sm_sq4 _ _ _ _ _ _ 5).trans ?_
  show sm_xk 5 ^^^ sm_T (((sm_xk 6 ^^^ sm_xk 7) ^^^ sm_xk 8) ^^^ sm_rk 1 sm_m0 5) = _
  rw [sm_xx5, sm_xx6, sm_xx7, sm_xx8, show sm_rk 1 sm_m0 5 = 2003438689 from (if_neg (by decide)).trans sm_kk9]
  decide +kernel
theorem sm_xx10 : sm_xk 10 = 2012529303 := by
  refine (sm_sq4 _ _ _ _ _ _ 6).trans ?_
  show sm_xk 6 ^^^ sm_T (((sm_xk 7 ^^^ sm_xk 8) ^^^ sm_xk 9) ^^^ sm_rk 1 sm_m0 6) = _
  rw [sm_xx6, sm_xx7, sm_xx8, sm_xx9, show sm_rk 1 sm_m0 6 = (-1229223501) from (if_neg (by decide)).trans sm_kk10]
  decide +kernel
theorem sm_xx11 : sm_xk 11 = 2056712939 := by
  refine (sm_sq4 _ _ _ _ _ _ 7).trans ?_
  show sm_xk 7 ^^^ sm_T (((sm_xk 8 ^^^ sm_xk 9) ^^^ sm_xk 10) ^^^ sm_rk 1 sm_m0 7) = _
  rw [sm_xx7, sm_xx8, sm_xx9, sm_xx10, show sm_rk 1 sm_m0 7 = 611725649 from (if_neg (by decide)).trans sm_kk11]
  decide +kernel
theorem sm_xx12 : sm_xk 12 = 668647551 := by
  refine (sm_sq4 _ _ _ _ _ _ 8).trans ?_
  show sm_xk 8 ^^^ sm_T (((sm_xk 9 ^^^ sm_xk 10) ^^^ sm_xk 11) ^^^ sm_rk 1 sm_m0 8) = _
  rw [sm_xx8, sm_xx9, sm_xx10, sm_xx11, show sm_rk 1 sm_m0 8 = (-1524617092) from (if_neg (by decide)).trans sm_kk12]
  decide +kernel
theorem sm_xx13 : sm_xk 13 = 1121783577 := by
  refine (sm_sq4 _ _ _ _ _ _ 9).trans ?_
  show sm_xk 9 ^^^ sm_T (((sm_xk 10 ^^^ sm_xk 11) ^^^ sm_xk 12) ^^^ sm_rk 1 sm_m0 9) = _
  rw [sm_xx9, sm_xx10, sm_xx11, sm_xx12, show sm_rk 1 sm_m0 9 = (-1218949699) from (if_neg (by decide)).trans sm_kk13]
  decide +kernel
theorem sm_xx14 : sm_xk 14 = (-1197090302) := by
  refine (sm_sq4 _ _ _ _ _ _ 10).trans ?_
  show sm_xk 10 ^^^ sm_T (((sm_xk 11 ^^^ sm_xk 12) ^^^ sm_xk 13) ^^^ sm_rk 1 sm_m0 10) = _
  rw [sm_xx10, sm_xx11, sm_xx12, sm_xx13, show sm_rk 1 sm_m0 10 = (-1022929939) from (if_neg (by decide)).trans sm_kk14]
  decide +kernel
theorem sm_xx15 : sm_xk 15 = (-1871632390) := by
  refine (sm_sq4 _ _ _ _ _ _ 11).trans ?_
  show sm_xk 11 ^^^ sm_T (((sm_xk 12 ^^^ sm_xk 13) ^^^ sm_xk 14) ^^^ sm_rk 1 sm_m0 11) = _
  rw [sm_xx11, sm_xx12, sm_xx13, sm_xx14, show sm_rk 1 sm_m0 11 = 2128960343 from (if_neg (by decide)).trans sm_kk15]
  decide +kernel
theorem sm_xx16 : sm_xk 16 = (-1953158269) := by
  refine (sm_sq4 _ _ _ _ _ _ 12).trans ?_
  show sm_xk 12 ^^^ sm_T (((sm_xk 13 ^^^ sm_xk 14) ^^^ sm_xk 15) ^^^ sm_rk 1 sm_m0 12) = _
  rw [sm_xx12, sm_xx13, sm_xx14, sm_xx15, show sm_rk 1 sm_m0 12 = 1770545292 from (if_neg (by decide)).trans sm_kk16]
  decide +kernel
theorem sm_xx17 : sm_xk 17 = (-735347623) := by
  refine (sm_sq4 _ _ _ _ _ _ 13).trans ?_
  show sm_xk 13 ^^^ sm_T (((sm_xk 14 ^^^ sm_xk 15) ^^^ sm_xk 16) ^^^ sm_rk 1 sm_m0 13) = _
  rw [sm_xx13, sm_xx14, sm_xx15, sm_xx16, show sm_rk 1 sm_m0 13 = 819500471 from (if_neg (by decide)).trans sm_kk17]
  decide +kernel
theorem sm_xx18 : sm_xk 18 = 805066801 := by
  refine (sm_sq4 _ _ _ _ _ _ 14).trans ?_
  show sm_xk 14 ^^^ sm_T (((sm_xk 15 ^^^ sm_xk 16) ^^^ sm_xk 17) ^^^ sm_rk 1 sm_m0 14) = _
  rw [sm_xx14, sm_xx15, sm_xx16, sm_xx17, show sm_rk 1 sm_m0 14 = 1153045679 from (if_neg (by decide)).trans sm_kk18]
  decide +kernel
theorem sm_xx19 : sm_xk 19 = (-157390712) := by
  refine (sm_sq4 _ _ _ _ _ _ 15).trans ?_
  show sm_xk 15 ^^^ sm_T (((sm_xk 16 ^^^ sm_xk 17) ^^^ sm_xk 18) ^^^ sm_rk 1 sm_m0 15) = _
  rw [sm_xx15, sm_xx16, sm_xx17, sm_xx18, show sm_rk 1 sm_m0 15 = 272930209 from (if_neg (by decide)).trans sm_kk19]
  decide +kernel
theorem sm_xx20 : sm_xk 20 = (-1356582204) := by
  refine (sm_sq4 _ _ _ _ _ _ 16).trans ?_
  show sm_xk 16 ^^^ sm_T (((sm_xk 17 ^^^ sm_xk 18) ^^^ sm_xk 19) ^^^ sm_rk 1 sm_m0 16) = _
  rw [sm_xx16, sm_xx17, sm_xx18, sm_xx19, show sm_rk 1 sm_m0 16 = (-786385880) from (if_neg (by decide)).trans sm_kk20]
  decide +kernel
theorem sm_xx21 : sm_xk 21 = (-316749730) := by
  refine (sm_sq4 _ _ _ _ _ _ 17).trans ?_
  show sm_xk 17 ^^^ sm_T (((sm_xk 18 ^^^ sm_xk 19) ^^^ sm_xk 20) ^^^ sm_rk 1 sm_m0 17) = _
  rw [sm_xx17, sm_xx18, sm_xx19, sm_xx20, show sm_rk 1 sm_m0 17 = 1941266339 from (if_neg (by decide)).trans sm_kk21]
  decide +kernel
theorem sm_xx22 : sm_xk 22 = 1436793378 := by
  refine (sm_sq4 _ _ _ _ _ _ 18).trans ?_
  show sm_xk 18 ^^^ sm_T (((sm_xk 19 ^^^ sm_xk 20) ^^^ sm_xk 21) ^^^ sm_rk 1 sm_m0 18) = _
  rw [sm_xx18, sm_xx19, sm_xx20, sm_xx21, show sm_rk 1 sm_m0 18 = (-863549082) from (if_neg (by decide)).trans sm_kk22]
  decide +kernel
theorem sm_xx23 : sm_xk 23 = 306911402 := by
  refine (sm_sq4 _ _ _ _ _ _ 19).trans ?_
  show sm_xk 19 ^^^ sm_T (((sm_xk 20 ^^^ sm_xk 21) ^^^ sm_xk 22) ^^^ sm_rk 1 sm_m0 19) = _
  rw [sm_xx19, sm_xx20, sm_xx21, sm_xx22, show sm_rk 1 sm_m0 19 = (-1843116999) from (if_neg (by decide)).trans sm_kk23]
  decide +kernel
theorem sm_xx24 : sm_xk 24 = 1793552991 := by
  refine (sm_sq4 _ _ _ _ _ _ 20).trans ?_
  show sm_xk 20 ^^^ sm_T (((sm_xk 21 ^^^ sm_xk 22) ^^^ sm_xk 23) ^^^ sm_rk 1 sm_m0 20) = _
  rw [sm_xx20, sm_xx21, sm_xx22, sm_xx23, show sm_rk 1 sm_m0 20 = (-392272865) from (if_neg (by decide)).trans sm_kk24]
  decide +kernel
theorem sm_xx25 : sm_xk 25 = (-187981319) := by
  refine (sm_sq4 _ _ _ _ _ _ 21).trans ?_
  show sm_xk 21 ^^^ sm_T (((sm_xk 22 ^^^ sm_xk 23) ^^^ sm_xk 24) ^^^ sm_rk 1 sm_m0 21) = _
  rw [sm_xx21, sm_xx22, sm_xx23, sm_xx24, show sm_rk 1 sm_m0 21 = (-1731591846) from (if_neg (by decide)).trans sm_kk25]
  decide +kernel
theorem sm_xx26 : sm_xk 26 = 500038160 := by
  refine (sm_sq4 _ _ _ _ _ _ 22).trans ?_
  show sm_xk 22 ^^^ sm_T (((sm_xk 23 ^^^ sm_xk 24) ^^^ sm_xk 25) ^^^ sm_rk 1 sm_m0 22) = _
  rw [sm_xx22, sm_xx23, sm_xx24, sm_xx25, show sm_rk 1 sm_m0 22 = (-954888096) from (if_neg (by decide)).trans sm_kk26]
  decide +kernel
theorem sm_xx27 : sm_xk 27 = 804652547 := by
  refine (sm_sq4 _ _ _ _ _ _ 23).trans ?_
  show sm_xk 23 ^^^ sm_T (((sm_xk 24 ^^^ sm_xk 25) ^^^ sm_xk 26) ^^^ sm_rk 1 sm_m0 23) = _
  rw [sm_xx23, sm_xx24, sm_xx25, sm_xx26, show sm_rk 1 sm_m0 23 = (-1713242834) from (if_neg (by decide)).trans sm_kk27]
  decide +kernel
theorem sm_xx28 : sm_xk 28 = (-269332516) := by
  refine (sm_sq4 _ _ _ _ _ _ 24).trans ?_
  show sm_xk 24 ^^^ sm_T (((sm_xk 25 ^^^ sm_xk 26) ^^^ sm_xk 27) ^^^ sm_rk 1 sm_m0 24) = _
  rw [sm_xx24, sm_xx25, sm_xx26, sm_xx27, show sm_rk 1 sm_m0 24 = (-1214523380) from (if_neg (by decide)).trans sm_kk28]
  decide +kernel
theorem sm_xx29 : sm_xk 29 = 1877240693 := by
  refine (sm_sq4 _ _ _ _ _ _ 25).trans ?_
  show sm_xk 25 ^^^ sm_T (((sm_xk 26 ^^^ sm_xk 27) ^^^ sm_xk 28) ^^^ sm_rk 1 sm_m0 25) = _
  rw [sm_xx25, sm_xx26, sm_xx27, sm_xx28, show sm_rk 1 sm_m0 25 = 488707504 from (if_neg (by decide)).trans sm_kk29]
  decide +kernel
theorem sm_xx30 : sm_xk 30 = (-1993060179) := by
  refine (sm_sq4 _ _ _ _ _ _ 26).trans ?_
  show sm_xk 26 ^^^ sm_T (((sm_xk 27 ^^^ sm_xk 28) ^^^ sm_xk 29) ^^^ sm_rk 1 sm_m0 26) = _
  rw [sm_xx26, sm_xx27, sm_xx28, sm_xx29, show sm_rk 1 sm_m0 26 = 237144811 from (if_neg (by decide)).trans sm_kk30]
  decide +kernel
theorem sm_xx31 : sm_xk 31 = 2073268044 := by
  refine (sm_sq4 _ _ _ _ _ _ 27).trans ?_
  show sm_xk 27 ^^^ sm_T (((sm_xk 28 ^^^ sm_xk 29) ^^^ sm_xk 30) ^^^ sm_rk 1 sm_m0 27) = _
  rw [sm_xx27, sm_xx28, sm_xx29, sm_xx30, show sm_rk 1 sm_m0 27 = (-243790719) from (if_neg (by decide)).trans sm_kk31]
  decide +kernel
theorem sm_xx32 : sm_xk 32 = 1399734854 := by
  refine (sm_sq4 _ _ _ _ _ _ 28).trans ?_
  show sm_xk 28 ^^^ sm_T (((sm_xk 29 ^^^ sm_xk 30) ^^^ sm_xk 31) ^^^ sm_rk 1 sm_m0 28) = _
  rw [sm_xx28, sm_xx29, sm_xx30, sm_xx31, show sm_rk 1 sm_m0 28 = 1116550740 from (if_neg (by decide)).trans sm_kk32]
  decide +kernel
theorem sm_xx33 : sm_xk 33 = (-2035029681) := by
  refine (sm_sq4 _ _ _ _ _ _ 29).trans ?_
  show sm_xk 29 ^^^ sm_T (((sm_xk 30 ^^^ sm_xk 31) ^^^ sm_xk 32) ^^^ sm_rk 1 sm_m0 29) = _
  rw [sm_xx29, sm_xx30, sm_xx31, sm_xx32, show sm_rk 1 sm_m0 29 = 1646867606 from (if_neg (by decide)).trans sm_kk33]
  decide +kernel
theorem sm_xx34 : sm_xk 34 = (-771320226) := by
  refine (sm_sq4 _ _ _ _ _ _ 30).trans ?_
  show sm_xk 30 ^^^ sm_T (((sm_xk 31 ^^^ sm_xk 32) ^^^ sm_xk 33) ^^^ sm_rk 1 sm_m0 30) = _
  rw [sm_xx30, sm_xx31, sm_xx32, sm_xx33, show sm_rk 1 sm_m0 30 = 30372581 from (if_neg (by decide)).trans sm_kk34]
  decide +kernel
theorem sm_xx35 : sm_xk 35 = 1746853684 := by
  refine (sm_sq4 _ _ _ _ _ _ 31).trans ?_
  show sm_xk 31 ^^^ sm_T (((sm_xk 32 ^^^ sm_xk 33) ^^^ sm_xk 34) ^^^ sm_rk 1 sm_m0 31) = _
  rw [sm_xx31, sm_xx32, sm_xx33, sm_xx34, show sm_rk 1 sm_m0 31 = (-1859870702) from (if_neg (by decide)).trans sm_kk35]
  decide +kernel
theorem sm_known : sm_o 1 sm_m0 sm_m0 0 = 1746853684 ∧ sm_o 1 sm_m0 sm_m0 1 = (-771320226) ∧ sm_o 1 sm_m0 sm_m0 2 = (-2035029681) ∧ sm_o 1 sm_m0 sm_m0 3 = 1399734854 := ⟨sm_xx35, sm_xx34, sm_xx33, sm_xx32⟩
end
section
/-! my rows over the kit: indices that are naturals, arrays whose class is known already, the statics that nobody writes, worlds of read-only and of writing methods, calls -/
abbrev sm_cl : List vw_C := [(RX1, TX1, 3), (RX2, TX2, 2), (RX3, TX3, 1)]
abbrev sm_ty (cB cI : ClassId) : List (ClassId × FieldType) := [(cB, .byte), (cI, .int)]
abbrev sm_bI : MethodName := ⟨"BlockCipher", "init", "(ZLCipherParameters;)V"⟩
abbrev sm_bP : MethodName := ⟨"BlockCipher", "processBlock", "([BI[BI)I"⟩
/-- the three static tables: Sbox at tS, CK at tC, FK at tF -/
def sm_ST (tS tC tF : Nat) (A : Nat → Prop) (U : State) (H : Heap) : Prop := (va_Z RX2 "Sbox" "[B" (.ref tS) A U H ∧ va_T .byte tS 256 (fun j => .int (sm_sb j)) A U H) ∧ (va_Z RX2 "CK" "[I" (.ref tC) A U H ∧ va_T .int tC 32 (fun j => .int (sm_ck j)) A U H) ∧ (va_Z RX2 "FK" "[I" (.ref tF) A U H ∧ va_T .int tF 4 (fun j => .int (sm_fk j)) A U H)
theorem sm_ST.moved {tS tC tF : Nat} {A : Nat → Prop} {u U : State} {H : Heap} (hvm : u.vm.Alike U.vm) (h : sm_ST tS tC tF A u H) : sm_ST tS tC tF A U H := ⟨⟨h.1.1.moved hvm, h.1.2.moved hvm⟩, ⟨h.2.1.1.moved hvm, h.2.1.2.moved hvm⟩, ⟨h.2.2.1.moved hvm, h.2.2.2.moved hvm⟩⟩
theorem sm_ST.kept {tS tC tF : Nat} {A : Nat → Prop} {U : State} {H H1 : Heap} (h : sm_ST tS tC tF A U H) (hq : ∀ a : Nat, a < H.size → ¬ A a → H1[a]? = H[a]?) : sm_ST tS tC tF A U H1 := ⟨⟨h.1.1.kept hq, h.1.2.kept hq⟩, ⟨h.2.1.1.kept hq, h.2.1.2.kept hq⟩, ⟨h.2.2.1.kept hq, h.2.2.2.kept hq⟩⟩
theorem sm_ST.narrow {tS tC tF : Nat} {A B : Nat → Prop} {U : State} {H : Heap} (h : sm_ST tS tC tF A U H) (hAB : ∀ q, B q → A q) : sm_ST tS tC tF B U H := ⟨⟨h.1.1.narrow hAB, h.1.2.narrow hAB⟩, ⟨h.2.1.1.narrow hAB, h.2.1.2.narrow hAB⟩, ⟨h.2.2.1.narrow hAB, h.2.2.2.narrow hAB⟩⟩
/-- the words of the two calls through the interface -/
def sm_EX (U : State) : Prop := va_Fw RX2 sm_bI yX2_init_2 U ∧ va_Fw RX2 sm_bP yX2_processBlock U
theorem sm_EX.moved {u U : State} (hvm : u.vm.Alike U.vm) (h : sm_EX u) : sm_EX U := ⟨va_Fw.moved (by decide +kernel) hvm h.1, va_Fw.moved (by decide +kernel) hvm h.2⟩
/-- the start of a method that writes nothing -/
def sm_RO (D : va_G) (cB cI : ClassId) (tS tC tF : Nat) (ws : va_W) (U : State) : Prop := va_P D sm_cl ws U.heap ∧ va_K D sm_cl (sm_ty cB cI) U ∧ sm_ST tS tC tF (fun _ => False) U U.heap
theorem sm_RO.blind {D : va_G} {cB cI : ClassId} {tS tC tF : Nat} {ws : va_W} {av : List Value} : FrameBlind (va_Pc av (sm_RO D cB cI tS tC tF ws)) := by
  intro a U g mk q
  obtain ⟨q0, qP, qK, qZ⟩ := q
  exact ⟨q0, qP, va_K.moved (u := U) (U := U.calling g mk a) (Vm.Alike.refl U.vm) qK, sm_ST.moved (u := U) (U := U.calling g mk a) (Vm.Alike.refl U.vm) qZ⟩
theorem sm_RO.at {D : va_G} {cB cI : ClassId} {tS tC tF : Nat} {ws : va_W} {A : Nat → Prop} {s U : State} {H : Heap} {locs : List Loc} (hU : U.heap = H) (hW : s.WarmedH U.vm) (hP : va_P D sm_cl ws H) (hK : va_K D sm_cl (sm_ty cB cI) s) (hZ : sm_ST tS tC tF A s s.heap) (hS : va_S A s.heap H locs) : sm_RO D cB cI tS tC tF ws U :=
  ⟨by rw [hU]; exact hP, va_K.moved hW.alike hK, by rw [hU]; exact ((hZ.kept hS.2.1).narrow (fun _ h => h.elim)).moved hW.alike⟩
/-- the start of a method that writes the cells ws (and makes some) -/
def sm_WO (D : va_G) (cB cI : ClassId) (tS tC tF : Nat) (ws : va_W) (sz : Nat) (U : State) : Prop := U.heap.size = sz ∧ va_P D sm_cl ws U.heap ∧ va_K D sm_cl (sm_ty cB cI) U ∧ va_D (fun _ => True) ws ∧ sm_ST tS tC tF (va_A ws sz) U U.heap ∧ sm_EX U
theorem sm_WO.blind {D : va_G} {cB cI : ClassId} {tS tC tF : Nat} {ws : va_W} {sz : Nat} {av : List Value} : FrameBlind (va_Pc av (sm_WO D cB cI tS tC tF ws sz)) := by
  intro a U g mk q
  obtain ⟨q0, q1, qP, qK, qD, qZ, qE⟩ := q
  exact ⟨q0, q1, qP, va_K.moved (u := U) (U := U.calling g mk a) (Vm.Alike.refl U.vm) qK, qD, sm_ST.moved (u := U) (U := U.calling g mk a) (Vm.Alike.refl U.vm) qZ, sm_EX.moved (u := U) (U := U.calling g mk a) (Vm.Alike.refl U.vm) qE⟩
theorem sm_WO.at {D : va_G} {cB cI : ClassId} {tS tC tF : Nat} {wc : va_W} {A : Nat → Prop} {s U : State} {H : Heap} {locs : List Loc} (hU : U.heap = H) (hW : s.WarmedH U.vm) (hP : va_P D sm_cl wc H) (hK : va_K D sm_cl (sm_ty cB cI) s) (hD : va_D A wc) (hZ : sm_ST tS tC tF A s s.heap) (hS : va_S A s.heap H locs) (hA : ∀ q, s.heap.size ≤ q → A q) (hE : sm_EX s) : sm_WO D cB cI tS tC tF wc H.size U := by
  refine ⟨by rw [hU], by rw [hU]; exact hP, va_K.moved hW.alike hK, hD.weaken (fun _ _ _ _ => trivial), ?_, hE.moved hW.alike⟩
  rw [hU]
  refine ((hZ.kept hS.2.1).narrow (fun q h => ?_)).moved hW.alike
  rcases h with ⟨k, e, h⟩ | h
  · exact hD.2 k _ h
  · exact hA q (Nat.le_trans hS.1 h)
def sm_BW {S : Type} (D : va_G) (A : Nat → Prop) (w1 : S → va_W) : S → State → Prop := fun u t => va_P D sm_cl (w1 u) t.heap ∧ va_D A (w1 u)
def sm_BR {S : Type} (D : va_G) (A : Nat → Prop) (w1 : S → Nat → va_W) : S → Nat → State → Prop := fun u a t => va_P D sm_cl (w1 u a) t.heap ∧ va_D A (w1 u a)
/-- an answer that is a reference, the heap as it was -/
def sm_Sr (post : Nat → Prop) : Array Value → State → Outcome → State → Prop := fun _ st o t => ∃ r : Nat, o = .returned (some (.ref r)) ∧ post r ∧ t.heap = st.heap
theorem sm_uniq {D : va_G} {cl : List vw_C} {tys : List (ClassId × FieldType)} {s : State} (h : va_K D cl tys s) {i j : Nat} {c1 c2 : ClassId} {ty : FieldType} (h1 : tys[i]? = some (c1, ty)) (h2 : tys[j]? = some (c2, ty)) (hp : refKind ty = false) : c1 = c2 := by
  have e1 := (h.2 i _ h1).2
  have e2 := (h.2 j _ h2).2
  cases ty with
  | object C => exact absurd hp (by simp [refKind])
  | _ => exact Option.some.inj (e1.symm.trans e2)
section SMR
variable {p : Program} {l : Launch} {e : Env} {R : Room} {s : State} {m : MethodId} {args : Array Value} {below : List Frame} {meth : Method} {c : Code} {H : Heap} {locs : List Loc} {cells slots : Nat} {Q : State → Prop}
variable {cc : ByteArray} {pc : Nat} {ls : Array Slot} {rest st0 : List Value} {D : va_G} {cl : List vw_C} {A : Nat → Prop} {a : Nat} {tys : List (ClassId × FieldType)} {ws : va_W} {H0 : Heap}
theorem sm_top {x y : Int32} (h : x = y) (k : W p l e R s m args below meth c H locs cells slots Q (F0 m pc ls (.int y :: rest))) : W p l e R s m args below meth c H locs cells slots Q (F0 m pc ls (.int x :: rest)) := by rw [h]; exact k
theorem sm_ldi (hexec : p.tables.exec = Jvm.exec) (hb : c.code = cc) (hK : va_K D cl tys s) (hP : va_P D cl ws H) (q0 t0 : Nat) {cA : ClassId} {n : Nat} {f : Nat → Int32} (ha : ws[q0]? = some (a, .inl (cA, n, .inl f))) (ht : tys[t0]? = some (cA, .int)) {i : Int32} (j : Nat) (hi : i = nI j) (hj : j < n) (hn : n < 2 ^ 31) {v : Int32} (hv : f j = v) (hdg : decode cc pc = .ok (.iaload, 1))
    (kk : W p l e R s m args below meth c H locs cells slots Q (F0 m (pc + 1) ls (.int v :: rest))) : W p l e R s m args below meth c H locs cells slots Q (F0 m pc ls (.int i :: .ref a :: rest)) := by
  subst hi
  refine va_iald hexec hb hK hP q0 t0 ha ht (vp_in_nI hj hn) hdg ?_
  rw [nI_clamp (by omega), hv]
  exact kk
theorem sm_ldb (hexec : p.tables.exec = Jvm.exec) (hb : c.code = cc) (hK : va_K D cl tys s) (hP : va_P D cl ws H) (q0 t0 : Nat) {cA : ClassId} {n : Nat} {f : Nat → Int32} (ha : ws[q0]? = some (a, .inl (cA, n, .inl f))) (ht : tys[t0]? = some (cA, .byte)) {i : Int32} (j : Nat) (hi : i = nI j) (hj : j < n) (hn : n < 2 ^ 31) {v : Int32} (hv : f j = v) (hdg : decode cc pc = .ok (.baload, 1))
    (kk : W p l e R s m args below meth c H locs cells slots Q (F0 m (pc + 1) ls (.int v :: rest))) : W p l e R s m args below meth c H locs cells slots Q (F0 m pc ls (.int i :: .ref a :: rest)) := by
  subst hi
  refine va_bald hexec hb hK hP q0 t0 ha ht (vp_in_nI hj hn) hdg ?_
  rw [nI_clamp (by omega), hv]
  exact kk
theorem sm_sti (hexec : p.tables.exec = Jvm.exec) (hb : c.code = cc) (hK : va_K D cl tys s) (hP : va_P D cl ws H) (hD : va_D A ws) (hS : va_S A H0 H locs) (q0 t0 : Nat) {cA : ClassId} {n : Nat} {f : Nat → Int32} (ha : ws[q0]? = some (a, .inl (cA, n, .inl f))) (ht : tys[t0]? = some (cA, .int)) {i x : Int32} (j : Nat) (hi : i = nI j) (hj : j < n) (hn : n < 2 ^ 31) (hdg : decode cc pc = .ok (.iastore, 1))
    (kk : ∀ (g : Nat → Int32) (H1 : Heap) (locs1 : List Loc), g = upd f j x → va_P D cl (ws.set q0 (a, .inl (cA, n, .inl g))) H1 → va_D A (ws.set q0 (a, .inl (cA, n, .inl g))) → va_S A H0 H1 locs1 → W p l e R s m args below meth c H1 locs1 cells slots Q (F0 m (pc + 1) ls rest)) : W p l e R s m args below meth c H locs cells slots Q (F0 m pc ls (.int x :: .int i :: .ref a :: rest)) := by
  subst hi
  refine va_iast hexec hb hK hP hD hS q0 t0 ha ht (vp_in_nI hj hn) hdg (fun H1 locs1 hP1 hD1 hS1 => ?_)
  rw [nI_clamp (by omega)] at hP1 hD1
  exact kk _ H1 locs1 rfl hP1 hD1 hS1
theorem sm_stb (hexec : p.tables.exec = Jvm.exec) (hb : c.code = cc) (hK : va_K D cl tys s) (hP : va_P D cl ws H) (hD : va_D A ws) (hS : va_S A H0 H locs) (q0 t0 : Nat) {cA : ClassId} {n : Nat} {f : Nat → Int32} (ha : ws[q0]? = some (a, .inl (cA, n, .inl f))) (ht : tys[t0]? = some (cA, .byte)) {i x y : Int32} (j : Nat) (hi : i = nI j) (hj : j < n) (hn : n < 2 ^ 31) (hy : x.toInt8.toInt32 = y) (hdg : decode cc pc = .ok (.bastore, 1))
    (kk : ∀ (g : Nat → Int32) (H1 : Heap) (locs1 : List Loc), g = upd f j y → va_P D cl (ws.set q0 (a, .inl (cA, n, .inl g))) H1 → va_D A (ws.set q0 (a, .inl (cA, n, .inl g))) → va_S A H0 H1 locs1 → W p l e R s m args below meth c H1 locs1 cells slots Q (F0 m (pc + 1) ls rest)) : W p l e R s m args below meth c H locs cells slots Q (F0 m pc ls (.int x :: .int i :: .ref a :: rest)) := by
  subst hi
  refine va_bast hexec hb hK hP hD hS q0 t0 ha ht (vp_in_nI hj hn) hdg (fun H1 locs1 hP1 hD1 hS1 => ?_)
  rw [nI_clamp (by omega), vp_nar_byte, hy] at hP1 hD1
  exact kk _ H1 locs1 rfl hP1 hD1 hS1
/-- a new array of a primitive type whose class is known already -/
theorem sm_newa (hexec : p.tables.exec = Jvm.exec) (hb : c.code = cc) {atype : ArrayType} (harr : (Cond.arrayClass (newarray.typeOf atype)).before args s = true) {ty : FieldType} (hty : newarray.typeOf atype = ty) (hp : refKind ty = false) (hd : defaultValue ty = .int 0) (hK : va_K D cl tys s) (hP : va_P D cl ws H) (hD : va_D A ws) (hS : va_S A H0 H locs) (hA : ∀ q, H0.size ≤ q → A q) (t0 : Nat) {cA : ClassId} (ht : tys[t0]? = some (cA, ty))
    {n : Int32} {N : Nat} (hi : n = nI N) (hn : N < 2 ^ 20) (hbytes : N * componentBytes ty ≤ 536870912) (hcells : cells + 1 ≤ R.cells) (hslots : slots + N ≤ R.slots) (hdg : decode cc pc = .ok (.newarray atype, 2))
    (kk : ∀ (q : Nat) (H1 : Heap), va_P D cl (ws ++ [(q, .inl (cA, N, .inl (fun _ => 0)))]) H1 → va_D A (ws ++ [(q, .inl (cA, N, .inl (fun _ => 0)))]) → va_S A H0 H1 locs →
      W p l e R s m args below meth c H1 locs (cells + 1) (slots + N) Q (F0 m (pc + 2) ls (.ref q :: rest))) : W p l e R s m args below meth c H locs cells slots Q (F0 m pc ls (.int n :: rest)) := by
  subst hi
  refine va_newa (a0 := (N, .inl (fun _ => 0))) hexec hb harr hty hK hP hD hS hA (fun cA => by rw [vp_cell_i, hd]) (nI_pos (by omega)) (nI_clamp (by omega)) hbytes hcells hslots hdg (fun q cA' H1 hK1 hP1 hD1 hS1 => ?_)
  have h2 : (tys ++ [(cA', ty)])[tys.length]? = some (cA', ty) := by simp
  have h1 : (tys ++ [(cA', ty)])[t0]? = some (cA, ty) := by rw [List.getElem?_append_left (List.getElem?_eq_some_iff.mp ht).1]; exact ht
  have e1 := sm_uniq hK1 h1 h2 hp
  subst e1
  exact kk q H1 hP1 hD1 hS1
theorem sm_callSr {post : Nat → Prop} {b : Array Value} (hr : CallRun p l e R s m args below meth c H locs cells slots 0 0 (F0 m pc ls st0) rest (sm_Sr post b) (fun _ => False))
    (kk : ∀ r : Nat, post r → W p l e R s m args below meth c H locs cells slots Q (F0 m (pc + 3) ls (.ref r :: rest))) : W p l e R s m args below meth c H locs cells slots Q (F0 m pc ls st0) := by
  intro T hT X
  obtain ⟨v, st₀, t, T', L, h0, X', hL, e1, ⟨r, hv, hp, hh⟩, st⟩ := hr T hT X
  cases hv
  obtain ⟨t2, a1, b1⟩ := kk r hp T' (by rw [e1, hh, h0]) (Stand.forget X' (fun q h => (hL q h).elim))
  exact ⟨t2, st t2 a1, b1⟩
variable {wc wr : va_W} {mc ms : Nat} {b : Array Value}
/-- a call of a writing method without answer: its cells are wc (places isC of ws), the rest wr (places isR) -/
theorem sm_callv {S : Type} {post : S → Prop} {w1 : S → va_W} (hr : va_Run p l e R s m args below meth c H locs cells slots mc ms (F0 m pc ls st0) rest (va_Qv post (sm_BW D (va_A wc H.size) w1) (va_A wc H.size) b) (va_A wc H.size)) (hP : va_P D sm_cl ws H) (hD : va_D A ws) (hS : va_S A H0 H locs) (hA : ∀ q, H0.size ≤ q → A q) (isC isR : List Nat) (hC : isC.map (fun i => ws[i]?) = wc.map some) (hR : isR.map (fun i => ws[i]?) = wr.map some) (hn : va_nd isR = true) (hdis : ∀ i ∈ isR, i ∉ isC)
    (kk : ∀ (u : S) (H1 : Heap) (locs1 : List Loc), post u → va_P D sm_cl (wr ++ w1 u) H1 → va_D A (wr ++ w1 u) → va_S A H0 H1 locs1 → W p l e R s m args below meth c H1 locs1 (cells + mc) (slots + ms) Q (F0 m (pc + 3) ls rest)) : W p l e R s m args below meth c H locs cells slots Q (F0 m pc ls st0) := by
  have hF := va_free hD hS hA isC hC
  refine va_callv hr hS (fun q _ h => hF q h) hF (fun u t H1 locs1 ht hvm hw hB hz hk hS1 => ?_)
  obtain ⟨hP1, hD1⟩ := hB
  rw [ht] at hP1
  obtain ⟨hP', hD'⟩ := va_join hP hD isC isR hC hR hn hdis hk hF hP1 hD1
  exact kk u H1 locs1 hw hP' hD' hS1
theorem sm_callr {S : Type} {post : S → Prop} {w1 : S → Nat → va_W} (hr : va_Run p l e R s m args below meth c H locs cells slots mc ms (F0 m pc ls st0) rest (va_Qr post (sm_BR D (va_A wc H.size) w1) (va_A wc H.size) b) (va_A wc H.size)) (hP : va_P D sm_cl ws H) (hD : va_D A ws) (hS : va_S A H0 H locs) (hA : ∀ q, H0.size ≤ q → A q) (isC isR : List Nat) (hC : isC.map (fun i => ws[i]?) = wc.map some) (hR : isR.map (fun i => ws[i]?) = wr.map some) (hn : va_nd isR = true) (hdis : ∀ i ∈ isR, i ∉ isC)
    (kk : ∀ (u : S) (r : Nat) (H1 : Heap) (locs1 : List Loc), post u → va_P D sm_cl (wr ++ w1 u r) H1 → va_D A (wr ++ w1 u r) → va_S A H0 H1 locs1 → W p l e R s m args below meth c H1 locs1 (cells + mc) (slots + ms) Q (F0 m (pc + 3) ls (.ref r :: rest))) : W p l e R s m args below meth c H locs cells slots Q (F0 m pc ls st0) := by
  have hF := va_free hD hS hA isC hC
  refine va_callr hr hS (fun q _ h => hF q h) hF (fun u r t H1 locs1 ht hvm hw hB hz hk hS1 => ?_)
  obtain ⟨hP1, hD1⟩ := hB
  rw [ht] at hP1
  obtain ⟨hP', hD'⟩ := va_join hP hD isC isR hC hR hn hdis hk hF hP1 hD1
  exact kk u r H1 locs1 hw hP' hD' hS1
/-- the same through an interface: no answer, an int -/
theorem sm_callFv {S : Type} {post : S → Prop} {w1 : S → va_W} (hr : va_Run5 p l e R s m args below meth c H locs cells slots mc ms (F0 m pc ls st0) rest (va_Qv post (sm_BW D (va_A wc H.size) w1) (va_A wc H.size) b) (va_A wc H.size)) (hP : va_P D sm_cl ws H) (hD : va_D A ws) (hS : va_S A H0 H locs) (hA : ∀ q, H0.size ≤ q → A q) (isC isR : List Nat) (hC : isC.map (fun i => ws[i]?) = wc.map some) (hR : isR.map (fun i => ws[i]?) = wr.map some) (hn : va_nd isR = true) (hdis : ∀ i ∈ isR, i ∉ isC)
    (kk : ∀ (u : S) (H1 : Heap) (locs1 : List Loc), post u → va_P D sm_cl (wr ++ w1 u) H1 → va_D A (wr ++ w1 u) → va_S A H0 H1 locs1 → W p l e R s m args below meth c H1 locs1 (cells + mc) (slots + ms) Q (F0 m (pc + 5) ls rest)) : W p l e R s m args below meth c H locs cells slots Q (F0 m pc ls st0) := by
  have hF := va_free hD hS hA isC hC
  refine va_callFv hr hS (fun q _ h => hF q h) hF (fun u t H1 locs1 ht hvm hw hB hz hk hS1 => ?_)
  obtain ⟨hP1, hD1⟩ := hB
  rw [ht] at hP1
  obtain ⟨hP', hD'⟩ := va_join hP hD isC isR hC hR hn hdis hk hF hP1 hD1
  exact kk u H1 locs1 hw hP' hD' hS1
theorem sm_callFi {S : Type} {post : Int32 → S → Prop} {w1 : S → va_W} (hr : va_Run5 p l e R s m args below meth c H locs cells slots mc ms (F0 m pc ls st0) rest (va_Qi post (sm_BW D (va_A wc H.size) w1) (va_A wc H.size) b) (va_A wc H.size)) (hP : va_P D sm_cl ws H) (hD : va_D A ws) (hS : va_S A H0 H locs) (hA : ∀ q, H0.size ≤ q → A q) (isC isR : List Nat) (hC : isC.map (fun i => ws[i]?) = wc.map some) (hR : isR.map (fun i => ws[i]?) = wr.map some) (hn : va_nd isR = true) (hdis : ∀ i ∈ isR, i ∉ isC)
    (kk : ∀ (r : Int32) (u : S) (H1 : Heap) (locs1 : List Loc), post r u → va_P D sm_cl (wr ++ w1 u) H1 → va_D A (wr ++ w1 u) → va_S A H0 H1 locs1 → W p l e R s m args below meth c H1 locs1 (cells + mc) (slots + ms) Q (F0 m (pc + 5) ls (.int r :: rest))) : W p l e R s m args below meth c H locs cells slots Q (F0 m pc ls st0) := by
  have hF := va_free hD hS hA isC hC
  refine va_callFi hr hS (fun q _ h => hF q h) hF (fun r u t H1 locs1 ht hvm hw hB hz hk hS1 => ?_)
  obtain ⟨hP1, hD1⟩ := hB
  rw [ht] at hP1
  obtain ⟨hP', hD'⟩ := va_join hP hD isC isR hC hR hn hdis hk hF hP1 hD1
  exact kk r u H1 locs1 hw hP' hD' hS1
end SMR
/-- what a call through the interface asks -/
theorem sm_lwF {own : String} {idx : Nat} {C : String} {x y : MethodName} {b : ByteArray} {L : Nat} {r : Option FieldType} (h1 : Cond.methodLink own idx x ∈ lw_all) (h2 : Cond.selects C x y ∈ lw_all) (h3 : Cond.instanceMethod y ∈ lw_all) (h4 : Cond.initialized y.cls ∈ lw_all) (h5 : Cond.code y b L r ∈ lw_all) : GoodIn lw_all (va_wsF own idx C x y (ws_ y b L r)) := by
  refine lw_app ?_ (lw_meth h5)
  intro w hw
  simp only [List.mem_cons, List.not_mem_nil, or_false] at hw
  rcases hw with e | e | e | e
  · rw [e]; exact h1
  · rw [e]; exact h2
  · rw [e]; exact h3
  · rw [e]; exact h4
/-- four bytes stored -/
theorem sm_put {f g1 g2 g3 g4 : Nat → Int32} {o : Nat} {w : Int32} (h1 : g1 = upd f o (sm_ba w 0)) (h2 : g2 = upd g1 (o + 1) (sm_ba w 1)) (h3 : g3 = upd g2 (o + 2) (sm_ba w 2)) (h4 : g4 = upd g3 (o + 3) (sm_ba w 3)) : sm_W g4 o w ∧ ∀ j, (j < o ∨ o + 3 < j) → g4 j = f j := by
  subst h1 h2 h3 h4
  refine ⟨⟨?_, ?_, ?_, ?_⟩, fun j hj => ?_⟩
  · rw [pk_un (by omega), pk_un (by omega), pk_un (by omega), pk_us]
  · rw [pk_un (by omega), pk_un (by omega), pk_us]
  · rw [pk_un (by omega), pk_us]
  · rw [pk_us]
  · rw [pk_un (by omega), pk_un (by omega), pk_un (by omega), pk_un (by omega)]
theorem sm_W.keep {f g : Nat → Int32} {o : Nat} {w : Int32} (h : sm_W f o w) (e : ∀ j, o ≤ j → j ≤ o + 3 → g j = f j) : sm_W g o w := ⟨(e _ (by omega) (by omega)).trans h.1, (e _ (by omega) (by omega)).trans h.2.1, (e _ (by omega) (by omega)).trans h.2.2.1, (e _ (by omega) (by omega)).trans h.2.2.2⟩
theorem sm_k4 (m : Nat → Int32) (n : Nat) : sm_k m (n + 4) = sm_k m n ^^^ sm_Tap (((sm_k m (n + 1) ^^^ sm_k m (n + 2)) ^^^ sm_k m (n + 3)) ^^^ sm_ck n) := sm_sq4 _ _ _ _ _ _ n
theorem sm_x4 (r p : Nat → Int32) (n : Nat) : sm_x r p (n + 4) = sm_x r p n ^^^ sm_T (((sm_x r p (n + 1) ^^^ sm_x r p (n + 2)) ^^^ sm_x r p (n + 3)) ^^^ r n) := sm_sq4 _ _ _ _ _ _ n
/-- a counter that falls: -1 behind 0 -/
def sm_dn : Nat → Int32
  | 0 => -1
  | n + 1 => nI n
theorem sm_dn1 (n : Nat) : nI n + (-1) = sm_dn n := by
  cases n with
  | zero => decide
  | succ n => exact pk_m1 n
theorem sm_sub {a b : Nat} (h : b ≤ a) {x y : Int32} (hx : x = nI a) (hy : y = nI b) : x - y = nI (a - b) := by rw [hx, hy]; exact pk_sub h
theorem sm_add (a b : Nat) {x y : Int32} (hx : x = nI a) (hy : y = nI b) : x + y = nI (a + b) := by rw [hx, hy]; exact nI_add a b
end
section
set_option maxHeartbeats 4000000 in
set_option maxRecDepth 100000 in
/-- Pack.bigEndianToInt(bytes, o): the word that stands at o -/
theorem metX4_bigEndianToInt (l : Launch) (D : va_G) (cB cI : ClassId) (tS tC tF : Nat) (a : Nat) (f : Nat → Int32) (N o : Nat) (w : Int32) (hN : N < 2 ^ 20) (ho : o + 3 < N) (hw : sm_W f o w) : Met l yX4_bigEndianToInt (ws_ yX4_bigEndianToInt cX4_bigEndianToInt 3 (some .int)) ({ frames := 0, cells := 0, slots := 0, locals := 0 }) (va_Pc [.ref a, .int (nI o)] (sm_RO D cB cI tS tC tF [(a, .inl (cB, N, .inl f))])) (vp_Si (fun r => r = w)) 0 0 (fun _ => False) := by
  refine Met.ofW (cc := cX4_bigEndianToInt) (maxL := 3) (ret := (some .int)) (by decide) rfl ?_
  intro p e s m args below meth c s₁ B hml hv
  obtain ⟨rfl, hP, hK, hZ⟩ := hv
  have hx := B.exec
  have hb := B.bytes
  have hr := B.returns
  have hts := atoms_spec (ws := ws_ yX4_bigEndianToInt cX4_bigEndianToInt 3 (some .int)) B.pre
  have hts : ∀ w ∈ lw_all, w.before _ s = true := fun w h => hts w (List.mem_cons_of_mem _ h)
  have hown : s.vm.findClass RX4 = some m.cls := findClass_of_methodNamed B.named
  have hlocks := B.notSynchronized
  have hS : va_S (fun _ => False) s.heap s.heap [] := va_S.rf
  have hl := lv_entry ([.ref a, .int (nI o)]) (n := 3) (Nat.le_of_ble_eq_true rfl)
  rw [lg_entry_eq]
  generalize (lg_sl ([.ref a, .int (nI o)]) ++ List.replicate (3 - (lg_sl ([.ref a, .int (nI o)])).length) Slot.unset).toArray = ls at hl ⊢
  have hl : lv_has ls 3 [(0, .ref a), (1, .int (nI o))] := hl
  refine lv_aload_n hx hb dX4_bigEndianToInt_0 rfl (lv_at hl 0 rfl) ?_
  refine lv_iload_n hx hb dX4_bigEndianToInt_1 rfl (lv_at hl 1 rfl) ?_
  refine sm_ldb hx hb hK hP 0 0 rfl rfl (o) rfl (by omega) (by omega) (v := f o) (rfl) dX4_bigEndianToInt_2 ?_
  refine lv_bipush (v := 24) hx hb dX4_bigEndianToInt_3 (by decide) ?_
  refine lv_ishl hx hb dX4_bigEndianToInt_5 ?_
  refine lv_istore_n (lv' := [(2, .int ((f o) <<< ((24 : Int32) &&& 31))), (0, .ref a), (1, .int (nI o))]) hx hb dX4_bigEndianToInt_6 rfl hl (by decide) rfl (fun ls hl => ?_)
  refine lv_iload_n hx hb dX4_bigEndianToInt_7 rfl (lv_at hl 0 rfl) ?_
  refine lv_aload_n hx hb dX4_bigEndianToInt_8 rfl (lv_at hl 1 rfl) ?_
  refine lv_iinc (v := nI (o + 1)) (lv' := [(1, .int (nI (o + 1))), (2, .int ((f o) <<< ((24 : Int32) &&& 31))), (0, .ref a)]) hx hb dX4_bigEndianToInt_9 hl (k := 2) rfl (nI_1 (o)) (by decide) rfl (fun ls hl => ?_)
  refine lv_iload_n hx hb dX4_bigEndianToInt_12 rfl (lv_at hl 0 rfl) ?_
  refine sm_ldb hx hb hK hP 0 0 rfl rfl (o + 1) rfl (by omega) (by omega) (v := f (o + 1)) (rfl) dX4_bigEndianToInt_13 ?_
  refine lv_sipush (v := 255) hx hb dX4_bigEndianToInt_14 (by decide) ?_
  refine lv_iand hx hb dX4_bigEndianToInt_17 ?_
  refine lv_bipush (v := 16) hx hb dX4_bigEndianToInt_18 (by decide) ?_
  refine lv_ishl hx hb dX4_bigEndianToInt_20 ?_
  refine lv_ior hx hb dX4_bigEndianToInt_21 ?_
  refine lv_istore_n (lv' := [(2, .int (((f o) <<< ((24 : Int32) &&& 31)) ||| (((f (o + 1)) &&& (255 : Int32)) <<< ((16 : Int32) &&& 31)))), (1, .int (nI (o + 1))), (0, .ref a)]) hx hb dX4_bigEndianToInt_22 rfl hl (by decide) rfl (fun ls hl => ?_)
  refine lv_iload_n hx hb dX4_bigEndianToInt_23 rfl (lv_at hl 0 rfl) ?_
  refine lv_aload_n hx hb dX4_bigEndianToInt_24 rfl (lv_at hl 2 rfl) ?_
  refine lv_iinc (v := nI (o + 1 + 1)) (lv' := [(1, .int (nI (o + 1 + 1))), (2, .int (((f o) <<< ((24 : Int32) &&& 31)) ||| (((f (o + 1)) &&& (255 : Int32)) <<< ((16 : Int32) &&& 31)))), (0, .ref a)]) hx hb dX4_bigEndianToInt_25 hl (k := 1) rfl (nI_1 (o + 1)) (by decide) rfl (fun ls hl => ?_)
  refine lv_iload_n hx hb dX4_bigEndianToInt_28 rfl (lv_at hl 0 rfl) ?_
  refine sm_ldb hx hb hK hP 0 0 rfl rfl (o + 1 + 1) rfl (by omega) (by omega) (v := f (o + 1 + 1)) (rfl) dX4_bigEndianToInt_29 ?_
  refine lv_sipush (v := 255) hx hb dX4_bigEndianToInt_30 (by decide) ?_
  refine lv_iand hx hb dX4_bigEndianToInt_33 ?_
  refine lv_bipush (v := 8) hx hb dX4_bigEndianToInt_34 (by decide) ?_
  refine lv_ishl hx hb dX4_bigEndianToInt_36 ?_
  refine lv_ior hx hb dX4_bigEndianToInt_37 ?_
  refine lv_istore_n (lv' := [(2, .int ((((f o) <<< ((24 : Int32) &&& 31)) ||| (((f (o + 1)) &&& (255 : Int32)) <<< ((16 : Int32) &&& 31))) ||| (((f (o + 1 + 1)) &&& (255 : Int32)) <<< ((8 : Int32) &&& 31)))), (1, .int (nI (o + 1 + 1))), (0, .ref a)]) hx hb dX4_bigEndianToInt_38 rfl hl (by decide) rfl (fun ls hl => ?_)
  refine lv_iload_n hx hb dX4_bigEndianToInt_39 rfl (lv_at hl 0 rfl) ?_
  refine lv_aload_n hx hb dX4_bigEndianToInt_40 rfl (lv_at hl 2 rfl) ?_
  refine lv_iinc (v := nI (o + 1 + 1 + 1)) (lv' := [(1, .int (nI (o + 1 + 1 + 1))), (2, .int ((((f o) <<< ((24 : Int32) &&& 31)) ||| (((f (o + 1)) &&& (255 : Int32)) <<< ((16 : Int32) &&& 31))) ||| (((f (o + 1 + 1)) &&& (255 : Int32)) <<< ((8 : Int32) &&& 31)))), (0, .ref a)]) hx hb dX4_bigEndianToInt_41 hl (k := 1) rfl (nI_1 (o + 1 + 1)) (by decide) rfl (fun ls hl => ?_)
  refine lv_iload_n hx hb dX4_bigEndianToInt_44 rfl (lv_at hl 0 rfl) ?_
  refine sm_ldb hx hb hK hP 0 0 rfl rfl (o + 1 + 1 + 1) rfl (by omega) (by omega) (v := f (o + 1 + 1 + 1)) (rfl) dX4_bigEndianToInt_45 ?_
  refine lv_sipush (v := 255) hx hb dX4_bigEndianToInt_46 (by decide) ?_
  refine lv_iand hx hb dX4_bigEndianToInt_49 ?_
  refine lv_ior hx hb dX4_bigEndianToInt_50 ?_
  refine lv_istore_n (lv' := [(2, .int (((((f o) <<< ((24 : Int32) &&& 31)) ||| (((f (o + 1)) &&& (255 : Int32)) <<< ((16 : Int32) &&& 31))) ||| (((f (o + 1 + 1)) &&& (255 : Int32)) <<< ((8 : Int32) &&& 31))) ||| ((f (o + 1 + 1 + 1)) &&& (255 : Int32)))), (1, .int (nI (o + 1 + 1 + 1))), (0, .ref a)]) hx hb dX4_bigEndianToInt_51 rfl hl (by decide) rfl (fun ls hl => ?_)
  refine lv_iload_n hx hb dX4_bigEndianToInt_52 rfl (lv_at hl 0 rfl) ?_
  exact W.iret (v := ((((f o) <<< ((24 : Int32) &&& 31)) ||| (((f (o + 1)) &&& (255 : Int32)) <<< ((16 : Int32) &&& 31))) ||| (((f (o + 1 + 1)) &&& (255 : Int32)) <<< ((8 : Int32) &&& 31))) ||| ((f (o + 1 + 1 + 1)) &&& (255 : Int32))) hx hb hr (fun t ht hW => ⟨_, rfl, sm_W_be hw, ht⟩) (fun _ h => by cases h) dX4_bigEndianToInt_53
set_option maxHeartbeats 4000000 in
set_option maxRecDepth 100000 in
/-- rotateLeft(x, b) -/
theorem metX2_rotateLeft (l : Launch) (D : va_G) (cB cI : ClassId) (tS tC tF : Nat) (h0 : Nat) (fs : List Value) (x b : Int32) : Met l yX2_rotateLeft (ws_ yX2_rotateLeft cX2_rotateLeft 3 (some .int)) ({ frames := 0, cells := 0, slots := 0, locals := 0 }) (va_Pc [.ref h0, .int x, .int b] (sm_RO D cB cI tS tC tF [(h0, .inr (1, fs))])) (vp_Si (fun r => r = sm_rot x b)) 0 0 (fun _ => False) := by
  refine Met.ofW (cc := cX2_rotateLeft) (maxL := 3) (ret := (some .int)) (by decide) rfl ?_
  intro p e s m args below meth c s₁ B hml hv
  obtain ⟨rfl, hP, hK, hZ⟩ := hv
  have hx := B.exec
  have hb := B.bytes
  have hr := B.returns
  have hts := atoms_spec (ws := ws_ yX2_rotateLeft cX2_rotateLeft 3 (some .int)) B.pre
  have hts : ∀ w ∈ lw_all, w.before _ s = true := fun w h => hts w (List.mem_cons_of_mem _ h)
  have hown : s.vm.findClass RX2 = some m.cls := findClass_of_methodNamed B.named
  have hlocks := B.notSynchronized
  have hS : va_S (fun _ => False) s.heap s.heap [] := va_S.rf
  have hl := lv_entry ([.ref h0, .int x, .int b]) (n := 3) (Nat.le_of_ble_eq_true rfl)
  rw [lg_entry_eq]
  generalize (lg_sl ([.ref h0, .int x, .int b]) ++ List.replicate (3 - (lg_sl ([.ref h0, .int x, .int b])).length) Slot.unset).toArray = ls at hl ⊢
  have hl : lv_has ls 3 [(0, .ref h0), (1, .int x), (2, .int b)] := hl
  refine lv_iload_n hx hb dX2_rotateLeft_0 rfl (lv_at hl 1 rfl) ?_
  refine lv_iload_n hx hb dX2_rotateLeft_1 rfl (lv_at hl 2 rfl) ?_
  refine lv_ishl hx hb dX2_rotateLeft_2 ?_
  refine lv_iload_n hx hb dX2_rotateLeft_3 rfl (lv_at hl 1 rfl) ?_
  refine lv_iload_n hx hb dX2_rotateLeft_4 rfl (lv_at hl 2 rfl) ?_
  refine lv_ineg hx hb dX2_rotateLeft_5 ?_
  refine lv_iushr hx hb dX2_rotateLeft_6 rfl ?_
  refine lv_ior hx hb dX2_rotateLeft_7 ?_
  exact W.iret (v := (x <<< (b &&& 31)) ||| ((x.toUInt32 >>> ((-b).toUInt32 &&& Int32.toUInt32 31)).toInt32)) hx hb hr (fun t ht hW => ⟨_, rfl, rfl, ht⟩) (fun _ h => by cases h) dX2_rotateLeft_8
set_option maxHeartbeats 4000000 in
set_option maxRecDepth 100000 in
/-- tau: four bytes through the S-box -/
theorem metX2_tau (l : Launch) (D : va_G) (cB cI : ClassId) (tS tC tF : Nat) (h0 : Nat) (fs : List Value) (x : Int32) : Met l yX2_tau (ws_ yX2_tau cX2_tau 6 (some .int)) ({ frames := 0, cells := 0, slots := 0, locals := 0 }) (va_Pc [.ref h0, .int x] (sm_RO D cB cI tS tC tF [(h0, .inr (1, fs))])) (vp_Si (fun r => r = sm_tau x)) 0 0 (fun _ => False) := by
  refine Met.ofW (cc := cX2_tau) (maxL := 6) (ret := (some .int)) (by decide) rfl ?_
  intro p e s m args below meth c s₁ B hml hv
  obtain ⟨rfl, hP, hK, hZ⟩ := hv
  have hx := B.exec
  have hb := B.bytes
  have hr := B.returns
  have hts := atoms_spec (ws := ws_ yX2_tau cX2_tau 6 (some .int)) B.pre
  have hts : ∀ w ∈ lw_all, w.before _ s = true := fun w h => hts w (List.mem_cons_of_mem _ h)
  have hown : s.vm.findClass RX2 = some m.cls := findClass_of_methodNamed B.named
  have hlocks := B.notSynchronized
  have hS : va_S (fun _ => False) s.heap s.heap [] := va_S.rf
  have hl := lv_entry ([.ref h0, .int x]) (n := 6) (Nat.le_of_ble_eq_true rfl)
  rw [lg_entry_eq]
  generalize (lg_sl ([.ref h0, .int x]) ++ List.replicate (6 - (lg_sl ([.ref h0, .int x])).length) Slot.unset).toArray = ls at hl ⊢
  have hl : lv_has ls 6 [(0, .ref h0), (1, .int x)] := hl
  refine va_gets hx hb hZ.1.1 hS hown (hts _ q177) (fun _ h => h) dX2_tau_0 ?_
  refine lv_iload_n hx hb dX2_tau_3 rfl (lv_at hl 1 rfl) ?_
  refine lv_bipush (v := 24) hx hb dX2_tau_4 (by decide) ?_
  refine lv_ishr hx hb dX2_tau_6 ?_
  refine lv_sipush (v := 255) hx hb dX2_tau_7 (by decide) ?_
  refine lv_iand hx hb dX2_tau_10 ?_
  refine va_tb hx hb hZ.1.2 hS (pk_andIn _ 8 (by decide) (by decide)) rfl dX2_tau_11 ?_
  refine lv_sipush (v := 255) hx hb dX2_tau_12 (by decide) ?_
  refine lv_iand hx hb dX2_tau_15 ?_
  refine lv_istore_n (lv' := [(2, .int ((sm_sx ((x >>> ((24 : Int32) &&& 31)) &&& (255 : Int32))) &&& (255 : Int32))), (0, .ref h0), (1, .int x)]) hx hb dX2_tau_16 rfl hl (by decide) rfl (fun ls hl => ?_)
  refine va_gets hx hb hZ.1.1 hS hown (hts _ q177) (fun _ h => h) dX2_tau_17 ?_
  refine lv_iload_n hx hb dX2_tau_20 rfl (lv_at hl 2 rfl) ?_
  refine lv_bipush (v := 16) hx hb dX2_tau_21 (by decide) ?_
  refine lv_ishr hx hb dX2_tau_23 ?_
  refine lv_sipush (v := 255) hx hb dX2_tau_24 (by decide) ?_
  refine lv_iand hx hb dX2_tau_27 ?_
  refine va_tb hx hb hZ.1.2 hS (pk_andIn _ 8 (by decide) (by decide)) rfl dX2_tau_28 ?_
  refine lv_sipush (v := 255) hx hb dX2_tau_29 (by decide) ?_
  refine lv_iand hx hb dX2_tau_32 ?_
  refine lv_istore_n (lv' := [(3, .int ((sm_sx ((x >>> ((16 : Int32) &&& 31)) &&& (255 : Int32))) &&& (255 : Int32))), (2, .int ((sm_sx ((x >>> ((24 : Int32) &&& 31)) &&& (255 : Int32))) &&& (255 : Int32))), (0, .ref h0), (1, .int x)]) hx hb dX2_tau_33 rfl hl (by decide) rfl (fun ls hl => ?_)
  refine va_gets hx hb hZ.1.1 hS hown (hts _ q177) (fun _ h => h) dX2_tau_34 ?_
  refine lv_iload_n hx hb dX2_tau_37 rfl (lv_at hl 3 rfl) ?_
  refine lv_bipush (v := 8) hx hb dX2_tau_38 (by decide) ?_
  refine lv_ishr hx hb dX2_tau_40 ?_
  refine lv_sipush (v := 255) hx hb dX2_tau_41 (by decide) ?_
  refine lv_iand hx hb dX2_tau_44 ?_
  refine va_tb hx hb hZ.1.2 hS (pk_andIn _ 8 (by decide) (by decide)) rfl dX2_tau_45 ?_
  refine lv_sipush (v := 255) hx hb dX2_tau_46 (by decide) ?_
  refine lv_iand hx hb dX2_tau_49 ?_
  refine lv_istore (lv' := [(4, .int ((sm_sx ((x >>> ((8 : Int32) &&& 31)) &&& (255 : Int32))) &&& (255 : Int32))), (3, .int ((sm_sx ((x >>> ((16 : Int32) &&& 31)) &&& (255 : Int32))) &&& (255 : Int32))), (2, .int ((sm_sx ((x >>> ((24 : Int32) &&& 31)) &&& (255 : Int32))) &&& (255 : Int32))), (0, .ref h0), (1, .int x)]) hx hb dX2_tau_50 hl (by decide) rfl (fun ls hl => ?_)
  refine va_gets hx hb hZ.1.1 hS hown (hts _ q177) (fun _ h => h) dX2_tau_52 ?_
  refine lv_iload_n hx hb dX2_tau_55 rfl (lv_at hl 4 rfl) ?_
  refine lv_sipush (v := 255) hx hb dX2_tau_56 (by decide) ?_
  refine lv_iand hx hb dX2_tau_59 ?_
  refine va_tb hx hb hZ.1.2 hS (pk_andIn _ 8 (by decide) (by decide)) rfl dX2_tau_60 ?_
  refine lv_sipush (v := 255) hx hb dX2_tau_61 (by decide) ?_
  refine lv_iand hx hb dX2_tau_64 ?_
  refine lv_istore (lv' := [(5, .int ((sm_sx (x &&& (255 : Int32))) &&& (255 : Int32))), (4, .int ((sm_sx ((x >>> ((8 : Int32) &&& 31)) &&& (255 : Int32))) &&& (255 : Int32))), (3, .int ((sm_sx ((x >>> ((16 : Int32) &&& 31)) &&& (255 : Int32))) &&& (255 : Int32))), (2, .int ((sm_sx ((x >>> ((24 : Int32) &&& 31)) &&& (255 : Int32))) &&& (255 : Int32))), (0, .ref h0), (1, .int x)]) hx hb dX2_tau_65 hl (by decide) rfl (fun ls hl => ?_)
  refine lv_iload_n hx hb dX2_tau_67 rfl (lv_at hl 3 rfl) ?_
  refine lv_bipush (v := 24) hx hb dX2_tau_68 (by decide) ?_
  refine lv_ishl hx hb dX2_tau_70 ?_
  refine lv_iload_n hx hb dX2_tau_71 rfl (lv_at hl 2 rfl) ?_
  refine lv_bipush (v := 16) hx hb dX2_tau_72 (by decide) ?_
  refine lv_ishl hx hb dX2_tau_74 ?_
  refine lv_ior hx hb dX2_tau_75 ?_
  refine lv_iload hx hb dX2_tau_76 (lv_at hl 1 rfl) ?_
  refine lv_bipush (v := 8) hx hb dX2_tau_78 (by decide) ?_
  refine lv_ishl hx hb dX2_tau_80 ?_
  refine lv_ior hx hb dX2_tau_81 ?_
  refine lv_iload hx hb dX2_tau_82 (lv_at hl 0 rfl) ?_
  refine lv_ior hx hb dX2_tau_84 ?_
  exact W.iret (v := (((((sm_sx ((x >>> ((24 : Int32) &&& 31)) &&& (255 : Int32))) &&& (255 : Int32)) <<< ((24 : Int32) &&& 31)) ||| (((sm_sx ((x >>> ((16 : Int32) &&& 31)) &&& (255 : Int32))) &&& (255 : Int32)) <<< ((16 : Int32) &&& 31))) ||| (((sm_sx ((x >>> ((8 : Int32) &&& 31)) &&& (255 : Int32))) &&& (255 : Int32)) <<< ((8 : Int32) &&& 31))) ||| ((sm_sx (x &&& (255 : Int32))) &&& (255 : Int32))) hx hb hr (fun t ht hW => ⟨_, rfl, rfl, ht⟩) (fun _ h => by cases h) dX2_tau_85
set_option maxHeartbeats 4000000 in
set_option maxRecDepth 100000 in
/-- L' -/
theorem metX2_L_ap (l : Launch) (D : va_G) (cB cI : ClassId) (tS tC tF : Nat) (h0 : Nat) (fs : List Value) (x : Int32) : Met l yX2_L_ap (ws_ yX2_L_ap cX2_L_ap 2 (some .int)) ({ frames := 1, cells := 0, slots := 0, locals := 30 }) (va_Pc [.ref h0, .int x] (sm_RO D cB cI tS tC tF [(h0, .inr (1, fs))])) (vp_Si (fun r => r = sm_Lap x)) 0 0 (fun _ => False) := by
  refine Met.ofW (cc := cX2_L_ap) (maxL := 2) (ret := (some .int)) (by decide) rfl ?_
  intro p e s m args below meth c s₁ B hml hv
  obtain ⟨rfl, hP, hK, hZ⟩ := hv
  have hx := B.exec
  have hb := B.bytes
  have hr := B.returns
  have hts := atoms_spec (ws := ws_ yX2_L_ap cX2_L_ap 2 (some .int)) B.pre
  have hts : ∀ w ∈ lw_all, w.before _ s = true := fun w h => hts w (List.mem_cons_of_mem _ h)
  have hown : s.vm.findClass RX2 = some m.cls := findClass_of_methodNamed B.named
  have hlocks := B.notSynchronized
  have hS : va_S (fun _ => False) s.heap s.heap [] := va_S.rf
  have hl := lv_entry ([.ref h0, .int x]) (n := 2) (Nat.le_of_ble_eq_true rfl)
  rw [lg_entry_eq]
  generalize (lg_sl ([.ref h0, .int x]) ++ List.replicate (2 - (lg_sl ([.ref h0, .int x])).length) Slot.unset).toArray = ls at hl ⊢
  have hl : lv_has ls 2 [(0, .ref h0), (1, .int x)] := hl
  refine lv_iload_n hx hb dX2_L_ap_0 rfl (lv_at hl 1 rfl) ?_
  refine lv_aload_n hx hb dX2_L_ap_1 rfl (lv_at hl 0 rfl) ?_
  refine lv_iload_n hx hb dX2_L_ap_2 rfl (lv_at hl 1 rfl) ?_
  refine lv_bipush (v := 13) hx hb dX2_L_ap_3 (by decide) ?_
  refine vp_callSi (va_runV (As := [.int x, .int (13 : Int32)]) (rest := [.int x]) ⟨hx, hb, hml, hown, hts⟩ (metX2_rotateLeft l D cB cI tS tC tF h0 fs (x) (13)) (cwV 2 hts (lw_V q183 q185 qs6 q15 q186) rfl rfl rfl (by decide +kernel) ⟨Nat.le_of_ble_eq_true rfl, Nat.le_of_ble_eq_true rfl⟩) ⟨sm_RO.blind, va_recv hK hP (ci := 1) (q0 := 0) rfl rfl, fun U hU hW => ⟨rfl, sm_RO.at hU hW (hP.sub (ws' := [(h0, .inr (1, fs))]) [0] rfl) hK hZ hS⟩⟩ rfl rfl hl.1 rfl (lv_room (Nat.le_of_ble_eq_true rfl)) dX2_L_ap_5 ⟨Nat.le_of_ble_eq_true rfl, Nat.le_of_ble_eq_true rfl⟩).run (fun r_1 er_1 => ?_)
  subst er_1
  refine lv_ixor hx hb dX2_L_ap_8 ?_
  refine lv_aload_n hx hb dX2_L_ap_9 rfl (lv_at hl 0 rfl) ?_
  refine lv_iload_n hx hb dX2_L_ap_10 rfl (lv_at hl 1 rfl) ?_
  refine lv_bipush (v := 23) hx hb dX2_L_ap_11 (by decide) ?_
  refine vp_callSi (va_runV (As := [.int x, .int (23 : Int32)]) (rest := [.int (x ^^^ (sm_rot x 13))]) ⟨hx, hb, hml, hown, hts⟩ (metX2_rotateLeft l D cB cI tS tC tF h0 fs (x) (23)) (cwV 2 hts (lw_V q183 q185 qs6 q15 q186) rfl rfl rfl (by decide +kernel) ⟨Nat.le_of_ble_eq_true rfl, Nat.le_of_ble_eq_true rfl⟩) ⟨sm_RO.blind, va_recv hK hP (ci := 1) (q0 := 0) rfl rfl, fun U hU hW => ⟨rfl, sm_RO.at hU hW (hP.sub (ws' := [(h0, .inr (1, fs))]) [0] rfl) hK hZ hS⟩⟩ rfl rfl hl.1 rfl (lv_room (Nat.le_of_ble_eq_true rfl)) dX2_L_ap_13 ⟨Nat.le_of_ble_eq_true rfl, Nat.le_of_ble_eq_true rfl⟩).run (fun r_2 er_2 => ?_)
  subst er_2
  refine lv_ixor hx hb dX2_L_ap_16 ?_
  exact W.iret (v := (x ^^^ (sm_rot x 13)) ^^^ (sm_rot x 23)) hx hb hr (fun t ht hW => ⟨_, rfl, rfl, ht⟩) (fun _ h => by cases h) dX2_L_ap_17
set_option maxHeartbeats 4000000 in
set_option maxRecDepth 100000 in
/-- L -/
theorem metX2_L (l : Launch) (D : va_G) (cB cI : ClassId) (tS tC tF : Nat) (h0 : Nat) (fs : List Value) (x : Int32) : Met l yX2_L (ws_ yX2_L cX2_L 3 (some .int)) ({ frames := 1, cells := 0, slots := 0, locals := 30 }) (va_Pc [.ref h0, .int x] (sm_RO D cB cI tS tC tF [(h0, .inr (1, fs))])) (vp_Si (fun r => r = sm_L x)) 0 0 (fun _ => False) := by
  refine Met.ofW (cc := cX2_L) (maxL := 3) (ret := (some .int)) (by decide) rfl ?_
  intro p e s m args below meth c s₁ B hml hv
  obtain ⟨rfl, hP, hK, hZ⟩ := hv
  have hx := B.exec
  have hb := B.bytes
  have hr := B.returns
  have hts := atoms_spec (ws := ws_ yX2_L cX2_L 3 (some .int)) B.pre
  have hts : ∀ w ∈ lw_all, w.before _ s = true := fun w h => hts w (List.mem_cons_of_mem _ h)
  have hown : s.vm.findClass RX2 = some m.cls := findClass_of_methodNamed B.named
  have hlocks := B.notSynchronized
  have hS : va_S (fun _ => False) s.heap s.heap [] := va_S.rf
  have hl := lv_entry ([.ref h0, .int x]) (n := 3) (Nat.le_of_ble_eq_true rfl)
  rw [lg_entry_eq]
  generalize (lg_sl ([.ref h0, .int x]) ++ List.replicate (3 - (lg_sl ([.ref h0, .int x])).length) Slot.unset).toArray = ls at hl ⊢
  have hl : lv_has ls 3 [(0, .ref h0), (1, .int x)] := hl
  refine lv_iload_n hx hb dX2_L_0 rfl (lv_at hl 1 rfl) ?_
  refine lv_aload_n hx hb dX2_L_1 rfl (lv_at hl 0 rfl) ?_
  refine lv_iload_n hx hb dX2_L_2 rfl (lv_at hl 1 rfl) ?_
  refine lv_iconst (v := 2) hx hb dX2_L_3 (by decide) ?_
  refine vp_callSi (va_runV (As := [.int x, .int (2 : Int32)]) (rest := [.int x]) ⟨hx, hb, hml, hown, hts⟩ (metX2_rotateLeft l D cB cI tS tC tF h0 fs (x) (2)) (cwV 2 hts (lw_V q183 q185 qs6 q15 q186) rfl rfl rfl (by decide +kernel) ⟨Nat.le_of_ble_eq_true rfl, Nat.le_of_ble_eq_true rfl⟩) ⟨sm_RO.blind, va_recv hK hP (ci := 1) (q0 := 0) rfl rfl, fun U hU hW => ⟨rfl, sm_RO.at hU hW (hP.sub (ws' := [(h0, .inr (1, fs))]) [0] rfl) hK hZ hS⟩⟩ rfl rfl hl.1 rfl (lv_room (Nat.le_of_ble_eq_true rfl)) dX2_L_4 ⟨Nat.le_of_ble_eq_true rfl, Nat.le_of_ble_eq_true rfl⟩).run (fun r_1 er_1 => ?_)
  subst er_1
  refine lv_ixor hx hb dX2_L_7 ?_
  refine lv_aload_n hx hb dX2_L_8 rfl (lv_at hl 0 rfl) ?_
  refine lv_iload_n hx hb dX2_L_9 rfl (lv_at hl 1 rfl) ?_
  refine lv_bipush (v := 10) hx hb dX2_L_10 (by decide) ?_
  refine vp_callSi (va_runV (As := [.int x, .int (10 : Int32)]) (rest := [.int (x ^^^ (sm_rot x 2))]) ⟨hx, hb, hml, hown, hts⟩ (metX2_rotateLeft l D cB cI tS tC tF h0 fs (x) (10)) (cwV 2 hts (lw_V q183 q185 qs6 q15 q186) rfl rfl rfl (by decide +kernel) ⟨Nat.le_of_ble_eq_true rfl, Nat.le_of_ble_eq_true rfl⟩) ⟨sm_RO.blind, va_recv hK hP (ci := 1) (q0 := 0) rfl rfl, fun U hU hW => ⟨rfl, sm_RO.at hU hW (hP.sub (ws' := [(h0, .inr (1, fs))]) [0] rfl) hK hZ hS⟩⟩ rfl rfl hl.1 rfl (lv_room (Nat.le_of_ble_eq_true rfl)) dX2_L_12 ⟨Nat.le_of_ble_eq_true rfl, Nat.le_of_ble_eq_true rfl⟩).run (fun r_2 er_2 => ?_)
  subst er_2
  refine lv_ixor hx hb dX2_L_15 ?_
  refine lv_aload_n hx hb dX2_L_16 rfl (lv_at hl 0 rfl) ?_
  refine lv_iload_n hx hb dX2_L_17 rfl (lv_at hl 1 rfl) ?_
  refine lv_bipush (v := 18) hx hb dX2_L_18 (by decide) ?_
  refine vp_callSi (va_runV (As := [.int x, .int (18 : Int32)]) (rest := [.int ((x ^^^ (sm_rot x 2)) ^^^ (sm_rot x 10))]) ⟨hx, hb, hml, hown, hts⟩ (metX2_rotateLeft l D cB cI tS tC tF h0 fs (x) (18)) (cwV 2 hts (lw_V q183 q185 qs6 q15 q186) rfl rfl rfl (by decide +kernel) ⟨Nat.le_of_ble_eq_true rfl, Nat.le_of_ble_eq_true rfl⟩) ⟨sm_RO.blind, va_recv hK hP (ci := 1) (q0 := 0) rfl rfl, fun U hU hW => ⟨rfl, sm_RO.at hU hW (hP.sub (ws' := [(h0, .inr (1, fs))]) [0] rfl) hK hZ hS⟩⟩ rfl rfl hl.1 rfl (lv_room (Nat.le_of_ble_eq_true rfl)) dX2_L_20 ⟨Nat.le_of_ble_eq_true rfl, Nat.le_of_ble_eq_true rfl⟩).run (fun r_3 er_3 => ?_)
  subst er_3
  refine lv_ixor hx hb dX2_L_23 ?_
  refine lv_aload_n hx hb dX2_L_24 rfl (lv_at hl 0 rfl) ?_
  refine lv_iload_n hx hb dX2_L_25 rfl (lv_at hl 1 rfl) ?_
  refine lv_bipush (v := 24) hx hb dX2_L_26 (by decide) ?_
  refine vp_callSi (va_runV (As := [.int x, .int (24 : Int32)]) (rest := [.int (((x ^^^ (sm_rot x 2)) ^^^ (sm_rot x 10)) ^^^ (sm_rot x 18))]) ⟨hx, hb, hml, hown, hts⟩ (metX2_rotateLeft l D cB cI tS tC tF h0 fs (x) (24)) (cwV 2 hts (lw_V q183 q185 qs6 q15 q186) rfl rfl rfl (by decide +kernel) ⟨Nat.le_of_ble_eq_true rfl, Nat.le_of_ble_eq_true rfl⟩) ⟨sm_RO.blind, va_recv hK hP (ci := 1) (q0 := 0) rfl rfl, fun U hU hW => ⟨rfl, sm_RO.at hU hW (hP.sub (ws' := [(h0, .inr (1, fs))]) [0] rfl) hK hZ hS⟩⟩ rfl rfl hl.1 rfl (lv_room (Nat.le_of_ble_eq_true rfl)) dX2_L_28 ⟨Nat.le_of_ble_eq_true rfl, Nat.le_of_ble_eq_true rfl⟩).run (fun r_4 er_4 => ?_)
  subst er_4
  refine lv_ixor hx hb dX2_L_31 ?_
  refine lv_istore_n (lv' := [(2, .int ((((x ^^^ (sm_rot x 2)) ^^^ (sm_rot x 10)) ^^^ (sm_rot x 18)) ^^^ (sm_rot x 24))), (0, .ref h0), (1, .int x)]) hx hb dX2_L_32 rfl hl (by decide) rfl (fun ls hl => ?_)
  refine lv_iload_n hx hb dX2_L_33 rfl (lv_at hl 0 rfl) ?_
  exact W.iret (v := (((x ^^^ (sm_rot x 2)) ^^^ (sm_rot x 10)) ^^^ (sm_rot x 18)) ^^^ (sm_rot x 24)) hx hb hr (fun t ht hW => ⟨_, rfl, rfl, ht⟩) (fun _ h => by cases h) dX2_L_34
set_option maxHeartbeats 4000000 in
set_option maxRecDepth 100000 in
/-- T' -/
theorem metX2_T_ap (l : Launch) (D : va_G) (cB cI : ClassId) (tS tC tF : Nat) (h0 : Nat) (fs : List Value) (x : Int32) : Met l yX2_T_ap (ws_ yX2_T_ap cX2_T_ap 2 (some .int)) ({ frames := 2, cells := 0, slots := 0, locals := 60 }) (va_Pc [.ref h0, .int x] (sm_RO D cB cI tS tC tF [(h0, .inr (1, fs))])) (vp_Si (fun r => r = sm_Tap x)) 0 0 (fun _ => False) := by
  refine Met.ofW (cc := cX2_T_ap) (maxL := 2) (ret := (some .int)) (by decide) rfl ?_
  intro p e s m args below meth c s₁ B hml hv
  obtain ⟨rfl, hP, hK, hZ⟩ := hv
  have hx := B.exec
  have hb := B.bytes
  have hr := B.returns
  have hts := atoms_spec (ws := ws_ yX2_T_ap cX2_T_ap 2 (some .int)) B.pre
  have hts : ∀ w ∈ lw_all, w.before _ s = true := fun w h => hts w (List.mem_cons_of_mem _ h)
  have hown : s.vm.findClass RX2 = some m.cls := findClass_of_methodNamed B.named
  have hlocks := B.notSynchronized
  have hS : va_S (fun _ => False) s.heap s.heap [] := va_S.rf
  have hl := lv_entry ([.ref h0, .int x]) (n := 2) (Nat.le_of_ble_eq_true rfl)
  rw [lg_entry_eq]
  generalize (lg_sl ([.ref h0, .int x]) ++ List.replicate (2 - (lg_sl ([.ref h0, .int x])).length) Slot.unset).toArray = ls at hl ⊢
  have hl : lv_has ls 2 [(0, .ref h0), (1, .int x)] := hl
  refine lv_aload_n hx hb dX2_T_ap_0 rfl (lv_at hl 0 rfl) ?_
  refine lv_aload_n hx hb dX2_T_ap_1 rfl (lv_at hl 0 rfl) ?_
  refine lv_iload_n hx hb dX2_T_ap_2 rfl (lv_at hl 1 rfl) ?_
  refine vp_callSi (va_runV (As := [.int x]) (rest := [.ref h0]) ⟨hx, hb, hml, hown, hts⟩ (metX2_tau l D cB cI tS tC tF h0 fs x) (cwV 1 hts (lw_V q173 q175 qs4 q15 q176) rfl rfl rfl (by decide +kernel) ⟨Nat.le_of_ble_eq_true rfl, Nat.le_of_ble_eq_true rfl⟩) ⟨sm_RO.blind, va_recv hK hP (ci := 1) (q0 := 0) rfl rfl, fun U hU hW => ⟨rfl, sm_RO.at hU hW (hP.sub (ws' := [(h0, .inr (1, fs))]) [0] rfl) hK hZ hS⟩⟩ rfl rfl hl.1 rfl (lv_room (Nat.le_of_ble_eq_true rfl)) dX2_T_ap_3 ⟨Nat.le_of_ble_eq_true rfl, Nat.le_of_ble_eq_true rfl⟩).run (fun r_1 er_1 => ?_)
  subst er_1
  refine vp_callSi (va_runV (As := [.int (sm_tau x)]) (rest := []) ⟨hx, hb, hml, hown, hts⟩ (metX2_L_ap l D cB cI tS tC tF h0 fs (sm_tau x)) (cwV 1 hts (lw_V q179 q181 qs5 q15 q182) rfl rfl rfl (by decide +kernel) ⟨Nat.le_of_ble_eq_true rfl, Nat.le_of_ble_eq_true rfl⟩) ⟨sm_RO.blind, va_recv hK hP (ci := 1) (q0 := 0) rfl rfl, fun U hU hW => ⟨rfl, sm_RO.at hU hW (hP.sub (ws' := [(h0, .inr (1, fs))]) [0] rfl) hK hZ hS⟩⟩ rfl rfl hl.1 rfl (lv_room (Nat.le_of_ble_eq_true rfl)) dX2_T_ap_6 ⟨Nat.le_of_ble_eq_true rfl, Nat.le_of_ble_eq_true rfl⟩).run (fun r_2 er_2 => ?_)
  subst er_2
  exact W.iret (v := sm_Lap (sm_tau x)) hx hb hr (fun t ht hW => ⟨_, rfl, rfl, ht⟩) (fun _ h => by cases h) dX2_T_ap_9
set_option maxHeartbeats 4000000 in
set_option maxRecDepth 100000 in
/-- T -/
theorem metX2_T (l : Launch) (D : va_G) (cB cI : ClassId) (tS tC tF : Nat) (h0 : Nat) (fs : List Value) (x : Int32) : Met l yX2_T (ws_ yX2_T cX2_T 2 (some .int)) ({ frames := 2, cells := 0, slots := 0, locals := 60 }) (va_Pc [.ref h0, .int x] (sm_RO D cB cI tS tC tF [(h0, .inr (1, fs))])) (vp_Si (fun r => r = sm_T x)) 0 0 (fun _ => False) := by
  refine Met.ofW (cc := cX2_T) (maxL := 2) (ret := (some .int)) (by decide) rfl ?_
  intro p e s m args below meth c s₁ B hml hv
  obtain ⟨rfl, hP, hK, hZ⟩ := hv
  have hx := B.exec
  have hb := B.bytes
  have hr := B.returns
  have hts := atoms_spec (ws := ws_ yX2_T cX2_T 2 (some .int)) B.pre
  have hts : ∀ w ∈ lw_all, w.before _ s = true := fun w h => hts w (List.mem_cons_of_mem _ h)
  have hown : s.vm.findClass RX2 = some m.cls := findClass_of_methodNamed B.named
  have hlocks := B.notSynchronized
  have hS : va_S (fun _ => False) s.heap s.heap [] := va_S.rf
  have hl := lv_entry ([.ref h0, .int x]) (n := 2) (Nat.le_of_ble_eq_true rfl)
  rw [lg_entry_eq]
  generalize (lg_sl ([.ref h0, .int x]) ++ List.replicate (2 - (lg_sl ([.ref h0, .int x])).length) Slot.unset).toArray = ls at hl ⊢
  have hl : lv_has ls 2 [(0, .ref h0), (1, .int x)] := hl
  refine lv_aload_n hx hb dX2_T_0 rfl (lv_at hl 0 rfl) ?_
  refine lv_aload_n hx hb dX2_T_1 rfl (lv_at hl 0 rfl) ?_
  refine lv_iload_n hx hb dX2_T_2 rfl (lv_at hl 1 rfl) ?_
  refine vp_callSi (va_runV (As := [.int x]) (rest := [.ref h0]) ⟨hx, hb, hml, hown, hts⟩ (metX2_tau l D cB cI tS tC tF h0 fs x) (cwV 1 hts (lw_V q173 q175 qs4 q15 q176) rfl rfl rfl (by decide +kernel) ⟨Nat.le_of_ble_eq_true rfl, Nat.le_of_ble_eq_true rfl⟩) ⟨sm_RO.blind, va_recv hK hP (ci := 1) (q0 := 0) rfl rfl, fun U hU hW => ⟨rfl, sm_RO.at hU hW (hP.sub (ws' := [(h0, .inr (1, fs))]) [0] rfl) hK hZ hS⟩⟩ rfl rfl hl.1 rfl (lv_room (Nat.le_of_ble_eq_true rfl)) dX2_T_3 ⟨Nat.le_of_ble_eq_true rfl, Nat.le_of_ble_eq_true rfl⟩).run (fun r_1 er_1 => ?_)
  subst er_1
  refine vp_callSi (va_runV (As := [.int (sm_tau x)]) (rest := []) ⟨hx, hb, hml, hown, hts⟩ (metX2_L l D cB cI tS tC tF h0 fs (sm_tau x)) (cwV 1 hts (lw_V q258 q260 qs9 q15 q261) rfl rfl rfl (by decide +kernel) ⟨Nat.le_of_ble_eq_true rfl, Nat.le_of_ble_eq_true rfl⟩) ⟨sm_RO.blind, va_recv hK hP (ci := 1) (q0 := 0) rfl rfl, fun U hU hW => ⟨rfl, sm_RO.at hU hW (hP.sub (ws' := [(h0, .inr (1, fs))]) [0] rfl) hK hZ hS⟩⟩ rfl rfl hl.1 rfl (lv_room (Nat.le_of_ble_eq_true rfl)) dX2_T_6 ⟨Nat.le_of_ble_eq_true rfl, Nat.le_of_ble_eq_true rfl⟩).run (fun r_2 er_2 => ?_)
  subst er_2
  exact W.iret (v := sm_L (sm_tau x)) hx hb hr (fun t ht hW => ⟨_, rfl, rfl, ht⟩) (fun _ h => by cases h) dX2_T_9
set_option maxHeartbeats 4000000 in
set_option maxRecDepth 100000 in
/-- F0 -/
theorem metX2_F0 (l : Launch) (D : va_G) (cB cI : ClassId) (tS tC tF : Nat) (h0 : Nat) (fs : List Value) (a : Nat) (g : Nat → Int32) (y : Int32) : Met l yX2_F0 (ws_ yX2_F0 cX2_F0 3 (some .int)) ({ frames := 3, cells := 0, slots := 0, locals := 85 }) (va_Pc [.ref h0, .ref a, .int y] (sm_RO D cB cI tS tC tF [(h0, .inr (1, fs)), (a, .inl (cI, 4, .inl g))])) (vp_Si (fun r => r = g 0 ^^^ sm_T (((g 1 ^^^ g 2) ^^^ g 3) ^^^ y))) 0 0 (fun _ => False) := by
  refine Met.ofW (cc := cX2_F0) (maxL := 3) (ret := (some .int)) (by decide) rfl ?_
  intro p e s m args below meth c s₁ B hml hv
  obtain ⟨rfl, hP, hK, hZ⟩ := hv
  have hx := B.exec
  have hb := B.bytes
  have hr := B.returns
  have hts := atoms_spec (ws := ws_ yX2_F0 cX2_F0 3 (some .int)) B.pre
  have hts : ∀ w ∈ lw_all, w.before _ s = true := fun w h => hts w (List.mem_cons_of_mem _ h)
  have hown : s.vm.findClass RX2 = some m.cls := findClass_of_methodNamed B.named
  have hlocks := B.notSynchronized
  have hS : va_S (fun _ => False) s.heap s.heap [] := va_S.rf
  have hl := lv_entry ([.ref h0, .ref a, .int y]) (n := 3) (Nat.le_of_ble_eq_true rfl)
  rw [lg_entry_eq]
  generalize (lg_sl ([.ref h0, .ref a, .int y]) ++ List.replicate (3 - (lg_sl ([.ref h0, .ref a, .int y])).length) Slot.unset).toArray = ls at hl ⊢
  have hl : lv_has ls 3 [(0, .ref h0), (1, .ref a), (2, .int y)] := hl
  refine lv_aload_n hx hb dX2_F0_0 rfl (lv_at hl 1 rfl) ?_
  refine lv_iconst (v := 0) hx hb dX2_F0_1 (by decide) ?_
  refine sm_ldi hx hb hK hP 1 1 rfl rfl (0) rfl (by decide) (by decide) (v := g 0) (rfl) dX2_F0_2 ?_
  refine lv_aload_n hx hb dX2_F0_3 rfl (lv_at hl 0 rfl) ?_
  refine lv_aload_n hx hb dX2_F0_4 rfl (lv_at hl 1 rfl) ?_
  refine lv_iconst (v := 1) hx hb dX2_F0_5 (by decide) ?_
  refine sm_ldi hx hb hK hP 1 1 rfl rfl (1) rfl (by decide) (by decide) (v := g 1) (rfl) dX2_F0_6 ?_
  refine lv_aload_n hx hb dX2_F0_7 rfl (lv_at hl 1 rfl) ?_
  refine lv_iconst (v := 2) hx hb dX2_F0_8 (by decide) ?_
  refine sm_ldi hx hb hK hP 1 1 rfl rfl (2) rfl (by decide) (by decide) (v := g 2) (rfl) dX2_F0_9 ?_
  refine lv_ixor hx hb dX2_F0_10 ?_
  refine lv_aload_n hx hb dX2_F0_11 rfl (lv_at hl 1 rfl) ?_
  refine lv_iconst (v := 3) hx hb dX2_F0_12 (by decide) ?_
  refine sm_ldi hx hb hK hP 1 1 rfl rfl (3) rfl (by decide) (by decide) (v := g 3) (rfl) dX2_F0_13 ?_
  refine lv_ixor hx hb dX2_F0_14 ?_
  refine lv_iload_n hx hb dX2_F0_15 rfl (lv_at hl 2 rfl) ?_
  refine lv_ixor hx hb dX2_F0_16 ?_
  refine vp_callSi (va_runV (As := [.int ((((g 1) ^^^ (g 2)) ^^^ (g 3)) ^^^ y)]) (rest := [.int (g 0)]) ⟨hx, hb, hml, hown, hts⟩ (metX2_T l D cB cI tS tC tF h0 fs ((((g 1) ^^^ (g 2)) ^^^ (g 3)) ^^^ y)) (cwV 1 hts (lw_V q254 q256 qs8 q15 q257) rfl rfl rfl (by decide +kernel) ⟨Nat.le_of_ble_eq_true rfl, Nat.le_of_ble_eq_true rfl⟩) ⟨sm_RO.blind, va_recv hK hP (ci := 1) (q0 := 0) rfl rfl, fun U hU hW => ⟨rfl, sm_RO.at hU hW (hP.sub (ws' := [(h0, .inr (1, fs))]) [0] rfl) hK hZ hS⟩⟩ rfl rfl hl.1 rfl (lv_room (Nat.le_of_ble_eq_true rfl)) dX2_F0_17 ⟨Nat.le_of_ble_eq_true rfl, Nat.le_of_ble_eq_true rfl⟩).run (fun r_1 er_1 => ?_)
  subst er_1
  refine lv_ixor hx hb dX2_F0_20 ?_
  exact W.iret (v := (g 0) ^^^ (sm_T ((((g 1) ^^^ (g 2)) ^^^ (g 3)) ^^^ y))) hx hb hr (fun t ht hW => ⟨_, rfl, rfl, ht⟩) (fun _ h => by cases h) dX2_F0_21
set_option maxHeartbeats 4000000 in
set_option maxRecDepth 100000 in
/-- F1 -/
theorem metX2_F1 (l : Launch) (D : va_G) (cB cI : ClassId) (tS tC tF : Nat) (h0 : Nat) (fs : List Value) (a : Nat) (g : Nat → Int32) (y : Int32) : Met l yX2_F1 (ws_ yX2_F1 cX2_F1 3 (some .int)) ({ frames := 3, cells := 0, slots := 0, locals := 85 }) (va_Pc [.ref h0, .ref a, .int y] (sm_RO D cB cI tS tC tF [(h0, .inr (1, fs)), (a, .inl (cI, 4, .inl g))])) (vp_Si (fun r => r = g 1 ^^^ sm_T (((g 2 ^^^ g 3) ^^^ g 0) ^^^ y))) 0 0 (fun _ => False) := by
  refine Met.ofW (cc := cX2_F1) (maxL := 3) (ret := (some .int)) (by decide) rfl ?_
  intro p e s m args below meth c s₁ B hml hv
  obtain ⟨rfl, hP, hK, hZ⟩ := hv
  have hx := B.exec
  have hb := B.bytes
  have hr := B.returns
  have hts := atoms_spec (ws := ws_ yX2_F1 cX2_F1 3 (some .int)) B.pre
  have hts : ∀ w ∈ lw_all, w.before _ s = true := fun w h => hts w (List.mem_cons_of_mem _ h)
  have hown : s.vm.findClass RX2 = some m.cls := findClass_of_methodNamed B.named
  have hlocks := B.notSynchronized
  have hS : va_S (fun _ => False) s.heap s.heap [] := va_S.rf
  have hl := lv_entry ([.ref h0, .ref a, .int y]) (n := 3) (Nat.le_of_ble_eq_true rfl)
  rw [lg_entry_eq]
  generalize (lg_sl ([.ref h0, .ref a, .int y]) ++ List.replicate (3 - (lg_sl ([.ref h0, .ref a, .int y])).length) Slot.unset).toArray = ls at hl ⊢
  have hl : lv_has ls 3 [(0, .ref h0), (1, .ref a), (2, .int y)] := hl
  refine lv_aload_n hx hb dX2_F1_0 rfl (lv_at hl 1 rfl) ?_
  refine lv_iconst (v := 1) hx hb dX2_F1_1 (by decide) ?_
  refine sm_ldi hx hb hK hP 1 1 rfl rfl (1) rfl (by decide) (by decide) (v := g 1) (rfl) dX2_F1_2 ?_
  refine lv_aload_n hx hb dX2_F1_3 rfl (lv_at hl 0 rfl) ?_
  refine lv_aload_n hx hb dX2_F1_4 rfl (lv_at hl 1 rfl) ?_
  refine lv_iconst (v := 2) hx hb dX2_F1_5 (by decide) ?_
  refine sm_ldi hx hb hK hP 1 1 rfl rfl (2) rfl (by decide) (by decide) (v := g 2) (rfl) dX2_F1_6 ?_
  refine lv_aload_n hx hb dX2_F1_7 rfl (lv_at hl 1 rfl) ?_
  refine lv_iconst (v := 3) hx hb dX2_F1_8 (by decide) ?_
  refine sm_ldi hx hb hK hP 1 1 rfl rfl (3) rfl (by decide) (by decide) (v := g 3) (rfl) dX2_F1_9 ?_
  refine lv_ixor hx hb dX2_F1_10 ?_
  refine lv_aload_n hx hb dX2_F1_11 rfl (lv_at hl 1 rfl) ?_
  refine lv_iconst (v := 0) hx hb dX2_F1_12 (by decide) ?_
  refine sm_ldi hx hb hK hP 1 1 rfl rfl (0) rfl (by decide) (by decide) (v := g 0) (rfl) dX2_F1_13 ?_
  refine lv_ixor hx hb dX2_F1_14 ?_
  refine lv_iload_n hx hb dX2_F1_15 rfl (lv_at hl 2 rfl) ?_
  refine lv_ixor hx hb dX2_F1_16 ?_
  refine vp_callSi (va_runV (As := [.int ((((g 2) ^^^ (g 3)) ^^^ (g 0)) ^^^ y)]) (rest := [.int (g 1)]) ⟨hx, hb, hml, hown, hts⟩ (metX2_T l D cB cI tS tC tF h0 fs ((((g 2) ^^^ (g 3)) ^^^ (g 0)) ^^^ y)) (cwV 1 hts (lw_V q254 q256 qs8 q15 q257) rfl rfl rfl (by decide +kernel) ⟨Nat.le_of_ble_eq_true rfl, Nat.le_of_ble_eq_true rfl⟩) ⟨sm_RO.blind, va_recv hK hP (ci := 1) (q0 := 0) rfl rfl, fun U hU hW => ⟨rfl, sm_RO.at hU hW (hP.sub (ws' := [(h0, .inr (1, fs))]) [0] rfl) hK hZ hS⟩⟩ rfl rfl hl.1 rfl (lv_room (Nat.le_of_ble_eq_true rfl)) dX2_F1_17 ⟨Nat.le_of_ble_eq_true rfl, Nat.le_of_ble_eq_true rfl⟩).run (fun r_1 er_1 => ?_)
  subst er_1
  refine lv_ixor hx hb dX2_F1_20 ?_
  exact W.iret (v := (g 1) ^^^ (sm_T ((((g 2) ^^^ (g 3)) ^^^ (g 0)) ^^^ y))) hx hb hr (fun t ht hW => ⟨_, rfl, rfl, ht⟩) (fun _ h => by cases h) dX2_F1_21
set_option maxHeartbeats 4000000 in
set_option maxRecDepth 100000 in
/-- F2 -/
theorem metX2_F2 (l : Launch) (D : va_G) (cB cI : ClassId) (tS tC tF : Nat) (h0 : Nat) (fs : List Value) (a : Nat) (g : Nat → Int32) (y : Int32) : Met l yX2_F2 (ws_ yX2_F2 cX2_F2 3 (some .int)) ({ frames := 3, cells := 0, slots := 0, locals := 85 }) (va_Pc [.ref h0, .ref a, .int y] (sm_RO D cB cI tS tC tF [(h0, .inr (1, fs)), (a, .inl (cI, 4, .inl g))])) (vp_Si (fun r => r = g 2 ^^^ sm_T (((g 3 ^^^ g 0) ^^^ g 1) ^^^ y))) 0 0 (fun _ => False) := by
  refine Met.ofW (cc := cX2_F2) (maxL := 3) (ret := (some .int)) (by decide) rfl ?_
  intro p e s m args below meth c s₁ B hml hv
  obtain ⟨rfl, hP, hK, hZ⟩ := hv
  have hx := B.exec
  have hb := B.bytes
  have hr := B.returns
  have hts := atoms_spec (ws := ws_ yX2_F2 cX2_F2 3 (some .int)) B.pre
  have hts : ∀ w ∈ lw_all, w.before _ s = true := fun w h => hts w (List.mem_cons_of_mem _ h)
  have hown : s.vm.findClass RX2 = some m.cls := findClass_of_methodNamed B.named
  have hlocks := B.notSynchronized
  have hS : va_S (fun _ => False) s.heap s.heap [] := va_S.rf
  have hl := lv_entry ([.ref h0, .ref a, .int y]) (n := 3) (Nat.le_of_ble_eq_true rfl)
  rw [lg_entry_eq]
  generalize (lg_sl ([.ref h0, .ref a, .int y]) ++ List.replicate (3 - (lg_sl ([.ref h0, .ref a, .int y])).length) Slot.unset).toArray = ls at hl ⊢
  have hl : lv_has ls 3 [(0, .ref h0), (1, .ref a), (2, .int y)] := hl
  refine lv_aload_n hx hb dX2_F2_0 rfl (lv_at hl 1 rfl) ?_
  refine lv_iconst (v := 2) hx hb dX2_F2_1 (by decide) ?_
  refine sm_ldi hx hb hK hP 1 1 rfl rfl (2) rfl (by decide) (by decide) (v := g 2) (rfl) dX2_F2_2 ?_
  refine lv_aload_n hx hb dX2_F2_3 rfl (lv_at hl 0 rfl) ?_
  refine lv_aload_n hx hb dX2_F2_4 rfl (lv_at hl 1 rfl) ?_
  refine lv_iconst (v := 3) hx hb dX2_F2_5 (by decide) ?_
  refine sm_ldi hx hb hK hP 1 1 rfl rfl (3) rfl (by decide) (by decide) (v := g 3) (rfl) dX2_F2_6 ?_
  refine lv_aload_n hx hb dX2_F2_7 rfl (lv_at hl 1 rfl) ?_
  refine lv_iconst (v := 0) hx hb dX2_F2_8 (by decide) ?_
  refine sm_ldi hx hb hK hP 1 1 rfl rfl (0) rfl (by decide) (by decide) (v := g 0) (rfl) dX2_F2_9 ?_
  refine lv_ixor hx hb dX2_F2_10 ?_
  refine lv_aload_n hx hb dX2_F2_11 rfl (lv_at hl 1 rfl) ?_
  refine lv_iconst (v := 1) hx hb dX2_F2_12 (by decide) ?_
  refine sm_ldi hx hb hK hP 1 1 rfl rfl (1) rfl (by decide) (by decide) (v := g 1) (rfl) dX2_F2_13 ?_
  refine lv_ixor hx hb dX2_F2_14 ?_
  refine lv_iload_n hx hb dX2_F2_15 rfl (lv_at hl 2 rfl) ?_
  refine lv_ixor hx hb dX2_F2_16 ?_
  refine vp_callSi (va_runV (As := [.int ((((g 3) ^^^ (g 0)) ^^^ (g 1)) ^^^ y)]) (rest := [.int (g 2)]) ⟨hx, hb, hml, hown, hts⟩ (metX2_T l D cB cI tS tC tF h0 fs ((((g 3) ^^^ (g 0)) ^^^ (g 1)) ^^^ y)) (cwV 1 hts (lw_V q254 q256 qs8 q15 q257) rfl rfl rfl (by decide +kernel) ⟨Nat.le_of_ble_eq_true rfl, Nat.le_of_ble_eq_true rfl⟩) ⟨sm_RO.blind, va_recv hK hP (ci := 1) (q0 := 0) rfl rfl, fun U hU hW => ⟨rfl, sm_RO.at hU hW (hP.sub (ws' := [(h0, .inr (1, fs))]) [0] rfl) hK hZ hS⟩⟩ rfl rfl hl.1 rfl (lv_room (Nat.le_of_ble_eq_true rfl)) dX2_F2_17 ⟨Nat.le_of_ble_eq_true rfl, Nat.le_of_ble_eq_true rfl⟩).run (fun r_1 er_1 => ?_)
  subst er_1
  refine lv_ixor hx hb dX2_F2_20 ?_
  exact W.iret (v := (g 2) ^^^ (sm_T ((((g 3) ^^^ (g 0)) ^^^ (g 1)) ^^^ y))) hx hb hr (fun t ht hW => ⟨_, rfl, rfl, ht⟩) (fun _ h => by cases h) dX2_F2_21
set_option maxHeartbeats 4000000 in
set_option maxRecDepth 100000 in
/-- F3 -/
theorem metX2_F3 (l : Launch) (D : va_G) (cB cI : ClassId) (tS tC tF : Nat) (h0 : Nat) (fs : List Value) (a : Nat) (g : Nat → Int32) (y : Int32) : Met l yX2_F3 (ws_ yX2_F3 cX2_F3 3 (some .int)) ({ frames := 3, cells := 0, slots := 0, locals := 85 }) (va_Pc [.ref h0, .ref a, .int y] (sm_RO D cB cI tS tC tF [(h0, .inr (1, fs)), (a, .inl (cI, 4, .inl g))])) (vp_Si (fun r => r = g 3 ^^^ sm_T (((g 0 ^^^ g 1) ^^^ g 2) ^^^ y))) 0 0 (fun _ => False) := by
  refine Met.ofW (cc := cX2_F3) (maxL := 3) (ret := (some .int)) (by decide) rfl ?_
  intro p e s m args below meth c s₁ B hml hv
  obtain ⟨rfl, hP, hK, hZ⟩ := hv
  have hx := B.exec
  have hb := B.bytes
  have hr := B.returns
  have hts := atoms_spec (ws := ws_ yX2_F3 cX2_F3 3 (some .int)) B.pre
  have hts : ∀ w ∈ lw_all, w.before _ s = true := fun w h => hts w (List.mem_cons_of_mem _ h)
  have hown : s.vm.findClass RX2 = some m.cls := findClass_of_methodNamed B.named
  have hlocks := B.notSynchronized
  have hS : va_S (fun _ => False) s.heap s.heap [] := va_S.rf
  have hl := lv_entry ([.ref h0, .ref a, .int y]) (n := 3) (Nat.le_of_ble_eq_true rfl)
  rw [lg_entry_eq]
  generalize (lg_sl ([.ref h0, .ref a, .int y]) ++ List.replicate (3 - (lg_sl ([.ref h0, .ref a, .int y])).length) Slot.unset).toArray = ls at hl ⊢
  have hl : lv_has ls 3 [(0, .ref h0), (1, .ref a), (2, .int y)] := hl
  refine lv_aload_n hx hb dX2_F3_0 rfl (lv_at hl 1 rfl) ?_
  refine lv_iconst (v := 3) hx hb dX2_F3_1 (by decide) ?_
  refine sm_ldi hx hb hK hP 1 1 rfl rfl (3) rfl (by decide) (by decide) (v := g 3) (rfl) dX2_F3_2 ?_
  refine lv_aload_n hx hb dX2_F3_3 rfl (lv_at hl 0 rfl) ?_
  refine lv_aload_n hx hb dX2_F3_4 rfl (lv_at hl 1 rfl) ?_
  refine lv_iconst (v := 0) hx hb dX2_F3_5 (by decide) ?_
  refine sm_ldi hx hb hK hP 1 1 rfl rfl (0) rfl (by decide) (by decide) (v := g 0) (rfl) dX2_F3_6 ?_
  refine lv_aload_n hx hb dX2_F3_7 rfl (lv_at hl 1 rfl) ?_
  refine lv_iconst (v := 1) hx hb dX2_F3_8 (by decide) ?_
  refine sm_ldi hx hb hK hP 1 1 rfl rfl (1) rfl (by decide) (by decide) (v := g 1) (rfl) dX2_F3_9 ?_
  refine lv_ixor hx hb dX2_F3_10 ?_
  refine lv_aload_n hx hb dX2_F3_11 rfl (lv_at hl 1 rfl) ?_
  refine lv_iconst (v := 2) hx hb dX2_F3_12 (by decide) ?_
  refine sm_ldi hx hb hK hP 1 1 rfl rfl (2) rfl (by decide) (by decide) (v := g 2) (rfl) dX2_F3_13 ?_
  refine lv_ixor hx hb dX2_F3_14 ?_
  refine lv_iload_n hx hb dX2_F3_15 rfl (lv_at hl 2 rfl) ?_
  refine lv_ixor hx hb dX2_F3_16 ?_
  refine vp_callSi (va_runV (As := [.int ((((g 0) ^^^ (g 1)) ^^^ (g 2)) ^^^ y)]) (rest := [.int (g 3)]) ⟨hx, hb, hml, hown, hts⟩ (metX2_T l D cB cI tS tC tF h0 fs ((((g 0) ^^^ (g 1)) ^^^ (g 2)) ^^^ y)) (cwV 1 hts (lw_V q254 q256 qs8 q15 q257) rfl rfl rfl (by decide +kernel) ⟨Nat.le_of_ble_eq_true rfl, Nat.le_of_ble_eq_true rfl⟩) ⟨sm_RO.blind, va_recv hK hP (ci := 1) (q0 := 0) rfl rfl, fun U hU hW => ⟨rfl, sm_RO.at hU hW (hP.sub (ws' := [(h0, .inr (1, fs))]) [0] rfl) hK hZ hS⟩⟩ rfl rfl hl.1 rfl (lv_room (Nat.le_of_ble_eq_true rfl)) dX2_F3_17 ⟨Nat.le_of_ble_eq_true rfl, Nat.le_of_ble_eq_true rfl⟩).run (fun r_1 er_1 => ?_)
  subst er_1
  refine lv_ixor hx hb dX2_F3_20 ?_
  exact W.iret (v := (g 3) ^^^ (sm_T ((((g 0) ^^^ (g 1)) ^^^ (g 2)) ^^^ y))) hx hb hr (fun t ht hW => ⟨_, rfl, rfl, ht⟩) (fun _ h => by cases h) dX2_F3_21
set_option maxHeartbeats 4000000 in
set_option maxRecDepth 100000 in
/-- getKey() -/
theorem metX3_getKey (l : Launch) (D : va_G) (cB cI : ClassId) (tS tC tF : Nat) (h0 k : Nat) : Met l yX3_getKey (ws_ yX3_getKey cX3_getKey 1 (some (.array .byte))) ({ frames := 0, cells := 0, slots := 0, locals := 0 }) (va_Pc [.ref h0] (sm_RO D cB cI tS tC tF [(h0, .inr (2, [.ref k]))])) (sm_Sr (fun r => r = k)) 0 0 (fun _ => False) := by
  refine Met.ofW (cc := cX3_getKey) (maxL := 1) (ret := (some (.array .byte))) (by decide) rfl ?_
  intro p e s m args below meth c s₁ B hml hv
  obtain ⟨rfl, hP, hK, hZ⟩ := hv
  have hx := B.exec
  have hb := B.bytes
  have hr := B.returns
  have hts := atoms_spec (ws := ws_ yX3_getKey cX3_getKey 1 (some (.array .byte))) B.pre
  have hts : ∀ w ∈ lw_all, w.before _ s = true := fun w h => hts w (List.mem_cons_of_mem _ h)
  have hown : s.vm.findClass RX3 = some m.cls := findClass_of_methodNamed B.named
  have hlocks := B.notSynchronized
  have hS : va_S (fun _ => False) s.heap s.heap [] := va_S.rf
  have hl := lv_entry ([.ref h0]) (n := 1) (Nat.le_of_ble_eq_true rfl)
  rw [lg_entry_eq]
  generalize (lg_sl ([.ref h0]) ++ List.replicate (1 - (lg_sl ([.ref h0])).length) Slot.unset).toArray = ls at hl ⊢
  have hl : lv_has ls 1 [(0, .ref h0)] := hl
  refine lv_aload_n hx hb dX3_getKey_0 rfl (lv_at hl 0 rfl) ?_
  refine va_get (D := D) (ci := 2) (v := .ref k) (C := RX3) (T := TX3) (N := 1) hx hb hts in_X3 hown hK hP 0 rfl rfl 0 (by decide) (hts _ q68) (fun _ h9 => h9) rfl dX3_getKey_1 ?_
  exact W.aret (v := .ref k) hx hb hr (Or.inr ⟨_, rfl⟩) (Or.inr ⟨_, rfl⟩) (fun t ht hW => ⟨_, rfl, rfl, ht⟩) (fun _ h => by cases h) dX3_getKey_4
set_option maxHeartbeats 4000000 in
set_option maxRecDepth 100000 in
/-- size(kind) -/
theorem metX1_size (l : Launch) (D : va_G) (cB cI : ClassId) (tS tC tF : Nat) (x : Int32) : Met l yX1_size (ws_ yX1_size cX1_size 1 (some .int)) ({ frames := 0, cells := 0, slots := 0, locals := 0 }) (va_Pc [.int x] (sm_RO D cB cI tS tC tF [])) (vp_Si (fun r => r = 16)) 0 0 (fun _ => False) := by
  refine Met.ofW (cc := cX1_size) (maxL := 1) (ret := (some .int)) (by decide) rfl ?_
  intro p e s m args below meth c s₁ B hml hv
  obtain ⟨rfl, hP, hK, hZ⟩ := hv
  have hx := B.exec
  have hb := B.bytes
  have hr := B.returns
  have hts := atoms_spec (ws := ws_ yX1_size cX1_size 1 (some .int)) B.pre
  have hts : ∀ w ∈ lw_all, w.before _ s = true := fun w h => hts w (List.mem_cons_of_mem _ h)
  have hown : s.vm.findClass RX1 = some m.cls := findClass_of_methodNamed B.named
  have hlocks := B.notSynchronized
  have hS : va_S (fun _ => False) s.heap s.heap [] := va_S.rf
  have hl := lv_entry ([.int x]) (n := 1) (Nat.le_of_ble_eq_true rfl)
  rw [lg_entry_eq]
  generalize (lg_sl ([.int x]) ++ List.replicate (1 - (lg_sl ([.int x])).length) Slot.unset).toArray = ls at hl ⊢
  have hl : lv_has ls 1 [(0, .int x)] := hl
  refine lv_bipush (v := 16) hx hb dX1_size_0 (by decide) ?_
  exact W.iret (v := (16 : Int32)) hx hb hr (fun t ht hW => ⟨_, rfl, rfl, ht⟩) (fun _ h => by cases h) dX1_size_2
set_option maxHeartbeats 4000000 in
set_option maxRecDepth 100000 in
/-- out(j) -/
theorem metX1_out (l : Launch) (D : va_G) (cB cI : ClassId) (tS tC tF : Nat) (h0 k b o : Nat) (f : Nat → Int32) (j : Nat) (hj : j < 16) : Met l yX1_out (ws_ yX1_out cX1_out 2 (some .int)) ({ frames := 0, cells := 0, slots := 0, locals := 0 }) (va_Pc [.ref h0, .int (nI j)] (sm_RO D cB cI tS tC tF [(h0, .inr (0, [.ref k, .ref b, .ref o])), (o, .inl (cB, 16, .inl f))])) (vp_Si (fun r => r = f j &&& 255)) 0 0 (fun _ => False) := by
  refine Met.ofW (cc := cX1_out) (maxL := 2) (ret := (some .int)) (by decide) rfl ?_
  intro p e s m args below meth c s₁ B hml hv
  obtain ⟨rfl, hP, hK, hZ⟩ := hv
  have hx := B.exec
  have hb := B.bytes
  have hr := B.returns
  have hts := atoms_spec (ws := ws_ yX1_out cX1_out 2 (some .int)) B.pre
  have hts : ∀ w ∈ lw_all, w.before _ s = true := fun w h => hts w (List.mem_cons_of_mem _ h)
  have hown : s.vm.findClass RX1 = some m.cls := findClass_of_methodNamed B.named
  have hlocks := B.notSynchronized
  have hS : va_S (fun _ => False) s.heap s.heap [] := va_S.rf
  have hl := lv_entry ([.ref h0, .int (nI j)]) (n := 2) (Nat.le_of_ble_eq_true rfl)
  rw [lg_entry_eq]
  generalize (lg_sl ([.ref h0, .int (nI j)]) ++ List.replicate (2 - (lg_sl ([.ref h0, .int (nI j)])).length) Slot.unset).toArray = ls at hl ⊢
  have hl : lv_has ls 2 [(0, .ref h0), (1, .int (nI j))] := hl
  refine lv_aload_n hx hb dX1_out_0 rfl (lv_at hl 0 rfl) ?_
  refine va_get (D := D) (ci := 0) (v := .ref o) (C := RX1) (T := TX1) (N := 3) hx hb hts in_X1 hown hK hP 0 rfl rfl 2 (by decide) (hts _ q295) (fun _ h9 => h9) rfl dX1_out_1 ?_
  refine lv_iload_n hx hb dX1_out_4 rfl (lv_at hl 1 rfl) ?_
  refine lv_bipush (v := 15) hx hb dX1_out_5 (by decide) ?_
  refine lv_iand hx hb dX1_out_7 ?_
  refine sm_top (y := nI j) ((pk_andN (n := j) (by omega) (m := 15) 4 (by decide)).trans (congrArg nI (Nat.mod_eq_of_lt hj))) ?_
  refine sm_ldb hx hb hK hP 1 0 rfl rfl (j) rfl hj (by decide) (v := f j) (rfl) dX1_out_8 ?_
  refine lv_sipush (v := 255) hx hb dX1_out_9 (by decide) ?_
  refine lv_iand hx hb dX1_out_12 ?_
  exact W.iret (v := (f j) &&& (255 : Int32)) hx hb hr (fun t ht hW => ⟨_, rfl, rfl, ht⟩) (fun _ h => by cases h) dX1_out_13
end
section
set_option maxHeartbeats 4000000 in
set_option maxRecDepth 100000 in
/-- word(bytes, o, w): the four bytes of w at o -/
theorem metX1_word (l : Launch) (D : va_G) (cB cI : ClassId) (tS tC tF : Nat) (a : Nat) (f : Nat → Int32) (N o : Nat) (w : Int32) (sz : Nat) (hN : N < 2 ^ 20) (ho : o + 3 < N) : Met l yX1_word (ws_ yX1_word cX1_word 3 none) ({ frames := 0, cells := 0, slots := 0, locals := 0 }) (va_Pc [.ref a, .int (nI o), .int w] (sm_WO D cB cI tS tC tF [(a, .inl (cB, N, .inl f))] sz)) (va_Qv (fun u : Nat → Int32 => sm_W u o w ∧ ∀ j, (j < o ∨ o + 3 < j) → u j = f j) (sm_BW D (va_A [(a, .inl (cB, N, .inl f))] sz) (fun u => [(a, .inl (cB, N, .inl u))])) (va_A [(a, .inl (cB, N, .inl f))] sz)) 0 0 (va_A [(a, .inl (cB, N, .inl f))] sz) := by
  refine Met.ofW (cc := cX1_word) (maxL := 3) (ret := none) (by decide) rfl ?_
  intro p e s m args below meth c s₁ B hml hv
  obtain ⟨rfl, hsz, hP, hK, hD0, hZ, hE⟩ := hv
  have hx := B.exec
  have hb := B.bytes
  have hr := B.returns
  have hts := atoms_spec (ws := ws_ yX1_word cX1_word 3 none) B.pre
  have hts : ∀ w ∈ lw_all, w.before _ s = true := fun w h => hts w (List.mem_cons_of_mem _ h)
  have hown : s.vm.findClass RX1 = some m.cls := findClass_of_methodNamed B.named
  have hlocks := B.notSynchronized
  subst hsz
  have hD := hD0.self (sz := s.heap.size)
  generalize hAe : va_A [(a, .inl (cB, N, .inl f))] s.heap.size = A at hD hZ ⊢
  have hA : ∀ q : Nat, s.heap.size ≤ q → A q := fun q h => by rw [← hAe]; exact Or.inr h
  obtain ⟨H, eH⟩ : ∃ H : Heap, H = s.heap := ⟨_, rfl⟩
  rw [← eH] at hP ⊢
  have hS : va_S A s.heap H [] := by rw [eH]; exact va_S.rf
  have hl := lv_entry ([.ref a, .int (nI o), .int w]) (n := 3) (Nat.le_of_ble_eq_true rfl)
  rw [lg_entry_eq]
  generalize (lg_sl ([.ref a, .int (nI o), .int w]) ++ List.replicate (3 - (lg_sl ([.ref a, .int (nI o), .int w])).length) Slot.unset).toArray = ls at hl ⊢
  have hl : lv_has ls 3 [(0, .ref a), (1, .int (nI o)), (2, .int w)] := hl
  refine lv_aload_n hx hb dX1_word_0 rfl (lv_at hl 0 rfl) ?_
  refine lv_iload_n hx hb dX1_word_1 rfl (lv_at hl 1 rfl) ?_
  refine lv_iload_n hx hb dX1_word_2 rfl (lv_at hl 2 rfl) ?_
  refine lv_bipush (v := 24) hx hb dX1_word_3 (by decide) ?_
  refine lv_ishr hx hb dX1_word_5 ?_
  refine lv_i2b hx hb dX1_word_6 rfl ?_
  refine sm_stb (y := sm_ba w 0) hx hb hK hP hD hS 0 0 rfl rfl (o) rfl (by omega) (by omega) (sm_ba_nar w 0) dX1_word_7 (fun g_2 H locs eg_2 hP hD hS => ?_)
  have hP : va_P D sm_cl [(a, .inl (cB, N, .inl g_2))] H := hP
  have hD : va_D A [(a, .inl (cB, N, .inl g_2))] := hD
  refine lv_aload_n hx hb dX1_word_8 rfl (lv_at hl 0 rfl) ?_
  refine lv_iload_n hx hb dX1_word_9 rfl (lv_at hl 1 rfl) ?_
  refine lv_iconst (v := 1) hx hb dX1_word_10 (by decide) ?_
  refine lv_iadd hx hb dX1_word_11 ?_
  refine sm_top (y := nI (o + 1)) (sm_add o 1 rfl rfl) ?_
  refine lv_iload_n hx hb dX1_word_12 rfl (lv_at hl 2 rfl) ?_
  refine lv_bipush (v := 16) hx hb dX1_word_13 (by decide) ?_
  refine lv_ishr hx hb dX1_word_15 ?_
  refine lv_i2b hx hb dX1_word_16 rfl ?_
  refine sm_stb (y := sm_ba w 1) hx hb hK hP hD hS 0 0 rfl rfl (o + 1) rfl (by omega) (by omega) (sm_ba_nar w 1) dX1_word_17 (fun g_4 H locs eg_4 hP hD hS => ?_)
  have hP : va_P D sm_cl [(a, .inl (cB, N, .inl g_4))] H := hP
  have hD : va_D A [(a, .inl (cB, N, .inl g_4))] := hD
  refine lv_aload_n hx hb dX1_word_18 rfl (lv_at hl 0 rfl) ?_
  refine lv_iload_n hx hb dX1_word_19 rfl (lv_at hl 1 rfl) ?_
  refine lv_iconst (v := 2) hx hb dX1_word_20 (by decide) ?_
  refine lv_iadd hx hb dX1_word_21 ?_
  refine sm_top (y := nI (o + 2)) (sm_add o 2 rfl rfl) ?_
  refine lv_iload_n hx hb dX1_word_22 rfl (lv_at hl 2 rfl) ?_
  refine lv_bipush (v := 8) hx hb dX1_word_23 (by decide) ?_
  refine lv_ishr hx hb dX1_word_25 ?_
  refine lv_i2b hx hb dX1_word_26 rfl ?_
  refine sm_stb (y := sm_ba w 2) hx hb hK hP hD hS 0 0 rfl rfl (o + 2) rfl (by omega) (by omega) (sm_ba_nar w 2) dX1_word_27 (fun g_6 H locs eg_6 hP hD hS => ?_)
  have hP : va_P D sm_cl [(a, .inl (cB, N, .inl g_6))] H := hP
  have hD : va_D A [(a, .inl (cB, N, .inl g_6))] := hD
  refine lv_aload_n hx hb dX1_word_28 rfl (lv_at hl 0 rfl) ?_
  refine lv_iload_n hx hb dX1_word_29 rfl (lv_at hl 1 rfl) ?_
  refine lv_iconst (v := 3) hx hb dX1_word_30 (by decide) ?_
  refine lv_iadd hx hb dX1_word_31 ?_
  refine sm_top (y := nI (o + 3)) (sm_add o 3 rfl rfl) ?_
  refine lv_iload_n hx hb dX1_word_32 rfl (lv_at hl 2 rfl) ?_
  refine lv_i2b hx hb dX1_word_33 rfl ?_
  refine sm_stb (y := sm_ba w 3) hx hb hK hP hD hS 0 0 rfl rfl (o + 3) rfl (by omega) (by omega) (sm_ba_nar w 3) dX1_word_34 (fun g_8 H locs eg_8 hP hD hS => ?_)
  have hP : va_P D sm_cl [(a, .inl (cB, N, .inl g_8))] H := hP
  have hD : va_D A [(a, .inl (cB, N, .inl g_8))] := hD
  have hs := sm_put (w := w) eg_2 eg_4 eg_6 eg_8
  have hP : va_P D sm_cl [(a, .inl (cB, N, .inl g_8))] H := hP.sub [0] rfl
  have hD : va_D A [(a, .inl (cB, N, .inl g_8))] := hD.sub [0] (by decide) rfl
  refine W.widen (k := 0) (n := 0) (Nat.le_of_ble_eq_true rfl) (Nat.le_of_ble_eq_true rfl) ?_
  exact W.vret hx hb hr (fun t ht hW => ⟨⟨g_8, rfl, hs, by rw [ht]; exact hP, hD⟩, hS.F ht⟩) hS.2.2 dX1_word_35
set_option maxHeartbeats 4000000 in
set_option maxRecDepth 100000 in
/-- Pack.intToBigEndian(w, bytes, o) -/
theorem metX4_intToBigEndian (l : Launch) (D : va_G) (cB cI : ClassId) (tS tC tF : Nat) (a : Nat) (f : Nat → Int32) (N o : Nat) (w : Int32) (sz : Nat) (hN : N < 2 ^ 20) (ho : o + 3 < N) : Met l yX4_intToBigEndian (ws_ yX4_intToBigEndian cX4_intToBigEndian 3 none) ({ frames := 0, cells := 0, slots := 0, locals := 0 }) (va_Pc [.int w, .ref a, .int (nI o)] (sm_WO D cB cI tS tC tF [(a, .inl (cB, N, .inl f))] sz)) (va_Qv (fun u : Nat → Int32 => sm_W u o w ∧ ∀ j, (j < o ∨ o + 3 < j) → u j = f j) (sm_BW D (va_A [(a, .inl (cB, N, .inl f))] sz) (fun u => [(a, .inl (cB, N, .inl u))])) (va_A [(a, .inl (cB, N, .inl f))] sz)) 0 0 (va_A [(a, .inl (cB, N, .inl f))] sz) := by
  refine Met.ofW (cc := cX4_intToBigEndian) (maxL := 3) (ret := none) (by decide) rfl ?_
  intro p e s m args below meth c s₁ B hml hv
  obtain ⟨rfl, hsz, hP, hK, hD0, hZ, hE⟩ := hv
  have hx := B.exec
  have hb := B.bytes
  have hr := B.returns
  have hts := atoms_spec (ws := ws_ yX4_intToBigEndian cX4_intToBigEndian 3 none) B.pre
  have hts : ∀ w ∈ lw_all, w.before _ s = true := fun w h => hts w (List.mem_cons_of_mem _ h)
  have hown : s.vm.findClass RX4 = some m.cls := findClass_of_methodNamed B.named
  have hlocks := B.notSynchronized
  subst hsz
  have hD := hD0.self (sz := s.heap.size)
  generalize hAe : va_A [(a, .inl (cB, N, .inl f))] s.heap.size = A at hD hZ ⊢
  have hA : ∀ q : Nat, s.heap.size ≤ q → A q := fun q h => by rw [← hAe]; exact Or.inr h
  obtain ⟨H, eH⟩ : ∃ H : Heap, H = s.heap := ⟨_, rfl⟩
  rw [← eH] at hP ⊢
  have hS : va_S A s.heap H [] := by rw [eH]; exact va_S.rf
  have hl := lv_entry ([.int w, .ref a, .int (nI o)]) (n := 3) (Nat.le_of_ble_eq_true rfl)
  rw [lg_entry_eq]
  generalize (lg_sl ([.int w, .ref a, .int (nI o)]) ++ List.replicate (3 - (lg_sl ([.int w, .ref a, .int (nI o)])).length) Slot.unset).toArray = ls at hl ⊢
  have hl : lv_has ls 3 [(0, .int w), (1, .ref a), (2, .int (nI o))] := hl
  refine lv_aload_n hx hb dX4_intToBigEndian_0 rfl (lv_at hl 1 rfl) ?_
  refine lv_iload_n hx hb dX4_intToBigEndian_1 rfl (lv_at hl 2 rfl) ?_
  refine lv_iload_n hx hb dX4_intToBigEndian_2 rfl (lv_at hl 0 rfl) ?_
  refine lv_bipush (v := 24) hx hb dX4_intToBigEndian_3 (by decide) ?_
  refine lv_iushr hx hb dX4_intToBigEndian_5 rfl ?_
  refine lv_i2b hx hb dX4_intToBigEndian_6 rfl ?_
  refine sm_stb (y := sm_ba w 0) hx hb hK hP hD hS 0 0 rfl rfl (o) rfl (by omega) (by omega) ((congrArg (fun z : Int32 => z.toInt8.toInt32) (sm_u0 w)).trans (sm_ba_nar w 0)) dX4_intToBigEndian_7 (fun g_1 H locs eg_1 hP hD hS => ?_)
  have hP : va_P D sm_cl [(a, .inl (cB, N, .inl g_1))] H := hP
  have hD : va_D A [(a, .inl (cB, N, .inl g_1))] := hD
  refine lv_aload_n hx hb dX4_intToBigEndian_8 rfl (lv_at hl 1 rfl) ?_
  refine lv_iinc (v := nI (o + 1)) (lv' := [(2, .int (nI (o + 1))), (0, .int w), (1, .ref a)]) hx hb dX4_intToBigEndian_9 hl (k := 2) rfl (nI_1 (o)) (by decide) rfl (fun ls hl => ?_)
  refine lv_iload_n hx hb dX4_intToBigEndian_12 rfl (lv_at hl 0 rfl) ?_
  refine lv_iload_n hx hb dX4_intToBigEndian_13 rfl (lv_at hl 1 rfl) ?_
  refine lv_bipush (v := 16) hx hb dX4_intToBigEndian_14 (by decide) ?_
  refine lv_iushr hx hb dX4_intToBigEndian_16 rfl ?_
  refine lv_i2b hx hb dX4_intToBigEndian_17 rfl ?_
  refine sm_stb (y := sm_ba w 1) hx hb hK hP hD hS 0 0 rfl rfl (o + 1) rfl (by omega) (by omega) ((congrArg (fun z : Int32 => z.toInt8.toInt32) (sm_u1 w)).trans (sm_ba_nar w 1)) dX4_intToBigEndian_18 (fun g_2 H locs eg_2 hP hD hS => ?_)
  have hP : va_P D sm_cl [(a, .inl (cB, N, .inl g_2))] H := hP
  have hD : va_D A [(a, .inl (cB, N, .inl g_2))] := hD
  refine lv_aload_n hx hb dX4_intToBigEndian_19 rfl (lv_at hl 2 rfl) ?_
  refine lv_iinc (v := nI (o + 2)) (lv' := [(2, .int (nI (o + 2))), (0, .int w), (1, .ref a)]) hx hb dX4_intToBigEndian_20 hl (k := 0) rfl (nI_1 (o + 1)) (by decide) rfl (fun ls hl => ?_)
  refine lv_iload_n hx hb dX4_intToBigEndian_23 rfl (lv_at hl 0 rfl) ?_
  refine lv_iload_n hx hb dX4_intToBigEndian_24 rfl (lv_at hl 1 rfl) ?_
  refine lv_bipush (v := 8) hx hb dX4_intToBigEndian_25 (by decide) ?_
  refine lv_iushr hx hb dX4_intToBigEndian_27 rfl ?_
  refine lv_i2b hx hb dX4_intToBigEndian_28 rfl ?_
  refine sm_stb (y := sm_ba w 2) hx hb hK hP hD hS 0 0 rfl rfl (o + 2) rfl (by omega) (by omega) ((congrArg (fun z : Int32 => z.toInt8.toInt32) (sm_u2 w)).trans (sm_ba_nar w 2)) dX4_intToBigEndian_29 (fun g_3 H locs eg_3 hP hD hS => ?_)
  have hP : va_P D sm_cl [(a, .inl (cB, N, .inl g_3))] H := hP
  have hD : va_D A [(a, .inl (cB, N, .inl g_3))] := hD
  refine lv_aload_n hx hb dX4_intToBigEndian_30 rfl (lv_at hl 2 rfl) ?_
  refine lv_iinc (v := nI (o + 3)) (lv' := [(2, .int (nI (o + 3))), (0, .int w), (1, .ref a)]) hx hb dX4_intToBigEndian_31 hl (k := 0) rfl (nI_1 (o + 2)) (by decide) rfl (fun ls hl => ?_)
  refine lv_iload_n hx hb dX4_intToBigEndian_34 rfl (lv_at hl 0 rfl) ?_
  refine lv_iload_n hx hb dX4_intToBigEndian_35 rfl (lv_at hl 1 rfl) ?_
  refine lv_i2b hx hb dX4_intToBigEndian_36 rfl ?_
  refine sm_stb (y := sm_ba w 3) hx hb hK hP hD hS 0 0 rfl rfl (o + 3) rfl (by omega) (by omega) (sm_ba_nar w 3) dX4_intToBigEndian_37 (fun g_4 H locs eg_4 hP hD hS => ?_)
  have hP : va_P D sm_cl [(a, .inl (cB, N, .inl g_4))] H := hP
  have hD : va_D A [(a, .inl (cB, N, .inl g_4))] := hD
  have hs := sm_put (w := w) eg_1 eg_2 eg_3 eg_4
  have hP : va_P D sm_cl [(a, .inl (cB, N, .inl g_4))] H := hP.sub [0] rfl
  have hD : va_D A [(a, .inl (cB, N, .inl g_4))] := hD.sub [0] (by decide) rfl
  refine W.widen (k := 0) (n := 0) (Nat.le_of_ble_eq_true rfl) (Nat.le_of_ble_eq_true rfl) ?_
  exact W.vret hx hb hr (fun t ht hW => ⟨⟨g_4, rfl, hs, by rw [ht]; exact hP, hD⟩, hS.F ht⟩) hS.2.2 dX4_intToBigEndian_38
set_option maxHeartbeats 4000000 in
set_option maxRecDepth 100000 in
/-- KeyParameter(16) -/
theorem metX3_init_3 (l : Launch) (D : va_G) (cB cI : ClassId) (tS tC tF : Nat) (h0 : Nat) (sz : Nat) : Met l yX3_init_3 (ws_ yX3_init_3 cX3_init_3 2 none) ({ frames := 1, cells := 1, slots := 16, locals := 12 }) (va_Pc [.ref h0, .int (nI 16)] (sm_WO D cB cI tS tC tF [(h0, .inr (2, [.null]))] sz)) (va_Qv (fun u : Nat => True) (sm_BW D (va_A [(h0, .inr (2, [.null]))] sz) (fun u => [(h0, .inr (2, [.ref u])), (u, .inl (cB, 16, .inl (fun _ => 0)))])) (va_A [(h0, .inr (2, [.null]))] sz)) 1 16 (va_A [(h0, .inr (2, [.null]))] sz) := by
  refine Met.ofW (cc := cX3_init_3) (maxL := 2) (ret := none) (by decide) rfl ?_
  intro p e s m args below meth c s₁ B hml hv
  obtain ⟨rfl, hsz, hP, hK, hD0, hZ, hE⟩ := hv
  have hx := B.exec
  have hb := B.bytes
  have hr := B.returns
  have hts := atoms_spec (ws := ws_ yX3_init_3 cX3_init_3 2 none) B.pre
  have hts : ∀ w ∈ lw_all, w.before _ s = true := fun w h => hts w (List.mem_cons_of_mem _ h)
  have hown : s.vm.findClass RX3 = some m.cls := findClass_of_methodNamed B.named
  have hlocks := B.notSynchronized
  have hin : meth.name = "<init>" := (name_of_methodNamed B.named B.method).1
  subst hsz
  have hD := hD0.self (sz := s.heap.size)
  generalize hAe : va_A [(h0, .inr (2, [.null]))] s.heap.size = A at hD hZ ⊢
  have hA : ∀ q : Nat, s.heap.size ≤ q → A q := fun q h => by rw [← hAe]; exact Or.inr h
  obtain ⟨H, eH⟩ : ∃ H : Heap, H = s.heap := ⟨_, rfl⟩
  rw [← eH] at hP ⊢
  have hS : va_S A s.heap H [] := by rw [eH]; exact va_S.rf
  have hl := lv_entry ([.ref h0, .int (nI 16)]) (n := 2) (Nat.le_of_ble_eq_true rfl)
  rw [lg_entry_eq]
  generalize (lg_sl ([.ref h0, .int (nI 16)]) ++ List.replicate (2 - (lg_sl ([.ref h0, .int (nI 16)])).length) Slot.unset).toArray = ls at hl ⊢
  have hl : lv_has ls 2 [(0, .ref h0), (1, .int (nI 16))] := hl
  refine lv_aload_n hx hb dX3_init_3_0 rfl (lv_at hl 0 rfl) ?_
  refine W.objInit hx hb hown (hts _ q67) (hts _ q45) (hts _ q46) rfl (by rw [hml]; exact hl.1) rfl dX3_init_3_1 (Nat.le_of_ble_eq_true rfl) (Nat.le_of_ble_eq_true rfl) ?_
  refine W.eq (g2 := F0 m 4 ls []) rfl ?_
  refine lv_aload_n hx hb dX3_init_3_4 rfl (lv_at hl 0 rfl) ?_
  refine lv_iload_n hx hb dX3_init_3_5 rfl (lv_at hl 1 rfl) ?_
  refine sm_newa (atype := .byte) hx hb (hts _ q54) rfl rfl rfl hK hP hD hS hA 0 (N := 16) rfl rfl (by decide) (by decide) (Nat.le_of_ble_eq_true rfl) (Nat.le_of_ble_eq_true rfl) dX3_init_3_6 (fun a_1 H hP hD hS => ?_)
  have hP : va_P D sm_cl [(h0, .inr (2, [.null])), (a_1, .inl (cB, 16, .inl (fun _ => 0)))] H := hP
  have hD : va_D A [(h0, .inr (2, [.null])), (a_1, .inl (cB, 16, .inl (fun _ => 0)))] := hD
  refine va_put (D := D) (ci := 2) (v := .ref a_1) (ty := .array .byte) (C := RX3) (T := TX3) (N := 1) hx hb hts in_X3 tyX3 tyX3_ok nmX3 hown hK hP hD hS 0 rfl rfl 0 (by decide) (hts _ q68) (fun _ h9 => h9) rfl (by decide +kernel) rfl rfl (Nat.le_of_ble_eq_true rfl) dX3_init_3_8 (fun H locs hP hD hS => ?_)
  have hP : va_P D sm_cl [(h0, .inr (2, [.ref a_1])), (a_1, .inl (cB, 16, .inl (fun _ => 0)))] H := hP
  have hD : va_D A [(h0, .inr (2, [.ref a_1])), (a_1, .inl (cB, 16, .inl (fun _ => 0)))] := hD
  have hP : va_P D sm_cl [(h0, .inr (2, [.ref a_1])), (a_1, .inl (cB, 16, .inl (fun _ => 0)))] H := hP.sub [0, 1] rfl
  have hD : va_D A [(h0, .inr (2, [.ref a_1])), (a_1, .inl (cB, 16, .inl (fun _ => 0)))] := hD.sub [0, 1] (by decide) rfl
  refine W.widen (k := 1) (n := 16) (Nat.le_of_ble_eq_true rfl) (Nat.le_of_ble_eq_true rfl) ?_
  exact W.vret hx hb hr (fun t ht hW => ⟨⟨a_1, rfl, trivial, by rw [ht]; exact hP, hD⟩, hS.F ht⟩) hS.2.2 dX3_init_3_11
set_option maxHeartbeats 4000000 in
set_option maxRecDepth 100000 in
/-- KeyParameter(key, 0, 16): a copy -/
theorem metX3_init_2 (l : Launch) (D : va_G) (cB cI : ClassId) (tS tC tF : Nat) (h0 a : Nat) (f : Nat → Int32) (sz : Nat) (hf : ∀ j, j < 16 → fits .byte (.int (f j)) = true) : Met l yX3_init_2 (ws_ yX3_init_2 cX3_init_2 4 none) ({ frames := 2, cells := 1, slots := 16, locals := 60 }) (va_Pc [.ref h0, .ref a, .int (nI 0), .int (nI 16)] (sm_WO D cB cI tS tC tF [(h0, .inr (2, [.null])), (a, .inl (cB, 16, .inl f))] sz)) (va_Qv (fun u : Nat × (Nat → Int32) => ∀ j, j < 16 → u.2 j = f j) (sm_BW D (va_A [(h0, .inr (2, [.null])), (a, .inl (cB, 16, .inl f))] sz) (fun u => [(h0, .inr (2, [.ref u.1])), (u.1, .inl (cB, 16, .inl u.2)), (a, .inl (cB, 16, .inl f))])) (va_A [(h0, .inr (2, [.null])), (a, .inl (cB, 16, .inl f))] sz)) 1 16 (va_A [(h0, .inr (2, [.null])), (a, .inl (cB, 16, .inl f))] sz) := by
  refine Met.ofW (cc := cX3_init_2) (maxL := 4) (ret := none) (by decide) rfl ?_
  intro p e s m args below meth c s₁ B hml hv
  obtain ⟨rfl, hsz, hP, hK, hD0, hZ, hE⟩ := hv
  have hx := B.exec
  have hb := B.bytes
  have hr := B.returns
  have hts := atoms_spec (ws := ws_ yX3_init_2 cX3_init_2 4 none) B.pre
  have hts : ∀ w ∈ lw_all, w.before _ s = true := fun w h => hts w (List.mem_cons_of_mem _ h)
  have hown : s.vm.findClass RX3 = some m.cls := findClass_of_methodNamed B.named
  have hlocks := B.notSynchronized
  have hin : meth.name = "<init>" := (name_of_methodNamed B.named B.method).1
  subst hsz
  have hD := hD0.self (sz := s.heap.size)
  generalize hAe : va_A [(h0, .inr (2, [.null])), (a, .inl (cB, 16, .inl f))] s.heap.size = A at hD hZ ⊢
  have hA : ∀ q : Nat, s.heap.size ≤ q → A q := fun q h => by rw [← hAe]; exact Or.inr h
  obtain ⟨H, eH⟩ : ∃ H : Heap, H = s.heap := ⟨_, rfl⟩
  rw [← eH] at hP ⊢
  have hS : va_S A s.heap H [] := by rw [eH]; exact va_S.rf
  have hl := lv_entry ([.ref h0, .ref a, .int (nI 0), .int (nI 16)]) (n := 4) (Nat.le_of_ble_eq_true rfl)
  rw [lg_entry_eq]
  generalize (lg_sl ([.ref h0, .ref a, .int (nI 0), .int (nI 16)]) ++ List.replicate (4 - (lg_sl ([.ref h0, .ref a, .int (nI 0), .int (nI 16)])).length) Slot.unset).toArray = ls at hl ⊢
  have hl : lv_has ls 4 [(0, .ref h0), (1, .ref a), (2, .int (nI 0)), (3, .int (nI 16))] := hl
  refine lv_aload_n hx hb dX3_init_2_0 rfl (lv_at hl 0 rfl) ?_
  refine lv_iload_n hx hb dX3_init_2_1 rfl (lv_at hl 3 rfl) ?_
  refine sm_callv (ws := [(h0, .inr (2, [.null])), (a, .inl (cB, 16, .inl f))]) (wc := [(h0, .inr (2, [.null]))]) (wr := [(a, .inl (cB, 16, .inl f))]) (va_runI (As := [.int (nI 16)]) (rest := []) ⟨hx, hb, hml, hown, hts⟩ (metX3_init_3 l D cB cI tS tC tF h0 H.size) (cwI 1 hts (lw_meth q66) rfl rfl rfl (hts _ q16) (hts _ q64) (hts _ q65) rfl (by decide +kernel) ⟨Nat.le_of_ble_eq_true rfl, Nat.le_of_ble_eq_true rfl⟩) ⟨sm_WO.blind, fun U hU hW => ⟨rfl, sm_WO.at hU hW (hP.sub (ws' := [(h0, .inr (2, [.null]))]) [0] rfl) hK (hD.sub (ws' := [(h0, .inr (2, [.null]))]) [0] (by decide) rfl) hZ hS hA hE⟩⟩ rfl rfl hl.1 rfl (lv_room (Nat.le_of_ble_eq_true rfl)) dX3_init_2_2 ⟨Nat.le_of_ble_eq_true rfl, Nat.le_of_ble_eq_true rfl⟩) hP hD hS hA [0] [1] rfl rfl (by decide) (by decide) (fun u_1 H locs eu_1 hP hD hS => ?_)
  have hP : va_P D sm_cl [(a, .inl (cB, 16, .inl f)), (h0, .inr (2, [.ref u_1])), (u_1, .inl (cB, 16, .inl (fun _ => 0)))] H := hP
  have hD : va_D A [(a, .inl (cB, 16, .inl f)), (h0, .inr (2, [.ref u_1])), (u_1, .inl (cB, 16, .inl (fun _ => 0)))] := hD
  refine lv_aload_n hx hb dX3_init_2_5 rfl (lv_at hl 1 rfl) ?_
  refine lv_iload_n hx hb dX3_init_2_6 rfl (lv_at hl 2 rfl) ?_
  refine lv_aload_n hx hb dX3_init_2_7 rfl (lv_at hl 0 rfl) ?_
  refine va_get (D := D) (ci := 2) (v := .ref u_1) (C := RX3) (T := TX3) (N := 1) hx hb hts in_X3 hown hK hP 1 rfl rfl 0 (by decide) (hts _ q68) (fun _ h9 => h9) rfl dX3_init_2_8 ?_
  refine lv_iconst (v := 0) hx hb dX3_init_2_11 (by decide) ?_
  refine lv_iload_n hx hb dX3_init_2_12 rfl (lv_at hl 3 rfl) ?_
  refine va_copyi hx hb (by rw [hml]; exact hl.1.symm) hown (hts _ q72) (hts _ q74) (hts _ q73) (hts _ q17) hK hP hD hS 0 2 0 0 (f := f) (g := fun _ => 0) (ty := .byte) rfl rfl rfl rfl rfl (nI_pos (by decide)) (by decide) (nI_pos (by decide)) (by decide) (by decide) (fun i hi => ?_) (Nat.le_of_ble_eq_true rfl) (Nat.le_of_ble_eq_true rfl) dX3_init_2_13 (fun H locs hP hD hS => ?_)
  · have hi : i < 16 := hi
    have hz : (nI 0).toNatClampNeg + i = i := by rw [nI_clamp (by decide), Nat.zero_add]
    rw [hz]
    exact hf i hi
  have hc : ∀ j, j < 16 → va_cpy f (fun _ => 0) (nI 0).toNatClampNeg (0 : Int32).toNatClampNeg (nI 16).toNatClampNeg j = f j := by
    intro j hj
    exact sb_cpy0 (show j < (nI 16).toNatClampNeg from hj)
  obtain ⟨g, eg⟩ : ∃ g, g = va_cpy f (fun _ => (0 : Int32)) (nI 0).toNatClampNeg (0 : Int32).toNatClampNeg (nI 16).toNatClampNeg := ⟨_, rfl⟩
  rw [← eg] at hc hP hD
  have hP : va_P D sm_cl [(a, .inl (cB, 16, .inl f)), (h0, .inr (2, [.ref u_1])), (u_1, .inl (cB, 16, .inl g))] H := hP
  have hD : va_D A [(a, .inl (cB, 16, .inl f)), (h0, .inr (2, [.ref u_1])), (u_1, .inl (cB, 16, .inl g))] := hD
  have hP : va_P D sm_cl [(h0, .inr (2, [.ref u_1])), (u_1, .inl (cB, 16, .inl g)), (a, .inl (cB, 16, .inl f))] H := hP.sub [1, 2, 0] rfl
  have hD : va_D A [(h0, .inr (2, [.ref u_1])), (u_1, .inl (cB, 16, .inl g)), (a, .inl (cB, 16, .inl f))] := hD.sub [1, 2, 0] (by decide) rfl
  refine W.widen (k := 1) (n := 16) (Nat.le_of_ble_eq_true rfl) (Nat.le_of_ble_eq_true rfl) ?_
  exact W.vret hx hb hr (fun t ht hW => ⟨⟨(u_1, g), rfl, hc, by rw [ht]; exact hP, hD⟩, hS.F ht⟩) hS.2.2 dX3_init_2_16
set_option maxHeartbeats 4000000 in
set_option maxRecDepth 100000 in
/-- KeyParameter(key): a copy -/
theorem metX3_init (l : Launch) (D : va_G) (cB cI : ClassId) (tS tC tF : Nat) (h0 a : Nat) (f : Nat → Int32) (sz : Nat) (hf : ∀ j, j < 16 → fits .byte (.int (f j)) = true) : Met l yX3_init (ws_ yX3_init cX3_init 2 none) ({ frames := 3, cells := 1, slots := 16, locals := 90 }) (va_Pc [.ref h0, .ref a] (sm_WO D cB cI tS tC tF [(h0, .inr (2, [.null])), (a, .inl (cB, 16, .inl f))] sz)) (va_Qv (fun u : Nat × (Nat → Int32) => ∀ j, j < 16 → u.2 j = f j) (sm_BW D (va_A [(h0, .inr (2, [.null])), (a, .inl (cB, 16, .inl f))] sz) (fun u => [(h0, .inr (2, [.ref u.1])), (u.1, .inl (cB, 16, .inl u.2)), (a, .inl (cB, 16, .inl f))])) (va_A [(h0, .inr (2, [.null])), (a, .inl (cB, 16, .inl f))] sz)) 1 16 (va_A [(h0, .inr (2, [.null])), (a, .inl (cB, 16, .inl f))] sz) := by
  refine Met.ofW (cc := cX3_init) (maxL := 2) (ret := none) (by decide) rfl ?_
  intro p e s m args below meth c s₁ B hml hv
  obtain ⟨rfl, hsz, hP, hK, hD0, hZ, hE⟩ := hv
  have hx := B.exec
  have hb := B.bytes
  have hr := B.returns
  have hts := atoms_spec (ws := ws_ yX3_init cX3_init 2 none) B.pre
  have hts : ∀ w ∈ lw_all, w.before _ s = true := fun w h => hts w (List.mem_cons_of_mem _ h)
  have hown : s.vm.findClass RX3 = some m.cls := findClass_of_methodNamed B.named
  have hlocks := B.notSynchronized
  have hin : meth.name = "<init>" := (name_of_methodNamed B.named B.method).1
  subst hsz
  have hD := hD0.self (sz := s.heap.size)
  generalize hAe : va_A [(h0, .inr (2, [.null])), (a, .inl (cB, 16, .inl f))] s.heap.size = A at hD hZ ⊢
  have hA : ∀ q : Nat, s.heap.size ≤ q → A q := fun q h => by rw [← hAe]; exact Or.inr h
  obtain ⟨H, eH⟩ : ∃ H : Heap, H = s.heap := ⟨_, rfl⟩
  rw [← eH] at hP ⊢
  have hS : va_S A s.heap H [] := by rw [eH]; exact va_S.rf
  have hl := lv_entry ([.ref h0, .ref a]) (n := 2) (Nat.le_of_ble_eq_true rfl)
  rw [lg_entry_eq]
  generalize (lg_sl ([.ref h0, .ref a]) ++ List.replicate (2 - (lg_sl ([.ref h0, .ref a])).length) Slot.unset).toArray = ls at hl ⊢
  have hl : lv_has ls 2 [(0, .ref h0), (1, .ref a)] := hl
  refine lv_aload_n hx hb dX3_init_0 rfl (lv_at hl 0 rfl) ?_
  refine lv_aload_n hx hb dX3_init_1 rfl (lv_at hl 1 rfl) ?_
  refine lv_iconst (v := 0) hx hb dX3_init_2 (by decide) ?_
  refine lv_aload_n hx hb dX3_init_3 rfl (lv_at hl 1 rfl) ?_
  refine va_alen (v := nI 16) hx hb hK hP 1 0 rfl rfl rfl dX3_init_4 ?_
  refine sm_callv (ws := [(h0, .inr (2, [.null])), (a, .inl (cB, 16, .inl f))]) (wc := [(h0, .inr (2, [.null])), (a, .inl (cB, 16, .inl f))]) (wr := []) (va_runI (As := [.ref a, .int (0 : Int32), .int (nI 16)]) (rest := []) ⟨hx, hb, hml, hown, hts⟩ (metX3_init_2 l D cB cI tS tC tF h0 a f H.size hf) (cwI 3 hts (lw_meth q63) rfl rfl rfl (hts _ q16) (hts _ q61) (hts _ q62) rfl (by decide +kernel) ⟨Nat.le_of_ble_eq_true rfl, Nat.le_of_ble_eq_true rfl⟩) ⟨sm_WO.blind, fun U hU hW => ⟨rfl, sm_WO.at hU hW (hP.sub (ws' := [(h0, .inr (2, [.null])), (a, .inl (cB, 16, .inl f))]) [0, 1] rfl) hK (hD.sub (ws' := [(h0, .inr (2, [.null])), (a, .inl (cB, 16, .inl f))]) [0, 1] (by decide) rfl) hZ hS hA hE⟩⟩ rfl rfl hl.1 rfl (lv_room (Nat.le_of_ble_eq_true rfl)) dX3_init_5 ⟨Nat.le_of_ble_eq_true rfl, Nat.le_of_ble_eq_true rfl⟩) hP hD hS hA [0, 1] [] rfl rfl (by decide) (by decide) (fun u_1 H locs eu_1 hP hD hS => ?_)
  have hP : va_P D sm_cl [(h0, .inr (2, [.ref u_1.1])), (u_1.1, .inl (cB, 16, .inl u_1.2)), (a, .inl (cB, 16, .inl f))] H := hP
  have hD : va_D A [(h0, .inr (2, [.ref u_1.1])), (u_1.1, .inl (cB, 16, .inl u_1.2)), (a, .inl (cB, 16, .inl f))] := hD
  have hP : va_P D sm_cl [(h0, .inr (2, [.ref u_1.1])), (u_1.1, .inl (cB, 16, .inl u_1.2)), (a, .inl (cB, 16, .inl f))] H := hP.sub [0, 1, 2] rfl
  have hD : va_D A [(h0, .inr (2, [.ref u_1.1])), (u_1.1, .inl (cB, 16, .inl u_1.2)), (a, .inl (cB, 16, .inl f))] := hD.sub [0, 1, 2] (by decide) rfl
  refine W.widen (k := 1) (n := 16) (Nat.le_of_ble_eq_true rfl) (Nat.le_of_ble_eq_true rfl) ?_
  exact W.vret hx hb hr (fun t ht hW => ⟨⟨u_1, rfl, eu_1, by rw [ht]; exact hP, hD⟩, hS.F ht⟩) hS.2.2 dX3_init_8
set_option maxHeartbeats 4000000 in
set_option maxRecDepth 100000 in
/-- SM4Engine() -/
theorem metX2_init (l : Launch) (D : va_G) (cB cI : ClassId) (tS tC tF : Nat) (h0 : Nat) (sz : Nat) : Met l yX2_init (ws_ yX2_init cX2_init 1 none) ({ frames := 1, cells := 1, slots := 4, locals := 12 }) (va_Pc [.ref h0] (sm_WO D cB cI tS tC tF [(h0, .inr (1, [.null, .null]))] sz)) (va_Qv (fun u : Nat => True) (sm_BW D (va_A [(h0, .inr (1, [.null, .null]))] sz) (fun u => [(h0, .inr (1, [.ref u, .null])), (u, .inl (cI, 4, .inl (fun _ => 0)))])) (va_A [(h0, .inr (1, [.null, .null]))] sz)) 1 4 (va_A [(h0, .inr (1, [.null, .null]))] sz) := by
  refine Met.ofW (cc := cX2_init) (maxL := 1) (ret := none) (by decide) rfl ?_
  intro p e s m args below meth c s₁ B hml hv
  obtain ⟨rfl, hsz, hP, hK, hD0, hZ, hE⟩ := hv
  have hx := B.exec
  have hb := B.bytes
  have hr := B.returns
  have hts := atoms_spec (ws := ws_ yX2_init cX2_init 1 none) B.pre
  have hts : ∀ w ∈ lw_all, w.before _ s = true := fun w h => hts w (List.mem_cons_of_mem _ h)
  have hown : s.vm.findClass RX2 = some m.cls := findClass_of_methodNamed B.named
  have hlocks := B.notSynchronized
  have hin : meth.name = "<init>" := (name_of_methodNamed B.named B.method).1
  subst hsz
  have hD := hD0.self (sz := s.heap.size)
  generalize hAe : va_A [(h0, .inr (1, [.null, .null]))] s.heap.size = A at hD hZ ⊢
  have hA : ∀ q : Nat, s.heap.size ≤ q → A q := fun q h => by rw [← hAe]; exact Or.inr h
  obtain ⟨H, eH⟩ : ∃ H : Heap, H = s.heap := ⟨_, rfl⟩
  rw [← eH] at hP ⊢
  have hS : va_S A s.heap H [] := by rw [eH]; exact va_S.rf
  have hl := lv_entry ([.ref h0]) (n := 1) (Nat.le_of_ble_eq_true rfl)
  rw [lg_entry_eq]
  generalize (lg_sl ([.ref h0]) ++ List.replicate (1 - (lg_sl ([.ref h0])).length) Slot.unset).toArray = ls at hl ⊢
  have hl : lv_has ls 1 [(0, .ref h0)] := hl
  refine lv_aload_n hx hb dX2_init_0 rfl (lv_at hl 0 rfl) ?_
  refine W.objInit hx hb hown (hts _ q44) (hts _ q45) (hts _ q46) rfl (by rw [hml]; exact hl.1) rfl dX2_init_1 (Nat.le_of_ble_eq_true rfl) (Nat.le_of_ble_eq_true rfl) ?_
  refine W.eq (g2 := F0 m 4 ls []) rfl ?_
  refine lv_aload_n hx hb dX2_init_4 rfl (lv_at hl 0 rfl) ?_
  refine lv_iconst (v := 4) hx hb dX2_init_5 (by decide) ?_
  refine sm_newa (atype := .int) hx hb (hts _ q55) rfl rfl rfl hK hP hD hS hA 1 (N := 4) rfl rfl (by decide) (by decide) (Nat.le_of_ble_eq_true rfl) (Nat.le_of_ble_eq_true rfl) dX2_init_6 (fun a_1 H hP hD hS => ?_)
  have hP : va_P D sm_cl [(h0, .inr (1, [.null, .null])), (a_1, .inl (cI, 4, .inl (fun _ => 0)))] H := hP
  have hD : va_D A [(h0, .inr (1, [.null, .null])), (a_1, .inl (cI, 4, .inl (fun _ => 0)))] := hD
  refine va_putF (D := D) (ci := 1) (v := .ref a_1) (ty := .array .int) (C := RX2) (T := TX2) (N := 2) hx hb hts in_X2 tyX2 tyX2_ok nmX2 hown hK hP hD hS 0 rfl rfl 0 (by decide) (hts _ q47) (fun _ h9 => h9) rfl hin rfl (by decide +kernel) rfl rfl (Nat.le_of_ble_eq_true rfl) dX2_init_8 (fun H locs hP hD hS => ?_)
  have hP : va_P D sm_cl [(h0, .inr (1, [.ref a_1, .null])), (a_1, .inl (cI, 4, .inl (fun _ => 0)))] H := hP
  have hD : va_D A [(h0, .inr (1, [.ref a_1, .null])), (a_1, .inl (cI, 4, .inl (fun _ => 0)))] := hD
  have hP : va_P D sm_cl [(h0, .inr (1, [.ref a_1, .null])), (a_1, .inl (cI, 4, .inl (fun _ => 0)))] H := hP.sub [0, 1] rfl
  have hD : va_D A [(h0, .inr (1, [.ref a_1, .null])), (a_1, .inl (cI, 4, .inl (fun _ => 0)))] := hD.sub [0, 1] (by decide) rfl
  refine W.widen (k := 1) (n := 4) (Nat.le_of_ble_eq_true rfl) (Nat.le_of_ble_eq_true rfl) ?_
  exact W.vret hx hb hr (fun t ht hW => ⟨⟨a_1, rfl, trivial, by rw [ht]; exact hP, hD⟩, hS.F ht⟩) hS.2.2 dX2_init_11
set_option maxHeartbeats 4000000 in
set_option maxRecDepth 100000 in
/-- SmFourDesk() -/
theorem metX1_init (l : Launch) (D : va_G) (cB cI : ClassId) (tS tC tF : Nat) (h0 : Nat) (sz : Nat) : Met l yX1_init (ws_ yX1_init cX1_init 1 none) ({ frames := 1, cells := 3, slots := 64, locals := 12 }) (va_Pc [.ref h0] (sm_WO D cB cI tS tC tF [(h0, .inr (0, [.null, .null, .null]))] sz)) (va_Qv (fun u : Nat × Nat × Nat => True) (sm_BW D (va_A [(h0, .inr (0, [.null, .null, .null]))] sz) (fun u => [(h0, .inr (0, [.ref u.1, .ref u.2.1, .ref u.2.2])), (u.1, .inl (cB, 32, .inl (fun _ => 0))), (u.2.1, .inl (cB, 16, .inl (fun _ => 0))), (u.2.2, .inl (cB, 16, .inl (fun _ => 0)))])) (va_A [(h0, .inr (0, [.null, .null, .null]))] sz)) 3 64 (va_A [(h0, .inr (0, [.null, .null, .null]))] sz) := by
  refine Met.ofW (cc := cX1_init) (maxL := 1) (ret := none) (by decide) rfl ?_
  intro p e s m args below meth c s₁ B hml hv
  obtain ⟨rfl, hsz, hP, hK, hD0, hZ, hE⟩ := hv
  have hx := B.exec
  have hb := B.bytes
  have hr := B.returns
  have hts := atoms_spec (ws := ws_ yX1_init cX1_init 1 none) B.pre
  have hts : ∀ w ∈ lw_all, w.before _ s = true := fun w h => hts w (List.mem_cons_of_mem _ h)
  have hown : s.vm.findClass RX1 = some m.cls := findClass_of_methodNamed B.named
  have hlocks := B.notSynchronized
  have hin : meth.name = "<init>" := (name_of_methodNamed B.named B.method).1
  subst hsz
  have hD := hD0.self (sz := s.heap.size)
  generalize hAe : va_A [(h0, .inr (0, [.null, .null, .null]))] s.heap.size = A at hD hZ ⊢
  have hA : ∀ q : Nat, s.heap.size ≤ q → A q := fun q h => by rw [← hAe]; exact Or.inr h
  obtain ⟨H, eH⟩ : ∃ H : Heap, H = s.heap := ⟨_, rfl⟩
  rw [← eH] at hP ⊢
  have hS : va_S A s.heap H [] := by rw [eH]; exact va_S.rf
  have hl := lv_entry ([.ref h0]) (n := 1) (Nat.le_of_ble_eq_true rfl)
  rw [lg_entry_eq]
  generalize (lg_sl ([.ref h0]) ++ List.replicate (1 - (lg_sl ([.ref h0])).length) Slot.unset).toArray = ls at hl ⊢
  have hl : lv_has ls 1 [(0, .ref h0)] := hl
  refine lv_aload_n hx hb dX1_init_0 rfl (lv_at hl 0 rfl) ?_
  refine W.objInit hx hb hown (hts _ q292) (hts _ q45) (hts _ q46) rfl (by rw [hml]; exact hl.1) rfl dX1_init_1 (Nat.le_of_ble_eq_true rfl) (Nat.le_of_ble_eq_true rfl) ?_
  refine W.eq (g2 := F0 m 4 ls []) rfl ?_
  refine lv_aload_n hx hb dX1_init_4 rfl (lv_at hl 0 rfl) ?_
  refine lv_bipush (v := 32) hx hb dX1_init_5 (by decide) ?_
  refine sm_newa (atype := .byte) hx hb (hts _ q54) rfl rfl rfl hK hP hD hS hA 0 (N := 32) rfl rfl (by decide) (by decide) (Nat.le_of_ble_eq_true rfl) (Nat.le_of_ble_eq_true rfl) dX1_init_7 (fun a_1 H hP hD hS => ?_)
  have hP : va_P D sm_cl [(h0, .inr (0, [.null, .null, .null])), (a_1, .inl (cB, 32, .inl (fun _ => 0)))] H := hP
  have hD : va_D A [(h0, .inr (0, [.null, .null, .null])), (a_1, .inl (cB, 32, .inl (fun _ => 0)))] := hD
  refine va_putF (D := D) (ci := 0) (v := .ref a_1) (ty := .array .byte) (C := RX1) (T := TX1) (N := 3) hx hb hts in_X1 tyX1 tyX1_ok nmX1 hown hK hP hD hS 0 rfl rfl 0 (by decide) (hts _ q293) (fun _ h9 => h9) rfl hin rfl (by decide +kernel) rfl rfl (Nat.le_of_ble_eq_true rfl) dX1_init_9 (fun H locs hP hD hS => ?_)
  have hP : va_P D sm_cl [(h0, .inr (0, [.ref a_1, .null, .null])), (a_1, .inl (cB, 32, .inl (fun _ => 0)))] H := hP
  have hD : va_D A [(h0, .inr (0, [.ref a_1, .null, .null])), (a_1, .inl (cB, 32, .inl (fun _ => 0)))] := hD
  refine lv_aload_n hx hb dX1_init_12 rfl (lv_at hl 0 rfl) ?_
  refine lv_bipush (v := 16) hx hb dX1_init_13 (by decide) ?_
  refine sm_newa (atype := .byte) hx hb (hts _ q54) rfl rfl rfl hK hP hD hS hA 0 (N := 16) rfl rfl (by decide) (by decide) (Nat.le_of_ble_eq_true rfl) (Nat.le_of_ble_eq_true rfl) dX1_init_15 (fun a_2 H hP hD hS => ?_)
  have hP : va_P D sm_cl [(h0, .inr (0, [.ref a_1, .null, .null])), (a_1, .inl (cB, 32, .inl (fun _ => 0))), (a_2, .inl (cB, 16, .inl (fun _ => 0)))] H := hP
  have hD : va_D A [(h0, .inr (0, [.ref a_1, .null, .null])), (a_1, .inl (cB, 32, .inl (fun _ => 0))), (a_2, .inl (cB, 16, .inl (fun _ => 0)))] := hD
  refine va_putF (D := D) (ci := 0) (v := .ref a_2) (ty := .array .byte) (C := RX1) (T := TX1) (N := 3) hx hb hts in_X1 tyX1 tyX1_ok nmX1 hown hK hP hD hS 0 rfl rfl 1 (by decide) (hts _ q294) (fun _ h9 => h9) rfl hin rfl (by decide +kernel) rfl rfl (Nat.le_of_ble_eq_true rfl) dX1_init_17 (fun H locs hP hD hS => ?_)
  have hP : va_P D sm_cl [(h0, .inr (0, [.ref a_1, .ref a_2, .null])), (a_1, .inl (cB, 32, .inl (fun _ => 0))), (a_2, .inl (cB, 16, .inl (fun _ => 0)))] H := hP
  have hD : va_D A [(h0, .inr (0, [.ref a_1, .ref a_2, .null])), (a_1, .inl (cB, 32, .inl (fun _ => 0))), (a_2, .inl (cB, 16, .inl (fun _ => 0)))] := hD
  refine lv_aload_n hx hb dX1_init_20 rfl (lv_at hl 0 rfl) ?_
  refine lv_bipush (v := 16) hx hb dX1_init_21 (by decide) ?_
  refine sm_newa (atype := .byte) hx hb (hts _ q54) rfl rfl rfl hK hP hD hS hA 0 (N := 16) rfl rfl (by decide) (by decide) (Nat.le_of_ble_eq_true rfl) (Nat.le_of_ble_eq_true rfl) dX1_init_23 (fun a_3 H hP hD hS => ?_)
  have hP : va_P D sm_cl [(h0, .inr (0, [.ref a_1, .ref a_2, .null])), (a_1, .inl (cB, 32, .inl (fun _ => 0))), (a_2, .inl (cB, 16, .inl (fun _ => 0))), (a_3, .inl (cB, 16, .inl (fun _ => 0)))] H := hP
  have hD : va_D A [(h0, .inr (0, [.ref a_1, .ref a_2, .null])), (a_1, .inl (cB, 32, .inl (fun _ => 0))), (a_2, .inl (cB, 16, .inl (fun _ => 0))), (a_3, .inl (cB, 16, .inl (fun _ => 0)))] := hD
  refine va_putF (D := D) (ci := 0) (v := .ref a_3) (ty := .array .byte) (C := RX1) (T := TX1) (N := 3) hx hb hts in_X1 tyX1 tyX1_ok nmX1 hown hK hP hD hS 0 rfl rfl 2 (by decide) (hts _ q295) (fun _ h9 => h9) rfl hin rfl (by decide +kernel) rfl rfl (Nat.le_of_ble_eq_true rfl) dX1_init_25 (fun H locs hP hD hS => ?_)
  have hP : va_P D sm_cl [(h0, .inr (0, [.ref a_1, .ref a_2, .ref a_3])), (a_1, .inl (cB, 32, .inl (fun _ => 0))), (a_2, .inl (cB, 16, .inl (fun _ => 0))), (a_3, .inl (cB, 16, .inl (fun _ => 0)))] H := hP
  have hD : va_D A [(h0, .inr (0, [.ref a_1, .ref a_2, .ref a_3])), (a_1, .inl (cB, 32, .inl (fun _ => 0))), (a_2, .inl (cB, 16, .inl (fun _ => 0))), (a_3, .inl (cB, 16, .inl (fun _ => 0)))] := hD
  have hP : va_P D sm_cl [(h0, .inr (0, [.ref a_1, .ref a_2, .ref a_3])), (a_1, .inl (cB, 32, .inl (fun _ => 0))), (a_2, .inl (cB, 16, .inl (fun _ => 0))), (a_3, .inl (cB, 16, .inl (fun _ => 0)))] H := hP.sub [0, 1, 2, 3] rfl
  have hD : va_D A [(h0, .inr (0, [.ref a_1, .ref a_2, .ref a_3])), (a_1, .inl (cB, 32, .inl (fun _ => 0))), (a_2, .inl (cB, 16, .inl (fun _ => 0))), (a_3, .inl (cB, 16, .inl (fun _ => 0)))] := hD.sub [0, 1, 2, 3] (by decide) rfl
  refine W.widen (k := 3) (n := 64) (Nat.le_of_ble_eq_true rfl) (Nat.le_of_ble_eq_true rfl) ?_
  exact W.vret hx hb hr (fun t ht hW => ⟨⟨(a_1, a_2, a_3), rfl, trivial, by rw [ht]; exact hP, hD⟩, hS.F ht⟩) hS.2.2 dX1_init_28
set_option maxHeartbeats 4000000 in
set_option maxRecDepth 100000 in
/-- key(half, four words) -/
theorem metX1_key (l : Launch) (D : va_G) (cB cI : ClassId) (tS tC tF : Nat) (h0 k b o : Nat) (f : Nat → Int32) (hf : Nat) (x0 x1 x2 x3 : Int32) (sz : Nat) (hh : hf < 2) : Met l yX1_key (ws_ yX1_key cX1_key 7 none) ({ frames := 1, cells := 0, slots := 0, locals := 25 }) (va_Pc [.ref h0, .int (nI hf), .int x0, .int x1, .int x2, .int x3] (sm_WO D cB cI tS tC tF [(h0, .inr (0, [.ref k, .ref b, .ref o])), (k, .inl (cB, 32, .inl f))] sz)) (va_Qv (fun u : Nat → Int32 => (sm_W u (16 * hf) x0 ∧ sm_W u (16 * hf + 4) x1 ∧ sm_W u (16 * hf + 8) x2 ∧ sm_W u (16 * hf + 12) x3) ∧ ∀ j, (j < 16 * hf ∨ 16 * hf + 15 < j) → u j = f j) (sm_BW D (va_A [(h0, .inr (0, [.ref k, .ref b, .ref o])), (k, .inl (cB, 32, .inl f))] sz) (fun u => [(h0, .inr (0, [.ref k, .ref b, .ref o])), (k, .inl (cB, 32, .inl u))])) (va_A [(h0, .inr (0, [.ref k, .ref b, .ref o])), (k, .inl (cB, 32, .inl f))] sz)) 0 0 (va_A [(h0, .inr (0, [.ref k, .ref b, .ref o])), (k, .inl (cB, 32, .inl f))] sz) := by
  refine Met.ofW (cc := cX1_key) (maxL := 7) (ret := none) (by decide) rfl ?_
  intro p e s m args below meth c s₁ B hml hv
  obtain ⟨rfl, hsz, hP, hK, hD0, hZ, hE⟩ := hv
  have hx := B.exec
  have hb := B.bytes
  have hr := B.returns
  have hts := atoms_spec (ws := ws_ yX1_key cX1_key 7 none) B.pre
  have hts : ∀ w ∈ lw_all, w.before _ s = true := fun w h => hts w (List.mem_cons_of_mem _ h)
  have hown : s.vm.findClass RX1 = some m.cls := findClass_of_methodNamed B.named
  have hlocks := B.notSynchronized
  subst hsz
  have hD := hD0.self (sz := s.heap.size)
  generalize hAe : va_A [(h0, .inr (0, [.ref k, .ref b, .ref o])), (k, .inl (cB, 32, .inl f))] s.heap.size = A at hD hZ ⊢
  have hA : ∀ q : Nat, s.heap.size ≤ q → A q := fun q h => by rw [← hAe]; exact Or.inr h
  obtain ⟨H, eH⟩ : ∃ H : Heap, H = s.heap := ⟨_, rfl⟩
  rw [← eH] at hP ⊢
  have hS : va_S A s.heap H [] := by rw [eH]; exact va_S.rf
  have hl := lv_entry ([.ref h0, .int (nI hf), .int x0, .int x1, .int x2, .int x3]) (n := 7) (Nat.le_of_ble_eq_true rfl)
  rw [lg_entry_eq]
  generalize (lg_sl ([.ref h0, .int (nI hf), .int x0, .int x1, .int x2, .int x3]) ++ List.replicate (7 - (lg_sl ([.ref h0, .int (nI hf), .int x0, .int x1, .int x2, .int x3])).length) Slot.unset).toArray = ls at hl ⊢
  have hl : lv_has ls 7 [(0, .ref h0), (1, .int (nI hf)), (2, .int x0), (3, .int x1), (4, .int x2), (5, .int x3)] := hl
  refine lv_iload_n hx hb dX1_key_0 rfl (lv_at hl 1 rfl) ?_
  refine lv_iconst (v := 1) hx hb dX1_key_1 (by decide) ?_
  refine lv_iand hx hb dX1_key_2 ?_
  refine lv_iconst (v := 4) hx hb dX1_key_3 (by decide) ?_
  refine lv_ishl hx hb dX1_key_4 ?_
  refine sm_top (y := nI (16 * hf)) (by rcases (show hf = 0 ∨ hf = 1 by omega) with rfl | rfl <;> decide) ?_
  refine lv_istore (lv' := [(6, .int (nI (16 * hf))), (0, .ref h0), (1, .int (nI hf)), (2, .int x0), (3, .int x1), (4, .int x2), (5, .int x3)]) hx hb dX1_key_5 hl (by decide) rfl (fun ls hl => ?_)
  refine lv_aload_n hx hb dX1_key_7 rfl (lv_at hl 1 rfl) ?_
  refine va_get (D := D) (ci := 0) (v := .ref k) (C := RX1) (T := TX1) (N := 3) hx hb hts in_X1 hown hK hP 0 rfl rfl 0 (by decide) (hts _ q293) (fun _ h9 => h9) rfl dX1_key_8 ?_
  refine lv_iload hx hb dX1_key_11 (lv_at hl 0 rfl) ?_
  refine lv_iload_n hx hb dX1_key_13 rfl (lv_at hl 3 rfl) ?_
  refine sm_callv (ws := [(h0, .inr (0, [.ref k, .ref b, .ref o])), (k, .inl (cB, 32, .inl f))]) (wc := [(k, .inl (cB, 32, .inl f))]) (wr := [(h0, .inr (0, [.ref k, .ref b, .ref o]))]) (va_runS (As := [.ref k, .int (nI (16 * hf)), .int x0]) (rest := []) ⟨hx, hb, hml, hown, hts⟩ (metX1_word l D cB cI tS tC tF k f 32 (16 * hf) x0 H.size (by decide) (by omega)) (va_cwS 3 hts (lw_S q310 q311 q14 q312) rfl rfl rfl (by decide +kernel) ⟨Nat.le_of_ble_eq_true rfl, Nat.le_of_ble_eq_true rfl⟩) ⟨sm_WO.blind, fun U hU hW => ⟨rfl, sm_WO.at hU hW (hP.sub (ws' := [(k, .inl (cB, 32, .inl f))]) [1] rfl) hK (hD.sub (ws' := [(k, .inl (cB, 32, .inl f))]) [1] (by decide) rfl) hZ hS hA hE⟩⟩ rfl rfl hl.1 rfl (lv_room (Nat.le_of_ble_eq_true rfl)) dX1_key_14 ⟨Nat.le_of_ble_eq_true rfl, Nat.le_of_ble_eq_true rfl⟩) hP hD hS hA [1] [0] rfl rfl (by decide) (by decide) (fun u_1 H locs eu_1 hP hD hS => ?_)
  have hP : va_P D sm_cl [(h0, .inr (0, [.ref k, .ref b, .ref o])), (k, .inl (cB, 32, .inl u_1))] H := hP
  have hD : va_D A [(h0, .inr (0, [.ref k, .ref b, .ref o])), (k, .inl (cB, 32, .inl u_1))] := hD
  refine lv_aload_n hx hb dX1_key_17 rfl (lv_at hl 1 rfl) ?_
  refine va_get (D := D) (ci := 0) (v := .ref k) (C := RX1) (T := TX1) (N := 3) hx hb hts in_X1 hown hK hP 0 rfl rfl 0 (by decide) (hts _ q293) (fun _ h9 => h9) rfl dX1_key_18 ?_
  refine lv_iload hx hb dX1_key_21 (lv_at hl 0 rfl) ?_
  refine lv_iconst (v := 4) hx hb dX1_key_23 (by decide) ?_
  refine lv_iadd hx hb dX1_key_24 ?_
  refine sm_top (y := nI (16 * hf + 4)) (sm_add (16 * hf) 4 rfl rfl) ?_
  refine lv_iload_n hx hb dX1_key_25 rfl (lv_at hl 4 rfl) ?_
  refine sm_callv (ws := [(h0, .inr (0, [.ref k, .ref b, .ref o])), (k, .inl (cB, 32, .inl u_1))]) (wc := [(k, .inl (cB, 32, .inl u_1))]) (wr := [(h0, .inr (0, [.ref k, .ref b, .ref o]))]) (va_runS (As := [.ref k, .int (nI (16 * hf + 4)), .int x1]) (rest := []) ⟨hx, hb, hml, hown, hts⟩ (metX1_word l D cB cI tS tC tF k u_1 32 (16 * hf + 4) x1 H.size (by decide) (by omega)) (va_cwS 3 hts (lw_S q310 q311 q14 q312) rfl rfl rfl (by decide +kernel) ⟨Nat.le_of_ble_eq_true rfl, Nat.le_of_ble_eq_true rfl⟩) ⟨sm_WO.blind, fun U hU hW => ⟨rfl, sm_WO.at hU hW (hP.sub (ws' := [(k, .inl (cB, 32, .inl u_1))]) [1] rfl) hK (hD.sub (ws' := [(k, .inl (cB, 32, .inl u_1))]) [1] (by decide) rfl) hZ hS hA hE⟩⟩ rfl rfl hl.1 rfl (lv_room (Nat.le_of_ble_eq_true rfl)) dX1_key_26 ⟨Nat.le_of_ble_eq_true rfl, Nat.le_of_ble_eq_true rfl⟩) hP hD hS hA [1] [0] rfl rfl (by decide) (by decide) (fun u_2 H locs eu_2 hP hD hS => ?_)
  have hP : va_P D sm_cl [(h0, .inr (0, [.ref k, .ref b, .ref o])), (k, .inl (cB, 32, .inl u_2))] H := hP
  have hD : va_D A [(h0, .inr (0, [.ref k, .ref b, .ref o])), (k, .inl (cB, 32, .inl u_2))] := hD
  refine lv_aload_n hx hb dX1_key_29 rfl (lv_at hl 1 rfl) ?_
  refine va_get (D := D) (ci := 0) (v := .ref k) (C := RX1) (T := TX1) (N := 3) hx hb hts in_X1 hown hK hP 0 rfl rfl 0 (by decide) (hts _ q293) (fun _ h9 => h9) rfl dX1_key_30 ?_
  refine lv_iload hx hb dX1_key_33 (lv_at hl 0 rfl) ?_
  refine lv_bipush (v := 8) hx hb dX1_key_35 (by decide) ?_
  refine lv_iadd hx hb dX1_key_37 ?_
  refine sm_top (y := nI (16 * hf + 8)) (sm_add (16 * hf) 8 rfl rfl) ?_
  refine lv_iload hx hb dX1_key_38 (lv_at hl 5 rfl) ?_
  refine sm_callv (ws := [(h0, .inr (0, [.ref k, .ref b, .ref o])), (k, .inl (cB, 32, .inl u_2))]) (wc := [(k, .inl (cB, 32, .inl u_2))]) (wr := [(h0, .inr (0, [.ref k, .ref b, .ref o]))]) (va_runS (As := [.ref k, .int (nI (16 * hf + 8)), .int x2]) (rest := []) ⟨hx, hb, hml, hown, hts⟩ (metX1_word l D cB cI tS tC tF k u_2 32 (16 * hf + 8) x2 H.size (by decide) (by omega)) (va_cwS 3 hts (lw_S q310 q311 q14 q312) rfl rfl rfl (by decide +kernel) ⟨Nat.le_of_ble_eq_true rfl, Nat.le_of_ble_eq_true rfl⟩) ⟨sm_WO.blind, fun U hU hW => ⟨rfl, sm_WO.at hU hW (hP.sub (ws' := [(k, .inl (cB, 32, .inl u_2))]) [1] rfl) hK (hD.sub (ws' := [(k, .inl (cB, 32, .inl u_2))]) [1] (by decide) rfl) hZ hS hA hE⟩⟩ rfl rfl hl.1 rfl (lv_room (Nat.le_of_ble_eq_true rfl)) dX1_key_40 ⟨Nat.le_of_ble_eq_true rfl, Nat.le_of_ble_eq_true rfl⟩) hP hD hS hA [1] [0] rfl rfl (by decide) (by decide) (fun u_3 H locs eu_3 hP hD hS => ?_)
  have hP : va_P D sm_cl [(h0, .inr (0, [.ref k, .ref b, .ref o])), (k, .inl (cB, 32, .inl u_3))] H := hP
  have hD : va_D A [(h0, .inr (0, [.ref k, .ref b, .ref o])), (k, .inl (cB, 32, .inl u_3))] := hD
  refine lv_aload_n hx hb dX1_key_43 rfl (lv_at hl 1 rfl) ?_
  refine va_get (D := D) (ci := 0) (v := .ref k) (C := RX1) (T := TX1) (N := 3) hx hb hts in_X1 hown hK hP 0 rfl rfl 0 (by decide) (hts _ q293) (fun _ h9 => h9) rfl dX1_key_44 ?_
  refine lv_iload hx hb dX1_key_47 (lv_at hl 0 rfl) ?_
  refine lv_bipush (v := 12) hx hb dX1_key_49 (by decide) ?_
  refine lv_iadd hx hb dX1_key_51 ?_
  refine sm_top (y := nI (16 * hf + 12)) (sm_add (16 * hf) 12 rfl rfl) ?_
  refine lv_iload hx hb dX1_key_52 (lv_at hl 6 rfl) ?_
  refine sm_callv (ws := [(h0, .inr (0, [.ref k, .ref b, .ref o])), (k, .inl (cB, 32, .inl u_3))]) (wc := [(k, .inl (cB, 32, .inl u_3))]) (wr := [(h0, .inr (0, [.ref k, .ref b, .ref o]))]) (va_runS (As := [.ref k, .int (nI (16 * hf + 12)), .int x3]) (rest := []) ⟨hx, hb, hml, hown, hts⟩ (metX1_word l D cB cI tS tC tF k u_3 32 (16 * hf + 12) x3 H.size (by decide) (by omega)) (va_cwS 3 hts (lw_S q310 q311 q14 q312) rfl rfl rfl (by decide +kernel) ⟨Nat.le_of_ble_eq_true rfl, Nat.le_of_ble_eq_true rfl⟩) ⟨sm_WO.blind, fun U hU hW => ⟨rfl, sm_WO.at hU hW (hP.sub (ws' := [(k, .inl (cB, 32, .inl u_3))]) [1] rfl) hK (hD.sub (ws' := [(k, .inl (cB, 32, .inl u_3))]) [1] (by decide) rfl) hZ hS hA hE⟩⟩ rfl rfl hl.1 rfl (lv_room (Nat.le_of_ble_eq_true rfl)) dX1_key_54 ⟨Nat.le_of_ble_eq_true rfl, Nat.le_of_ble_eq_true rfl⟩) hP hD hS hA [1] [0] rfl rfl (by decide) (by decide) (fun u_4 H locs eu_4 hP hD hS => ?_)
  have hP : va_P D sm_cl [(h0, .inr (0, [.ref k, .ref b, .ref o])), (k, .inl (cB, 32, .inl u_4))] H := hP
  have hD : va_D A [(h0, .inr (0, [.ref k, .ref b, .ref o])), (k, .inl (cB, 32, .inl u_4))] := hD
  have hs : (sm_W u_4 (16 * hf) x0 ∧ sm_W u_4 (16 * hf + 4) x1 ∧ sm_W u_4 (16 * hf + 8) x2 ∧ sm_W u_4 (16 * hf + 12) x3) ∧ ∀ j, (j < 16 * hf ∨ 16 * hf + 15 < j) → u_4 j = f j := by
    refine ⟨⟨?_, ?_, ?_, eu_4.1⟩, fun j hj => ?_⟩
    · exact eu_1.1.keep (fun j h1 h2 => by rw [eu_4.2 j (by omega), eu_3.2 j (by omega), eu_2.2 j (by omega)])
    · exact eu_2.1.keep (fun j h1 h2 => by rw [eu_4.2 j (by omega), eu_3.2 j (by omega)])
    · exact eu_3.1.keep (fun j h1 h2 => by rw [eu_4.2 j (by omega)])
    · rw [eu_4.2 j (by omega), eu_3.2 j (by omega), eu_2.2 j (by omega), eu_1.2 j (by omega)]
  have hP : va_P D sm_cl [(h0, .inr (0, [.ref k, .ref b, .ref o])), (k, .inl (cB, 32, .inl u_4))] H := hP.sub [0, 1] rfl
  have hD : va_D A [(h0, .inr (0, [.ref k, .ref b, .ref o])), (k, .inl (cB, 32, .inl u_4))] := hD.sub [0, 1] (by decide) rfl
  refine W.widen (k := 0) (n := 0) (Nat.le_of_ble_eq_true rfl) (Nat.le_of_ble_eq_true rfl) ?_
  exact W.vret hx hb hr (fun t ht hW => ⟨⟨u_4, rfl, hs, by rw [ht]; exact hP, hD⟩, hS.F ht⟩) hS.2.2 dX1_key_57
set_option maxHeartbeats 4000000 in
set_option maxRecDepth 100000 in
/-- block(four words) -/
theorem metX1_block (l : Launch) (D : va_G) (cB cI : ClassId) (tS tC tF : Nat) (h0 k b o : Nat) (f : Nat → Int32) (x0 x1 x2 x3 : Int32) (sz : Nat) : Met l yX1_block (ws_ yX1_block cX1_block 5 none) ({ frames := 1, cells := 0, slots := 0, locals := 25 }) (va_Pc [.ref h0, .int x0, .int x1, .int x2, .int x3] (sm_WO D cB cI tS tC tF [(h0, .inr (0, [.ref k, .ref b, .ref o])), (b, .inl (cB, 16, .inl f))] sz)) (va_Qv (fun u : Nat → Int32 => sm_W4 u x0 x1 x2 x3) (sm_BW D (va_A [(h0, .inr (0, [.ref k, .ref b, .ref o])), (b, .inl (cB, 16, .inl f))] sz) (fun u => [(h0, .inr (0, [.ref k, .ref b, .ref o])), (b, .inl (cB, 16, .inl u))])) (va_A [(h0, .inr (0, [.ref k, .ref b, .ref o])), (b, .inl (cB, 16, .inl f))] sz)) 0 0 (va_A [(h0, .inr (0, [.ref k, .ref b, .ref o])), (b, .inl (cB, 16, .inl f))] sz) := by
  refine Met.ofW (cc := cX1_block) (maxL := 5) (ret := none) (by decide) rfl ?_
  intro p e s m args below meth c s₁ B hml hv
  obtain ⟨rfl, hsz, hP, hK, hD0, hZ, hE⟩ := hv
  have hx := B.exec
  have hb := B.bytes
  have hr := B.returns
  have hts := atoms_spec (ws := ws_ yX1_block cX1_block 5 none) B.pre
  have hts : ∀ w ∈ lw_all, w.before _ s = true := fun w h => hts w (List.mem_cons_of_mem _ h)
  have hown : s.vm.findClass RX1 = some m.cls := findClass_of_methodNamed B.named
  have hlocks := B.notSynchronized
  subst hsz
  have hD := hD0.self (sz := s.heap.size)
  generalize hAe : va_A [(h0, .inr (0, [.ref k, .ref b, .ref o])), (b, .inl (cB, 16, .inl f))] s.heap.size = A at hD hZ ⊢
  have hA : ∀ q : Nat, s.heap.size ≤ q → A q := fun q h => by rw [← hAe]; exact Or.inr h
  obtain ⟨H, eH⟩ : ∃ H : Heap, H = s.heap := ⟨_, rfl⟩
  rw [← eH] at hP ⊢
  have hS : va_S A s.heap H [] := by rw [eH]; exact va_S.rf
  have hl := lv_entry ([.ref h0, .int x0, .int x1, .int x2, .int x3]) (n := 5) (Nat.le_of_ble_eq_true rfl)
  rw [lg_entry_eq]
  generalize (lg_sl ([.ref h0, .int x0, .int x1, .int x2, .int x3]) ++ List.replicate (5 - (lg_sl ([.ref h0, .int x0, .int x1, .int x2, .int x3])).length) Slot.unset).toArray = ls at hl ⊢
  have hl : lv_has ls 5 [(0, .ref h0), (1, .int x0), (2, .int x1), (3, .int x2), (4, .int x3)] := hl
  refine lv_aload_n hx hb dX1_block_0 rfl (lv_at hl 0 rfl) ?_
  refine va_get (D := D) (ci := 0) (v := .ref b) (C := RX1) (T := TX1) (N := 3) hx hb hts in_X1 hown hK hP 0 rfl rfl 1 (by decide) (hts _ q294) (fun _ h9 => h9) rfl dX1_block_1 ?_
  refine lv_iconst (v := 0) hx hb dX1_block_4 (by decide) ?_
  refine lv_iload_n hx hb dX1_block_5 rfl (lv_at hl 1 rfl) ?_
  refine sm_callv (ws := [(h0, .inr (0, [.ref k, .ref b, .ref o])), (b, .inl (cB, 16, .inl f))]) (wc := [(b, .inl (cB, 16, .inl f))]) (wr := [(h0, .inr (0, [.ref k, .ref b, .ref o]))]) (va_runS (As := [.ref b, .int (0 : Int32), .int x0]) (rest := []) ⟨hx, hb, hml, hown, hts⟩ (metX1_word l D cB cI tS tC tF b f 16 0 x0 H.size (by decide) (by decide)) (va_cwS 3 hts (lw_S q310 q311 q14 q312) rfl rfl rfl (by decide +kernel) ⟨Nat.le_of_ble_eq_true rfl, Nat.le_of_ble_eq_true rfl⟩) ⟨sm_WO.blind, fun U hU hW => ⟨rfl, sm_WO.at hU hW (hP.sub (ws' := [(b, .inl (cB, 16, .inl f))]) [1] rfl) hK (hD.sub (ws' := [(b, .inl (cB, 16, .inl f))]) [1] (by decide) rfl) hZ hS hA hE⟩⟩ rfl rfl hl.1 rfl (lv_room (Nat.le_of_ble_eq_true rfl)) dX1_block_6 ⟨Nat.le_of_ble_eq_true rfl, Nat.le_of_ble_eq_true rfl⟩) hP hD hS hA [1] [0] rfl rfl (by decide) (by decide) (fun u_1 H locs eu_1 hP hD hS => ?_)
  have hP : va_P D sm_cl [(h0, .inr (0, [.ref k, .ref b, .ref o])), (b, .inl (cB, 16, .inl u_1))] H := hP
  have hD : va_D A [(h0, .inr (0, [.ref k, .ref b, .ref o])), (b, .inl (cB, 16, .inl u_1))] := hD
  refine lv_aload_n hx hb dX1_block_9 rfl (lv_at hl 0 rfl) ?_
  refine va_get (D := D) (ci := 0) (v := .ref b) (C := RX1) (T := TX1) (N := 3) hx hb hts in_X1 hown hK hP 0 rfl rfl 1 (by decide) (hts _ q294) (fun _ h9 => h9) rfl dX1_block_10 ?_
  refine lv_iconst (v := 4) hx hb dX1_block_13 (by decide) ?_
  refine lv_iload_n hx hb dX1_block_14 rfl (lv_at hl 2 rfl) ?_
  refine sm_callv (ws := [(h0, .inr (0, [.ref k, .ref b, .ref o])), (b, .inl (cB, 16, .inl u_1))]) (wc := [(b, .inl (cB, 16, .inl u_1))]) (wr := [(h0, .inr (0, [.ref k, .ref b, .ref o]))]) (va_runS (As := [.ref b, .int (4 : Int32), .int x1]) (rest := []) ⟨hx, hb, hml, hown, hts⟩ (metX1_word l D cB cI tS tC tF b u_1 16 4 x1 H.size (by decide) (by decide)) (va_cwS 3 hts (lw_S q310 q311 q14 q312) rfl rfl rfl (by decide +kernel) ⟨Nat.le_of_ble_eq_true rfl, Nat.le_of_ble_eq_true rfl⟩) ⟨sm_WO.blind, fun U hU hW => ⟨rfl, sm_WO.at hU hW (hP.sub (ws' := [(b, .inl (cB, 16, .inl u_1))]) [1] rfl) hK (hD.sub (ws' := [(b, .inl (cB, 16, .inl u_1))]) [1] (by decide) rfl) hZ hS hA hE⟩⟩ rfl rfl hl.1 rfl (lv_room (Nat.le_of_ble_eq_true rfl)) dX1_block_15 ⟨Nat.le_of_ble_eq_true rfl, Nat.le_of_ble_eq_true rfl⟩) hP hD hS hA [1] [0] rfl rfl (by decide) (by decide) (fun u_2 H locs eu_2 hP hD hS => ?_)
  have hP : va_P D sm_cl [(h0, .inr (0, [.ref k, .ref b, .ref o])), (b, .inl (cB, 16, .inl u_2))] H := hP
  have hD : va_D A [(h0, .inr (0, [.ref k, .ref b, .ref o])), (b, .inl (cB, 16, .inl u_2))] := hD
  refine lv_aload_n hx hb dX1_block_18 rfl (lv_at hl 0 rfl) ?_
  refine va_get (D := D) (ci := 0) (v := .ref b) (C := RX1) (T := TX1) (N := 3) hx hb hts in_X1 hown hK hP 0 rfl rfl 1 (by decide) (hts _ q294) (fun _ h9 => h9) rfl dX1_block_19 ?_
  refine lv_bipush (v := 8) hx hb dX1_block_22 (by decide) ?_
  refine lv_iload_n hx hb dX1_block_24 rfl (lv_at hl 3 rfl) ?_
  refine sm_callv (ws := [(h0, .inr (0, [.ref k, .ref b, .ref o])), (b, .inl (cB, 16, .inl u_2))]) (wc := [(b, .inl (cB, 16, .inl u_2))]) (wr := [(h0, .inr (0, [.ref k, .ref b, .ref o]))]) (va_runS (As := [.ref b, .int (8 : Int32), .int x2]) (rest := []) ⟨hx, hb, hml, hown, hts⟩ (metX1_word l D cB cI tS tC tF b u_2 16 8 x2 H.size (by decide) (by decide)) (va_cwS 3 hts (lw_S q310 q311 q14 q312) rfl rfl rfl (by decide +kernel) ⟨Nat.le_of_ble_eq_true rfl, Nat.le_of_ble_eq_true rfl⟩) ⟨sm_WO.blind, fun U hU hW => ⟨rfl, sm_WO.at hU hW (hP.sub (ws' := [(b, .inl (cB, 16, .inl u_2))]) [1] rfl) hK (hD.sub (ws' := [(b, .inl (cB, 16, .inl u_2))]) [1] (by decide) rfl) hZ hS hA hE⟩⟩ rfl rfl hl.1 rfl (lv_room (Nat.le_of_ble_eq_true rfl)) dX1_block_25 ⟨Nat.le_of_ble_eq_true rfl, Nat.le_of_ble_eq_true rfl⟩) hP hD hS hA [1] [0] rfl rfl (by decide) (by decide) (fun u_3 H locs eu_3 hP hD hS => ?_)
  have hP : va_P D sm_cl [(h0, .inr (0, [.ref k, .ref b, .ref o])), (b, .inl (cB, 16, .inl u_3))] H := hP
  have hD : va_D A [(h0, .inr (0, [.ref k, .ref b, .ref o])), (b, .inl (cB, 16, .inl u_3))] := hD
  refine lv_aload_n hx hb dX1_block_28 rfl (lv_at hl 0 rfl) ?_
  refine va_get (D := D) (ci := 0) (v := .ref b) (C := RX1) (T := TX1) (N := 3) hx hb hts in_X1 hown hK hP 0 rfl rfl 1 (by decide) (hts _ q294) (fun _ h9 => h9) rfl dX1_block_29 ?_
  refine lv_bipush (v := 12) hx hb dX1_block_32 (by decide) ?_
  refine lv_iload hx hb dX1_block_34 (lv_at hl 4 rfl) ?_
  refine sm_callv (ws := [(h0, .inr (0, [.ref k, .ref b, .ref o])), (b, .inl (cB, 16, .inl u_3))]) (wc := [(b, .inl (cB, 16, .inl u_3))]) (wr := [(h0, .inr (0, [.ref k, .ref b, .ref o]))]) (va_runS (As := [.ref b, .int (12 : Int32), .int x3]) (rest := []) ⟨hx, hb, hml, hown, hts⟩ (metX1_word l D cB cI tS tC tF b u_3 16 12 x3 H.size (by decide) (by decide)) (va_cwS 3 hts (lw_S q310 q311 q14 q312) rfl rfl rfl (by decide +kernel) ⟨Nat.le_of_ble_eq_true rfl, Nat.le_of_ble_eq_true rfl⟩) ⟨sm_WO.blind, fun U hU hW => ⟨rfl, sm_WO.at hU hW (hP.sub (ws' := [(b, .inl (cB, 16, .inl u_3))]) [1] rfl) hK (hD.sub (ws' := [(b, .inl (cB, 16, .inl u_3))]) [1] (by decide) rfl) hZ hS hA hE⟩⟩ rfl rfl hl.1 rfl (lv_room (Nat.le_of_ble_eq_true rfl)) dX1_block_36 ⟨Nat.le_of_ble_eq_true rfl, Nat.le_of_ble_eq_true rfl⟩) hP hD hS hA [1] [0] rfl rfl (by decide) (by decide) (fun u_4 H locs eu_4 hP hD hS => ?_)
  have hP : va_P D sm_cl [(h0, .inr (0, [.ref k, .ref b, .ref o])), (b, .inl (cB, 16, .inl u_4))] H := hP
  have hD : va_D A [(h0, .inr (0, [.ref k, .ref b, .ref o])), (b, .inl (cB, 16, .inl u_4))] := hD
  have hs : sm_W4 u_4 x0 x1 x2 x3 := by
    refine sm_W4_of ?_ ?_ ?_ eu_4.1
    · exact eu_1.1.keep (fun j h1 h2 => by rw [eu_4.2 j (by omega), eu_3.2 j (by omega), eu_2.2 j (by omega)])
    · exact eu_2.1.keep (fun j h1 h2 => by rw [eu_4.2 j (by omega), eu_3.2 j (by omega)])
    · exact eu_3.1.keep (fun j h1 h2 => by rw [eu_4.2 j (by omega)])
  have hP : va_P D sm_cl [(h0, .inr (0, [.ref k, .ref b, .ref o])), (b, .inl (cB, 16, .inl u_4))] H := hP.sub [0, 1] rfl
  have hD : va_D A [(h0, .inr (0, [.ref k, .ref b, .ref o])), (b, .inl (cB, 16, .inl u_4))] := hD.sub [0, 1] (by decide) rfl
  refine W.widen (k := 0) (n := 0) (Nat.le_of_ble_eq_true rfl) (Nat.le_of_ble_eq_true rfl) ?_
  exact W.vret hx hb hr (fun t ht hW => ⟨⟨u_4, rfl, hs, by rw [ht]; exact hP, hD⟩, hS.F ht⟩) hS.2.2 dX1_block_39
end
section
set_option maxHeartbeats 4000000 in
set_option maxRecDepth 100000 in
/-- expandKey(b, key): the round keys -/
theorem metX2_expandKey (l : Launch) (D : va_G) (cB cI : ClassId) (tS tC tF : Nat) (h0 : Nat) (fs : List Value) (a : Nat) (f : Nat → Int32) (b : Int32) (mk : Nat → Int32) (sz : Nat) (hm : sm_b4 f mk) : Met l yX2_expandKey (ws_ yX2_expandKey cX2_expandKey 7 (some (.array .int))) ({ frames := 3, cells := 3, slots := 40, locals := 90 }) (va_Pc [.ref h0, .int b, .ref a] (sm_WO D cB cI tS tC tF [(h0, .inr (1, fs)), (a, .inl (cB, 16, .inl f))] sz)) (va_Qr (fun u : Nat → Int32 => ∀ j, j < 32 → u j = sm_rk b mk j) (sm_BR D (va_A [(h0, .inr (1, fs)), (a, .inl (cB, 16, .inl f))] sz) (fun u r => [(h0, .inr (1, fs)), (a, .inl (cB, 16, .inl f)), (r, .inl (cI, 32, .inl u))])) (va_A [(h0, .inr (1, fs)), (a, .inl (cB, 16, .inl f))] sz)) 3 40 (va_A [(h0, .inr (1, fs)), (a, .inl (cB, 16, .inl f))] sz) := by
  refine Met.ofW (cc := cX2_expandKey) (maxL := 7) (ret := (some (.array .int))) (by decide) rfl ?_
  intro p e s m args below meth c s₁ B hml hv
  obtain ⟨rfl, hsz, hP, hK, hD0, hZ, hE⟩ := hv
  have hx := B.exec
  have hb := B.bytes
  have hr := B.returns
  have hts := atoms_spec (ws := ws_ yX2_expandKey cX2_expandKey 7 (some (.array .int))) B.pre
  have hts : ∀ w ∈ lw_all, w.before _ s = true := fun w h => hts w (List.mem_cons_of_mem _ h)
  have hown : s.vm.findClass RX2 = some m.cls := findClass_of_methodNamed B.named
  have hlocks := B.notSynchronized
  subst hsz
  have hD := hD0.self (sz := s.heap.size)
  generalize hAe : va_A [(h0, .inr (1, fs)), (a, .inl (cB, 16, .inl f))] s.heap.size = A at hD hZ ⊢
  have hA : ∀ q : Nat, s.heap.size ≤ q → A q := fun q h => by rw [← hAe]; exact Or.inr h
  obtain ⟨H, eH⟩ : ∃ H : Heap, H = s.heap := ⟨_, rfl⟩
  rw [← eH] at hP ⊢
  have hS : va_S A s.heap H [] := by rw [eH]; exact va_S.rf
  have hl := lv_entry ([.ref h0, .int b, .ref a]) (n := 7) (Nat.le_of_ble_eq_true rfl)
  rw [lg_entry_eq]
  generalize (lg_sl ([.ref h0, .int b, .ref a]) ++ List.replicate (7 - (lg_sl ([.ref h0, .int b, .ref a])).length) Slot.unset).toArray = ls at hl ⊢
  have hl : lv_has ls 7 [(0, .ref h0), (1, .int b), (2, .ref a)] := hl
  refine lv_bipush (v := 32) hx hb dX2_expandKey_0 (by decide) ?_
  refine sm_newa (atype := .int) hx hb (hts _ q55) rfl rfl rfl hK hP hD hS hA 1 (N := 32) rfl rfl (by decide) (by decide) (Nat.le_of_ble_eq_true rfl) (Nat.le_of_ble_eq_true rfl) dX2_expandKey_2 (fun a_1 H hP hD hS => ?_)
  have hP : va_P D sm_cl [(h0, .inr (1, fs)), (a, .inl (cB, 16, .inl f)), (a_1, .inl (cI, 32, .inl (fun _ => 0)))] H := hP
  have hD : va_D A [(h0, .inr (1, fs)), (a, .inl (cB, 16, .inl f)), (a_1, .inl (cI, 32, .inl (fun _ => 0)))] := hD
  refine lv_astore_n (lv' := [(3, .ref a_1), (0, .ref h0), (1, .int b), (2, .ref a)]) hx hb dX2_expandKey_4 rfl hl (by decide) rfl (fun ls hl => ?_)
  refine lv_iconst (v := 4) hx hb dX2_expandKey_5 (by decide) ?_
  refine sm_newa (atype := .int) hx hb (hts _ q55) rfl rfl rfl hK hP hD hS hA 1 (N := 4) rfl rfl (by decide) (by decide) (Nat.le_of_ble_eq_true rfl) (Nat.le_of_ble_eq_true rfl) dX2_expandKey_6 (fun a_2 H hP hD hS => ?_)
  have hP : va_P D sm_cl [(h0, .inr (1, fs)), (a, .inl (cB, 16, .inl f)), (a_1, .inl (cI, 32, .inl (fun _ => 0))), (a_2, .inl (cI, 4, .inl (fun _ => 0)))] H := hP
  have hD : va_D A [(h0, .inr (1, fs)), (a, .inl (cB, 16, .inl f)), (a_1, .inl (cI, 32, .inl (fun _ => 0))), (a_2, .inl (cI, 4, .inl (fun _ => 0)))] := hD
  refine lv_astore (lv' := [(4, .ref a_2), (3, .ref a_1), (0, .ref h0), (1, .int b), (2, .ref a)]) hx hb dX2_expandKey_8 hl (by decide) rfl (fun ls hl => ?_)
  refine lv_aload hx hb dX2_expandKey_10 (lv_at hl 0 rfl) ?_
  refine lv_iconst (v := 0) hx hb dX2_expandKey_12 (by decide) ?_
  refine lv_aload_n hx hb dX2_expandKey_13 rfl (lv_at hl 4 rfl) ?_
  refine lv_iconst (v := 0) hx hb dX2_expandKey_14 (by decide) ?_
  refine vp_callSi (va_runS (As := [.ref a, .int (0 : Int32)]) (rest := [.int (0 : Int32), .ref a_2]) ⟨hx, hb, hml, hown, hts⟩ (metX4_bigEndianToInt l D cB cI tS tC tF a f 16 0 (mk 0) (by decide) (by decide) (sm_W4.w0 hm)) (va_cwS 2 hts (lw_S q162 q163 q22 q164) rfl rfl rfl (by decide +kernel) ⟨Nat.le_of_ble_eq_true rfl, Nat.le_of_ble_eq_true rfl⟩) ⟨sm_RO.blind, fun U hU hW => ⟨rfl, sm_RO.at hU hW (hP.sub (ws' := [(a, .inl (cB, 16, .inl f))]) [1] rfl) hK hZ hS⟩⟩ rfl rfl hl.1 rfl (lv_room (Nat.le_of_ble_eq_true rfl)) dX2_expandKey_15 ⟨Nat.le_of_ble_eq_true rfl, Nat.le_of_ble_eq_true rfl⟩).run (fun r_3 er_3 => ?_)
  subst er_3
  refine sm_sti hx hb hK hP hD hS 3 1 rfl rfl (0) rfl (by decide) (by decide) dX2_expandKey_18 (fun g_4 H locs eg_4 hP hD hS => ?_)
  have hP : va_P D sm_cl [(h0, .inr (1, fs)), (a, .inl (cB, 16, .inl f)), (a_1, .inl (cI, 32, .inl (fun _ => 0))), (a_2, .inl (cI, 4, .inl g_4))] H := hP
  have hD : va_D A [(h0, .inr (1, fs)), (a, .inl (cB, 16, .inl f)), (a_1, .inl (cI, 32, .inl (fun _ => 0))), (a_2, .inl (cI, 4, .inl g_4))] := hD
  have hg_4_0 : g_4 0 = mk 0 := by rw [eg_4]; exact pk_us
  refine lv_aload hx hb dX2_expandKey_19 (lv_at hl 0 rfl) ?_
  refine lv_iconst (v := 1) hx hb dX2_expandKey_21 (by decide) ?_
  refine lv_aload_n hx hb dX2_expandKey_22 rfl (lv_at hl 4 rfl) ?_
  refine lv_iconst (v := 4) hx hb dX2_expandKey_23 (by decide) ?_
  refine vp_callSi (va_runS (As := [.ref a, .int (4 : Int32)]) (rest := [.int (1 : Int32), .ref a_2]) ⟨hx, hb, hml, hown, hts⟩ (metX4_bigEndianToInt l D cB cI tS tC tF a f 16 4 (mk 1) (by decide) (by decide) (sm_W4.w1 hm)) (va_cwS 2 hts (lw_S q162 q163 q22 q164) rfl rfl rfl (by decide +kernel) ⟨Nat.le_of_ble_eq_true rfl, Nat.le_of_ble_eq_true rfl⟩) ⟨sm_RO.blind, fun U hU hW => ⟨rfl, sm_RO.at hU hW (hP.sub (ws' := [(a, .inl (cB, 16, .inl f))]) [1] rfl) hK hZ hS⟩⟩ rfl rfl hl.1 rfl (lv_room (Nat.le_of_ble_eq_true rfl)) dX2_expandKey_24 ⟨Nat.le_of_ble_eq_true rfl, Nat.le_of_ble_eq_true rfl⟩).run (fun r_5 er_5 => ?_)
  subst er_5
  refine sm_sti hx hb hK hP hD hS 3 1 rfl rfl (1) rfl (by decide) (by decide) dX2_expandKey_27 (fun g_6 H locs eg_6 hP hD hS => ?_)
  have hP : va_P D sm_cl [(h0, .inr (1, fs)), (a, .inl (cB, 16, .inl f)), (a_1, .inl (cI, 32, .inl (fun _ => 0))), (a_2, .inl (cI, 4, .inl g_6))] H := hP
  have hD : va_D A [(h0, .inr (1, fs)), (a, .inl (cB, 16, .inl f)), (a_1, .inl (cI, 32, .inl (fun _ => 0))), (a_2, .inl (cI, 4, .inl g_6))] := hD
  have hg_6_0 : g_6 0 = mk 0 := by rw [eg_6]; exact (pk_un (by decide)).trans hg_4_0
  have hg_6_1 : g_6 1 = mk 1 := by rw [eg_6]; exact pk_us
  refine lv_aload hx hb dX2_expandKey_28 (lv_at hl 0 rfl) ?_
  refine lv_iconst (v := 2) hx hb dX2_expandKey_30 (by decide) ?_
  refine lv_aload_n hx hb dX2_expandKey_31 rfl (lv_at hl 4 rfl) ?_
  refine lv_bipush (v := 8) hx hb dX2_expandKey_32 (by decide) ?_
  refine vp_callSi (va_runS (As := [.ref a, .int (8 : Int32)]) (rest := [.int (2 : Int32), .ref a_2]) ⟨hx, hb, hml, hown, hts⟩ (metX4_bigEndianToInt l D cB cI tS tC tF a f 16 8 (mk 2) (by decide) (by decide) (sm_W4.w2 hm)) (va_cwS 2 hts (lw_S q162 q163 q22 q164) rfl rfl rfl (by decide +kernel) ⟨Nat.le_of_ble_eq_true rfl, Nat.le_of_ble_eq_true rfl⟩) ⟨sm_RO.blind, fun U hU hW => ⟨rfl, sm_RO.at hU hW (hP.sub (ws' := [(a, .inl (cB, 16, .inl f))]) [1] rfl) hK hZ hS⟩⟩ rfl rfl hl.1 rfl (lv_room (Nat.le_of_ble_eq_true rfl)) dX2_expandKey_34 ⟨Nat.le_of_ble_eq_true rfl, Nat.le_of_ble_eq_true rfl⟩).run (fun r_7 er_7 => ?_)
  subst er_7
  refine sm_sti hx hb hK hP hD hS 3 1 rfl rfl (2) rfl (by decide) (by decide) dX2_expandKey_37 (fun g_8 H locs eg_8 hP hD hS => ?_)
  have hP : va_P D sm_cl [(h0, .inr (1, fs)), (a, .inl (cB, 16, .inl f)), (a_1, .inl (cI, 32, .inl (fun _ => 0))), (a_2, .inl (cI, 4, .inl g_8))] H := hP
  have hD : va_D A [(h0, .inr (1, fs)), (a, .inl (cB, 16, .inl f)), (a_1, .inl (cI, 32, .inl (fun _ => 0))), (a_2, .inl (cI, 4, .inl g_8))] := hD
  have hg_8_0 : g_8 0 = mk 0 := by rw [eg_8]; exact (pk_un (by decide)).trans hg_6_0
  have hg_8_1 : g_8 1 = mk 1 := by rw [eg_8]; exact (pk_un (by decide)).trans hg_6_1
  have hg_8_2 : g_8 2 = mk 2 := by rw [eg_8]; exact pk_us
  refine lv_aload hx hb dX2_expandKey_38 (lv_at hl 0 rfl) ?_
  refine lv_iconst (v := 3) hx hb dX2_expandKey_40 (by decide) ?_
  refine lv_aload_n hx hb dX2_expandKey_41 rfl (lv_at hl 4 rfl) ?_
  refine lv_bipush (v := 12) hx hb dX2_expandKey_42 (by decide) ?_
  refine vp_callSi (va_runS (As := [.ref a, .int (12 : Int32)]) (rest := [.int (3 : Int32), .ref a_2]) ⟨hx, hb, hml, hown, hts⟩ (metX4_bigEndianToInt l D cB cI tS tC tF a f 16 12 (mk 3) (by decide) (by decide) (sm_W4.w3 hm)) (va_cwS 2 hts (lw_S q162 q163 q22 q164) rfl rfl rfl (by decide +kernel) ⟨Nat.le_of_ble_eq_true rfl, Nat.le_of_ble_eq_true rfl⟩) ⟨sm_RO.blind, fun U hU hW => ⟨rfl, sm_RO.at hU hW (hP.sub (ws' := [(a, .inl (cB, 16, .inl f))]) [1] rfl) hK hZ hS⟩⟩ rfl rfl hl.1 rfl (lv_room (Nat.le_of_ble_eq_true rfl)) dX2_expandKey_44 ⟨Nat.le_of_ble_eq_true rfl, Nat.le_of_ble_eq_true rfl⟩).run (fun r_9 er_9 => ?_)
  subst er_9
  refine sm_sti hx hb hK hP hD hS 3 1 rfl rfl (3) rfl (by decide) (by decide) dX2_expandKey_47 (fun g_10 H locs eg_10 hP hD hS => ?_)
  have hP : va_P D sm_cl [(h0, .inr (1, fs)), (a, .inl (cB, 16, .inl f)), (a_1, .inl (cI, 32, .inl (fun _ => 0))), (a_2, .inl (cI, 4, .inl g_10))] H := hP
  have hD : va_D A [(h0, .inr (1, fs)), (a, .inl (cB, 16, .inl f)), (a_1, .inl (cI, 32, .inl (fun _ => 0))), (a_2, .inl (cI, 4, .inl g_10))] := hD
  have hg_10_0 : g_10 0 = mk 0 := by rw [eg_10]; exact (pk_un (by decide)).trans hg_8_0
  have hg_10_1 : g_10 1 = mk 1 := by rw [eg_10]; exact (pk_un (by decide)).trans hg_8_1
  have hg_10_2 : g_10 2 = mk 2 := by rw [eg_10]; exact (pk_un (by decide)).trans hg_8_2
  have hg_10_3 : g_10 3 = mk 3 := by rw [eg_10]; exact pk_us
  refine lv_iconst (v := 4) hx hb dX2_expandKey_48 (by decide) ?_
  refine sm_newa (atype := .int) hx hb (hts _ q55) rfl rfl rfl hK hP hD hS hA 1 (N := 4) rfl rfl (by decide) (by decide) (Nat.le_of_ble_eq_true rfl) (Nat.le_of_ble_eq_true rfl) dX2_expandKey_49 (fun a_11 H hP hD hS => ?_)
  have hP : va_P D sm_cl [(h0, .inr (1, fs)), (a, .inl (cB, 16, .inl f)), (a_1, .inl (cI, 32, .inl (fun _ => 0))), (a_2, .inl (cI, 4, .inl g_10)), (a_11, .inl (cI, 4, .inl (fun _ => 0)))] H := hP
  have hD : va_D A [(h0, .inr (1, fs)), (a, .inl (cB, 16, .inl f)), (a_1, .inl (cI, 32, .inl (fun _ => 0))), (a_2, .inl (cI, 4, .inl g_10)), (a_11, .inl (cI, 4, .inl (fun _ => 0)))] := hD
  refine lv_astore (lv' := [(6, .ref a_11), (4, .ref a_2), (3, .ref a_1), (0, .ref h0), (1, .int b), (2, .ref a)]) hx hb dX2_expandKey_51 hl (by decide) rfl (fun ls hl => ?_)
  refine lv_aload hx hb dX2_expandKey_53 (lv_at hl 0 rfl) ?_
  refine lv_iconst (v := 0) hx hb dX2_expandKey_55 (by decide) ?_
  refine lv_aload hx hb dX2_expandKey_56 (lv_at hl 1 rfl) ?_
  refine lv_iconst (v := 0) hx hb dX2_expandKey_58 (by decide) ?_
  refine sm_ldi hx hb hK hP 3 1 rfl rfl (0) rfl (by decide) (by decide) (v := mk 0) (hg_10_0) dX2_expandKey_59 ?_
  refine va_gets hx hb hZ.2.2.1 hS hown (hts _ q165) (fun _ h => h) dX2_expandKey_60 ?_
  refine lv_iconst (v := 0) hx hb dX2_expandKey_63 (by decide) ?_
  refine va_ti (i := nI (0)) (v := .int (sm_fk 0)) hx hb hZ.2.2.2 hS (vp_in_nI (by decide) (by decide)) (congrArg (fun j => Value.int (sm_fk j)) (nI_clamp (by omega))) dX2_expandKey_64 ?_
  refine lv_ixor hx hb dX2_expandKey_65 ?_
  refine sm_top (y := sm_k mk 0) (rfl) ?_
  refine sm_sti hx hb hK hP hD hS 4 1 rfl rfl (0) rfl (by decide) (by decide) dX2_expandKey_66 (fun g_12 H locs eg_12 hP hD hS => ?_)
  have hP : va_P D sm_cl [(h0, .inr (1, fs)), (a, .inl (cB, 16, .inl f)), (a_1, .inl (cI, 32, .inl (fun _ => 0))), (a_2, .inl (cI, 4, .inl g_10)), (a_11, .inl (cI, 4, .inl g_12))] H := hP
  have hD : va_D A [(h0, .inr (1, fs)), (a, .inl (cB, 16, .inl f)), (a_1, .inl (cI, 32, .inl (fun _ => 0))), (a_2, .inl (cI, 4, .inl g_10)), (a_11, .inl (cI, 4, .inl g_12))] := hD
  have hg_12_0 : g_12 0 = sm_k mk 0 := by rw [eg_12]; exact pk_us
  refine lv_aload hx hb dX2_expandKey_67 (lv_at hl 0 rfl) ?_
  refine lv_iconst (v := 1) hx hb dX2_expandKey_69 (by decide) ?_
  refine lv_aload hx hb dX2_expandKey_70 (lv_at hl 1 rfl) ?_
  refine lv_iconst (v := 1) hx hb dX2_expandKey_72 (by decide) ?_
  refine sm_ldi hx hb hK hP 3 1 rfl rfl (1) rfl (by decide) (by decide) (v := mk 1) (hg_10_1) dX2_expandKey_73 ?_
  refine va_gets hx hb hZ.2.2.1 hS hown (hts _ q165) (fun _ h => h) dX2_expandKey_74 ?_
  refine lv_iconst (v := 1) hx hb dX2_expandKey_77 (by decide) ?_
  refine va_ti (i := nI (1)) (v := .int (sm_fk 1)) hx hb hZ.2.2.2 hS (vp_in_nI (by decide) (by decide)) (congrArg (fun j => Value.int (sm_fk j)) (nI_clamp (by omega))) dX2_expandKey_78 ?_
  refine lv_ixor hx hb dX2_expandKey_79 ?_
  refine sm_top (y := sm_k mk 1) (rfl) ?_
  refine sm_sti hx hb hK hP hD hS 4 1 rfl rfl (1) rfl (by decide) (by decide) dX2_expandKey_80 (fun g_13 H locs eg_13 hP hD hS => ?_)
  have hP : va_P D sm_cl [(h0, .inr (1, fs)), (a, .inl (cB, 16, .inl f)), (a_1, .inl (cI, 32, .inl (fun _ => 0))), (a_2, .inl (cI, 4, .inl g_10)), (a_11, .inl (cI, 4, .inl g_13))] H := hP
  have hD : va_D A [(h0, .inr (1, fs)), (a, .inl (cB, 16, .inl f)), (a_1, .inl (cI, 32, .inl (fun _ => 0))), (a_2, .inl (cI, 4, .inl g_10)), (a_11, .inl (cI, 4, .inl g_13))] := hD
  have hg_13_0 : g_13 0 = sm_k mk 0 := by rw [eg_13]; exact (pk_un (by decide)).trans hg_12_0
  have hg_13_1 : g_13 1 = sm_k mk 1 := by rw [eg_13]; exact pk_us
  refine lv_aload hx hb dX2_expandKey_81 (lv_at hl 0 rfl) ?_
  refine lv_iconst (v := 2) hx hb dX2_expandKey_83 (by decide) ?_
  refine lv_aload hx hb dX2_expandKey_84 (lv_at hl 1 rfl) ?_
  refine lv_iconst (v := 2) hx hb dX2_expandKey_86 (by decide) ?_
  refine sm_ldi hx hb hK hP 3 1 rfl rfl (2) rfl (by decide) (by decide) (v := mk 2) (hg_10_2) dX2_expandKey_87 ?_
  refine va_gets hx hb hZ.2.2.1 hS hown (hts _ q165) (fun _ h => h) dX2_expandKey_88 ?_
  refine lv_iconst (v := 2) hx hb dX2_expandKey_91 (by decide) ?_
  refine va_ti (i := nI (2)) (v := .int (sm_fk 2)) hx hb hZ.2.2.2 hS (vp_in_nI (by decide) (by decide)) (congrArg (fun j => Value.int (sm_fk j)) (nI_clamp (by omega))) dX2_expandKey_92 ?_
  refine lv_ixor hx hb dX2_expandKey_93 ?_
  refine sm_top (y := sm_k mk 2) (rfl) ?_
  refine sm_sti hx hb hK hP hD hS 4 1 rfl rfl (2) rfl (by decide) (by decide) dX2_expandKey_94 (fun g_14 H locs eg_14 hP hD hS => ?_)
  have hP : va_P D sm_cl [(h0, .inr (1, fs)), (a, .inl (cB, 16, .inl f)), (a_1, .inl (cI, 32, .inl (fun _ => 0))), (a_2, .inl (cI, 4, .inl g_10)), (a_11, .inl (cI, 4, .inl g_14))] H := hP
  have hD : va_D A [(h0, .inr (1, fs)), (a, .inl (cB, 16, .inl f)), (a_1, .inl (cI, 32, .inl (fun _ => 0))), (a_2, .inl (cI, 4, .inl g_10)), (a_11, .inl (cI, 4, .inl g_14))] := hD
  have hg_14_0 : g_14 0 = sm_k mk 0 := by rw [eg_14]; exact (pk_un (by decide)).trans hg_13_0
  have hg_14_1 : g_14 1 = sm_k mk 1 := by rw [eg_14]; exact (pk_un (by decide)).trans hg_13_1
  have hg_14_2 : g_14 2 = sm_k mk 2 := by rw [eg_14]; exact pk_us
  refine lv_aload hx hb dX2_expandKey_95 (lv_at hl 0 rfl) ?_
  refine lv_iconst (v := 3) hx hb dX2_expandKey_97 (by decide) ?_
  refine lv_aload hx hb dX2_expandKey_98 (lv_at hl 1 rfl) ?_
  refine lv_iconst (v := 3) hx hb dX2_expandKey_100 (by decide) ?_
  refine sm_ldi hx hb hK hP 3 1 rfl rfl (3) rfl (by decide) (by decide) (v := mk 3) (hg_10_3) dX2_expandKey_101 ?_
  refine va_gets hx hb hZ.2.2.1 hS hown (hts _ q165) (fun _ h => h) dX2_expandKey_102 ?_
  refine lv_iconst (v := 3) hx hb dX2_expandKey_105 (by decide) ?_
  refine va_ti (i := nI (3)) (v := .int (sm_fk 3)) hx hb hZ.2.2.2 hS (vp_in_nI (by decide) (by decide)) (congrArg (fun j => Value.int (sm_fk j)) (nI_clamp (by omega))) dX2_expandKey_106 ?_
  refine lv_ixor hx hb dX2_expandKey_107 ?_
  refine sm_top (y := sm_k mk 3) (rfl) ?_
  refine sm_sti hx hb hK hP hD hS 4 1 rfl rfl (3) rfl (by decide) (by decide) dX2_expandKey_108 (fun g_15 H locs eg_15 hP hD hS => ?_)
  have hP : va_P D sm_cl [(h0, .inr (1, fs)), (a, .inl (cB, 16, .inl f)), (a_1, .inl (cI, 32, .inl (fun _ => 0))), (a_2, .inl (cI, 4, .inl g_10)), (a_11, .inl (cI, 4, .inl g_15))] H := hP
  have hD : va_D A [(h0, .inr (1, fs)), (a, .inl (cB, 16, .inl f)), (a_1, .inl (cI, 32, .inl (fun _ => 0))), (a_2, .inl (cI, 4, .inl g_10)), (a_11, .inl (cI, 4, .inl g_15))] := hD
  have hg_15_0 : g_15 0 = sm_k mk 0 := by rw [eg_15]; exact (pk_un (by decide)).trans hg_14_0
  have hg_15_1 : g_15 1 = sm_k mk 1 := by rw [eg_15]; exact (pk_un (by decide)).trans hg_14_1
  have hg_15_2 : g_15 2 = sm_k mk 2 := by rw [eg_15]; exact (pk_un (by decide)).trans hg_14_2
  have hg_15_3 : g_15 3 = sm_k mk 3 := by rw [eg_15]; exact pk_us
  refine lv_iload_n hx hb dX2_expandKey_109 rfl (lv_at hl 4 rfl) ?_
  refine lv_if_eq (tgt := 293) hx hb dX2_expandKey_110 (by decide) (fun hb0 => ?_) (fun hb0 => ?_)
  · skip
    refine lv_aload_n hx hb dX2_expandKey_293 rfl (lv_at hl 2 rfl) ?_
    refine lv_bipush (v := 31) hx hb dX2_expandKey_294 (by decide) ?_
    refine lv_aload hx hb dX2_expandKey_296 (lv_at hl 0 rfl) ?_
    refine lv_iconst (v := 0) hx hb dX2_expandKey_298 (by decide) ?_
    refine sm_ldi hx hb hK hP 4 1 rfl rfl (0) rfl (by decide) (by decide) (v := sm_k mk 0) (hg_15_0) dX2_expandKey_299 ?_
    refine lv_aload_n hx hb dX2_expandKey_300 rfl (lv_at hl 3 rfl) ?_
    refine lv_aload hx hb dX2_expandKey_301 (lv_at hl 0 rfl) ?_
    refine lv_iconst (v := 1) hx hb dX2_expandKey_303 (by decide) ?_
    refine sm_ldi hx hb hK hP 4 1 rfl rfl (1) rfl (by decide) (by decide) (v := sm_k mk 1) (hg_15_1) dX2_expandKey_304 ?_
    refine lv_aload hx hb dX2_expandKey_305 (lv_at hl 0 rfl) ?_
    refine lv_iconst (v := 2) hx hb dX2_expandKey_307 (by decide) ?_
    refine sm_ldi hx hb hK hP 4 1 rfl rfl (2) rfl (by decide) (by decide) (v := sm_k mk 2) (hg_15_2) dX2_expandKey_308 ?_
    refine lv_ixor hx hb dX2_expandKey_309 ?_
    refine lv_aload hx hb dX2_expandKey_310 (lv_at hl 0 rfl) ?_
    refine lv_iconst (v := 3) hx hb dX2_expandKey_312 (by decide) ?_
    refine sm_ldi hx hb hK hP 4 1 rfl rfl (3) rfl (by decide) (by decide) (v := sm_k mk 3) (hg_15_3) dX2_expandKey_313 ?_
    refine lv_ixor hx hb dX2_expandKey_314 ?_
    refine va_gets hx hb hZ.2.1.1 hS hown (hts _ q167) (fun _ h => h) dX2_expandKey_315 ?_
    refine lv_iconst (v := 0) hx hb dX2_expandKey_318 (by decide) ?_
    refine va_ti (i := nI (0)) (v := .int (sm_ck 0)) hx hb hZ.2.1.2 hS (vp_in_nI (by decide) (by decide)) (congrArg (fun j => Value.int (sm_ck j)) (nI_clamp (by omega))) dX2_expandKey_319 ?_
    refine lv_ixor hx hb dX2_expandKey_320 ?_
    refine vp_callSi (va_runV (As := [.int ((((sm_k mk 1) ^^^ (sm_k mk 2)) ^^^ (sm_k mk 3)) ^^^ (sm_ck 0))]) (rest := [.int (sm_k mk 0), .int (31 : Int32), .ref a_1]) ⟨hx, hb, hml, hown, hts⟩ (metX2_T_ap l D cB cI tS tC tF h0 fs ((((sm_k mk 1) ^^^ (sm_k mk 2)) ^^^ (sm_k mk 3)) ^^^ (sm_ck 0))) (cwV 1 hts (lw_V q169 q171 qs3 q15 q172) rfl rfl rfl (by decide +kernel) ⟨Nat.le_of_ble_eq_true rfl, Nat.le_of_ble_eq_true rfl⟩) ⟨sm_RO.blind, va_recv hK hP (ci := 1) (q0 := 0) rfl rfl, fun U hU hW => ⟨rfl, sm_RO.at hU hW (hP.sub (ws' := [(h0, .inr (1, fs))]) [0] rfl) hK hZ hS⟩⟩ rfl rfl hl.1 rfl (lv_room (Nat.le_of_ble_eq_true rfl)) dX2_expandKey_321 ⟨Nat.le_of_ble_eq_true rfl, Nat.le_of_ble_eq_true rfl⟩).run (fun r_16 er_16 => ?_)
    subst er_16
    refine lv_ixor hx hb dX2_expandKey_324 ?_
    refine sm_top (y := sm_k mk 4) ((sm_k4 mk 0).symm) ?_
    refine sm_sti hx hb hK hP hD hS 2 1 rfl rfl (31) rfl (by decide) (by decide) dX2_expandKey_325 (fun g_17 H locs eg_17 hP hD hS => ?_)
    have hP : va_P D sm_cl [(h0, .inr (1, fs)), (a, .inl (cB, 16, .inl f)), (a_1, .inl (cI, 32, .inl g_17)), (a_2, .inl (cI, 4, .inl g_10)), (a_11, .inl (cI, 4, .inl g_15))] H := hP
    have hD : va_D A [(h0, .inr (1, fs)), (a, .inl (cB, 16, .inl f)), (a_1, .inl (cI, 32, .inl g_17)), (a_2, .inl (cI, 4, .inl g_10)), (a_11, .inl (cI, 4, .inl g_15))] := hD
    have hg_17_31 : g_17 31 = sm_k mk 4 := by rw [eg_17]; exact pk_us
    refine lv_aload_n hx hb dX2_expandKey_326 rfl (lv_at hl 2 rfl) ?_
    refine lv_bipush (v := 30) hx hb dX2_expandKey_327 (by decide) ?_
    refine lv_aload hx hb dX2_expandKey_329 (lv_at hl 0 rfl) ?_
    refine lv_iconst (v := 1) hx hb dX2_expandKey_331 (by decide) ?_
    refine sm_ldi hx hb hK hP 4 1 rfl rfl (1) rfl (by decide) (by decide) (v := sm_k mk 1) (hg_15_1) dX2_expandKey_332 ?_
    refine lv_aload_n hx hb dX2_expandKey_333 rfl (lv_at hl 3 rfl) ?_
    refine lv_aload hx hb dX2_expandKey_334 (lv_at hl 0 rfl) ?_
    refine lv_iconst (v := 2) hx hb dX2_expandKey_336 (by decide) ?_
    refine sm_ldi hx hb hK hP 4 1 rfl rfl (2) rfl (by decide) (by decide) (v := sm_k mk 2) (hg_15_2) dX2_expandKey_337 ?_
    refine lv_aload hx hb dX2_expandKey_338 (lv_at hl 0 rfl) ?_
    refine lv_iconst (v := 3) hx hb dX2_expandKey_340 (by decide) ?_
    refine sm_ldi hx hb hK hP 4 1 rfl rfl (3) rfl (by decide) (by decide) (v := sm_k mk 3) (hg_15_3) dX2_expandKey_341 ?_
    refine lv_ixor hx hb dX2_expandKey_342 ?_
    refine lv_aload_n hx hb dX2_expandKey_343 rfl (lv_at hl 2 rfl) ?_
    refine lv_bipush (v := 31) hx hb dX2_expandKey_344 (by decide) ?_
    refine sm_ldi hx hb hK hP 2 1 rfl rfl (31) rfl (by decide) (by decide) (v := sm_k mk 4) (hg_17_31) dX2_expandKey_346 ?_
    refine lv_ixor hx hb dX2_expandKey_347 ?_
    refine va_gets hx hb hZ.2.1.1 hS hown (hts _ q167) (fun _ h => h) dX2_expandKey_348 ?_
    refine lv_iconst (v := 1) hx hb dX2_expandKey_351 (by decide) ?_
    refine va_ti (i := nI (1)) (v := .int (sm_ck 1)) hx hb hZ.2.1.2 hS (vp_in_nI (by decide) (by decide)) (congrArg (fun j => Value.int (sm_ck j)) (nI_clamp (by omega))) dX2_expandKey_352 ?_
    refine lv_ixor hx hb dX2_expandKey_353 ?_
    refine vp_callSi (va_runV (As := [.int ((((sm_k mk 2) ^^^ (sm_k mk 3)) ^^^ (sm_k mk 4)) ^^^ (sm_ck 1))]) (rest := [.int (sm_k mk 1), .int (30 : Int32), .ref a_1]) ⟨hx, hb, hml, hown, hts⟩ (metX2_T_ap l D cB cI tS tC tF h0 fs ((((sm_k mk 2) ^^^ (sm_k mk 3)) ^^^ (sm_k mk 4)) ^^^ (sm_ck 1))) (cwV 1 hts (lw_V q169 q171 qs3 q15 q172) rfl rfl rfl (by decide +kernel) ⟨Nat.le_of_ble_eq_true rfl, Nat.le_of_ble_eq_true rfl⟩) ⟨sm_RO.blind, va_recv hK hP (ci := 1) (q0 := 0) rfl rfl, fun U hU hW => ⟨rfl, sm_RO.at hU hW (hP.sub (ws' := [(h0, .inr (1, fs))]) [0] rfl) hK hZ hS⟩⟩ rfl rfl hl.1 rfl (lv_room (Nat.le_of_ble_eq_true rfl)) dX2_expandKey_354 ⟨Nat.le_of_ble_eq_true rfl, Nat.le_of_ble_eq_true rfl⟩).run (fun r_18 er_18 => ?_)
    subst er_18
    refine lv_ixor hx hb dX2_expandKey_357 ?_
    refine sm_top (y := sm_k mk 5) ((sm_k4 mk 1).symm) ?_
    refine sm_sti hx hb hK hP hD hS 2 1 rfl rfl (30) rfl (by decide) (by decide) dX2_expandKey_358 (fun g_19 H locs eg_19 hP hD hS => ?_)
    have hP : va_P D sm_cl [(h0, .inr (1, fs)), (a, .inl (cB, 16, .inl f)), (a_1, .inl (cI, 32, .inl g_19)), (a_2, .inl (cI, 4, .inl g_10)), (a_11, .inl (cI, 4, .inl g_15))] H := hP
    have hD : va_D A [(h0, .inr (1, fs)), (a, .inl (cB, 16, .inl f)), (a_1, .inl (cI, 32, .inl g_19)), (a_2, .inl (cI, 4, .inl g_10)), (a_11, .inl (cI, 4, .inl g_15))] := hD
    have hg_19_31 : g_19 31 = sm_k mk 4 := by rw [eg_19]; exact (pk_un (by decide)).trans hg_17_31
    have hg_19_30 : g_19 30 = sm_k mk 5 := by rw [eg_19]; exact pk_us
    refine lv_aload_n hx hb dX2_expandKey_359 rfl (lv_at hl 2 rfl) ?_
    refine lv_bipush (v := 29) hx hb dX2_expandKey_360 (by decide) ?_
    refine lv_aload hx hb dX2_expandKey_362 (lv_at hl 0 rfl) ?_
    refine lv_iconst (v := 2) hx hb dX2_expandKey_364 (by decide) ?_
    refine sm_ldi hx hb hK hP 4 1 rfl rfl (2) rfl (by decide) (by decide) (v := sm_k mk 2) (hg_15_2) dX2_expandKey_365 ?_
    refine lv_aload_n hx hb dX2_expandKey_366 rfl (lv_at hl 3 rfl) ?_
    refine lv_aload hx hb dX2_expandKey_367 (lv_at hl 0 rfl) ?_
    refine lv_iconst (v := 3) hx hb dX2_expandKey_369 (by decide) ?_
    refine sm_ldi hx hb hK hP 4 1 rfl rfl (3) rfl (by decide) (by decide) (v := sm_k mk 3) (hg_15_3) dX2_expandKey_370 ?_
    refine lv_aload_n hx hb dX2_expandKey_371 rfl (lv_at hl 2 rfl) ?_
    refine lv_bipush (v := 31) hx hb dX2_expandKey_372 (by decide) ?_
    refine sm_ldi hx hb hK hP 2 1 rfl rfl (31) rfl (by decide) (by decide) (v := sm_k mk 4) (hg_19_31) dX2_expandKey_374 ?_
    refine lv_ixor hx hb dX2_expandKey_375 ?_
    refine lv_aload_n hx hb dX2_expandKey_376 rfl (lv_at hl 2 rfl) ?_
    refine lv_bipush (v := 30) hx hb dX2_expandKey_377 (by decide) ?_
    refine sm_ldi hx hb hK hP 2 1 rfl rfl (30) rfl (by decide) (by decide) (v := sm_k mk 5) (hg_19_30) dX2_expandKey_379 ?_
    refine lv_ixor hx hb dX2_expandKey_380 ?_
    refine va_gets hx hb hZ.2.1.1 hS hown (hts _ q167) (fun _ h => h) dX2_expandKey_381 ?_
    refine lv_iconst (v := 2) hx hb dX2_expandKey_384 (by decide) ?_
    refine va_ti (i := nI (2)) (v := .int (sm_ck 2)) hx hb hZ.2.1.2 hS (vp_in_nI (by decide) (by decide)) (congrArg (fun j => Value.int (sm_ck j)) (nI_clamp (by omega))) dX2_expandKey_385 ?_
    refine lv_ixor hx hb dX2_expandKey_386 ?_
    refine vp_callSi (va_runV (As := [.int ((((sm_k mk 3) ^^^ (sm_k mk 4)) ^^^ (sm_k mk 5)) ^^^ (sm_ck 2))]) (rest := [.int (sm_k mk 2), .int (29 : Int32), .ref a_1]) ⟨hx, hb, hml, hown, hts⟩ (metX2_T_ap l D cB cI tS tC tF h0 fs ((((sm_k mk 3) ^^^ (sm_k mk 4)) ^^^ (sm_k mk 5)) ^^^ (sm_ck 2))) (cwV 1 hts (lw_V q169 q171 qs3 q15 q172) rfl rfl rfl (by decide +kernel) ⟨Nat.le_of_ble_eq_true rfl, Nat.le_of_ble_eq_true rfl⟩) ⟨sm_RO.blind, va_recv hK hP (ci := 1) (q0 := 0) rfl rfl, fun U hU hW => ⟨rfl, sm_RO.at hU hW (hP.sub (ws' := [(h0, .inr (1, fs))]) [0] rfl) hK hZ hS⟩⟩ rfl rfl hl.1 rfl (lv_room (Nat.le_of_ble_eq_true rfl)) dX2_expandKey_387 ⟨Nat.le_of_ble_eq_true rfl, Nat.le_of_ble_eq_true rfl⟩).run (fun r_20 er_20 => ?_)
    subst er_20
    refine lv_ixor hx hb dX2_expandKey_390 ?_
    refine sm_top (y := sm_k mk 6) ((sm_k4 mk 2).symm) ?_
    refine sm_sti hx hb hK hP hD hS 2 1 rfl rfl (29) rfl (by decide) (by decide) dX2_expandKey_391 (fun g_21 H locs eg_21 hP hD hS => ?_)
    have hP : va_P D sm_cl [(h0, .inr (1, fs)), (a, .inl (cB, 16, .inl f)), (a_1, .inl (cI, 32, .inl g_21)), (a_2, .inl (cI, 4, .inl g_10)), (a_11, .inl (cI, 4, .inl g_15))] H := hP
    have hD : va_D A [(h0, .inr (1, fs)), (a, .inl (cB, 16, .inl f)), (a_1, .inl (cI, 32, .inl g_21)), (a_2, .inl (cI, 4, .inl g_10)), (a_11, .inl (cI, 4, .inl g_15))] := hD
    have hg_21_31 : g_21 31 = sm_k mk 4 := by rw [eg_21]; exact (pk_un (by decide)).trans hg_19_31
    have hg_21_30 : g_21 30 = sm_k mk 5 := by rw [eg_21]; exact (pk_un (by decide)).trans hg_19_30
    have hg_21_29 : g_21 29 = sm_k mk 6 := by rw [eg_21]; exact pk_us
    refine lv_aload_n hx hb dX2_expandKey_392 rfl (lv_at hl 2 rfl) ?_
    refine lv_bipush (v := 28) hx hb dX2_expandKey_393 (by decide) ?_
    refine lv_aload hx hb dX2_expandKey_395 (lv_at hl 0 rfl) ?_
    refine lv_iconst (v := 3) hx hb dX2_expandKey_397 (by decide) ?_
    refine sm_ldi hx hb hK hP 4 1 rfl rfl (3) rfl (by decide) (by decide) (v := sm_k mk 3) (hg_15_3) dX2_expandKey_398 ?_
    refine lv_aload_n hx hb dX2_expandKey_399 rfl (lv_at hl 3 rfl) ?_
    refine lv_aload_n hx hb dX2_expandKey_400 rfl (lv_at hl 2 rfl) ?_
    refine lv_bipush (v := 31) hx hb dX2_expandKey_401 (by decide) ?_
    refine sm_ldi hx hb hK hP 2 1 rfl rfl (31) rfl (by decide) (by decide) (v := sm_k mk 4) (hg_21_31) dX2_expandKey_403 ?_
    refine lv_aload_n hx hb dX2_expandKey_404 rfl (lv_at hl 2 rfl) ?_
    refine lv_bipush (v := 30) hx hb dX2_expandKey_405 (by decide) ?_
    refine sm_ldi hx hb hK hP 2 1 rfl rfl (30) rfl (by decide) (by decide) (v := sm_k mk 5) (hg_21_30) dX2_expandKey_407 ?_
    refine lv_ixor hx hb dX2_expandKey_408 ?_
    refine lv_aload_n hx hb dX2_expandKey_409 rfl (lv_at hl 2 rfl) ?_
    refine lv_bipush (v := 29) hx hb dX2_expandKey_410 (by decide) ?_
    refine sm_ldi hx hb hK hP 2 1 rfl rfl (29) rfl (by decide) (by decide) (v := sm_k mk 6) (hg_21_29) dX2_expandKey_412 ?_
    refine lv_ixor hx hb dX2_expandKey_413 ?_
    refine va_gets hx hb hZ.2.1.1 hS hown (hts _ q167) (fun _ h => h) dX2_expandKey_414 ?_
    refine lv_iconst (v := 3) hx hb dX2_expandKey_417 (by decide) ?_
    refine va_ti (i := nI (3)) (v := .int (sm_ck 3)) hx hb hZ.2.1.2 hS (vp_in_nI (by decide) (by decide)) (congrArg (fun j => Value.int (sm_ck j)) (nI_clamp (by omega))) dX2_expandKey_418 ?_
    refine lv_ixor hx hb dX2_expandKey_419 ?_
    refine vp_callSi (va_runV (As := [.int ((((sm_k mk 4) ^^^ (sm_k mk 5)) ^^^ (sm_k mk 6)) ^^^ (sm_ck 3))]) (rest := [.int (sm_k mk 3), .int (28 : Int32), .ref a_1]) ⟨hx, hb, hml, hown, hts⟩ (metX2_T_ap l D cB cI tS tC tF h0 fs ((((sm_k mk 4) ^^^ (sm_k mk 5)) ^^^ (sm_k mk 6)) ^^^ (sm_ck 3))) (cwV 1 hts (lw_V q169 q171 qs3 q15 q172) rfl rfl rfl (by decide +kernel) ⟨Nat.le_of_ble_eq_true rfl, Nat.le_of_ble_eq_true rfl⟩) ⟨sm_RO.blind, va_recv hK hP (ci := 1) (q0 := 0) rfl rfl, fun U hU hW => ⟨rfl, sm_RO.at hU hW (hP.sub (ws' := [(h0, .inr (1, fs))]) [0] rfl) hK hZ hS⟩⟩ rfl rfl hl.1 rfl (lv_room (Nat.le_of_ble_eq_true rfl)) dX2_expandKey_420 ⟨Nat.le_of_ble_eq_true rfl, Nat.le_of_ble_eq_true rfl⟩).run (fun r_22 er_22 => ?_)
    subst er_22
    refine lv_ixor hx hb dX2_expandKey_423 ?_
    refine sm_top (y := sm_k mk 7) ((sm_k4 mk 3).symm) ?_
    refine sm_sti hx hb hK hP hD hS 2 1 rfl rfl (28) rfl (by decide) (by decide) dX2_expandKey_424 (fun g_23 H locs eg_23 hP hD hS => ?_)
    have hP : va_P D sm_cl [(h0, .inr (1, fs)), (a, .inl (cB, 16, .inl f)), (a_1, .inl (cI, 32, .inl g_23)), (a_2, .inl (cI, 4, .inl g_10)), (a_11, .inl (cI, 4, .inl g_15))] H := hP
    have hD : va_D A [(h0, .inr (1, fs)), (a, .inl (cB, 16, .inl f)), (a_1, .inl (cI, 32, .inl g_23)), (a_2, .inl (cI, 4, .inl g_10)), (a_11, .inl (cI, 4, .inl g_15))] := hD
    have hg_23_31 : g_23 31 = sm_k mk 4 := by rw [eg_23]; exact (pk_un (by decide)).trans hg_21_31
    have hg_23_30 : g_23 30 = sm_k mk 5 := by rw [eg_23]; exact (pk_un (by decide)).trans hg_21_30
    have hg_23_29 : g_23 29 = sm_k mk 6 := by rw [eg_23]; exact (pk_un (by decide)).trans hg_21_29
    have hg_23_28 : g_23 28 = sm_k mk 7 := by rw [eg_23]; exact pk_us
    refine lv_bipush (v := 27) hx hb dX2_expandKey_425 (by decide) ?_
    refine lv_istore (lv' := [(5, .int (27 : Int32)), (6, .ref a_11), (4, .ref a_2), (3, .ref a_1), (0, .ref h0), (1, .int b), (2, .ref a)]) hx hb dX2_expandKey_427 hl (by decide) rfl (fun ls hl => ?_)
    have hP : va_P D sm_cl [(h0, .inr (1, fs)), (a, .inl (cB, 16, .inl f)), (a_1, .inl (cI, 32, .inl g_23))] H := hP.sub [0, 1, 2] rfl
    have hD : va_D A [(h0, .inr (1, fs)), (a, .inl (cB, 16, .inl f)), (a_1, .inl (cI, 32, .inl g_23))] := hD.sub [0, 1, 2] (by decide) rfl
    have hl : lv_has ls 7 [(5, .int (27 : Int32)), (3, .ref a_1), (0, .ref h0)] := lv_sub hl [0, 3, 4] rfl
    refine W.widen (k := 3) (n := 40) (Nat.le_of_ble_eq_true rfl) (Nat.le_of_ble_eq_true rfl) ?_
    have hg0 : ∀ j, 28 ≤ j → j < 32 → g_23 j = sm_k mk (35 - j) := by
      intro j h1 h2
      rcases (show j = 28 ∨ j = 29 ∨ j = 30 ∨ j = 31 by omega) with rfl | rfl | rfl | rfl
      · exact hg_23_28
      · exact hg_23_29
      · exact hg_23_30
      · exact hg_23_31
    have loop : ∀ (n : Nat), n ≤ 28 → ∀ (g : Nat → Int32) (H : Heap) (locs : List Loc), (∀ j, n ≤ j → j < 32 → g j = sm_k mk (35 - j)) → va_P D sm_cl [(h0, .inr (1, fs)), (a, .inl (cB, 16, .inl f)), (a_1, .inl (cI, 32, .inl g))] H → va_D A [(h0, .inr (1, fs)), (a, .inl (cB, 16, .inl f)), (a_1, .inl (cI, 32, .inl g))] → va_S A s.heap H locs → ∀ (ls : Array Slot), lv_has ls 7 [(5, .int (sm_dn n)), (3, .ref a_1), (0, .ref h0)] → W p l e (headSpec (ws_ yX2_expandKey cX2_expandKey 7 (some (.array .int))) ({ frames := 3, cells := 3, slots := 40, locals := 90 })).room s m ([.ref h0, .int b, .ref a] : List Value).toArray below meth c H locs 3 40 (MQ below (va_Qr (fun u : Nat → Int32 => ∀ j, j < 32 → u j = sm_rk b mk j) (sm_BR D A (fun u r => [(h0, .inr (1, fs)), (a, .inl (cB, 16, .inl f)), (r, .inl (cI, 32, .inl u))])) A) ([.ref h0, .int b, .ref a] : List Value).toArray s 3 40 A) (F0 m 429 ls []) := by
      intro n
      induction n with
      | zero =>
        intro hn g H locs hg hP hD hS ls hl
        refine lv_iload hx hb dX2_expandKey_429 (lv_at hl 0 rfl) ?_
        refine lv_if_lt (tgt := 485) hx hb dX2_expandKey_431 (by decide) (fun _ => ?_) (fun h => absurd (show sm_dn 0 < 0 by decide) h)
        refine lv_aload_n hx hb dX2_expandKey_485 rfl (lv_at hl 1 rfl) ?_
        exact W.aret (v := .ref a_1) hx hb hr (Or.inr ⟨_, rfl⟩) (Or.inr ⟨_, rfl⟩) (fun t ht hW => ⟨⟨g, a_1, rfl, fun j hj => (hg j (Nat.zero_le j) hj).trans (if_pos hb0).symm, by rw [ht]; exact hP, hD⟩, hS.F ht⟩) hS.2.2 dX2_expandKey_486
      | succ n ih =>
        intro hn g H locs hg hP hD hS ls hl
        have hl : lv_has ls 7 [(5, .int (nI n)), (3, .ref a_1), (0, .ref h0)] := hl
        refine lv_iload hx hb dX2_expandKey_429 (lv_at hl 0 rfl) ?_
        refine lv_if_lt (tgt := 485) hx hb dX2_expandKey_431 (by decide) (fun h => absurd h (nI_pos (by omega))) (fun _ => ?_)
        refine lv_aload_n hx hb dX2_expandKey_434 rfl (lv_at hl 1 rfl) ?_
        refine lv_iload hx hb dX2_expandKey_435 (lv_at hl 0 rfl) ?_
        refine lv_aload_n hx hb dX2_expandKey_437 rfl (lv_at hl 1 rfl) ?_
        refine lv_iload hx hb dX2_expandKey_438 (lv_at hl 0 rfl) ?_
        refine lv_iconst (v := 4) hx hb dX2_expandKey_440 (by decide) ?_
        refine lv_iadd hx hb dX2_expandKey_441 ?_
        refine sm_top (y := nI (n + 4)) (sm_add n 4 (rfl) (rfl)) ?_
        refine sm_ldi hx hb hK hP 2 1 rfl rfl (n + 4) rfl (by omega) (by decide) (v := sm_k mk (31 - n)) ((hg (n + 4) (by omega) (by omega)).trans (congrArg (sm_k mk) (by omega))) dX2_expandKey_442 ?_
        refine lv_aload_n hx hb dX2_expandKey_443 rfl (lv_at hl 2 rfl) ?_
        refine lv_aload_n hx hb dX2_expandKey_444 rfl (lv_at hl 1 rfl) ?_
        refine lv_iload hx hb dX2_expandKey_445 (lv_at hl 0 rfl) ?_
        refine lv_iconst (v := 3) hx hb dX2_expandKey_447 (by decide) ?_
        refine lv_iadd hx hb dX2_expandKey_448 ?_
        refine sm_top (y := nI (n + 3)) (sm_add n 3 (rfl) (rfl)) ?_
        refine sm_ldi hx hb hK hP 2 1 rfl rfl (n + 3) rfl (by omega) (by decide) (v := sm_k mk (31 - n + 1)) ((hg (n + 3) (by omega) (by omega)).trans (congrArg (sm_k mk) (by omega))) dX2_expandKey_449 ?_
        refine lv_aload_n hx hb dX2_expandKey_450 rfl (lv_at hl 1 rfl) ?_
        refine lv_iload hx hb dX2_expandKey_451 (lv_at hl 0 rfl) ?_
        refine lv_iconst (v := 2) hx hb dX2_expandKey_453 (by decide) ?_
        refine lv_iadd hx hb dX2_expandKey_454 ?_
        refine sm_top (y := nI (n + 2)) (sm_add n 2 (rfl) (rfl)) ?_
        refine sm_ldi hx hb hK hP 2 1 rfl rfl (n + 2) rfl (by omega) (by decide) (v := sm_k mk (31 - n + 2)) ((hg (n + 2) (by omega) (by omega)).trans (congrArg (sm_k mk) (by omega))) dX2_expandKey_455 ?_
        refine lv_ixor hx hb dX2_expandKey_456 ?_
        refine lv_aload_n hx hb dX2_expandKey_457 rfl (lv_at hl 1 rfl) ?_
        refine lv_iload hx hb dX2_expandKey_458 (lv_at hl 0 rfl) ?_
        refine lv_iconst (v := 1) hx hb dX2_expandKey_460 (by decide) ?_
        refine lv_iadd hx hb dX2_expandKey_461 ?_
        refine sm_top (y := nI (n + 1)) (sm_add n 1 (rfl) (rfl)) ?_
        refine sm_ldi hx hb hK hP 2 1 rfl rfl (n + 1) rfl (by omega) (by decide) (v := sm_k mk (31 - n + 3)) ((hg (n + 1) (by omega) (by omega)).trans (congrArg (sm_k mk) (by omega))) dX2_expandKey_462 ?_
        refine lv_ixor hx hb dX2_expandKey_463 ?_
        refine va_gets hx hb hZ.2.1.1 hS hown (hts _ q167) (fun _ h => h) dX2_expandKey_464 ?_
        refine lv_bipush (v := 31) hx hb dX2_expandKey_467 (by decide) ?_
        refine lv_iload hx hb dX2_expandKey_469 (lv_at hl 0 rfl) ?_
        refine lv_isub hx hb dX2_expandKey_471 ?_
        refine sm_top (y := nI (31 - n)) (sm_sub (by omega) (rfl) (rfl)) ?_
        refine va_ti (i := nI (31 - n)) (v := .int (sm_ck (31 - n))) hx hb hZ.2.1.2 hS (vp_in_nI (show 31 - n < 32 by omega) (by decide)) (congrArg (fun j => Value.int (sm_ck j)) (nI_clamp (by omega))) dX2_expandKey_472 ?_
        refine lv_ixor hx hb dX2_expandKey_473 ?_
        refine vp_callSi (va_runV (As := [.int ((((sm_k mk (31 - n + 1)) ^^^ (sm_k mk (31 - n + 2))) ^^^ (sm_k mk (31 - n + 3))) ^^^ (sm_ck (31 - n)))]) (rest := [.int (sm_k mk (31 - n)), .int (nI n), .ref a_1]) ⟨hx, hb, hml, hown, hts⟩ (metX2_T_ap l D cB cI tS tC tF h0 fs ((((sm_k mk (31 - n + 1)) ^^^ (sm_k mk (31 - n + 2))) ^^^ (sm_k mk (31 - n + 3))) ^^^ (sm_ck (31 - n)))) (cwV 1 hts (lw_V q169 q171 qs3 q15 q172) rfl rfl rfl (by decide +kernel) ⟨Nat.le_of_ble_eq_true rfl, Nat.le_of_ble_eq_true rfl⟩) ⟨sm_RO.blind, va_recv hK hP (ci := 1) (q0 := 0) rfl rfl, fun U hU hW => ⟨rfl, sm_RO.at hU hW (hP.sub (ws' := [(h0, .inr (1, fs))]) [0] rfl) hK hZ hS⟩⟩ rfl rfl hl.1 rfl (lv_room (Nat.le_of_ble_eq_true rfl)) dX2_expandKey_474 ⟨Nat.le_of_ble_eq_true rfl, Nat.le_of_ble_eq_true rfl⟩).run (fun r_24 er_24 => ?_)
        subst er_24
        refine lv_ixor hx hb dX2_expandKey_477 ?_
        refine sm_top (y := sm_k mk (31 - n + 4)) ((sm_k4 mk (31 - n)).symm) ?_
        refine sm_sti hx hb hK hP hD hS 2 1 rfl rfl (n) rfl (by omega) (by decide) dX2_expandKey_478 (fun g_25 H locs eg_25 hP hD hS => ?_)
        have hP : va_P D sm_cl [(h0, .inr (1, fs)), (a, .inl (cB, 16, .inl f)), (a_1, .inl (cI, 32, .inl g_25))] H := hP
        have hD : va_D A [(h0, .inr (1, fs)), (a, .inl (cB, 16, .inl f)), (a_1, .inl (cI, 32, .inl g_25))] := hD
        have hg1 : ∀ j, n ≤ j → j < 32 → g_25 j = sm_k mk (35 - j) := by
          intro j h1 h2
          rcases (show j = n ∨ n + 1 ≤ j by omega) with rfl | h3
          · rw [eg_25, pk_us]; exact congrArg (sm_k mk) (by omega)
          · rw [eg_25, pk_un (by omega)]; exact hg j h3 h2
        refine lv_iinc (v := sm_dn n) (lv' := [(5, .int (sm_dn n)), (3, .ref a_1), (0, .ref h0)]) hx hb dX2_expandKey_479 hl (k := 0) rfl (by rw [show Int32.ofInt (-1) = (-1 : Int32) from by decide]; exact sm_dn1 n) (by decide) rfl (fun ls hl => ?_)
        refine lv_goto (tgt := 429) hx hb dX2_expandKey_482 (by decide) ?_
        exact ih (by omega) g_25 H locs hg1 hP hD hS ls hl
    exact loop 28 (by decide) g_23 _ _ hg0 hP hD hS ls hl
  · skip
    refine lv_aload_n hx hb dX2_expandKey_113 rfl (lv_at hl 2 rfl) ?_
    refine lv_iconst (v := 0) hx hb dX2_expandKey_114 (by decide) ?_
    refine lv_aload hx hb dX2_expandKey_115 (lv_at hl 0 rfl) ?_
    refine lv_iconst (v := 0) hx hb dX2_expandKey_117 (by decide) ?_
    refine sm_ldi hx hb hK hP 4 1 rfl rfl (0) rfl (by decide) (by decide) (v := sm_k mk 0) (hg_15_0) dX2_expandKey_118 ?_
    refine lv_aload_n hx hb dX2_expandKey_119 rfl (lv_at hl 3 rfl) ?_
    refine lv_aload hx hb dX2_expandKey_120 (lv_at hl 0 rfl) ?_
    refine lv_iconst (v := 1) hx hb dX2_expandKey_122 (by decide) ?_
    refine sm_ldi hx hb hK hP 4 1 rfl rfl (1) rfl (by decide) (by decide) (v := sm_k mk 1) (hg_15_1) dX2_expandKey_123 ?_
    refine lv_aload hx hb dX2_expandKey_124 (lv_at hl 0 rfl) ?_
    refine lv_iconst (v := 2) hx hb dX2_expandKey_126 (by decide) ?_
    refine sm_ldi hx hb hK hP 4 1 rfl rfl (2) rfl (by decide) (by decide) (v := sm_k mk 2) (hg_15_2) dX2_expandKey_127 ?_
    refine lv_ixor hx hb dX2_expandKey_128 ?_
    refine lv_aload hx hb dX2_expandKey_129 (lv_at hl 0 rfl) ?_
    refine lv_iconst (v := 3) hx hb dX2_expandKey_131 (by decide) ?_
    refine sm_ldi hx hb hK hP 4 1 rfl rfl (3) rfl (by decide) (by decide) (v := sm_k mk 3) (hg_15_3) dX2_expandKey_132 ?_
    refine lv_ixor hx hb dX2_expandKey_133 ?_
    refine va_gets hx hb hZ.2.1.1 hS hown (hts _ q167) (fun _ h => h) dX2_expandKey_134 ?_
    refine lv_iconst (v := 0) hx hb dX2_expandKey_137 (by decide) ?_
    refine va_ti (i := nI (0)) (v := .int (sm_ck 0)) hx hb hZ.2.1.2 hS (vp_in_nI (by decide) (by decide)) (congrArg (fun j => Value.int (sm_ck j)) (nI_clamp (by omega))) dX2_expandKey_138 ?_
    refine lv_ixor hx hb dX2_expandKey_139 ?_
    refine vp_callSi (va_runV (As := [.int ((((sm_k mk 1) ^^^ (sm_k mk 2)) ^^^ (sm_k mk 3)) ^^^ (sm_ck 0))]) (rest := [.int (sm_k mk 0), .int (0 : Int32), .ref a_1]) ⟨hx, hb, hml, hown, hts⟩ (metX2_T_ap l D cB cI tS tC tF h0 fs ((((sm_k mk 1) ^^^ (sm_k mk 2)) ^^^ (sm_k mk 3)) ^^^ (sm_ck 0))) (cwV 1 hts (lw_V q169 q171 qs3 q15 q172) rfl rfl rfl (by decide +kernel) ⟨Nat.le_of_ble_eq_true rfl, Nat.le_of_ble_eq_true rfl⟩) ⟨sm_RO.blind, va_recv hK hP (ci := 1) (q0 := 0) rfl rfl, fun U hU hW => ⟨rfl, sm_RO.at hU hW (hP.sub (ws' := [(h0, .inr (1, fs))]) [0] rfl) hK hZ hS⟩⟩ rfl rfl hl.1 rfl (lv_room (Nat.le_of_ble_eq_true rfl)) dX2_expandKey_140 ⟨Nat.le_of_ble_eq_true rfl, Nat.le_of_ble_eq_true rfl⟩).run (fun r_26 er_26 => ?_)
    subst er_26
    refine lv_ixor hx hb dX2_expandKey_143 ?_
    refine sm_top (y := sm_k mk 4) ((sm_k4 mk 0).symm) ?_
    refine sm_sti hx hb hK hP hD hS 2 1 rfl rfl (0) rfl (by decide) (by decide) dX2_expandKey_144 (fun g_27 H locs eg_27 hP hD hS => ?_)
    have hP : va_P D sm_cl [(h0, .inr (1, fs)), (a, .inl (cB, 16, .inl f)), (a_1, .inl (cI, 32, .inl g_27)), (a_2, .inl (cI, 4, .inl g_10)), (a_11, .inl (cI, 4, .inl g_15))] H := hP
    have hD : va_D A [(h0, .inr (1, fs)), (a, .inl (cB, 16, .inl f)), (a_1, .inl (cI, 32, .inl g_27)), (a_2, .inl (cI, 4, .inl g_10)), (a_11, .inl (cI, 4, .inl g_15))] := hD
    have hg_27_0 : g_27 0 = sm_k mk 4 := by rw [eg_27]; exact pk_us
    refine lv_aload_n hx hb dX2_expandKey_145 rfl (lv_at hl 2 rfl) ?_
    refine lv_iconst (v := 1) hx hb dX2_expandKey_146 (by decide) ?_
    refine lv_aload hx hb dX2_expandKey_147 (lv_at hl 0 rfl) ?_
    refine lv_iconst (v := 1) hx hb dX2_expandKey_149 (by decide) ?_
    refine sm_ldi hx hb hK hP 4 1 rfl rfl (1) rfl (by decide) (by decide) (v := sm_k mk 1) (hg_15_1) dX2_expandKey_150 ?_
    refine lv_aload_n hx hb dX2_expandKey_151 rfl (lv_at hl 3 rfl) ?_
    refine lv_aload hx hb dX2_expandKey_152 (lv_at hl 0 rfl) ?_
    refine lv_iconst (v := 2) hx hb dX2_expandKey_154 (by decide) ?_
    refine sm_ldi hx hb hK hP 4 1 rfl rfl (2) rfl (by decide) (by decide) (v := sm_k mk 2) (hg_15_2) dX2_expandKey_155 ?_
    refine lv_aload hx hb dX2_expandKey_156 (lv_at hl 0 rfl) ?_
    refine lv_iconst (v := 3) hx hb dX2_expandKey_158 (by decide) ?_
    refine sm_ldi hx hb hK hP 4 1 rfl rfl (3) rfl (by decide) (by decide) (v := sm_k mk 3) (hg_15_3) dX2_expandKey_159 ?_
    refine lv_ixor hx hb dX2_expandKey_160 ?_
    refine lv_aload_n hx hb dX2_expandKey_161 rfl (lv_at hl 2 rfl) ?_
    refine lv_iconst (v := 0) hx hb dX2_expandKey_162 (by decide) ?_
    refine sm_ldi hx hb hK hP 2 1 rfl rfl (0) rfl (by decide) (by decide) (v := sm_k mk 4) (hg_27_0) dX2_expandKey_163 ?_
    refine lv_ixor hx hb dX2_expandKey_164 ?_
    refine va_gets hx hb hZ.2.1.1 hS hown (hts _ q167) (fun _ h => h) dX2_expandKey_165 ?_
    refine lv_iconst (v := 1) hx hb dX2_expandKey_168 (by decide) ?_
    refine va_ti (i := nI (1)) (v := .int (sm_ck 1)) hx hb hZ.2.1.2 hS (vp_in_nI (by decide) (by decide)) (congrArg (fun j => Value.int (sm_ck j)) (nI_clamp (by omega))) dX2_expandKey_169 ?_
    refine lv_ixor hx hb dX2_expandKey_170 ?_
    refine vp_callSi (va_runV (As := [.int ((((sm_k mk 2) ^^^ (sm_k mk 3)) ^^^ (sm_k mk 4)) ^^^ (sm_ck 1))]) (rest := [.int (sm_k mk 1), .int (1 : Int32), .ref a_1]) ⟨hx, hb, hml, hown, hts⟩ (metX2_T_ap l D cB cI tS tC tF h0 fs ((((sm_k mk 2) ^^^ (sm_k mk 3)) ^^^ (sm_k mk 4)) ^^^ (sm_ck 1))) (cwV 1 hts (lw_V q169 q171 qs3 q15 q172) rfl rfl rfl (by decide +kernel) ⟨Nat.le_of_ble_eq_true rfl, Nat.le_of_ble_eq_true rfl⟩) ⟨sm_RO.blind, va_recv hK hP (ci := 1) (q0 := 0) rfl rfl, fun U hU hW => ⟨rfl, sm_RO.at hU hW (hP.sub (ws' := [(h0, .inr (1, fs))]) [0] rfl) hK hZ hS⟩⟩ rfl rfl hl.1 rfl (lv_room (Nat.le_of_ble_eq_true rfl)) dX2_expandKey_171 ⟨Nat.le_of_ble_eq_true rfl, Nat.le_of_ble_eq_true rfl⟩).run (fun r_28 er_28 => ?_)
    subst er_28
    refine lv_ixor hx hb dX2_expandKey_174 ?_
    refine sm_top (y := sm_k mk 5) ((sm_k4 mk 1).symm) ?_
    refine sm_sti hx hb hK hP hD hS 2 1 rfl rfl (1) rfl (by decide) (by decide) dX2_expandKey_175 (fun g_29 H locs eg_29 hP hD hS => ?_)
    have hP : va_P D sm_cl [(h0, .inr (1, fs)), (a, .inl (cB, 16, .inl f)), (a_1, .inl (cI, 32, .inl g_29)), (a_2, .inl (cI, 4, .inl g_10)), (a_11, .inl (cI, 4, .inl g_15))] H := hP
    have hD : va_D A [(h0, .inr (1, fs)), (a, .inl (cB, 16, .inl f)), (a_1, .inl (cI, 32, .inl g_29)), (a_2, .inl (cI, 4, .inl g_10)), (a_11, .inl (cI, 4, .inl g_15))] := hD
    have hg_29_0 : g_29 0 = sm_k mk 4 := by rw [eg_29]; exact (pk_un (by decide)).trans hg_27_0
    have hg_29_1 : g_29 1 = sm_k mk 5 := by rw [eg_29]; exact pk_us
    refine lv_aload_n hx hb dX2_expandKey_176 rfl (lv_at hl 2 rfl) ?_
    refine lv_iconst (v := 2) hx hb dX2_expandKey_177 (by decide) ?_
    refine lv_aload hx hb dX2_expandKey_178 (lv_at hl 0 rfl) ?_
    refine lv_iconst (v := 2) hx hb dX2_expandKey_180 (by decide) ?_
    refine sm_ldi hx hb hK hP 4 1 rfl rfl (2) rfl (by decide) (by decide) (v := sm_k mk 2) (hg_15_2) dX2_expandKey_181 ?_
    refine lv_aload_n hx hb dX2_expandKey_182 rfl (lv_at hl 3 rfl) ?_
    refine lv_aload hx hb dX2_expandKey_183 (lv_at hl 0 rfl) ?_
    refine lv_iconst (v := 3) hx hb dX2_expandKey_185 (by decide) ?_
    refine sm_ldi hx hb hK hP 4 1 rfl rfl (3) rfl (by decide) (by decide) (v := sm_k mk 3) (hg_15_3) dX2_expandKey_186 ?_
    refine lv_aload_n hx hb dX2_expandKey_187 rfl (lv_at hl 2 rfl) ?_
    refine lv_iconst (v := 0) hx hb dX2_expandKey_188 (by decide) ?_
    refine sm_ldi hx hb hK hP 2 1 rfl rfl (0) rfl (by decide) (by decide) (v := sm_k mk 4) (hg_29_0) dX2_expandKey_189 ?_
    refine lv_ixor hx hb dX2_expandKey_190 ?_
    refine lv_aload_n hx hb dX2_expandKey_191 rfl (lv_at hl 2 rfl) ?_
    refine lv_iconst (v := 1) hx hb dX2_expandKey_192 (by decide) ?_
    refine sm_ldi hx hb hK hP 2 1 rfl rfl (1) rfl (by decide) (by decide) (v := sm_k mk 5) (hg_29_1) dX2_expandKey_193 ?_
    refine lv_ixor hx hb dX2_expandKey_194 ?_
    refine va_gets hx hb hZ.2.1.1 hS hown (hts _ q167) (fun _ h => h) dX2_expandKey_195 ?_
    refine lv_iconst (v := 2) hx hb dX2_expandKey_198 (by decide) ?_
    refine va_ti (i := nI (2)) (v := .int (sm_ck 2)) hx hb hZ.2.1.2 hS (vp_in_nI (by decide) (by decide)) (congrArg (fun j => Value.int (sm_ck j)) (nI_clamp (by omega))) dX2_expandKey_199 ?_
    refine lv_ixor hx hb dX2_expandKey_200 ?_
    refine vp_callSi (va_runV (As := [.int ((((sm_k mk 3) ^^^ (sm_k mk 4)) ^^^ (sm_k mk 5)) ^^^ (sm_ck 2))]) (rest := [.int (sm_k mk 2), .int (2 : Int32), .ref a_1]) ⟨hx, hb, hml, hown, hts⟩ (metX2_T_ap l D cB cI tS tC tF h0 fs ((((sm_k mk 3) ^^^ (sm_k mk 4)) ^^^ (sm_k mk 5)) ^^^ (sm_ck 2))) (cwV 1 hts (lw_V q169 q171 qs3 q15 q172) rfl rfl rfl (by decide +kernel) ⟨Nat.le_of_ble_eq_true rfl, Nat.le_of_ble_eq_true rfl⟩) ⟨sm_RO.blind, va_recv hK hP (ci := 1) (q0 := 0) rfl rfl, fun U hU hW => ⟨rfl, sm_RO.at hU hW (hP.sub (ws' := [(h0, .inr (1, fs))]) [0] rfl) hK hZ hS⟩⟩ rfl rfl hl.1 rfl (lv_room (Nat.le_of_ble_eq_true rfl)) dX2_expandKey_201 ⟨Nat.le_of_ble_eq_true rfl, Nat.le_of_ble_eq_true rfl⟩).run (fun r_30 er_30 => ?_)
    subst er_30
    refine lv_ixor hx hb dX2_expandKey_204 ?_
    refine sm_top (y := sm_k mk 6) ((sm_k4 mk 2).symm) ?_
    refine sm_sti hx hb hK hP hD hS 2 1 rfl rfl (2) rfl (by decide) (by decide) dX2_expandKey_205 (fun g_31 H locs eg_31 hP hD hS => ?_)
    have hP : va_P D sm_cl [(h0, .inr (1, fs)), (a, .inl (cB, 16, .inl f)), (a_1, .inl (cI, 32, .inl g_31)), (a_2, .inl (cI, 4, .inl g_10)), (a_11, .inl (cI, 4, .inl g_15))] H := hP
    have hD : va_D A [(h0, .inr (1, fs)), (a, .inl (cB, 16, .inl f)), (a_1, .inl (cI, 32, .inl g_31)), (a_2, .inl (cI, 4, .inl g_10)), (a_11, .inl (cI, 4, .inl g_15))] := hD
    have hg_31_0 : g_31 0 = sm_k mk 4 := by rw [eg_31]; exact (pk_un (by decide)).trans hg_29_0
    have hg_31_1 : g_31 1 = sm_k mk 5 := by rw [eg_31]; exact (pk_un (by decide)).trans hg_29_1
    have hg_31_2 : g_31 2 = sm_k mk 6 := by rw [eg_31]; exact pk_us
    refine lv_aload_n hx hb dX2_expandKey_206 rfl (lv_at hl 2 rfl) ?_
    refine lv_iconst (v := 3) hx hb dX2_expandKey_207 (by decide) ?_
    refine lv_aload hx hb dX2_expandKey_208 (lv_at hl 0 rfl) ?_
    refine lv_iconst (v := 3) hx hb dX2_expandKey_210 (by decide) ?_
    refine sm_ldi hx hb hK hP 4 1 rfl rfl (3) rfl (by decide) (by decide) (v := sm_k mk 3) (hg_15_3) dX2_expandKey_211 ?_
    refine lv_aload_n hx hb dX2_expandKey_212 rfl (lv_at hl 3 rfl) ?_
    refine lv_aload_n hx hb dX2_expandKey_213 rfl (lv_at hl 2 rfl) ?_
    refine lv_iconst (v := 0) hx hb dX2_expandKey_214 (by decide) ?_
    refine sm_ldi hx hb hK hP 2 1 rfl rfl (0) rfl (by decide) (by decide) (v := sm_k mk 4) (hg_31_0) dX2_expandKey_215 ?_
    refine lv_aload_n hx hb dX2_expandKey_216 rfl (lv_at hl 2 rfl) ?_
    refine lv_iconst (v := 1) hx hb dX2_expandKey_217 (by decide) ?_
    refine sm_ldi hx hb hK hP 2 1 rfl rfl (1) rfl (by decide) (by decide) (v := sm_k mk 5) (hg_31_1) dX2_expandKey_218 ?_
    refine lv_ixor hx hb dX2_expandKey_219 ?_
    refine lv_aload_n hx hb dX2_expandKey_220 rfl (lv_at hl 2 rfl) ?_
    refine lv_iconst (v := 2) hx hb dX2_expandKey_221 (by decide) ?_
    refine sm_ldi hx hb hK hP 2 1 rfl rfl (2) rfl (by decide) (by decide) (v := sm_k mk 6) (hg_31_2) dX2_expandKey_222 ?_
    refine lv_ixor hx hb dX2_expandKey_223 ?_
    refine va_gets hx hb hZ.2.1.1 hS hown (hts _ q167) (fun _ h => h) dX2_expandKey_224 ?_
    refine lv_iconst (v := 3) hx hb dX2_expandKey_227 (by decide) ?_
    refine va_ti (i := nI (3)) (v := .int (sm_ck 3)) hx hb hZ.2.1.2 hS (vp_in_nI (by decide) (by decide)) (congrArg (fun j => Value.int (sm_ck j)) (nI_clamp (by omega))) dX2_expandKey_228 ?_
    refine lv_ixor hx hb dX2_expandKey_229 ?_
    refine vp_callSi (va_runV (As := [.int ((((sm_k mk 4) ^^^ (sm_k mk 5)) ^^^ (sm_k mk 6)) ^^^ (sm_ck 3))]) (rest := [.int (sm_k mk 3), .int (3 : Int32), .ref a_1]) ⟨hx, hb, hml, hown, hts⟩ (metX2_T_ap l D cB cI tS tC tF h0 fs ((((sm_k mk 4) ^^^ (sm_k mk 5)) ^^^ (sm_k mk 6)) ^^^ (sm_ck 3))) (cwV 1 hts (lw_V q169 q171 qs3 q15 q172) rfl rfl rfl (by decide +kernel) ⟨Nat.le_of_ble_eq_true rfl, Nat.le_of_ble_eq_true rfl⟩) ⟨sm_RO.blind, va_recv hK hP (ci := 1) (q0 := 0) rfl rfl, fun U hU hW => ⟨rfl, sm_RO.at hU hW (hP.sub (ws' := [(h0, .inr (1, fs))]) [0] rfl) hK hZ hS⟩⟩ rfl rfl hl.1 rfl (lv_room (Nat.le_of_ble_eq_true rfl)) dX2_expandKey_230 ⟨Nat.le_of_ble_eq_true rfl, Nat.le_of_ble_eq_true rfl⟩).run (fun r_32 er_32 => ?_)
    subst er_32
    refine lv_ixor hx hb dX2_expandKey_233 ?_
    refine sm_top (y := sm_k mk 7) ((sm_k4 mk 3).symm) ?_
    refine sm_sti hx hb hK hP hD hS 2 1 rfl rfl (3) rfl (by decide) (by decide) dX2_expandKey_234 (fun g_33 H locs eg_33 hP hD hS => ?_)
    have hP : va_P D sm_cl [(h0, .inr (1, fs)), (a, .inl (cB, 16, .inl f)), (a_1, .inl (cI, 32, .inl g_33)), (a_2, .inl (cI, 4, .inl g_10)), (a_11, .inl (cI, 4, .inl g_15))] H := hP
    have hD : va_D A [(h0, .inr (1, fs)), (a, .inl (cB, 16, .inl f)), (a_1, .inl (cI, 32, .inl g_33)), (a_2, .inl (cI, 4, .inl g_10)), (a_11, .inl (cI, 4, .inl g_15))] := hD
    have hg_33_0 : g_33 0 = sm_k mk 4 := by rw [eg_33]; exact (pk_un (by decide)).trans hg_31_0
    have hg_33_1 : g_33 1 = sm_k mk 5 := by rw [eg_33]; exact (pk_un (by decide)).trans hg_31_1
    have hg_33_2 : g_33 2 = sm_k mk 6 := by rw [eg_33]; exact (pk_un (by decide)).trans hg_31_2
    have hg_33_3 : g_33 3 = sm_k mk 7 := by rw [eg_33]; exact pk_us
    refine lv_iconst (v := 4) hx hb dX2_expandKey_235 (by decide) ?_
    refine lv_istore (lv' := [(5, .int (4 : Int32)), (6, .ref a_11), (4, .ref a_2), (3, .ref a_1), (0, .ref h0), (1, .int b), (2, .ref a)]) hx hb dX2_expandKey_236 hl (by decide) rfl (fun ls hl => ?_)
    have hP : va_P D sm_cl [(h0, .inr (1, fs)), (a, .inl (cB, 16, .inl f)), (a_1, .inl (cI, 32, .inl g_33))] H := hP.sub [0, 1, 2] rfl
    have hD : va_D A [(h0, .inr (1, fs)), (a, .inl (cB, 16, .inl f)), (a_1, .inl (cI, 32, .inl g_33))] := hD.sub [0, 1, 2] (by decide) rfl
    have hl : lv_has ls 7 [(5, .int (4 : Int32)), (3, .ref a_1), (0, .ref h0)] := lv_sub hl [0, 3, 4] rfl
    refine W.widen (k := 3) (n := 40) (Nat.le_of_ble_eq_true rfl) (Nat.le_of_ble_eq_true rfl) ?_
    have hg0 : ∀ j, j < 4 → g_33 j = sm_k mk (j + 4) := by
      intro j h1
      rcases (show j = 0 ∨ j = 1 ∨ j = 2 ∨ j = 3 by omega) with rfl | rfl | rfl | rfl
      · exact hg_33_0
      · exact hg_33_1
      · exact hg_33_2
      · exact hg_33_3
    have loop : ∀ (n i : Nat), i + n = 32 → 4 ≤ i → ∀ (g : Nat → Int32) (H : Heap) (locs : List Loc), (∀ j, j < i → g j = sm_k mk (j + 4)) → va_P D sm_cl [(h0, .inr (1, fs)), (a, .inl (cB, 16, .inl f)), (a_1, .inl (cI, 32, .inl g))] H → va_D A [(h0, .inr (1, fs)), (a, .inl (cB, 16, .inl f)), (a_1, .inl (cI, 32, .inl g))] → va_S A s.heap H locs → ∀ (ls : Array Slot), lv_has ls 7 [(5, .int (nI i)), (3, .ref a_1), (0, .ref h0)] → W p l e (headSpec (ws_ yX2_expandKey cX2_expandKey 7 (some (.array .int))) ({ frames := 3, cells := 3, slots := 40, locals := 90 })).room s m ([.ref h0, .int b, .ref a] : List Value).toArray below meth c H locs 3 40 (MQ below (va_Qr (fun u : Nat → Int32 => ∀ j, j < 32 → u j = sm_rk b mk j) (sm_BR D A (fun u r => [(h0, .inr (1, fs)), (a, .inl (cB, 16, .inl f)), (r, .inl (cI, 32, .inl u))])) A) ([.ref h0, .int b, .ref a] : List Value).toArray s 3 40 A) (F0 m 238 ls []) := by
      intro n
      induction n with
      | zero =>
        intro i hi hi4 g H locs hg hP hD hS ls hl
        obtain rfl : i = 32 := by omega
        refine lv_iload hx hb dX2_expandKey_238 (lv_at hl 0 rfl) ?_
        refine lv_bipush (v := 32) hx hb dX2_expandKey_240 (by decide) ?_
        refine lv_icmp_ge (tgt := 485) hx hb dX2_expandKey_242 (by decide) (fun _ => ?_) (fun h => absurd (show (32 : Int32) ≤ nI 32 by decide) h)
        refine lv_aload_n hx hb dX2_expandKey_485 rfl (lv_at hl 1 rfl) ?_
        exact W.aret (v := .ref a_1) hx hb hr (Or.inr ⟨_, rfl⟩) (Or.inr ⟨_, rfl⟩) (fun t ht hW => ⟨⟨g, a_1, rfl, fun j hj => (hg j hj).trans (if_neg hb0).symm, by rw [ht]; exact hP, hD⟩, hS.F ht⟩) hS.2.2 dX2_expandKey_486
      | succ n ih =>
        intro i hi hi4 g H locs hg hP hD hS ls hl
        refine lv_iload hx hb dX2_expandKey_238 (lv_at hl 0 rfl) ?_
        refine lv_bipush (v := 32) hx hb dX2_expandKey_240 (by decide) ?_
        refine lv_icmp_ge (tgt := 485) hx hb dX2_expandKey_242 (by decide) (fun h => absurd h (nI_ge (a := i) (b := 32) (by omega) (by decide))) (fun _ => ?_)
        refine lv_aload_n hx hb dX2_expandKey_245 rfl (lv_at hl 1 rfl) ?_
        refine lv_iload hx hb dX2_expandKey_246 (lv_at hl 0 rfl) ?_
        refine lv_aload_n hx hb dX2_expandKey_248 rfl (lv_at hl 1 rfl) ?_
        refine lv_iload hx hb dX2_expandKey_249 (lv_at hl 0 rfl) ?_
        refine lv_iconst (v := 4) hx hb dX2_expandKey_251 (by decide) ?_
        refine lv_isub hx hb dX2_expandKey_252 ?_
        refine sm_top (y := nI (i - 4)) (sm_sub (by omega) (rfl) (rfl)) ?_
        refine sm_ldi hx hb hK hP 2 1 rfl rfl (i - 4) rfl (by omega) (by decide) (v := sm_k mk (i)) ((hg (i - 4) (by omega)).trans (congrArg (sm_k mk) (by omega))) dX2_expandKey_253 ?_
        refine lv_aload_n hx hb dX2_expandKey_254 rfl (lv_at hl 2 rfl) ?_
        refine lv_aload_n hx hb dX2_expandKey_255 rfl (lv_at hl 1 rfl) ?_
        refine lv_iload hx hb dX2_expandKey_256 (lv_at hl 0 rfl) ?_
        refine lv_iconst (v := 3) hx hb dX2_expandKey_258 (by decide) ?_
        refine lv_isub hx hb dX2_expandKey_259 ?_
        refine sm_top (y := nI (i - 3)) (sm_sub (by omega) (rfl) (rfl)) ?_
        refine sm_ldi hx hb hK hP 2 1 rfl rfl (i - 3) rfl (by omega) (by decide) (v := sm_k mk (i + 1)) ((hg (i - 3) (by omega)).trans (congrArg (sm_k mk) (by omega))) dX2_expandKey_260 ?_
        refine lv_aload_n hx hb dX2_expandKey_261 rfl (lv_at hl 1 rfl) ?_
        refine lv_iload hx hb dX2_expandKey_262 (lv_at hl 0 rfl) ?_
        refine lv_iconst (v := 2) hx hb dX2_expandKey_264 (by decide) ?_
        refine lv_isub hx hb dX2_expandKey_265 ?_
        refine sm_top (y := nI (i - 2)) (sm_sub (by omega) (rfl) (rfl)) ?_
        refine sm_ldi hx hb hK hP 2 1 rfl rfl (i - 2) rfl (by omega) (by decide) (v := sm_k mk (i + 2)) ((hg (i - 2) (by omega)).trans (congrArg (sm_k mk) (by omega))) dX2_expandKey_266 ?_
        refine lv_ixor hx hb dX2_expandKey_267 ?_
        refine lv_aload_n hx hb dX2_expandKey_268 rfl (lv_at hl 1 rfl) ?_
        refine lv_iload hx hb dX2_expandKey_269 (lv_at hl 0 rfl) ?_
        refine lv_iconst (v := 1) hx hb dX2_expandKey_271 (by decide) ?_
        refine lv_isub hx hb dX2_expandKey_272 ?_
        refine sm_top (y := nI (i - 1)) (sm_sub (by omega) (rfl) (rfl)) ?_
        refine sm_ldi hx hb hK hP 2 1 rfl rfl (i - 1) rfl (by omega) (by decide) (v := sm_k mk (i + 3)) ((hg (i - 1) (by omega)).trans (congrArg (sm_k mk) (by omega))) dX2_expandKey_273 ?_
        refine lv_ixor hx hb dX2_expandKey_274 ?_
        refine va_gets hx hb hZ.2.1.1 hS hown (hts _ q167) (fun _ h => h) dX2_expandKey_275 ?_
        refine lv_iload hx hb dX2_expandKey_278 (lv_at hl 0 rfl) ?_
        refine va_ti (i := nI (i)) (v := .int (sm_ck i)) hx hb hZ.2.1.2 hS (vp_in_nI (show i < 32 by omega) (by decide)) (congrArg (fun j => Value.int (sm_ck j)) (nI_clamp (by omega))) dX2_expandKey_280 ?_
        refine lv_ixor hx hb dX2_expandKey_281 ?_
        refine vp_callSi (va_runV (As := [.int ((((sm_k mk (i + 1)) ^^^ (sm_k mk (i + 2))) ^^^ (sm_k mk (i + 3))) ^^^ (sm_ck i))]) (rest := [.int (sm_k mk (i)), .int (nI i), .ref a_1]) ⟨hx, hb, hml, hown, hts⟩ (metX2_T_ap l D cB cI tS tC tF h0 fs ((((sm_k mk (i + 1)) ^^^ (sm_k mk (i + 2))) ^^^ (sm_k mk (i + 3))) ^^^ (sm_ck i))) (cwV 1 hts (lw_V q169 q171 qs3 q15 q172) rfl rfl rfl (by decide +kernel) ⟨Nat.le_of_ble_eq_true rfl, Nat.le_of_ble_eq_true rfl⟩) ⟨sm_RO.blind, va_recv hK hP (ci := 1) (q0 := 0) rfl rfl, fun U hU hW => ⟨rfl, sm_RO.at hU hW (hP.sub (ws' := [(h0, .inr (1, fs))]) [0] rfl) hK hZ hS⟩⟩ rfl rfl hl.1 rfl (lv_room (Nat.le_of_ble_eq_true rfl)) dX2_expandKey_282 ⟨Nat.le_of_ble_eq_true rfl, Nat.le_of_ble_eq_true rfl⟩).run (fun r_34 er_34 => ?_)
        subst er_34
        refine lv_ixor hx hb dX2_expandKey_285 ?_
        refine sm_top (y := sm_k mk (i + 4)) ((sm_k4 mk i).symm) ?_
        refine sm_sti hx hb hK hP hD hS 2 1 rfl rfl (i) rfl (by omega) (by decide) dX2_expandKey_286 (fun g_35 H locs eg_35 hP hD hS => ?_)
        have hP : va_P D sm_cl [(h0, .inr (1, fs)), (a, .inl (cB, 16, .inl f)), (a_1, .inl (cI, 32, .inl g_35))] H := hP
        have hD : va_D A [(h0, .inr (1, fs)), (a, .inl (cB, 16, .inl f)), (a_1, .inl (cI, 32, .inl g_35))] := hD
        have hg1 : ∀ j, j < i + 1 → g_35 j = sm_k mk (j + 4) := by
          intro j h1
          rcases (show j = i ∨ j < i by omega) with rfl | h3
          · rw [eg_35, pk_us]
          · rw [eg_35, pk_un (by omega)]; exact hg j h3
        refine lv_iinc (v := nI (i + 1)) (lv' := [(5, .int (nI (i + 1))), (3, .ref a_1), (0, .ref h0)]) hx hb dX2_expandKey_287 hl (k := 0) rfl (nI_1 (i)) (by decide) rfl (fun ls hl => ?_)
        refine lv_goto (tgt := 238) hx hb dX2_expandKey_290 (by decide) ?_
        exact ih (i + 1) (by omega) (by omega) g_35 H locs hg1 hP hD hS ls hl
    exact loop 28 4 (by decide) (by decide) g_33 _ _ hg0 hP hD hS ls hl
set_option maxHeartbeats 4000000 in
set_option maxRecDepth 100000 in
/-- init(b, params): the round keys out of the key -/
theorem metX2_init_2 (l : Launch) (D : va_G) (cB cI : ClassId) (tS tC tF : Nat) (h0 x kp a : Nat) (f : Nat → Int32) (b : Int32) (mk : Nat → Int32) (sz : Nat) (hm : sm_b4 f mk) : Met l yX2_init_2 (ws_ yX2_init_2 cX2_init_2 4 none) ({ frames := 4, cells := 3, slots := 40, locals := 120 }) (va_Pc [.ref h0, .int b, .ref kp] (sm_WO D cB cI tS tC tF [(h0, .inr (1, [.ref x, .null])), (kp, .inr (2, [.ref a])), (a, .inl (cB, 16, .inl f))] sz)) (va_Qv (fun u : Nat × (Nat → Int32) => ∀ j, j < 32 → u.2 j = sm_rk b mk j) (sm_BW D (va_A [(h0, .inr (1, [.ref x, .null])), (kp, .inr (2, [.ref a])), (a, .inl (cB, 16, .inl f))] sz) (fun u => [(h0, .inr (1, [.ref x, .ref u.1])), (kp, .inr (2, [.ref a])), (a, .inl (cB, 16, .inl f)), (u.1, .inl (cI, 32, .inl u.2))])) (va_A [(h0, .inr (1, [.ref x, .null])), (kp, .inr (2, [.ref a])), (a, .inl (cB, 16, .inl f))] sz)) 3 40 (va_A [(h0, .inr (1, [.ref x, .null])), (kp, .inr (2, [.ref a])), (a, .inl (cB, 16, .inl f))] sz) := by
  refine Met.ofW (cc := cX2_init_2) (maxL := 4) (ret := none) (by decide) rfl ?_
  intro p e s m args below meth c s₁ B hml hv
  obtain ⟨rfl, hsz, hP, hK, hD0, hZ, hE⟩ := hv
  have hx := B.exec
  have hb := B.bytes
  have hr := B.returns
  have hts := atoms_spec (ws := ws_ yX2_init_2 cX2_init_2 4 none) B.pre
  have hts : ∀ w ∈ lw_all, w.before _ s = true := fun w h => hts w (List.mem_cons_of_mem _ h)
  have hown : s.vm.findClass RX2 = some m.cls := findClass_of_methodNamed B.named
  have hlocks := B.notSynchronized
  subst hsz
  have hD := hD0.self (sz := s.heap.size)
  generalize hAe : va_A [(h0, .inr (1, [.ref x, .null])), (kp, .inr (2, [.ref a])), (a, .inl (cB, 16, .inl f))] s.heap.size = A at hD hZ ⊢
  have hA : ∀ q : Nat, s.heap.size ≤ q → A q := fun q h => by rw [← hAe]; exact Or.inr h
  obtain ⟨H, eH⟩ : ∃ H : Heap, H = s.heap := ⟨_, rfl⟩
  rw [← eH] at hP ⊢
  have hS : va_S A s.heap H [] := by rw [eH]; exact va_S.rf
  have hl := lv_entry ([.ref h0, .int b, .ref kp]) (n := 4) (Nat.le_of_ble_eq_true rfl)
  rw [lg_entry_eq]
  generalize (lg_sl ([.ref h0, .int b, .ref kp]) ++ List.replicate (4 - (lg_sl ([.ref h0, .int b, .ref kp])).length) Slot.unset).toArray = ls at hl ⊢
  have hl : lv_has ls 4 [(0, .ref h0), (1, .int b), (2, .ref kp)] := hl
  refine lv_aload_n hx hb dX2_init_2_0 rfl (lv_at hl 2 rfl) ?_
  refine va_instS hx hb hown (hts _ q85) (hK.1 2 _ rfl).2 (va_recv hK hP (ci := 2) (q0 := 1) rfl rfl) dX2_init_2_1 ?_
  refine lv_if_eq (tgt := 45) hx hb dX2_init_2_4 (by decide) (fun h => absurd h (by decide)) (fun _ => ?_)
  refine lv_aload_n hx hb dX2_init_2_7 rfl (lv_at hl 2 rfl) ?_
  refine va_castS hx hb hown (hts _ q85) (hK.1 2 _ rfl).2 (va_recv hK hP (ci := 2) (q0 := 1) rfl rfl) dX2_init_2_8 ?_
  refine sm_callSr (va_runV (As := []) (rest := []) ⟨hx, hb, hml, hown, hts⟩ (metX3_getKey l D cB cI tS tC tF kp a) (cwV 0 hts (lw_V q86 q87 q88 q16 q89) rfl rfl rfl (by decide +kernel) ⟨Nat.le_of_ble_eq_true rfl, Nat.le_of_ble_eq_true rfl⟩) ⟨sm_RO.blind, va_recv hK hP (ci := 2) (q0 := 1) rfl rfl, fun U hU hW => ⟨rfl, sm_RO.at hU hW (hP.sub (ws' := [(kp, .inr (2, [.ref a]))]) [1] rfl) hK hZ hS⟩⟩ rfl rfl hl.1 rfl (lv_room (Nat.le_of_ble_eq_true rfl)) dX2_init_2_11 ⟨Nat.le_of_ble_eq_true rfl, Nat.le_of_ble_eq_true rfl⟩).run (fun r_1 er_1 => ?_)
  rw [er_1]
  refine lv_astore_n (lv' := [(3, .ref a), (0, .ref h0), (1, .int b), (2, .ref kp)]) hx hb dX2_init_2_14 rfl hl (by decide) rfl (fun ls hl => ?_)
  refine lv_aload_n hx hb dX2_init_2_15 rfl (lv_at hl 0 rfl) ?_
  refine va_alen (v := nI 16) hx hb hK hP 2 0 rfl rfl rfl dX2_init_2_16 ?_
  refine lv_bipush (v := 16) hx hb dX2_init_2_17 (by decide) ?_
  refine lv_icmp_eq (tgt := 32) hx hb dX2_init_2_19 (by decide) (fun _ => ?_) (fun h => absurd (show nI 16 = 16 by decide) h)
  refine lv_aload_n hx hb dX2_init_2_32 rfl (lv_at hl 1 rfl) ?_
  refine lv_aload_n hx hb dX2_init_2_33 rfl (lv_at hl 1 rfl) ?_
  refine lv_iload_n hx hb dX2_init_2_34 rfl (lv_at hl 2 rfl) ?_
  refine lv_aload_n hx hb dX2_init_2_35 rfl (lv_at hl 0 rfl) ?_
  refine sm_callr (ws := [(h0, .inr (1, [.ref x, .null])), (kp, .inr (2, [.ref a])), (a, .inl (cB, 16, .inl f))]) (wc := [(h0, .inr (1, [.ref x, .null])), (a, .inl (cB, 16, .inl f))]) (wr := [(kp, .inr (2, [.ref a]))]) (va_runV (As := [.int b, .ref a]) (rest := [.ref h0]) ⟨hx, hb, hml, hown, hts⟩ (metX2_expandKey l D cB cI tS tC tF h0 [.ref x, .null] a f b mk H.size hm) (cwV 2 hts (lw_V q158 q160 qs2 q15 q161) rfl rfl rfl (by decide +kernel) ⟨Nat.le_of_ble_eq_true rfl, Nat.le_of_ble_eq_true rfl⟩) ⟨sm_WO.blind, va_recv hK hP (ci := 1) (q0 := 0) rfl rfl, fun U hU hW => ⟨rfl, sm_WO.at hU hW (hP.sub (ws' := [(h0, .inr (1, [.ref x, .null])), (a, .inl (cB, 16, .inl f))]) [0, 2] rfl) hK (hD.sub (ws' := [(h0, .inr (1, [.ref x, .null])), (a, .inl (cB, 16, .inl f))]) [0, 2] (by decide) rfl) hZ hS hA hE⟩⟩ rfl rfl hl.1 rfl (lv_room (Nat.le_of_ble_eq_true rfl)) dX2_init_2_36 ⟨Nat.le_of_ble_eq_true rfl, Nat.le_of_ble_eq_true rfl⟩) hP hD hS hA [0, 2] [1] rfl rfl (by decide) (by decide) (fun u_2 r_3 H locs eu_2 hP hD hS => ?_)
  have hP : va_P D sm_cl [(kp, .inr (2, [.ref a])), (h0, .inr (1, [.ref x, .null])), (a, .inl (cB, 16, .inl f)), (r_3, .inl (cI, 32, .inl u_2))] H := hP
  have hD : va_D A [(kp, .inr (2, [.ref a])), (h0, .inr (1, [.ref x, .null])), (a, .inl (cB, 16, .inl f)), (r_3, .inl (cI, 32, .inl u_2))] := hD
  refine va_put (D := D) (ci := 1) (v := .ref r_3) (ty := .array .int) (C := RX2) (T := TX2) (N := 2) hx hb hts in_X2 tyX2 tyX2_ok nmX2 hown hK hP hD hS 1 rfl rfl 1 (by decide) (hts _ q48) (fun _ h9 => h9) rfl (by decide +kernel) rfl rfl (Nat.le_of_ble_eq_true rfl) dX2_init_2_39 (fun H locs hP hD hS => ?_)
  have hP : va_P D sm_cl [(kp, .inr (2, [.ref a])), (h0, .inr (1, [.ref x, .ref r_3])), (a, .inl (cB, 16, .inl f)), (r_3, .inl (cI, 32, .inl u_2))] H := hP
  have hD : va_D A [(kp, .inr (2, [.ref a])), (h0, .inr (1, [.ref x, .ref r_3])), (a, .inl (cB, 16, .inl f)), (r_3, .inl (cI, 32, .inl u_2))] := hD
  refine lv_goto (tgt := 55) hx hb dX2_init_2_42 (by decide) ?_
  have hP : va_P D sm_cl [(h0, .inr (1, [.ref x, .ref r_3])), (kp, .inr (2, [.ref a])), (a, .inl (cB, 16, .inl f)), (r_3, .inl (cI, 32, .inl u_2))] H := hP.sub [1, 0, 2, 3] rfl
  have hD : va_D A [(h0, .inr (1, [.ref x, .ref r_3])), (kp, .inr (2, [.ref a])), (a, .inl (cB, 16, .inl f)), (r_3, .inl (cI, 32, .inl u_2))] := hD.sub [1, 0, 2, 3] (by decide) rfl
  refine W.widen (k := 3) (n := 40) (Nat.le_of_ble_eq_true rfl) (Nat.le_of_ble_eq_true rfl) ?_
  exact W.vret hx hb hr (fun t ht hW => ⟨⟨(r_3, u_2), rfl, eu_2, by rw [ht]; exact hP, hD⟩, hS.F ht⟩) hS.2.2 dX2_init_2_55
end
section
theorem sm_b4.congr {f p p' : Nat → Int32} (h : sm_b4 f p) (e : ∀ q, q < 4 → p q = p' q) : sm_b4 f p' := by
  unfold sm_b4 at *
  rw [← e 0 (by decide), ← e 1 (by decide), ← e 2 (by decide), ← e 3 (by decide)]
  exact h
theorem sm_b4.same {f g p : Nat → Int32} (h : sm_b4 f p) (e : ∀ j, j < 16 → g j = f j) : sm_b4 g p := fun j hj => (e j hj).trans (h j hj)
theorem sm_b4.fit {f p : Nat → Int32} (h : sm_b4 f p) {j : Nat} (hj : j < 16) : fits .byte (.int (f j)) = true := by
  rw [h j hj]
  exact sm_ba_fit _ _
theorem sm_b4.nar {f p : Nat → Int32} (h : sm_b4 f p) {j : Nat} (hj : j < 16) : (f j).toInt8.toInt32 = f j := by
  rw [h j hj]
  exact sm_ba_nar _ _
/-- round keys that are the schedule's give the cipher's words -/
theorem sm_x_o {v : Nat → Int32} {b : Int32} {mk pw : Nat → Int32} (h : ∀ j, j < 32 → v j = sm_rk b mk j) : ∀ q, q < 4 → sm_x v pw (35 - q) = sm_o b mk pw q := fun q hq => sm_sq_r _ _ _ _ _ h (35 - q) (by omega)
set_option maxHeartbeats 4000000 in
set_option maxRecDepth 100000 in
/-- processBlock(in, 0, out, 0): the words that come out of 32 rounds -/
theorem metX2_processBlock (l : Launch) (D : va_G) (cB cI : ClassId) (tS tC tF : Nat) (h0 xa ka bi bo : Nat) (fx kr fi fo pw : Nat → Int32) (sz : Nat) (hp : sm_b4 fi pw) : Met l yX2_processBlock (ws_ yX2_processBlock cX2_processBlock 6 (some .int)) ({ frames := 4, cells := 0, slots := 0, locals := 115 }) (va_Pc [.ref h0, .ref bi, .int (nI 0), .ref bo, .int (nI 0)] (sm_WO D cB cI tS tC tF [(h0, .inr (1, [.ref xa, .ref ka])), (xa, .inl (cI, 4, .inl fx)), (ka, .inl (cI, 32, .inl kr)), (bi, .inl (cB, 16, .inl fi)), (bo, .inl (cB, 16, .inl fo))] sz)) (va_Qi (fun (r : Int32) (u : (Nat → Int32) × (Nat → Int32)) => sm_b4 u.2 (fun q => sm_x kr pw (35 - q))) (sm_BW D (va_A [(h0, .inr (1, [.ref xa, .ref ka])), (xa, .inl (cI, 4, .inl fx)), (ka, .inl (cI, 32, .inl kr)), (bi, .inl (cB, 16, .inl fi)), (bo, .inl (cB, 16, .inl fo))] sz) (fun u => [(h0, .inr (1, [.ref xa, .ref ka])), (xa, .inl (cI, 4, .inl u.1)), (ka, .inl (cI, 32, .inl kr)), (bi, .inl (cB, 16, .inl fi)), (bo, .inl (cB, 16, .inl u.2))])) (va_A [(h0, .inr (1, [.ref xa, .ref ka])), (xa, .inl (cI, 4, .inl fx)), (ka, .inl (cI, 32, .inl kr)), (bi, .inl (cB, 16, .inl fi)), (bo, .inl (cB, 16, .inl fo))] sz)) 0 0 (va_A [(h0, .inr (1, [.ref xa, .ref ka])), (xa, .inl (cI, 4, .inl fx)), (ka, .inl (cI, 32, .inl kr)), (bi, .inl (cB, 16, .inl fi)), (bo, .inl (cB, 16, .inl fo))] sz) := by
  refine Met.ofW (cc := cX2_processBlock) (maxL := 6) (ret := (some .int)) (by decide) rfl ?_
  intro p e s m args below meth c s₁ B hml hv
  obtain ⟨rfl, hsz, hP, hK, hD0, hZ, hE⟩ := hv
  have hx := B.exec
  have hb := B.bytes
  have hr := B.returns
  have hts := atoms_spec (ws := ws_ yX2_processBlock cX2_processBlock 6 (some .int)) B.pre
  have hts : ∀ w ∈ lw_all, w.before _ s = true := fun w h => hts w (List.mem_cons_of_mem _ h)
  have hown : s.vm.findClass RX2 = some m.cls := findClass_of_methodNamed B.named
  have hlocks := B.notSynchronized
  subst hsz
  have hD := hD0.self (sz := s.heap.size)
  generalize hAe : va_A [(h0, .inr (1, [.ref xa, .ref ka])), (xa, .inl (cI, 4, .inl fx)), (ka, .inl (cI, 32, .inl kr)), (bi, .inl (cB, 16, .inl fi)), (bo, .inl (cB, 16, .inl fo))] s.heap.size = A at hD hZ ⊢
  have hA : ∀ q : Nat, s.heap.size ≤ q → A q := fun q h => by rw [← hAe]; exact Or.inr h
  obtain ⟨H, eH⟩ : ∃ H : Heap, H = s.heap := ⟨_, rfl⟩
  rw [← eH] at hP ⊢
  have hS : va_S A s.heap H [] := by rw [eH]; exact va_S.rf
  have hl := lv_entry ([.ref h0, .ref bi, .int (nI 0), .ref bo, .int (nI 0)]) (n := 6) (Nat.le_of_ble_eq_true rfl)
  rw [lg_entry_eq]
  generalize (lg_sl ([.ref h0, .ref bi, .int (nI 0), .ref bo, .int (nI 0)]) ++ List.replicate (6 - (lg_sl ([.ref h0, .ref bi, .int (nI 0), .ref bo, .int (nI 0)])).length) Slot.unset).toArray = ls at hl ⊢
  have hl : lv_has ls 6 [(0, .ref h0), (1, .ref bi), (2, .int (nI 0)), (3, .ref bo), (4, .int (nI 0))] := hl
  refine lv_aload_n hx hb dX2_processBlock_0 rfl (lv_at hl 0 rfl) ?_
  refine va_get (D := D) (ci := 1) (v := .ref ka) (C := RX2) (T := TX2) (N := 2) hx hb hts in_X2 hown hK hP 0 rfl rfl 1 (by decide) (hts _ q48) (fun _ h9 => h9) rfl dX2_processBlock_1 ?_
  refine lv_ifnonnull (tgt := 17) hx hb dX2_processBlock_4 (by decide) ?_
  refine lv_iload_n hx hb dX2_processBlock_17 rfl (lv_at hl 2 rfl) ?_
  refine lv_bipush (v := 16) hx hb dX2_processBlock_18 (by decide) ?_
  refine lv_iadd hx hb dX2_processBlock_20 ?_
  refine sm_top (y := nI (0 + 16)) (sm_add 0 16 (rfl) (rfl)) ?_
  refine lv_aload_n hx hb dX2_processBlock_21 rfl (lv_at hl 1 rfl) ?_
  refine va_alen (v := nI 16) hx hb hK hP 3 0 rfl rfl rfl dX2_processBlock_22 ?_
  refine lv_icmp_le (tgt := 36) hx hb dX2_processBlock_23 (by decide) (fun _ => ?_) (fun h => absurd (show nI (0 + 16) ≤ nI 16 by decide) h)
  refine lv_iload hx hb dX2_processBlock_36 (lv_at hl 4 rfl) ?_
  refine lv_bipush (v := 16) hx hb dX2_processBlock_38 (by decide) ?_
  refine lv_iadd hx hb dX2_processBlock_40 ?_
  refine sm_top (y := nI (0 + 16)) (sm_add 0 16 (rfl) (rfl)) ?_
  refine lv_aload_n hx hb dX2_processBlock_41 rfl (lv_at hl 3 rfl) ?_
  refine va_alen (v := nI 16) hx hb hK hP 4 0 rfl rfl rfl dX2_processBlock_42 ?_
  refine lv_icmp_le (tgt := 56) hx hb dX2_processBlock_43 (by decide) (fun _ => ?_) (fun h => absurd (show nI (0 + 16) ≤ nI 16 by decide) h)
  refine lv_aload_n hx hb dX2_processBlock_56 rfl (lv_at hl 0 rfl) ?_
  refine va_get (D := D) (ci := 1) (v := .ref xa) (C := RX2) (T := TX2) (N := 2) hx hb hts in_X2 hown hK hP 0 rfl rfl 0 (by decide) (hts _ q47) (fun _ h9 => h9) rfl dX2_processBlock_57 ?_
  refine lv_iconst (v := 0) hx hb dX2_processBlock_60 (by decide) ?_
  refine lv_aload_n hx hb dX2_processBlock_61 rfl (lv_at hl 1 rfl) ?_
  refine lv_iload_n hx hb dX2_processBlock_62 rfl (lv_at hl 2 rfl) ?_
  refine vp_callSi (va_runS (As := [.ref bi, .int (nI 0)]) (rest := [.int (0 : Int32), .ref xa]) ⟨hx, hb, hml, hown, hts⟩ (metX4_bigEndianToInt l D cB cI tS tC tF bi fi 16 0 (pw 0) (by decide) (by decide) (sm_W4.w0 hp)) (va_cwS 2 hts (lw_S q162 q163 q22 q164) rfl rfl rfl (by decide +kernel) ⟨Nat.le_of_ble_eq_true rfl, Nat.le_of_ble_eq_true rfl⟩) ⟨sm_RO.blind, fun U hU hW => ⟨rfl, sm_RO.at hU hW (hP.sub (ws' := [(bi, .inl (cB, 16, .inl fi))]) [3] rfl) hK hZ hS⟩⟩ rfl rfl hl.1 rfl (lv_room (Nat.le_of_ble_eq_true rfl)) dX2_processBlock_63 ⟨Nat.le_of_ble_eq_true rfl, Nat.le_of_ble_eq_true rfl⟩).run (fun r_1 er_1 => ?_)
  subst er_1
  refine sm_top (y := sm_x kr pw 0) (rfl) ?_
  refine sm_sti hx hb hK hP hD hS 1 1 rfl rfl (0) rfl (by decide) (by decide) dX2_processBlock_66 (fun g_2 H locs eg_2 hP hD hS => ?_)
  have hP : va_P D sm_cl [(h0, .inr (1, [.ref xa, .ref ka])), (xa, .inl (cI, 4, .inl g_2)), (ka, .inl (cI, 32, .inl kr)), (bi, .inl (cB, 16, .inl fi)), (bo, .inl (cB, 16, .inl fo))] H := hP
  have hD : va_D A [(h0, .inr (1, [.ref xa, .ref ka])), (xa, .inl (cI, 4, .inl g_2)), (ka, .inl (cI, 32, .inl kr)), (bi, .inl (cB, 16, .inl fi)), (bo, .inl (cB, 16, .inl fo))] := hD
  have hg_2_0 : g_2 0 = sm_x kr pw 0 := by rw [eg_2]; exact pk_us
  refine lv_aload_n hx hb dX2_processBlock_67 rfl (lv_at hl 0 rfl) ?_
  refine va_get (D := D) (ci := 1) (v := .ref xa) (C := RX2) (T := TX2) (N := 2) hx hb hts in_X2 hown hK hP 0 rfl rfl 0 (by decide) (hts _ q47) (fun _ h9 => h9) rfl dX2_processBlock_68 ?_
  refine lv_iconst (v := 1) hx hb dX2_processBlock_71 (by decide) ?_
  refine lv_aload_n hx hb dX2_processBlock_72 rfl (lv_at hl 1 rfl) ?_
  refine lv_iload_n hx hb dX2_processBlock_73 rfl (lv_at hl 2 rfl) ?_
  refine lv_iconst (v := 4) hx hb dX2_processBlock_74 (by decide) ?_
  refine lv_iadd hx hb dX2_processBlock_75 ?_
  refine sm_top (y := nI (0 + 4)) (sm_add 0 4 (rfl) (rfl)) ?_
  refine vp_callSi (va_runS (As := [.ref bi, .int (nI (0 + 4))]) (rest := [.int (1 : Int32), .ref xa]) ⟨hx, hb, hml, hown, hts⟩ (metX4_bigEndianToInt l D cB cI tS tC tF bi fi 16 4 (pw 1) (by decide) (by decide) (sm_W4.w1 hp)) (va_cwS 2 hts (lw_S q162 q163 q22 q164) rfl rfl rfl (by decide +kernel) ⟨Nat.le_of_ble_eq_true rfl, Nat.le_of_ble_eq_true rfl⟩) ⟨sm_RO.blind, fun U hU hW => ⟨rfl, sm_RO.at hU hW (hP.sub (ws' := [(bi, .inl (cB, 16, .inl fi))]) [3] rfl) hK hZ hS⟩⟩ rfl rfl hl.1 rfl (lv_room (Nat.le_of_ble_eq_true rfl)) dX2_processBlock_76 ⟨Nat.le_of_ble_eq_true rfl, Nat.le_of_ble_eq_true rfl⟩).run (fun r_3 er_3 => ?_)
  subst er_3
  refine sm_top (y := sm_x kr pw 1) (rfl) ?_
  refine sm_sti hx hb hK hP hD hS 1 1 rfl rfl (1) rfl (by decide) (by decide) dX2_processBlock_79 (fun g_4 H locs eg_4 hP hD hS => ?_)
  have hP : va_P D sm_cl [(h0, .inr (1, [.ref xa, .ref ka])), (xa, .inl (cI, 4, .inl g_4)), (ka, .inl (cI, 32, .inl kr)), (bi, .inl (cB, 16, .inl fi)), (bo, .inl (cB, 16, .inl fo))] H := hP
  have hD : va_D A [(h0, .inr (1, [.ref xa, .ref ka])), (xa, .inl (cI, 4, .inl g_4)), (ka, .inl (cI, 32, .inl kr)), (bi, .inl (cB, 16, .inl fi)), (bo, .inl (cB, 16, .inl fo))] := hD
  have hg_4_0 : g_4 0 = sm_x kr pw 0 := by rw [eg_4]; exact (pk_un (by decide)).trans hg_2_0
  have hg_4_1 : g_4 1 = sm_x kr pw 1 := by rw [eg_4]; exact pk_us
  refine lv_aload_n hx hb dX2_processBlock_80 rfl (lv_at hl 0 rfl) ?_
  refine va_get (D := D) (ci := 1) (v := .ref xa) (C := RX2) (T := TX2) (N := 2) hx hb hts in_X2 hown hK hP 0 rfl rfl 0 (by decide) (hts _ q47) (fun _ h9 => h9) rfl dX2_processBlock_81 ?_
  refine lv_iconst (v := 2) hx hb dX2_processBlock_84 (by decide) ?_
  refine lv_aload_n hx hb dX2_processBlock_85 rfl (lv_at hl 1 rfl) ?_
  refine lv_iload_n hx hb dX2_processBlock_86 rfl (lv_at hl 2 rfl) ?_
  refine lv_bipush (v := 8) hx hb dX2_processBlock_87 (by decide) ?_
  refine lv_iadd hx hb dX2_processBlock_89 ?_
  refine sm_top (y := nI (0 + 8)) (sm_add 0 8 (rfl) (rfl)) ?_
  refine vp_callSi (va_runS (As := [.ref bi, .int (nI (0 + 8))]) (rest := [.int (2 : Int32), .ref xa]) ⟨hx, hb, hml, hown, hts⟩ (metX4_bigEndianToInt l D cB cI tS tC tF bi fi 16 8 (pw 2) (by decide) (by decide) (sm_W4.w2 hp)) (va_cwS 2 hts (lw_S q162 q163 q22 q164) rfl rfl rfl (by decide +kernel) ⟨Nat.le_of_ble_eq_true rfl, Nat.le_of_ble_eq_true rfl⟩) ⟨sm_RO.blind, fun U hU hW => ⟨rfl, sm_RO.at hU hW (hP.sub (ws' := [(bi, .inl (cB, 16, .inl fi))]) [3] rfl) hK hZ hS⟩⟩ rfl rfl hl.1 rfl (lv_room (Nat.le_of_ble_eq_true rfl)) dX2_processBlock_90 ⟨Nat.le_of_ble_eq_true rfl, Nat.le_of_ble_eq_true rfl⟩).run (fun r_5 er_5 => ?_)
  subst er_5
  refine sm_top (y := sm_x kr pw 2) (rfl) ?_
  refine sm_sti hx hb hK hP hD hS 1 1 rfl rfl (2) rfl (by decide) (by decide) dX2_processBlock_93 (fun g_6 H locs eg_6 hP hD hS => ?_)
  have hP : va_P D sm_cl [(h0, .inr (1, [.ref xa, .ref ka])), (xa, .inl (cI, 4, .inl g_6)), (ka, .inl (cI, 32, .inl kr)), (bi, .inl (cB, 16, .inl fi)), (bo, .inl (cB, 16, .inl fo))] H := hP
  have hD : va_D A [(h0, .inr (1, [.ref xa, .ref ka])), (xa, .inl (cI, 4, .inl g_6)), (ka, .inl (cI, 32, .inl kr)), (bi, .inl (cB, 16, .inl fi)), (bo, .inl (cB, 16, .inl fo))] := hD
  have hg_6_0 : g_6 0 = sm_x kr pw 0 := by rw [eg_6]; exact (pk_un (by decide)).trans hg_4_0
  have hg_6_1 : g_6 1 = sm_x kr pw 1 := by rw [eg_6]; exact (pk_un (by decide)).trans hg_4_1
  have hg_6_2 : g_6 2 = sm_x kr pw 2 := by rw [eg_6]; exact pk_us
  refine lv_aload_n hx hb dX2_processBlock_94 rfl (lv_at hl 0 rfl) ?_
  refine va_get (D := D) (ci := 1) (v := .ref xa) (C := RX2) (T := TX2) (N := 2) hx hb hts in_X2 hown hK hP 0 rfl rfl 0 (by decide) (hts _ q47) (fun _ h9 => h9) rfl dX2_processBlock_95 ?_
  refine lv_iconst (v := 3) hx hb dX2_processBlock_98 (by decide) ?_
  refine lv_aload_n hx hb dX2_processBlock_99 rfl (lv_at hl 1 rfl) ?_
  refine lv_iload_n hx hb dX2_processBlock_100 rfl (lv_at hl 2 rfl) ?_
  refine lv_bipush (v := 12) hx hb dX2_processBlock_101 (by decide) ?_
  refine lv_iadd hx hb dX2_processBlock_103 ?_
  refine sm_top (y := nI (0 + 12)) (sm_add 0 12 (rfl) (rfl)) ?_
  refine vp_callSi (va_runS (As := [.ref bi, .int (nI (0 + 12))]) (rest := [.int (3 : Int32), .ref xa]) ⟨hx, hb, hml, hown, hts⟩ (metX4_bigEndianToInt l D cB cI tS tC tF bi fi 16 12 (pw 3) (by decide) (by decide) (sm_W4.w3 hp)) (va_cwS 2 hts (lw_S q162 q163 q22 q164) rfl rfl rfl (by decide +kernel) ⟨Nat.le_of_ble_eq_true rfl, Nat.le_of_ble_eq_true rfl⟩) ⟨sm_RO.blind, fun U hU hW => ⟨rfl, sm_RO.at hU hW (hP.sub (ws' := [(bi, .inl (cB, 16, .inl fi))]) [3] rfl) hK hZ hS⟩⟩ rfl rfl hl.1 rfl (lv_room (Nat.le_of_ble_eq_true rfl)) dX2_processBlock_104 ⟨Nat.le_of_ble_eq_true rfl, Nat.le_of_ble_eq_true rfl⟩).run (fun r_7 er_7 => ?_)
  subst er_7
  refine sm_top (y := sm_x kr pw 3) (rfl) ?_
  refine sm_sti hx hb hK hP hD hS 1 1 rfl rfl (3) rfl (by decide) (by decide) dX2_processBlock_107 (fun g_8 H locs eg_8 hP hD hS => ?_)
  have hP : va_P D sm_cl [(h0, .inr (1, [.ref xa, .ref ka])), (xa, .inl (cI, 4, .inl g_8)), (ka, .inl (cI, 32, .inl kr)), (bi, .inl (cB, 16, .inl fi)), (bo, .inl (cB, 16, .inl fo))] H := hP
  have hD : va_D A [(h0, .inr (1, [.ref xa, .ref ka])), (xa, .inl (cI, 4, .inl g_8)), (ka, .inl (cI, 32, .inl kr)), (bi, .inl (cB, 16, .inl fi)), (bo, .inl (cB, 16, .inl fo))] := hD
  have hg_8_0 : g_8 0 = sm_x kr pw 0 := by rw [eg_8]; exact (pk_un (by decide)).trans hg_6_0
  have hg_8_1 : g_8 1 = sm_x kr pw 1 := by rw [eg_8]; exact (pk_un (by decide)).trans hg_6_1
  have hg_8_2 : g_8 2 = sm_x kr pw 2 := by rw [eg_8]; exact (pk_un (by decide)).trans hg_6_2
  have hg_8_3 : g_8 3 = sm_x kr pw 3 := by rw [eg_8]; exact pk_us
  refine lv_iconst (v := 0) hx hb dX2_processBlock_108 (by decide) ?_
  refine lv_istore (lv' := [(5, .int (0 : Int32)), (0, .ref h0), (1, .ref bi), (2, .int (nI 0)), (3, .ref bo), (4, .int (nI 0))]) hx hb dX2_processBlock_109 hl (by decide) rfl (fun ls hl => ?_)
  have hg0 : g_8 0 = sm_x kr pw (4 * 0) ∧ g_8 1 = sm_x kr pw (4 * 0 + 1) ∧ g_8 2 = sm_x kr pw (4 * 0 + 2) ∧ g_8 3 = sm_x kr pw (4 * 0 + 3) := ⟨hg_8_0, hg_8_1, hg_8_2, hg_8_3⟩
  have hl : lv_has ls 6 [(5, .int (0 : Int32)), (0, .ref h0), (3, .ref bo), (4, .int (nI 0))] := lv_sub hl [0, 1, 4, 5] rfl
  have loop : ∀ (n t : Nat), t + n = 8 → ∀ (g : Nat → Int32) (H : Heap) (locs : List Loc), (g 0 = sm_x kr pw (4 * t) ∧ g 1 = sm_x kr pw (4 * t + 1) ∧ g 2 = sm_x kr pw (4 * t + 2) ∧ g 3 = sm_x kr pw (4 * t + 3)) → va_P D sm_cl [(h0, .inr (1, [.ref xa, .ref ka])), (xa, .inl (cI, 4, .inl g)), (ka, .inl (cI, 32, .inl kr)), (bi, .inl (cB, 16, .inl fi)), (bo, .inl (cB, 16, .inl fo))] H → va_D A [(h0, .inr (1, [.ref xa, .ref ka])), (xa, .inl (cI, 4, .inl g)), (ka, .inl (cI, 32, .inl kr)), (bi, .inl (cB, 16, .inl fi)), (bo, .inl (cB, 16, .inl fo))] → va_S A s.heap H locs → ∀ (ls : Array Slot), lv_has ls 6 [(5, .int (nI (4 * t))), (0, .ref h0), (3, .ref bo), (4, .int (nI 0))] → W p l e (headSpec (ws_ yX2_processBlock cX2_processBlock 6 (some .int)) ({ frames := 4, cells := 0, slots := 0, locals := 115 })).room s m ([.ref h0, .ref bi, .int (nI 0), .ref bo, .int (nI 0)] : List Value).toArray below meth c H locs 0 0 (MQ below (va_Qi (fun (r : Int32) (u : (Nat → Int32) × (Nat → Int32)) => sm_b4 u.2 (fun q => sm_x kr pw (35 - q))) (sm_BW D A (fun u => [(h0, .inr (1, [.ref xa, .ref ka])), (xa, .inl (cI, 4, .inl u.1)), (ka, .inl (cI, 32, .inl kr)), (bi, .inl (cB, 16, .inl fi)), (bo, .inl (cB, 16, .inl u.2))])) A) ([.ref h0, .ref bi, .int (nI 0), .ref bo, .int (nI 0)] : List Value).toArray s 0 0 A) (F0 m 111 ls []) := by
    intro n
    induction n with
    | zero =>
      intro t ht8 g H locs hg hP hD hS ls hl
      obtain rfl : t = 8 := by omega
      refine lv_iload hx hb dX2_processBlock_111 (lv_at hl 0 rfl) ?_
      refine lv_bipush (v := 32) hx hb dX2_processBlock_113 (by decide) ?_
      refine lv_icmp_ge (tgt := 214) hx hb dX2_processBlock_115 (by decide) (fun _ => ?_) (fun h => absurd (show (32 : Int32) ≤ nI (4 * 8) by decide) h)
      refine lv_aload_n hx hb dX2_processBlock_214 rfl (lv_at hl 1 rfl) ?_
      refine va_get (D := D) (ci := 1) (v := .ref xa) (C := RX2) (T := TX2) (N := 2) hx hb hts in_X2 hown hK hP 0 rfl rfl 0 (by decide) (hts _ q47) (fun _ h9 => h9) rfl dX2_processBlock_215 ?_
      refine lv_iconst (v := 3) hx hb dX2_processBlock_218 (by decide) ?_
      refine sm_ldi hx hb hK hP 1 1 rfl rfl (3) rfl (by decide) (by decide) (v := sm_x kr pw 35) (hg.2.2.2) dX2_processBlock_219 ?_
      refine lv_aload_n hx hb dX2_processBlock_220 rfl (lv_at hl 2 rfl) ?_
      refine lv_iload hx hb dX2_processBlock_221 (lv_at hl 3 rfl) ?_
      refine sm_callv (ws := [(h0, .inr (1, [.ref xa, .ref ka])), (xa, .inl (cI, 4, .inl g)), (ka, .inl (cI, 32, .inl kr)), (bi, .inl (cB, 16, .inl fi)), (bo, .inl (cB, 16, .inl fo))]) (wc := [(bo, .inl (cB, 16, .inl fo))]) (wr := [(h0, .inr (1, [.ref xa, .ref ka])), (xa, .inl (cI, 4, .inl g)), (ka, .inl (cI, 32, .inl kr)), (bi, .inl (cB, 16, .inl fi))]) (va_runS (As := [.int (sm_x kr pw 35), .ref bo, .int (nI 0)]) (rest := []) ⟨hx, hb, hml, hown, hts⟩ (metX4_intToBigEndian l D cB cI tS tC tF bo fo 16 0 (sm_x kr pw 35) H.size (by decide) (by decide)) (va_cwS 3 hts (lw_S q274 q275 q22 q276) rfl rfl rfl (by decide +kernel) ⟨Nat.le_of_ble_eq_true rfl, Nat.le_of_ble_eq_true rfl⟩) ⟨sm_WO.blind, fun U hU hW => ⟨rfl, sm_WO.at hU hW (hP.sub (ws' := [(bo, .inl (cB, 16, .inl fo))]) [4] rfl) hK (hD.sub (ws' := [(bo, .inl (cB, 16, .inl fo))]) [4] (by decide) rfl) hZ hS hA hE⟩⟩ rfl rfl hl.1 rfl (lv_room (Nat.le_of_ble_eq_true rfl)) dX2_processBlock_223 ⟨Nat.le_of_ble_eq_true rfl, Nat.le_of_ble_eq_true rfl⟩) hP hD hS hA [4] [0, 1, 2, 3] rfl rfl (by decide) (by decide) (fun u_9 H locs eu_9 hP hD hS => ?_)
      have hP : va_P D sm_cl [(h0, .inr (1, [.ref xa, .ref ka])), (xa, .inl (cI, 4, .inl g)), (ka, .inl (cI, 32, .inl kr)), (bi, .inl (cB, 16, .inl fi)), (bo, .inl (cB, 16, .inl u_9))] H := hP
      have hD : va_D A [(h0, .inr (1, [.ref xa, .ref ka])), (xa, .inl (cI, 4, .inl g)), (ka, .inl (cI, 32, .inl kr)), (bi, .inl (cB, 16, .inl fi)), (bo, .inl (cB, 16, .inl u_9))] := hD
      refine lv_aload_n hx hb dX2_processBlock_226 rfl (lv_at hl 1 rfl) ?_
      refine va_get (D := D) (ci := 1) (v := .ref xa) (C := RX2) (T := TX2) (N := 2) hx hb hts in_X2 hown hK hP 0 rfl rfl 0 (by decide) (hts _ q47) (fun _ h9 => h9) rfl dX2_processBlock_227 ?_
      refine lv_iconst (v := 2) hx hb dX2_processBlock_230 (by decide) ?_
      refine sm_ldi hx hb hK hP 1 1 rfl rfl (2) rfl (by decide) (by decide) (v := sm_x kr pw 34) (hg.2.2.1) dX2_processBlock_231 ?_
      refine lv_aload_n hx hb dX2_processBlock_232 rfl (lv_at hl 2 rfl) ?_
      refine lv_iload hx hb dX2_processBlock_233 (lv_at hl 3 rfl) ?_
      refine lv_iconst (v := 4) hx hb dX2_processBlock_235 (by decide) ?_
      refine lv_iadd hx hb dX2_processBlock_236 ?_
      refine sm_top (y := nI (0 + 4)) (sm_add 0 4 (rfl) (rfl)) ?_
      refine sm_callv (ws := [(h0, .inr (1, [.ref xa, .ref ka])), (xa, .inl (cI, 4, .inl g)), (ka, .inl (cI, 32, .inl kr)), (bi, .inl (cB, 16, .inl fi)), (bo, .inl (cB, 16, .inl u_9))]) (wc := [(bo, .inl (cB, 16, .inl u_9))]) (wr := [(h0, .inr (1, [.ref xa, .ref ka])), (xa, .inl (cI, 4, .inl g)), (ka, .inl (cI, 32, .inl kr)), (bi, .inl (cB, 16, .inl fi))]) (va_runS (As := [.int (sm_x kr pw 34), .ref bo, .int (nI (0 + 4))]) (rest := []) ⟨hx, hb, hml, hown, hts⟩ (metX4_intToBigEndian l D cB cI tS tC tF bo u_9 16 4 (sm_x kr pw 34) H.size (by decide) (by decide)) (va_cwS 3 hts (lw_S q274 q275 q22 q276) rfl rfl rfl (by decide +kernel) ⟨Nat.le_of_ble_eq_true rfl, Nat.le_of_ble_eq_true rfl⟩) ⟨sm_WO.blind, fun U hU hW => ⟨rfl, sm_WO.at hU hW (hP.sub (ws' := [(bo, .inl (cB, 16, .inl u_9))]) [4] rfl) hK (hD.sub (ws' := [(bo, .inl (cB, 16, .inl u_9))]) [4] (by decide) rfl) hZ hS hA hE⟩⟩ rfl rfl hl.1 rfl (lv_room (Nat.le_of_ble_eq_true rfl)) dX2_processBlock_237 ⟨Nat.le_of_ble_eq_true rfl, Nat.le_of_ble_eq_true rfl⟩) hP hD hS hA [4] [0, 1, 2, 3] rfl rfl (by decide) (by decide) (fun u_10 H locs eu_10 hP hD hS => ?_)
      have hP : va_P D sm_cl [(h0, .inr (1, [.ref xa, .ref ka])), (xa, .inl (cI, 4, .inl g)), (ka, .inl (cI, 32, .inl kr)), (bi, .inl (cB, 16, .inl fi)), (bo, .inl (cB, 16, .inl u_10))] H := hP
      have hD : va_D A [(h0, .inr (1, [.ref xa, .ref ka])), (xa, .inl (cI, 4, .inl g)), (ka, .inl (cI, 32, .inl kr)), (bi, .inl (cB, 16, .inl fi)), (bo, .inl (cB, 16, .inl u_10))] := hD
      refine lv_aload_n hx hb dX2_processBlock_240 rfl (lv_at hl 1 rfl) ?_
      refine va_get (D := D) (ci := 1) (v := .ref xa) (C := RX2) (T := TX2) (N := 2) hx hb hts in_X2 hown hK hP 0 rfl rfl 0 (by decide) (hts _ q47) (fun _ h9 => h9) rfl dX2_processBlock_241 ?_
      refine lv_iconst (v := 1) hx hb dX2_processBlock_244 (by decide) ?_
      refine sm_ldi hx hb hK hP 1 1 rfl rfl (1) rfl (by decide) (by decide) (v := sm_x kr pw 33) (hg.2.1) dX2_processBlock_245 ?_
      refine lv_aload_n hx hb dX2_processBlock_246 rfl (lv_at hl 2 rfl) ?_
      refine lv_iload hx hb dX2_processBlock_247 (lv_at hl 3 rfl) ?_
      refine lv_bipush (v := 8) hx hb dX2_processBlock_249 (by decide) ?_
      refine lv_iadd hx hb dX2_processBlock_251 ?_
      refine sm_top (y := nI (0 + 8)) (sm_add 0 8 (rfl) (rfl)) ?_
      refine sm_callv (ws := [(h0, .inr (1, [.ref xa, .ref ka])), (xa, .inl (cI, 4, .inl g)), (ka, .inl (cI, 32, .inl kr)), (bi, .inl (cB, 16, .inl fi)), (bo, .inl (cB, 16, .inl u_10))]) (wc := [(bo, .inl (cB, 16, .inl u_10))]) (wr := [(h0, .inr (1, [.ref xa, .ref ka])), (xa, .inl (cI, 4, .inl g)), (ka, .inl (cI, 32, .inl kr)), (bi, .inl (cB, 16, .inl fi))]) (va_runS (As := [.int (sm_x kr pw 33), .ref bo, .int (nI (0 + 8))]) (rest := []) ⟨hx, hb, hml, hown, hts⟩ (metX4_intToBigEndian l D cB cI tS tC tF bo u_10 16 8 (sm_x kr pw 33) H.size (by decide) (by decide)) (va_cwS 3 hts (lw_S q274 q275 q22 q276) rfl rfl rfl (by decide +kernel) ⟨Nat.le_of_ble_eq_true rfl, Nat.le_of_ble_eq_true rfl⟩) ⟨sm_WO.blind, fun U hU hW => ⟨rfl, sm_WO.at hU hW (hP.sub (ws' := [(bo, .inl (cB, 16, .inl u_10))]) [4] rfl) hK (hD.sub (ws' := [(bo, .inl (cB, 16, .inl u_10))]) [4] (by decide) rfl) hZ hS hA hE⟩⟩ rfl rfl hl.1 rfl (lv_room (Nat.le_of_ble_eq_true rfl)) dX2_processBlock_252 ⟨Nat.le_of_ble_eq_true rfl, Nat.le_of_ble_eq_true rfl⟩) hP hD hS hA [4] [0, 1, 2, 3] rfl rfl (by decide) (by decide) (fun u_11 H locs eu_11 hP hD hS => ?_)
      have hP : va_P D sm_cl [(h0, .inr (1, [.ref xa, .ref ka])), (xa, .inl (cI, 4, .inl g)), (ka, .inl (cI, 32, .inl kr)), (bi, .inl (cB, 16, .inl fi)), (bo, .inl (cB, 16, .inl u_11))] H := hP
      have hD : va_D A [(h0, .inr (1, [.ref xa, .ref ka])), (xa, .inl (cI, 4, .inl g)), (ka, .inl (cI, 32, .inl kr)), (bi, .inl (cB, 16, .inl fi)), (bo, .inl (cB, 16, .inl u_11))] := hD
      refine lv_aload_n hx hb dX2_processBlock_255 rfl (lv_at hl 1 rfl) ?_
      refine va_get (D := D) (ci := 1) (v := .ref xa) (C := RX2) (T := TX2) (N := 2) hx hb hts in_X2 hown hK hP 0 rfl rfl 0 (by decide) (hts _ q47) (fun _ h9 => h9) rfl dX2_processBlock_256 ?_
      refine lv_iconst (v := 0) hx hb dX2_processBlock_259 (by decide) ?_
      refine sm_ldi hx hb hK hP 1 1 rfl rfl (0) rfl (by decide) (by decide) (v := sm_x kr pw 32) (hg.1) dX2_processBlock_260 ?_
      refine lv_aload_n hx hb dX2_processBlock_261 rfl (lv_at hl 2 rfl) ?_
      refine lv_iload hx hb dX2_processBlock_262 (lv_at hl 3 rfl) ?_
      refine lv_bipush (v := 12) hx hb dX2_processBlock_264 (by decide) ?_
      refine lv_iadd hx hb dX2_processBlock_266 ?_
      refine sm_top (y := nI (0 + 12)) (sm_add 0 12 (rfl) (rfl)) ?_
      refine sm_callv (ws := [(h0, .inr (1, [.ref xa, .ref ka])), (xa, .inl (cI, 4, .inl g)), (ka, .inl (cI, 32, .inl kr)), (bi, .inl (cB, 16, .inl fi)), (bo, .inl (cB, 16, .inl u_11))]) (wc := [(bo, .inl (cB, 16, .inl u_11))]) (wr := [(h0, .inr (1, [.ref xa, .ref ka])), (xa, .inl (cI, 4, .inl g)), (ka, .inl (cI, 32, .inl kr)), (bi, .inl (cB, 16, .inl fi))]) (va_runS (As := [.int (sm_x kr pw 32), .ref bo, .int (nI (0 + 12))]) (rest := []) ⟨hx, hb, hml, hown, hts⟩ (metX4_intToBigEndian l D cB cI tS tC tF bo u_11 16 12 (sm_x kr pw 32) H.size (by decide) (by decide)) (va_cwS 3 hts (lw_S q274 q275 q22 q276) rfl rfl rfl (by decide +kernel) ⟨Nat.le_of_ble_eq_true rfl, Nat.le_of_ble_eq_true rfl⟩) ⟨sm_WO.blind, fun U hU hW => ⟨rfl, sm_WO.at hU hW (hP.sub (ws' := [(bo, .inl (cB, 16, .inl u_11))]) [4] rfl) hK (hD.sub (ws' := [(bo, .inl (cB, 16, .inl u_11))]) [4] (by decide) rfl) hZ hS hA hE⟩⟩ rfl rfl hl.1 rfl (lv_room (Nat.le_of_ble_eq_true rfl)) dX2_processBlock_267 ⟨Nat.le_of_ble_eq_true rfl, Nat.le_of_ble_eq_true rfl⟩) hP hD hS hA [4] [0, 1, 2, 3] rfl rfl (by decide) (by decide) (fun u_12 H locs eu_12 hP hD hS => ?_)
      have hP : va_P D sm_cl [(h0, .inr (1, [.ref xa, .ref ka])), (xa, .inl (cI, 4, .inl g)), (ka, .inl (cI, 32, .inl kr)), (bi, .inl (cB, 16, .inl fi)), (bo, .inl (cB, 16, .inl u_12))] H := hP
      have hD : va_D A [(h0, .inr (1, [.ref xa, .ref ka])), (xa, .inl (cI, 4, .inl g)), (ka, .inl (cI, 32, .inl kr)), (bi, .inl (cB, 16, .inl fi)), (bo, .inl (cB, 16, .inl u_12))] := hD
      have hs : sm_b4 u_12 (fun q => sm_x kr pw (35 - q)) := by
        refine sm_W4_of ?_ ?_ ?_ eu_12.1
        · exact eu_9.1.keep (fun j h1 h2 => by rw [eu_12.2 j (by omega), eu_11.2 j (by omega), eu_10.2 j (by omega)])
        · exact eu_10.1.keep (fun j h1 h2 => by rw [eu_12.2 j (by omega), eu_11.2 j (by omega)])
        · exact eu_11.1.keep (fun j h1 h2 => by rw [eu_12.2 j (by omega)])
      have hP : va_P D sm_cl [(h0, .inr (1, [.ref xa, .ref ka])), (xa, .inl (cI, 4, .inl g)), (ka, .inl (cI, 32, .inl kr)), (bi, .inl (cB, 16, .inl fi)), (bo, .inl (cB, 16, .inl u_12))] H := hP.sub [0, 1, 2, 3, 4] rfl
      have hD : va_D A [(h0, .inr (1, [.ref xa, .ref ka])), (xa, .inl (cI, 4, .inl g)), (ka, .inl (cI, 32, .inl kr)), (bi, .inl (cB, 16, .inl fi)), (bo, .inl (cB, 16, .inl u_12))] := hD.sub [0, 1, 2, 3, 4] (by decide) rfl
      refine lv_bipush (v := 16) hx hb dX2_processBlock_270 (by decide) ?_
      exact W.iret (v := 16) hx hb hr (fun t ht hW => ⟨⟨16, (g, u_12), rfl, hs, by rw [ht]; exact hP, hD⟩, hS.F ht⟩) hS.2.2 dX2_processBlock_272
    | succ n ih =>
      intro t ht8 g H locs hg hP hD hS ls hl
      refine lv_iload hx hb dX2_processBlock_111 (lv_at hl 0 rfl) ?_
      refine lv_bipush (v := 32) hx hb dX2_processBlock_113 (by decide) ?_
      refine lv_icmp_ge (tgt := 214) hx hb dX2_processBlock_115 (by decide) (fun h => absurd h (nI_ge (a := 4 * t) (b := 32) (by omega) (by decide))) (fun _ => ?_)
      refine lv_aload_n hx hb dX2_processBlock_118 rfl (lv_at hl 1 rfl) ?_
      refine va_get (D := D) (ci := 1) (v := .ref xa) (C := RX2) (T := TX2) (N := 2) hx hb hts in_X2 hown hK hP 0 rfl rfl 0 (by decide) (hts _ q47) (fun _ h9 => h9) rfl dX2_processBlock_119 ?_
      refine lv_iconst (v := 0) hx hb dX2_processBlock_122 (by decide) ?_
      refine lv_aload_n hx hb dX2_processBlock_123 rfl (lv_at hl 1 rfl) ?_
      refine lv_aload_n hx hb dX2_processBlock_124 rfl (lv_at hl 1 rfl) ?_
      refine va_get (D := D) (ci := 1) (v := .ref xa) (C := RX2) (T := TX2) (N := 2) hx hb hts in_X2 hown hK hP 0 rfl rfl 0 (by decide) (hts _ q47) (fun _ h9 => h9) rfl dX2_processBlock_125 ?_
      refine lv_aload_n hx hb dX2_processBlock_128 rfl (lv_at hl 1 rfl) ?_
      refine va_get (D := D) (ci := 1) (v := .ref ka) (C := RX2) (T := TX2) (N := 2) hx hb hts in_X2 hown hK hP 0 rfl rfl 1 (by decide) (hts _ q48) (fun _ h9 => h9) rfl dX2_processBlock_129 ?_
      refine lv_iload hx hb dX2_processBlock_132 (lv_at hl 0 rfl) ?_
      refine sm_ldi hx hb hK hP 2 1 rfl rfl (4 * t) rfl (show 4 * t < 32 by omega) (by decide) (v := kr (4 * t)) (rfl) dX2_processBlock_134 ?_
      refine vp_callSi (va_runV (As := [.ref xa, .int (kr (4 * t))]) (rest := [.int (0 : Int32), .ref xa]) ⟨hx, hb, hml, hown, hts⟩ (metX2_F0 l D cB cI tS tC tF h0 [.ref xa, .ref ka] xa g (kr (4 * t))) (cwV 2 hts (lw_V q250 q252 qs7 q15 q253) rfl rfl rfl (by decide +kernel) ⟨Nat.le_of_ble_eq_true rfl, Nat.le_of_ble_eq_true rfl⟩) ⟨sm_RO.blind, va_recv hK hP (ci := 1) (q0 := 0) rfl rfl, fun U hU hW => ⟨rfl, sm_RO.at hU hW (hP.sub (ws' := [(h0, .inr (1, [.ref xa, .ref ka])), (xa, .inl (cI, 4, .inl g))]) [0, 1] rfl) hK hZ hS⟩⟩ rfl rfl hl.1 rfl (lv_room (Nat.le_of_ble_eq_true rfl)) dX2_processBlock_135 ⟨Nat.le_of_ble_eq_true rfl, Nat.le_of_ble_eq_true rfl⟩).run (fun r_13 er_13 => ?_)
      subst er_13
      refine sm_top (y := sm_x kr pw (4 * t + 4)) (by rw [hg.1, hg.2.1, hg.2.2.1, hg.2.2.2]; exact (sm_x4 kr pw (4 * t)).symm) ?_
      refine sm_sti hx hb hK hP hD hS 1 1 rfl rfl (0) rfl (by decide) (by decide) dX2_processBlock_138 (fun g_14 H locs eg_14 hP hD hS => ?_)
      have hP : va_P D sm_cl [(h0, .inr (1, [.ref xa, .ref ka])), (xa, .inl (cI, 4, .inl g_14)), (ka, .inl (cI, 32, .inl kr)), (bi, .inl (cB, 16, .inl fi)), (bo, .inl (cB, 16, .inl fo))] H := hP
      have hD : va_D A [(h0, .inr (1, [.ref xa, .ref ka])), (xa, .inl (cI, 4, .inl g_14)), (ka, .inl (cI, 32, .inl kr)), (bi, .inl (cB, 16, .inl fi)), (bo, .inl (cB, 16, .inl fo))] := hD
      have hg_14_1 : g_14 1 = sm_x kr pw (4 * t + 1) := by rw [eg_14]; exact (pk_un (by decide)).trans hg.2.1
      have hg_14_2 : g_14 2 = sm_x kr pw (4 * t + 2) := by rw [eg_14]; exact (pk_un (by decide)).trans hg.2.2.1
      have hg_14_3 : g_14 3 = sm_x kr pw (4 * t + 3) := by rw [eg_14]; exact (pk_un (by decide)).trans hg.2.2.2
      have hg_14_0 : g_14 0 = sm_x kr pw (4 * t + 4) := by rw [eg_14]; exact pk_us
      refine lv_aload_n hx hb dX2_processBlock_139 rfl (lv_at hl 1 rfl) ?_
      refine va_get (D := D) (ci := 1) (v := .ref xa) (C := RX2) (T := TX2) (N := 2) hx hb hts in_X2 hown hK hP 0 rfl rfl 0 (by decide) (hts _ q47) (fun _ h9 => h9) rfl dX2_processBlock_140 ?_
      refine lv_iconst (v := 1) hx hb dX2_processBlock_143 (by decide) ?_
      refine lv_aload_n hx hb dX2_processBlock_144 rfl (lv_at hl 1 rfl) ?_
      refine lv_aload_n hx hb dX2_processBlock_145 rfl (lv_at hl 1 rfl) ?_
      refine va_get (D := D) (ci := 1) (v := .ref xa) (C := RX2) (T := TX2) (N := 2) hx hb hts in_X2 hown hK hP 0 rfl rfl 0 (by decide) (hts _ q47) (fun _ h9 => h9) rfl dX2_processBlock_146 ?_
      refine lv_aload_n hx hb dX2_processBlock_149 rfl (lv_at hl 1 rfl) ?_
      refine va_get (D := D) (ci := 1) (v := .ref ka) (C := RX2) (T := TX2) (N := 2) hx hb hts in_X2 hown hK hP 0 rfl rfl 1 (by decide) (hts _ q48) (fun _ h9 => h9) rfl dX2_processBlock_150 ?_
      refine lv_iload hx hb dX2_processBlock_153 (lv_at hl 0 rfl) ?_
      refine lv_iconst (v := 1) hx hb dX2_processBlock_155 (by decide) ?_
      refine lv_iadd hx hb dX2_processBlock_156 ?_
      refine sm_top (y := nI ((4 * t) + 1)) (sm_add (4 * t) 1 (rfl) (rfl)) ?_
      refine sm_ldi hx hb hK hP 2 1 rfl rfl ((4 * t) + 1) rfl (show (4 * t) + 1 < 32 by omega) (by decide) (v := kr ((4 * t) + 1)) (rfl) dX2_processBlock_157 ?_
      refine vp_callSi (va_runV (As := [.ref xa, .int (kr ((4 * t) + 1))]) (rest := [.int (1 : Int32), .ref xa]) ⟨hx, hb, hml, hown, hts⟩ (metX2_F1 l D cB cI tS tC tF h0 [.ref xa, .ref ka] xa g_14 (kr ((4 * t) + 1))) (cwV 2 hts (lw_V q262 q264 qs10 q15 q265) rfl rfl rfl (by decide +kernel) ⟨Nat.le_of_ble_eq_true rfl, Nat.le_of_ble_eq_true rfl⟩) ⟨sm_RO.blind, va_recv hK hP (ci := 1) (q0 := 0) rfl rfl, fun U hU hW => ⟨rfl, sm_RO.at hU hW (hP.sub (ws' := [(h0, .inr (1, [.ref xa, .ref ka])), (xa, .inl (cI, 4, .inl g_14))]) [0, 1] rfl) hK hZ hS⟩⟩ rfl rfl hl.1 rfl (lv_room (Nat.le_of_ble_eq_true rfl)) dX2_processBlock_158 ⟨Nat.le_of_ble_eq_true rfl, Nat.le_of_ble_eq_true rfl⟩).run (fun r_15 er_15 => ?_)
      subst er_15
      refine sm_top (y := sm_x kr pw (4 * t + 5)) (by rw [hg_14_1, hg_14_2, hg_14_3, hg_14_0]; exact (sm_x4 kr pw (4 * t + 1)).symm) ?_
      refine sm_sti hx hb hK hP hD hS 1 1 rfl rfl (1) rfl (by decide) (by decide) dX2_processBlock_161 (fun g_16 H locs eg_16 hP hD hS => ?_)
      have hP : va_P D sm_cl [(h0, .inr (1, [.ref xa, .ref ka])), (xa, .inl (cI, 4, .inl g_16)), (ka, .inl (cI, 32, .inl kr)), (bi, .inl (cB, 16, .inl fi)), (bo, .inl (cB, 16, .inl fo))] H := hP
      have hD : va_D A [(h0, .inr (1, [.ref xa, .ref ka])), (xa, .inl (cI, 4, .inl g_16)), (ka, .inl (cI, 32, .inl kr)), (bi, .inl (cB, 16, .inl fi)), (bo, .inl (cB, 16, .inl fo))] := hD
      have hg_16_2 : g_16 2 = sm_x kr pw (4 * t + 2) := by rw [eg_16]; exact (pk_un (by decide)).trans hg_14_2
      have hg_16_3 : g_16 3 = sm_x kr pw (4 * t + 3) := by rw [eg_16]; exact (pk_un (by decide)).trans hg_14_3
      have hg_16_0 : g_16 0 = sm_x kr pw (4 * t + 4) := by rw [eg_16]; exact (pk_un (by decide)).trans hg_14_0
      have hg_16_1 : g_16 1 = sm_x kr pw (4 * t + 5) := by rw [eg_16]; exact pk_us
      refine lv_aload_n hx hb dX2_processBlock_162 rfl (lv_at hl 1 rfl) ?_
      refine va_get (D := D) (ci := 1) (v := .ref xa) (C := RX2) (T := TX2) (N := 2) hx hb hts in_X2 hown hK hP 0 rfl rfl 0 (by decide) (hts _ q47) (fun _ h9 => h9) rfl dX2_processBlock_163 ?_
      refine lv_iconst (v := 2) hx hb dX2_processBlock_166 (by decide) ?_
      refine lv_aload_n hx hb dX2_processBlock_167 rfl (lv_at hl 1 rfl) ?_
      refine lv_aload_n hx hb dX2_processBlock_168 rfl (lv_at hl 1 rfl) ?_
      refine va_get (D := D) (ci := 1) (v := .ref xa) (C := RX2) (T := TX2) (N := 2) hx hb hts in_X2 hown hK hP 0 rfl rfl 0 (by decide) (hts _ q47) (fun _ h9 => h9) rfl dX2_processBlock_169 ?_
      refine lv_aload_n hx hb dX2_processBlock_172 rfl (lv_at hl 1 rfl) ?_
      refine va_get (D := D) (ci := 1) (v := .ref ka) (C := RX2) (T := TX2) (N := 2) hx hb hts in_X2 hown hK hP 0 rfl rfl 1 (by decide) (hts _ q48) (fun _ h9 => h9) rfl dX2_processBlock_173 ?_
      refine lv_iload hx hb dX2_processBlock_176 (lv_at hl 0 rfl) ?_
      refine lv_iconst (v := 2) hx hb dX2_processBlock_178 (by decide) ?_
      refine lv_iadd hx hb dX2_processBlock_179 ?_
      refine sm_top (y := nI ((4 * t) + 2)) (sm_add (4 * t) 2 (rfl) (rfl)) ?_
      refine sm_ldi hx hb hK hP 2 1 rfl rfl ((4 * t) + 2) rfl (show (4 * t) + 2 < 32 by omega) (by decide) (v := kr ((4 * t) + 2)) (rfl) dX2_processBlock_180 ?_
      refine vp_callSi (va_runV (As := [.ref xa, .int (kr ((4 * t) + 2))]) (rest := [.int (2 : Int32), .ref xa]) ⟨hx, hb, hml, hown, hts⟩ (metX2_F2 l D cB cI tS tC tF h0 [.ref xa, .ref ka] xa g_16 (kr ((4 * t) + 2))) (cwV 2 hts (lw_V q266 q268 qs11 q15 q269) rfl rfl rfl (by decide +kernel) ⟨Nat.le_of_ble_eq_true rfl, Nat.le_of_ble_eq_true rfl⟩) ⟨sm_RO.blind, va_recv hK hP (ci := 1) (q0 := 0) rfl rfl, fun U hU hW => ⟨rfl, sm_RO.at hU hW (hP.sub (ws' := [(h0, .inr (1, [.ref xa, .ref ka])), (xa, .inl (cI, 4, .inl g_16))]) [0, 1] rfl) hK hZ hS⟩⟩ rfl rfl hl.1 rfl (lv_room (Nat.le_of_ble_eq_true rfl)) dX2_processBlock_181 ⟨Nat.le_of_ble_eq_true rfl, Nat.le_of_ble_eq_true rfl⟩).run (fun r_17 er_17 => ?_)
      subst er_17
      refine sm_top (y := sm_x kr pw (4 * t + 6)) (by rw [hg_16_2, hg_16_3, hg_16_0, hg_16_1]; exact (sm_x4 kr pw (4 * t + 2)).symm) ?_
      refine sm_sti hx hb hK hP hD hS 1 1 rfl rfl (2) rfl (by decide) (by decide) dX2_processBlock_184 (fun g_18 H locs eg_18 hP hD hS => ?_)
      have hP : va_P D sm_cl [(h0, .inr (1, [.ref xa, .ref ka])), (xa, .inl (cI, 4, .inl g_18)), (ka, .inl (cI, 32, .inl kr)), (bi, .inl (cB, 16, .inl fi)), (bo, .inl (cB, 16, .inl fo))] H := hP
      have hD : va_D A [(h0, .inr (1, [.ref xa, .ref ka])), (xa, .inl (cI, 4, .inl g_18)), (ka, .inl (cI, 32, .inl kr)), (bi, .inl (cB, 16, .inl fi)), (bo, .inl (cB, 16, .inl fo))] := hD
      have hg_18_3 : g_18 3 = sm_x kr pw (4 * t + 3) := by rw [eg_18]; exact (pk_un (by decide)).trans hg_16_3
      have hg_18_0 : g_18 0 = sm_x kr pw (4 * t + 4) := by rw [eg_18]; exact (pk_un (by decide)).trans hg_16_0
      have hg_18_1 : g_18 1 = sm_x kr pw (4 * t + 5) := by rw [eg_18]; exact (pk_un (by decide)).trans hg_16_1
      have hg_18_2 : g_18 2 = sm_x kr pw (4 * t + 6) := by rw [eg_18]; exact pk_us
      refine lv_aload_n hx hb dX2_processBlock_185 rfl (lv_at hl 1 rfl) ?_
      refine va_get (D := D) (ci := 1) (v := .ref xa) (C := RX2) (T := TX2) (N := 2) hx hb hts in_X2 hown hK hP 0 rfl rfl 0 (by decide) (hts _ q47) (fun _ h9 => h9) rfl dX2_processBlock_186 ?_
      refine lv_iconst (v := 3) hx hb dX2_processBlock_189 (by decide) ?_
      refine lv_aload_n hx hb dX2_processBlock_190 rfl (lv_at hl 1 rfl) ?_
      refine lv_aload_n hx hb dX2_processBlock_191 rfl (lv_at hl 1 rfl) ?_
      refine va_get (D := D) (ci := 1) (v := .ref xa) (C := RX2) (T := TX2) (N := 2) hx hb hts in_X2 hown hK hP 0 rfl rfl 0 (by decide) (hts _ q47) (fun _ h9 => h9) rfl dX2_processBlock_192 ?_
      refine lv_aload_n hx hb dX2_processBlock_195 rfl (lv_at hl 1 rfl) ?_
      refine va_get (D := D) (ci := 1) (v := .ref ka) (C := RX2) (T := TX2) (N := 2) hx hb hts in_X2 hown hK hP 0 rfl rfl 1 (by decide) (hts _ q48) (fun _ h9 => h9) rfl dX2_processBlock_196 ?_
      refine lv_iload hx hb dX2_processBlock_199 (lv_at hl 0 rfl) ?_
      refine lv_iconst (v := 3) hx hb dX2_processBlock_201 (by decide) ?_
      refine lv_iadd hx hb dX2_processBlock_202 ?_
      refine sm_top (y := nI ((4 * t) + 3)) (sm_add (4 * t) 3 (rfl) (rfl)) ?_
      refine sm_ldi hx hb hK hP 2 1 rfl rfl ((4 * t) + 3) rfl (show (4 * t) + 3 < 32 by omega) (by decide) (v := kr ((4 * t) + 3)) (rfl) dX2_processBlock_203 ?_
      refine vp_callSi (va_runV (As := [.ref xa, .int (kr ((4 * t) + 3))]) (rest := [.int (3 : Int32), .ref xa]) ⟨hx, hb, hml, hown, hts⟩ (metX2_F3 l D cB cI tS tC tF h0 [.ref xa, .ref ka] xa g_18 (kr ((4 * t) + 3))) (cwV 2 hts (lw_V q270 q272 qs12 q15 q273) rfl rfl rfl (by decide +kernel) ⟨Nat.le_of_ble_eq_true rfl, Nat.le_of_ble_eq_true rfl⟩) ⟨sm_RO.blind, va_recv hK hP (ci := 1) (q0 := 0) rfl rfl, fun U hU hW => ⟨rfl, sm_RO.at hU hW (hP.sub (ws' := [(h0, .inr (1, [.ref xa, .ref ka])), (xa, .inl (cI, 4, .inl g_18))]) [0, 1] rfl) hK hZ hS⟩⟩ rfl rfl hl.1 rfl (lv_room (Nat.le_of_ble_eq_true rfl)) dX2_processBlock_204 ⟨Nat.le_of_ble_eq_true rfl, Nat.le_of_ble_eq_true rfl⟩).run (fun r_19 er_19 => ?_)
      subst er_19
      refine sm_top (y := sm_x kr pw (4 * t + 7)) (by rw [hg_18_3, hg_18_0, hg_18_1, hg_18_2]; exact (sm_x4 kr pw (4 * t + 3)).symm) ?_
      refine sm_sti hx hb hK hP hD hS 1 1 rfl rfl (3) rfl (by decide) (by decide) dX2_processBlock_207 (fun g_20 H locs eg_20 hP hD hS => ?_)
      have hP : va_P D sm_cl [(h0, .inr (1, [.ref xa, .ref ka])), (xa, .inl (cI, 4, .inl g_20)), (ka, .inl (cI, 32, .inl kr)), (bi, .inl (cB, 16, .inl fi)), (bo, .inl (cB, 16, .inl fo))] H := hP
      have hD : va_D A [(h0, .inr (1, [.ref xa, .ref ka])), (xa, .inl (cI, 4, .inl g_20)), (ka, .inl (cI, 32, .inl kr)), (bi, .inl (cB, 16, .inl fi)), (bo, .inl (cB, 16, .inl fo))] := hD
      have hg_20_0 : g_20 0 = sm_x kr pw (4 * t + 4) := by rw [eg_20]; exact (pk_un (by decide)).trans hg_18_0
      have hg_20_1 : g_20 1 = sm_x kr pw (4 * t + 5) := by rw [eg_20]; exact (pk_un (by decide)).trans hg_18_1
      have hg_20_2 : g_20 2 = sm_x kr pw (4 * t + 6) := by rw [eg_20]; exact (pk_un (by decide)).trans hg_18_2
      have hg_20_3 : g_20 3 = sm_x kr pw (4 * t + 7) := by rw [eg_20]; exact pk_us
      refine lv_iinc (v := nI (4 * t + 4)) (lv' := [(5, .int (nI (4 * t + 4))), (0, .ref h0), (3, .ref bo), (4, .int (nI 0))]) hx hb dX2_processBlock_208 hl (k := 0) rfl (sm_add (4 * t) 4 rfl (by decide)) (by decide) rfl (fun ls hl => ?_)
      refine lv_goto (tgt := 111) hx hb dX2_processBlock_211 (by decide) ?_
      exact ih (t + 1) (by omega) g_20 H locs ⟨hg_20_0, hg_20_1, hg_20_2, hg_20_3⟩ hP hD hS ls hl
  exact loop 8 0 (by decide) g_8 _ _ hg0 hP hD hS ls hl
set_option maxHeartbeats 4000000 in
set_option maxRecDepth 100000 in
/-- run(b, kind): out holds the cipher of the block -/
theorem metX1_run (l : Launch) (D : va_G) (cB cI : ClassId) (tS tC tF : Nat) (h0 k bl o : Nat) (fk fb fo : Nat → Int32) (b kd : Int32) (mk pw : Nat → Int32) (sz : Nat) (hk : sm_b4 fk mk) (hp : sm_b4 fb pw) : Met l yX1_run (ws_ yX1_run cX1_run 6 none) ({ frames := 5, cells := 8, slots := 79, locals := 160 }) (va_Pc [.ref h0, .int b, .int kd] (sm_WO D cB cI tS tC tF [(h0, .inr (0, [.ref k, .ref bl, .ref o])), (k, .inl (cB, 32, .inl fk)), (bl, .inl (cB, 16, .inl fb)), (o, .inl (cB, 16, .inl fo))] sz)) (va_Qv (fun u : Nat → Int32 => sm_b4 u (sm_o b mk pw)) (sm_BW D (va_A [(h0, .inr (0, [.ref k, .ref bl, .ref o])), (k, .inl (cB, 32, .inl fk)), (bl, .inl (cB, 16, .inl fb)), (o, .inl (cB, 16, .inl fo))] sz) (fun u => [(h0, .inr (0, [.ref k, .ref bl, .ref o])), (k, .inl (cB, 32, .inl fk)), (bl, .inl (cB, 16, .inl fb)), (o, .inl (cB, 16, .inl u))])) (va_A [(h0, .inr (0, [.ref k, .ref bl, .ref o])), (k, .inl (cB, 32, .inl fk)), (bl, .inl (cB, 16, .inl fb)), (o, .inl (cB, 16, .inl fo))] sz)) 8 79 (va_A [(h0, .inr (0, [.ref k, .ref bl, .ref o])), (k, .inl (cB, 32, .inl fk)), (bl, .inl (cB, 16, .inl fb)), (o, .inl (cB, 16, .inl fo))] sz) := by
  refine Met.ofW (cc := cX1_run) (maxL := 6) (ret := none) (by decide) rfl ?_
  intro p e s m args below meth c s₁ B hml hv
  obtain ⟨rfl, hsz, hP, hK, hD0, hZ, hE⟩ := hv
  have hx := B.exec
  have hb := B.bytes
  have hr := B.returns
  have hts := atoms_spec (ws := ws_ yX1_run cX1_run 6 none) B.pre
  have hts : ∀ w ∈ lw_all, w.before _ s = true := fun w h => hts w (List.mem_cons_of_mem _ h)
  have hown : s.vm.findClass RX1 = some m.cls := findClass_of_methodNamed B.named
  have hlocks := B.notSynchronized
  subst hsz
  have hD := hD0.self (sz := s.heap.size)
  generalize hAe : va_A [(h0, .inr (0, [.ref k, .ref bl, .ref o])), (k, .inl (cB, 32, .inl fk)), (bl, .inl (cB, 16, .inl fb)), (o, .inl (cB, 16, .inl fo))] s.heap.size = A at hD hZ ⊢
  have hA : ∀ q : Nat, s.heap.size ≤ q → A q := fun q h => by rw [← hAe]; exact Or.inr h
  obtain ⟨H, eH⟩ : ∃ H : Heap, H = s.heap := ⟨_, rfl⟩
  rw [← eH] at hP ⊢
  have hS : va_S A s.heap H [] := by rw [eH]; exact va_S.rf
  have hl := lv_entry ([.ref h0, .int b, .int kd]) (n := 6) (Nat.le_of_ble_eq_true rfl)
  rw [lg_entry_eq]
  generalize (lg_sl ([.ref h0, .int b, .int kd]) ++ List.replicate (6 - (lg_sl ([.ref h0, .int b, .int kd])).length) Slot.unset).toArray = ls at hl ⊢
  have hl : lv_has ls 6 [(0, .ref h0), (1, .int b), (2, .int kd)] := hl
  refine lv_iload_n hx hb dX1_run_0 rfl (lv_at hl 2 rfl) ?_
  refine lv_iconst (v := 3) hx hb dX1_run_1 (by decide) ?_
  refine lv_iand hx hb dX1_run_2 ?_
  refine vp_callSi (va_runS (As := [.int (kd &&& (3 : Int32))]) (rest := []) ⟨hx, hb, hml, hown, hts⟩ (metX1_size l D cB cI tS tC tF (kd &&& (3 : Int32))) (va_cwS 1 hts (lw_S q36 q37 q14 q38) rfl rfl rfl (by decide +kernel) ⟨Nat.le_of_ble_eq_true rfl, Nat.le_of_ble_eq_true rfl⟩) ⟨sm_RO.blind, fun U hU hW => ⟨rfl, sm_RO.at hU hW (hP.sub (ws' := []) [] rfl) hK hZ hS⟩⟩ rfl rfl hl.1 rfl (lv_room (Nat.le_of_ble_eq_true rfl)) dX1_run_3 ⟨Nat.le_of_ble_eq_true rfl, Nat.le_of_ble_eq_true rfl⟩).run (fun r_1 er_1 => ?_)
  subst er_1
  refine lv_istore_n (lv' := [(3, .int 16), (0, .ref h0), (1, .int b), (2, .int kd)]) hx hb dX1_run_6 rfl hl (by decide) rfl (fun ls hl => ?_)
  refine lv_iload_n hx hb dX1_run_7 rfl (lv_at hl 0 rfl) ?_
  refine sm_newa (atype := .byte) hx hb (hts _ q54) rfl rfl rfl hK hP hD hS hA 0 (N := 16) rfl rfl (by decide) (by decide) (Nat.le_of_ble_eq_true rfl) (Nat.le_of_ble_eq_true rfl) dX1_run_8 (fun a_2 H hP hD hS => ?_)
  have hP : va_P D sm_cl [(h0, .inr (0, [.ref k, .ref bl, .ref o])), (k, .inl (cB, 32, .inl fk)), (bl, .inl (cB, 16, .inl fb)), (o, .inl (cB, 16, .inl fo)), (a_2, .inl (cB, 16, .inl (fun _ => 0)))] H := hP
  have hD : va_D A [(h0, .inr (0, [.ref k, .ref bl, .ref o])), (k, .inl (cB, 32, .inl fk)), (bl, .inl (cB, 16, .inl fb)), (o, .inl (cB, 16, .inl fo)), (a_2, .inl (cB, 16, .inl (fun _ => 0)))] := hD
  refine lv_astore (lv' := [(4, .ref a_2), (3, .int 16), (0, .ref h0), (1, .int b), (2, .int kd)]) hx hb dX1_run_10 hl (by decide) rfl (fun ls hl => ?_)
  refine lv_iconst (v := 0) hx hb dX1_run_12 (by decide) ?_
  refine lv_istore (lv' := [(5, .int (0 : Int32)), (4, .ref a_2), (3, .int 16), (0, .ref h0), (1, .int b), (2, .int kd)]) hx hb dX1_run_13 hl (by decide) rfl (fun ls hl => ?_)
  refine W.widen (k := 1) (n := 16) (Nat.le_of_ble_eq_true rfl) (Nat.le_of_ble_eq_true rfl) ?_
  have loop : ∀ (n i : Nat), i + n = 16 → ∀ (g : Nat → Int32) (H : Heap) (locs : List Loc), (∀ j, j < i → g j = fk j) → va_P D sm_cl [(h0, .inr (0, [.ref k, .ref bl, .ref o])), (k, .inl (cB, 32, .inl fk)), (bl, .inl (cB, 16, .inl fb)), (o, .inl (cB, 16, .inl fo)), (a_2, .inl (cB, 16, .inl g))] H → va_D A [(h0, .inr (0, [.ref k, .ref bl, .ref o])), (k, .inl (cB, 32, .inl fk)), (bl, .inl (cB, 16, .inl fb)), (o, .inl (cB, 16, .inl fo)), (a_2, .inl (cB, 16, .inl g))] → va_S A s.heap H locs → ∀ (ls : Array Slot), lv_has ls 6 [(5, .int (nI i)), (4, .ref a_2), (3, .int 16), (0, .ref h0), (1, .int b), (2, .int kd)] → W p l e (headSpec (ws_ yX1_run cX1_run 6 none) ({ frames := 5, cells := 8, slots := 79, locals := 160 })).room s m ([.ref h0, .int b, .int kd] : List Value).toArray below meth c H locs 1 16 (MQ below (va_Qv (fun u : Nat → Int32 => sm_b4 u (sm_o b mk pw)) (sm_BW D A (fun u => [(h0, .inr (0, [.ref k, .ref bl, .ref o])), (k, .inl (cB, 32, .inl fk)), (bl, .inl (cB, 16, .inl fb)), (o, .inl (cB, 16, .inl u))])) A) ([.ref h0, .int b, .int kd] : List Value).toArray s 8 79 A) (F0 m 15 ls []) := by
    intro n
    induction n with
    | zero =>
      intro i hi g H locs hg hP hD hS ls hl
      obtain rfl : i = 16 := by omega
      refine lv_iload hx hb dX1_run_15 (lv_at hl 0 rfl) ?_
      refine lv_iload_n hx hb dX1_run_17 rfl (lv_at hl 2 rfl) ?_
      refine lv_icmp_ge (tgt := 39) hx hb dX1_run_18 (by decide) (fun _ => ?_) (fun h => absurd (show (16 : Int32) ≤ nI 16 by decide) h)
      refine va_new (ci := 1) (fs := [.null, .null]) (C := RX2) (T := TX2) (N := 2) hx hb hts in_X2 tyX2 tyX2_ok hown (hts _ q39) (hts _ q40) (hts _ q15) hK hP hD hS hA rfl (fun j hj => by rcases (show j = 0 ∨ j = 1 by omega) with rfl | rfl <;> rfl) (Nat.le_of_ble_eq_true rfl) (Nat.le_of_ble_eq_true rfl) dX1_run_39 (fun o_3 H hP hD hS => ?_)
      have hP : va_P D sm_cl [(h0, .inr (0, [.ref k, .ref bl, .ref o])), (k, .inl (cB, 32, .inl fk)), (bl, .inl (cB, 16, .inl fb)), (o, .inl (cB, 16, .inl fo)), (a_2, .inl (cB, 16, .inl g)), (o_3, .inr (1, [.null, .null]))] H := hP
      have hD : va_D A [(h0, .inr (0, [.ref k, .ref bl, .ref o])), (k, .inl (cB, 32, .inl fk)), (bl, .inl (cB, 16, .inl fb)), (o, .inl (cB, 16, .inl fo)), (a_2, .inl (cB, 16, .inl g)), (o_3, .inr (1, [.null, .null]))] := hD
      refine lv_dup hx hb dX1_run_42 rfl ?_
      refine sm_callv (ws := [(h0, .inr (0, [.ref k, .ref bl, .ref o])), (k, .inl (cB, 32, .inl fk)), (bl, .inl (cB, 16, .inl fb)), (o, .inl (cB, 16, .inl fo)), (a_2, .inl (cB, 16, .inl g)), (o_3, .inr (1, [.null, .null]))]) (wc := [(o_3, .inr (1, [.null, .null]))]) (wr := [(h0, .inr (0, [.ref k, .ref bl, .ref o])), (k, .inl (cB, 32, .inl fk)), (bl, .inl (cB, 16, .inl fb)), (o, .inl (cB, 16, .inl fo)), (a_2, .inl (cB, 16, .inl g))]) (va_runI (As := []) (rest := [.ref o_3]) ⟨hx, hb, hml, hown, hts⟩ (metX2_init l D cB cI tS tC tF o_3 H.size) (cwI 0 hts (lw_meth q43) rfl rfl rfl (hts _ q15) (hts _ q41) (hts _ q42) rfl (by decide +kernel) ⟨Nat.le_of_ble_eq_true rfl, Nat.le_of_ble_eq_true rfl⟩) ⟨sm_WO.blind, fun U hU hW => ⟨rfl, sm_WO.at hU hW (hP.sub (ws' := [(o_3, .inr (1, [.null, .null]))]) [5] rfl) hK (hD.sub (ws' := [(o_3, .inr (1, [.null, .null]))]) [5] (by decide) rfl) hZ hS hA hE⟩⟩ rfl rfl hl.1 rfl (lv_room (Nat.le_of_ble_eq_true rfl)) dX1_run_43 ⟨Nat.le_of_ble_eq_true rfl, Nat.le_of_ble_eq_true rfl⟩) hP hD hS hA [5] [0, 1, 2, 3, 4] rfl rfl (by decide) (by decide) (fun u_4 H locs eu_4 hP hD hS => ?_)
      have hP : va_P D sm_cl [(h0, .inr (0, [.ref k, .ref bl, .ref o])), (k, .inl (cB, 32, .inl fk)), (bl, .inl (cB, 16, .inl fb)), (o, .inl (cB, 16, .inl fo)), (a_2, .inl (cB, 16, .inl g)), (o_3, .inr (1, [.ref u_4, .null])), (u_4, .inl (cI, 4, .inl (fun _ => 0)))] H := hP
      have hD : va_D A [(h0, .inr (0, [.ref k, .ref bl, .ref o])), (k, .inl (cB, 32, .inl fk)), (bl, .inl (cB, 16, .inl fb)), (o, .inl (cB, 16, .inl fo)), (a_2, .inl (cB, 16, .inl g)), (o_3, .inr (1, [.ref u_4, .null])), (u_4, .inl (cI, 4, .inl (fun _ => 0)))] := hD
      refine lv_astore (lv' := [(5, .ref o_3), (4, .ref a_2), (3, .int 16), (0, .ref h0), (1, .int b), (2, .int kd)]) hx hb dX1_run_46 hl (by decide) rfl (fun ls hl => ?_)
      refine lv_aload hx hb dX1_run_48 (lv_at hl 0 rfl) ?_
      refine lv_iload_n hx hb dX1_run_50 rfl (lv_at hl 4 rfl) ?_
      refine va_new (ci := 2) (fs := [.null]) (C := RX3) (T := TX3) (N := 1) hx hb hts in_X3 tyX3 tyX3_ok hown (hts _ q56) (hts _ q57) (hts _ q16) hK hP hD hS hA rfl (fun j hj => by rcases (show j = 0 by omega) with rfl <;> rfl) (Nat.le_of_ble_eq_true rfl) (Nat.le_of_ble_eq_true rfl) dX1_run_51 (fun o_5 H hP hD hS => ?_)
      have hP : va_P D sm_cl [(h0, .inr (0, [.ref k, .ref bl, .ref o])), (k, .inl (cB, 32, .inl fk)), (bl, .inl (cB, 16, .inl fb)), (o, .inl (cB, 16, .inl fo)), (a_2, .inl (cB, 16, .inl g)), (o_3, .inr (1, [.ref u_4, .null])), (u_4, .inl (cI, 4, .inl (fun _ => 0))), (o_5, .inr (2, [.null]))] H := hP
      have hD : va_D A [(h0, .inr (0, [.ref k, .ref bl, .ref o])), (k, .inl (cB, 32, .inl fk)), (bl, .inl (cB, 16, .inl fb)), (o, .inl (cB, 16, .inl fo)), (a_2, .inl (cB, 16, .inl g)), (o_3, .inr (1, [.ref u_4, .null])), (u_4, .inl (cI, 4, .inl (fun _ => 0))), (o_5, .inr (2, [.null]))] := hD
      refine lv_dup hx hb dX1_run_54 rfl ?_
      refine lv_aload hx hb dX1_run_55 (lv_at hl 1 rfl) ?_
      refine sm_callv (ws := [(h0, .inr (0, [.ref k, .ref bl, .ref o])), (k, .inl (cB, 32, .inl fk)), (bl, .inl (cB, 16, .inl fb)), (o, .inl (cB, 16, .inl fo)), (a_2, .inl (cB, 16, .inl g)), (o_3, .inr (1, [.ref u_4, .null])), (u_4, .inl (cI, 4, .inl (fun _ => 0))), (o_5, .inr (2, [.null]))]) (wc := [(o_5, .inr (2, [.null])), (a_2, .inl (cB, 16, .inl g))]) (wr := [(h0, .inr (0, [.ref k, .ref bl, .ref o])), (k, .inl (cB, 32, .inl fk)), (bl, .inl (cB, 16, .inl fb)), (o, .inl (cB, 16, .inl fo)), (o_3, .inr (1, [.ref u_4, .null])), (u_4, .inl (cI, 4, .inl (fun _ => 0)))]) (va_runI (As := [.ref a_2]) (rest := [.ref o_5, .int b, .ref o_3]) ⟨hx, hb, hml, hown, hts⟩ (metX3_init l D cB cI tS tC tF o_5 a_2 g H.size (fun j hj => by rw [hg j hj]; exact hk.fit hj)) (cwI 1 hts (lw_meth q60) rfl rfl rfl (hts _ q16) (hts _ q58) (hts _ q59) rfl (by decide +kernel) ⟨Nat.le_of_ble_eq_true rfl, Nat.le_of_ble_eq_true rfl⟩) ⟨sm_WO.blind, fun U hU hW => ⟨rfl, sm_WO.at hU hW (hP.sub (ws' := [(o_5, .inr (2, [.null])), (a_2, .inl (cB, 16, .inl g))]) [7, 4] rfl) hK (hD.sub (ws' := [(o_5, .inr (2, [.null])), (a_2, .inl (cB, 16, .inl g))]) [7, 4] (by decide) rfl) hZ hS hA hE⟩⟩ rfl rfl hl.1 rfl (lv_room (Nat.le_of_ble_eq_true rfl)) dX1_run_57 ⟨Nat.le_of_ble_eq_true rfl, Nat.le_of_ble_eq_true rfl⟩) hP hD hS hA [7, 4] [0, 1, 2, 3, 5, 6] rfl rfl (by decide) (by decide) (fun u_6 H locs eu_6 hP hD hS => ?_)
      have hP : va_P D sm_cl [(h0, .inr (0, [.ref k, .ref bl, .ref o])), (k, .inl (cB, 32, .inl fk)), (bl, .inl (cB, 16, .inl fb)), (o, .inl (cB, 16, .inl fo)), (o_3, .inr (1, [.ref u_4, .null])), (u_4, .inl (cI, 4, .inl (fun _ => 0))), (o_5, .inr (2, [.ref u_6.1])), (u_6.1, .inl (cB, 16, .inl u_6.2)), (a_2, .inl (cB, 16, .inl g))] H := hP
      have hD : va_D A [(h0, .inr (0, [.ref k, .ref bl, .ref o])), (k, .inl (cB, 32, .inl fk)), (bl, .inl (cB, 16, .inl fb)), (o, .inl (cB, 16, .inl fo)), (o_3, .inr (1, [.ref u_4, .null])), (u_4, .inl (cI, 4, .inl (fun _ => 0))), (o_5, .inr (2, [.ref u_6.1])), (u_6.1, .inl (cB, 16, .inl u_6.2)), (a_2, .inl (cB, 16, .inl g))] := hD
      have hkm : sm_b4 u_6.2 mk := hk.same (fun j hj => (eu_6 j hj).trans (hg j hj))
      refine sm_callFv (ws := [(h0, .inr (0, [.ref k, .ref bl, .ref o])), (k, .inl (cB, 32, .inl fk)), (bl, .inl (cB, 16, .inl fb)), (o, .inl (cB, 16, .inl fo)), (o_3, .inr (1, [.ref u_4, .null])), (u_4, .inl (cI, 4, .inl (fun _ => 0))), (o_5, .inr (2, [.ref u_6.1])), (u_6.1, .inl (cB, 16, .inl u_6.2)), (a_2, .inl (cB, 16, .inl g))]) (wc := [(o_3, .inr (1, [.ref u_4, .null])), (o_5, .inr (2, [.ref u_6.1])), (u_6.1, .inl (cB, 16, .inl u_6.2))]) (wr := [(h0, .inr (0, [.ref k, .ref bl, .ref o])), (k, .inl (cB, 32, .inl fk)), (bl, .inl (cB, 16, .inl fb)), (o, .inl (cB, 16, .inl fo)), (u_4, .inl (cI, 4, .inl (fun _ => 0))), (a_2, .inl (cB, 16, .inl g))]) (va_runF (hK.1 1 _ rfl).2 (As := [.int b, .ref o_5]) (rest := []) ⟨hx, hb, hml, hown, hts⟩ (metX2_init_2 l D cB cI tS tC tF o_3 u_4 o_5 u_6.1 u_6.2 b mk H.size hkm) (va_cwF 2 hts (sm_lwF q76 q80 q82 q15 q84) rfl rfl rfl hE.1 (by decide +kernel) ⟨Nat.le_of_ble_eq_true rfl, Nat.le_of_ble_eq_true rfl⟩) ⟨sm_WO.blind, va_recv hK hP (ci := 1) (q0 := 4) rfl rfl, fun U hU hW => ⟨rfl, sm_WO.at hU hW (hP.sub (ws' := [(o_3, .inr (1, [.ref u_4, .null])), (o_5, .inr (2, [.ref u_6.1])), (u_6.1, .inl (cB, 16, .inl u_6.2))]) [4, 6, 7] rfl) hK (hD.sub (ws' := [(o_3, .inr (1, [.ref u_4, .null])), (o_5, .inr (2, [.ref u_6.1])), (u_6.1, .inl (cB, 16, .inl u_6.2))]) [4, 6, 7] (by decide) rfl) hZ hS hA hE⟩⟩ rfl rfl hl.1 rfl (lv_room (Nat.le_of_ble_eq_true rfl)) dX1_run_60 ⟨Nat.le_of_ble_eq_true rfl, Nat.le_of_ble_eq_true rfl⟩) hP hD hS hA [4, 6, 7] [0, 1, 2, 3, 5, 8] rfl rfl (by decide) (by decide) (fun u_7 H locs eu_7 hP hD hS => ?_)
      have hP : va_P D sm_cl [(h0, .inr (0, [.ref k, .ref bl, .ref o])), (k, .inl (cB, 32, .inl fk)), (bl, .inl (cB, 16, .inl fb)), (o, .inl (cB, 16, .inl fo)), (u_4, .inl (cI, 4, .inl (fun _ => 0))), (a_2, .inl (cB, 16, .inl g)), (o_3, .inr (1, [.ref u_4, .ref u_7.1])), (o_5, .inr (2, [.ref u_6.1])), (u_6.1, .inl (cB, 16, .inl u_6.2)), (u_7.1, .inl (cI, 32, .inl u_7.2))] H := hP
      have hD : va_D A [(h0, .inr (0, [.ref k, .ref bl, .ref o])), (k, .inl (cB, 32, .inl fk)), (bl, .inl (cB, 16, .inl fb)), (o, .inl (cB, 16, .inl fo)), (u_4, .inl (cI, 4, .inl (fun _ => 0))), (a_2, .inl (cB, 16, .inl g)), (o_3, .inr (1, [.ref u_4, .ref u_7.1])), (o_5, .inr (2, [.ref u_6.1])), (u_6.1, .inl (cB, 16, .inl u_6.2)), (u_7.1, .inl (cI, 32, .inl u_7.2))] := hD
      refine lv_aload hx hb dX1_run_65 (lv_at hl 0 rfl) ?_
      refine lv_aload_n hx hb dX1_run_67 rfl (lv_at hl 3 rfl) ?_
      refine va_get (D := D) (ci := 0) (v := .ref bl) (C := RX1) (T := TX1) (N := 3) hx hb hts in_X1 hown hK hP 0 rfl rfl 1 (by decide) (hts _ q294) (fun _ h9 => h9) rfl dX1_run_68 ?_
      refine lv_iconst (v := 0) hx hb dX1_run_71 (by decide) ?_
      refine lv_aload_n hx hb dX1_run_72 rfl (lv_at hl 3 rfl) ?_
      refine va_get (D := D) (ci := 0) (v := .ref o) (C := RX1) (T := TX1) (N := 3) hx hb hts in_X1 hown hK hP 0 rfl rfl 2 (by decide) (hts _ q295) (fun _ h9 => h9) rfl dX1_run_73 ?_
      refine lv_iconst (v := 0) hx hb dX1_run_76 (by decide) ?_
      refine sm_callFi (ws := [(h0, .inr (0, [.ref k, .ref bl, .ref o])), (k, .inl (cB, 32, .inl fk)), (bl, .inl (cB, 16, .inl fb)), (o, .inl (cB, 16, .inl fo)), (u_4, .inl (cI, 4, .inl (fun _ => 0))), (a_2, .inl (cB, 16, .inl g)), (o_3, .inr (1, [.ref u_4, .ref u_7.1])), (o_5, .inr (2, [.ref u_6.1])), (u_6.1, .inl (cB, 16, .inl u_6.2)), (u_7.1, .inl (cI, 32, .inl u_7.2))]) (wc := [(o_3, .inr (1, [.ref u_4, .ref u_7.1])), (u_4, .inl (cI, 4, .inl (fun _ => 0))), (u_7.1, .inl (cI, 32, .inl u_7.2)), (bl, .inl (cB, 16, .inl fb)), (o, .inl (cB, 16, .inl fo))]) (wr := [(h0, .inr (0, [.ref k, .ref bl, .ref o])), (k, .inl (cB, 32, .inl fk)), (a_2, .inl (cB, 16, .inl g)), (o_5, .inr (2, [.ref u_6.1])), (u_6.1, .inl (cB, 16, .inl u_6.2))]) (va_runF (hK.1 1 _ rfl).2 (As := [.ref bl, .int (0 : Int32), .ref o, .int (0 : Int32)]) (rest := []) ⟨hx, hb, hml, hown, hts⟩ (metX2_processBlock l D cB cI tS tC tF o_3 u_4 u_7.1 bl o (fun _ => 0) u_7.2 fb fo pw H.size hp) (va_cwF 4 hts (sm_lwF q189 q192 q194 q15 q196) rfl rfl rfl hE.2 (by decide +kernel) ⟨Nat.le_of_ble_eq_true rfl, Nat.le_of_ble_eq_true rfl⟩) ⟨sm_WO.blind, va_recv hK hP (ci := 1) (q0 := 6) rfl rfl, fun U hU hW => ⟨rfl, sm_WO.at hU hW (hP.sub (ws' := [(o_3, .inr (1, [.ref u_4, .ref u_7.1])), (u_4, .inl (cI, 4, .inl (fun _ => 0))), (u_7.1, .inl (cI, 32, .inl u_7.2)), (bl, .inl (cB, 16, .inl fb)), (o, .inl (cB, 16, .inl fo))]) [6, 4, 9, 2, 3] rfl) hK (hD.sub (ws' := [(o_3, .inr (1, [.ref u_4, .ref u_7.1])), (u_4, .inl (cI, 4, .inl (fun _ => 0))), (u_7.1, .inl (cI, 32, .inl u_7.2)), (bl, .inl (cB, 16, .inl fb)), (o, .inl (cB, 16, .inl fo))]) [6, 4, 9, 2, 3] (by decide) rfl) hZ hS hA hE⟩⟩ rfl rfl hl.1 rfl (lv_room (Nat.le_of_ble_eq_true rfl)) dX1_run_77 ⟨Nat.le_of_ble_eq_true rfl, Nat.le_of_ble_eq_true rfl⟩) hP hD hS hA [6, 4, 9, 2, 3] [0, 1, 5, 7, 8] rfl rfl (by decide) (by decide) (fun r_9 u_8 H locs eu_8 hP hD hS => ?_)
      have hP : va_P D sm_cl [(h0, .inr (0, [.ref k, .ref bl, .ref o])), (k, .inl (cB, 32, .inl fk)), (a_2, .inl (cB, 16, .inl g)), (o_5, .inr (2, [.ref u_6.1])), (u_6.1, .inl (cB, 16, .inl u_6.2)), (o_3, .inr (1, [.ref u_4, .ref u_7.1])), (u_4, .inl (cI, 4, .inl u_8.1)), (u_7.1, .inl (cI, 32, .inl u_7.2)), (bl, .inl (cB, 16, .inl fb)), (o, .inl (cB, 16, .inl u_8.2))] H := hP
      have hD : va_D A [(h0, .inr (0, [.ref k, .ref bl, .ref o])), (k, .inl (cB, 32, .inl fk)), (a_2, .inl (cB, 16, .inl g)), (o_5, .inr (2, [.ref u_6.1])), (u_6.1, .inl (cB, 16, .inl u_6.2)), (o_3, .inr (1, [.ref u_4, .ref u_7.1])), (u_4, .inl (cI, 4, .inl u_8.1)), (u_7.1, .inl (cI, 32, .inl u_7.2)), (bl, .inl (cB, 16, .inl fb)), (o, .inl (cB, 16, .inl u_8.2))] := hD
      refine lv_pop hx hb dX1_run_82 rfl ?_
      have hs : sm_b4 u_8.2 (sm_o b mk pw) := sm_b4.congr eu_8 (sm_x_o eu_7)
      have hP : va_P D sm_cl [(h0, .inr (0, [.ref k, .ref bl, .ref o])), (k, .inl (cB, 32, .inl fk)), (bl, .inl (cB, 16, .inl fb)), (o, .inl (cB, 16, .inl u_8.2))] H := hP.sub [0, 1, 8, 9] rfl
      have hD : va_D A [(h0, .inr (0, [.ref k, .ref bl, .ref o])), (k, .inl (cB, 32, .inl fk)), (bl, .inl (cB, 16, .inl fb)), (o, .inl (cB, 16, .inl u_8.2))] := hD.sub [0, 1, 8, 9] (by decide) rfl
      refine W.widen (k := 8) (n := 79) (Nat.le_of_ble_eq_true rfl) (Nat.le_of_ble_eq_true rfl) ?_
      exact W.vret hx hb hr (fun t ht hW => ⟨⟨u_8.2, rfl, hs, by rw [ht]; exact hP, hD⟩, hS.F ht⟩) hS.2.2 dX1_run_83
    | succ n ih =>
      intro i hi g H locs hg hP hD hS ls hl
      refine lv_iload hx hb dX1_run_15 (lv_at hl 0 rfl) ?_
      refine lv_iload_n hx hb dX1_run_17 rfl (lv_at hl 2 rfl) ?_
      refine lv_icmp_ge (tgt := 39) hx hb dX1_run_18 (by decide) (fun h => absurd h (nI_ge (a := i) (b := 16) (by omega) (by decide))) (fun _ => ?_)
      refine lv_aload hx hb dX1_run_21 (lv_at hl 1 rfl) ?_
      refine lv_iload hx hb dX1_run_23 (lv_at hl 0 rfl) ?_
      refine lv_aload_n hx hb dX1_run_25 rfl (lv_at hl 3 rfl) ?_
      refine va_get (D := D) (ci := 0) (v := .ref k) (C := RX1) (T := TX1) (N := 3) hx hb hts in_X1 hown hK hP 0 rfl rfl 0 (by decide) (hts _ q293) (fun _ h9 => h9) rfl dX1_run_26 ?_
      refine lv_iload hx hb dX1_run_29 (lv_at hl 0 rfl) ?_
      refine sm_ldb hx hb hK hP 1 0 rfl rfl (i) rfl (by omega) (by decide) (v := fk i) (rfl) dX1_run_31 ?_
      refine sm_stb (y := fk i) hx hb hK hP hD hS 4 0 rfl rfl (i) rfl (by omega) (by decide) (hk.nar (by omega)) dX1_run_32 (fun g_10 H locs eg_10 hP hD hS => ?_)
      have hP : va_P D sm_cl [(h0, .inr (0, [.ref k, .ref bl, .ref o])), (k, .inl (cB, 32, .inl fk)), (bl, .inl (cB, 16, .inl fb)), (o, .inl (cB, 16, .inl fo)), (a_2, .inl (cB, 16, .inl g_10))] H := hP
      have hD : va_D A [(h0, .inr (0, [.ref k, .ref bl, .ref o])), (k, .inl (cB, 32, .inl fk)), (bl, .inl (cB, 16, .inl fb)), (o, .inl (cB, 16, .inl fo)), (a_2, .inl (cB, 16, .inl g_10))] := hD
      have hg1 : ∀ j, j < i + 1 → g_10 j = fk j := by
        intro j h1
        rcases (show j = i ∨ j < i by omega) with rfl | h3
        · rw [eg_10, pk_us]
        · rw [eg_10, pk_un (by omega)]; exact hg j h3
      refine lv_iinc (v := nI (i + 1)) (lv' := [(5, .int (nI (i + 1))), (4, .ref a_2), (3, .int 16), (0, .ref h0), (1, .int b), (2, .int kd)]) hx hb dX1_run_33 hl (k := 0) rfl (nI_1 (i)) (by decide) rfl (fun ls hl => ?_)
      refine lv_goto (tgt := 15) hx hb dX1_run_36 (by decide) ?_
      exact ih (i + 1) (by omega) g_10 H locs hg1 hP hD hS ls hl
  exact loop 16 0 (by decide) (fun _ => 0) _ _ (fun j hj => absurd hj (Nat.not_lt_zero j)) hP hD hS ls hl
set_option maxHeartbeats 4000000 in
set_option maxRecDepth 100000 in
/-- lock(kind) -/
theorem metX1_lock (l : Launch) (D : va_G) (cB cI : ClassId) (tS tC tF : Nat) (h0 k bl o : Nat) (fk fb fo : Nat → Int32) (kd : Int32) (mk pw : Nat → Int32) (sz : Nat) (hk : sm_b4 fk mk) (hp : sm_b4 fb pw) : Met l yX1_lock (ws_ yX1_lock cX1_lock 2 none) ({ frames := 6, cells := 8, slots := 79, locals := 190 }) (va_Pc [.ref h0, .int kd] (sm_WO D cB cI tS tC tF [(h0, .inr (0, [.ref k, .ref bl, .ref o])), (k, .inl (cB, 32, .inl fk)), (bl, .inl (cB, 16, .inl fb)), (o, .inl (cB, 16, .inl fo))] sz)) (va_Qv (fun u : Nat → Int32 => sm_b4 u (sm_o 1 mk pw)) (sm_BW D (va_A [(h0, .inr (0, [.ref k, .ref bl, .ref o])), (k, .inl (cB, 32, .inl fk)), (bl, .inl (cB, 16, .inl fb)), (o, .inl (cB, 16, .inl fo))] sz) (fun u => [(h0, .inr (0, [.ref k, .ref bl, .ref o])), (k, .inl (cB, 32, .inl fk)), (bl, .inl (cB, 16, .inl fb)), (o, .inl (cB, 16, .inl u))])) (va_A [(h0, .inr (0, [.ref k, .ref bl, .ref o])), (k, .inl (cB, 32, .inl fk)), (bl, .inl (cB, 16, .inl fb)), (o, .inl (cB, 16, .inl fo))] sz)) 8 79 (va_A [(h0, .inr (0, [.ref k, .ref bl, .ref o])), (k, .inl (cB, 32, .inl fk)), (bl, .inl (cB, 16, .inl fb)), (o, .inl (cB, 16, .inl fo))] sz) := by
  refine Met.ofW (cc := cX1_lock) (maxL := 2) (ret := none) (by decide) rfl ?_
  intro p e s m args below meth c s₁ B hml hv
  obtain ⟨rfl, hsz, hP, hK, hD0, hZ, hE⟩ := hv
  have hx := B.exec
  have hb := B.bytes
  have hr := B.returns
  have hts := atoms_spec (ws := ws_ yX1_lock cX1_lock 2 none) B.pre
  have hts : ∀ w ∈ lw_all, w.before _ s = true := fun w h => hts w (List.mem_cons_of_mem _ h)
  have hown : s.vm.findClass RX1 = some m.cls := findClass_of_methodNamed B.named
  have hlocks := B.notSynchronized
  subst hsz
  have hD := hD0.self (sz := s.heap.size)
  generalize hAe : va_A [(h0, .inr (0, [.ref k, .ref bl, .ref o])), (k, .inl (cB, 32, .inl fk)), (bl, .inl (cB, 16, .inl fb)), (o, .inl (cB, 16, .inl fo))] s.heap.size = A at hD hZ ⊢
  have hA : ∀ q : Nat, s.heap.size ≤ q → A q := fun q h => by rw [← hAe]; exact Or.inr h
  obtain ⟨H, eH⟩ : ∃ H : Heap, H = s.heap := ⟨_, rfl⟩
  rw [← eH] at hP ⊢
  have hS : va_S A s.heap H [] := by rw [eH]; exact va_S.rf
  have hl := lv_entry ([.ref h0, .int kd]) (n := 2) (Nat.le_of_ble_eq_true rfl)
  rw [lg_entry_eq]
  generalize (lg_sl ([.ref h0, .int kd]) ++ List.replicate (2 - (lg_sl ([.ref h0, .int kd])).length) Slot.unset).toArray = ls at hl ⊢
  have hl : lv_has ls 2 [(0, .ref h0), (1, .int kd)] := hl
  refine lv_aload_n hx hb dX1_lock_0 rfl (lv_at hl 0 rfl) ?_
  refine lv_iconst (v := 1) hx hb dX1_lock_1 (by decide) ?_
  refine lv_iload_n hx hb dX1_lock_2 rfl (lv_at hl 1 rfl) ?_
  refine sm_callv (ws := [(h0, .inr (0, [.ref k, .ref bl, .ref o])), (k, .inl (cB, 32, .inl fk)), (bl, .inl (cB, 16, .inl fb)), (o, .inl (cB, 16, .inl fo))]) (wc := [(h0, .inr (0, [.ref k, .ref bl, .ref o])), (k, .inl (cB, 32, .inl fk)), (bl, .inl (cB, 16, .inl fb)), (o, .inl (cB, 16, .inl fo))]) (wr := []) (va_runV (As := [.int (1 : Int32), .int kd]) (rest := []) ⟨hx, hb, hml, hown, hts⟩ (metX1_run l D cB cI tS tC tF h0 k bl o fk fb fo 1 kd mk pw H.size hk hp) (cwV 2 hts (lw_V q31 q33 qs0 q14 q35) rfl rfl rfl (by decide +kernel) ⟨Nat.le_of_ble_eq_true rfl, Nat.le_of_ble_eq_true rfl⟩) ⟨sm_WO.blind, va_recv hK hP (ci := 0) (q0 := 0) rfl rfl, fun U hU hW => ⟨rfl, sm_WO.at hU hW (hP.sub (ws' := [(h0, .inr (0, [.ref k, .ref bl, .ref o])), (k, .inl (cB, 32, .inl fk)), (bl, .inl (cB, 16, .inl fb)), (o, .inl (cB, 16, .inl fo))]) [0, 1, 2, 3] rfl) hK (hD.sub (ws' := [(h0, .inr (0, [.ref k, .ref bl, .ref o])), (k, .inl (cB, 32, .inl fk)), (bl, .inl (cB, 16, .inl fb)), (o, .inl (cB, 16, .inl fo))]) [0, 1, 2, 3] (by decide) rfl) hZ hS hA hE⟩⟩ rfl rfl hl.1 rfl (lv_room (Nat.le_of_ble_eq_true rfl)) dX1_lock_3 ⟨Nat.le_of_ble_eq_true rfl, Nat.le_of_ble_eq_true rfl⟩) hP hD hS hA [0, 1, 2, 3] [] rfl rfl (by decide) (by decide) (fun u_1 H locs eu_1 hP hD hS => ?_)
  have hP : va_P D sm_cl [(h0, .inr (0, [.ref k, .ref bl, .ref o])), (k, .inl (cB, 32, .inl fk)), (bl, .inl (cB, 16, .inl fb)), (o, .inl (cB, 16, .inl u_1))] H := hP
  have hD : va_D A [(h0, .inr (0, [.ref k, .ref bl, .ref o])), (k, .inl (cB, 32, .inl fk)), (bl, .inl (cB, 16, .inl fb)), (o, .inl (cB, 16, .inl u_1))] := hD
  have hP : va_P D sm_cl [(h0, .inr (0, [.ref k, .ref bl, .ref o])), (k, .inl (cB, 32, .inl fk)), (bl, .inl (cB, 16, .inl fb)), (o, .inl (cB, 16, .inl u_1))] H := hP.sub [0, 1, 2, 3] rfl
  have hD : va_D A [(h0, .inr (0, [.ref k, .ref bl, .ref o])), (k, .inl (cB, 32, .inl fk)), (bl, .inl (cB, 16, .inl fb)), (o, .inl (cB, 16, .inl u_1))] := hD.sub [0, 1, 2, 3] (by decide) rfl
  refine W.widen (k := 8) (n := 79) (Nat.le_of_ble_eq_true rfl) (Nat.le_of_ble_eq_true rfl) ?_
  exact W.vret hx hb hr (fun t ht hW => ⟨⟨u_1, rfl, eu_1, by rw [ht]; exact hP, hD⟩, hS.F ht⟩) hS.2.2 dX1_lock_6
set_option maxHeartbeats 4000000 in
set_option maxRecDepth 100000 in
/-- open(kind) -/
theorem metX1_open (l : Launch) (D : va_G) (cB cI : ClassId) (tS tC tF : Nat) (h0 k bl o : Nat) (fk fb fo : Nat → Int32) (kd : Int32) (mk pw : Nat → Int32) (sz : Nat) (hk : sm_b4 fk mk) (hp : sm_b4 fb pw) : Met l yX1_open (ws_ yX1_open cX1_open 2 none) ({ frames := 6, cells := 8, slots := 79, locals := 190 }) (va_Pc [.ref h0, .int kd] (sm_WO D cB cI tS tC tF [(h0, .inr (0, [.ref k, .ref bl, .ref o])), (k, .inl (cB, 32, .inl fk)), (bl, .inl (cB, 16, .inl fb)), (o, .inl (cB, 16, .inl fo))] sz)) (va_Qv (fun u : Nat → Int32 => sm_b4 u (sm_o 0 mk pw)) (sm_BW D (va_A [(h0, .inr (0, [.ref k, .ref bl, .ref o])), (k, .inl (cB, 32, .inl fk)), (bl, .inl (cB, 16, .inl fb)), (o, .inl (cB, 16, .inl fo))] sz) (fun u => [(h0, .inr (0, [.ref k, .ref bl, .ref o])), (k, .inl (cB, 32, .inl fk)), (bl, .inl (cB, 16, .inl fb)), (o, .inl (cB, 16, .inl u))])) (va_A [(h0, .inr (0, [.ref k, .ref bl, .ref o])), (k, .inl (cB, 32, .inl fk)), (bl, .inl (cB, 16, .inl fb)), (o, .inl (cB, 16, .inl fo))] sz)) 8 79 (va_A [(h0, .inr (0, [.ref k, .ref bl, .ref o])), (k, .inl (cB, 32, .inl fk)), (bl, .inl (cB, 16, .inl fb)), (o, .inl (cB, 16, .inl fo))] sz) := by
  refine Met.ofW (cc := cX1_open) (maxL := 2) (ret := none) (by decide) rfl ?_
  intro p e s m args below meth c s₁ B hml hv
  obtain ⟨rfl, hsz, hP, hK, hD0, hZ, hE⟩ := hv
  have hx := B.exec
  have hb := B.bytes
  have hr := B.returns
  have hts := atoms_spec (ws := ws_ yX1_open cX1_open 2 none) B.pre
  have hts : ∀ w ∈ lw_all, w.before _ s = true := fun w h => hts w (List.mem_cons_of_mem _ h)
  have hown : s.vm.findClass RX1 = some m.cls := findClass_of_methodNamed B.named
  have hlocks := B.notSynchronized
  subst hsz
  have hD := hD0.self (sz := s.heap.size)
  generalize hAe : va_A [(h0, .inr (0, [.ref k, .ref bl, .ref o])), (k, .inl (cB, 32, .inl fk)), (bl, .inl (cB, 16, .inl fb)), (o, .inl (cB, 16, .inl fo))] s.heap.size = A at hD hZ ⊢
  have hA : ∀ q : Nat, s.heap.size ≤ q → A q := fun q h => by rw [← hAe]; exact Or.inr h
  obtain ⟨H, eH⟩ : ∃ H : Heap, H = s.heap := ⟨_, rfl⟩
  rw [← eH] at hP ⊢
  have hS : va_S A s.heap H [] := by rw [eH]; exact va_S.rf
  have hl := lv_entry ([.ref h0, .int kd]) (n := 2) (Nat.le_of_ble_eq_true rfl)
  rw [lg_entry_eq]
  generalize (lg_sl ([.ref h0, .int kd]) ++ List.replicate (2 - (lg_sl ([.ref h0, .int kd])).length) Slot.unset).toArray = ls at hl ⊢
  have hl : lv_has ls 2 [(0, .ref h0), (1, .int kd)] := hl
  refine lv_aload_n hx hb dX1_open_0 rfl (lv_at hl 0 rfl) ?_
  refine lv_iconst (v := 0) hx hb dX1_open_1 (by decide) ?_
  refine lv_iload_n hx hb dX1_open_2 rfl (lv_at hl 1 rfl) ?_
  refine sm_callv (ws := [(h0, .inr (0, [.ref k, .ref bl, .ref o])), (k, .inl (cB, 32, .inl fk)), (bl, .inl (cB, 16, .inl fb)), (o, .inl (cB, 16, .inl fo))]) (wc := [(h0, .inr (0, [.ref k, .ref bl, .ref o])), (k, .inl (cB, 32, .inl fk)), (bl, .inl (cB, 16, .inl fb)), (o, .inl (cB, 16, .inl fo))]) (wr := []) (va_runV (As := [.int (0 : Int32), .int kd]) (rest := []) ⟨hx, hb, hml, hown, hts⟩ (metX1_run l D cB cI tS tC tF h0 k bl o fk fb fo 0 kd mk pw H.size hk hp) (cwV 2 hts (lw_V q31 q33 qs0 q14 q35) rfl rfl rfl (by decide +kernel) ⟨Nat.le_of_ble_eq_true rfl, Nat.le_of_ble_eq_true rfl⟩) ⟨sm_WO.blind, va_recv hK hP (ci := 0) (q0 := 0) rfl rfl, fun U hU hW => ⟨rfl, sm_WO.at hU hW (hP.sub (ws' := [(h0, .inr (0, [.ref k, .ref bl, .ref o])), (k, .inl (cB, 32, .inl fk)), (bl, .inl (cB, 16, .inl fb)), (o, .inl (cB, 16, .inl fo))]) [0, 1, 2, 3] rfl) hK (hD.sub (ws' := [(h0, .inr (0, [.ref k, .ref bl, .ref o])), (k, .inl (cB, 32, .inl fk)), (bl, .inl (cB, 16, .inl fb)), (o, .inl (cB, 16, .inl fo))]) [0, 1, 2, 3] (by decide) rfl) hZ hS hA hE⟩⟩ rfl rfl hl.1 rfl (lv_room (Nat.le_of_ble_eq_true rfl)) dX1_open_3 ⟨Nat.le_of_ble_eq_true rfl, Nat.le_of_ble_eq_true rfl⟩) hP hD hS hA [0, 1, 2, 3] [] rfl rfl (by decide) (by decide) (fun u_1 H locs eu_1 hP hD hS => ?_)
  have hP : va_P D sm_cl [(h0, .inr (0, [.ref k, .ref bl, .ref o])), (k, .inl (cB, 32, .inl fk)), (bl, .inl (cB, 16, .inl fb)), (o, .inl (cB, 16, .inl u_1))] H := hP
  have hD : va_D A [(h0, .inr (0, [.ref k, .ref bl, .ref o])), (k, .inl (cB, 32, .inl fk)), (bl, .inl (cB, 16, .inl fb)), (o, .inl (cB, 16, .inl u_1))] := hD
  have hP : va_P D sm_cl [(h0, .inr (0, [.ref k, .ref bl, .ref o])), (k, .inl (cB, 32, .inl fk)), (bl, .inl (cB, 16, .inl fb)), (o, .inl (cB, 16, .inl u_1))] H := hP.sub [0, 1, 2, 3] rfl
  have hD : va_D A [(h0, .inr (0, [.ref k, .ref bl, .ref o])), (k, .inl (cB, 32, .inl fk)), (bl, .inl (cB, 16, .inl fb)), (o, .inl (cB, 16, .inl u_1))] := hD.sub [0, 1, 2, 3] (by decide) rfl
  refine W.widen (k := 8) (n := 79) (Nat.le_of_ble_eq_true rfl) (Nat.le_of_ble_eq_true rfl) ?_
  exact W.vret hx hb hr (fun t ht hW => ⟨⟨u_1, rfl, eu_1, by rw [ht]; exact hP, hD⟩, hS.F ht⟩) hS.2.2 dX1_open_6
set_option maxHeartbeats 4000000 in
set_option maxRecDepth 100000 in
/-- again(): the block is what came out -/
theorem metX1_again (l : Launch) (D : va_G) (cB cI : ClassId) (tS tC tF : Nat) (h0 k bl o : Nat) (fb fo pw : Nat → Int32) (sz : Nat) (ho : sm_b4 fo pw) : Met l yX1_again (ws_ yX1_again cX1_again 2 none) ({ frames := 0, cells := 0, slots := 0, locals := 0 }) (va_Pc [.ref h0] (sm_WO D cB cI tS tC tF [(h0, .inr (0, [.ref k, .ref bl, .ref o])), (bl, .inl (cB, 16, .inl fb)), (o, .inl (cB, 16, .inl fo))] sz)) (va_Qv (fun u : Nat → Int32 => sm_b4 u pw) (sm_BW D (va_A [(h0, .inr (0, [.ref k, .ref bl, .ref o])), (bl, .inl (cB, 16, .inl fb)), (o, .inl (cB, 16, .inl fo))] sz) (fun u => [(h0, .inr (0, [.ref k, .ref bl, .ref o])), (bl, .inl (cB, 16, .inl u)), (o, .inl (cB, 16, .inl fo))])) (va_A [(h0, .inr (0, [.ref k, .ref bl, .ref o])), (bl, .inl (cB, 16, .inl fb)), (o, .inl (cB, 16, .inl fo))] sz)) 0 0 (va_A [(h0, .inr (0, [.ref k, .ref bl, .ref o])), (bl, .inl (cB, 16, .inl fb)), (o, .inl (cB, 16, .inl fo))] sz) := by
  refine Met.ofW (cc := cX1_again) (maxL := 2) (ret := none) (by decide) rfl ?_
  intro p e s m args below meth c s₁ B hml hv
  obtain ⟨rfl, hsz, hP, hK, hD0, hZ, hE⟩ := hv
  have hx := B.exec
  have hb := B.bytes
  have hr := B.returns
  have hts := atoms_spec (ws := ws_ yX1_again cX1_again 2 none) B.pre
  have hts : ∀ w ∈ lw_all, w.before _ s = true := fun w h => hts w (List.mem_cons_of_mem _ h)
  have hown : s.vm.findClass RX1 = some m.cls := findClass_of_methodNamed B.named
  have hlocks := B.notSynchronized
  subst hsz
  have hD := hD0.self (sz := s.heap.size)
  generalize hAe : va_A [(h0, .inr (0, [.ref k, .ref bl, .ref o])), (bl, .inl (cB, 16, .inl fb)), (o, .inl (cB, 16, .inl fo))] s.heap.size = A at hD hZ ⊢
  have hA : ∀ q : Nat, s.heap.size ≤ q → A q := fun q h => by rw [← hAe]; exact Or.inr h
  obtain ⟨H, eH⟩ : ∃ H : Heap, H = s.heap := ⟨_, rfl⟩
  rw [← eH] at hP ⊢
  have hS : va_S A s.heap H [] := by rw [eH]; exact va_S.rf
  have hl := lv_entry ([.ref h0]) (n := 2) (Nat.le_of_ble_eq_true rfl)
  rw [lg_entry_eq]
  generalize (lg_sl ([.ref h0]) ++ List.replicate (2 - (lg_sl ([.ref h0])).length) Slot.unset).toArray = ls at hl ⊢
  have hl : lv_has ls 2 [(0, .ref h0)] := hl
  refine lv_iconst (v := 0) hx hb dX1_again_0 (by decide) ?_
  refine lv_istore_n (lv' := [(1, .int (0 : Int32)), (0, .ref h0)]) hx hb dX1_again_1 rfl hl (by decide) rfl (fun ls hl => ?_)
  have loop : ∀ (n i : Nat), i + n = 16 → ∀ (g : Nat → Int32) (H : Heap) (locs : List Loc), (∀ j, j < i → g j = fo j) → va_P D sm_cl [(h0, .inr (0, [.ref k, .ref bl, .ref o])), (bl, .inl (cB, 16, .inl g)), (o, .inl (cB, 16, .inl fo))] H → va_D A [(h0, .inr (0, [.ref k, .ref bl, .ref o])), (bl, .inl (cB, 16, .inl g)), (o, .inl (cB, 16, .inl fo))] → va_S A s.heap H locs → ∀ (ls : Array Slot), lv_has ls 2 [(1, .int (nI i)), (0, .ref h0)] → W p l e (headSpec (ws_ yX1_again cX1_again 2 none) ({ frames := 0, cells := 0, slots := 0, locals := 0 })).room s m ([.ref h0] : List Value).toArray below meth c H locs 0 0 (MQ below (va_Qv (fun u : Nat → Int32 => sm_b4 u pw) (sm_BW D A (fun u => [(h0, .inr (0, [.ref k, .ref bl, .ref o])), (bl, .inl (cB, 16, .inl u)), (o, .inl (cB, 16, .inl fo))])) A) ([.ref h0] : List Value).toArray s 0 0 A) (F0 m 2 ls []) := by
    intro n
    induction n with
    | zero =>
      intro i hi g H locs hg hP hD hS ls hl
      obtain rfl : i = 16 := by omega
      refine lv_iload_n hx hb dX1_again_2 rfl (lv_at hl 0 rfl) ?_
      refine lv_bipush (v := 16) hx hb dX1_again_3 (by decide) ?_
      refine lv_icmp_ge (tgt := 26) hx hb dX1_again_5 (by decide) (fun _ => ?_) (fun h => absurd (show (16 : Int32) ≤ nI 16 by decide) h)
      have hP : va_P D sm_cl [(h0, .inr (0, [.ref k, .ref bl, .ref o])), (bl, .inl (cB, 16, .inl g)), (o, .inl (cB, 16, .inl fo))] H := hP.sub [0, 1, 2] rfl
      have hD : va_D A [(h0, .inr (0, [.ref k, .ref bl, .ref o])), (bl, .inl (cB, 16, .inl g)), (o, .inl (cB, 16, .inl fo))] := hD.sub [0, 1, 2] (by decide) rfl
      refine W.widen (k := 0) (n := 0) (Nat.le_of_ble_eq_true rfl) (Nat.le_of_ble_eq_true rfl) ?_
      exact W.vret hx hb hr (fun t ht hW => ⟨⟨g, rfl, ho.same hg, by rw [ht]; exact hP, hD⟩, hS.F ht⟩) hS.2.2 dX1_again_26
    | succ n ih =>
      intro i hi g H locs hg hP hD hS ls hl
      refine lv_iload_n hx hb dX1_again_2 rfl (lv_at hl 0 rfl) ?_
      refine lv_bipush (v := 16) hx hb dX1_again_3 (by decide) ?_
      refine lv_icmp_ge (tgt := 26) hx hb dX1_again_5 (by decide) (fun h => absurd h (nI_ge (a := i) (b := 16) (by omega) (by decide))) (fun _ => ?_)
      refine lv_aload_n hx hb dX1_again_8 rfl (lv_at hl 1 rfl) ?_
      refine va_get (D := D) (ci := 0) (v := .ref bl) (C := RX1) (T := TX1) (N := 3) hx hb hts in_X1 hown hK hP 0 rfl rfl 1 (by decide) (hts _ q294) (fun _ h9 => h9) rfl dX1_again_9 ?_
      refine lv_iload_n hx hb dX1_again_12 rfl (lv_at hl 0 rfl) ?_
      refine lv_aload_n hx hb dX1_again_13 rfl (lv_at hl 1 rfl) ?_
      refine va_get (D := D) (ci := 0) (v := .ref o) (C := RX1) (T := TX1) (N := 3) hx hb hts in_X1 hown hK hP 0 rfl rfl 2 (by decide) (hts _ q295) (fun _ h9 => h9) rfl dX1_again_14 ?_
      refine lv_iload_n hx hb dX1_again_17 rfl (lv_at hl 0 rfl) ?_
      refine sm_ldb hx hb hK hP 2 0 rfl rfl (i) rfl (by omega) (by decide) (v := fo i) (rfl) dX1_again_18 ?_
      refine sm_stb (y := fo i) hx hb hK hP hD hS 1 0 rfl rfl (i) rfl (by omega) (by decide) (ho.nar (by omega)) dX1_again_19 (fun g_1 H locs eg_1 hP hD hS => ?_)
      have hP : va_P D sm_cl [(h0, .inr (0, [.ref k, .ref bl, .ref o])), (bl, .inl (cB, 16, .inl g_1)), (o, .inl (cB, 16, .inl fo))] H := hP
      have hD : va_D A [(h0, .inr (0, [.ref k, .ref bl, .ref o])), (bl, .inl (cB, 16, .inl g_1)), (o, .inl (cB, 16, .inl fo))] := hD
      have hg1 : ∀ j, j < i + 1 → g_1 j = fo j := by
        intro j h1
        rcases (show j = i ∨ j < i by omega) with rfl | h3
        · rw [eg_1, pk_us]
        · rw [eg_1, pk_un (by omega)]; exact hg j h3
      refine lv_iinc (v := nI (i + 1)) (lv' := [(1, .int (nI (i + 1))), (0, .ref h0)]) hx hb dX1_again_20 hl (k := 0) rfl (nI_1 (i)) (by decide) rfl (fun ls hl => ?_)
      refine lv_goto (tgt := 2) hx hb dX1_again_23 (by decide) ?_
      exact ih (i + 1) (by omega) g_1 H locs hg1 hP hD hS ls hl
  exact loop 16 0 (by decide) fb _ _ (fun j hj => absurd hj (Nat.not_lt_zero j)) hP hD hS ls hl
end
section
/-! the law's own methods; the script is the array at c0, L ints xs -/
def sm_cell (L : Nat) (xs : Nat → Int32) (k : Nat) : Int32 := if k < L then xs k else 0
theorem sm_X.blind {c0 L : Nat} {xs : Nat → Int32} {av : List Value} : FrameBlind (va_Pc av (fun U => va_X c0 L xs U U.heap)) := by
  intro a U g mk q
  obtain ⟨q0, qX⟩ := q
  exact ⟨q0, va_X.moved (u := U) (U := U.calling g mk a) (Vm.Alike.refl U.vm) qX⟩
theorem sm_X.lt {c0 L : Nat} {xs : Nat → Int32} {U : State} {H : Heap} (h : va_X c0 L xs U H) : c0 < H.size := by
  obtain ⟨scr, h1, -⟩ := h
  exact (Array.getElem?_eq_some_iff.mp h1).1
def sm_ROX (D : va_G) (cB cI : ClassId) (tS tC tF : Nat) (ws : va_W) (c0 L : Nat) (xs : Nat → Int32) (U : State) : Prop := sm_RO D cB cI tS tC tF ws U ∧ va_X c0 L xs U U.heap
theorem sm_ROX.blind {D : va_G} {cB cI : ClassId} {tS tC tF : Nat} {ws : va_W} {c0 L : Nat} {xs : Nat → Int32} {av : List Value} : FrameBlind (va_Pc av (sm_ROX D cB cI tS tC tF ws c0 L xs)) := by
  intro a U g mk q
  obtain ⟨q0, qR, qX⟩ := q
  exact ⟨q0, (sm_RO.blind (av := av) a U g mk ⟨q0, qR⟩).2, (sm_X.blind (av := av) a U g mk ⟨q0, qX⟩).2⟩
def sm_WOX (D : va_G) (cB cI : ClassId) (tS tC tF : Nat) (ws : va_W) (sz : Nat) (c0 L : Nat) (xs : Nat → Int32) (U : State) : Prop := sm_WO D cB cI tS tC tF ws sz U ∧ va_X c0 L xs U U.heap
theorem sm_WOX.blind {D : va_G} {cB cI : ClassId} {tS tC tF : Nat} {ws : va_W} {sz c0 L : Nat} {xs : Nat → Int32} {av : List Value} : FrameBlind (va_Pc av (sm_WOX D cB cI tS tC tF ws sz c0 L xs)) := by
  intro a U g mk q
  obtain ⟨q0, qR, qX⟩ := q
  exact ⟨q0, (sm_WO.blind (av := av) a U g mk ⟨q0, qR⟩).2, (sm_X.blind (av := av) a U g mk ⟨q0, qX⟩).2⟩
theorem sm_qw (w : Nat → Int32) {q : Nat} (h : q < 4) : sm_q (w 0) (w 1) (w 2) (w 3) q = w q := by
  rcases (show q = 0 ∨ q = 1 ∨ q = 2 ∨ q = 3 by omega) with rfl | rfl | rfl | rfl <;> rfl
theorem sm_calli {p : Program} {l : Launch} {e : Env} {R : Room} {s : State} {m : MethodId} {args : Array Value} {below : List Frame} {meth : Method} {c : Code} {H : Heap} {locs : List Loc} {cells slots : Nat} {Q : State → Prop} {pc : Nat} {ls : Array Slot} {rest st0 : List Value} {D : va_G} {A : Nat → Prop} {ws : va_W} {H0 : Heap} {wc wr : va_W} {mc ms : Nat} {b : Array Value} {S : Type} {post : Int32 → S → Prop} {w1 : S → va_W} (hr : va_Run p l e R s m args below meth c H locs cells slots mc ms (F0 m pc ls st0) rest (va_Qi post (sm_BW D (va_A wc H.size) w1) (va_A wc H.size) b) (va_A wc H.size)) (hP : va_P D sm_cl ws H) (hD : va_D A ws) (hS : va_S A H0 H locs) (hA : ∀ q, H0.size ≤ q → A q) (isC isR : List Nat) (hC : isC.map (fun i => ws[i]?) = wc.map some) (hR : isR.map (fun i => ws[i]?) = wr.map some) (hn : va_nd isR = true) (hdis : ∀ i ∈ isR, i ∉ isC)
    (kk : ∀ (r : Int32) (u : S) (H1 : Heap) (locs1 : List Loc), post r u → va_P D sm_cl (wr ++ w1 u) H1 → va_D A (wr ++ w1 u) → va_S A H0 H1 locs1 → W p l e R s m args below meth c H1 locs1 (cells + mc) (slots + ms) Q (F0 m (pc + 3) ls (.int r :: rest))) : W p l e R s m args below meth c H locs cells slots Q (F0 m pc ls st0) := by
  have hF := va_free hD hS hA isC hC
  refine va_calli hr hS (fun q _ h => hF q h) hF (fun r u t H1 locs1 ht hvm hw hB hz hk hS1 => ?_)
  obtain ⟨hP1, hD1⟩ := hB
  rw [ht] at hP1
  obtain ⟨hP', hD'⟩ := va_join hP hD isC isR hC hR hn hdis hk hF hP1 hD1
  exact kk r u H1 locs1 hw hP' hD' hS1
/-- the law's count of a shift: 24 - 8 * (i % 4) -/
theorem sm_sh {i : Nat} (hi : i < 16) : (24 : Int32) - (8 : Int32) * (nI i - nI i / 4 * 4) = nI (24 - 8 * (i % 4)) := by
  rw [show nI i - nI i / 4 * 4 = nI (i % 4) from pk_rem (a := i) (d := 4) (by omega) (by decide) (by decide)]
  rw [show (8 : Int32) * nI (i % 4) = nI (8 * (i % 4)) from pk_mul 8 (i % 4)]
  exact sm_sub (by omega) rfl rfl
set_option maxHeartbeats 4000000 in
set_option maxRecDepth 100000 in
/-- cell(s, k) -/
theorem metX0_cell (l : Launch) (D : va_G) (cB cI : ClassId) (tS tC tF : Nat) (c0 L : Nat) (xs : Nat → Int32) (k : Nat) (hL : L ≤ 12) (hk : k < 16) : Met l yX0_cell (ws_ yX0_cell cX0_cell 2 (some .int)) ({ frames := 0, cells := 0, slots := 0, locals := 0 }) (va_Pc [.ref c0, .int (nI k)] (fun U => va_X c0 L xs U U.heap)) (vp_Si (fun r => r = sm_cell L xs k)) 0 0 (fun _ => False) := by
  refine Met.ofW (cc := cX0_cell) (maxL := 2) (ret := (some .int)) (by decide) rfl ?_
  intro p e s m args below meth c s₁ B hml hv
  obtain ⟨rfl, hX⟩ := hv
  have hx := B.exec
  have hb := B.bytes
  have hr := B.returns
  have hts := atoms_spec (ws := ws_ yX0_cell cX0_cell 2 (some .int)) B.pre
  have hts : ∀ w ∈ lw_all, w.before _ s = true := fun w h => hts w (List.mem_cons_of_mem _ h)
  have hown : s.vm.findClass RX0 = some m.cls := findClass_of_methodNamed B.named
  have hlocks := B.notSynchronized
  have hS : va_S (fun _ => False) s.heap s.heap [] := va_S.rf
  have hl := lv_entry ([.ref c0, .int (nI k)]) (n := 2) (Nat.le_of_ble_eq_true rfl)
  rw [lg_entry_eq]
  generalize (lg_sl ([.ref c0, .int (nI k)]) ++ List.replicate (2 - (lg_sl ([.ref c0, .int (nI k)])).length) Slot.unset).toArray = ls at hl ⊢
  have hl : lv_has ls 2 [(0, .ref c0), (1, .int (nI k))] := hl
  have hbl := sm_X.lt hX
  refine lv_iload_n hx hb dX0_cell_0 rfl (lv_at hl 1 rfl) ?_
  refine lv_aload_n hx hb dX0_cell_1 rfl (lv_at hl 0 rfl) ?_
  refine va_slen hx hb hX hbl (fun h => h) hS dX0_cell_2 ?_
  refine lv_icmp_ge (tgt := 12) hx hb dX0_cell_3 (by decide) (fun h => ?_) (fun h => ?_)
  · skip
    have h2 : L ≤ k := (nI_leI (a := L) (b := k) (by omega) (by omega)).mp h
    refine lv_iconst (v := 0) hx hb dX0_cell_12 (by decide) ?_
    exact W.iret (v := 0) hx hb hr (fun t ht hW => ⟨_, rfl, (if_neg (by omega)).symm, ht⟩) (fun _ h => by cases h) dX0_cell_13
  · skip
    have h2 : k < L := Nat.lt_of_not_le (fun q => h ((nI_leI (a := L) (b := k) (by omega) (by omega)).mpr q))
    refine lv_aload_n hx hb dX0_cell_6 rfl (lv_at hl 0 rfl) ?_
    refine lv_iload_n hx hb dX0_cell_7 rfl (lv_at hl 1 rfl) ?_
    refine va_sld hx hb hX hbl (fun h => h) hS (vp_in_nI h2 (by omega)) dX0_cell_8 ?_
    refine lv_goto (tgt := 13) hx hb dX0_cell_9 (by decide) ?_
    exact W.iret (v := xs (nI k).toNatClampNeg) hx hb hr (fun t ht hW => ⟨_, rfl, (congrArg xs (nI_clamp (by omega))).trans (if_pos h2).symm, ht⟩) (fun _ h => by cases h) dX0_cell_13
set_option maxHeartbeats 4000000 in
set_option maxRecDepth 100000 in
/-- same(x, s): true, where out holds the words s[8..11] -/
theorem metX0_same (l : Launch) (D : va_G) (cB cI : ClassId) (tS tC tF : Nat) (h0 k bl o : Nat) (fo : Nat → Int32) (c0 L : Nat) (xs : Nat → Int32) (hL : L ≤ 12) (ho : sm_b4 fo (fun q => sm_cell L xs (8 + q))) : Met l yX0_same (ws_ yX0_same cX0_same 3 (some .boolean)) ({ frames := 1, cells := 0, slots := 0, locals := 40 }) (va_Pc [.ref h0, .ref c0] (sm_ROX D cB cI tS tC tF [(h0, .inr (0, [.ref k, .ref bl, .ref o])), (o, .inl (cB, 16, .inl fo))] c0 L xs)) (vp_Si (fun r => r = 1)) 0 0 (fun _ => False) := by
  refine Met.ofW (cc := cX0_same) (maxL := 3) (ret := (some .boolean)) (by decide) rfl ?_
  intro p e s m args below meth c s₁ B hml hv
  obtain ⟨rfl, ⟨hP, hK, hZ⟩, hX⟩ := hv
  have hx := B.exec
  have hb := B.bytes
  have hr := B.returns
  have hts := atoms_spec (ws := ws_ yX0_same cX0_same 3 (some .boolean)) B.pre
  have hts : ∀ w ∈ lw_all, w.before _ s = true := fun w h => hts w (List.mem_cons_of_mem _ h)
  have hown : s.vm.findClass RX0 = some m.cls := findClass_of_methodNamed B.named
  have hlocks := B.notSynchronized
  have hS : va_S (fun _ => False) s.heap s.heap [] := va_S.rf
  have hl := lv_entry ([.ref h0, .ref c0]) (n := 3) (Nat.le_of_ble_eq_true rfl)
  rw [lg_entry_eq]
  generalize (lg_sl ([.ref h0, .ref c0]) ++ List.replicate (3 - (lg_sl ([.ref h0, .ref c0])).length) Slot.unset).toArray = ls at hl ⊢
  have hl : lv_has ls 3 [(0, .ref h0), (1, .ref c0)] := hl
  have hbl := sm_X.lt hX
  refine lv_iconst (v := 0) hx hb dX0_same_0 (by decide) ?_
  refine lv_istore_n (lv' := [(2, .int (0 : Int32)), (0, .ref h0), (1, .ref c0)]) hx hb dX0_same_1 rfl hl (by decide) rfl (fun ls hl => ?_)
  have loop : ∀ (n i : Nat), i + n = 16 → ∀ (ls : Array Slot), lv_has ls 3 [(2, .int (nI i)), (0, .ref h0), (1, .ref c0)] → W p l e (headSpec (ws_ yX0_same cX0_same 3 (some .boolean)) ({ frames := 1, cells := 0, slots := 0, locals := 40 })).room s m ([.ref h0, .ref c0] : List Value).toArray below meth c s.heap [] 0 0 (MQ below (vp_Si (fun r => r = 1)) ([.ref h0, .ref c0] : List Value).toArray s 0 0 (fun _ => False)) (F0 m 2 ls []) := by
    intro n
    induction n with
    | zero =>
      intro i hi ls hl
      obtain rfl : i = 16 := by omega
      refine lv_iload_n hx hb dX0_same_2 rfl (lv_at hl 0 rfl) ?_
      refine lv_bipush (v := 16) hx hb dX0_same_3 (by decide) ?_
      refine lv_icmp_ge (tgt := 48) hx hb dX0_same_5 (by decide) (fun _ => ?_) (fun h => absurd (show (16 : Int32) ≤ nI 16 by decide) h)
      refine lv_iconst (v := 1) hx hb dX0_same_48 (by decide) ?_
      exact W.zret (v := 1) hx hb hr rfl (fun t ht hW => ⟨_, rfl, rfl, ht⟩) (fun _ h => by cases h) dX0_same_49
    | succ n ih =>
      intro i hi ls hl
      refine lv_iload_n hx hb dX0_same_2 rfl (lv_at hl 0 rfl) ?_
      refine lv_bipush (v := 16) hx hb dX0_same_3 (by decide) ?_
      refine lv_icmp_ge (tgt := 48) hx hb dX0_same_5 (by decide) (fun h => absurd h (nI_ge (a := i) (b := 16) (by omega) (by decide))) (fun _ => ?_)
      refine lv_aload_n hx hb dX0_same_8 rfl (lv_at hl 1 rfl) ?_
      refine lv_iload_n hx hb dX0_same_9 rfl (lv_at hl 0 rfl) ?_
      refine vp_callSi (va_runV (As := [.int (nI i)]) (rest := []) ⟨hx, hb, hml, hown, hts⟩ (metX1_out l D cB cI tS tC tF h0 k bl o fo i (by omega)) (cwV 1 hts (lw_V q320 q321 q322 q14 q323) rfl rfl rfl (by decide +kernel) ⟨Nat.le_of_ble_eq_true rfl, Nat.le_of_ble_eq_true rfl⟩) ⟨sm_RO.blind, va_recv hK hP (ci := 0) (q0 := 0) rfl rfl, fun U hU hW => ⟨rfl, sm_RO.at hU hW (hP.sub (ws' := [(h0, .inr (0, [.ref k, .ref bl, .ref o])), (o, .inl (cB, 16, .inl fo))]) [0, 1] rfl) hK hZ hS⟩⟩ rfl rfl hl.1 rfl (lv_room (Nat.le_of_ble_eq_true rfl)) dX0_same_10 ⟨Nat.le_of_ble_eq_true rfl, Nat.le_of_ble_eq_true rfl⟩).run (fun r_1 er_1 => ?_)
      subst er_1
      refine lv_aload_n hx hb dX0_same_13 rfl (lv_at hl 2 rfl) ?_
      refine lv_bipush (v := 8) hx hb dX0_same_14 (by decide) ?_
      refine lv_iload_n hx hb dX0_same_16 rfl (lv_at hl 0 rfl) ?_
      refine lv_iconst (v := 4) hx hb dX0_same_17 (by decide) ?_
      refine lv_idiv hx hb dX0_same_18 (by decide) ?_
      refine sm_top (y := nI (i / 4)) (pk_div (a := i) (d := 4) (by omega) (by decide) (by decide)) ?_
      refine lv_iadd hx hb dX0_same_19 ?_
      refine sm_top (y := nI (8 + (i / 4))) (sm_add 8 (i / 4) (rfl) (rfl)) ?_
      refine vp_callSi (va_runS (As := [.ref c0, .int (nI (8 + (i / 4)))]) (rest := [.int (fo i &&& 255)]) ⟨hx, hb, hml, hown, hts⟩ (metX0_cell l D cB cI tS tC tF c0 L xs (8 + i / 4) hL (by omega)) (va_cwS 2 hts (lw_S q303 q304 q13 q305) rfl rfl rfl (by decide +kernel) ⟨Nat.le_of_ble_eq_true rfl, Nat.le_of_ble_eq_true rfl⟩) ⟨sm_X.blind, fun U hU hW => ⟨rfl, by show va_X c0 L xs U U.heap; rw [hU]; exact hX.moved hW.alike⟩⟩ rfl rfl hl.1 rfl (lv_room (Nat.le_of_ble_eq_true rfl)) dX0_same_20 ⟨Nat.le_of_ble_eq_true rfl, Nat.le_of_ble_eq_true rfl⟩).run (fun r_2 er_2 => ?_)
      subst er_2
      refine lv_bipush (v := 24) hx hb dX0_same_23 (by decide) ?_
      refine lv_bipush (v := 8) hx hb dX0_same_25 (by decide) ?_
      refine lv_iload_n hx hb dX0_same_27 rfl (lv_at hl 0 rfl) ?_
      refine lv_iconst (v := 4) hx hb dX0_same_28 (by decide) ?_
      refine lv_irem hx hb dX0_same_29 (by decide) ?_
      refine lv_imul hx hb dX0_same_30 ?_
      refine lv_isub hx hb dX0_same_31 ?_
      refine sm_top (y := nI (24 - 8 * (i % 4))) (sm_sh (by omega)) ?_
      refine lv_iushr hx hb dX0_same_32 rfl ?_
      refine lv_sipush (v := 255) hx hb dX0_same_33 (by decide) ?_
      refine lv_iand hx hb dX0_same_36 ?_
      have hv : fo i &&& 255 = ((sm_cell L xs (8 + i / 4)).toUInt32 >>> ((nI (24 - 8 * (i % 4))).toUInt32 &&& Int32.toUInt32 31)).toInt32 &&& 255 := by
        rw [ho i (by omega), sm_qw (fun q => sm_cell L xs (8 + q)) (by omega : i / 4 < 4)]
        exact sm_ush _ (by omega)
      refine lv_icmp_eq (tgt := 42) hx hb dX0_same_37 (by decide) (fun _ => ?_) (fun h => absurd hv h)
      refine lv_iinc (v := nI (i + 1)) (lv' := [(2, .int (nI (i + 1))), (0, .ref h0), (1, .ref c0)]) hx hb dX0_same_42 hl (k := 0) rfl (nI_1 (i)) (by decide) rfl (fun ls hl => ?_)
      refine lv_goto (tgt := 2) hx hb dX0_same_45 (by decide) ?_
      exact ih (i + 1) (by omega) ls hl
  exact loop 16 0 (by decide) ls hl
set_option maxHeartbeats 4000000 in
set_option maxRecDepth 100000 in
/-- with(s): a desk that holds the script's key and block -/
theorem metX0_with (l : Launch) (D : va_G) (cB cI : ClassId) (tS tC tF : Nat) (c0 L : Nat) (xs : Nat → Int32) (sz : Nat) (hL : L ≤ 12) : Met l yX0_with (ws_ yX0_with cX0_with 2 (some (.object "SmFourDesk"))) ({ frames := 2, cells := 4, slots := 67, locals := 60 }) (va_Pc [.ref c0] (sm_WOX D cB cI tS tC tF [] sz c0 L xs)) (va_Qr (fun u : Nat × Nat × Nat × (Nat → Int32) × (Nat → Int32) × (Nat → Int32) => sm_b4 u.2.2.2.1 (fun q => sm_cell L xs q) ∧ sm_b4 u.2.2.2.2.1 (fun q => sm_cell L xs (8 + q))) (sm_BR D (va_A [] sz) (fun u r => [(r, .inr (0, [.ref u.1, .ref u.2.1, .ref u.2.2.1])), (u.1, .inl (cB, 32, .inl u.2.2.2.1)), (u.2.1, .inl (cB, 16, .inl u.2.2.2.2.1)), (u.2.2.1, .inl (cB, 16, .inl u.2.2.2.2.2))])) (va_A [] sz)) 4 67 (va_A [] sz) := by
  refine Met.ofW (cc := cX0_with) (maxL := 2) (ret := (some (.object "SmFourDesk"))) (by decide) rfl ?_
  intro p e s m args below meth c s₁ B hml hv
  obtain ⟨rfl, ⟨hsz, hP, hK, hD0, hZ, hE⟩, hX⟩ := hv
  have hx := B.exec
  have hb := B.bytes
  have hr := B.returns
  have hts := atoms_spec (ws := ws_ yX0_with cX0_with 2 (some (.object "SmFourDesk"))) B.pre
  have hts : ∀ w ∈ lw_all, w.before _ s = true := fun w h => hts w (List.mem_cons_of_mem _ h)
  have hown : s.vm.findClass RX0 = some m.cls := findClass_of_methodNamed B.named
  have hlocks := B.notSynchronized
  subst hsz
  have hD := hD0.self (sz := s.heap.size)
  generalize hAe : va_A [] s.heap.size = A at hD hZ ⊢
  have hA : ∀ q : Nat, s.heap.size ≤ q → A q := fun q h => by rw [← hAe]; exact Or.inr h
  obtain ⟨H, eH⟩ : ∃ H : Heap, H = s.heap := ⟨_, rfl⟩
  rw [← eH] at hP ⊢
  have hS : va_S A s.heap H [] := by rw [eH]; exact va_S.rf
  have hl := lv_entry ([.ref c0]) (n := 2) (Nat.le_of_ble_eq_true rfl)
  rw [lg_entry_eq]
  generalize (lg_sl ([.ref c0]) ++ List.replicate (2 - (lg_sl ([.ref c0])).length) Slot.unset).toArray = ls at hl ⊢
  have hl : lv_has ls 2 [(0, .ref c0)] := hl
  have hbl := sm_X.lt hX
  have hbA : ¬ A c0 := by
    rw [← hAe]
    rintro (⟨k, e, h⟩ | h)
    · simp at h
    · omega
  refine va_new (ci := 0) (fs := [.null, .null, .null]) (C := RX1) (T := TX1) (N := 3) hx hb hts in_X1 tyX1 tyX1_ok hown (hts _ q288) (hts _ q34) (hts _ q14) hK hP hD hS hA rfl (fun j hj => by rcases (show j = 0 ∨ j = 1 ∨ j = 2 by omega) with rfl | rfl | rfl <;> rfl) (Nat.le_of_ble_eq_true rfl) (Nat.le_of_ble_eq_true rfl) dX0_with_0 (fun o_1 H hP hD hS => ?_)
  have hP : va_P D sm_cl [(o_1, .inr (0, [.null, .null, .null]))] H := hP
  have hD : va_D A [(o_1, .inr (0, [.null, .null, .null]))] := hD
  refine lv_dup hx hb dX0_with_3 rfl ?_
  refine sm_callv (ws := [(o_1, .inr (0, [.null, .null, .null]))]) (wc := [(o_1, .inr (0, [.null, .null, .null]))]) (wr := []) (va_runI (As := []) (rest := [.ref o_1]) ⟨hx, hb, hml, hown, hts⟩ (metX1_init l D cB cI tS tC tF o_1 H.size) (cwI 0 hts (lw_meth q291) rfl rfl rfl (hts _ q14) (hts _ q289) (hts _ q290) rfl (by decide +kernel) ⟨Nat.le_of_ble_eq_true rfl, Nat.le_of_ble_eq_true rfl⟩) ⟨sm_WO.blind, fun U hU hW => ⟨rfl, sm_WO.at hU hW (hP.sub (ws' := [(o_1, .inr (0, [.null, .null, .null]))]) [0] rfl) hK (hD.sub (ws' := [(o_1, .inr (0, [.null, .null, .null]))]) [0] (by decide) rfl) hZ hS hA hE⟩⟩ rfl rfl hl.1 rfl (lv_room (Nat.le_of_ble_eq_true rfl)) dX0_with_4 ⟨Nat.le_of_ble_eq_true rfl, Nat.le_of_ble_eq_true rfl⟩) hP hD hS hA [0] [] rfl rfl (by decide) (by decide) (fun u_2 H locs eu_2 hP hD hS => ?_)
  have hP : va_P D sm_cl [(o_1, .inr (0, [.ref u_2.1, .ref u_2.2.1, .ref u_2.2.2])), (u_2.1, .inl (cB, 32, .inl (fun _ => 0))), (u_2.2.1, .inl (cB, 16, .inl (fun _ => 0))), (u_2.2.2, .inl (cB, 16, .inl (fun _ => 0)))] H := hP
  have hD : va_D A [(o_1, .inr (0, [.ref u_2.1, .ref u_2.2.1, .ref u_2.2.2])), (u_2.1, .inl (cB, 32, .inl (fun _ => 0))), (u_2.2.1, .inl (cB, 16, .inl (fun _ => 0))), (u_2.2.2, .inl (cB, 16, .inl (fun _ => 0)))] := hD
  refine lv_astore_n (lv' := [(1, .ref o_1), (0, .ref c0)]) hx hb dX0_with_7 rfl hl (by decide) rfl (fun ls hl => ?_)
  refine lv_aload_n hx hb dX0_with_8 rfl (lv_at hl 0 rfl) ?_
  refine lv_iconst (v := 0) hx hb dX0_with_9 (by decide) ?_
  refine lv_aload_n hx hb dX0_with_10 rfl (lv_at hl 1 rfl) ?_
  refine lv_iconst (v := 0) hx hb dX0_with_11 (by decide) ?_
  refine vp_callSi (va_runS (As := [.ref c0, .int (0 : Int32)]) (rest := [.int (0 : Int32), .ref o_1]) ⟨hx, hb, hml, hown, hts⟩ (metX0_cell l D cB cI tS tC tF c0 L xs 0 hL (by decide)) (va_cwS 2 hts (lw_S q303 q304 q13 q305) rfl rfl rfl (by decide +kernel) ⟨Nat.le_of_ble_eq_true rfl, Nat.le_of_ble_eq_true rfl⟩) ⟨sm_X.blind, fun U hU hW => ⟨rfl, by show va_X c0 L xs U U.heap; rw [hU]; exact (hX.kept (hS.2.1 c0 hbl hbA)).moved hW.alike⟩⟩ rfl rfl hl.1 rfl (lv_room (Nat.le_of_ble_eq_true rfl)) dX0_with_12 ⟨Nat.le_of_ble_eq_true rfl, Nat.le_of_ble_eq_true rfl⟩).run (fun r_3 er_3 => ?_)
  subst er_3
  refine lv_aload_n hx hb dX0_with_15 rfl (lv_at hl 1 rfl) ?_
  refine lv_iconst (v := 1) hx hb dX0_with_16 (by decide) ?_
  refine vp_callSi (va_runS (As := [.ref c0, .int (1 : Int32)]) (rest := [.int (sm_cell L xs 0), .int (0 : Int32), .ref o_1]) ⟨hx, hb, hml, hown, hts⟩ (metX0_cell l D cB cI tS tC tF c0 L xs 1 hL (by decide)) (va_cwS 2 hts (lw_S q303 q304 q13 q305) rfl rfl rfl (by decide +kernel) ⟨Nat.le_of_ble_eq_true rfl, Nat.le_of_ble_eq_true rfl⟩) ⟨sm_X.blind, fun U hU hW => ⟨rfl, by show va_X c0 L xs U U.heap; rw [hU]; exact (hX.kept (hS.2.1 c0 hbl hbA)).moved hW.alike⟩⟩ rfl rfl hl.1 rfl (lv_room (Nat.le_of_ble_eq_true rfl)) dX0_with_17 ⟨Nat.le_of_ble_eq_true rfl, Nat.le_of_ble_eq_true rfl⟩).run (fun r_4 er_4 => ?_)
  subst er_4
  refine lv_aload_n hx hb dX0_with_20 rfl (lv_at hl 1 rfl) ?_
  refine lv_iconst (v := 2) hx hb dX0_with_21 (by decide) ?_
  refine vp_callSi (va_runS (As := [.ref c0, .int (2 : Int32)]) (rest := [.int (sm_cell L xs 1), .int (sm_cell L xs 0), .int (0 : Int32), .ref o_1]) ⟨hx, hb, hml, hown, hts⟩ (metX0_cell l D cB cI tS tC tF c0 L xs 2 hL (by decide)) (va_cwS 2 hts (lw_S q303 q304 q13 q305) rfl rfl rfl (by decide +kernel) ⟨Nat.le_of_ble_eq_true rfl, Nat.le_of_ble_eq_true rfl⟩) ⟨sm_X.blind, fun U hU hW => ⟨rfl, by show va_X c0 L xs U U.heap; rw [hU]; exact (hX.kept (hS.2.1 c0 hbl hbA)).moved hW.alike⟩⟩ rfl rfl hl.1 rfl (lv_room (Nat.le_of_ble_eq_true rfl)) dX0_with_22 ⟨Nat.le_of_ble_eq_true rfl, Nat.le_of_ble_eq_true rfl⟩).run (fun r_5 er_5 => ?_)
  subst er_5
  refine lv_aload_n hx hb dX0_with_25 rfl (lv_at hl 1 rfl) ?_
  refine lv_iconst (v := 3) hx hb dX0_with_26 (by decide) ?_
  refine vp_callSi (va_runS (As := [.ref c0, .int (3 : Int32)]) (rest := [.int (sm_cell L xs 2), .int (sm_cell L xs 1), .int (sm_cell L xs 0), .int (0 : Int32), .ref o_1]) ⟨hx, hb, hml, hown, hts⟩ (metX0_cell l D cB cI tS tC tF c0 L xs 3 hL (by decide)) (va_cwS 2 hts (lw_S q303 q304 q13 q305) rfl rfl rfl (by decide +kernel) ⟨Nat.le_of_ble_eq_true rfl, Nat.le_of_ble_eq_true rfl⟩) ⟨sm_X.blind, fun U hU hW => ⟨rfl, by show va_X c0 L xs U U.heap; rw [hU]; exact (hX.kept (hS.2.1 c0 hbl hbA)).moved hW.alike⟩⟩ rfl rfl hl.1 rfl (lv_room (Nat.le_of_ble_eq_true rfl)) dX0_with_27 ⟨Nat.le_of_ble_eq_true rfl, Nat.le_of_ble_eq_true rfl⟩).run (fun r_6 er_6 => ?_)
  subst er_6
  refine sm_callv (ws := [(o_1, .inr (0, [.ref u_2.1, .ref u_2.2.1, .ref u_2.2.2])), (u_2.1, .inl (cB, 32, .inl (fun _ => 0))), (u_2.2.1, .inl (cB, 16, .inl (fun _ => 0))), (u_2.2.2, .inl (cB, 16, .inl (fun _ => 0)))]) (wc := [(o_1, .inr (0, [.ref u_2.1, .ref u_2.2.1, .ref u_2.2.2])), (u_2.1, .inl (cB, 32, .inl (fun _ => 0)))]) (wr := [(u_2.2.1, .inl (cB, 16, .inl (fun _ => 0))), (u_2.2.2, .inl (cB, 16, .inl (fun _ => 0)))]) (va_runV (As := [.int (0 : Int32), .int (sm_cell L xs 0), .int (sm_cell L xs 1), .int (sm_cell L xs 2), .int (sm_cell L xs 3)]) (rest := []) ⟨hx, hb, hml, hown, hts⟩ (metX1_key l D cB cI tS tC tF o_1 u_2.1 u_2.2.1 u_2.2.2 (fun _ => 0) 0 (sm_cell L xs 0) (sm_cell L xs 1) (sm_cell L xs 2) (sm_cell L xs 3) H.size (by decide)) (cwV 5 hts (lw_V q306 q307 q308 q14 q309) rfl rfl rfl (by decide +kernel) ⟨Nat.le_of_ble_eq_true rfl, Nat.le_of_ble_eq_true rfl⟩) ⟨sm_WO.blind, va_recv hK hP (ci := 0) (q0 := 0) rfl rfl, fun U hU hW => ⟨rfl, sm_WO.at hU hW (hP.sub (ws' := [(o_1, .inr (0, [.ref u_2.1, .ref u_2.2.1, .ref u_2.2.2])), (u_2.1, .inl (cB, 32, .inl (fun _ => 0)))]) [0, 1] rfl) hK (hD.sub (ws' := [(o_1, .inr (0, [.ref u_2.1, .ref u_2.2.1, .ref u_2.2.2])), (u_2.1, .inl (cB, 32, .inl (fun _ => 0)))]) [0, 1] (by decide) rfl) hZ hS hA hE⟩⟩ rfl rfl hl.1 rfl (lv_room (Nat.le_of_ble_eq_true rfl)) dX0_with_30 ⟨Nat.le_of_ble_eq_true rfl, Nat.le_of_ble_eq_true rfl⟩) hP hD hS hA [0, 1] [2, 3] rfl rfl (by decide) (by decide) (fun u_7 H locs eu_7 hP hD hS => ?_)
  have hP : va_P D sm_cl [(u_2.2.1, .inl (cB, 16, .inl (fun _ => 0))), (u_2.2.2, .inl (cB, 16, .inl (fun _ => 0))), (o_1, .inr (0, [.ref u_2.1, .ref u_2.2.1, .ref u_2.2.2])), (u_2.1, .inl (cB, 32, .inl u_7))] H := hP
  have hD : va_D A [(u_2.2.1, .inl (cB, 16, .inl (fun _ => 0))), (u_2.2.2, .inl (cB, 16, .inl (fun _ => 0))), (o_1, .inr (0, [.ref u_2.1, .ref u_2.2.1, .ref u_2.2.2])), (u_2.1, .inl (cB, 32, .inl u_7))] := hD
  refine lv_aload_n hx hb dX0_with_33 rfl (lv_at hl 0 rfl) ?_
  refine lv_iconst (v := 1) hx hb dX0_with_34 (by decide) ?_
  refine lv_aload_n hx hb dX0_with_35 rfl (lv_at hl 1 rfl) ?_
  refine lv_iconst (v := 4) hx hb dX0_with_36 (by decide) ?_
  refine vp_callSi (va_runS (As := [.ref c0, .int (4 : Int32)]) (rest := [.int (1 : Int32), .ref o_1]) ⟨hx, hb, hml, hown, hts⟩ (metX0_cell l D cB cI tS tC tF c0 L xs 4 hL (by decide)) (va_cwS 2 hts (lw_S q303 q304 q13 q305) rfl rfl rfl (by decide +kernel) ⟨Nat.le_of_ble_eq_true rfl, Nat.le_of_ble_eq_true rfl⟩) ⟨sm_X.blind, fun U hU hW => ⟨rfl, by show va_X c0 L xs U U.heap; rw [hU]; exact (hX.kept (hS.2.1 c0 hbl hbA)).moved hW.alike⟩⟩ rfl rfl hl.1 rfl (lv_room (Nat.le_of_ble_eq_true rfl)) dX0_with_37 ⟨Nat.le_of_ble_eq_true rfl, Nat.le_of_ble_eq_true rfl⟩).run (fun r_8 er_8 => ?_)
  subst er_8
  refine lv_aload_n hx hb dX0_with_40 rfl (lv_at hl 1 rfl) ?_
  refine lv_iconst (v := 5) hx hb dX0_with_41 (by decide) ?_
  refine vp_callSi (va_runS (As := [.ref c0, .int (5 : Int32)]) (rest := [.int (sm_cell L xs 4), .int (1 : Int32), .ref o_1]) ⟨hx, hb, hml, hown, hts⟩ (metX0_cell l D cB cI tS tC tF c0 L xs 5 hL (by decide)) (va_cwS 2 hts (lw_S q303 q304 q13 q305) rfl rfl rfl (by decide +kernel) ⟨Nat.le_of_ble_eq_true rfl, Nat.le_of_ble_eq_true rfl⟩) ⟨sm_X.blind, fun U hU hW => ⟨rfl, by show va_X c0 L xs U U.heap; rw [hU]; exact (hX.kept (hS.2.1 c0 hbl hbA)).moved hW.alike⟩⟩ rfl rfl hl.1 rfl (lv_room (Nat.le_of_ble_eq_true rfl)) dX0_with_42 ⟨Nat.le_of_ble_eq_true rfl, Nat.le_of_ble_eq_true rfl⟩).run (fun r_9 er_9 => ?_)
  subst er_9
  refine lv_aload_n hx hb dX0_with_45 rfl (lv_at hl 1 rfl) ?_
  refine lv_bipush (v := 6) hx hb dX0_with_46 (by decide) ?_
  refine vp_callSi (va_runS (As := [.ref c0, .int (6 : Int32)]) (rest := [.int (sm_cell L xs 5), .int (sm_cell L xs 4), .int (1 : Int32), .ref o_1]) ⟨hx, hb, hml, hown, hts⟩ (metX0_cell l D cB cI tS tC tF c0 L xs 6 hL (by decide)) (va_cwS 2 hts (lw_S q303 q304 q13 q305) rfl rfl rfl (by decide +kernel) ⟨Nat.le_of_ble_eq_true rfl, Nat.le_of_ble_eq_true rfl⟩) ⟨sm_X.blind, fun U hU hW => ⟨rfl, by show va_X c0 L xs U U.heap; rw [hU]; exact (hX.kept (hS.2.1 c0 hbl hbA)).moved hW.alike⟩⟩ rfl rfl hl.1 rfl (lv_room (Nat.le_of_ble_eq_true rfl)) dX0_with_48 ⟨Nat.le_of_ble_eq_true rfl, Nat.le_of_ble_eq_true rfl⟩).run (fun r_10 er_10 => ?_)
  subst er_10
  refine lv_aload_n hx hb dX0_with_51 rfl (lv_at hl 1 rfl) ?_
  refine lv_bipush (v := 7) hx hb dX0_with_52 (by decide) ?_
  refine vp_callSi (va_runS (As := [.ref c0, .int (7 : Int32)]) (rest := [.int (sm_cell L xs 6), .int (sm_cell L xs 5), .int (sm_cell L xs 4), .int (1 : Int32), .ref o_1]) ⟨hx, hb, hml, hown, hts⟩ (metX0_cell l D cB cI tS tC tF c0 L xs 7 hL (by decide)) (va_cwS 2 hts (lw_S q303 q304 q13 q305) rfl rfl rfl (by decide +kernel) ⟨Nat.le_of_ble_eq_true rfl, Nat.le_of_ble_eq_true rfl⟩) ⟨sm_X.blind, fun U hU hW => ⟨rfl, by show va_X c0 L xs U U.heap; rw [hU]; exact (hX.kept (hS.2.1 c0 hbl hbA)).moved hW.alike⟩⟩ rfl rfl hl.1 rfl (lv_room (Nat.le_of_ble_eq_true rfl)) dX0_with_54 ⟨Nat.le_of_ble_eq_true rfl, Nat.le_of_ble_eq_true rfl⟩).run (fun r_11 er_11 => ?_)
  subst er_11
  refine sm_callv (ws := [(u_2.2.1, .inl (cB, 16, .inl (fun _ => 0))), (u_2.2.2, .inl (cB, 16, .inl (fun _ => 0))), (o_1, .inr (0, [.ref u_2.1, .ref u_2.2.1, .ref u_2.2.2])), (u_2.1, .inl (cB, 32, .inl u_7))]) (wc := [(o_1, .inr (0, [.ref u_2.1, .ref u_2.2.1, .ref u_2.2.2])), (u_2.1, .inl (cB, 32, .inl u_7))]) (wr := [(u_2.2.1, .inl (cB, 16, .inl (fun _ => 0))), (u_2.2.2, .inl (cB, 16, .inl (fun _ => 0)))]) (va_runV (As := [.int (1 : Int32), .int (sm_cell L xs 4), .int (sm_cell L xs 5), .int (sm_cell L xs 6), .int (sm_cell L xs 7)]) (rest := []) ⟨hx, hb, hml, hown, hts⟩ (metX1_key l D cB cI tS tC tF o_1 u_2.1 u_2.2.1 u_2.2.2 u_7 1 (sm_cell L xs 4) (sm_cell L xs 5) (sm_cell L xs 6) (sm_cell L xs 7) H.size (by decide)) (cwV 5 hts (lw_V q306 q307 q308 q14 q309) rfl rfl rfl (by decide +kernel) ⟨Nat.le_of_ble_eq_true rfl, Nat.le_of_ble_eq_true rfl⟩) ⟨sm_WO.blind, va_recv hK hP (ci := 0) (q0 := 2) rfl rfl, fun U hU hW => ⟨rfl, sm_WO.at hU hW (hP.sub (ws' := [(o_1, .inr (0, [.ref u_2.1, .ref u_2.2.1, .ref u_2.2.2])), (u_2.1, .inl (cB, 32, .inl u_7))]) [2, 3] rfl) hK (hD.sub (ws' := [(o_1, .inr (0, [.ref u_2.1, .ref u_2.2.1, .ref u_2.2.2])), (u_2.1, .inl (cB, 32, .inl u_7))]) [2, 3] (by decide) rfl) hZ hS hA hE⟩⟩ rfl rfl hl.1 rfl (lv_room (Nat.le_of_ble_eq_true rfl)) dX0_with_57 ⟨Nat.le_of_ble_eq_true rfl, Nat.le_of_ble_eq_true rfl⟩) hP hD hS hA [2, 3] [0, 1] rfl rfl (by decide) (by decide) (fun u_12 H locs eu_12 hP hD hS => ?_)
  have hP : va_P D sm_cl [(u_2.2.1, .inl (cB, 16, .inl (fun _ => 0))), (u_2.2.2, .inl (cB, 16, .inl (fun _ => 0))), (o_1, .inr (0, [.ref u_2.1, .ref u_2.2.1, .ref u_2.2.2])), (u_2.1, .inl (cB, 32, .inl u_12))] H := hP
  have hD : va_D A [(u_2.2.1, .inl (cB, 16, .inl (fun _ => 0))), (u_2.2.2, .inl (cB, 16, .inl (fun _ => 0))), (o_1, .inr (0, [.ref u_2.1, .ref u_2.2.1, .ref u_2.2.2])), (u_2.1, .inl (cB, 32, .inl u_12))] := hD
  refine lv_aload_n hx hb dX0_with_60 rfl (lv_at hl 0 rfl) ?_
  refine lv_aload_n hx hb dX0_with_61 rfl (lv_at hl 1 rfl) ?_
  refine lv_bipush (v := 8) hx hb dX0_with_62 (by decide) ?_
  refine vp_callSi (va_runS (As := [.ref c0, .int (8 : Int32)]) (rest := [.ref o_1]) ⟨hx, hb, hml, hown, hts⟩ (metX0_cell l D cB cI tS tC tF c0 L xs 8 hL (by decide)) (va_cwS 2 hts (lw_S q303 q304 q13 q305) rfl rfl rfl (by decide +kernel) ⟨Nat.le_of_ble_eq_true rfl, Nat.le_of_ble_eq_true rfl⟩) ⟨sm_X.blind, fun U hU hW => ⟨rfl, by show va_X c0 L xs U U.heap; rw [hU]; exact (hX.kept (hS.2.1 c0 hbl hbA)).moved hW.alike⟩⟩ rfl rfl hl.1 rfl (lv_room (Nat.le_of_ble_eq_true rfl)) dX0_with_64 ⟨Nat.le_of_ble_eq_true rfl, Nat.le_of_ble_eq_true rfl⟩).run (fun r_13 er_13 => ?_)
  subst er_13
  refine lv_aload_n hx hb dX0_with_67 rfl (lv_at hl 1 rfl) ?_
  refine lv_bipush (v := 9) hx hb dX0_with_68 (by decide) ?_
  refine vp_callSi (va_runS (As := [.ref c0, .int (9 : Int32)]) (rest := [.int (sm_cell L xs 8), .ref o_1]) ⟨hx, hb, hml, hown, hts⟩ (metX0_cell l D cB cI tS tC tF c0 L xs 9 hL (by decide)) (va_cwS 2 hts (lw_S q303 q304 q13 q305) rfl rfl rfl (by decide +kernel) ⟨Nat.le_of_ble_eq_true rfl, Nat.le_of_ble_eq_true rfl⟩) ⟨sm_X.blind, fun U hU hW => ⟨rfl, by show va_X c0 L xs U U.heap; rw [hU]; exact (hX.kept (hS.2.1 c0 hbl hbA)).moved hW.alike⟩⟩ rfl rfl hl.1 rfl (lv_room (Nat.le_of_ble_eq_true rfl)) dX0_with_70 ⟨Nat.le_of_ble_eq_true rfl, Nat.le_of_ble_eq_true rfl⟩).run (fun r_14 er_14 => ?_)
  subst er_14
  refine lv_aload_n hx hb dX0_with_73 rfl (lv_at hl 1 rfl) ?_
  refine lv_bipush (v := 10) hx hb dX0_with_74 (by decide) ?_
  refine vp_callSi (va_runS (As := [.ref c0, .int (10 : Int32)]) (rest := [.int (sm_cell L xs 9), .int (sm_cell L xs 8), .ref o_1]) ⟨hx, hb, hml, hown, hts⟩ (metX0_cell l D cB cI tS tC tF c0 L xs 10 hL (by decide)) (va_cwS 2 hts (lw_S q303 q304 q13 q305) rfl rfl rfl (by decide +kernel) ⟨Nat.le_of_ble_eq_true rfl, Nat.le_of_ble_eq_true rfl⟩) ⟨sm_X.blind, fun U hU hW => ⟨rfl, by show va_X c0 L xs U U.heap; rw [hU]; exact (hX.kept (hS.2.1 c0 hbl hbA)).moved hW.alike⟩⟩ rfl rfl hl.1 rfl (lv_room (Nat.le_of_ble_eq_true rfl)) dX0_with_76 ⟨Nat.le_of_ble_eq_true rfl, Nat.le_of_ble_eq_true rfl⟩).run (fun r_15 er_15 => ?_)
  subst er_15
  refine lv_aload_n hx hb dX0_with_79 rfl (lv_at hl 1 rfl) ?_
  refine lv_bipush (v := 11) hx hb dX0_with_80 (by decide) ?_
  refine vp_callSi (va_runS (As := [.ref c0, .int (11 : Int32)]) (rest := [.int (sm_cell L xs 10), .int (sm_cell L xs 9), .int (sm_cell L xs 8), .ref o_1]) ⟨hx, hb, hml, hown, hts⟩ (metX0_cell l D cB cI tS tC tF c0 L xs 11 hL (by decide)) (va_cwS 2 hts (lw_S q303 q304 q13 q305) rfl rfl rfl (by decide +kernel) ⟨Nat.le_of_ble_eq_true rfl, Nat.le_of_ble_eq_true rfl⟩) ⟨sm_X.blind, fun U hU hW => ⟨rfl, by show va_X c0 L xs U U.heap; rw [hU]; exact (hX.kept (hS.2.1 c0 hbl hbA)).moved hW.alike⟩⟩ rfl rfl hl.1 rfl (lv_room (Nat.le_of_ble_eq_true rfl)) dX0_with_82 ⟨Nat.le_of_ble_eq_true rfl, Nat.le_of_ble_eq_true rfl⟩).run (fun r_16 er_16 => ?_)
  subst er_16
  refine sm_callv (ws := [(u_2.2.1, .inl (cB, 16, .inl (fun _ => 0))), (u_2.2.2, .inl (cB, 16, .inl (fun _ => 0))), (o_1, .inr (0, [.ref u_2.1, .ref u_2.2.1, .ref u_2.2.2])), (u_2.1, .inl (cB, 32, .inl u_12))]) (wc := [(o_1, .inr (0, [.ref u_2.1, .ref u_2.2.1, .ref u_2.2.2])), (u_2.2.1, .inl (cB, 16, .inl (fun _ => 0)))]) (wr := [(u_2.2.2, .inl (cB, 16, .inl (fun _ => 0))), (u_2.1, .inl (cB, 32, .inl u_12))]) (va_runV (As := [.int (sm_cell L xs 8), .int (sm_cell L xs 9), .int (sm_cell L xs 10), .int (sm_cell L xs 11)]) (rest := []) ⟨hx, hb, hml, hown, hts⟩ (metX1_block l D cB cI tS tC tF o_1 u_2.1 u_2.2.1 u_2.2.2 (fun _ => 0) (sm_cell L xs 8) (sm_cell L xs 9) (sm_cell L xs 10) (sm_cell L xs 11) H.size) (cwV 4 hts (lw_V q313 q314 q315 q14 q316) rfl rfl rfl (by decide +kernel) ⟨Nat.le_of_ble_eq_true rfl, Nat.le_of_ble_eq_true rfl⟩) ⟨sm_WO.blind, va_recv hK hP (ci := 0) (q0 := 2) rfl rfl, fun U hU hW => ⟨rfl, sm_WO.at hU hW (hP.sub (ws' := [(o_1, .inr (0, [.ref u_2.1, .ref u_2.2.1, .ref u_2.2.2])), (u_2.2.1, .inl (cB, 16, .inl (fun _ => 0)))]) [2, 0] rfl) hK (hD.sub (ws' := [(o_1, .inr (0, [.ref u_2.1, .ref u_2.2.1, .ref u_2.2.2])), (u_2.2.1, .inl (cB, 16, .inl (fun _ => 0)))]) [2, 0] (by decide) rfl) hZ hS hA hE⟩⟩ rfl rfl hl.1 rfl (lv_room (Nat.le_of_ble_eq_true rfl)) dX0_with_85 ⟨Nat.le_of_ble_eq_true rfl, Nat.le_of_ble_eq_true rfl⟩) hP hD hS hA [2, 0] [1, 3] rfl rfl (by decide) (by decide) (fun u_17 H locs eu_17 hP hD hS => ?_)
  have hP : va_P D sm_cl [(u_2.2.2, .inl (cB, 16, .inl (fun _ => 0))), (u_2.1, .inl (cB, 32, .inl u_12)), (o_1, .inr (0, [.ref u_2.1, .ref u_2.2.1, .ref u_2.2.2])), (u_2.2.1, .inl (cB, 16, .inl u_17))] H := hP
  have hD : va_D A [(u_2.2.2, .inl (cB, 16, .inl (fun _ => 0))), (u_2.1, .inl (cB, 32, .inl u_12)), (o_1, .inr (0, [.ref u_2.1, .ref u_2.2.1, .ref u_2.2.2])), (u_2.2.1, .inl (cB, 16, .inl u_17))] := hD
  have hkm : sm_b4 u_12 (fun q => sm_cell L xs q) := sm_b4.same (f := u_7) (sm_W4_of eu_7.1.1 eu_7.1.2.1 eu_7.1.2.2.1 eu_7.1.2.2.2) (fun j hj => eu_12.2 j (Or.inl (by omega)))
  have hbm : sm_b4 u_17 (fun q => sm_cell L xs (8 + q)) := eu_17
  refine lv_aload_n hx hb dX0_with_88 rfl (lv_at hl 0 rfl) ?_
  have hP : va_P D sm_cl [(o_1, .inr (0, [.ref u_2.1, .ref u_2.2.1, .ref u_2.2.2])), (u_2.1, .inl (cB, 32, .inl u_12)), (u_2.2.1, .inl (cB, 16, .inl u_17)), (u_2.2.2, .inl (cB, 16, .inl (fun _ => 0)))] H := hP.sub [2, 1, 3, 0] rfl
  have hD : va_D A [(o_1, .inr (0, [.ref u_2.1, .ref u_2.2.1, .ref u_2.2.2])), (u_2.1, .inl (cB, 32, .inl u_12)), (u_2.2.1, .inl (cB, 16, .inl u_17)), (u_2.2.2, .inl (cB, 16, .inl (fun _ => 0)))] := hD.sub [2, 1, 3, 0] (by decide) rfl
  refine W.widen (k := 4) (n := 67) (Nat.le_of_ble_eq_true rfl) (Nat.le_of_ble_eq_true rfl) ?_
  exact W.aret (v := .ref o_1) hx hb hr (Or.inl ⟨_, rfl⟩) (Or.inr ⟨_, rfl⟩) (fun t ht hW => ⟨⟨(u_2.1, u_2.2.1, u_2.2.2, u_12, u_17, fun _ => 0), o_1, rfl, ⟨hkm, hbm⟩, by rw [ht]; exact hP, hD⟩, hS.F ht⟩) hS.2.2 dX0_with_89
set_option maxHeartbeats 4000000 in
set_option maxRecDepth 100000 in
/-- known(): the first example of the standard comes out -/
theorem metX0_known (l : Launch) (D : va_G) (cB cI : ClassId) (tS tC tF : Nat)  (sz : Nat) : Met l yX0_known (ws_ yX0_known cX0_known 3 (some .boolean)) ({ frames := 7, cells := 13, slots := 162, locals := 220 }) (va_Pc [] (sm_WO D cB cI tS tC tF [] sz)) (va_Qi (fun (r : Int32) (u : Unit) => r = 1) (sm_BW D (va_A [] sz) (fun u => [])) (va_A [] sz)) 13 162 (va_A [] sz) := by
  refine Met.ofW (cc := cX0_known) (maxL := 3) (ret := (some .boolean)) (by decide) rfl ?_
  intro p e s m args below meth c s₁ B hml hv
  obtain ⟨rfl, hsz, hP, hK, hD0, hZ, hE⟩ := hv
  have hx := B.exec
  have hb := B.bytes
  have hr := B.returns
  have hts := atoms_spec (ws := ws_ yX0_known cX0_known 3 (some .boolean)) B.pre
  have hts : ∀ w ∈ lw_all, w.before _ s = true := fun w h => hts w (List.mem_cons_of_mem _ h)
  have hown : s.vm.findClass RX0 = some m.cls := findClass_of_methodNamed B.named
  have hlocks := B.notSynchronized
  subst hsz
  have hD := hD0.self (sz := s.heap.size)
  generalize hAe : va_A [] s.heap.size = A at hD hZ ⊢
  have hA : ∀ q : Nat, s.heap.size ≤ q → A q := fun q h => by rw [← hAe]; exact Or.inr h
  obtain ⟨H, eH⟩ : ∃ H : Heap, H = s.heap := ⟨_, rfl⟩
  rw [← eH] at hP ⊢
  have hS : va_S A s.heap H [] := by rw [eH]; exact va_S.rf
  have hl := lv_entry ([]) (n := 3) (Nat.le_of_ble_eq_true rfl)
  rw [lg_entry_eq]
  generalize (lg_sl ([]) ++ List.replicate (3 - (lg_sl ([])).length) Slot.unset).toArray = ls at hl ⊢
  have hl : lv_has ls 3 [] := hl
  refine va_new (ci := 0) (fs := [.null, .null, .null]) (C := RX1) (T := TX1) (N := 3) hx hb hts in_X1 tyX1 tyX1_ok hown (hts _ q288) (hts _ q34) (hts _ q14) hK hP hD hS hA rfl (fun j hj => by rcases (show j = 0 ∨ j = 1 ∨ j = 2 by omega) with rfl | rfl | rfl <;> rfl) (Nat.le_of_ble_eq_true rfl) (Nat.le_of_ble_eq_true rfl) dX0_known_0 (fun o_1 H hP hD hS => ?_)
  have hP : va_P D sm_cl [(o_1, .inr (0, [.null, .null, .null]))] H := hP
  have hD : va_D A [(o_1, .inr (0, [.null, .null, .null]))] := hD
  refine lv_dup hx hb dX0_known_3 rfl ?_
  refine sm_callv (ws := [(o_1, .inr (0, [.null, .null, .null]))]) (wc := [(o_1, .inr (0, [.null, .null, .null]))]) (wr := []) (va_runI (As := []) (rest := [.ref o_1]) ⟨hx, hb, hml, hown, hts⟩ (metX1_init l D cB cI tS tC tF o_1 H.size) (cwI 0 hts (lw_meth q291) rfl rfl rfl (hts _ q14) (hts _ q289) (hts _ q290) rfl (by decide +kernel) ⟨Nat.le_of_ble_eq_true rfl, Nat.le_of_ble_eq_true rfl⟩) ⟨sm_WO.blind, fun U hU hW => ⟨rfl, sm_WO.at hU hW (hP.sub (ws' := [(o_1, .inr (0, [.null, .null, .null]))]) [0] rfl) hK (hD.sub (ws' := [(o_1, .inr (0, [.null, .null, .null]))]) [0] (by decide) rfl) hZ hS hA hE⟩⟩ rfl rfl hl.1 rfl (lv_room (Nat.le_of_ble_eq_true rfl)) dX0_known_4 ⟨Nat.le_of_ble_eq_true rfl, Nat.le_of_ble_eq_true rfl⟩) hP hD hS hA [0] [] rfl rfl (by decide) (by decide) (fun u_2 H locs eu_2 hP hD hS => ?_)
  have hP : va_P D sm_cl [(o_1, .inr (0, [.ref u_2.1, .ref u_2.2.1, .ref u_2.2.2])), (u_2.1, .inl (cB, 32, .inl (fun _ => 0))), (u_2.2.1, .inl (cB, 16, .inl (fun _ => 0))), (u_2.2.2, .inl (cB, 16, .inl (fun _ => 0)))] H := hP
  have hD : va_D A [(o_1, .inr (0, [.ref u_2.1, .ref u_2.2.1, .ref u_2.2.2])), (u_2.1, .inl (cB, 32, .inl (fun _ => 0))), (u_2.2.1, .inl (cB, 16, .inl (fun _ => 0))), (u_2.2.2, .inl (cB, 16, .inl (fun _ => 0)))] := hD
  refine lv_astore_n (lv' := [(0, .ref o_1)]) hx hb dX0_known_7 rfl hl (by decide) rfl (fun ls hl => ?_)
  refine lv_aload_n hx hb dX0_known_8 rfl (lv_at hl 0 rfl) ?_
  refine lv_iconst (v := 0) hx hb dX0_known_9 (by decide) ?_
  refine lv_ldc hx hb hown (hts _ q327) dX0_known_10 ?_
  refine lv_ldc hx hb hown (hts _ q328) dX0_known_12 ?_
  refine lv_ldc hx hb hown (hts _ q329) dX0_known_14 ?_
  refine lv_ldc hx hb hown (hts _ q330) dX0_known_16 ?_
  refine sm_callv (ws := [(o_1, .inr (0, [.ref u_2.1, .ref u_2.2.1, .ref u_2.2.2])), (u_2.1, .inl (cB, 32, .inl (fun _ => 0))), (u_2.2.1, .inl (cB, 16, .inl (fun _ => 0))), (u_2.2.2, .inl (cB, 16, .inl (fun _ => 0)))]) (wc := [(o_1, .inr (0, [.ref u_2.1, .ref u_2.2.1, .ref u_2.2.2])), (u_2.1, .inl (cB, 32, .inl (fun _ => 0)))]) (wr := [(u_2.2.1, .inl (cB, 16, .inl (fun _ => 0))), (u_2.2.2, .inl (cB, 16, .inl (fun _ => 0)))]) (va_runV (As := [.int (0 : Int32), .int (19088743 : Int32), .int (-1985229329 : Int32), .int (-19088744 : Int32), .int (1985229328 : Int32)]) (rest := []) ⟨hx, hb, hml, hown, hts⟩ (metX1_key l D cB cI tS tC tF o_1 u_2.1 u_2.2.1 u_2.2.2 (fun _ => 0) 0 (19088743) (-1985229329) (-19088744) (1985229328) H.size (by decide)) (cwV 5 hts (lw_V q306 q307 q308 q14 q309) rfl rfl rfl (by decide +kernel) ⟨Nat.le_of_ble_eq_true rfl, Nat.le_of_ble_eq_true rfl⟩) ⟨sm_WO.blind, va_recv hK hP (ci := 0) (q0 := 0) rfl rfl, fun U hU hW => ⟨rfl, sm_WO.at hU hW (hP.sub (ws' := [(o_1, .inr (0, [.ref u_2.1, .ref u_2.2.1, .ref u_2.2.2])), (u_2.1, .inl (cB, 32, .inl (fun _ => 0)))]) [0, 1] rfl) hK (hD.sub (ws' := [(o_1, .inr (0, [.ref u_2.1, .ref u_2.2.1, .ref u_2.2.2])), (u_2.1, .inl (cB, 32, .inl (fun _ => 0)))]) [0, 1] (by decide) rfl) hZ hS hA hE⟩⟩ rfl rfl hl.1 rfl (lv_room (Nat.le_of_ble_eq_true rfl)) dX0_known_18 ⟨Nat.le_of_ble_eq_true rfl, Nat.le_of_ble_eq_true rfl⟩) hP hD hS hA [0, 1] [2, 3] rfl rfl (by decide) (by decide) (fun u_3 H locs eu_3 hP hD hS => ?_)
  have hP : va_P D sm_cl [(u_2.2.1, .inl (cB, 16, .inl (fun _ => 0))), (u_2.2.2, .inl (cB, 16, .inl (fun _ => 0))), (o_1, .inr (0, [.ref u_2.1, .ref u_2.2.1, .ref u_2.2.2])), (u_2.1, .inl (cB, 32, .inl u_3))] H := hP
  have hD : va_D A [(u_2.2.1, .inl (cB, 16, .inl (fun _ => 0))), (u_2.2.2, .inl (cB, 16, .inl (fun _ => 0))), (o_1, .inr (0, [.ref u_2.1, .ref u_2.2.1, .ref u_2.2.2])), (u_2.1, .inl (cB, 32, .inl u_3))] := hD
  refine lv_aload_n hx hb dX0_known_21 rfl (lv_at hl 0 rfl) ?_
  refine lv_iconst (v := 1) hx hb dX0_known_22 (by decide) ?_
  refine lv_iconst (v := 0) hx hb dX0_known_23 (by decide) ?_
  refine lv_iconst (v := 0) hx hb dX0_known_24 (by decide) ?_
  refine lv_iconst (v := 0) hx hb dX0_known_25 (by decide) ?_
  refine lv_iconst (v := 0) hx hb dX0_known_26 (by decide) ?_
  refine sm_callv (ws := [(u_2.2.1, .inl (cB, 16, .inl (fun _ => 0))), (u_2.2.2, .inl (cB, 16, .inl (fun _ => 0))), (o_1, .inr (0, [.ref u_2.1, .ref u_2.2.1, .ref u_2.2.2])), (u_2.1, .inl (cB, 32, .inl u_3))]) (wc := [(o_1, .inr (0, [.ref u_2.1, .ref u_2.2.1, .ref u_2.2.2])), (u_2.1, .inl (cB, 32, .inl u_3))]) (wr := [(u_2.2.1, .inl (cB, 16, .inl (fun _ => 0))), (u_2.2.2, .inl (cB, 16, .inl (fun _ => 0)))]) (va_runV (As := [.int (1 : Int32), .int (0 : Int32), .int (0 : Int32), .int (0 : Int32), .int (0 : Int32)]) (rest := []) ⟨hx, hb, hml, hown, hts⟩ (metX1_key l D cB cI tS tC tF o_1 u_2.1 u_2.2.1 u_2.2.2 u_3 1 0 0 0 0 H.size (by decide)) (cwV 5 hts (lw_V q306 q307 q308 q14 q309) rfl rfl rfl (by decide +kernel) ⟨Nat.le_of_ble_eq_true rfl, Nat.le_of_ble_eq_true rfl⟩) ⟨sm_WO.blind, va_recv hK hP (ci := 0) (q0 := 2) rfl rfl, fun U hU hW => ⟨rfl, sm_WO.at hU hW (hP.sub (ws' := [(o_1, .inr (0, [.ref u_2.1, .ref u_2.2.1, .ref u_2.2.2])), (u_2.1, .inl (cB, 32, .inl u_3))]) [2, 3] rfl) hK (hD.sub (ws' := [(o_1, .inr (0, [.ref u_2.1, .ref u_2.2.1, .ref u_2.2.2])), (u_2.1, .inl (cB, 32, .inl u_3))]) [2, 3] (by decide) rfl) hZ hS hA hE⟩⟩ rfl rfl hl.1 rfl (lv_room (Nat.le_of_ble_eq_true rfl)) dX0_known_27 ⟨Nat.le_of_ble_eq_true rfl, Nat.le_of_ble_eq_true rfl⟩) hP hD hS hA [2, 3] [0, 1] rfl rfl (by decide) (by decide) (fun u_4 H locs eu_4 hP hD hS => ?_)
  have hP : va_P D sm_cl [(u_2.2.1, .inl (cB, 16, .inl (fun _ => 0))), (u_2.2.2, .inl (cB, 16, .inl (fun _ => 0))), (o_1, .inr (0, [.ref u_2.1, .ref u_2.2.1, .ref u_2.2.2])), (u_2.1, .inl (cB, 32, .inl u_4))] H := hP
  have hD : va_D A [(u_2.2.1, .inl (cB, 16, .inl (fun _ => 0))), (u_2.2.2, .inl (cB, 16, .inl (fun _ => 0))), (o_1, .inr (0, [.ref u_2.1, .ref u_2.2.1, .ref u_2.2.2])), (u_2.1, .inl (cB, 32, .inl u_4))] := hD
  refine lv_aload_n hx hb dX0_known_30 rfl (lv_at hl 0 rfl) ?_
  refine lv_ldc hx hb hown (hts _ q327) dX0_known_31 ?_
  refine lv_ldc hx hb hown (hts _ q328) dX0_known_33 ?_
  refine lv_ldc hx hb hown (hts _ q329) dX0_known_35 ?_
  refine lv_ldc hx hb hown (hts _ q330) dX0_known_37 ?_
  refine sm_callv (ws := [(u_2.2.1, .inl (cB, 16, .inl (fun _ => 0))), (u_2.2.2, .inl (cB, 16, .inl (fun _ => 0))), (o_1, .inr (0, [.ref u_2.1, .ref u_2.2.1, .ref u_2.2.2])), (u_2.1, .inl (cB, 32, .inl u_4))]) (wc := [(o_1, .inr (0, [.ref u_2.1, .ref u_2.2.1, .ref u_2.2.2])), (u_2.2.1, .inl (cB, 16, .inl (fun _ => 0)))]) (wr := [(u_2.2.2, .inl (cB, 16, .inl (fun _ => 0))), (u_2.1, .inl (cB, 32, .inl u_4))]) (va_runV (As := [.int (19088743 : Int32), .int (-1985229329 : Int32), .int (-19088744 : Int32), .int (1985229328 : Int32)]) (rest := []) ⟨hx, hb, hml, hown, hts⟩ (metX1_block l D cB cI tS tC tF o_1 u_2.1 u_2.2.1 u_2.2.2 (fun _ => 0) (19088743) (-1985229329) (-19088744) (1985229328) H.size) (cwV 4 hts (lw_V q313 q314 q315 q14 q316) rfl rfl rfl (by decide +kernel) ⟨Nat.le_of_ble_eq_true rfl, Nat.le_of_ble_eq_true rfl⟩) ⟨sm_WO.blind, va_recv hK hP (ci := 0) (q0 := 2) rfl rfl, fun U hU hW => ⟨rfl, sm_WO.at hU hW (hP.sub (ws' := [(o_1, .inr (0, [.ref u_2.1, .ref u_2.2.1, .ref u_2.2.2])), (u_2.2.1, .inl (cB, 16, .inl (fun _ => 0)))]) [2, 0] rfl) hK (hD.sub (ws' := [(o_1, .inr (0, [.ref u_2.1, .ref u_2.2.1, .ref u_2.2.2])), (u_2.2.1, .inl (cB, 16, .inl (fun _ => 0)))]) [2, 0] (by decide) rfl) hZ hS hA hE⟩⟩ rfl rfl hl.1 rfl (lv_room (Nat.le_of_ble_eq_true rfl)) dX0_known_39 ⟨Nat.le_of_ble_eq_true rfl, Nat.le_of_ble_eq_true rfl⟩) hP hD hS hA [2, 0] [1, 3] rfl rfl (by decide) (by decide) (fun u_5 H locs eu_5 hP hD hS => ?_)
  have hP : va_P D sm_cl [(u_2.2.2, .inl (cB, 16, .inl (fun _ => 0))), (u_2.1, .inl (cB, 32, .inl u_4)), (o_1, .inr (0, [.ref u_2.1, .ref u_2.2.1, .ref u_2.2.2])), (u_2.2.1, .inl (cB, 16, .inl u_5))] H := hP
  have hD : va_D A [(u_2.2.2, .inl (cB, 16, .inl (fun _ => 0))), (u_2.1, .inl (cB, 32, .inl u_4)), (o_1, .inr (0, [.ref u_2.1, .ref u_2.2.1, .ref u_2.2.2])), (u_2.2.1, .inl (cB, 16, .inl u_5))] := hD
  have hkm : sm_b4 u_4 sm_m0 := sm_b4.same (f := u_3) (sm_W4_of eu_3.1.1 eu_3.1.2.1 eu_3.1.2.2.1 eu_3.1.2.2.2) (fun j hj => eu_4.2 j (Or.inl (by omega)))
  have hbm : sm_b4 u_5 sm_m0 := eu_5
  refine lv_aload_n hx hb dX0_known_42 rfl (lv_at hl 0 rfl) ?_
  refine lv_iconst (v := 0) hx hb dX0_known_43 (by decide) ?_
  refine sm_callv (ws := [(u_2.2.2, .inl (cB, 16, .inl (fun _ => 0))), (u_2.1, .inl (cB, 32, .inl u_4)), (o_1, .inr (0, [.ref u_2.1, .ref u_2.2.1, .ref u_2.2.2])), (u_2.2.1, .inl (cB, 16, .inl u_5))]) (wc := [(o_1, .inr (0, [.ref u_2.1, .ref u_2.2.1, .ref u_2.2.2])), (u_2.1, .inl (cB, 32, .inl u_4)), (u_2.2.1, .inl (cB, 16, .inl u_5)), (u_2.2.2, .inl (cB, 16, .inl (fun _ => 0)))]) (wr := []) (va_runV (As := [.int (0 : Int32)]) (rest := []) ⟨hx, hb, hml, hown, hts⟩ (metX1_lock l D cB cI tS tC tF o_1 u_2.1 u_2.2.1 u_2.2.2 u_4 u_5 (fun _ => 0) 0 sm_m0 sm_m0 H.size hkm hbm) (cwV 1 hts (lw_V q27 q28 q29 q14 q30) rfl rfl rfl (by decide +kernel) ⟨Nat.le_of_ble_eq_true rfl, Nat.le_of_ble_eq_true rfl⟩) ⟨sm_WO.blind, va_recv hK hP (ci := 0) (q0 := 2) rfl rfl, fun U hU hW => ⟨rfl, sm_WO.at hU hW (hP.sub (ws' := [(o_1, .inr (0, [.ref u_2.1, .ref u_2.2.1, .ref u_2.2.2])), (u_2.1, .inl (cB, 32, .inl u_4)), (u_2.2.1, .inl (cB, 16, .inl u_5)), (u_2.2.2, .inl (cB, 16, .inl (fun _ => 0)))]) [2, 1, 3, 0] rfl) hK (hD.sub (ws' := [(o_1, .inr (0, [.ref u_2.1, .ref u_2.2.1, .ref u_2.2.2])), (u_2.1, .inl (cB, 32, .inl u_4)), (u_2.2.1, .inl (cB, 16, .inl u_5)), (u_2.2.2, .inl (cB, 16, .inl (fun _ => 0)))]) [2, 1, 3, 0] (by decide) rfl) hZ hS hA hE⟩⟩ rfl rfl hl.1 rfl (lv_room (Nat.le_of_ble_eq_true rfl)) dX0_known_44 ⟨Nat.le_of_ble_eq_true rfl, Nat.le_of_ble_eq_true rfl⟩) hP hD hS hA [2, 1, 3, 0] [] rfl rfl (by decide) (by decide) (fun u_6 H locs eu_6 hP hD hS => ?_)
  have hP : va_P D sm_cl [(o_1, .inr (0, [.ref u_2.1, .ref u_2.2.1, .ref u_2.2.2])), (u_2.1, .inl (cB, 32, .inl u_4)), (u_2.2.1, .inl (cB, 16, .inl u_5)), (u_2.2.2, .inl (cB, 16, .inl u_6))] H := hP
  have hD : va_D A [(o_1, .inr (0, [.ref u_2.1, .ref u_2.2.1, .ref u_2.2.2])), (u_2.1, .inl (cB, 32, .inl u_4)), (u_2.2.1, .inl (cB, 16, .inl u_5)), (u_2.2.2, .inl (cB, 16, .inl u_6))] := hD
  refine lv_bipush (v := 16) hx hb dX0_known_47 (by decide) ?_
  refine sm_newa (atype := .int) hx hb (hts _ q55) rfl rfl rfl hK hP hD hS hA 1 (N := 16) rfl rfl (by decide) (by decide) (Nat.le_of_ble_eq_true rfl) (Nat.le_of_ble_eq_true rfl) dX0_known_49 (fun a_7 H hP hD hS => ?_)
  have hP : va_P D sm_cl [(o_1, .inr (0, [.ref u_2.1, .ref u_2.2.1, .ref u_2.2.2])), (u_2.1, .inl (cB, 32, .inl u_4)), (u_2.2.1, .inl (cB, 16, .inl u_5)), (u_2.2.2, .inl (cB, 16, .inl u_6)), (a_7, .inl (cI, 16, .inl (fun _ => 0)))] H := hP
  have hD : va_D A [(o_1, .inr (0, [.ref u_2.1, .ref u_2.2.1, .ref u_2.2.2])), (u_2.1, .inl (cB, 32, .inl u_4)), (u_2.2.1, .inl (cB, 16, .inl u_5)), (u_2.2.2, .inl (cB, 16, .inl u_6)), (a_7, .inl (cI, 16, .inl (fun _ => 0)))] := hD
  refine lv_dup hx hb dX0_known_51 rfl ?_
  refine lv_iconst (v := 0) hx hb dX0_known_52 (by decide) ?_
  refine lv_bipush (v := 104) hx hb dX0_known_53 (by decide) ?_
  refine sm_sti hx hb hK hP hD hS 4 1 rfl rfl (0) rfl (by decide) (by decide) dX0_known_55 (fun g_8 H locs eg_8 hP hD hS => ?_)
  have hP : va_P D sm_cl [(o_1, .inr (0, [.ref u_2.1, .ref u_2.2.1, .ref u_2.2.2])), (u_2.1, .inl (cB, 32, .inl u_4)), (u_2.2.1, .inl (cB, 16, .inl u_5)), (u_2.2.2, .inl (cB, 16, .inl u_6)), (a_7, .inl (cI, 16, .inl g_8))] H := hP
  have hD : va_D A [(o_1, .inr (0, [.ref u_2.1, .ref u_2.2.1, .ref u_2.2.2])), (u_2.1, .inl (cB, 32, .inl u_4)), (u_2.2.1, .inl (cB, 16, .inl u_5)), (u_2.2.2, .inl (cB, 16, .inl u_6)), (a_7, .inl (cI, 16, .inl g_8))] := hD
  have hg_8_0 : g_8 0 = (104 : Int32) := by rw [eg_8]; exact pk_us
  refine lv_dup hx hb dX0_known_56 rfl ?_
  refine lv_iconst (v := 1) hx hb dX0_known_57 (by decide) ?_
  refine lv_bipush (v := 30) hx hb dX0_known_58 (by decide) ?_
  refine sm_sti hx hb hK hP hD hS 4 1 rfl rfl (1) rfl (by decide) (by decide) dX0_known_60 (fun g_9 H locs eg_9 hP hD hS => ?_)
  have hP : va_P D sm_cl [(o_1, .inr (0, [.ref u_2.1, .ref u_2.2.1, .ref u_2.2.2])), (u_2.1, .inl (cB, 32, .inl u_4)), (u_2.2.1, .inl (cB, 16, .inl u_5)), (u_2.2.2, .inl (cB, 16, .inl u_6)), (a_7, .inl (cI, 16, .inl g_9))] H := hP
  have hD : va_D A [(o_1, .inr (0, [.ref u_2.1, .ref u_2.2.1, .ref u_2.2.2])), (u_2.1, .inl (cB, 32, .inl u_4)), (u_2.2.1, .inl (cB, 16, .inl u_5)), (u_2.2.2, .inl (cB, 16, .inl u_6)), (a_7, .inl (cI, 16, .inl g_9))] := hD
  have hg_9_0 : g_9 0 = (104 : Int32) := by rw [eg_9]; exact (pk_un (by decide)).trans hg_8_0
  have hg_9_1 : g_9 1 = (30 : Int32) := by rw [eg_9]; exact pk_us
  refine lv_dup hx hb dX0_known_61 rfl ?_
  refine lv_iconst (v := 2) hx hb dX0_known_62 (by decide) ?_
  refine lv_sipush (v := 223) hx hb dX0_known_63 (by decide) ?_
  refine sm_sti hx hb hK hP hD hS 4 1 rfl rfl (2) rfl (by decide) (by decide) dX0_known_66 (fun g_10 H locs eg_10 hP hD hS => ?_)
  have hP : va_P D sm_cl [(o_1, .inr (0, [.ref u_2.1, .ref u_2.2.1, .ref u_2.2.2])), (u_2.1, .inl (cB, 32, .inl u_4)), (u_2.2.1, .inl (cB, 16, .inl u_5)), (u_2.2.2, .inl (cB, 16, .inl u_6)), (a_7, .inl (cI, 16, .inl g_10))] H := hP
  have hD : va_D A [(o_1, .inr (0, [.ref u_2.1, .ref u_2.2.1, .ref u_2.2.2])), (u_2.1, .inl (cB, 32, .inl u_4)), (u_2.2.1, .inl (cB, 16, .inl u_5)), (u_2.2.2, .inl (cB, 16, .inl u_6)), (a_7, .inl (cI, 16, .inl g_10))] := hD
  have hg_10_0 : g_10 0 = (104 : Int32) := by rw [eg_10]; exact (pk_un (by decide)).trans hg_9_0
  have hg_10_1 : g_10 1 = (30 : Int32) := by rw [eg_10]; exact (pk_un (by decide)).trans hg_9_1
  have hg_10_2 : g_10 2 = (223 : Int32) := by rw [eg_10]; exact pk_us
  refine lv_dup hx hb dX0_known_67 rfl ?_
  refine lv_iconst (v := 3) hx hb dX0_known_68 (by decide) ?_
  refine lv_bipush (v := 52) hx hb dX0_known_69 (by decide) ?_
  refine sm_sti hx hb hK hP hD hS 4 1 rfl rfl (3) rfl (by decide) (by decide) dX0_known_71 (fun g_11 H locs eg_11 hP hD hS => ?_)
  have hP : va_P D sm_cl [(o_1, .inr (0, [.ref u_2.1, .ref u_2.2.1, .ref u_2.2.2])), (u_2.1, .inl (cB, 32, .inl u_4)), (u_2.2.1, .inl (cB, 16, .inl u_5)), (u_2.2.2, .inl (cB, 16, .inl u_6)), (a_7, .inl (cI, 16, .inl g_11))] H := hP
  have hD : va_D A [(o_1, .inr (0, [.ref u_2.1, .ref u_2.2.1, .ref u_2.2.2])), (u_2.1, .inl (cB, 32, .inl u_4)), (u_2.2.1, .inl (cB, 16, .inl u_5)), (u_2.2.2, .inl (cB, 16, .inl u_6)), (a_7, .inl (cI, 16, .inl g_11))] := hD
  have hg_11_0 : g_11 0 = (104 : Int32) := by rw [eg_11]; exact (pk_un (by decide)).trans hg_10_0
  have hg_11_1 : g_11 1 = (30 : Int32) := by rw [eg_11]; exact (pk_un (by decide)).trans hg_10_1
  have hg_11_2 : g_11 2 = (223 : Int32) := by rw [eg_11]; exact (pk_un (by decide)).trans hg_10_2
  have hg_11_3 : g_11 3 = (52 : Int32) := by rw [eg_11]; exact pk_us
  refine lv_dup hx hb dX0_known_72 rfl ?_
  refine lv_iconst (v := 4) hx hb dX0_known_73 (by decide) ?_
  refine lv_sipush (v := 210) hx hb dX0_known_74 (by decide) ?_
  refine sm_sti hx hb hK hP hD hS 4 1 rfl rfl (4) rfl (by decide) (by decide) dX0_known_77 (fun g_12 H locs eg_12 hP hD hS => ?_)
  have hP : va_P D sm_cl [(o_1, .inr (0, [.ref u_2.1, .ref u_2.2.1, .ref u_2.2.2])), (u_2.1, .inl (cB, 32, .inl u_4)), (u_2.2.1, .inl (cB, 16, .inl u_5)), (u_2.2.2, .inl (cB, 16, .inl u_6)), (a_7, .inl (cI, 16, .inl g_12))] H := hP
  have hD : va_D A [(o_1, .inr (0, [.ref u_2.1, .ref u_2.2.1, .ref u_2.2.2])), (u_2.1, .inl (cB, 32, .inl u_4)), (u_2.2.1, .inl (cB, 16, .inl u_5)), (u_2.2.2, .inl (cB, 16, .inl u_6)), (a_7, .inl (cI, 16, .inl g_12))] := hD
  have hg_12_0 : g_12 0 = (104 : Int32) := by rw [eg_12]; exact (pk_un (by decide)).trans hg_11_0
  have hg_12_1 : g_12 1 = (30 : Int32) := by rw [eg_12]; exact (pk_un (by decide)).trans hg_11_1
  have hg_12_2 : g_12 2 = (223 : Int32) := by rw [eg_12]; exact (pk_un (by decide)).trans hg_11_2
  have hg_12_3 : g_12 3 = (52 : Int32) := by rw [eg_12]; exact (pk_un (by decide)).trans hg_11_3
  have hg_12_4 : g_12 4 = (210 : Int32) := by rw [eg_12]; exact pk_us
  refine lv_dup hx hb dX0_known_78 rfl ?_
  refine lv_iconst (v := 5) hx hb dX0_known_79 (by decide) ?_
  refine lv_bipush (v := 6) hx hb dX0_known_80 (by decide) ?_
  refine sm_sti hx hb hK hP hD hS 4 1 rfl rfl (5) rfl (by decide) (by decide) dX0_known_82 (fun g_13 H locs eg_13 hP hD hS => ?_)
  have hP : va_P D sm_cl [(o_1, .inr (0, [.ref u_2.1, .ref u_2.2.1, .ref u_2.2.2])), (u_2.1, .inl (cB, 32, .inl u_4)), (u_2.2.1, .inl (cB, 16, .inl u_5)), (u_2.2.2, .inl (cB, 16, .inl u_6)), (a_7, .inl (cI, 16, .inl g_13))] H := hP
  have hD : va_D A [(o_1, .inr (0, [.ref u_2.1, .ref u_2.2.1, .ref u_2.2.2])), (u_2.1, .inl (cB, 32, .inl u_4)), (u_2.2.1, .inl (cB, 16, .inl u_5)), (u_2.2.2, .inl (cB, 16, .inl u_6)), (a_7, .inl (cI, 16, .inl g_13))] := hD
  have hg_13_0 : g_13 0 = (104 : Int32) := by rw [eg_13]; exact (pk_un (by decide)).trans hg_12_0
  have hg_13_1 : g_13 1 = (30 : Int32) := by rw [eg_13]; exact (pk_un (by decide)).trans hg_12_1
  have hg_13_2 : g_13 2 = (223 : Int32) := by rw [eg_13]; exact (pk_un (by decide)).trans hg_12_2
  have hg_13_3 : g_13 3 = (52 : Int32) := by rw [eg_13]; exact (pk_un (by decide)).trans hg_12_3
  have hg_13_4 : g_13 4 = (210 : Int32) := by rw [eg_13]; exact (pk_un (by decide)).trans hg_12_4
  have hg_13_5 : g_13 5 = (6 : Int32) := by rw [eg_13]; exact pk_us
  refine lv_dup hx hb dX0_known_83 rfl ?_
  refine lv_bipush (v := 6) hx hb dX0_known_84 (by decide) ?_
  refine lv_sipush (v := 150) hx hb dX0_known_86 (by decide) ?_
  refine sm_sti hx hb hK hP hD hS 4 1 rfl rfl (6) rfl (by decide) (by decide) dX0_known_89 (fun g_14 H locs eg_14 hP hD hS => ?_)
  have hP : va_P D sm_cl [(o_1, .inr (0, [.ref u_2.1, .ref u_2.2.1, .ref u_2.2.2])), (u_2.1, .inl (cB, 32, .inl u_4)), (u_2.2.1, .inl (cB, 16, .inl u_5)), (u_2.2.2, .inl (cB, 16, .inl u_6)), (a_7, .inl (cI, 16, .inl g_14))] H := hP
  have hD : va_D A [(o_1, .inr (0, [.ref u_2.1, .ref u_2.2.1, .ref u_2.2.2])), (u_2.1, .inl (cB, 32, .inl u_4)), (u_2.2.1, .inl (cB, 16, .inl u_5)), (u_2.2.2, .inl (cB, 16, .inl u_6)), (a_7, .inl (cI, 16, .inl g_14))] := hD
  have hg_14_0 : g_14 0 = (104 : Int32) := by rw [eg_14]; exact (pk_un (by decide)).trans hg_13_0
  have hg_14_1 : g_14 1 = (30 : Int32) := by rw [eg_14]; exact (pk_un (by decide)).trans hg_13_1
  have hg_14_2 : g_14 2 = (223 : Int32) := by rw [eg_14]; exact (pk_un (by decide)).trans hg_13_2
  have hg_14_3 : g_14 3 = (52 : Int32) := by rw [eg_14]; exact (pk_un (by decide)).trans hg_13_3
  have hg_14_4 : g_14 4 = (210 : Int32) := by rw [eg_14]; exact (pk_un (by decide)).trans hg_13_4
  have hg_14_5 : g_14 5 = (6 : Int32) := by rw [eg_14]; exact (pk_un (by decide)).trans hg_13_5
  have hg_14_6 : g_14 6 = (150 : Int32) := by rw [eg_14]; exact pk_us
  refine lv_dup hx hb dX0_known_90 rfl ?_
  refine lv_bipush (v := 7) hx hb dX0_known_91 (by decide) ?_
  refine lv_bipush (v := 94) hx hb dX0_known_93 (by decide) ?_
  refine sm_sti hx hb hK hP hD hS 4 1 rfl rfl (7) rfl (by decide) (by decide) dX0_known_95 (fun g_15 H locs eg_15 hP hD hS => ?_)
  have hP : va_P D sm_cl [(o_1, .inr (0, [.ref u_2.1, .ref u_2.2.1, .ref u_2.2.2])), (u_2.1, .inl (cB, 32, .inl u_4)), (u_2.2.1, .inl (cB, 16, .inl u_5)), (u_2.2.2, .inl (cB, 16, .inl u_6)), (a_7, .inl (cI, 16, .inl g_15))] H := hP
  have hD : va_D A [(o_1, .inr (0, [.ref u_2.1, .ref u_2.2.1, .ref u_2.2.2])), (u_2.1, .inl (cB, 32, .inl u_4)), (u_2.2.1, .inl (cB, 16, .inl u_5)), (u_2.2.2, .inl (cB, 16, .inl u_6)), (a_7, .inl (cI, 16, .inl g_15))] := hD
  have hg_15_0 : g_15 0 = (104 : Int32) := by rw [eg_15]; exact (pk_un (by decide)).trans hg_14_0
  have hg_15_1 : g_15 1 = (30 : Int32) := by rw [eg_15]; exact (pk_un (by decide)).trans hg_14_1
  have hg_15_2 : g_15 2 = (223 : Int32) := by rw [eg_15]; exact (pk_un (by decide)).trans hg_14_2
  have hg_15_3 : g_15 3 = (52 : Int32) := by rw [eg_15]; exact (pk_un (by decide)).trans hg_14_3
  have hg_15_4 : g_15 4 = (210 : Int32) := by rw [eg_15]; exact (pk_un (by decide)).trans hg_14_4
  have hg_15_5 : g_15 5 = (6 : Int32) := by rw [eg_15]; exact (pk_un (by decide)).trans hg_14_5
  have hg_15_6 : g_15 6 = (150 : Int32) := by rw [eg_15]; exact (pk_un (by decide)).trans hg_14_6
  have hg_15_7 : g_15 7 = (94 : Int32) := by rw [eg_15]; exact pk_us
  refine lv_dup hx hb dX0_known_96 rfl ?_
  refine lv_bipush (v := 8) hx hb dX0_known_97 (by decide) ?_
  refine lv_sipush (v := 134) hx hb dX0_known_99 (by decide) ?_
  refine sm_sti hx hb hK hP hD hS 4 1 rfl rfl (8) rfl (by decide) (by decide) dX0_known_102 (fun g_16 H locs eg_16 hP hD hS => ?_)
  have hP : va_P D sm_cl [(o_1, .inr (0, [.ref u_2.1, .ref u_2.2.1, .ref u_2.2.2])), (u_2.1, .inl (cB, 32, .inl u_4)), (u_2.2.1, .inl (cB, 16, .inl u_5)), (u_2.2.2, .inl (cB, 16, .inl u_6)), (a_7, .inl (cI, 16, .inl g_16))] H := hP
  have hD : va_D A [(o_1, .inr (0, [.ref u_2.1, .ref u_2.2.1, .ref u_2.2.2])), (u_2.1, .inl (cB, 32, .inl u_4)), (u_2.2.1, .inl (cB, 16, .inl u_5)), (u_2.2.2, .inl (cB, 16, .inl u_6)), (a_7, .inl (cI, 16, .inl g_16))] := hD
  have hg_16_0 : g_16 0 = (104 : Int32) := by rw [eg_16]; exact (pk_un (by decide)).trans hg_15_0
  have hg_16_1 : g_16 1 = (30 : Int32) := by rw [eg_16]; exact (pk_un (by decide)).trans hg_15_1
  have hg_16_2 : g_16 2 = (223 : Int32) := by rw [eg_16]; exact (pk_un (by decide)).trans hg_15_2
  have hg_16_3 : g_16 3 = (52 : Int32) := by rw [eg_16]; exact (pk_un (by decide)).trans hg_15_3
  have hg_16_4 : g_16 4 = (210 : Int32) := by rw [eg_16]; exact (pk_un (by decide)).trans hg_15_4
  have hg_16_5 : g_16 5 = (6 : Int32) := by rw [eg_16]; exact (pk_un (by decide)).trans hg_15_5
  have hg_16_6 : g_16 6 = (150 : Int32) := by rw [eg_16]; exact (pk_un (by decide)).trans hg_15_6
  have hg_16_7 : g_16 7 = (94 : Int32) := by rw [eg_16]; exact (pk_un (by decide)).trans hg_15_7
  have hg_16_8 : g_16 8 = (134 : Int32) := by rw [eg_16]; exact pk_us
  refine lv_dup hx hb dX0_known_103 rfl ?_
  refine lv_bipush (v := 9) hx hb dX0_known_104 (by decide) ?_
  refine lv_sipush (v := 179) hx hb dX0_known_106 (by decide) ?_
  refine sm_sti hx hb hK hP hD hS 4 1 rfl rfl (9) rfl (by decide) (by decide) dX0_known_109 (fun g_17 H locs eg_17 hP hD hS => ?_)
  have hP : va_P D sm_cl [(o_1, .inr (0, [.ref u_2.1, .ref u_2.2.1, .ref u_2.2.2])), (u_2.1, .inl (cB, 32, .inl u_4)), (u_2.2.1, .inl (cB, 16, .inl u_5)), (u_2.2.2, .inl (cB, 16, .inl u_6)), (a_7, .inl (cI, 16, .inl g_17))] H := hP
  have hD : va_D A [(o_1, .inr (0, [.ref u_2.1, .ref u_2.2.1, .ref u_2.2.2])), (u_2.1, .inl (cB, 32, .inl u_4)), (u_2.2.1, .inl (cB, 16, .inl u_5)), (u_2.2.2, .inl (cB, 16, .inl u_6)), (a_7, .inl (cI, 16, .inl g_17))] := hD
  have hg_17_0 : g_17 0 = (104 : Int32) := by rw [eg_17]; exact (pk_un (by decide)).trans hg_16_0
  have hg_17_1 : g_17 1 = (30 : Int32) := by rw [eg_17]; exact (pk_un (by decide)).trans hg_16_1
  have hg_17_2 : g_17 2 = (223 : Int32) := by rw [eg_17]; exact (pk_un (by decide)).trans hg_16_2
  have hg_17_3 : g_17 3 = (52 : Int32) := by rw [eg_17]; exact (pk_un (by decide)).trans hg_16_3
  have hg_17_4 : g_17 4 = (210 : Int32) := by rw [eg_17]; exact (pk_un (by decide)).trans hg_16_4
  have hg_17_5 : g_17 5 = (6 : Int32) := by rw [eg_17]; exact (pk_un (by decide)).trans hg_16_5
  have hg_17_6 : g_17 6 = (150 : Int32) := by rw [eg_17]; exact (pk_un (by decide)).trans hg_16_6
  have hg_17_7 : g_17 7 = (94 : Int32) := by rw [eg_17]; exact (pk_un (by decide)).trans hg_16_7
  have hg_17_8 : g_17 8 = (134 : Int32) := by rw [eg_17]; exact (pk_un (by decide)).trans hg_16_8
  have hg_17_9 : g_17 9 = (179 : Int32) := by rw [eg_17]; exact pk_us
  refine lv_dup hx hb dX0_known_110 rfl ?_
  refine lv_bipush (v := 10) hx hb dX0_known_111 (by decide) ?_
  refine lv_sipush (v := 233) hx hb dX0_known_113 (by decide) ?_
  refine sm_sti hx hb hK hP hD hS 4 1 rfl rfl (10) rfl (by decide) (by decide) dX0_known_116 (fun g_18 H locs eg_18 hP hD hS => ?_)
  have hP : va_P D sm_cl [(o_1, .inr (0, [.ref u_2.1, .ref u_2.2.1, .ref u_2.2.2])), (u_2.1, .inl (cB, 32, .inl u_4)), (u_2.2.1, .inl (cB, 16, .inl u_5)), (u_2.2.2, .inl (cB, 16, .inl u_6)), (a_7, .inl (cI, 16, .inl g_18))] H := hP
  have hD : va_D A [(o_1, .inr (0, [.ref u_2.1, .ref u_2.2.1, .ref u_2.2.2])), (u_2.1, .inl (cB, 32, .inl u_4)), (u_2.2.1, .inl (cB, 16, .inl u_5)), (u_2.2.2, .inl (cB, 16, .inl u_6)), (a_7, .inl (cI, 16, .inl g_18))] := hD
  have hg_18_0 : g_18 0 = (104 : Int32) := by rw [eg_18]; exact (pk_un (by decide)).trans hg_17_0
  have hg_18_1 : g_18 1 = (30 : Int32) := by rw [eg_18]; exact (pk_un (by decide)).trans hg_17_1
  have hg_18_2 : g_18 2 = (223 : Int32) := by rw [eg_18]; exact (pk_un (by decide)).trans hg_17_2
  have hg_18_3 : g_18 3 = (52 : Int32) := by rw [eg_18]; exact (pk_un (by decide)).trans hg_17_3
  have hg_18_4 : g_18 4 = (210 : Int32) := by rw [eg_18]; exact (pk_un (by decide)).trans hg_17_4
  have hg_18_5 : g_18 5 = (6 : Int32) := by rw [eg_18]; exact (pk_un (by decide)).trans hg_17_5
  have hg_18_6 : g_18 6 = (150 : Int32) := by rw [eg_18]; exact (pk_un (by decide)).trans hg_17_6
  have hg_18_7 : g_18 7 = (94 : Int32) := by rw [eg_18]; exact (pk_un (by decide)).trans hg_17_7
  have hg_18_8 : g_18 8 = (134 : Int32) := by rw [eg_18]; exact (pk_un (by decide)).trans hg_17_8
  have hg_18_9 : g_18 9 = (179 : Int32) := by rw [eg_18]; exact (pk_un (by decide)).trans hg_17_9
  have hg_18_10 : g_18 10 = (233 : Int32) := by rw [eg_18]; exact pk_us
  refine lv_dup hx hb dX0_known_117 rfl ?_
  refine lv_bipush (v := 11) hx hb dX0_known_118 (by decide) ?_
  refine lv_bipush (v := 79) hx hb dX0_known_120 (by decide) ?_
  refine sm_sti hx hb hK hP hD hS 4 1 rfl rfl (11) rfl (by decide) (by decide) dX0_known_122 (fun g_19 H locs eg_19 hP hD hS => ?_)
  have hP : va_P D sm_cl [(o_1, .inr (0, [.ref u_2.1, .ref u_2.2.1, .ref u_2.2.2])), (u_2.1, .inl (cB, 32, .inl u_4)), (u_2.2.1, .inl (cB, 16, .inl u_5)), (u_2.2.2, .inl (cB, 16, .inl u_6)), (a_7, .inl (cI, 16, .inl g_19))] H := hP
  have hD : va_D A [(o_1, .inr (0, [.ref u_2.1, .ref u_2.2.1, .ref u_2.2.2])), (u_2.1, .inl (cB, 32, .inl u_4)), (u_2.2.1, .inl (cB, 16, .inl u_5)), (u_2.2.2, .inl (cB, 16, .inl u_6)), (a_7, .inl (cI, 16, .inl g_19))] := hD
  have hg_19_0 : g_19 0 = (104 : Int32) := by rw [eg_19]; exact (pk_un (by decide)).trans hg_18_0
  have hg_19_1 : g_19 1 = (30 : Int32) := by rw [eg_19]; exact (pk_un (by decide)).trans hg_18_1
  have hg_19_2 : g_19 2 = (223 : Int32) := by rw [eg_19]; exact (pk_un (by decide)).trans hg_18_2
  have hg_19_3 : g_19 3 = (52 : Int32) := by rw [eg_19]; exact (pk_un (by decide)).trans hg_18_3
  have hg_19_4 : g_19 4 = (210 : Int32) := by rw [eg_19]; exact (pk_un (by decide)).trans hg_18_4
  have hg_19_5 : g_19 5 = (6 : Int32) := by rw [eg_19]; exact (pk_un (by decide)).trans hg_18_5
  have hg_19_6 : g_19 6 = (150 : Int32) := by rw [eg_19]; exact (pk_un (by decide)).trans hg_18_6
  have hg_19_7 : g_19 7 = (94 : Int32) := by rw [eg_19]; exact (pk_un (by decide)).trans hg_18_7
  have hg_19_8 : g_19 8 = (134 : Int32) := by rw [eg_19]; exact (pk_un (by decide)).trans hg_18_8
  have hg_19_9 : g_19 9 = (179 : Int32) := by rw [eg_19]; exact (pk_un (by decide)).trans hg_18_9
  have hg_19_10 : g_19 10 = (233 : Int32) := by rw [eg_19]; exact (pk_un (by decide)).trans hg_18_10
  have hg_19_11 : g_19 11 = (79 : Int32) := by rw [eg_19]; exact pk_us
  refine lv_dup hx hb dX0_known_123 rfl ?_
  refine lv_bipush (v := 12) hx hb dX0_known_124 (by decide) ?_
  refine lv_bipush (v := 83) hx hb dX0_known_126 (by decide) ?_
  refine sm_sti hx hb hK hP hD hS 4 1 rfl rfl (12) rfl (by decide) (by decide) dX0_known_128 (fun g_20 H locs eg_20 hP hD hS => ?_)
  have hP : va_P D sm_cl [(o_1, .inr (0, [.ref u_2.1, .ref u_2.2.1, .ref u_2.2.2])), (u_2.1, .inl (cB, 32, .inl u_4)), (u_2.2.1, .inl (cB, 16, .inl u_5)), (u_2.2.2, .inl (cB, 16, .inl u_6)), (a_7, .inl (cI, 16, .inl g_20))] H := hP
  have hD : va_D A [(o_1, .inr (0, [.ref u_2.1, .ref u_2.2.1, .ref u_2.2.2])), (u_2.1, .inl (cB, 32, .inl u_4)), (u_2.2.1, .inl (cB, 16, .inl u_5)), (u_2.2.2, .inl (cB, 16, .inl u_6)), (a_7, .inl (cI, 16, .inl g_20))] := hD
  have hg_20_0 : g_20 0 = (104 : Int32) := by rw [eg_20]; exact (pk_un (by decide)).trans hg_19_0
  have hg_20_1 : g_20 1 = (30 : Int32) := by rw [eg_20]; exact (pk_un (by decide)).trans hg_19_1
  have hg_20_2 : g_20 2 = (223 : Int32) := by rw [eg_20]; exact (pk_un (by decide)).trans hg_19_2
  have hg_20_3 : g_20 3 = (52 : Int32) := by rw [eg_20]; exact (pk_un (by decide)).trans hg_19_3
  have hg_20_4 : g_20 4 = (210 : Int32) := by rw [eg_20]; exact (pk_un (by decide)).trans hg_19_4
  have hg_20_5 : g_20 5 = (6 : Int32) := by rw [eg_20]; exact (pk_un (by decide)).trans hg_19_5
  have hg_20_6 : g_20 6 = (150 : Int32) := by rw [eg_20]; exact (pk_un (by decide)).trans hg_19_6
  have hg_20_7 : g_20 7 = (94 : Int32) := by rw [eg_20]; exact (pk_un (by decide)).trans hg_19_7
  have hg_20_8 : g_20 8 = (134 : Int32) := by rw [eg_20]; exact (pk_un (by decide)).trans hg_19_8
  have hg_20_9 : g_20 9 = (179 : Int32) := by rw [eg_20]; exact (pk_un (by decide)).trans hg_19_9
  have hg_20_10 : g_20 10 = (233 : Int32) := by rw [eg_20]; exact (pk_un (by decide)).trans hg_19_10
  have hg_20_11 : g_20 11 = (79 : Int32) := by rw [eg_20]; exact (pk_un (by decide)).trans hg_19_11
  have hg_20_12 : g_20 12 = (83 : Int32) := by rw [eg_20]; exact pk_us
  refine lv_dup hx hb dX0_known_129 rfl ?_
  refine lv_bipush (v := 13) hx hb dX0_known_130 (by decide) ?_
  refine lv_bipush (v := 110) hx hb dX0_known_132 (by decide) ?_
  refine sm_sti hx hb hK hP hD hS 4 1 rfl rfl (13) rfl (by decide) (by decide) dX0_known_134 (fun g_21 H locs eg_21 hP hD hS => ?_)
  have hP : va_P D sm_cl [(o_1, .inr (0, [.ref u_2.1, .ref u_2.2.1, .ref u_2.2.2])), (u_2.1, .inl (cB, 32, .inl u_4)), (u_2.2.1, .inl (cB, 16, .inl u_5)), (u_2.2.2, .inl (cB, 16, .inl u_6)), (a_7, .inl (cI, 16, .inl g_21))] H := hP
  have hD : va_D A [(o_1, .inr (0, [.ref u_2.1, .ref u_2.2.1, .ref u_2.2.2])), (u_2.1, .inl (cB, 32, .inl u_4)), (u_2.2.1, .inl (cB, 16, .inl u_5)), (u_2.2.2, .inl (cB, 16, .inl u_6)), (a_7, .inl (cI, 16, .inl g_21))] := hD
  have hg_21_0 : g_21 0 = (104 : Int32) := by rw [eg_21]; exact (pk_un (by decide)).trans hg_20_0
  have hg_21_1 : g_21 1 = (30 : Int32) := by rw [eg_21]; exact (pk_un (by decide)).trans hg_20_1
  have hg_21_2 : g_21 2 = (223 : Int32) := by rw [eg_21]; exact (pk_un (by decide)).trans hg_20_2
  have hg_21_3 : g_21 3 = (52 : Int32) := by rw [eg_21]; exact (pk_un (by decide)).trans hg_20_3
  have hg_21_4 : g_21 4 = (210 : Int32) := by rw [eg_21]; exact (pk_un (by decide)).trans hg_20_4
  have hg_21_5 : g_21 5 = (6 : Int32) := by rw [eg_21]; exact (pk_un (by decide)).trans hg_20_5
  have hg_21_6 : g_21 6 = (150 : Int32) := by rw [eg_21]; exact (pk_un (by decide)).trans hg_20_6
  have hg_21_7 : g_21 7 = (94 : Int32) := by rw [eg_21]; exact (pk_un (by decide)).trans hg_20_7
  have hg_21_8 : g_21 8 = (134 : Int32) := by rw [eg_21]; exact (pk_un (by decide)).trans hg_20_8
  have hg_21_9 : g_21 9 = (179 : Int32) := by rw [eg_21]; exact (pk_un (by decide)).trans hg_20_9
  have hg_21_10 : g_21 10 = (233 : Int32) := by rw [eg_21]; exact (pk_un (by decide)).trans hg_20_10
  have hg_21_11 : g_21 11 = (79 : Int32) := by rw [eg_21]; exact (pk_un (by decide)).trans hg_20_11
  have hg_21_12 : g_21 12 = (83 : Int32) := by rw [eg_21]; exact (pk_un (by decide)).trans hg_20_12
  have hg_21_13 : g_21 13 = (110 : Int32) := by rw [eg_21]; exact pk_us
  refine lv_dup hx hb dX0_known_135 rfl ?_
  refine lv_bipush (v := 14) hx hb dX0_known_136 (by decide) ?_
  refine lv_bipush (v := 66) hx hb dX0_known_138 (by decide) ?_
  refine sm_sti hx hb hK hP hD hS 4 1 rfl rfl (14) rfl (by decide) (by decide) dX0_known_140 (fun g_22 H locs eg_22 hP hD hS => ?_)
  have hP : va_P D sm_cl [(o_1, .inr (0, [.ref u_2.1, .ref u_2.2.1, .ref u_2.2.2])), (u_2.1, .inl (cB, 32, .inl u_4)), (u_2.2.1, .inl (cB, 16, .inl u_5)), (u_2.2.2, .inl (cB, 16, .inl u_6)), (a_7, .inl (cI, 16, .inl g_22))] H := hP
  have hD : va_D A [(o_1, .inr (0, [.ref u_2.1, .ref u_2.2.1, .ref u_2.2.2])), (u_2.1, .inl (cB, 32, .inl u_4)), (u_2.2.1, .inl (cB, 16, .inl u_5)), (u_2.2.2, .inl (cB, 16, .inl u_6)), (a_7, .inl (cI, 16, .inl g_22))] := hD
  have hg_22_0 : g_22 0 = (104 : Int32) := by rw [eg_22]; exact (pk_un (by decide)).trans hg_21_0
  have hg_22_1 : g_22 1 = (30 : Int32) := by rw [eg_22]; exact (pk_un (by decide)).trans hg_21_1
  have hg_22_2 : g_22 2 = (223 : Int32) := by rw [eg_22]; exact (pk_un (by decide)).trans hg_21_2
  have hg_22_3 : g_22 3 = (52 : Int32) := by rw [eg_22]; exact (pk_un (by decide)).trans hg_21_3
  have hg_22_4 : g_22 4 = (210 : Int32) := by rw [eg_22]; exact (pk_un (by decide)).trans hg_21_4
  have hg_22_5 : g_22 5 = (6 : Int32) := by rw [eg_22]; exact (pk_un (by decide)).trans hg_21_5
  have hg_22_6 : g_22 6 = (150 : Int32) := by rw [eg_22]; exact (pk_un (by decide)).trans hg_21_6
  have hg_22_7 : g_22 7 = (94 : Int32) := by rw [eg_22]; exact (pk_un (by decide)).trans hg_21_7
  have hg_22_8 : g_22 8 = (134 : Int32) := by rw [eg_22]; exact (pk_un (by decide)).trans hg_21_8
  have hg_22_9 : g_22 9 = (179 : Int32) := by rw [eg_22]; exact (pk_un (by decide)).trans hg_21_9
  have hg_22_10 : g_22 10 = (233 : Int32) := by rw [eg_22]; exact (pk_un (by decide)).trans hg_21_10
  have hg_22_11 : g_22 11 = (79 : Int32) := by rw [eg_22]; exact (pk_un (by decide)).trans hg_21_11
  have hg_22_12 : g_22 12 = (83 : Int32) := by rw [eg_22]; exact (pk_un (by decide)).trans hg_21_12
  have hg_22_13 : g_22 13 = (110 : Int32) := by rw [eg_22]; exact (pk_un (by decide)).trans hg_21_13
  have hg_22_14 : g_22 14 = (66 : Int32) := by rw [eg_22]; exact pk_us
  refine lv_dup hx hb dX0_known_141 rfl ?_
  refine lv_bipush (v := 15) hx hb dX0_known_142 (by decide) ?_
  refine lv_bipush (v := 70) hx hb dX0_known_144 (by decide) ?_
  refine sm_sti hx hb hK hP hD hS 4 1 rfl rfl (15) rfl (by decide) (by decide) dX0_known_146 (fun g_23 H locs eg_23 hP hD hS => ?_)
  have hP : va_P D sm_cl [(o_1, .inr (0, [.ref u_2.1, .ref u_2.2.1, .ref u_2.2.2])), (u_2.1, .inl (cB, 32, .inl u_4)), (u_2.2.1, .inl (cB, 16, .inl u_5)), (u_2.2.2, .inl (cB, 16, .inl u_6)), (a_7, .inl (cI, 16, .inl g_23))] H := hP
  have hD : va_D A [(o_1, .inr (0, [.ref u_2.1, .ref u_2.2.1, .ref u_2.2.2])), (u_2.1, .inl (cB, 32, .inl u_4)), (u_2.2.1, .inl (cB, 16, .inl u_5)), (u_2.2.2, .inl (cB, 16, .inl u_6)), (a_7, .inl (cI, 16, .inl g_23))] := hD
  have hg_23_0 : g_23 0 = (104 : Int32) := by rw [eg_23]; exact (pk_un (by decide)).trans hg_22_0
  have hg_23_1 : g_23 1 = (30 : Int32) := by rw [eg_23]; exact (pk_un (by decide)).trans hg_22_1
  have hg_23_2 : g_23 2 = (223 : Int32) := by rw [eg_23]; exact (pk_un (by decide)).trans hg_22_2
  have hg_23_3 : g_23 3 = (52 : Int32) := by rw [eg_23]; exact (pk_un (by decide)).trans hg_22_3
  have hg_23_4 : g_23 4 = (210 : Int32) := by rw [eg_23]; exact (pk_un (by decide)).trans hg_22_4
  have hg_23_5 : g_23 5 = (6 : Int32) := by rw [eg_23]; exact (pk_un (by decide)).trans hg_22_5
  have hg_23_6 : g_23 6 = (150 : Int32) := by rw [eg_23]; exact (pk_un (by decide)).trans hg_22_6
  have hg_23_7 : g_23 7 = (94 : Int32) := by rw [eg_23]; exact (pk_un (by decide)).trans hg_22_7
  have hg_23_8 : g_23 8 = (134 : Int32) := by rw [eg_23]; exact (pk_un (by decide)).trans hg_22_8
  have hg_23_9 : g_23 9 = (179 : Int32) := by rw [eg_23]; exact (pk_un (by decide)).trans hg_22_9
  have hg_23_10 : g_23 10 = (233 : Int32) := by rw [eg_23]; exact (pk_un (by decide)).trans hg_22_10
  have hg_23_11 : g_23 11 = (79 : Int32) := by rw [eg_23]; exact (pk_un (by decide)).trans hg_22_11
  have hg_23_12 : g_23 12 = (83 : Int32) := by rw [eg_23]; exact (pk_un (by decide)).trans hg_22_12
  have hg_23_13 : g_23 13 = (110 : Int32) := by rw [eg_23]; exact (pk_un (by decide)).trans hg_22_13
  have hg_23_14 : g_23 14 = (66 : Int32) := by rw [eg_23]; exact (pk_un (by decide)).trans hg_22_14
  have hg_23_15 : g_23 15 = (70 : Int32) := by rw [eg_23]; exact pk_us
  refine lv_astore_n (lv' := [(1, .ref a_7), (0, .ref o_1)]) hx hb dX0_known_147 rfl hl (by decide) rfl (fun ls hl => ?_)
  refine lv_iconst (v := 0) hx hb dX0_known_148 (by decide) ?_
  refine lv_istore_n (lv' := [(2, .int (0 : Int32)), (1, .ref a_7), (0, .ref o_1)]) hx hb dX0_known_149 rfl hl (by decide) rfl (fun ls hl => ?_)
  have hv : sm_W4 u_6 (1746853684) (-771320226) (-2035029681) (1399734854) := by
    have h := eu_6
    unfold sm_b4 at h
    rw [sm_known.1, sm_known.2.1, sm_known.2.2.1, sm_known.2.2.2] at h
    exact h
  have he : ∀ i, i < 16 → u_6 i &&& 255 = g_23 i := by
    intro i hi
    rcases (show i = 0 ∨ i = 1 ∨ i = 2 ∨ i = 3 ∨ i = 4 ∨ i = 5 ∨ i = 6 ∨ i = 7 ∨ i = 8 ∨ i = 9 ∨ i = 10 ∨ i = 11 ∨ i = 12 ∨ i = 13 ∨ i = 14 ∨ i = 15 by omega) with rfl | rfl | rfl | rfl | rfl | rfl | rfl | rfl | rfl | rfl | rfl | rfl | rfl | rfl | rfl | rfl
    · rw [hv 0 (by decide), hg_23_0]; decide +kernel
    · rw [hv 1 (by decide), hg_23_1]; decide +kernel
    · rw [hv 2 (by decide), hg_23_2]; decide +kernel
    · rw [hv 3 (by decide), hg_23_3]; decide +kernel
    · rw [hv 4 (by decide), hg_23_4]; decide +kernel
    · rw [hv 5 (by decide), hg_23_5]; decide +kernel
    · rw [hv 6 (by decide), hg_23_6]; decide +kernel
    · rw [hv 7 (by decide), hg_23_7]; decide +kernel
    · rw [hv 8 (by decide), hg_23_8]; decide +kernel
    · rw [hv 9 (by decide), hg_23_9]; decide +kernel
    · rw [hv 10 (by decide), hg_23_10]; decide +kernel
    · rw [hv 11 (by decide), hg_23_11]; decide +kernel
    · rw [hv 12 (by decide), hg_23_12]; decide +kernel
    · rw [hv 13 (by decide), hg_23_13]; decide +kernel
    · rw [hv 14 (by decide), hg_23_14]; decide +kernel
    · rw [hv 15 (by decide), hg_23_15]; decide +kernel
  have hP : va_P D sm_cl [(o_1, .inr (0, [.ref u_2.1, .ref u_2.2.1, .ref u_2.2.2])), (u_2.2.2, .inl (cB, 16, .inl u_6)), (a_7, .inl (cI, 16, .inl g_23))] H := hP.sub [0, 3, 4] rfl
  have hD : va_D A [(o_1, .inr (0, [.ref u_2.1, .ref u_2.2.1, .ref u_2.2.2])), (u_2.2.2, .inl (cB, 16, .inl u_6)), (a_7, .inl (cI, 16, .inl g_23))] := hD.sub [0, 3, 4] (by decide) rfl
  refine W.widen (k := 13) (n := 162) (Nat.le_of_ble_eq_true rfl) (Nat.le_of_ble_eq_true rfl) ?_
  have hl : lv_has ls 3 [(2, .int (0 : Int32)), (1, .ref a_7), (0, .ref o_1)] := lv_sub hl [0, 1, 2] rfl
  have loop : ∀ (n i : Nat), i + n = 16 → ∀ (ls : Array Slot), lv_has ls 3 [(2, .int (nI i)), (1, .ref a_7), (0, .ref o_1)] → W p l e (headSpec (ws_ yX0_known cX0_known 3 (some .boolean)) ({ frames := 7, cells := 13, slots := 162, locals := 220 })).room s m ([] : List Value).toArray below meth c H locs 13 162 (MQ below (va_Qi (fun (r : Int32) (u : Unit) => r = 1) (sm_BW D A (fun u => [])) A) ([] : List Value).toArray s 13 162 A) (F0 m 150 ls []) := by
    intro n
    induction n with
    | zero =>
      intro i hi ls hl
      obtain rfl : i = 16 := by omega
      refine lv_iload_n hx hb dX0_known_150 rfl (lv_at hl 0 rfl) ?_
      refine lv_bipush (v := 16) hx hb dX0_known_151 (by decide) ?_
      refine lv_icmp_ge (tgt := 175) hx hb dX0_known_153 (by decide) (fun _ => ?_) (fun h => absurd (show (16 : Int32) ≤ nI 16 by decide) h)
      refine lv_iconst (v := 1) hx hb dX0_known_175 (by decide) ?_
      exact W.zret (v := 1) hx hb hr rfl (fun t ht hW => ⟨⟨1, (), rfl, rfl, by rw [ht]; exact hP.sub [] rfl, hD.sub [] (by decide) rfl⟩, hS.F ht⟩) hS.2.2 dX0_known_176
    | succ n ih =>
      intro i hi ls hl
      refine lv_iload_n hx hb dX0_known_150 rfl (lv_at hl 0 rfl) ?_
      refine lv_bipush (v := 16) hx hb dX0_known_151 (by decide) ?_
      refine lv_icmp_ge (tgt := 175) hx hb dX0_known_153 (by decide) (fun h => absurd h (nI_ge (a := i) (b := 16) (by omega) (by decide))) (fun _ => ?_)
      refine lv_aload_n hx hb dX0_known_156 rfl (lv_at hl 2 rfl) ?_
      refine lv_iload_n hx hb dX0_known_157 rfl (lv_at hl 0 rfl) ?_
      refine vp_callSi (va_runV (As := [.int (nI i)]) (rest := []) ⟨hx, hb, hml, hown, hts⟩ (metX1_out l D cB cI tS tC tF o_1 u_2.1 u_2.2.1 u_2.2.2 u_6 i (by omega)) (cwV 1 hts (lw_V q320 q321 q322 q14 q323) rfl rfl rfl (by decide +kernel) ⟨Nat.le_of_ble_eq_true rfl, Nat.le_of_ble_eq_true rfl⟩) ⟨sm_RO.blind, va_recv hK hP (ci := 0) (q0 := 0) rfl rfl, fun U hU hW => ⟨rfl, sm_RO.at hU hW (hP.sub (ws' := [(o_1, .inr (0, [.ref u_2.1, .ref u_2.2.1, .ref u_2.2.2])), (u_2.2.2, .inl (cB, 16, .inl u_6))]) [0, 1] rfl) hK hZ hS⟩⟩ rfl rfl hl.1 rfl (lv_room (Nat.le_of_ble_eq_true rfl)) dX0_known_158 ⟨Nat.le_of_ble_eq_true rfl, Nat.le_of_ble_eq_true rfl⟩).run (fun r_24 er_24 => ?_)
      subst er_24
      refine lv_aload_n hx hb dX0_known_161 rfl (lv_at hl 1 rfl) ?_
      refine lv_iload_n hx hb dX0_known_162 rfl (lv_at hl 0 rfl) ?_
      refine sm_ldi hx hb hK hP 2 1 rfl rfl (i) rfl (by omega) (by decide) (v := g_23 i) (rfl) dX0_known_163 ?_
      refine lv_icmp_eq (tgt := 169) hx hb dX0_known_164 (by decide) (fun _ => ?_) (fun h => absurd (he i (by omega)) h)
      refine lv_iinc (v := nI (i + 1)) (lv' := [(2, .int (nI (i + 1))), (1, .ref a_7), (0, .ref o_1)]) hx hb dX0_known_169 hl (k := 0) rfl (nI_1 (i)) (by decide) rfl (fun ls hl => ?_)
      refine lv_goto (tgt := 150) hx hb dX0_known_172 (by decide) ?_
      exact ih (i + 1) (by omega) ls hl
  exact loop 16 0 (by decide) ls hl
end
section
/-! THE CLAIM OUT OF ONE WALK OF THE LAW'S BODY. Your part is whole_start (and what it stands on); all else here is the same for every law, but numbers. -/
def R_law : String := "SmFourDeskLaw"
def lw_P (b : Addr) (xs : List Int32) (args : Array Value) (s : State) : Prop := args = #[.ref b] ∧ s.IntsAt b xs ∧ xs.length ≤ 12 ∧ (Jvm.Cond.and given_1 narrow_1).before args s = true
def lw_Q (_ : Array Value) (s : State) (o : Outcome) (t : State) : Prop := o = .returned (some (.int 1)) ∧ Framed s o t [] 609069 7274898
def lw_Z (below : List Frame) (a : Array Value) (s : State) : State → Prop := fun t => ∃ o, t.status = .running ∧ Ended t below o ∧ lw_Q a s o t
/-- the law's own end, with 1 on the stack, nothing written that was there before, its room as the claim has it -/
theorem lw_ret {p : Program} {l : Launch} {e : Env} {s : State} {m : MethodId} {below : List Frame} {meth : Method} {c : Code} {b : Nat} (hx : p.tables.exec = Jvm.exec) (hb : c.code = code) (hr : meth.sig.returnType = ret) (hlocks : meth.locks = false) {pc : Nat} {H : Heap} {ls : Array Slot} (hdg : decode code pc = .ok (.ireturn, 1)) : W p l e room_1 s m #[Value.ref b] below meth c H [] 609069 7274898 (lw_Z below #[Value.ref b] s) (F0 m pc ls [.int 1]) := by
  intro T hT X
  obtain ⟨fs, hret, hrun, hended, hW, hframe⟩ := X.leave (v := some (.int 1)) (hlocks := hlocks) (fun h => by rw [hr] at h; cases h)
  have hmeth' : T.vm.method? m = some meth := X.method'
  refine ⟨T.setFrames fs, ?_, .returned (some (.int 1)), hrun, hended, rfl, ⟨_, rfl⟩, hW, hframe⟩
  jvm_step X.here [X.here.top, hx, hb, hdg, hmeth', hr, ret, narrow_b1]
  (try refine ⟨rfl, ?_⟩); (try refine ⟨rfl, ?_⟩)
  first | (intro acts; rw [hret _ acts rfl rfl rfl]) | rw [hret _ _ rfl rfl rfl]
  exact Steps.refl _
/-- what holds at the law's entry: the machine, the code, the tables' words (any of lw_tbl by 'hts w (by decide +kernel)'), the script of L ints xs at the cell b, what the Statement gives of the start (any of its parts by flat_of_before) -/
def lw_At (p : Program) (s : State) (m : MethodId) (meth : Method) (c : Code) (b L : Nat) (xs : Nat → Int32) : Prop :=
  p.tables.exec = Jvm.exec ∧ c.code = code ∧ meth.sig.returnType = ret ∧ c.maxLocals = 8 ∧ s.vm.findClass R_law = some m.cls ∧ (∀ w ∈ lw_tbl, w.before #[Value.ref b] s = true) ∧ va_X b L xs s s.heap ∧ b < s.heap.size ∧ meth.locks = false ∧ (Jvm.Cond.and given_1 narrow_1).before #[Value.ref b] s = true
/-! the statics, out of the start -/
set_option maxRecDepth 100000
def sm_cF (j : Nat) : Cond := Cond.eq (.elem (.static "SM4Engine" "FK" "[I") (.int (Int32.ofNat j))) (.int (sm_fk j))
theorem sm_lF : ((flatC (Jvm.Cond.and given_1 narrow_1)).drop 9).take 4 = (List.range 4).map sm_cF := by decide +kernel
theorem sm_mF {j : Nat} (h : j < 4) : sm_cF j ∈ flatC (Jvm.Cond.and given_1 narrow_1) := by
  have h1 : sm_cF j ∈ (List.range 4).map sm_cF := List.mem_map.mpr ⟨j, List.mem_range.mpr h, rfl⟩
  rw [← sm_lF] at h1
  exact List.mem_of_mem_drop (List.mem_of_mem_take h1)
theorem sm_tF {args : Array Value} {s : State} {A : Nat → Prop} (hg : (Jvm.Cond.and given_1 narrow_1).before args s = true) (hl : (Cond.laysStatic RX2 "FK" "[I").before args s = true) (hi : (Cond.initialized RX2).before args s = true) (hA : ∀ a : Nat, a < s.heap.size → ¬ A a) : ∃ t : Nat, va_Z RX2 "FK" "[I" (.ref t) A s s.heap ∧ va_T .int t 4 (fun j => .int (sm_fk j)) A s s.heap := by
  have hs := flat_of_before _ hg
  obtain ⟨t, h1, h2⟩ := va_Tof (tm := .static RX2 "FK" "[I") (N := 4) (f := fun j => .int (sm_fk j)) (A := A) (by decide) (hs (Cond.arrayOf (.static "SM4Engine" "FK" "[I") .int) (by decide +kernel)) (va_eqt (hs (Cond.eq (.length (.static "SM4Engine" "FK" "[I")) (.int 4)) (by decide +kernel))) (fun j hj => va_eqt (hs _ (sm_mF hj))) hA
  exact ⟨t, va_Zref hl hi h1 hA, h2⟩
def sm_cC (j : Nat) : Cond := Cond.eq (.elem (.static "SM4Engine" "CK" "[I") (.int (Int32.ofNat j))) (.int (sm_ck j))
theorem sm_lC : ((flatC (Jvm.Cond.and given_1 narrow_1)).drop 16).take 32 = (List.range 32).map sm_cC := by decide +kernel
theorem sm_mC {j : Nat} (h : j < 32) : sm_cC j ∈ flatC (Jvm.Cond.and given_1 narrow_1) := by
  have h1 : sm_cC j ∈ (List.range 32).map sm_cC := List.mem_map.mpr ⟨j, List.mem_range.mpr h, rfl⟩
  rw [← sm_lC] at h1
  exact List.mem_of_mem_drop (List.mem_of_mem_take h1)
theorem sm_tC {args : Array Value} {s : State} {A : Nat → Prop} (hg : (Jvm.Cond.and given_1 narrow_1).before args s = true) (hl : (Cond.laysStatic RX2 "CK" "[I").before args s = true) (hi : (Cond.initialized RX2).before args s = true) (hA : ∀ a : Nat, a < s.heap.size → ¬ A a) : ∃ t : Nat, va_Z RX2 "CK" "[I" (.ref t) A s s.heap ∧ va_T .int t 32 (fun j => .int (sm_ck j)) A s s.heap := by
  have hs := flat_of_before _ hg
  obtain ⟨t, h1, h2⟩ := va_Tof (tm := .static RX2 "CK" "[I") (N := 32) (f := fun j => .int (sm_ck j)) (A := A) (by decide) (hs (Cond.arrayOf (.static "SM4Engine" "CK" "[I") .int) (by decide +kernel)) (va_eqt (hs (Cond.eq (.length (.static "SM4Engine" "CK" "[I")) (.int 32)) (by decide +kernel))) (fun j hj => va_eqt (hs _ (sm_mC hj))) hA
  exact ⟨t, va_Zref hl hi h1 hA, h2⟩
def sm_cS (j : Nat) : Cond := Cond.eq (.elem (.static "SM4Engine" "Sbox" "[B") (.int (Int32.ofNat j))) (.int (sm_sb j))
theorem sm_lS : ((flatC (Jvm.Cond.and given_1 narrow_1)).drop 51).take 256 = (List.range 256).map sm_cS := by decide +kernel
theorem sm_mS {j : Nat} (h : j < 256) : sm_cS j ∈ flatC (Jvm.Cond.and given_1 narrow_1) := by
  have h1 : sm_cS j ∈ (List.range 256).map sm_cS := List.mem_map.mpr ⟨j, List.mem_range.mpr h, rfl⟩
  rw [← sm_lS] at h1
  exact List.mem_of_mem_drop (List.mem_of_mem_take h1)
theorem sm_tS {args : Array Value} {s : State} {A : Nat → Prop} (hg : (Jvm.Cond.and given_1 narrow_1).before args s = true) (hl : (Cond.laysStatic RX2 "Sbox" "[B").before args s = true) (hi : (Cond.initialized RX2).before args s = true) (hA : ∀ a : Nat, a < s.heap.size → ¬ A a) : ∃ t : Nat, va_Z RX2 "Sbox" "[B" (.ref t) A s s.heap ∧ va_T .byte t 256 (fun j => .int (sm_sb j)) A s s.heap := by
  have hs := flat_of_before _ hg
  obtain ⟨t, h1, h2⟩ := va_Tof (tm := .static RX2 "Sbox" "[B") (N := 256) (f := fun j => .int (sm_sb j)) (A := A) (by decide) (hs (Cond.arrayOf (.static "SM4Engine" "Sbox" "[B") .byte) (by decide +kernel)) (va_eqt (hs (Cond.eq (.length (.static "SM4Engine" "Sbox" "[B")) (.int 256)) (by decide +kernel))) (fun j hj => va_eqt (hs _ (sm_mS hj))) hA
  exact ⟨t, va_Zref hl hi h1 hA, h2⟩
theorem sm_stat {args : Array Value} {s : State} {A : Nat → Prop} (hg : (Jvm.Cond.and given_1 narrow_1).before args s = true) (ht : ∀ w ∈ lw_tbl, w.before args s = true) (hA : ∀ a : Nat, a < s.heap.size → ¬ A a) : ∃ tS tC tF : Nat, sm_ST tS tC tF A s s.heap := by
  obtain ⟨tS, a1, a2⟩ := sm_tS hg (ht _ q178) (ht _ (lw_all_tbl q15)) hA
  obtain ⟨tC, b1, b2⟩ := sm_tC hg (ht _ q168) (ht _ (lw_all_tbl q15)) hA
  obtain ⟨tF, c1, c2⟩ := sm_tF hg (ht _ q166) (ht _ (lw_all_tbl q15)) hA
  exact ⟨tS, tC, tF, ⟨a1, a2⟩, ⟨b1, b2⟩, ⟨c1, c2⟩⟩
/-- an array class of the tables, as the worlds ask it -/
theorem sm_arr {args : Array Value} {s : State} {ty : FieldType} (h : (Cond.arrayClass ty).before args s = true) (hp : refKind ty = false) : ∃ cA : ClassId, ArrOfT s cA ty ∧ va_RA s cA ty := by
  obtain ⟨cA, kA, comp, h1, h2, h3⟩ := Cond.arrayClass_spec h
  refine ⟨cA, fun n z => ⟨fun k h => (by cases h), kA, h2, comp, h3⟩, ?_⟩
  cases ty with
  | object C => exact absurd hp (by simp [refKind])
  | _ => exact h1
/-- what the worlds need, at the start -/
theorem sm_start {args : Array Value} {s : State} (ht : ∀ w ∈ lw_tbl, w.before args s = true) : ∃ (D : va_G) (cB cI : ClassId), va_K D sm_cl (sm_ty cB cI) s := by
  obtain ⟨c0, iS0, hKn0⟩ := u_known (C := RX1) (T := TX1) (N := 3) (n := 3) ht (fun w h => lw_all_tbl (in_X1 w h)) (ht _ (lw_all_tbl q34))
  obtain ⟨c1, iS1, hKn1⟩ := u_known (C := RX2) (T := TX2) (N := 2) (n := 2) ht (fun w h => lw_all_tbl (in_X2 w h)) (ht _ (lw_all_tbl q40))
  obtain ⟨c2, iS2, hKn2⟩ := u_known (C := RX3) (T := TX3) (N := 1) (n := 1) ht (fun w h => lw_all_tbl (in_X3 w h)) (ht _ (lw_all_tbl q57))
  obtain ⟨cB, hB1, hB2⟩ := sm_arr (ht _ (lw_all_tbl q54)) rfl
  obtain ⟨cI, hI1, hI2⟩ := sm_arr (ht _ (lw_all_tbl q55)) rfl
  refine ⟨(fun k => if k = 0 then c0 else if k = 1 then c1 else c2, fun k => if k = 0 then iS0 else if k = 1 then iS1 else iS2), cB, cI, ?_, ?_⟩
  · intro k q hq
    match k, hq with
    | 0, hq => cases hq; exact hKn0
    | 1, hq => cases hq; exact hKn1
    | 2, hq => cases hq; exact hKn2
    | k + 3, hq => simp [sm_cl] at hq
  · intro k q hq
    match k, hq with
    | 0, hq => cases hq; exact ⟨hB1, hB2⟩
    | 1, hq => cases hq; exact ⟨hI1, hI2⟩
    | k + 2, hq => simp [sm_ty] at hq
theorem sm_ex {args : Array Value} {s : State} (ht : ∀ w ∈ lw_tbl, w.before args s = true) : sm_EX s := ⟨va_Fw.of (ht _ q78) (ht _ q77) (ht _ q83) (ht _ q81) (ht _ q79), va_Fw.of (ht _ q191) (ht _ q190) (ht _ q195) (ht _ q193) (ht _ q79)⟩
set_option maxHeartbeats 4000000 in
set_option maxRecDepth 100000 in
/-- THE LAW, from its entry -/
theorem whole_start {p : Program} {e : Env} {s : State} {m : MethodId} {below : List Frame} {meth : Method} {c : Code} (l : Launch) (hflags : l.flags = flags0) {b L : Nat} {xs : Nat → Int32} (hL : L ≤ 12) (C0 : lw_At p s m meth c b L xs) : W p l e room_1 s m #[Value.ref b] below meth c s.heap [] 0 0 (lw_Z below #[Value.ref b] s) (entryFrame m ([Value.ref b] : List Value).toArray 8) := by
  obtain ⟨hx, hb, hr, hml, hown, hts0, hX, hbl, hlocks, hgv⟩ := id C0
  have hts : ∀ w ∈ lw_all, w.before #[Value.ref b] s = true := fun w h => hts0 w (lw_all_tbl h)
  have hE : sm_EX s := sm_ex hts0
  obtain ⟨D, cB, cI, hK⟩ := sm_start hts0
  obtain ⟨A, hAe⟩ : ∃ A : Nat → Prop, A = fun q : Nat => s.heap.size ≤ q := ⟨_, rfl⟩
  have hA : ∀ q : Nat, s.heap.size ≤ q → A q := fun q h => by rw [hAe]; exact h
  have hAn : ∀ q : Nat, q < s.heap.size → ¬ A q := fun q h => by rw [hAe]; exact Nat.not_le.mpr h
  have hAf : ∀ q : Nat, A q → s.heap.size ≤ q := fun q h => by rw [hAe] at h; exact h
  have hbA : ¬ A b := hAn b hbl
  obtain ⟨tS, tC, tF, hZ⟩ := sm_stat (A := A) hgv hts0 hAn
  obtain ⟨H, eH⟩ : ∃ H : Heap, H = s.heap := ⟨_, rfl⟩
  have hS : va_S A s.heap H [] := by rw [eH]; exact va_S.rf
  have hP : va_P D sm_cl [] H := fun k q h => by simp at h
  have hD : va_D A [] := ⟨fun i j p q h => by simp at h, fun k q h => by simp at h⟩
  rw [← eH]
  have hl := lv_entry ([.ref b]) (n := 8) (Nat.le_of_ble_eq_true rfl)
  rw [lg_entry_eq]
  generalize (lg_sl ([.ref b]) ++ List.replicate (8 - (lg_sl ([.ref b])).length) Slot.unset).toArray = ls at hl ⊢
  have hl : lv_has ls 8 [(0, .ref b)] := hl
  refine sm_calli (ws := []) (wc := []) (wr := []) (va_runS (As := []) (rest := []) ⟨hx, hb, hml, hown, hts⟩ (metX0_known l D cB cI tS tC tF H.size) (va_cwS 0 hts (lw_S q324 q325 q13 q326) rfl rfl rfl (by decide +kernel) ⟨Nat.le_of_ble_eq_true rfl, Nat.le_of_ble_eq_true rfl⟩) ⟨sm_WO.blind, fun U hU hW => ⟨rfl, sm_WO.at hU hW hP hK hD hZ hS hA hE⟩⟩ rfl rfl hl.1 rfl (lv_room (Nat.le_of_ble_eq_true rfl)) dL_law_0 ⟨Nat.le_of_ble_eq_true rfl, Nat.le_of_ble_eq_true rfl⟩) hP hD hS hA [] [] rfl rfl (by decide) (by decide) (fun r u H locs er hP hD hS => ?_)
  subst er
  have hP : va_P D sm_cl [] H := hP
  have hD : va_D A [] := hD
  refine lv_if_ne (tgt := 8) hx hb dL_law_3 (by decide) (fun _ => ?_) (fun h => absurd h (by decide))
  refine W.widen (k := 13) (n := 162) (Nat.le_of_ble_eq_true rfl) (Nat.le_of_ble_eq_true rfl) ?_
  refine lv_iconst (v := 1) hx hb dL_law_8 (by decide) ?_
  refine sm_newa (atype := .int) hx hb (hts _ q55) rfl rfl rfl hK hP hD hS hA 1 (N := 1) rfl rfl (by decide) (by decide) (Nat.le_of_ble_eq_true rfl) (Nat.le_of_ble_eq_true rfl) dL_law_9 (fun a_1 H hP hD hS => ?_)
  have hP : va_P D sm_cl [(a_1, .inl (cI, 1, .inl (fun _ => 0)))] H := hP
  have hD : va_D A [(a_1, .inl (cI, 1, .inl (fun _ => 0)))] := hD
  refine lv_dup hx hb dL_law_11 rfl ?_
  refine lv_iconst (v := 0) hx hb dL_law_12 (by decide) ?_
  refine lv_iconst (v := 0) hx hb dL_law_13 (by decide) ?_
  refine sm_sti hx hb hK hP hD hS 0 1 rfl rfl (0) rfl (by decide) (by decide) dL_law_14 (fun g_2 H locs eg_2 hP hD hS => ?_)
  have hP : va_P D sm_cl [(a_1, .inl (cI, 1, .inl g_2))] H := hP
  have hD : va_D A [(a_1, .inl (cI, 1, .inl g_2))] := hD
  have hg_2_0 : g_2 0 = (0 : Int32) := by rw [eg_2]; exact pk_us
  refine lv_astore_n (lv' := [(1, .ref a_1), (0, .ref b)]) hx hb dL_law_15 rfl hl (by decide) rfl (fun ls hl => ?_)
  refine lv_aload_n hx hb dL_law_16 rfl (lv_at hl 0 rfl) ?_
  refine lv_astore_n (lv' := [(2, .ref a_1), (1, .ref a_1), (0, .ref b)]) hx hb dL_law_17 rfl hl (by decide) rfl (fun ls hl => ?_)
  refine lv_aload_n hx hb dL_law_18 rfl (lv_at hl 0 rfl) ?_
  refine va_alen (v := nI 1) hx hb hK hP 0 1 rfl rfl rfl dL_law_19 ?_
  refine lv_istore_n (lv' := [(3, .int (nI 1)), (2, .ref a_1), (1, .ref a_1), (0, .ref b)]) hx hb dL_law_20 rfl hl (by decide) rfl (fun ls hl => ?_)
  refine lv_iconst (v := 0) hx hb dL_law_21 (by decide) ?_
  refine lv_istore (lv' := [(4, .int (0 : Int32)), (3, .int (nI 1)), (2, .ref a_1), (1, .ref a_1), (0, .ref b)]) hx hb dL_law_22 hl (by decide) rfl (fun ls hl => ?_)
  refine lv_iload hx hb dL_law_24 (lv_at hl 0 rfl) ?_
  refine lv_iload_n hx hb dL_law_26 rfl (lv_at hl 1 rfl) ?_
  refine lv_icmp_ge (tgt := 112) hx hb dL_law_27 (by decide) (fun h => absurd h (by decide)) (fun _ => ?_)
  refine lv_aload_n hx hb dL_law_30 rfl (lv_at hl 2 rfl) ?_
  refine lv_iload hx hb dL_law_31 (lv_at hl 0 rfl) ?_
  refine sm_ldi hx hb hK hP 0 1 rfl rfl (0) rfl (by decide) (by decide) (v := 0) (hg_2_0) dL_law_33 ?_
  refine lv_istore (lv' := [(5, .int 0), (4, .int (0 : Int32)), (3, .int (nI 1)), (2, .ref a_1), (1, .ref a_1), (0, .ref b)]) hx hb dL_law_34 hl (by decide) rfl (fun ls hl => ?_)
  refine lv_aload_n hx hb dL_law_36 rfl (lv_at hl 5 rfl) ?_
  refine sm_callr (ws := [(a_1, .inl (cI, 1, .inl g_2))]) (wc := []) (wr := [(a_1, .inl (cI, 1, .inl g_2))]) (va_runS (As := [.ref b]) (rest := []) ⟨hx, hb, hml, hown, hts⟩ (metX0_with l D cB cI tS tC tF b L xs H.size hL) (va_cwS 1 hts (lw_S q285 q286 q13 q287) rfl rfl rfl (by decide +kernel) ⟨Nat.le_of_ble_eq_true rfl, Nat.le_of_ble_eq_true rfl⟩) ⟨sm_WOX.blind, fun U hU hW => ⟨rfl, sm_WO.at hU hW (hP.sub (ws' := []) [] rfl) hK (hD.sub (ws' := []) [] (by decide) rfl) hZ hS hA hE, by rw [hU]; exact (hX.kept (hS.2.1 b hbl hbA)).moved hW.alike⟩⟩ rfl rfl hl.1 rfl (lv_room (Nat.le_of_ble_eq_true rfl)) dL_law_37 ⟨Nat.le_of_ble_eq_true rfl, Nat.le_of_ble_eq_true rfl⟩) hP hD hS hA [] [0] rfl rfl (by decide) (by decide) (fun u_3 r_4 H locs eu_3 hP hD hS => ?_)
  have hP : va_P D sm_cl [(a_1, .inl (cI, 1, .inl g_2)), (r_4, .inr (0, [.ref u_3.1, .ref u_3.2.1, .ref u_3.2.2.1])), (u_3.1, .inl (cB, 32, .inl u_3.2.2.2.1)), (u_3.2.1, .inl (cB, 16, .inl u_3.2.2.2.2.1)), (u_3.2.2.1, .inl (cB, 16, .inl u_3.2.2.2.2.2))] H := hP
  have hD : va_D A [(a_1, .inl (cI, 1, .inl g_2)), (r_4, .inr (0, [.ref u_3.1, .ref u_3.2.1, .ref u_3.2.2.1])), (u_3.1, .inl (cB, 32, .inl u_3.2.2.2.1)), (u_3.2.1, .inl (cB, 16, .inl u_3.2.2.2.2.1)), (u_3.2.2.1, .inl (cB, 16, .inl u_3.2.2.2.2.2))] := hD
  refine lv_astore (lv' := [(6, .ref r_4), (5, .int 0), (4, .int (0 : Int32)), (3, .int (nI 1)), (2, .ref a_1), (1, .ref a_1), (0, .ref b)]) hx hb dL_law_40 hl (by decide) rfl (fun ls hl => ?_)
  refine lv_aload_n hx hb dL_law_42 rfl (lv_at hl 6 rfl) ?_
  refine sm_callr (ws := [(a_1, .inl (cI, 1, .inl g_2)), (r_4, .inr (0, [.ref u_3.1, .ref u_3.2.1, .ref u_3.2.2.1])), (u_3.1, .inl (cB, 32, .inl u_3.2.2.2.1)), (u_3.2.1, .inl (cB, 16, .inl u_3.2.2.2.2.1)), (u_3.2.2.1, .inl (cB, 16, .inl u_3.2.2.2.2.2))]) (wc := []) (wr := [(a_1, .inl (cI, 1, .inl g_2)), (r_4, .inr (0, [.ref u_3.1, .ref u_3.2.1, .ref u_3.2.2.1])), (u_3.1, .inl (cB, 32, .inl u_3.2.2.2.1)), (u_3.2.1, .inl (cB, 16, .inl u_3.2.2.2.2.1)), (u_3.2.2.1, .inl (cB, 16, .inl u_3.2.2.2.2.2))]) (va_runS (As := [.ref b]) (rest := []) ⟨hx, hb, hml, hown, hts⟩ (metX0_with l D cB cI tS tC tF b L xs H.size hL) (va_cwS 1 hts (lw_S q285 q286 q13 q287) rfl rfl rfl (by decide +kernel) ⟨Nat.le_of_ble_eq_true rfl, Nat.le_of_ble_eq_true rfl⟩) ⟨sm_WOX.blind, fun U hU hW => ⟨rfl, sm_WO.at hU hW (hP.sub (ws' := []) [] rfl) hK (hD.sub (ws' := []) [] (by decide) rfl) hZ hS hA hE, by rw [hU]; exact (hX.kept (hS.2.1 b hbl hbA)).moved hW.alike⟩⟩ rfl rfl hl.1 rfl (lv_room (Nat.le_of_ble_eq_true rfl)) dL_law_43 ⟨Nat.le_of_ble_eq_true rfl, Nat.le_of_ble_eq_true rfl⟩) hP hD hS hA [] [0, 1, 2, 3, 4] rfl rfl (by decide) (by decide) (fun u_5 r_6 H locs eu_5 hP hD hS => ?_)
  have hP : va_P D sm_cl [(a_1, .inl (cI, 1, .inl g_2)), (r_4, .inr (0, [.ref u_3.1, .ref u_3.2.1, .ref u_3.2.2.1])), (u_3.1, .inl (cB, 32, .inl u_3.2.2.2.1)), (u_3.2.1, .inl (cB, 16, .inl u_3.2.2.2.2.1)), (u_3.2.2.1, .inl (cB, 16, .inl u_3.2.2.2.2.2)), (r_6, .inr (0, [.ref u_5.1, .ref u_5.2.1, .ref u_5.2.2.1])), (u_5.1, .inl (cB, 32, .inl u_5.2.2.2.1)), (u_5.2.1, .inl (cB, 16, .inl u_5.2.2.2.2.1)), (u_5.2.2.1, .inl (cB, 16, .inl u_5.2.2.2.2.2))] H := hP
  have hD : va_D A [(a_1, .inl (cI, 1, .inl g_2)), (r_4, .inr (0, [.ref u_3.1, .ref u_3.2.1, .ref u_3.2.2.1])), (u_3.1, .inl (cB, 32, .inl u_3.2.2.2.1)), (u_3.2.1, .inl (cB, 16, .inl u_3.2.2.2.2.1)), (u_3.2.2.1, .inl (cB, 16, .inl u_3.2.2.2.2.2)), (r_6, .inr (0, [.ref u_5.1, .ref u_5.2.1, .ref u_5.2.2.1])), (u_5.1, .inl (cB, 32, .inl u_5.2.2.2.1)), (u_5.2.1, .inl (cB, 16, .inl u_5.2.2.2.2.1)), (u_5.2.2.1, .inl (cB, 16, .inl u_5.2.2.2.2.2))] := hD
  refine lv_astore (lv' := [(7, .ref r_6), (6, .ref r_4), (5, .int 0), (4, .int (0 : Int32)), (3, .int (nI 1)), (2, .ref a_1), (1, .ref a_1), (0, .ref b)]) hx hb dL_law_46 hl (by decide) rfl (fun ls hl => ?_)
  refine lv_aload hx hb dL_law_48 (lv_at hl 1 rfl) ?_
  refine lv_iload hx hb dL_law_50 (lv_at hl 2 rfl) ?_
  refine sm_callv (ws := [(a_1, .inl (cI, 1, .inl g_2)), (r_4, .inr (0, [.ref u_3.1, .ref u_3.2.1, .ref u_3.2.2.1])), (u_3.1, .inl (cB, 32, .inl u_3.2.2.2.1)), (u_3.2.1, .inl (cB, 16, .inl u_3.2.2.2.2.1)), (u_3.2.2.1, .inl (cB, 16, .inl u_3.2.2.2.2.2)), (r_6, .inr (0, [.ref u_5.1, .ref u_5.2.1, .ref u_5.2.2.1])), (u_5.1, .inl (cB, 32, .inl u_5.2.2.2.1)), (u_5.2.1, .inl (cB, 16, .inl u_5.2.2.2.2.1)), (u_5.2.2.1, .inl (cB, 16, .inl u_5.2.2.2.2.2))]) (wc := [(r_4, .inr (0, [.ref u_3.1, .ref u_3.2.1, .ref u_3.2.2.1])), (u_3.1, .inl (cB, 32, .inl u_3.2.2.2.1)), (u_3.2.1, .inl (cB, 16, .inl u_3.2.2.2.2.1)), (u_3.2.2.1, .inl (cB, 16, .inl u_3.2.2.2.2.2))]) (wr := [(a_1, .inl (cI, 1, .inl g_2)), (r_6, .inr (0, [.ref u_5.1, .ref u_5.2.1, .ref u_5.2.2.1])), (u_5.1, .inl (cB, 32, .inl u_5.2.2.2.1)), (u_5.2.1, .inl (cB, 16, .inl u_5.2.2.2.2.1)), (u_5.2.2.1, .inl (cB, 16, .inl u_5.2.2.2.2.2))]) (va_runV (As := [.int 0]) (rest := []) ⟨hx, hb, hml, hown, hts⟩ (metX1_lock l D cB cI tS tC tF r_4 u_3.1 u_3.2.1 u_3.2.2.1 u_3.2.2.2.1 u_3.2.2.2.2.1 u_3.2.2.2.2.2 0 (fun q => sm_cell L xs q) (fun q => sm_cell L xs (8 + q)) H.size eu_3.1 (eu_3.2)) (cwV 1 hts (lw_V q27 q28 q29 q14 q30) rfl rfl rfl (by decide +kernel) ⟨Nat.le_of_ble_eq_true rfl, Nat.le_of_ble_eq_true rfl⟩) ⟨sm_WO.blind, va_recv hK hP (ci := 0) (q0 := 1) rfl rfl, fun U hU hW => ⟨rfl, sm_WO.at hU hW (hP.sub (ws' := [(r_4, .inr (0, [.ref u_3.1, .ref u_3.2.1, .ref u_3.2.2.1])), (u_3.1, .inl (cB, 32, .inl u_3.2.2.2.1)), (u_3.2.1, .inl (cB, 16, .inl u_3.2.2.2.2.1)), (u_3.2.2.1, .inl (cB, 16, .inl u_3.2.2.2.2.2))]) [1, 2, 3, 4] rfl) hK (hD.sub (ws' := [(r_4, .inr (0, [.ref u_3.1, .ref u_3.2.1, .ref u_3.2.2.1])), (u_3.1, .inl (cB, 32, .inl u_3.2.2.2.1)), (u_3.2.1, .inl (cB, 16, .inl u_3.2.2.2.2.1)), (u_3.2.2.1, .inl (cB, 16, .inl u_3.2.2.2.2.2))]) [1, 2, 3, 4] (by decide) rfl) hZ hS hA hE⟩⟩ rfl rfl hl.1 rfl (lv_room (Nat.le_of_ble_eq_true rfl)) dL_law_52 ⟨Nat.le_of_ble_eq_true rfl, Nat.le_of_ble_eq_true rfl⟩) hP hD hS hA [1, 2, 3, 4] [0, 5, 6, 7, 8] rfl rfl (by decide) (by decide) (fun u_7 H locs eu_7 hP hD hS => ?_)
  have hP : va_P D sm_cl [(a_1, .inl (cI, 1, .inl g_2)), (r_6, .inr (0, [.ref u_5.1, .ref u_5.2.1, .ref u_5.2.2.1])), (u_5.1, .inl (cB, 32, .inl u_5.2.2.2.1)), (u_5.2.1, .inl (cB, 16, .inl u_5.2.2.2.2.1)), (u_5.2.2.1, .inl (cB, 16, .inl u_5.2.2.2.2.2)), (r_4, .inr (0, [.ref u_3.1, .ref u_3.2.1, .ref u_3.2.2.1])), (u_3.1, .inl (cB, 32, .inl u_3.2.2.2.1)), (u_3.2.1, .inl (cB, 16, .inl u_3.2.2.2.2.1)), (u_3.2.2.1, .inl (cB, 16, .inl u_7))] H := hP
  have hD : va_D A [(a_1, .inl (cI, 1, .inl g_2)), (r_6, .inr (0, [.ref u_5.1, .ref u_5.2.1, .ref u_5.2.2.1])), (u_5.1, .inl (cB, 32, .inl u_5.2.2.2.1)), (u_5.2.1, .inl (cB, 16, .inl u_5.2.2.2.2.1)), (u_5.2.2.1, .inl (cB, 16, .inl u_5.2.2.2.2.2)), (r_4, .inr (0, [.ref u_3.1, .ref u_3.2.1, .ref u_3.2.2.1])), (u_3.1, .inl (cB, 32, .inl u_3.2.2.2.1)), (u_3.2.1, .inl (cB, 16, .inl u_3.2.2.2.2.1)), (u_3.2.2.1, .inl (cB, 16, .inl u_7))] := hD
  refine lv_aload hx hb dL_law_55 (lv_at hl 0 rfl) ?_
  refine lv_iload hx hb dL_law_57 (lv_at hl 2 rfl) ?_
  refine sm_callv (ws := [(a_1, .inl (cI, 1, .inl g_2)), (r_6, .inr (0, [.ref u_5.1, .ref u_5.2.1, .ref u_5.2.2.1])), (u_5.1, .inl (cB, 32, .inl u_5.2.2.2.1)), (u_5.2.1, .inl (cB, 16, .inl u_5.2.2.2.2.1)), (u_5.2.2.1, .inl (cB, 16, .inl u_5.2.2.2.2.2)), (r_4, .inr (0, [.ref u_3.1, .ref u_3.2.1, .ref u_3.2.2.1])), (u_3.1, .inl (cB, 32, .inl u_3.2.2.2.1)), (u_3.2.1, .inl (cB, 16, .inl u_3.2.2.2.2.1)), (u_3.2.2.1, .inl (cB, 16, .inl u_7))]) (wc := [(r_6, .inr (0, [.ref u_5.1, .ref u_5.2.1, .ref u_5.2.2.1])), (u_5.1, .inl (cB, 32, .inl u_5.2.2.2.1)), (u_5.2.1, .inl (cB, 16, .inl u_5.2.2.2.2.1)), (u_5.2.2.1, .inl (cB, 16, .inl u_5.2.2.2.2.2))]) (wr := [(a_1, .inl (cI, 1, .inl g_2)), (r_4, .inr (0, [.ref u_3.1, .ref u_3.2.1, .ref u_3.2.2.1])), (u_3.1, .inl (cB, 32, .inl u_3.2.2.2.1)), (u_3.2.1, .inl (cB, 16, .inl u_3.2.2.2.2.1)), (u_3.2.2.1, .inl (cB, 16, .inl u_7))]) (va_runV (As := [.int 0]) (rest := []) ⟨hx, hb, hml, hown, hts⟩ (metX1_open l D cB cI tS tC tF r_6 u_5.1 u_5.2.1 u_5.2.2.1 u_5.2.2.2.1 u_5.2.2.2.2.1 u_5.2.2.2.2.2 0 (fun q => sm_cell L xs q) (fun q => sm_cell L xs (8 + q)) H.size eu_5.1 (eu_5.2)) (cwV 1 hts (lw_V q277 q278 q279 q14 q280) rfl rfl rfl (by decide +kernel) ⟨Nat.le_of_ble_eq_true rfl, Nat.le_of_ble_eq_true rfl⟩) ⟨sm_WO.blind, va_recv hK hP (ci := 0) (q0 := 1) rfl rfl, fun U hU hW => ⟨rfl, sm_WO.at hU hW (hP.sub (ws' := [(r_6, .inr (0, [.ref u_5.1, .ref u_5.2.1, .ref u_5.2.2.1])), (u_5.1, .inl (cB, 32, .inl u_5.2.2.2.1)), (u_5.2.1, .inl (cB, 16, .inl u_5.2.2.2.2.1)), (u_5.2.2.1, .inl (cB, 16, .inl u_5.2.2.2.2.2))]) [1, 2, 3, 4] rfl) hK (hD.sub (ws' := [(r_6, .inr (0, [.ref u_5.1, .ref u_5.2.1, .ref u_5.2.2.1])), (u_5.1, .inl (cB, 32, .inl u_5.2.2.2.1)), (u_5.2.1, .inl (cB, 16, .inl u_5.2.2.2.2.1)), (u_5.2.2.1, .inl (cB, 16, .inl u_5.2.2.2.2.2))]) [1, 2, 3, 4] (by decide) rfl) hZ hS hA hE⟩⟩ rfl rfl hl.1 rfl (lv_room (Nat.le_of_ble_eq_true rfl)) dL_law_59 ⟨Nat.le_of_ble_eq_true rfl, Nat.le_of_ble_eq_true rfl⟩) hP hD hS hA [1, 2, 3, 4] [0, 5, 6, 7, 8] rfl rfl (by decide) (by decide) (fun u_8 H locs eu_8 hP hD hS => ?_)
  have hP : va_P D sm_cl [(a_1, .inl (cI, 1, .inl g_2)), (r_4, .inr (0, [.ref u_3.1, .ref u_3.2.1, .ref u_3.2.2.1])), (u_3.1, .inl (cB, 32, .inl u_3.2.2.2.1)), (u_3.2.1, .inl (cB, 16, .inl u_3.2.2.2.2.1)), (u_3.2.2.1, .inl (cB, 16, .inl u_7)), (r_6, .inr (0, [.ref u_5.1, .ref u_5.2.1, .ref u_5.2.2.1])), (u_5.1, .inl (cB, 32, .inl u_5.2.2.2.1)), (u_5.2.1, .inl (cB, 16, .inl u_5.2.2.2.2.1)), (u_5.2.2.1, .inl (cB, 16, .inl u_8))] H := hP
  have hD : va_D A [(a_1, .inl (cI, 1, .inl g_2)), (r_4, .inr (0, [.ref u_3.1, .ref u_3.2.1, .ref u_3.2.2.1])), (u_3.1, .inl (cB, 32, .inl u_3.2.2.2.1)), (u_3.2.1, .inl (cB, 16, .inl u_3.2.2.2.2.1)), (u_3.2.2.1, .inl (cB, 16, .inl u_7)), (r_6, .inr (0, [.ref u_5.1, .ref u_5.2.1, .ref u_5.2.2.1])), (u_5.1, .inl (cB, 32, .inl u_5.2.2.2.1)), (u_5.2.1, .inl (cB, 16, .inl u_5.2.2.2.2.1)), (u_5.2.2.1, .inl (cB, 16, .inl u_8))] := hD
  refine lv_aload hx hb dL_law_62 (lv_at hl 1 rfl) ?_
  refine sm_callv (ws := [(a_1, .inl (cI, 1, .inl g_2)), (r_4, .inr (0, [.ref u_3.1, .ref u_3.2.1, .ref u_3.2.2.1])), (u_3.1, .inl (cB, 32, .inl u_3.2.2.2.1)), (u_3.2.1, .inl (cB, 16, .inl u_3.2.2.2.2.1)), (u_3.2.2.1, .inl (cB, 16, .inl u_7)), (r_6, .inr (0, [.ref u_5.1, .ref u_5.2.1, .ref u_5.2.2.1])), (u_5.1, .inl (cB, 32, .inl u_5.2.2.2.1)), (u_5.2.1, .inl (cB, 16, .inl u_5.2.2.2.2.1)), (u_5.2.2.1, .inl (cB, 16, .inl u_8))]) (wc := [(r_4, .inr (0, [.ref u_3.1, .ref u_3.2.1, .ref u_3.2.2.1])), (u_3.2.1, .inl (cB, 16, .inl u_3.2.2.2.2.1)), (u_3.2.2.1, .inl (cB, 16, .inl u_7))]) (wr := [(a_1, .inl (cI, 1, .inl g_2)), (u_3.1, .inl (cB, 32, .inl u_3.2.2.2.1)), (r_6, .inr (0, [.ref u_5.1, .ref u_5.2.1, .ref u_5.2.2.1])), (u_5.1, .inl (cB, 32, .inl u_5.2.2.2.1)), (u_5.2.1, .inl (cB, 16, .inl u_5.2.2.2.2.1)), (u_5.2.2.1, .inl (cB, 16, .inl u_8))]) (va_runV (As := []) (rest := []) ⟨hx, hb, hml, hown, hts⟩ (metX1_again l D cB cI tS tC tF r_4 u_3.1 u_3.2.1 u_3.2.2.1 u_3.2.2.2.2.1 u_7 (sm_o 1 (fun q => sm_cell L xs q) (fun q => sm_cell L xs (8 + q))) H.size eu_7) (cwV 0 hts (lw_V q281 q282 q283 q14 q284) rfl rfl rfl (by decide +kernel) ⟨Nat.le_of_ble_eq_true rfl, Nat.le_of_ble_eq_true rfl⟩) ⟨sm_WO.blind, va_recv hK hP (ci := 0) (q0 := 1) rfl rfl, fun U hU hW => ⟨rfl, sm_WO.at hU hW (hP.sub (ws' := [(r_4, .inr (0, [.ref u_3.1, .ref u_3.2.1, .ref u_3.2.2.1])), (u_3.2.1, .inl (cB, 16, .inl u_3.2.2.2.2.1)), (u_3.2.2.1, .inl (cB, 16, .inl u_7))]) [1, 3, 4] rfl) hK (hD.sub (ws' := [(r_4, .inr (0, [.ref u_3.1, .ref u_3.2.1, .ref u_3.2.2.1])), (u_3.2.1, .inl (cB, 16, .inl u_3.2.2.2.2.1)), (u_3.2.2.1, .inl (cB, 16, .inl u_7))]) [1, 3, 4] (by decide) rfl) hZ hS hA hE⟩⟩ rfl rfl hl.1 rfl (lv_room (Nat.le_of_ble_eq_true rfl)) dL_law_64 ⟨Nat.le_of_ble_eq_true rfl, Nat.le_of_ble_eq_true rfl⟩) hP hD hS hA [1, 3, 4] [0, 2, 5, 6, 7, 8] rfl rfl (by decide) (by decide) (fun u_9 H locs eu_9 hP hD hS => ?_)
  have hP : va_P D sm_cl [(a_1, .inl (cI, 1, .inl g_2)), (u_3.1, .inl (cB, 32, .inl u_3.2.2.2.1)), (r_6, .inr (0, [.ref u_5.1, .ref u_5.2.1, .ref u_5.2.2.1])), (u_5.1, .inl (cB, 32, .inl u_5.2.2.2.1)), (u_5.2.1, .inl (cB, 16, .inl u_5.2.2.2.2.1)), (u_5.2.2.1, .inl (cB, 16, .inl u_8)), (r_4, .inr (0, [.ref u_3.1, .ref u_3.2.1, .ref u_3.2.2.1])), (u_3.2.1, .inl (cB, 16, .inl u_9)), (u_3.2.2.1, .inl (cB, 16, .inl u_7))] H := hP
  have hD : va_D A [(a_1, .inl (cI, 1, .inl g_2)), (u_3.1, .inl (cB, 32, .inl u_3.2.2.2.1)), (r_6, .inr (0, [.ref u_5.1, .ref u_5.2.1, .ref u_5.2.2.1])), (u_5.1, .inl (cB, 32, .inl u_5.2.2.2.1)), (u_5.2.1, .inl (cB, 16, .inl u_5.2.2.2.2.1)), (u_5.2.2.1, .inl (cB, 16, .inl u_8)), (r_4, .inr (0, [.ref u_3.1, .ref u_3.2.1, .ref u_3.2.2.1])), (u_3.2.1, .inl (cB, 16, .inl u_9)), (u_3.2.2.1, .inl (cB, 16, .inl u_7))] := hD
  refine lv_aload hx hb dL_law_67 (lv_at hl 1 rfl) ?_
  refine lv_iload hx hb dL_law_69 (lv_at hl 2 rfl) ?_
  refine sm_callv (ws := [(a_1, .inl (cI, 1, .inl g_2)), (u_3.1, .inl (cB, 32, .inl u_3.2.2.2.1)), (r_6, .inr (0, [.ref u_5.1, .ref u_5.2.1, .ref u_5.2.2.1])), (u_5.1, .inl (cB, 32, .inl u_5.2.2.2.1)), (u_5.2.1, .inl (cB, 16, .inl u_5.2.2.2.2.1)), (u_5.2.2.1, .inl (cB, 16, .inl u_8)), (r_4, .inr (0, [.ref u_3.1, .ref u_3.2.1, .ref u_3.2.2.1])), (u_3.2.1, .inl (cB, 16, .inl u_9)), (u_3.2.2.1, .inl (cB, 16, .inl u_7))]) (wc := [(r_4, .inr (0, [.ref u_3.1, .ref u_3.2.1, .ref u_3.2.2.1])), (u_3.1, .inl (cB, 32, .inl u_3.2.2.2.1)), (u_3.2.1, .inl (cB, 16, .inl u_9)), (u_3.2.2.1, .inl (cB, 16, .inl u_7))]) (wr := [(a_1, .inl (cI, 1, .inl g_2)), (r_6, .inr (0, [.ref u_5.1, .ref u_5.2.1, .ref u_5.2.2.1])), (u_5.1, .inl (cB, 32, .inl u_5.2.2.2.1)), (u_5.2.1, .inl (cB, 16, .inl u_5.2.2.2.2.1)), (u_5.2.2.1, .inl (cB, 16, .inl u_8))]) (va_runV (As := [.int 0]) (rest := []) ⟨hx, hb, hml, hown, hts⟩ (metX1_open l D cB cI tS tC tF r_4 u_3.1 u_3.2.1 u_3.2.2.1 u_3.2.2.2.1 u_9 u_7 0 (fun q => sm_cell L xs q) (sm_o 1 (fun q => sm_cell L xs q) (fun q => sm_cell L xs (8 + q))) H.size eu_3.1 (eu_9)) (cwV 1 hts (lw_V q277 q278 q279 q14 q280) rfl rfl rfl (by decide +kernel) ⟨Nat.le_of_ble_eq_true rfl, Nat.le_of_ble_eq_true rfl⟩) ⟨sm_WO.blind, va_recv hK hP (ci := 0) (q0 := 6) rfl rfl, fun U hU hW => ⟨rfl, sm_WO.at hU hW (hP.sub (ws' := [(r_4, .inr (0, [.ref u_3.1, .ref u_3.2.1, .ref u_3.2.2.1])), (u_3.1, .inl (cB, 32, .inl u_3.2.2.2.1)), (u_3.2.1, .inl (cB, 16, .inl u_9)), (u_3.2.2.1, .inl (cB, 16, .inl u_7))]) [6, 1, 7, 8] rfl) hK (hD.sub (ws' := [(r_4, .inr (0, [.ref u_3.1, .ref u_3.2.1, .ref u_3.2.2.1])), (u_3.1, .inl (cB, 32, .inl u_3.2.2.2.1)), (u_3.2.1, .inl (cB, 16, .inl u_9)), (u_3.2.2.1, .inl (cB, 16, .inl u_7))]) [6, 1, 7, 8] (by decide) rfl) hZ hS hA hE⟩⟩ rfl rfl hl.1 rfl (lv_room (Nat.le_of_ble_eq_true rfl)) dL_law_71 ⟨Nat.le_of_ble_eq_true rfl, Nat.le_of_ble_eq_true rfl⟩) hP hD hS hA [6, 1, 7, 8] [0, 2, 3, 4, 5] rfl rfl (by decide) (by decide) (fun u_10 H locs eu_10 hP hD hS => ?_)
  have hP : va_P D sm_cl [(a_1, .inl (cI, 1, .inl g_2)), (r_6, .inr (0, [.ref u_5.1, .ref u_5.2.1, .ref u_5.2.2.1])), (u_5.1, .inl (cB, 32, .inl u_5.2.2.2.1)), (u_5.2.1, .inl (cB, 16, .inl u_5.2.2.2.2.1)), (u_5.2.2.1, .inl (cB, 16, .inl u_8)), (r_4, .inr (0, [.ref u_3.1, .ref u_3.2.1, .ref u_3.2.2.1])), (u_3.1, .inl (cB, 32, .inl u_3.2.2.2.1)), (u_3.2.1, .inl (cB, 16, .inl u_9)), (u_3.2.2.1, .inl (cB, 16, .inl u_10))] H := hP
  have hD : va_D A [(a_1, .inl (cI, 1, .inl g_2)), (r_6, .inr (0, [.ref u_5.1, .ref u_5.2.1, .ref u_5.2.2.1])), (u_5.1, .inl (cB, 32, .inl u_5.2.2.2.1)), (u_5.2.1, .inl (cB, 16, .inl u_5.2.2.2.2.1)), (u_5.2.2.1, .inl (cB, 16, .inl u_8)), (r_4, .inr (0, [.ref u_3.1, .ref u_3.2.1, .ref u_3.2.2.1])), (u_3.1, .inl (cB, 32, .inl u_3.2.2.2.1)), (u_3.2.1, .inl (cB, 16, .inl u_9)), (u_3.2.2.1, .inl (cB, 16, .inl u_10))] := hD
  refine lv_aload hx hb dL_law_74 (lv_at hl 0 rfl) ?_
  refine sm_callv (ws := [(a_1, .inl (cI, 1, .inl g_2)), (r_6, .inr (0, [.ref u_5.1, .ref u_5.2.1, .ref u_5.2.2.1])), (u_5.1, .inl (cB, 32, .inl u_5.2.2.2.1)), (u_5.2.1, .inl (cB, 16, .inl u_5.2.2.2.2.1)), (u_5.2.2.1, .inl (cB, 16, .inl u_8)), (r_4, .inr (0, [.ref u_3.1, .ref u_3.2.1, .ref u_3.2.2.1])), (u_3.1, .inl (cB, 32, .inl u_3.2.2.2.1)), (u_3.2.1, .inl (cB, 16, .inl u_9)), (u_3.2.2.1, .inl (cB, 16, .inl u_10))]) (wc := [(r_6, .inr (0, [.ref u_5.1, .ref u_5.2.1, .ref u_5.2.2.1])), (u_5.2.1, .inl (cB, 16, .inl u_5.2.2.2.2.1)), (u_5.2.2.1, .inl (cB, 16, .inl u_8))]) (wr := [(a_1, .inl (cI, 1, .inl g_2)), (u_5.1, .inl (cB, 32, .inl u_5.2.2.2.1)), (r_4, .inr (0, [.ref u_3.1, .ref u_3.2.1, .ref u_3.2.2.1])), (u_3.1, .inl (cB, 32, .inl u_3.2.2.2.1)), (u_3.2.1, .inl (cB, 16, .inl u_9)), (u_3.2.2.1, .inl (cB, 16, .inl u_10))]) (va_runV (As := []) (rest := []) ⟨hx, hb, hml, hown, hts⟩ (metX1_again l D cB cI tS tC tF r_6 u_5.1 u_5.2.1 u_5.2.2.1 u_5.2.2.2.2.1 u_8 (sm_o 0 (fun q => sm_cell L xs q) (fun q => sm_cell L xs (8 + q))) H.size eu_8) (cwV 0 hts (lw_V q281 q282 q283 q14 q284) rfl rfl rfl (by decide +kernel) ⟨Nat.le_of_ble_eq_true rfl, Nat.le_of_ble_eq_true rfl⟩) ⟨sm_WO.blind, va_recv hK hP (ci := 0) (q0 := 1) rfl rfl, fun U hU hW => ⟨rfl, sm_WO.at hU hW (hP.sub (ws' := [(r_6, .inr (0, [.ref u_5.1, .ref u_5.2.1, .ref u_5.2.2.1])), (u_5.2.1, .inl (cB, 16, .inl u_5.2.2.2.2.1)), (u_5.2.2.1, .inl (cB, 16, .inl u_8))]) [1, 3, 4] rfl) hK (hD.sub (ws' := [(r_6, .inr (0, [.ref u_5.1, .ref u_5.2.1, .ref u_5.2.2.1])), (u_5.2.1, .inl (cB, 16, .inl u_5.2.2.2.2.1)), (u_5.2.2.1, .inl (cB, 16, .inl u_8))]) [1, 3, 4] (by decide) rfl) hZ hS hA hE⟩⟩ rfl rfl hl.1 rfl (lv_room (Nat.le_of_ble_eq_true rfl)) dL_law_76 ⟨Nat.le_of_ble_eq_true rfl, Nat.le_of_ble_eq_true rfl⟩) hP hD hS hA [1, 3, 4] [0, 2, 5, 6, 7, 8] rfl rfl (by decide) (by decide) (fun u_11 H locs eu_11 hP hD hS => ?_)
  have hP : va_P D sm_cl [(a_1, .inl (cI, 1, .inl g_2)), (u_5.1, .inl (cB, 32, .inl u_5.2.2.2.1)), (r_4, .inr (0, [.ref u_3.1, .ref u_3.2.1, .ref u_3.2.2.1])), (u_3.1, .inl (cB, 32, .inl u_3.2.2.2.1)), (u_3.2.1, .inl (cB, 16, .inl u_9)), (u_3.2.2.1, .inl (cB, 16, .inl u_10)), (r_6, .inr (0, [.ref u_5.1, .ref u_5.2.1, .ref u_5.2.2.1])), (u_5.2.1, .inl (cB, 16, .inl u_11)), (u_5.2.2.1, .inl (cB, 16, .inl u_8))] H := hP
  have hD : va_D A [(a_1, .inl (cI, 1, .inl g_2)), (u_5.1, .inl (cB, 32, .inl u_5.2.2.2.1)), (r_4, .inr (0, [.ref u_3.1, .ref u_3.2.1, .ref u_3.2.2.1])), (u_3.1, .inl (cB, 32, .inl u_3.2.2.2.1)), (u_3.2.1, .inl (cB, 16, .inl u_9)), (u_3.2.2.1, .inl (cB, 16, .inl u_10)), (r_6, .inr (0, [.ref u_5.1, .ref u_5.2.1, .ref u_5.2.2.1])), (u_5.2.1, .inl (cB, 16, .inl u_11)), (u_5.2.2.1, .inl (cB, 16, .inl u_8))] := hD
  refine lv_aload hx hb dL_law_79 (lv_at hl 0 rfl) ?_
  refine lv_iload hx hb dL_law_81 (lv_at hl 2 rfl) ?_
  refine sm_callv (ws := [(a_1, .inl (cI, 1, .inl g_2)), (u_5.1, .inl (cB, 32, .inl u_5.2.2.2.1)), (r_4, .inr (0, [.ref u_3.1, .ref u_3.2.1, .ref u_3.2.2.1])), (u_3.1, .inl (cB, 32, .inl u_3.2.2.2.1)), (u_3.2.1, .inl (cB, 16, .inl u_9)), (u_3.2.2.1, .inl (cB, 16, .inl u_10)), (r_6, .inr (0, [.ref u_5.1, .ref u_5.2.1, .ref u_5.2.2.1])), (u_5.2.1, .inl (cB, 16, .inl u_11)), (u_5.2.2.1, .inl (cB, 16, .inl u_8))]) (wc := [(r_6, .inr (0, [.ref u_5.1, .ref u_5.2.1, .ref u_5.2.2.1])), (u_5.1, .inl (cB, 32, .inl u_5.2.2.2.1)), (u_5.2.1, .inl (cB, 16, .inl u_11)), (u_5.2.2.1, .inl (cB, 16, .inl u_8))]) (wr := [(a_1, .inl (cI, 1, .inl g_2)), (r_4, .inr (0, [.ref u_3.1, .ref u_3.2.1, .ref u_3.2.2.1])), (u_3.1, .inl (cB, 32, .inl u_3.2.2.2.1)), (u_3.2.1, .inl (cB, 16, .inl u_9)), (u_3.2.2.1, .inl (cB, 16, .inl u_10))]) (va_runV (As := [.int 0]) (rest := []) ⟨hx, hb, hml, hown, hts⟩ (metX1_lock l D cB cI tS tC tF r_6 u_5.1 u_5.2.1 u_5.2.2.1 u_5.2.2.2.1 u_11 u_8 0 (fun q => sm_cell L xs q) (sm_o 0 (fun q => sm_cell L xs q) (fun q => sm_cell L xs (8 + q))) H.size eu_5.1 (eu_11)) (cwV 1 hts (lw_V q27 q28 q29 q14 q30) rfl rfl rfl (by decide +kernel) ⟨Nat.le_of_ble_eq_true rfl, Nat.le_of_ble_eq_true rfl⟩) ⟨sm_WO.blind, va_recv hK hP (ci := 0) (q0 := 6) rfl rfl, fun U hU hW => ⟨rfl, sm_WO.at hU hW (hP.sub (ws' := [(r_6, .inr (0, [.ref u_5.1, .ref u_5.2.1, .ref u_5.2.2.1])), (u_5.1, .inl (cB, 32, .inl u_5.2.2.2.1)), (u_5.2.1, .inl (cB, 16, .inl u_11)), (u_5.2.2.1, .inl (cB, 16, .inl u_8))]) [6, 1, 7, 8] rfl) hK (hD.sub (ws' := [(r_6, .inr (0, [.ref u_5.1, .ref u_5.2.1, .ref u_5.2.2.1])), (u_5.1, .inl (cB, 32, .inl u_5.2.2.2.1)), (u_5.2.1, .inl (cB, 16, .inl u_11)), (u_5.2.2.1, .inl (cB, 16, .inl u_8))]) [6, 1, 7, 8] (by decide) rfl) hZ hS hA hE⟩⟩ rfl rfl hl.1 rfl (lv_room (Nat.le_of_ble_eq_true rfl)) dL_law_83 ⟨Nat.le_of_ble_eq_true rfl, Nat.le_of_ble_eq_true rfl⟩) hP hD hS hA [6, 1, 7, 8] [0, 2, 3, 4, 5] rfl rfl (by decide) (by decide) (fun u_12 H locs eu_12 hP hD hS => ?_)
  have hP : va_P D sm_cl [(a_1, .inl (cI, 1, .inl g_2)), (r_4, .inr (0, [.ref u_3.1, .ref u_3.2.1, .ref u_3.2.2.1])), (u_3.1, .inl (cB, 32, .inl u_3.2.2.2.1)), (u_3.2.1, .inl (cB, 16, .inl u_9)), (u_3.2.2.1, .inl (cB, 16, .inl u_10)), (r_6, .inr (0, [.ref u_5.1, .ref u_5.2.1, .ref u_5.2.2.1])), (u_5.1, .inl (cB, 32, .inl u_5.2.2.2.1)), (u_5.2.1, .inl (cB, 16, .inl u_11)), (u_5.2.2.1, .inl (cB, 16, .inl u_12))] H := hP
  have hD : va_D A [(a_1, .inl (cI, 1, .inl g_2)), (r_4, .inr (0, [.ref u_3.1, .ref u_3.2.1, .ref u_3.2.2.1])), (u_3.1, .inl (cB, 32, .inl u_3.2.2.2.1)), (u_3.2.1, .inl (cB, 16, .inl u_9)), (u_3.2.2.1, .inl (cB, 16, .inl u_10)), (r_6, .inr (0, [.ref u_5.1, .ref u_5.2.1, .ref u_5.2.2.1])), (u_5.1, .inl (cB, 32, .inl u_5.2.2.2.1)), (u_5.2.1, .inl (cB, 16, .inl u_11)), (u_5.2.2.1, .inl (cB, 16, .inl u_12))] := hD
  have hox : sm_b4 u_10 (fun q => sm_cell L xs (8 + q)) := sm_b4.congr eu_10 (fun q hq => sm_lock_open _ _ hq)
  have hoy : sm_b4 u_12 (fun q => sm_cell L xs (8 + q)) := sm_b4.congr eu_12 (fun q hq => sm_open_lock _ _ hq)
  refine lv_aload hx hb dL_law_86 (lv_at hl 1 rfl) ?_
  refine lv_aload_n hx hb dL_law_88 rfl (lv_at hl 7 rfl) ?_
  refine vp_callSi (va_runS (As := [.ref r_4, .ref b]) (rest := []) ⟨hx, hb, hml, hown, hts⟩ (metX0_same l D cB cI tS tC tF r_4 u_3.1 u_3.2.1 u_3.2.2.1 u_10 b L xs hL hox) (va_cwS 2 hts (lw_S q317 q318 q13 q319) rfl rfl rfl (by decide +kernel) ⟨Nat.le_of_ble_eq_true rfl, Nat.le_of_ble_eq_true rfl⟩) ⟨sm_ROX.blind, fun U hU hW => ⟨rfl, sm_RO.at hU hW (hP.sub (ws' := [(r_4, .inr (0, [.ref u_3.1, .ref u_3.2.1, .ref u_3.2.2.1])), (u_3.2.2.1, .inl (cB, 16, .inl u_10))]) [1, 4] rfl) hK hZ hS, by rw [hU]; exact (hX.kept (hS.2.1 b hbl hbA)).moved hW.alike⟩⟩ rfl rfl hl.1 rfl (lv_room (Nat.le_of_ble_eq_true rfl)) dL_law_89 ⟨Nat.le_of_ble_eq_true rfl, Nat.le_of_ble_eq_true rfl⟩).run (fun r_13 er_13 => ?_)
  subst er_13
  refine lv_if_eq (tgt := 104) hx hb dL_law_92 (by decide) (fun h => absurd h (by decide)) (fun _ => ?_)
  refine lv_aload hx hb dL_law_95 (lv_at hl 0 rfl) ?_
  refine lv_aload_n hx hb dL_law_97 rfl (lv_at hl 7 rfl) ?_
  refine vp_callSi (va_runS (As := [.ref r_6, .ref b]) (rest := []) ⟨hx, hb, hml, hown, hts⟩ (metX0_same l D cB cI tS tC tF r_6 u_5.1 u_5.2.1 u_5.2.2.1 u_12 b L xs hL hoy) (va_cwS 2 hts (lw_S q317 q318 q13 q319) rfl rfl rfl (by decide +kernel) ⟨Nat.le_of_ble_eq_true rfl, Nat.le_of_ble_eq_true rfl⟩) ⟨sm_ROX.blind, fun U hU hW => ⟨rfl, sm_RO.at hU hW (hP.sub (ws' := [(r_6, .inr (0, [.ref u_5.1, .ref u_5.2.1, .ref u_5.2.2.1])), (u_5.2.2.1, .inl (cB, 16, .inl u_12))]) [5, 8] rfl) hK hZ hS, by rw [hU]; exact (hX.kept (hS.2.1 b hbl hbA)).moved hW.alike⟩⟩ rfl rfl hl.1 rfl (lv_room (Nat.le_of_ble_eq_true rfl)) dL_law_98 ⟨Nat.le_of_ble_eq_true rfl, Nat.le_of_ble_eq_true rfl⟩).run (fun r_14 er_14 => ?_)
  subst er_14
  refine lv_if_ne (tgt := 106) hx hb dL_law_101 (by decide) (fun _ => ?_) (fun h => absurd h (by decide))
  refine lv_iinc (v := 1) (lv' := [(4, .int 1), (7, .ref r_6), (6, .ref r_4), (5, .int 0), (3, .int (nI 1)), (2, .ref a_1), (1, .ref a_1), (0, .ref b)]) hx hb dL_law_106 hl (k := 3) rfl (by decide) (by decide) rfl (fun ls hl => ?_)
  refine lv_goto (tgt := 24) hx hb dL_law_109 (by decide) ?_
  refine lv_iload hx hb dL_law_24 (lv_at hl 0 rfl) ?_
  refine lv_iload_n hx hb dL_law_26 rfl (lv_at hl 4 rfl) ?_
  refine lv_icmp_ge (tgt := 112) hx hb dL_law_27 (by decide) (fun _ => ?_) (fun h => absurd (by decide) h)
  refine lv_iconst (v := 1) hx hb dL_law_112 (by decide) ?_
  refine va_forget (fun q hq => hAf _ (hS.2.2 q hq)) ?_
  refine W.widen (k := 609069) (n := 7274898) (Nat.le_of_ble_eq_true rfl) (Nat.le_of_ble_eq_true rfl) ?_
  exact lw_ret hx hb hr hlocks dL_law_113
end
section
set_option maxHeartbeats 4000000 in
theorem lw_walk (l : Launch) (hflags : l.flags = flags0) (b : Addr) (xs : List Int32) : MetFree l x (headSpec (Jvm.Cond.code x code maxLocals ret :: tables_1) room_1) (lw_P b xs) (fun _ _ _ _ _ => True) lw_Q := by
  refine MetFree.of_bodyS (code := code) (maxLocals := maxLocals) (ret := ret) (by decide) ?_ ?_
  · intro args s m h hn
    obtain ⟨meth, c, h1, h2, h3, h4, h5, h6, -, -⟩ := Cond.code_spec hn (atoms_spec (ws := Jvm.Cond.code x code maxLocals ret :: tables_1) h _ List.mem_cons_self)
    exact ⟨meth, c, h1, h2, h3, h4, h5, h6⟩
  · intro p e s m args below meth c s₁ B hml0 hP _
    obtain ⟨rfl, hx, hbd, hgv⟩ := hP
    obtain ⟨scr, harrAt, hlist, hof, hsmall⟩ := hx
    obtain ⟨hcb, hkn, -, -⟩ := State.arrayAt?_spec harrAt
    have hown : s.vm.findClass R_law = some m.cls := findClass_of_methodNamed B.named
    have hts0 : ∀ c ∈ (Jvm.Cond.code x code maxLocals ret :: tables_1), c.before #[Value.ref b] s = true := atoms_spec (ws := Jvm.Cond.code x code maxLocals ret :: tables_1) B.pre
    have hts : ∀ w ∈ lw_tbl, w.before #[Value.ref b] s = true := k2_hts_sels lw_privs (fun w hw => hts0 w (List.mem_cons_of_mem _ hw)) lw_privs_ok
    have hml : c.maxLocals = 8 := B.maxLocals_eq (hts0 _ List.mem_cons_self)
    have X₀ : Stand p l e room_1 s m #[Value.ref b] below meth c s₁ [] 0 0 := Stand.of_body B
    have hh0 : s₁.heap = s.heap := by rw [B.state]; rfl
    have hsz : scr.slots.size = xs.length := by rw [← Array.length_toList, hlist, List.length_map]
    have hval : ∀ j : Nat, j < xs.length → scr.slots[j]? = some (.int (xs.getD j 0)) := fun j hj => by
      rw [← Array.getElem?_toList, hlist]
      simp [hj]
    have hbl : b < s.heap.size := (Array.getElem?_eq_some_iff.mp hcb).1
    have hX : va_X b xs.length (fun j => xs.getD j 0) s s.heap := ⟨scr, hcb, hof, hkn, hsz, hval⟩
    have K : W p l e room_1 s m #[Value.ref b] below meth c s₁.heap [] 0 0 (lw_Z below #[Value.ref b] s) (entryFrame m ([Value.ref b] : List Value).toArray 8) := by
      rw [hh0]
      exact whole_start l hflags hbd ⟨B.exec, B.bytes, B.returns, hml, hown, hts, hX, hbl, B.notSynchronized, hgv⟩
    obtain ⟨t, a1, o, b1, b2, b3⟩ := K s₁ rfl X₀
    exact ⟨t, o, a1, b1, b2, b3⟩
theorem lw_pre_spec {args : Array Value} {s : State} (h : (Jvm.Cond.and given_1 narrow_1).before args s = true) (hr : rest_1_c.before args s = true) : ∃ (b : Addr) (xs : List Int32), lw_P b xs args s := by
  have hs := flat_of_before _ h
  have hq := flat_of_before _ hr
  have hc : (Cond.count 1).before args s = true := hs _ (by decide +kernel)
  have harr : (Cond.arrayOf (.arg 0) .int).before args s = true := hs _ (by decide +kernel)
  have hle : (Cond.le (.length (.arg 0)) (.int 12)).before args s = true := hs _ (by decide +kernel)
  have hlen : (Cond.isInt (.length (.arg 0))).before args s = true := hq _ (by decide +kernel)
  have hall : (Cond.all (.arg 0) (.isInt (.elem (.arg 0) (.index 0)))).before args s = true := hq _ (by decide +kernel)
  obtain ⟨b, xs, hb, hx⟩ := State.ints_of_pre rfl harr hlen hall
  have hsm : xs.length < 2 ^ 31 := hx.choose_spec.2.2.2
  have hev : (Term.length (.arg 0)).eval args s none [] s = some (.int xs.length.toInt32) := hx.length_eval hb
  have hv := Cond.le_ints hev (show (Term.int 12).eval args s none [] s = some (.int 12) from rfl)
  have hd : xs.length.toInt32 ≤ 12 := by
    simpa [Cond.before, Cond.holds, hv] using hle
  have hN : xs.length ≤ 12 := (Int32.ofNat_le_ofNat hsm (by decide)).mp (show Int32.ofNat xs.length ≤ Int32.ofNat 12 from hd)
  exact ⟨b, xs, Cond.one_arg hc (show args[0]? = some (.ref b) from hb), hx, hN, h⟩
theorem lw_comes (l : Launch) (hflags : l.flags = flags0) : Comes l x (Jvm.Cond.code x code maxLocals ret :: tables_1) room_1 (fun tb e args s => Calls_1 tb e args s ∧ rest_1 tb e args s ∧ Pre_1 tb e args s)
    (fun _ _ args s o t => lw_Q args s o t) := by
  intro p e ha hc hk s m args below hf hfit hheap happ hpre
  obtain ⟨b, xs, hP⟩ := lw_pre_spec hpre.2.2 hpre.2.1
  obtain ⟨k, o, h1, h2, h3, hQ⟩ := lw_walk l hflags b xs p e ha hc hk s m args below hf ((Spec.applies_iff_loose hf).mp happ).1 hP trivial
  exact ⟨k, o, h1, h2, h3, hQ⟩
theorem lw_frame {s t : State} {o : Outcome} {args : Array Value} (h : Framed s o t [] 609069 7274898) :
    Framed s o t (fieldLocs frame_1_writes args s ++ arrayLocs frame_1_arrays args s ++ staticLocs frame_1_statics s) 609069 7274898 := h
theorem lw_limb (L : Cond) (hL : ∀ (args : Array Value) (s t : State), L.after args s (.returned (some (.int 1))) t = true) :
    ArmFor flags0 classFile x code maxLocals ret World_1 tables_1 room_1 Calls_1 rest_1 Pre_1
      (fun tb e a s o t => postC L tb e a s o t ∧ Framed s o t (fieldLocs frame_1_writes a s ++ arrayLocs frame_1_arrays a s ++ staticLocs frame_1_statics s) 609069 7274898) := by
  intro l hflags _ _ p e ha hc hk s m args below hf hfit hheap happ hpre
  obtain ⟨k, o, h1, h2, h3, rfl, hF⟩ := lw_comes l hflags p e ha hc hk s m args below hf hfit hheap happ hpre
  exact ⟨k, _, h1, h2, h3, hL args s _, lw_frame hF⟩
theorem i_vc : Claimed_1_1 ∧ Claimed_1_2 := ⟨lw_limb limb_1_1 (fun args s t => by simp [limb_1_1, Cond.after, Cond.holds, Cond.value]), lw_limb limb_1_2 (fun args s t => Cond.after_iff.mpr (by
  first | (rw [show limb_1_2 = Cond.eq .result (.int 1) from rfl, Cond.eq_ints (x := 1) (y := 1) rfl rfl]; simp; done) | (simp [limb_1_2, Cond.value, Term.eval]; done)))⟩
end
