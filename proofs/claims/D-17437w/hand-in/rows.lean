section
-- ===== PART A: goes FIRST, ahead of the names: the tables' words, and 'selects' of the private methods out of them =====
/-- a private method of a class that the tables say can be made, by its rows of tables_1 -/
def lw_okq (q : MethodName × Nat) : Prop := (q.1.cls ≠ "java/lang/invoke/MethodHandle" ∧ q.1.cls ≠ "java/lang/invoke/VarHandle") ∧ Cond.instantiable q.1.cls q.2 ∈ tables_1 ∧ Cond.privateMethod q.1 ∈ tables_1 ∧ Cond.instanceMethod q.1 ∈ tables_1
set_option maxRecDepth 100000
theorem lw_t1 {w : Cond} (h : w ∈ tables_1_1) : w ∈ tables_1 := List.mem_append_left _ h
theorem lw_t2 {w : Cond} (h : w ∈ tables_1_2) : w ∈ tables_1 := List.mem_append_right _ h
theorem lw_p0 : lw_okq (⟨"RcFiveDesk", "run", "(ZI)V"⟩, 3) := ⟨⟨by decide +kernel, by decide +kernel⟩, lw_t1 (List.mem_of_getElem? (i := 11) rfl), lw_t1 (List.mem_of_getElem? (i := 45) rfl), lw_t1 (List.mem_of_getElem? (i := 46) rfl)⟩
theorem lw_p1 : lw_okq (⟨"RC532Engine", "setKey", "([B)V"⟩, 3) := ⟨⟨by decide +kernel, by decide +kernel⟩, lw_t1 (List.mem_of_getElem? (i := 52) rfl), lw_t1 (List.mem_of_getElem? (i := 106) rfl), lw_t1 (List.mem_of_getElem? (i := 107) rfl)⟩
theorem lw_p2 : lw_okq (⟨"RC532Engine", "rotateLeft", "(II)I"⟩, 3) := ⟨⟨by decide +kernel, by decide +kernel⟩, lw_t1 (List.mem_of_getElem? (i := 52) rfl), lw_t1 (List.mem_of_getElem? (i := 112) rfl), lw_t1 (List.mem_of_getElem? (i := 113) rfl)⟩
theorem lw_p3 : lw_okq (⟨"java/lang/Throwable", "fillInStackTrace", "(I)Ljava/lang/Throwable;"⟩, 6) := ⟨⟨by decide +kernel, by decide +kernel⟩, lw_t1 (List.mem_of_getElem? (i := 157) rfl), lw_t1 (List.mem_of_getElem? (i := 155) rfl), lw_t1 (List.mem_of_getElem? (i := 156) rfl)⟩
theorem lw_p4 : lw_okq (⟨"RC532Engine", "encryptBlock", "([BI[BI)I"⟩, 3) := ⟨⟨by decide +kernel, by decide +kernel⟩, lw_t1 (List.mem_of_getElem? (i := 52) rfl), lw_t1 (List.mem_of_getElem? (i := 196) rfl), lw_t1 (List.mem_of_getElem? (i := 197) rfl)⟩
theorem lw_p5 : lw_okq (⟨"RC532Engine", "bytesToWord", "([BI)I"⟩, 3) := ⟨⟨by decide +kernel, by decide +kernel⟩, lw_t1 (List.mem_of_getElem? (i := 52) rfl), lw_t1 (List.mem_of_getElem? (i := 200) rfl), lw_t1 (List.mem_of_getElem? (i := 201) rfl)⟩
theorem lw_p6 : lw_okq (⟨"RC532Engine", "wordToBytes", "(I[BI)V"⟩, 3) := ⟨⟨by decide +kernel, by decide +kernel⟩, lw_t1 (List.mem_of_getElem? (i := 52) rfl), lw_t1 (List.mem_of_getElem? (i := 204) rfl), lw_t1 (List.mem_of_getElem? (i := 205) rfl)⟩
theorem lw_p7 : lw_okq (⟨"RC532Engine", "decryptBlock", "([BI[BI)I"⟩, 3) := ⟨⟨by decide +kernel, by decide +kernel⟩, lw_t1 (List.mem_of_getElem? (i := 52) rfl), lw_t1 (List.mem_of_getElem? (i := 208) rfl), lw_t1 (List.mem_of_getElem? (i := 209) rfl)⟩
theorem lw_p8 : lw_okq (⟨"RC532Engine", "rotateRight", "(II)I"⟩, 3) := ⟨⟨by decide +kernel, by decide +kernel⟩, lw_t1 (List.mem_of_getElem? (i := 52) rfl), lw_t1 (List.mem_of_getElem? (i := 212) rfl), lw_t1 (List.mem_of_getElem? (i := 213) rfl)⟩
theorem lw_p9 : lw_okq (⟨"RcFiveDeskModel", "run", "(Z)V"⟩, 3) := ⟨⟨by decide +kernel, by decide +kernel⟩, lw_t1 (List.mem_of_getElem? (i := 228) rfl), lw_t2 (List.mem_of_getElem? (i := 19) rfl), lw_t2 (List.mem_of_getElem? (i := 20) rfl)⟩
theorem lw_p10 : lw_okq (⟨"RcFiveDeskModel", "spread", "()[I"⟩, 3) := ⟨⟨by decide +kernel, by decide +kernel⟩, lw_t1 (List.mem_of_getElem? (i := 228) rfl), lw_t2 (List.mem_of_getElem? (i := 23) rfl), lw_t2 (List.mem_of_getElem? (i := 24) rfl)⟩
def lw_privs_1 : List (MethodName × Nat) := [(⟨"RcFiveDesk", "run", "(ZI)V"⟩, 3), (⟨"RC532Engine", "setKey", "([B)V"⟩, 3), (⟨"RC532Engine", "rotateLeft", "(II)I"⟩, 3), (⟨"java/lang/Throwable", "fillInStackTrace", "(I)Ljava/lang/Throwable;"⟩, 6), (⟨"RC532Engine", "encryptBlock", "([BI[BI)I"⟩, 3), (⟨"RC532Engine", "bytesToWord", "([BI)I"⟩, 3), (⟨"RC532Engine", "wordToBytes", "(I[BI)V"⟩, 3), (⟨"RC532Engine", "decryptBlock", "([BI[BI)I"⟩, 3), (⟨"RC532Engine", "rotateRight", "(II)I"⟩, 3), (⟨"RcFiveDeskModel", "run", "(Z)V"⟩, 3), (⟨"RcFiveDeskModel", "spread", "()[I"⟩, 3)]
theorem lw_r1 : ∀ q ∈ lw_privs_1, lw_okq q := List.forall_mem_cons.mpr ⟨lw_p0, List.forall_mem_cons.mpr ⟨lw_p1, List.forall_mem_cons.mpr ⟨lw_p2, List.forall_mem_cons.mpr ⟨lw_p3, List.forall_mem_cons.mpr ⟨lw_p4, List.forall_mem_cons.mpr ⟨lw_p5, List.forall_mem_cons.mpr ⟨lw_p6, List.forall_mem_cons.mpr ⟨lw_p7, List.forall_mem_cons.mpr ⟨lw_p8, List.forall_mem_cons.mpr ⟨lw_p9, List.forall_mem_cons.mpr ⟨lw_p10, fun _ h => absurd h List.not_mem_nil⟩⟩⟩⟩⟩⟩⟩⟩⟩⟩⟩
def lw_privs : List (MethodName × Nat) := lw_privs_1
def lw_tbl : List Cond := k2_sels lw_privs ++ tables_1
theorem lw_privs_ok : ∀ q ∈ lw_privs, lw_okq q := lw_r1
-- ===== ONE list of words for every method: the tables' words that hold all through a run =====
def lw_all : List Cond := lw_tbl.filter goodWord
/-- a word of the tables by its place: claim/WORDS.tsv -/
theorem lw_w {w : Cond} (i : Nat) (h : lw_tbl[i]? = some w) (g : goodWord w = true) : w ∈ lw_all := List.mem_filter.mpr ⟨List.mem_of_getElem? h, g⟩
theorem lw_all_tbl {w : Cond} (h : w ∈ lw_all) : w ∈ lw_tbl := (List.mem_filter.mp h).1
theorem lw_self : GoodIn lw_all lw_all := fun w h => ⟨h, good_of_word (List.mem_filter.mp h).2⟩
/-- a class's field words, by their places -/
theorem lw_in (ws : List Cond) (ps : List Nat) (hp : ws = ps.filterMap (fun i => lw_tbl[i]?)) (hg : ws.all goodWord = true) : ∀ w ∈ ws, w ∈ lw_all := by
  intro w h
  have h1 := List.all_eq_true.mp hg w h
  rw [hp] at h
  obtain ⟨i, -, hi⟩ := List.mem_filterMap.mp h
  exact lw_w i hi h1
/-- the words of a contract for the method y with code b, L locals, answer r -/
abbrev ws_ (y : MethodName) (b : ByteArray) (L : Nat) (r : Option FieldType) : List Cond := Cond.code y b L r :: lw_all
theorem lw_meth {y : MethodName} {b : ByteArray} {L : Nat} {r : Option FieldType} (h : Cond.code y b L r ∈ lw_all) : GoodIn lw_all (ws_ y b L r) := by
  intro w hw
  rcases List.mem_cons.mp hw with e | e
  · rw [e]
    exact lw_self _ h
  · exact lw_self _ e
theorem lw_app {a c : List Cond} (ha : ∀ w ∈ a, w ∈ lw_all) (hc : GoodIn lw_all c) : GoodIn lw_all (a ++ c) := by
  intro w hw
  rcases List.mem_append.mp hw with e | e
  · exact lw_self w (ha w e)
  · exact hc w e
/-- what a call through an object asks: cwV n hts (lw_V ..) -/
theorem lw_V {own : String} {idx : Nat} {C : String} {y : MethodName} {b : ByteArray} {L : Nat} {r : Option FieldType} (h1 : Cond.methodLink own idx y ∈ lw_all) (h2 : Cond.instanceMethod y ∈ lw_all) (h3 : Cond.selects C y y ∈ lw_all) (h4 : Cond.initialized C ∈ lw_all) (h5 : Cond.code y b L r ∈ lw_all) : GoodIn lw_all (wsV own idx C y (ws_ y b L r)) := by
  refine lw_app ?_ (lw_meth h5)
  intro w hw
  simp only [List.mem_cons, List.not_mem_nil, or_false] at hw
  rcases hw with e | e | e | e
  · rw [e]; exact h1
  · rw [e]; exact h2
  · rw [e]; exact h3
  · rw [e]; exact h4
/-- what a static call asks: va_cwS n hts (lw_S ..) -/
theorem lw_S {own : String} {idx : Nat} {y : MethodName} {b : ByteArray} {L : Nat} {r : Option FieldType} (h1 : Cond.methodLink own idx y ∈ lw_all) (h2 : Cond.static y ∈ lw_all) (h3 : Cond.initialized y.cls ∈ lw_all) (h4 : Cond.code y b L r ∈ lw_all) : GoodIn lw_all (va_wsS own idx y (ws_ y b L r)) := by
  refine lw_app ?_ (lw_meth h4)
  intro w hw
  simp only [List.mem_cons, List.not_mem_nil, or_false] at hw
  rcases hw with e | e | e
  · rw [e]; exact h1
  · rw [e]; exact h2
  · rw [e]; exact h3
/-- the words of a contract for a method WITH HANDLERS (hh: its table) -/
abbrev wsW_ (y : MethodName) (b : ByteArray) (L : Nat) (r : Option FieldType) (hh : List (Nat × Nat × Nat × Nat)) : List Cond := Cond.codeWith y b L r hh :: lw_all
theorem lw_methW {y : MethodName} {b : ByteArray} {L : Nat} {r : Option FieldType} {hh : List (Nat × Nat × Nat × Nat)} (h : Cond.codeWith y b L r hh ∈ lw_all) : GoodIn lw_all (wsW_ y b L r hh) := by
  intro w hw
  rcases List.mem_cons.mp hw with e | e
  · rw [e]
    exact lw_self _ h
  · exact lw_self _ e
/-- any list of words by their places (lw_in), good -/
theorem lw_good {ws : List Cond} (h : ∀ w ∈ ws, w ∈ lw_all) : GoodIn lw_all ws := fun w hw => lw_self w (h w hw)
/-- what a call of a method with handlers asks: vx_cwVW n hts (lw_VW ..), vx_cwSW n hts (lw_SW ..) -/
theorem lw_VW {own : String} {idx : Nat} {C : String} {y : MethodName} {b : ByteArray} {L : Nat} {r : Option FieldType} {hh : List (Nat × Nat × Nat × Nat)} (h1 : Cond.methodLink own idx y ∈ lw_all) (h2 : Cond.instanceMethod y ∈ lw_all) (h3 : Cond.selects C y y ∈ lw_all) (h4 : Cond.initialized C ∈ lw_all) (h5 : Cond.codeWith y b L r hh ∈ lw_all) : GoodIn lw_all (wsV own idx C y (wsW_ y b L r hh)) := by
  refine lw_app ?_ (lw_methW h5)
  intro w hw
  simp only [List.mem_cons, List.not_mem_nil, or_false] at hw
  rcases hw with e | e | e | e
  · rw [e]; exact h1
  · rw [e]; exact h2
  · rw [e]; exact h3
  · rw [e]; exact h4
theorem lw_SW {own : String} {idx : Nat} {y : MethodName} {b : ByteArray} {L : Nat} {r : Option FieldType} {hh : List (Nat × Nat × Nat × Nat)} (h1 : Cond.methodLink own idx y ∈ lw_all) (h2 : Cond.static y ∈ lw_all) (h3 : Cond.initialized y.cls ∈ lw_all) (h4 : Cond.codeWith y b L r hh ∈ lw_all) : GoodIn lw_all (va_wsS own idx y (wsW_ y b L r hh)) := by
  refine lw_app ?_ (lw_methW h4)
  intro w hw
  simp only [List.mem_cons, List.not_mem_nil, or_false] at hw
  rcases hw with e | e | e
  · rw [e]; exact h1
  · rw [e]; exact h2
  · rw [e]; exact h3
/-- a word by its place in its run of the tables -/
theorem lw_at {r : List Cond} (hr : ∀ w ∈ r, w ∈ lw_tbl) {w : Cond} (i : Nat) (h : r[i]? = some w) : w ∈ lw_tbl := hr w (List.mem_of_getElem? h)
theorem lw_g {w : Cond} (h : w ∈ lw_tbl) (g : goodWord w = true) : w ∈ lw_all := List.mem_filter.mpr ⟨h, g⟩
theorem lw_ms : ∀ w ∈ k2_sels lw_privs, w ∈ lw_tbl := fun w h => show w ∈ k2_sels lw_privs ++ tables_1 from List.mem_append_left _ h
theorem lw_m1 : ∀ w ∈ tables_1_1, w ∈ lw_tbl := fun w h => show w ∈ k2_sels lw_privs ++ tables_1 from List.mem_append_right (k2_sels lw_privs) (show w ∈ tables_1 from List.mem_append_left _ h)
theorem lw_m2 : ∀ w ∈ tables_1_2, w ∈ lw_tbl := fun w h => show w ∈ k2_sels lw_privs ++ tables_1 from List.mem_append_right (k2_sels lw_privs) (show w ∈ tables_1 from List.mem_append_right _ h)
theorem qs0 : (Cond.selects "RcFiveDesk" ⟨"RcFiveDesk", "run", "(ZI)V"⟩ ⟨"RcFiveDesk", "run", "(ZI)V"⟩) ∈ lw_all := lw_g (lw_at lw_ms 0 rfl) rfl
theorem qs1 : (Cond.selects "RC532Engine" ⟨"RC532Engine", "setKey", "([B)V"⟩ ⟨"RC532Engine", "setKey", "([B)V"⟩) ∈ lw_all := lw_g (lw_at lw_ms 1 rfl) rfl
theorem qs2 : (Cond.selects "RC532Engine" ⟨"RC532Engine", "rotateLeft", "(II)I"⟩ ⟨"RC532Engine", "rotateLeft", "(II)I"⟩) ∈ lw_all := lw_g (lw_at lw_ms 2 rfl) rfl
theorem qs3 : (Cond.selects "java/lang/Throwable" ⟨"java/lang/Throwable", "fillInStackTrace", "(I)Ljava/lang/Throwable;"⟩ ⟨"java/lang/Throwable", "fillInStackTrace", "(I)Ljava/lang/Throwable;"⟩) ∈ lw_all := lw_g (lw_at lw_ms 3 rfl) rfl
theorem qs4 : (Cond.selects "RC532Engine" ⟨"RC532Engine", "encryptBlock", "([BI[BI)I"⟩ ⟨"RC532Engine", "encryptBlock", "([BI[BI)I"⟩) ∈ lw_all := lw_g (lw_at lw_ms 4 rfl) rfl
theorem qs5 : (Cond.selects "RC532Engine" ⟨"RC532Engine", "bytesToWord", "([BI)I"⟩ ⟨"RC532Engine", "bytesToWord", "([BI)I"⟩) ∈ lw_all := lw_g (lw_at lw_ms 5 rfl) rfl
theorem qs6 : (Cond.selects "RC532Engine" ⟨"RC532Engine", "wordToBytes", "(I[BI)V"⟩ ⟨"RC532Engine", "wordToBytes", "(I[BI)V"⟩) ∈ lw_all := lw_g (lw_at lw_ms 6 rfl) rfl
theorem qs7 : (Cond.selects "RC532Engine" ⟨"RC532Engine", "decryptBlock", "([BI[BI)I"⟩ ⟨"RC532Engine", "decryptBlock", "([BI[BI)I"⟩) ∈ lw_all := lw_g (lw_at lw_ms 7 rfl) rfl
theorem qs8 : (Cond.selects "RC532Engine" ⟨"RC532Engine", "rotateRight", "(II)I"⟩ ⟨"RC532Engine", "rotateRight", "(II)I"⟩) ∈ lw_all := lw_g (lw_at lw_ms 8 rfl) rfl
theorem qs9 : (Cond.selects "RcFiveDeskModel" ⟨"RcFiveDeskModel", "run", "(Z)V"⟩ ⟨"RcFiveDeskModel", "run", "(Z)V"⟩) ∈ lw_all := lw_g (lw_at lw_ms 9 rfl) rfl
theorem qs10 : (Cond.selects "RcFiveDeskModel" ⟨"RcFiveDeskModel", "spread", "()[I"⟩ ⟨"RcFiveDeskModel", "spread", "()[I"⟩) ∈ lw_all := lw_g (lw_at lw_ms 10 rfl) rfl
end
section
/-! DECODE ROWS BY BYTES: one lemma an opcode; a method's code is cut into short pieces once, and a row reads its own piece alone. -/
set_option maxRecDepth 100000
/-- the code has just these bytes from pc on -/
def DkAt (code : ByteArray) (pc : Nat) (bs : List UInt8) : Prop := ∀ (j : Nat) (b : UInt8), bs[j]? = some b → code.data.toList[pc + j]? = some b
/-- the piece W has the bytes bs from its place j on -/
def dkIn (W : List UInt8) (j : Nat) (bs : List UInt8) : Bool := decide ((W.drop j).take bs.length = bs)
theorem dk_seg {l W T : List UInt8} {o o2 : Nat} (h : l.drop o = W ++ T) (n : Nat) (hn : W.length = n) (ho : o + n = o2) : l.drop o2 = T := by
  subst ho
  rw [← List.drop_drop, h, List.drop_left' hn]
theorem dk_at {code : ByteArray} {W T bs : List UInt8} {o pc : Nat} (h : code.data.toList.drop o = W ++ T) (j : Nat) (hp : o + j = pc) (hw : dkIn W j bs = true) : DkAt code pc bs := by
  subst hp
  intro i b e
  have h1 := of_decide_eq_true hw
  have h2 : i < bs.length := (List.getElem?_eq_some_iff.mp e).1
  have h3 : W[j + i]? = some b := by
    rw [← h1, List.getElem?_take, if_pos h2, List.getElem?_drop] at e
    exact e
  have h4 : j + i < W.length := (List.getElem?_eq_some_iff.mp h3).1
  have h5 : (code.data.toList.drop o)[j + i]? = some b := by
    rw [h, List.getElem?_append_left h4]
    exact h3
  rw [List.getElem?_drop, ← Nat.add_assoc] at h5
  exact h5
theorem dk_u1 {A : ByteArray} {p : Nat} {b : UInt8} (h : A.data.toList[p]? = some b) : (Reader.u1 : Reader DecodeError Nat) A p = .ok (b.toNat, p + 1) := by
  obtain ⟨h1, h2⟩ := List.getElem?_eq_some_iff.mp h
  have h3 : p < A.size := by simpa using h1
  have h4 : A[p]'h3 = b := h2
  have e : (Reader.u1 : Reader DecodeError Nat) A p = (if h : p < A.size then .ok (A[p].toNat, p + 1) else .error (HasTruncated.truncated p)) := by
    show (do if h : p < A.size then do set (p + 1); Pure.pure A[p].toNat else MonadExcept.throw (HasTruncated.truncated p) : Reader DecodeError Nat) A p = _
    by_cases hi : p < A.size
    · rw [dif_pos hi, dif_pos hi]; rfl
    · rw [dif_neg hi, dif_neg hi]; rfl
  rw [e, dif_pos h3, h4]
theorem dk_bind {α β : Type} {r : Reader DecodeError α} {f : α → Reader DecodeError β} {A : ByteArray} {p s : Nat} {a : α} (h : r A p = .ok (a, s)) : (r >>= f) A p = f a A s := by
  show (do let (a, s) ← r A p; f a A s : Except DecodeError (β × Nat)) = _
  rw [h]
  rfl
theorem dk_map {α β : Type} {r : Reader DecodeError α} {g : α → β} {A : ByteArray} {p s : Nat} {a : α} (h : r A p = .ok (a, s)) : (g <$> r) A p = .ok (g a, s) := by
  show (do let (a, s) ← r A p; .ok (g a, s) : Except DecodeError (β × Nat)) = _
  rw [h]
  rfl
theorem dk_u2 {A : ByteArray} {p : Nat} {a b : UInt8} (h : A.data.toList[p]? = some a) (h2 : A.data.toList[p + 1]? = some b) : (Reader.u2 : Reader DecodeError Nat) A p = .ok (a.toNat * 256 + b.toNat, p + 2) := by
  show (Reader.u1 >>= fun hi => Reader.u1 >>= fun lo => Pure.pure (hi * 256 + lo) : Reader DecodeError Nat) A p = _
  rw [dk_bind (dk_u1 h), dk_bind (dk_u1 h2)]
  rfl
theorem dk_of {code : ByteArray} {pc n : Nat} {i : Instr} (h : Decoder.instr pc code pc = .ok (i, pc + n)) : decode code pc = .ok (i, n) := by
  have e : decode code pc = (match Decoder.instr pc code pc with | .error x => .error x | .ok (j, s) => .ok (j, s - pc)) := by
    show (do let (j, s) ← Decoder.instr pc code pc; Pure.pure (j, s - pc) : Except DecodeError (Instr × Nat)) = _
    cases Decoder.instr pc code pc <;> rfl
  rw [e, h]
  show Except.ok (i, pc + n - pc) = _
  rw [Nat.add_sub_cancel_left]
theorem dk_1 {code : ByteArray} {pc : Nat} (h : DkAt code pc [1]) : decode code pc = .ok (.aconst_null, 1) := dk_of ((dk_bind (dk_u1 (h 0 _ rfl))).trans rfl)
theorem dk_3 {code : ByteArray} {pc : Nat} (h : DkAt code pc [3]) : decode code pc = .ok (.iconst 0, 1) := dk_of ((dk_bind (dk_u1 (h 0 _ rfl))).trans rfl)
theorem dk_4 {code : ByteArray} {pc : Nat} (h : DkAt code pc [4]) : decode code pc = .ok (.iconst 1, 1) := dk_of ((dk_bind (dk_u1 (h 0 _ rfl))).trans rfl)
theorem dk_5 {code : ByteArray} {pc : Nat} (h : DkAt code pc [5]) : decode code pc = .ok (.iconst 2, 1) := dk_of ((dk_bind (dk_u1 (h 0 _ rfl))).trans rfl)
theorem dk_6 {code : ByteArray} {pc : Nat} (h : DkAt code pc [6]) : decode code pc = .ok (.iconst 3, 1) := dk_of ((dk_bind (dk_u1 (h 0 _ rfl))).trans rfl)
theorem dk_7 {code : ByteArray} {pc : Nat} (h : DkAt code pc [7]) : decode code pc = .ok (.iconst 4, 1) := dk_of ((dk_bind (dk_u1 (h 0 _ rfl))).trans rfl)
theorem dk_8 {code : ByteArray} {pc : Nat} (h : DkAt code pc [8]) : decode code pc = .ok (.iconst 5, 1) := dk_of ((dk_bind (dk_u1 (h 0 _ rfl))).trans rfl)
theorem dk_16 {code : ByteArray} {pc : Nat} (a : UInt8) (h : DkAt code pc [16, a]) : decode code pc = .ok (.bipush (Reader.signed 8 a.toNat), 2) := dk_of ((dk_bind (dk_u1 (h 0 _ rfl))).trans ((dk_bind (dk_map (dk_u1 (h 1 _ rfl)))).trans rfl))
theorem dk_17 {code : ByteArray} {pc : Nat} (a b : UInt8) (h : DkAt code pc [17, a, b]) : decode code pc = .ok (.sipush (Reader.signed 16 (a.toNat * 256 + b.toNat)), 3) := dk_of ((dk_bind (dk_u1 (h 0 _ rfl))).trans ((dk_bind (dk_map (dk_u2 (h 1 _ rfl) (h 2 _ rfl)))).trans rfl))
theorem dk_18 {code : ByteArray} {pc : Nat} (a : UInt8) (h : DkAt code pc [18, a]) : decode code pc = .ok (.ldc a.toNat, 2) := dk_of ((dk_bind (dk_u1 (h 0 _ rfl))).trans ((dk_bind (dk_u1 (h 1 _ rfl))).trans rfl))
theorem dk_21 {code : ByteArray} {pc : Nat} (a : UInt8) (h : DkAt code pc [21, a]) : decode code pc = .ok (.iload a.toNat, 2) := dk_of ((dk_bind (dk_u1 (h 0 _ rfl))).trans ((dk_bind (dk_u1 (h 1 _ rfl))).trans rfl))
theorem dk_25 {code : ByteArray} {pc : Nat} (a : UInt8) (h : DkAt code pc [25, a]) : decode code pc = .ok (.aload a.toNat, 2) := dk_of ((dk_bind (dk_u1 (h 0 _ rfl))).trans ((dk_bind (dk_u1 (h 1 _ rfl))).trans rfl))
theorem dk_26 {code : ByteArray} {pc : Nat} (h : DkAt code pc [26]) : decode code pc = .ok (.iload_n 0, 1) := dk_of ((dk_bind (dk_u1 (h 0 _ rfl))).trans rfl)
theorem dk_27 {code : ByteArray} {pc : Nat} (h : DkAt code pc [27]) : decode code pc = .ok (.iload_n 1, 1) := dk_of ((dk_bind (dk_u1 (h 0 _ rfl))).trans rfl)
theorem dk_28 {code : ByteArray} {pc : Nat} (h : DkAt code pc [28]) : decode code pc = .ok (.iload_n 2, 1) := dk_of ((dk_bind (dk_u1 (h 0 _ rfl))).trans rfl)
theorem dk_29 {code : ByteArray} {pc : Nat} (h : DkAt code pc [29]) : decode code pc = .ok (.iload_n 3, 1) := dk_of ((dk_bind (dk_u1 (h 0 _ rfl))).trans rfl)
theorem dk_42 {code : ByteArray} {pc : Nat} (h : DkAt code pc [42]) : decode code pc = .ok (.aload_n 0, 1) := dk_of ((dk_bind (dk_u1 (h 0 _ rfl))).trans rfl)
theorem dk_43 {code : ByteArray} {pc : Nat} (h : DkAt code pc [43]) : decode code pc = .ok (.aload_n 1, 1) := dk_of ((dk_bind (dk_u1 (h 0 _ rfl))).trans rfl)
theorem dk_44 {code : ByteArray} {pc : Nat} (h : DkAt code pc [44]) : decode code pc = .ok (.aload_n 2, 1) := dk_of ((dk_bind (dk_u1 (h 0 _ rfl))).trans rfl)
theorem dk_45 {code : ByteArray} {pc : Nat} (h : DkAt code pc [45]) : decode code pc = .ok (.aload_n 3, 1) := dk_of ((dk_bind (dk_u1 (h 0 _ rfl))).trans rfl)
theorem dk_46 {code : ByteArray} {pc : Nat} (h : DkAt code pc [46]) : decode code pc = .ok (.iaload, 1) := dk_of ((dk_bind (dk_u1 (h 0 _ rfl))).trans rfl)
theorem dk_51 {code : ByteArray} {pc : Nat} (h : DkAt code pc [51]) : decode code pc = .ok (.baload, 1) := dk_of ((dk_bind (dk_u1 (h 0 _ rfl))).trans rfl)
theorem dk_54 {code : ByteArray} {pc : Nat} (a : UInt8) (h : DkAt code pc [54, a]) : decode code pc = .ok (.istore a.toNat, 2) := dk_of ((dk_bind (dk_u1 (h 0 _ rfl))).trans ((dk_bind (dk_u1 (h 1 _ rfl))).trans rfl))
theorem dk_58 {code : ByteArray} {pc : Nat} (a : UInt8) (h : DkAt code pc [58, a]) : decode code pc = .ok (.astore a.toNat, 2) := dk_of ((dk_bind (dk_u1 (h 0 _ rfl))).trans ((dk_bind (dk_u1 (h 1 _ rfl))).trans rfl))
theorem dk_60 {code : ByteArray} {pc : Nat} (h : DkAt code pc [60]) : decode code pc = .ok (.istore_n 1, 1) := dk_of ((dk_bind (dk_u1 (h 0 _ rfl))).trans rfl)
theorem dk_61 {code : ByteArray} {pc : Nat} (h : DkAt code pc [61]) : decode code pc = .ok (.istore_n 2, 1) := dk_of ((dk_bind (dk_u1 (h 0 _ rfl))).trans rfl)
theorem dk_62 {code : ByteArray} {pc : Nat} (h : DkAt code pc [62]) : decode code pc = .ok (.istore_n 3, 1) := dk_of ((dk_bind (dk_u1 (h 0 _ rfl))).trans rfl)
theorem dk_76 {code : ByteArray} {pc : Nat} (h : DkAt code pc [76]) : decode code pc = .ok (.astore_n 1, 1) := dk_of ((dk_bind (dk_u1 (h 0 _ rfl))).trans rfl)
theorem dk_77 {code : ByteArray} {pc : Nat} (h : DkAt code pc [77]) : decode code pc = .ok (.astore_n 2, 1) := dk_of ((dk_bind (dk_u1 (h 0 _ rfl))).trans rfl)
theorem dk_78 {code : ByteArray} {pc : Nat} (h : DkAt code pc [78]) : decode code pc = .ok (.astore_n 3, 1) := dk_of ((dk_bind (dk_u1 (h 0 _ rfl))).trans rfl)
theorem dk_79 {code : ByteArray} {pc : Nat} (h : DkAt code pc [79]) : decode code pc = .ok (.iastore, 1) := dk_of ((dk_bind (dk_u1 (h 0 _ rfl))).trans rfl)
theorem dk_84 {code : ByteArray} {pc : Nat} (h : DkAt code pc [84]) : decode code pc = .ok (.bastore, 1) := dk_of ((dk_bind (dk_u1 (h 0 _ rfl))).trans rfl)
theorem dk_87 {code : ByteArray} {pc : Nat} (h : DkAt code pc [87]) : decode code pc = .ok (.pop, 1) := dk_of ((dk_bind (dk_u1 (h 0 _ rfl))).trans rfl)
theorem dk_89 {code : ByteArray} {pc : Nat} (h : DkAt code pc [89]) : decode code pc = .ok (.dup, 1) := dk_of ((dk_bind (dk_u1 (h 0 _ rfl))).trans rfl)
theorem dk_91 {code : ByteArray} {pc : Nat} (h : DkAt code pc [91]) : decode code pc = .ok (.dup_x2, 1) := dk_of ((dk_bind (dk_u1 (h 0 _ rfl))).trans rfl)
theorem dk_92 {code : ByteArray} {pc : Nat} (h : DkAt code pc [92]) : decode code pc = .ok (.dup2, 1) := dk_of ((dk_bind (dk_u1 (h 0 _ rfl))).trans rfl)
theorem dk_96 {code : ByteArray} {pc : Nat} (h : DkAt code pc [96]) : decode code pc = .ok (.iadd, 1) := dk_of ((dk_bind (dk_u1 (h 0 _ rfl))).trans rfl)
theorem dk_100 {code : ByteArray} {pc : Nat} (h : DkAt code pc [100]) : decode code pc = .ok (.isub, 1) := dk_of ((dk_bind (dk_u1 (h 0 _ rfl))).trans rfl)
theorem dk_104 {code : ByteArray} {pc : Nat} (h : DkAt code pc [104]) : decode code pc = .ok (.imul, 1) := dk_of ((dk_bind (dk_u1 (h 0 _ rfl))).trans rfl)
theorem dk_108 {code : ByteArray} {pc : Nat} (h : DkAt code pc [108]) : decode code pc = .ok (.idiv, 1) := dk_of ((dk_bind (dk_u1 (h 0 _ rfl))).trans rfl)
theorem dk_112 {code : ByteArray} {pc : Nat} (h : DkAt code pc [112]) : decode code pc = .ok (.irem, 1) := dk_of ((dk_bind (dk_u1 (h 0 _ rfl))).trans rfl)
theorem dk_116 {code : ByteArray} {pc : Nat} (h : DkAt code pc [116]) : decode code pc = .ok (.ineg, 1) := dk_of ((dk_bind (dk_u1 (h 0 _ rfl))).trans rfl)
theorem dk_120 {code : ByteArray} {pc : Nat} (h : DkAt code pc [120]) : decode code pc = .ok (.ishl, 1) := dk_of ((dk_bind (dk_u1 (h 0 _ rfl))).trans rfl)
theorem dk_122 {code : ByteArray} {pc : Nat} (h : DkAt code pc [122]) : decode code pc = .ok (.ishr, 1) := dk_of ((dk_bind (dk_u1 (h 0 _ rfl))).trans rfl)
theorem dk_124 {code : ByteArray} {pc : Nat} (h : DkAt code pc [124]) : decode code pc = .ok (.iushr, 1) := dk_of ((dk_bind (dk_u1 (h 0 _ rfl))).trans rfl)
theorem dk_126 {code : ByteArray} {pc : Nat} (h : DkAt code pc [126]) : decode code pc = .ok (.iand, 1) := dk_of ((dk_bind (dk_u1 (h 0 _ rfl))).trans rfl)
theorem dk_128 {code : ByteArray} {pc : Nat} (h : DkAt code pc [128]) : decode code pc = .ok (.ior, 1) := dk_of ((dk_bind (dk_u1 (h 0 _ rfl))).trans rfl)
theorem dk_130 {code : ByteArray} {pc : Nat} (h : DkAt code pc [130]) : decode code pc = .ok (.ixor, 1) := dk_of ((dk_bind (dk_u1 (h 0 _ rfl))).trans rfl)
theorem dk_132 {code : ByteArray} {pc : Nat} (a b : UInt8) (h : DkAt code pc [132, a, b]) : decode code pc = .ok (.iinc a.toNat (Reader.signed 8 b.toNat), 3) := dk_of ((dk_bind (dk_u1 (h 0 _ rfl))).trans ((dk_bind (dk_u1 (h 1 _ rfl))).trans ((dk_bind (dk_map (dk_u1 (h 2 _ rfl)))).trans rfl)))
theorem dk_145 {code : ByteArray} {pc : Nat} (h : DkAt code pc [145]) : decode code pc = .ok (.i2b, 1) := dk_of ((dk_bind (dk_u1 (h 0 _ rfl))).trans rfl)
theorem dk_153 {code : ByteArray} {pc : Nat} (a b : UInt8) (h : DkAt code pc [153, a, b]) : decode code pc = .ok (.ifCond .eq (Reader.signed 16 (a.toNat * 256 + b.toNat)), 3) := dk_of ((dk_bind (dk_u1 (h 0 _ rfl))).trans ((dk_bind (dk_map (dk_u2 (h 1 _ rfl) (h 2 _ rfl)))).trans rfl))
theorem dk_154 {code : ByteArray} {pc : Nat} (a b : UInt8) (h : DkAt code pc [154, a, b]) : decode code pc = .ok (.ifCond .ne (Reader.signed 16 (a.toNat * 256 + b.toNat)), 3) := dk_of ((dk_bind (dk_u1 (h 0 _ rfl))).trans ((dk_bind (dk_map (dk_u2 (h 1 _ rfl) (h 2 _ rfl)))).trans rfl))
theorem dk_159 {code : ByteArray} {pc : Nat} (a b : UInt8) (h : DkAt code pc [159, a, b]) : decode code pc = .ok (.if_icmp .eq (Reader.signed 16 (a.toNat * 256 + b.toNat)), 3) := dk_of ((dk_bind (dk_u1 (h 0 _ rfl))).trans ((dk_bind (dk_map (dk_u2 (h 1 _ rfl) (h 2 _ rfl)))).trans rfl))
theorem dk_161 {code : ByteArray} {pc : Nat} (a b : UInt8) (h : DkAt code pc [161, a, b]) : decode code pc = .ok (.if_icmp .lt (Reader.signed 16 (a.toNat * 256 + b.toNat)), 3) := dk_of ((dk_bind (dk_u1 (h 0 _ rfl))).trans ((dk_bind (dk_map (dk_u2 (h 1 _ rfl) (h 2 _ rfl)))).trans rfl))
theorem dk_162 {code : ByteArray} {pc : Nat} (a b : UInt8) (h : DkAt code pc [162, a, b]) : decode code pc = .ok (.if_icmp .ge (Reader.signed 16 (a.toNat * 256 + b.toNat)), 3) := dk_of ((dk_bind (dk_u1 (h 0 _ rfl))).trans ((dk_bind (dk_map (dk_u2 (h 1 _ rfl) (h 2 _ rfl)))).trans rfl))
theorem dk_163 {code : ByteArray} {pc : Nat} (a b : UInt8) (h : DkAt code pc [163, a, b]) : decode code pc = .ok (.if_icmp .gt (Reader.signed 16 (a.toNat * 256 + b.toNat)), 3) := dk_of ((dk_bind (dk_u1 (h 0 _ rfl))).trans ((dk_bind (dk_map (dk_u2 (h 1 _ rfl) (h 2 _ rfl)))).trans rfl))
theorem dk_164 {code : ByteArray} {pc : Nat} (a b : UInt8) (h : DkAt code pc [164, a, b]) : decode code pc = .ok (.if_icmp .le (Reader.signed 16 (a.toNat * 256 + b.toNat)), 3) := dk_of ((dk_bind (dk_u1 (h 0 _ rfl))).trans ((dk_bind (dk_map (dk_u2 (h 1 _ rfl) (h 2 _ rfl)))).trans rfl))
theorem dk_167 {code : ByteArray} {pc : Nat} (a b : UInt8) (h : DkAt code pc [167, a, b]) : decode code pc = .ok (.goto (Reader.signed 16 (a.toNat * 256 + b.toNat)), 3) := dk_of ((dk_bind (dk_u1 (h 0 _ rfl))).trans ((dk_bind (dk_map (dk_u2 (h 1 _ rfl) (h 2 _ rfl)))).trans rfl))
theorem dk_172 {code : ByteArray} {pc : Nat} (h : DkAt code pc [172]) : decode code pc = .ok (.ireturn, 1) := dk_of ((dk_bind (dk_u1 (h 0 _ rfl))).trans rfl)
theorem dk_176 {code : ByteArray} {pc : Nat} (h : DkAt code pc [176]) : decode code pc = .ok (.areturn, 1) := dk_of ((dk_bind (dk_u1 (h 0 _ rfl))).trans rfl)
theorem dk_177 {code : ByteArray} {pc : Nat} (h : DkAt code pc [177]) : decode code pc = .ok (.return_, 1) := dk_of ((dk_bind (dk_u1 (h 0 _ rfl))).trans rfl)
theorem dk_178 {code : ByteArray} {pc : Nat} (a b : UInt8) (h : DkAt code pc [178, a, b]) : decode code pc = .ok (.getstatic (a.toNat * 256 + b.toNat), 3) := dk_of ((dk_bind (dk_u1 (h 0 _ rfl))).trans ((dk_bind (dk_u2 (h 1 _ rfl) (h 2 _ rfl))).trans rfl))
theorem dk_180 {code : ByteArray} {pc : Nat} (a b : UInt8) (h : DkAt code pc [180, a, b]) : decode code pc = .ok (.getfield (a.toNat * 256 + b.toNat), 3) := dk_of ((dk_bind (dk_u1 (h 0 _ rfl))).trans ((dk_bind (dk_u2 (h 1 _ rfl) (h 2 _ rfl))).trans rfl))
theorem dk_181 {code : ByteArray} {pc : Nat} (a b : UInt8) (h : DkAt code pc [181, a, b]) : decode code pc = .ok (.putfield (a.toNat * 256 + b.toNat), 3) := dk_of ((dk_bind (dk_u1 (h 0 _ rfl))).trans ((dk_bind (dk_u2 (h 1 _ rfl) (h 2 _ rfl))).trans rfl))
theorem dk_182 {code : ByteArray} {pc : Nat} (a b : UInt8) (h : DkAt code pc [182, a, b]) : decode code pc = .ok (.invokevirtual (a.toNat * 256 + b.toNat), 3) := dk_of ((dk_bind (dk_u1 (h 0 _ rfl))).trans ((dk_bind (dk_u2 (h 1 _ rfl) (h 2 _ rfl))).trans rfl))
theorem dk_183 {code : ByteArray} {pc : Nat} (a b : UInt8) (h : DkAt code pc [183, a, b]) : decode code pc = .ok (.invokespecial (a.toNat * 256 + b.toNat), 3) := dk_of ((dk_bind (dk_u1 (h 0 _ rfl))).trans ((dk_bind (dk_u2 (h 1 _ rfl) (h 2 _ rfl))).trans rfl))
theorem dk_184 {code : ByteArray} {pc : Nat} (a b : UInt8) (h : DkAt code pc [184, a, b]) : decode code pc = .ok (.invokestatic (a.toNat * 256 + b.toNat), 3) := dk_of ((dk_bind (dk_u1 (h 0 _ rfl))).trans ((dk_bind (dk_u2 (h 1 _ rfl) (h 2 _ rfl))).trans rfl))
theorem dk_187 {code : ByteArray} {pc : Nat} (a b : UInt8) (h : DkAt code pc [187, a, b]) : decode code pc = .ok (.new (a.toNat * 256 + b.toNat), 3) := dk_of ((dk_bind (dk_u1 (h 0 _ rfl))).trans ((dk_bind (dk_u2 (h 1 _ rfl) (h 2 _ rfl))).trans rfl))
theorem dk_188_8 {code : ByteArray} {pc : Nat} (h : DkAt code pc [188, 8]) : decode code pc = .ok (.newarray .byte, 2) := dk_of ((dk_bind (dk_u1 (h 0 _ rfl))).trans ((dk_bind (dk_u1 (h 1 _ rfl))).trans rfl))
theorem dk_188_10 {code : ByteArray} {pc : Nat} (h : DkAt code pc [188, 10]) : decode code pc = .ok (.newarray .int, 2) := dk_of ((dk_bind (dk_u1 (h 0 _ rfl))).trans ((dk_bind (dk_u1 (h 1 _ rfl))).trans rfl))
theorem dk_190 {code : ByteArray} {pc : Nat} (h : DkAt code pc [190]) : decode code pc = .ok (.arraylength, 1) := dk_of ((dk_bind (dk_u1 (h 0 _ rfl))).trans rfl)
theorem dk_191 {code : ByteArray} {pc : Nat} (h : DkAt code pc [191]) : decode code pc = .ok (.athrow, 1) := dk_of ((dk_bind (dk_u1 (h 0 _ rfl))).trans rfl)
theorem dk_192 {code : ByteArray} {pc : Nat} (a b : UInt8) (h : DkAt code pc [192, a, b]) : decode code pc = .ok (.checkcast (a.toNat * 256 + b.toNat), 3) := dk_of ((dk_bind (dk_u1 (h 0 _ rfl))).trans ((dk_bind (dk_u2 (h 1 _ rfl) (h 2 _ rfl))).trans rfl))
theorem dk_193 {code : ByteArray} {pc : Nat} (a b : UInt8) (h : DkAt code pc [193, a, b]) : decode code pc = .ok (.instanceof (a.toNat * 256 + b.toNat), 3) := dk_of ((dk_bind (dk_u1 (h 0 _ rfl))).trans ((dk_bind (dk_u2 (h 1 _ rfl) (h 2 _ rfl))).trans rfl))
/-! java/lang/Object -/
set_option maxRecDepth 100000
def RJ4 : String := "java/lang/Object"
abbrev cJ4_init : ByteArray := object_method_1_code
def yJ4_init : MethodName := ⟨RJ4, "<init>", "()V"⟩
theorem dJ4_init_0 : decode cJ4_init 0 = .ok (.return_, 1) := by decide +kernel
theorem q27 : (Jvm.Cond.instanceMethod ({ cls := "java/lang/Object", name := "<init>", desc := "()V" } : Jvm.MethodName)) ∈ lw_all := lw_g (lw_at lw_m1 16 rfl) rfl
theorem q28 : (Jvm.Cond.code ({ cls := "java/lang/Object", name := "<init>", desc := "()V" } : Jvm.MethodName) object_method_1_code (1 : Nat) (Option.none : Option Jvm.ClassFile.FieldType)) ∈ lw_all := lw_g (lw_at lw_m1 17 rfl) rfl
/-! RcFiveDesk -/
set_option maxRecDepth 100000
def RX0 : String := "RcFiveDesk"
def TX0 : u_T := fun k => match k with
  | 0 => ("RcFiveDesk", "key", "[B", true)
  | 1 => ("RcFiveDesk", "block", "[B", true)
  | _ => ("RcFiveDesk", "out", "[B", true)
def tyX0 : Nat → FieldType := fun k => match k with
  | 0 => .array .byte
  | 1 => .array .byte
  | _ => .array .byte
abbrev wsX00 : List Cond := u_ws RX0 TX0 3
theorem nmX0 : ∀ a, a < 3 → ∀ b, b < 3 → a ≠ b → (TX0 a).2.1 ≠ (TX0 b).2.1 := by decide +kernel
theorem tyX0_ok : ∀ k, k < 3 → parseFieldDescriptor (TX0 k).2.2.1 = some (tyX0 k) := by decide +kernel
abbrev cX0_init : ByteArray := prog_7_method_1_code
def yX0_init : MethodName := ⟨RX0, "<init>", "()V"⟩
def dkwX0_init_1 : List UInt8 := [188, 8, 181, 0, 16, 177]
abbrev dktX0_init_1 : List UInt8 := dkwX0_init_1 ++ []
def dkwX0_init_0 : List UInt8 := [42, 183, 0, 1, 42, 16, 32, 188, 8, 181, 0, 7, 42, 16, 8, 188, 8, 181, 0, 13, 42, 16, 8]
abbrev dktX0_init_0 : List UInt8 := dkwX0_init_0 ++ dktX0_init_1
theorem dksX0_init_0 : cX0_init.data.toList.drop 0 = dktX0_init_0 := by decide +kernel
theorem dksX0_init_1 : cX0_init.data.toList.drop 23 = dktX0_init_1 := dk_seg dksX0_init_0 23 rfl rfl
theorem dX0_init_0 : decode cX0_init 0 = .ok (.aload_n 0, 1) := dk_42 (dk_at dksX0_init_0 0 rfl rfl)
theorem dX0_init_1 : decode cX0_init 1 = .ok (.invokespecial 1, 3) := dk_183 0 1 (dk_at dksX0_init_0 1 rfl rfl)
theorem dX0_init_4 : decode cX0_init 4 = .ok (.aload_n 0, 1) := dk_42 (dk_at dksX0_init_0 4 rfl rfl)
theorem dX0_init_5 : decode cX0_init 5 = .ok (.bipush 32, 2) := dk_16 32 (dk_at dksX0_init_0 5 rfl rfl)
theorem dX0_init_7 : decode cX0_init 7 = .ok (.newarray .byte, 2) := dk_188_8 (dk_at dksX0_init_0 7 rfl rfl)
theorem dX0_init_9 : decode cX0_init 9 = .ok (.putfield 7, 3) := dk_181 0 7 (dk_at dksX0_init_0 9 rfl rfl)
theorem dX0_init_12 : decode cX0_init 12 = .ok (.aload_n 0, 1) := dk_42 (dk_at dksX0_init_0 12 rfl rfl)
theorem dX0_init_13 : decode cX0_init 13 = .ok (.bipush 8, 2) := dk_16 8 (dk_at dksX0_init_0 13 rfl rfl)
theorem dX0_init_15 : decode cX0_init 15 = .ok (.newarray .byte, 2) := dk_188_8 (dk_at dksX0_init_0 15 rfl rfl)
theorem dX0_init_17 : decode cX0_init 17 = .ok (.putfield 13, 3) := dk_181 0 13 (dk_at dksX0_init_0 17 rfl rfl)
theorem dX0_init_20 : decode cX0_init 20 = .ok (.aload_n 0, 1) := dk_42 (dk_at dksX0_init_0 20 rfl rfl)
theorem dX0_init_21 : decode cX0_init 21 = .ok (.bipush 8, 2) := dk_16 8 (dk_at dksX0_init_0 21 rfl rfl)
theorem dX0_init_23 : decode cX0_init 23 = .ok (.newarray .byte, 2) := dk_188_8 (dk_at dksX0_init_1 0 rfl rfl)
theorem dX0_init_25 : decode cX0_init 25 = .ok (.putfield 16, 3) := dk_181 0 16 (dk_at dksX0_init_1 2 rfl rfl)
theorem dX0_init_28 : decode cX0_init 28 = .ok (.return_, 1) := dk_177 (dk_at dksX0_init_1 5 rfl rfl)
abbrev cX0_key : ByteArray := prog_7_method_3_code
def yX0_key : MethodName := ⟨RX0, "key", "(IIIII)V"⟩
def dkwX0_key_2 : List UInt8 := [21, 6, 16, 12, 96, 21, 5, 184, 0, 19, 177]
abbrev dktX0_key_2 : List UInt8 := dkwX0_key_2 ++ []
def dkwX0_key_1 : List UInt8 := [96, 29, 184, 0, 19, 42, 180, 0, 7, 21, 6, 16, 8, 96, 21, 4, 184, 0, 19, 42, 180, 0, 7]
abbrev dktX0_key_1 : List UInt8 := dkwX0_key_1 ++ dktX0_key_2
def dkwX0_key_0 : List UInt8 := [27, 4, 126, 7, 120, 54, 6, 42, 180, 0, 7, 21, 6, 28, 184, 0, 19, 42, 180, 0, 7, 21, 6, 7]
abbrev dktX0_key_0 : List UInt8 := dkwX0_key_0 ++ dktX0_key_1
theorem dksX0_key_0 : cX0_key.data.toList.drop 0 = dktX0_key_0 := by decide +kernel
theorem dksX0_key_1 : cX0_key.data.toList.drop 24 = dktX0_key_1 := dk_seg dksX0_key_0 24 rfl rfl
theorem dksX0_key_2 : cX0_key.data.toList.drop 47 = dktX0_key_2 := dk_seg dksX0_key_1 23 rfl rfl
theorem dX0_key_0 : decode cX0_key 0 = .ok (.iload_n 1, 1) := dk_27 (dk_at dksX0_key_0 0 rfl rfl)
theorem dX0_key_1 : decode cX0_key 1 = .ok (.iconst 1, 1) := dk_4 (dk_at dksX0_key_0 1 rfl rfl)
theorem dX0_key_2 : decode cX0_key 2 = .ok (.iand, 1) := dk_126 (dk_at dksX0_key_0 2 rfl rfl)
theorem dX0_key_3 : decode cX0_key 3 = .ok (.iconst 4, 1) := dk_7 (dk_at dksX0_key_0 3 rfl rfl)
theorem dX0_key_4 : decode cX0_key 4 = .ok (.ishl, 1) := dk_120 (dk_at dksX0_key_0 4 rfl rfl)
theorem dX0_key_5 : decode cX0_key 5 = .ok (.istore 6, 2) := dk_54 6 (dk_at dksX0_key_0 5 rfl rfl)
theorem dX0_key_7 : decode cX0_key 7 = .ok (.aload_n 0, 1) := dk_42 (dk_at dksX0_key_0 7 rfl rfl)
theorem dX0_key_8 : decode cX0_key 8 = .ok (.getfield 7, 3) := dk_180 0 7 (dk_at dksX0_key_0 8 rfl rfl)
theorem dX0_key_11 : decode cX0_key 11 = .ok (.iload 6, 2) := dk_21 6 (dk_at dksX0_key_0 11 rfl rfl)
theorem dX0_key_13 : decode cX0_key 13 = .ok (.iload_n 2, 1) := dk_28 (dk_at dksX0_key_0 13 rfl rfl)
theorem dX0_key_14 : decode cX0_key 14 = .ok (.invokestatic 19, 3) := dk_184 0 19 (dk_at dksX0_key_0 14 rfl rfl)
theorem dX0_key_17 : decode cX0_key 17 = .ok (.aload_n 0, 1) := dk_42 (dk_at dksX0_key_0 17 rfl rfl)
theorem dX0_key_18 : decode cX0_key 18 = .ok (.getfield 7, 3) := dk_180 0 7 (dk_at dksX0_key_0 18 rfl rfl)
theorem dX0_key_21 : decode cX0_key 21 = .ok (.iload 6, 2) := dk_21 6 (dk_at dksX0_key_0 21 rfl rfl)
theorem dX0_key_23 : decode cX0_key 23 = .ok (.iconst 4, 1) := dk_7 (dk_at dksX0_key_0 23 rfl rfl)
theorem dX0_key_24 : decode cX0_key 24 = .ok (.iadd, 1) := dk_96 (dk_at dksX0_key_1 0 rfl rfl)
theorem dX0_key_25 : decode cX0_key 25 = .ok (.iload_n 3, 1) := dk_29 (dk_at dksX0_key_1 1 rfl rfl)
theorem dX0_key_26 : decode cX0_key 26 = .ok (.invokestatic 19, 3) := dk_184 0 19 (dk_at dksX0_key_1 2 rfl rfl)
theorem dX0_key_29 : decode cX0_key 29 = .ok (.aload_n 0, 1) := dk_42 (dk_at dksX0_key_1 5 rfl rfl)
theorem dX0_key_30 : decode cX0_key 30 = .ok (.getfield 7, 3) := dk_180 0 7 (dk_at dksX0_key_1 6 rfl rfl)
theorem dX0_key_33 : decode cX0_key 33 = .ok (.iload 6, 2) := dk_21 6 (dk_at dksX0_key_1 9 rfl rfl)
theorem dX0_key_35 : decode cX0_key 35 = .ok (.bipush 8, 2) := dk_16 8 (dk_at dksX0_key_1 11 rfl rfl)
theorem dX0_key_37 : decode cX0_key 37 = .ok (.iadd, 1) := dk_96 (dk_at dksX0_key_1 13 rfl rfl)
theorem dX0_key_38 : decode cX0_key 38 = .ok (.iload 4, 2) := dk_21 4 (dk_at dksX0_key_1 14 rfl rfl)
theorem dX0_key_40 : decode cX0_key 40 = .ok (.invokestatic 19, 3) := dk_184 0 19 (dk_at dksX0_key_1 16 rfl rfl)
theorem dX0_key_43 : decode cX0_key 43 = .ok (.aload_n 0, 1) := dk_42 (dk_at dksX0_key_1 19 rfl rfl)
theorem dX0_key_44 : decode cX0_key 44 = .ok (.getfield 7, 3) := dk_180 0 7 (dk_at dksX0_key_1 20 rfl rfl)
theorem dX0_key_47 : decode cX0_key 47 = .ok (.iload 6, 2) := dk_21 6 (dk_at dksX0_key_2 0 rfl rfl)
theorem dX0_key_49 : decode cX0_key 49 = .ok (.bipush 12, 2) := dk_16 12 (dk_at dksX0_key_2 2 rfl rfl)
theorem dX0_key_51 : decode cX0_key 51 = .ok (.iadd, 1) := dk_96 (dk_at dksX0_key_2 4 rfl rfl)
theorem dX0_key_52 : decode cX0_key 52 = .ok (.iload 5, 2) := dk_21 5 (dk_at dksX0_key_2 5 rfl rfl)
theorem dX0_key_54 : decode cX0_key 54 = .ok (.invokestatic 19, 3) := dk_184 0 19 (dk_at dksX0_key_2 7 rfl rfl)
theorem dX0_key_57 : decode cX0_key 57 = .ok (.return_, 1) := dk_177 (dk_at dksX0_key_2 10 rfl rfl)
abbrev cX0_word : ByteArray := prog_7_method_2_code
def yX0_word : MethodName := ⟨RX0, "word", "([BII)V"⟩
def dkwX0_word_1 : List UInt8 := [16, 8, 122, 145, 84, 42, 27, 6, 96, 28, 145, 84, 177]
abbrev dktX0_word_1 : List UInt8 := dkwX0_word_1 ++ []
def dkwX0_word_0 : List UInt8 := [42, 27, 28, 16, 24, 122, 145, 84, 42, 27, 4, 96, 28, 16, 16, 122, 145, 84, 42, 27, 5, 96, 28]
abbrev dktX0_word_0 : List UInt8 := dkwX0_word_0 ++ dktX0_word_1
theorem dksX0_word_0 : cX0_word.data.toList.drop 0 = dktX0_word_0 := by decide +kernel
theorem dksX0_word_1 : cX0_word.data.toList.drop 23 = dktX0_word_1 := dk_seg dksX0_word_0 23 rfl rfl
theorem dX0_word_0 : decode cX0_word 0 = .ok (.aload_n 0, 1) := dk_42 (dk_at dksX0_word_0 0 rfl rfl)
theorem dX0_word_1 : decode cX0_word 1 = .ok (.iload_n 1, 1) := dk_27 (dk_at dksX0_word_0 1 rfl rfl)
theorem dX0_word_2 : decode cX0_word 2 = .ok (.iload_n 2, 1) := dk_28 (dk_at dksX0_word_0 2 rfl rfl)
theorem dX0_word_3 : decode cX0_word 3 = .ok (.bipush 24, 2) := dk_16 24 (dk_at dksX0_word_0 3 rfl rfl)
theorem dX0_word_5 : decode cX0_word 5 = .ok (.ishr, 1) := dk_122 (dk_at dksX0_word_0 5 rfl rfl)
theorem dX0_word_6 : decode cX0_word 6 = .ok (.i2b, 1) := dk_145 (dk_at dksX0_word_0 6 rfl rfl)
theorem dX0_word_7 : decode cX0_word 7 = .ok (.bastore, 1) := dk_84 (dk_at dksX0_word_0 7 rfl rfl)
theorem dX0_word_8 : decode cX0_word 8 = .ok (.aload_n 0, 1) := dk_42 (dk_at dksX0_word_0 8 rfl rfl)
theorem dX0_word_9 : decode cX0_word 9 = .ok (.iload_n 1, 1) := dk_27 (dk_at dksX0_word_0 9 rfl rfl)
theorem dX0_word_10 : decode cX0_word 10 = .ok (.iconst 1, 1) := dk_4 (dk_at dksX0_word_0 10 rfl rfl)
theorem dX0_word_11 : decode cX0_word 11 = .ok (.iadd, 1) := dk_96 (dk_at dksX0_word_0 11 rfl rfl)
theorem dX0_word_12 : decode cX0_word 12 = .ok (.iload_n 2, 1) := dk_28 (dk_at dksX0_word_0 12 rfl rfl)
theorem dX0_word_13 : decode cX0_word 13 = .ok (.bipush 16, 2) := dk_16 16 (dk_at dksX0_word_0 13 rfl rfl)
theorem dX0_word_15 : decode cX0_word 15 = .ok (.ishr, 1) := dk_122 (dk_at dksX0_word_0 15 rfl rfl)
theorem dX0_word_16 : decode cX0_word 16 = .ok (.i2b, 1) := dk_145 (dk_at dksX0_word_0 16 rfl rfl)
theorem dX0_word_17 : decode cX0_word 17 = .ok (.bastore, 1) := dk_84 (dk_at dksX0_word_0 17 rfl rfl)
theorem dX0_word_18 : decode cX0_word 18 = .ok (.aload_n 0, 1) := dk_42 (dk_at dksX0_word_0 18 rfl rfl)
theorem dX0_word_19 : decode cX0_word 19 = .ok (.iload_n 1, 1) := dk_27 (dk_at dksX0_word_0 19 rfl rfl)
theorem dX0_word_20 : decode cX0_word 20 = .ok (.iconst 2, 1) := dk_5 (dk_at dksX0_word_0 20 rfl rfl)
theorem dX0_word_21 : decode cX0_word 21 = .ok (.iadd, 1) := dk_96 (dk_at dksX0_word_0 21 rfl rfl)
theorem dX0_word_22 : decode cX0_word 22 = .ok (.iload_n 2, 1) := dk_28 (dk_at dksX0_word_0 22 rfl rfl)
theorem dX0_word_23 : decode cX0_word 23 = .ok (.bipush 8, 2) := dk_16 8 (dk_at dksX0_word_1 0 rfl rfl)
theorem dX0_word_25 : decode cX0_word 25 = .ok (.ishr, 1) := dk_122 (dk_at dksX0_word_1 2 rfl rfl)
theorem dX0_word_26 : decode cX0_word 26 = .ok (.i2b, 1) := dk_145 (dk_at dksX0_word_1 3 rfl rfl)
theorem dX0_word_27 : decode cX0_word 27 = .ok (.bastore, 1) := dk_84 (dk_at dksX0_word_1 4 rfl rfl)
theorem dX0_word_28 : decode cX0_word 28 = .ok (.aload_n 0, 1) := dk_42 (dk_at dksX0_word_1 5 rfl rfl)
theorem dX0_word_29 : decode cX0_word 29 = .ok (.iload_n 1, 1) := dk_27 (dk_at dksX0_word_1 6 rfl rfl)
theorem dX0_word_30 : decode cX0_word 30 = .ok (.iconst 3, 1) := dk_6 (dk_at dksX0_word_1 7 rfl rfl)
theorem dX0_word_31 : decode cX0_word 31 = .ok (.iadd, 1) := dk_96 (dk_at dksX0_word_1 8 rfl rfl)
theorem dX0_word_32 : decode cX0_word 32 = .ok (.iload_n 2, 1) := dk_28 (dk_at dksX0_word_1 9 rfl rfl)
theorem dX0_word_33 : decode cX0_word 33 = .ok (.i2b, 1) := dk_145 (dk_at dksX0_word_1 10 rfl rfl)
theorem dX0_word_34 : decode cX0_word 34 = .ok (.bastore, 1) := dk_84 (dk_at dksX0_word_1 11 rfl rfl)
theorem dX0_word_35 : decode cX0_word 35 = .ok (.return_, 1) := dk_177 (dk_at dksX0_word_1 12 rfl rfl)
abbrev cX0_block : ByteArray := prog_7_method_4_code
def yX0_block : MethodName := ⟨RX0, "block", "(II)V"⟩
def dkwX0_block_0 : List UInt8 := [42, 180, 0, 13, 3, 27, 184, 0, 19, 42, 180, 0, 13, 7, 28, 184, 0, 19, 177]
abbrev dktX0_block_0 : List UInt8 := dkwX0_block_0 ++ []
theorem dksX0_block_0 : cX0_block.data.toList.drop 0 = dktX0_block_0 := by decide +kernel
theorem dX0_block_0 : decode cX0_block 0 = .ok (.aload_n 0, 1) := dk_42 (dk_at dksX0_block_0 0 rfl rfl)
theorem dX0_block_1 : decode cX0_block 1 = .ok (.getfield 13, 3) := dk_180 0 13 (dk_at dksX0_block_0 1 rfl rfl)
theorem dX0_block_4 : decode cX0_block 4 = .ok (.iconst 0, 1) := dk_3 (dk_at dksX0_block_0 4 rfl rfl)
theorem dX0_block_5 : decode cX0_block 5 = .ok (.iload_n 1, 1) := dk_27 (dk_at dksX0_block_0 5 rfl rfl)
theorem dX0_block_6 : decode cX0_block 6 = .ok (.invokestatic 19, 3) := dk_184 0 19 (dk_at dksX0_block_0 6 rfl rfl)
theorem dX0_block_9 : decode cX0_block 9 = .ok (.aload_n 0, 1) := dk_42 (dk_at dksX0_block_0 9 rfl rfl)
theorem dX0_block_10 : decode cX0_block 10 = .ok (.getfield 13, 3) := dk_180 0 13 (dk_at dksX0_block_0 10 rfl rfl)
theorem dX0_block_13 : decode cX0_block 13 = .ok (.iconst 4, 1) := dk_7 (dk_at dksX0_block_0 13 rfl rfl)
theorem dX0_block_14 : decode cX0_block 14 = .ok (.iload_n 2, 1) := dk_28 (dk_at dksX0_block_0 14 rfl rfl)
theorem dX0_block_15 : decode cX0_block 15 = .ok (.invokestatic 19, 3) := dk_184 0 19 (dk_at dksX0_block_0 15 rfl rfl)
theorem dX0_block_18 : decode cX0_block 18 = .ok (.return_, 1) := dk_177 (dk_at dksX0_block_0 18 rfl rfl)
abbrev cX0_lock : ByteArray := prog_7_method_7_code
def yX0_lock : MethodName := ⟨RX0, "lock", "(I)V"⟩
def dkwX0_lock_0 : List UInt8 := [42, 4, 27, 182, 0, 45, 177]
abbrev dktX0_lock_0 : List UInt8 := dkwX0_lock_0 ++ []
theorem dksX0_lock_0 : cX0_lock.data.toList.drop 0 = dktX0_lock_0 := by decide +kernel
theorem dX0_lock_0 : decode cX0_lock 0 = .ok (.aload_n 0, 1) := dk_42 (dk_at dksX0_lock_0 0 rfl rfl)
theorem dX0_lock_1 : decode cX0_lock 1 = .ok (.iconst 1, 1) := dk_4 (dk_at dksX0_lock_0 1 rfl rfl)
theorem dX0_lock_2 : decode cX0_lock 2 = .ok (.iload_n 1, 1) := dk_27 (dk_at dksX0_lock_0 2 rfl rfl)
theorem dX0_lock_3 : decode cX0_lock 3 = .ok (.invokevirtual 45, 3) := dk_182 0 45 (dk_at dksX0_lock_0 3 rfl rfl)
theorem dX0_lock_6 : decode cX0_lock 6 = .ok (.return_, 1) := dk_177 (dk_at dksX0_lock_0 6 rfl rfl)
abbrev cX0_run : ByteArray := prog_7_method_5_code
def yX0_run : MethodName := ⟨RX0, "run", "(ZI)V"⟩
def dkwX0_run_3 : List UInt8 := [180, 0, 13, 3, 42, 180, 0, 16, 3, 185, 0, 41, 5, 0, 87, 177]
abbrev dktX0_run_3 : List UInt8 := dkwX0_run_3 ++ []
def dkwX0_run_2 : List UInt8 := [58, 5, 25, 5, 27, 187, 0, 30, 89, 25, 4, 183, 0, 32, 185, 0, 35, 3, 0, 25, 5, 42]
abbrev dktX0_run_2 : List UInt8 := dkwX0_run_2 ++ dktX0_run_3
def dkwX0_run_1 : List UInt8 := [21, 5, 42, 180, 0, 7, 21, 5, 51, 84, 132, 5, 1, 167, 255, 235, 187, 0, 27, 89, 183, 0, 29]
abbrev dktX0_run_1 : List UInt8 := dkwX0_run_1 ++ dktX0_run_2
def dkwX0_run_0 : List UInt8 := [28, 6, 126, 184, 0, 23, 62, 29, 188, 8, 58, 4, 3, 54, 5, 21, 5, 29, 162, 0, 21, 25, 4]
abbrev dktX0_run_0 : List UInt8 := dkwX0_run_0 ++ dktX0_run_1
theorem dksX0_run_0 : cX0_run.data.toList.drop 0 = dktX0_run_0 := by decide +kernel
theorem dksX0_run_1 : cX0_run.data.toList.drop 23 = dktX0_run_1 := dk_seg dksX0_run_0 23 rfl rfl
theorem dksX0_run_2 : cX0_run.data.toList.drop 46 = dktX0_run_2 := dk_seg dksX0_run_1 23 rfl rfl
theorem dksX0_run_3 : cX0_run.data.toList.drop 68 = dktX0_run_3 := dk_seg dksX0_run_2 22 rfl rfl
theorem dX0_run_0 : decode cX0_run 0 = .ok (.iload_n 2, 1) := dk_28 (dk_at dksX0_run_0 0 rfl rfl)
theorem dX0_run_1 : decode cX0_run 1 = .ok (.iconst 3, 1) := dk_6 (dk_at dksX0_run_0 1 rfl rfl)
theorem dX0_run_2 : decode cX0_run 2 = .ok (.iand, 1) := dk_126 (dk_at dksX0_run_0 2 rfl rfl)
theorem dX0_run_3 : decode cX0_run 3 = .ok (.invokestatic 23, 3) := dk_184 0 23 (dk_at dksX0_run_0 3 rfl rfl)
theorem dX0_run_6 : decode cX0_run 6 = .ok (.istore_n 3, 1) := dk_62 (dk_at dksX0_run_0 6 rfl rfl)
theorem dX0_run_7 : decode cX0_run 7 = .ok (.iload_n 3, 1) := dk_29 (dk_at dksX0_run_0 7 rfl rfl)
theorem dX0_run_8 : decode cX0_run 8 = .ok (.newarray .byte, 2) := dk_188_8 (dk_at dksX0_run_0 8 rfl rfl)
theorem dX0_run_10 : decode cX0_run 10 = .ok (.astore 4, 2) := dk_58 4 (dk_at dksX0_run_0 10 rfl rfl)
theorem dX0_run_12 : decode cX0_run 12 = .ok (.iconst 0, 1) := dk_3 (dk_at dksX0_run_0 12 rfl rfl)
theorem dX0_run_13 : decode cX0_run 13 = .ok (.istore 5, 2) := dk_54 5 (dk_at dksX0_run_0 13 rfl rfl)
theorem dX0_run_15 : decode cX0_run 15 = .ok (.iload 5, 2) := dk_21 5 (dk_at dksX0_run_0 15 rfl rfl)
theorem dX0_run_17 : decode cX0_run 17 = .ok (.iload_n 3, 1) := dk_29 (dk_at dksX0_run_0 17 rfl rfl)
theorem dX0_run_18 : decode cX0_run 18 = .ok (.if_icmp .ge 21, 3) := dk_162 0 21 (dk_at dksX0_run_0 18 rfl rfl)
theorem dX0_run_21 : decode cX0_run 21 = .ok (.aload 4, 2) := dk_25 4 (dk_at dksX0_run_0 21 rfl rfl)
theorem dX0_run_23 : decode cX0_run 23 = .ok (.iload 5, 2) := dk_21 5 (dk_at dksX0_run_1 0 rfl rfl)
theorem dX0_run_25 : decode cX0_run 25 = .ok (.aload_n 0, 1) := dk_42 (dk_at dksX0_run_1 2 rfl rfl)
theorem dX0_run_26 : decode cX0_run 26 = .ok (.getfield 7, 3) := dk_180 0 7 (dk_at dksX0_run_1 3 rfl rfl)
theorem dX0_run_29 : decode cX0_run 29 = .ok (.iload 5, 2) := dk_21 5 (dk_at dksX0_run_1 6 rfl rfl)
theorem dX0_run_31 : decode cX0_run 31 = .ok (.baload, 1) := dk_51 (dk_at dksX0_run_1 8 rfl rfl)
theorem dX0_run_32 : decode cX0_run 32 = .ok (.bastore, 1) := dk_84 (dk_at dksX0_run_1 9 rfl rfl)
theorem dX0_run_33 : decode cX0_run 33 = .ok (.iinc 5 1, 3) := dk_132 5 1 (dk_at dksX0_run_1 10 rfl rfl)
theorem dX0_run_36 : decode cX0_run 36 = .ok (.goto (-21), 3) := dk_167 255 235 (dk_at dksX0_run_1 13 rfl rfl)
theorem dX0_run_39 : decode cX0_run 39 = .ok (.new 27, 3) := dk_187 0 27 (dk_at dksX0_run_1 16 rfl rfl)
theorem dX0_run_42 : decode cX0_run 42 = .ok (.dup, 1) := dk_89 (dk_at dksX0_run_1 19 rfl rfl)
theorem dX0_run_43 : decode cX0_run 43 = .ok (.invokespecial 29, 3) := dk_183 0 29 (dk_at dksX0_run_1 20 rfl rfl)
theorem dX0_run_46 : decode cX0_run 46 = .ok (.astore 5, 2) := dk_58 5 (dk_at dksX0_run_2 0 rfl rfl)
theorem dX0_run_48 : decode cX0_run 48 = .ok (.aload 5, 2) := dk_25 5 (dk_at dksX0_run_2 2 rfl rfl)
theorem dX0_run_50 : decode cX0_run 50 = .ok (.iload_n 1, 1) := dk_27 (dk_at dksX0_run_2 4 rfl rfl)
theorem dX0_run_51 : decode cX0_run 51 = .ok (.new 30, 3) := dk_187 0 30 (dk_at dksX0_run_2 5 rfl rfl)
theorem dX0_run_54 : decode cX0_run 54 = .ok (.dup, 1) := dk_89 (dk_at dksX0_run_2 8 rfl rfl)
theorem dX0_run_55 : decode cX0_run 55 = .ok (.aload 4, 2) := dk_25 4 (dk_at dksX0_run_2 9 rfl rfl)
theorem dX0_run_57 : decode cX0_run 57 = .ok (.invokespecial 32, 3) := dk_183 0 32 (dk_at dksX0_run_2 11 rfl rfl)
theorem dX0_run_60 : decode cX0_run 60 = .ok (.invokeinterface 35 3, 5) := by decide +kernel
theorem dX0_run_65 : decode cX0_run 65 = .ok (.aload 5, 2) := dk_25 5 (dk_at dksX0_run_2 19 rfl rfl)
theorem dX0_run_67 : decode cX0_run 67 = .ok (.aload_n 0, 1) := dk_42 (dk_at dksX0_run_2 21 rfl rfl)
theorem dX0_run_68 : decode cX0_run 68 = .ok (.getfield 13, 3) := dk_180 0 13 (dk_at dksX0_run_3 0 rfl rfl)
theorem dX0_run_71 : decode cX0_run 71 = .ok (.iconst 0, 1) := dk_3 (dk_at dksX0_run_3 3 rfl rfl)
theorem dX0_run_72 : decode cX0_run 72 = .ok (.aload_n 0, 1) := dk_42 (dk_at dksX0_run_3 4 rfl rfl)
theorem dX0_run_73 : decode cX0_run 73 = .ok (.getfield 16, 3) := dk_180 0 16 (dk_at dksX0_run_3 5 rfl rfl)
theorem dX0_run_76 : decode cX0_run 76 = .ok (.iconst 0, 1) := dk_3 (dk_at dksX0_run_3 8 rfl rfl)
theorem dX0_run_77 : decode cX0_run 77 = .ok (.invokeinterface 41 5, 5) := by decide +kernel
theorem dX0_run_82 : decode cX0_run 82 = .ok (.pop, 1) := dk_87 (dk_at dksX0_run_3 14 rfl rfl)
theorem dX0_run_83 : decode cX0_run 83 = .ok (.return_, 1) := dk_177 (dk_at dksX0_run_3 15 rfl rfl)
abbrev cX0_size : ByteArray := prog_7_method_6_code
def yX0_size : MethodName := ⟨RX0, "size", "(I)I"⟩
theorem dX0_size_0 : decode cX0_size 0 = .ok (.bipush 16, 2) := by decide +kernel
theorem dX0_size_2 : decode cX0_size 2 = .ok (.ireturn, 1) := by decide +kernel
abbrev cX0_open : ByteArray := prog_7_method_8_code
def yX0_open : MethodName := ⟨RX0, "open", "(I)V"⟩
def dkwX0_open_0 : List UInt8 := [42, 3, 27, 182, 0, 45, 177]
abbrev dktX0_open_0 : List UInt8 := dkwX0_open_0 ++ []
theorem dksX0_open_0 : cX0_open.data.toList.drop 0 = dktX0_open_0 := by decide +kernel
theorem dX0_open_0 : decode cX0_open 0 = .ok (.aload_n 0, 1) := dk_42 (dk_at dksX0_open_0 0 rfl rfl)
theorem dX0_open_1 : decode cX0_open 1 = .ok (.iconst 0, 1) := dk_3 (dk_at dksX0_open_0 1 rfl rfl)
theorem dX0_open_2 : decode cX0_open 2 = .ok (.iload_n 1, 1) := dk_27 (dk_at dksX0_open_0 2 rfl rfl)
theorem dX0_open_3 : decode cX0_open 3 = .ok (.invokevirtual 45, 3) := dk_182 0 45 (dk_at dksX0_open_0 3 rfl rfl)
theorem dX0_open_6 : decode cX0_open 6 = .ok (.return_, 1) := dk_177 (dk_at dksX0_open_0 6 rfl rfl)
abbrev cX0_again : ByteArray := prog_7_method_9_code
def yX0_again : MethodName := ⟨RX0, "again", "()V"⟩
def dkwX0_again_1 : List UInt8 := [167, 255, 235, 177]
abbrev dktX0_again_1 : List UInt8 := dkwX0_again_1 ++ []
def dkwX0_again_0 : List UInt8 := [3, 60, 27, 16, 8, 162, 0, 21, 42, 180, 0, 13, 27, 42, 180, 0, 16, 27, 51, 84, 132, 1, 1]
abbrev dktX0_again_0 : List UInt8 := dkwX0_again_0 ++ dktX0_again_1
theorem dksX0_again_0 : cX0_again.data.toList.drop 0 = dktX0_again_0 := by decide +kernel
theorem dksX0_again_1 : cX0_again.data.toList.drop 23 = dktX0_again_1 := dk_seg dksX0_again_0 23 rfl rfl
theorem dX0_again_0 : decode cX0_again 0 = .ok (.iconst 0, 1) := dk_3 (dk_at dksX0_again_0 0 rfl rfl)
theorem dX0_again_1 : decode cX0_again 1 = .ok (.istore_n 1, 1) := dk_60 (dk_at dksX0_again_0 1 rfl rfl)
theorem dX0_again_2 : decode cX0_again 2 = .ok (.iload_n 1, 1) := dk_27 (dk_at dksX0_again_0 2 rfl rfl)
theorem dX0_again_3 : decode cX0_again 3 = .ok (.bipush 8, 2) := dk_16 8 (dk_at dksX0_again_0 3 rfl rfl)
theorem dX0_again_5 : decode cX0_again 5 = .ok (.if_icmp .ge 21, 3) := dk_162 0 21 (dk_at dksX0_again_0 5 rfl rfl)
theorem dX0_again_8 : decode cX0_again 8 = .ok (.aload_n 0, 1) := dk_42 (dk_at dksX0_again_0 8 rfl rfl)
theorem dX0_again_9 : decode cX0_again 9 = .ok (.getfield 13, 3) := dk_180 0 13 (dk_at dksX0_again_0 9 rfl rfl)
theorem dX0_again_12 : decode cX0_again 12 = .ok (.iload_n 1, 1) := dk_27 (dk_at dksX0_again_0 12 rfl rfl)
theorem dX0_again_13 : decode cX0_again 13 = .ok (.aload_n 0, 1) := dk_42 (dk_at dksX0_again_0 13 rfl rfl)
theorem dX0_again_14 : decode cX0_again 14 = .ok (.getfield 16, 3) := dk_180 0 16 (dk_at dksX0_again_0 14 rfl rfl)
theorem dX0_again_17 : decode cX0_again 17 = .ok (.iload_n 1, 1) := dk_27 (dk_at dksX0_again_0 17 rfl rfl)
theorem dX0_again_18 : decode cX0_again 18 = .ok (.baload, 1) := dk_51 (dk_at dksX0_again_0 18 rfl rfl)
theorem dX0_again_19 : decode cX0_again 19 = .ok (.bastore, 1) := dk_84 (dk_at dksX0_again_0 19 rfl rfl)
theorem dX0_again_20 : decode cX0_again 20 = .ok (.iinc 1 1, 3) := dk_132 1 1 (dk_at dksX0_again_0 20 rfl rfl)
theorem dX0_again_23 : decode cX0_again 23 = .ok (.goto (-21), 3) := dk_167 255 235 (dk_at dksX0_again_1 0 rfl rfl)
theorem dX0_again_26 : decode cX0_again 26 = .ok (.return_, 1) := dk_177 (dk_at dksX0_again_1 3 rfl rfl)
abbrev cX0_out : ByteArray := prog_7_method_10_code
def yX0_out : MethodName := ⟨RX0, "out", "(I)I"⟩
def dkwX0_out_0 : List UInt8 := [42, 180, 0, 16, 27, 16, 7, 126, 51, 17, 0, 255, 126, 172]
abbrev dktX0_out_0 : List UInt8 := dkwX0_out_0 ++ []
theorem dksX0_out_0 : cX0_out.data.toList.drop 0 = dktX0_out_0 := by decide +kernel
theorem dX0_out_0 : decode cX0_out 0 = .ok (.aload_n 0, 1) := dk_42 (dk_at dksX0_out_0 0 rfl rfl)
theorem dX0_out_1 : decode cX0_out 1 = .ok (.getfield 16, 3) := dk_180 0 16 (dk_at dksX0_out_0 1 rfl rfl)
theorem dX0_out_4 : decode cX0_out 4 = .ok (.iload_n 1, 1) := dk_27 (dk_at dksX0_out_0 4 rfl rfl)
theorem dX0_out_5 : decode cX0_out 5 = .ok (.bipush 7, 2) := dk_16 7 (dk_at dksX0_out_0 5 rfl rfl)
theorem dX0_out_7 : decode cX0_out 7 = .ok (.iand, 1) := dk_126 (dk_at dksX0_out_0 7 rfl rfl)
theorem dX0_out_8 : decode cX0_out 8 = .ok (.baload, 1) := dk_51 (dk_at dksX0_out_0 8 rfl rfl)
theorem dX0_out_9 : decode cX0_out 9 = .ok (.sipush 255, 3) := dk_17 0 255 (dk_at dksX0_out_0 9 rfl rfl)
theorem dX0_out_12 : decode cX0_out 12 = .ok (.iand, 1) := dk_126 (dk_at dksX0_out_0 12 rfl rfl)
theorem dX0_out_13 : decode cX0_out 13 = .ok (.ireturn, 1) := dk_172 (dk_at dksX0_out_0 13 rfl rfl)
theorem q12 : (Jvm.Cond.initialized "RcFiveDesk") ∈ lw_all := lw_g (lw_at lw_m1 1 rfl) rfl
theorem q22 : (Jvm.Cond.instantiable "RcFiveDesk" (3 : Nat)) ∈ lw_all := lw_g (lw_at lw_m1 11 rfl) rfl
theorem q24 : (Jvm.Cond.instanceMethod ({ cls := "RcFiveDesk", name := "<init>", desc := "()V" } : Jvm.MethodName)) ∈ lw_all := lw_g (lw_at lw_m1 13 rfl) rfl
theorem q25 : (Jvm.Cond.code ({ cls := "RcFiveDesk", name := "<init>", desc := "()V" } : Jvm.MethodName) prog_7_method_1_code (1 : Nat) (Option.none : Option Jvm.ClassFile.FieldType)) ∈ lw_all := lw_g (lw_at lw_m1 14 rfl) rfl
theorem q26 : (Jvm.Cond.methodLink "RcFiveDesk" (1 : Nat) ({ cls := "java/lang/Object", name := "<init>", desc := "()V" } : Jvm.MethodName)) ∈ lw_all := lw_g (lw_at lw_m1 15 rfl) rfl
theorem q29 : (Jvm.Cond.fieldLink "RcFiveDesk" (7 : Nat) "RcFiveDesk" "key" "[B") ∈ lw_all := lw_g (lw_at lw_m1 18 rfl) rfl
theorem q30 : (Jvm.Cond.fieldLink "RcFiveDesk" (13 : Nat) "RcFiveDesk" "block" "[B") ∈ lw_all := lw_g (lw_at lw_m1 19 rfl) rfl
theorem q31 : (Jvm.Cond.fieldLink "RcFiveDesk" (16 : Nat) "RcFiveDesk" "out" "[B") ∈ lw_all := lw_g (lw_at lw_m1 20 rfl) rfl
theorem q32 : (Jvm.Cond.laysFinal "RcFiveDesk" "RcFiveDesk" "key" "[B") ∈ lw_all := lw_g (lw_at lw_m1 21 rfl) rfl
theorem q33 : (Jvm.Cond.soleField "RcFiveDesk" "key") ∈ lw_all := lw_g (lw_at lw_m1 22 rfl) rfl
theorem q34 : (Jvm.Cond.laysFinal "RcFiveDesk" "RcFiveDesk" "block" "[B") ∈ lw_all := lw_g (lw_at lw_m1 23 rfl) rfl
theorem q35 : (Jvm.Cond.soleField "RcFiveDesk" "block") ∈ lw_all := lw_g (lw_at lw_m1 24 rfl) rfl
theorem q36 : (Jvm.Cond.laysFinal "RcFiveDesk" "RcFiveDesk" "out" "[B") ∈ lw_all := lw_g (lw_at lw_m1 25 rfl) rfl
theorem q37 : (Jvm.Cond.soleField "RcFiveDesk" "out") ∈ lw_all := lw_g (lw_at lw_m1 26 rfl) rfl
theorem q38 : (Jvm.Cond.superclass "RcFiveDesk" "java/lang/Object") ∈ lw_all := lw_g (lw_at lw_m1 27 rfl) rfl
theorem q41 : (Jvm.Cond.instanceMethod ({ cls := "RcFiveDesk", name := "key", desc := "(IIIII)V" } : Jvm.MethodName)) ∈ lw_all := lw_g (lw_at lw_m1 30 rfl) rfl
theorem q42 : (Jvm.Cond.selects "RcFiveDesk" ({ cls := "RcFiveDesk", name := "key", desc := "(IIIII)V" } : Jvm.MethodName) ({ cls := "RcFiveDesk", name := "key", desc := "(IIIII)V" } : Jvm.MethodName)) ∈ lw_all := lw_g (lw_at lw_m1 31 rfl) rfl
theorem q43 : (Jvm.Cond.code ({ cls := "RcFiveDesk", name := "key", desc := "(IIIII)V" } : Jvm.MethodName) prog_7_method_3_code (7 : Nat) (Option.none : Option Jvm.ClassFile.FieldType)) ∈ lw_all := lw_g (lw_at lw_m1 32 rfl) rfl
theorem q44 : (Jvm.Cond.methodLink "RcFiveDesk" (19 : Nat) ({ cls := "RcFiveDesk", name := "word", desc := "([BII)V" } : Jvm.MethodName)) ∈ lw_all := lw_g (lw_at lw_m1 33 rfl) rfl
theorem q45 : (Jvm.Cond.static ({ cls := "RcFiveDesk", name := "word", desc := "([BII)V" } : Jvm.MethodName)) ∈ lw_all := lw_g (lw_at lw_m1 34 rfl) rfl
theorem q46 : (Jvm.Cond.code ({ cls := "RcFiveDesk", name := "word", desc := "([BII)V" } : Jvm.MethodName) prog_7_method_2_code (3 : Nat) (Option.none : Option Jvm.ClassFile.FieldType)) ∈ lw_all := lw_g (lw_at lw_m1 35 rfl) rfl
theorem q48 : (Jvm.Cond.instanceMethod ({ cls := "RcFiveDesk", name := "block", desc := "(II)V" } : Jvm.MethodName)) ∈ lw_all := lw_g (lw_at lw_m1 37 rfl) rfl
theorem q49 : (Jvm.Cond.selects "RcFiveDesk" ({ cls := "RcFiveDesk", name := "block", desc := "(II)V" } : Jvm.MethodName) ({ cls := "RcFiveDesk", name := "block", desc := "(II)V" } : Jvm.MethodName)) ∈ lw_all := lw_g (lw_at lw_m1 38 rfl) rfl
theorem q50 : (Jvm.Cond.code ({ cls := "RcFiveDesk", name := "block", desc := "(II)V" } : Jvm.MethodName) prog_7_method_4_code (3 : Nat) (Option.none : Option Jvm.ClassFile.FieldType)) ∈ lw_all := lw_g (lw_at lw_m1 39 rfl) rfl
theorem q52 : (Jvm.Cond.instanceMethod ({ cls := "RcFiveDesk", name := "lock", desc := "(I)V" } : Jvm.MethodName)) ∈ lw_all := lw_g (lw_at lw_m1 41 rfl) rfl
theorem q53 : (Jvm.Cond.selects "RcFiveDesk" ({ cls := "RcFiveDesk", name := "lock", desc := "(I)V" } : Jvm.MethodName) ({ cls := "RcFiveDesk", name := "lock", desc := "(I)V" } : Jvm.MethodName)) ∈ lw_all := lw_g (lw_at lw_m1 42 rfl) rfl
theorem q54 : (Jvm.Cond.code ({ cls := "RcFiveDesk", name := "lock", desc := "(I)V" } : Jvm.MethodName) prog_7_method_7_code (2 : Nat) (Option.none : Option Jvm.ClassFile.FieldType)) ∈ lw_all := lw_g (lw_at lw_m1 43 rfl) rfl
theorem q55 : (Jvm.Cond.methodLink "RcFiveDesk" (45 : Nat) ({ cls := "RcFiveDesk", name := "run", desc := "(ZI)V" } : Jvm.MethodName)) ∈ lw_all := lw_g (lw_at lw_m1 44 rfl) rfl
theorem q56 : (Jvm.Cond.privateMethod ({ cls := "RcFiveDesk", name := "run", desc := "(ZI)V" } : Jvm.MethodName)) ∈ lw_tbl := lw_at lw_m1 45 rfl
theorem q57 : (Jvm.Cond.instanceMethod ({ cls := "RcFiveDesk", name := "run", desc := "(ZI)V" } : Jvm.MethodName)) ∈ lw_all := lw_g (lw_at lw_m1 46 rfl) rfl
theorem q58 : (Jvm.Cond.code ({ cls := "RcFiveDesk", name := "run", desc := "(ZI)V" } : Jvm.MethodName) prog_7_method_5_code (6 : Nat) (Option.none : Option Jvm.ClassFile.FieldType)) ∈ lw_all := lw_g (lw_at lw_m1 47 rfl) rfl
theorem q59 : (Jvm.Cond.methodLink "RcFiveDesk" (23 : Nat) ({ cls := "RcFiveDesk", name := "size", desc := "(I)I" } : Jvm.MethodName)) ∈ lw_all := lw_g (lw_at lw_m1 48 rfl) rfl
theorem q60 : (Jvm.Cond.static ({ cls := "RcFiveDesk", name := "size", desc := "(I)I" } : Jvm.MethodName)) ∈ lw_all := lw_g (lw_at lw_m1 49 rfl) rfl
theorem q61 : (Jvm.Cond.code ({ cls := "RcFiveDesk", name := "size", desc := "(I)I" } : Jvm.MethodName) prog_7_method_6_code (1 : Nat) (Option.some Jvm.ClassFile.FieldType.int)) ∈ lw_all := lw_g (lw_at lw_m1 50 rfl) rfl
theorem q62 : (Jvm.Cond.classLink "RcFiveDesk" (27 : Nat) "RC532Engine") ∈ lw_all := lw_g (lw_at lw_m1 51 rfl) rfl
theorem q64 : (Jvm.Cond.methodLink "RcFiveDesk" (29 : Nat) ({ cls := "RC532Engine", name := "<init>", desc := "()V" } : Jvm.MethodName)) ∈ lw_all := lw_g (lw_at lw_m1 53 rfl) rfl
theorem q78 : (Jvm.Cond.classLink "RcFiveDesk" (30 : Nat) "KeyParameter") ∈ lw_all := lw_g (lw_at lw_m1 67 rfl) rfl
theorem q80 : (Jvm.Cond.methodLink "RcFiveDesk" (32 : Nat) ({ cls := "KeyParameter", name := "<init>", desc := "([B)V" } : Jvm.MethodName)) ∈ lw_all := lw_g (lw_at lw_m1 69 rfl) rfl
theorem q97 : (Jvm.Cond.interfaceEntry "RcFiveDesk" (35 : Nat)) ∈ lw_tbl := lw_at lw_m1 86 rfl
theorem q98 : (Jvm.Cond.methodLink "RcFiveDesk" (35 : Nat) ({ cls := "BlockCipher", name := "init", desc := "(ZLCipherParameters;)V" } : Jvm.MethodName)) ∈ lw_all := lw_g (lw_at lw_m1 87 rfl) rfl
theorem q197 : (Jvm.Cond.interfaceEntry "RcFiveDesk" (41 : Nat)) ∈ lw_tbl := lw_at lw_m1 186 rfl
theorem q198 : (Jvm.Cond.methodLink "RcFiveDesk" (41 : Nat) ({ cls := "BlockCipher", name := "processBlock", desc := "([BI[BI)I" } : Jvm.MethodName)) ∈ lw_all := lw_g (lw_at lw_m1 187 rfl) rfl
theorem q227 : (Jvm.Cond.instanceMethod ({ cls := "RcFiveDesk", name := "open", desc := "(I)V" } : Jvm.MethodName)) ∈ lw_all := lw_g (lw_at lw_m1 216 rfl) rfl
theorem q228 : (Jvm.Cond.selects "RcFiveDesk" ({ cls := "RcFiveDesk", name := "open", desc := "(I)V" } : Jvm.MethodName) ({ cls := "RcFiveDesk", name := "open", desc := "(I)V" } : Jvm.MethodName)) ∈ lw_all := lw_g (lw_at lw_m1 217 rfl) rfl
theorem q229 : (Jvm.Cond.code ({ cls := "RcFiveDesk", name := "open", desc := "(I)V" } : Jvm.MethodName) prog_7_method_8_code (2 : Nat) (Option.none : Option Jvm.ClassFile.FieldType)) ∈ lw_all := lw_g (lw_at lw_m1 218 rfl) rfl
theorem q231 : (Jvm.Cond.instanceMethod ({ cls := "RcFiveDesk", name := "again", desc := "()V" } : Jvm.MethodName)) ∈ lw_all := lw_g (lw_at lw_m1 220 rfl) rfl
theorem q232 : (Jvm.Cond.selects "RcFiveDesk" ({ cls := "RcFiveDesk", name := "again", desc := "()V" } : Jvm.MethodName) ({ cls := "RcFiveDesk", name := "again", desc := "()V" } : Jvm.MethodName)) ∈ lw_all := lw_g (lw_at lw_m1 221 rfl) rfl
theorem q233 : (Jvm.Cond.code ({ cls := "RcFiveDesk", name := "again", desc := "()V" } : Jvm.MethodName) prog_7_method_9_code (2 : Nat) (Option.none : Option Jvm.ClassFile.FieldType)) ∈ lw_all := lw_g (lw_at lw_m1 222 rfl) rfl
theorem q235 : (Jvm.Cond.instanceMethod ({ cls := "RcFiveDesk", name := "out", desc := "(I)I" } : Jvm.MethodName)) ∈ lw_all := lw_g (lw_at lw_m1 224 rfl) rfl
theorem q236 : (Jvm.Cond.selects "RcFiveDesk" ({ cls := "RcFiveDesk", name := "out", desc := "(I)I" } : Jvm.MethodName) ({ cls := "RcFiveDesk", name := "out", desc := "(I)I" } : Jvm.MethodName)) ∈ lw_all := lw_g (lw_at lw_m1 225 rfl) rfl
theorem q237 : (Jvm.Cond.code ({ cls := "RcFiveDesk", name := "out", desc := "(I)I" } : Jvm.MethodName) prog_7_method_10_code (2 : Nat) (Option.some Jvm.ClassFile.FieldType.int)) ∈ lw_all := lw_g (lw_at lw_m1 226 rfl) rfl
theorem in_X0 : ∀ w ∈ wsX00, w ∈ lw_all := lw_in wsX00 [32, 34, 36] (by decide +kernel) (by decide +kernel)
end
section
/-! RcFiveDeskModel -/
set_option maxRecDepth 100000
def RX1 : String := "RcFiveDeskModel"
def TX1 : u_T := fun k => match k with
  | 0 => ("RcFiveDeskModel", "key", "[I", true)
  | 1 => ("RcFiveDeskModel", "block", "[I", true)
  | _ => ("RcFiveDeskModel", "out", "[I", true)
def tyX1 : Nat → FieldType := fun k => match k with
  | 0 => .array .int
  | 1 => .array .int
  | _ => .array .int
abbrev wsX10 : List Cond := u_ws RX1 TX1 3
theorem nmX1 : ∀ a, a < 3 → ∀ b, b < 3 → a ≠ b → (TX1 a).2.1 ≠ (TX1 b).2.1 := by decide +kernel
theorem tyX1_ok : ∀ k, k < 3 → parseFieldDescriptor (TX1 k).2.2.1 = some (tyX1 k) := by decide +kernel
abbrev cX1_init : ByteArray := prog_9_method_1_code
def yX1_init : MethodName := ⟨RX1, "<init>", "()V"⟩
def dkwX1_init_1 : List UInt8 := [188, 10, 181, 0, 16, 177]
abbrev dktX1_init_1 : List UInt8 := dkwX1_init_1 ++ []
def dkwX1_init_0 : List UInt8 := [42, 183, 0, 1, 42, 16, 32, 188, 10, 181, 0, 7, 42, 16, 8, 188, 10, 181, 0, 13, 42, 16, 8]
abbrev dktX1_init_0 : List UInt8 := dkwX1_init_0 ++ dktX1_init_1
theorem dksX1_init_0 : cX1_init.data.toList.drop 0 = dktX1_init_0 := by decide +kernel
theorem dksX1_init_1 : cX1_init.data.toList.drop 23 = dktX1_init_1 := dk_seg dksX1_init_0 23 rfl rfl
theorem dX1_init_0 : decode cX1_init 0 = .ok (.aload_n 0, 1) := dk_42 (dk_at dksX1_init_0 0 rfl rfl)
theorem dX1_init_1 : decode cX1_init 1 = .ok (.invokespecial 1, 3) := dk_183 0 1 (dk_at dksX1_init_0 1 rfl rfl)
theorem dX1_init_4 : decode cX1_init 4 = .ok (.aload_n 0, 1) := dk_42 (dk_at dksX1_init_0 4 rfl rfl)
theorem dX1_init_5 : decode cX1_init 5 = .ok (.bipush 32, 2) := dk_16 32 (dk_at dksX1_init_0 5 rfl rfl)
theorem dX1_init_7 : decode cX1_init 7 = .ok (.newarray .int, 2) := dk_188_10 (dk_at dksX1_init_0 7 rfl rfl)
theorem dX1_init_9 : decode cX1_init 9 = .ok (.putfield 7, 3) := dk_181 0 7 (dk_at dksX1_init_0 9 rfl rfl)
theorem dX1_init_12 : decode cX1_init 12 = .ok (.aload_n 0, 1) := dk_42 (dk_at dksX1_init_0 12 rfl rfl)
theorem dX1_init_13 : decode cX1_init 13 = .ok (.bipush 8, 2) := dk_16 8 (dk_at dksX1_init_0 13 rfl rfl)
theorem dX1_init_15 : decode cX1_init 15 = .ok (.newarray .int, 2) := dk_188_10 (dk_at dksX1_init_0 15 rfl rfl)
theorem dX1_init_17 : decode cX1_init 17 = .ok (.putfield 13, 3) := dk_181 0 13 (dk_at dksX1_init_0 17 rfl rfl)
theorem dX1_init_20 : decode cX1_init 20 = .ok (.aload_n 0, 1) := dk_42 (dk_at dksX1_init_0 20 rfl rfl)
theorem dX1_init_21 : decode cX1_init 21 = .ok (.bipush 8, 2) := dk_16 8 (dk_at dksX1_init_0 21 rfl rfl)
theorem dX1_init_23 : decode cX1_init 23 = .ok (.newarray .int, 2) := dk_188_10 (dk_at dksX1_init_1 0 rfl rfl)
theorem dX1_init_25 : decode cX1_init 25 = .ok (.putfield 16, 3) := dk_181 0 16 (dk_at dksX1_init_1 2 rfl rfl)
theorem dX1_init_28 : decode cX1_init 28 = .ok (.return_, 1) := dk_177 (dk_at dksX1_init_1 5 rfl rfl)
abbrev cX1_key : ByteArray := prog_9_method_3_code
def yX1_key : MethodName := ⟨RX1, "key", "(IIIII)V"⟩
def dkwX1_key_2 : List UInt8 := [21, 6, 16, 12, 96, 21, 5, 184, 0, 19, 177]
abbrev dktX1_key_2 : List UInt8 := dkwX1_key_2 ++ []
def dkwX1_key_1 : List UInt8 := [7, 96, 29, 184, 0, 19, 42, 180, 0, 7, 21, 6, 16, 8, 96, 21, 4, 184, 0, 19, 42, 180, 0, 7]
abbrev dktX1_key_1 : List UInt8 := dkwX1_key_1 ++ dktX1_key_2
def dkwX1_key_0 : List UInt8 := [27, 4, 126, 16, 16, 104, 54, 6, 42, 180, 0, 7, 21, 6, 28, 184, 0, 19, 42, 180, 0, 7, 21, 6]
abbrev dktX1_key_0 : List UInt8 := dkwX1_key_0 ++ dktX1_key_1
theorem dksX1_key_0 : cX1_key.data.toList.drop 0 = dktX1_key_0 := by decide +kernel
theorem dksX1_key_1 : cX1_key.data.toList.drop 24 = dktX1_key_1 := dk_seg dksX1_key_0 24 rfl rfl
theorem dksX1_key_2 : cX1_key.data.toList.drop 48 = dktX1_key_2 := dk_seg dksX1_key_1 24 rfl rfl
theorem dX1_key_0 : decode cX1_key 0 = .ok (.iload_n 1, 1) := dk_27 (dk_at dksX1_key_0 0 rfl rfl)
theorem dX1_key_1 : decode cX1_key 1 = .ok (.iconst 1, 1) := dk_4 (dk_at dksX1_key_0 1 rfl rfl)
theorem dX1_key_2 : decode cX1_key 2 = .ok (.iand, 1) := dk_126 (dk_at dksX1_key_0 2 rfl rfl)
theorem dX1_key_3 : decode cX1_key 3 = .ok (.bipush 16, 2) := dk_16 16 (dk_at dksX1_key_0 3 rfl rfl)
theorem dX1_key_5 : decode cX1_key 5 = .ok (.imul, 1) := dk_104 (dk_at dksX1_key_0 5 rfl rfl)
theorem dX1_key_6 : decode cX1_key 6 = .ok (.istore 6, 2) := dk_54 6 (dk_at dksX1_key_0 6 rfl rfl)
theorem dX1_key_8 : decode cX1_key 8 = .ok (.aload_n 0, 1) := dk_42 (dk_at dksX1_key_0 8 rfl rfl)
theorem dX1_key_9 : decode cX1_key 9 = .ok (.getfield 7, 3) := dk_180 0 7 (dk_at dksX1_key_0 9 rfl rfl)
theorem dX1_key_12 : decode cX1_key 12 = .ok (.iload 6, 2) := dk_21 6 (dk_at dksX1_key_0 12 rfl rfl)
theorem dX1_key_14 : decode cX1_key 14 = .ok (.iload_n 2, 1) := dk_28 (dk_at dksX1_key_0 14 rfl rfl)
theorem dX1_key_15 : decode cX1_key 15 = .ok (.invokestatic 19, 3) := dk_184 0 19 (dk_at dksX1_key_0 15 rfl rfl)
theorem dX1_key_18 : decode cX1_key 18 = .ok (.aload_n 0, 1) := dk_42 (dk_at dksX1_key_0 18 rfl rfl)
theorem dX1_key_19 : decode cX1_key 19 = .ok (.getfield 7, 3) := dk_180 0 7 (dk_at dksX1_key_0 19 rfl rfl)
theorem dX1_key_22 : decode cX1_key 22 = .ok (.iload 6, 2) := dk_21 6 (dk_at dksX1_key_0 22 rfl rfl)
theorem dX1_key_24 : decode cX1_key 24 = .ok (.iconst 4, 1) := dk_7 (dk_at dksX1_key_1 0 rfl rfl)
theorem dX1_key_25 : decode cX1_key 25 = .ok (.iadd, 1) := dk_96 (dk_at dksX1_key_1 1 rfl rfl)
theorem dX1_key_26 : decode cX1_key 26 = .ok (.iload_n 3, 1) := dk_29 (dk_at dksX1_key_1 2 rfl rfl)
theorem dX1_key_27 : decode cX1_key 27 = .ok (.invokestatic 19, 3) := dk_184 0 19 (dk_at dksX1_key_1 3 rfl rfl)
theorem dX1_key_30 : decode cX1_key 30 = .ok (.aload_n 0, 1) := dk_42 (dk_at dksX1_key_1 6 rfl rfl)
theorem dX1_key_31 : decode cX1_key 31 = .ok (.getfield 7, 3) := dk_180 0 7 (dk_at dksX1_key_1 7 rfl rfl)
theorem dX1_key_34 : decode cX1_key 34 = .ok (.iload 6, 2) := dk_21 6 (dk_at dksX1_key_1 10 rfl rfl)
theorem dX1_key_36 : decode cX1_key 36 = .ok (.bipush 8, 2) := dk_16 8 (dk_at dksX1_key_1 12 rfl rfl)
theorem dX1_key_38 : decode cX1_key 38 = .ok (.iadd, 1) := dk_96 (dk_at dksX1_key_1 14 rfl rfl)
theorem dX1_key_39 : decode cX1_key 39 = .ok (.iload 4, 2) := dk_21 4 (dk_at dksX1_key_1 15 rfl rfl)
theorem dX1_key_41 : decode cX1_key 41 = .ok (.invokestatic 19, 3) := dk_184 0 19 (dk_at dksX1_key_1 17 rfl rfl)
theorem dX1_key_44 : decode cX1_key 44 = .ok (.aload_n 0, 1) := dk_42 (dk_at dksX1_key_1 20 rfl rfl)
theorem dX1_key_45 : decode cX1_key 45 = .ok (.getfield 7, 3) := dk_180 0 7 (dk_at dksX1_key_1 21 rfl rfl)
theorem dX1_key_48 : decode cX1_key 48 = .ok (.iload 6, 2) := dk_21 6 (dk_at dksX1_key_2 0 rfl rfl)
theorem dX1_key_50 : decode cX1_key 50 = .ok (.bipush 12, 2) := dk_16 12 (dk_at dksX1_key_2 2 rfl rfl)
theorem dX1_key_52 : decode cX1_key 52 = .ok (.iadd, 1) := dk_96 (dk_at dksX1_key_2 4 rfl rfl)
theorem dX1_key_53 : decode cX1_key 53 = .ok (.iload 5, 2) := dk_21 5 (dk_at dksX1_key_2 5 rfl rfl)
theorem dX1_key_55 : decode cX1_key 55 = .ok (.invokestatic 19, 3) := dk_184 0 19 (dk_at dksX1_key_2 7 rfl rfl)
theorem dX1_key_58 : decode cX1_key 58 = .ok (.return_, 1) := dk_177 (dk_at dksX1_key_2 10 rfl rfl)
abbrev cX1_word : ByteArray := prog_9_method_2_code
def yX1_word : MethodName := ⟨RX1, "word", "([III)V"⟩
def dkwX1_word_1 : List UInt8 := [79, 132, 3, 1, 167, 255, 230, 177]
abbrev dktX1_word_1 : List UInt8 := dkwX1_word_1 ++ []
def dkwX1_word_0 : List UInt8 := [3, 62, 29, 7, 162, 0, 27, 42, 27, 29, 96, 28, 16, 24, 16, 8, 29, 104, 100, 124, 17, 0, 255, 126]
abbrev dktX1_word_0 : List UInt8 := dkwX1_word_0 ++ dktX1_word_1
theorem dksX1_word_0 : cX1_word.data.toList.drop 0 = dktX1_word_0 := by decide +kernel
theorem dksX1_word_1 : cX1_word.data.toList.drop 24 = dktX1_word_1 := dk_seg dksX1_word_0 24 rfl rfl
theorem dX1_word_0 : decode cX1_word 0 = .ok (.iconst 0, 1) := dk_3 (dk_at dksX1_word_0 0 rfl rfl)
theorem dX1_word_1 : decode cX1_word 1 = .ok (.istore_n 3, 1) := dk_62 (dk_at dksX1_word_0 1 rfl rfl)
theorem dX1_word_2 : decode cX1_word 2 = .ok (.iload_n 3, 1) := dk_29 (dk_at dksX1_word_0 2 rfl rfl)
theorem dX1_word_3 : decode cX1_word 3 = .ok (.iconst 4, 1) := dk_7 (dk_at dksX1_word_0 3 rfl rfl)
theorem dX1_word_4 : decode cX1_word 4 = .ok (.if_icmp .ge 27, 3) := dk_162 0 27 (dk_at dksX1_word_0 4 rfl rfl)
theorem dX1_word_7 : decode cX1_word 7 = .ok (.aload_n 0, 1) := dk_42 (dk_at dksX1_word_0 7 rfl rfl)
theorem dX1_word_8 : decode cX1_word 8 = .ok (.iload_n 1, 1) := dk_27 (dk_at dksX1_word_0 8 rfl rfl)
theorem dX1_word_9 : decode cX1_word 9 = .ok (.iload_n 3, 1) := dk_29 (dk_at dksX1_word_0 9 rfl rfl)
theorem dX1_word_10 : decode cX1_word 10 = .ok (.iadd, 1) := dk_96 (dk_at dksX1_word_0 10 rfl rfl)
theorem dX1_word_11 : decode cX1_word 11 = .ok (.iload_n 2, 1) := dk_28 (dk_at dksX1_word_0 11 rfl rfl)
theorem dX1_word_12 : decode cX1_word 12 = .ok (.bipush 24, 2) := dk_16 24 (dk_at dksX1_word_0 12 rfl rfl)
theorem dX1_word_14 : decode cX1_word 14 = .ok (.bipush 8, 2) := dk_16 8 (dk_at dksX1_word_0 14 rfl rfl)
theorem dX1_word_16 : decode cX1_word 16 = .ok (.iload_n 3, 1) := dk_29 (dk_at dksX1_word_0 16 rfl rfl)
theorem dX1_word_17 : decode cX1_word 17 = .ok (.imul, 1) := dk_104 (dk_at dksX1_word_0 17 rfl rfl)
theorem dX1_word_18 : decode cX1_word 18 = .ok (.isub, 1) := dk_100 (dk_at dksX1_word_0 18 rfl rfl)
theorem dX1_word_19 : decode cX1_word 19 = .ok (.iushr, 1) := dk_124 (dk_at dksX1_word_0 19 rfl rfl)
theorem dX1_word_20 : decode cX1_word 20 = .ok (.sipush 255, 3) := dk_17 0 255 (dk_at dksX1_word_0 20 rfl rfl)
theorem dX1_word_23 : decode cX1_word 23 = .ok (.iand, 1) := dk_126 (dk_at dksX1_word_0 23 rfl rfl)
theorem dX1_word_24 : decode cX1_word 24 = .ok (.iastore, 1) := dk_79 (dk_at dksX1_word_1 0 rfl rfl)
theorem dX1_word_25 : decode cX1_word 25 = .ok (.iinc 3 1, 3) := dk_132 3 1 (dk_at dksX1_word_1 1 rfl rfl)
theorem dX1_word_28 : decode cX1_word 28 = .ok (.goto (-26), 3) := dk_167 255 230 (dk_at dksX1_word_1 4 rfl rfl)
theorem dX1_word_31 : decode cX1_word 31 = .ok (.return_, 1) := dk_177 (dk_at dksX1_word_1 7 rfl rfl)
abbrev cX1_block : ByteArray := prog_9_method_4_code
def yX1_block : MethodName := ⟨RX1, "block", "(II)V"⟩
def dkwX1_block_0 : List UInt8 := [42, 180, 0, 13, 3, 27, 184, 0, 19, 42, 180, 0, 13, 7, 28, 184, 0, 19, 177]
abbrev dktX1_block_0 : List UInt8 := dkwX1_block_0 ++ []
theorem dksX1_block_0 : cX1_block.data.toList.drop 0 = dktX1_block_0 := by decide +kernel
theorem dX1_block_0 : decode cX1_block 0 = .ok (.aload_n 0, 1) := dk_42 (dk_at dksX1_block_0 0 rfl rfl)
theorem dX1_block_1 : decode cX1_block 1 = .ok (.getfield 13, 3) := dk_180 0 13 (dk_at dksX1_block_0 1 rfl rfl)
theorem dX1_block_4 : decode cX1_block 4 = .ok (.iconst 0, 1) := dk_3 (dk_at dksX1_block_0 4 rfl rfl)
theorem dX1_block_5 : decode cX1_block 5 = .ok (.iload_n 1, 1) := dk_27 (dk_at dksX1_block_0 5 rfl rfl)
theorem dX1_block_6 : decode cX1_block 6 = .ok (.invokestatic 19, 3) := dk_184 0 19 (dk_at dksX1_block_0 6 rfl rfl)
theorem dX1_block_9 : decode cX1_block 9 = .ok (.aload_n 0, 1) := dk_42 (dk_at dksX1_block_0 9 rfl rfl)
theorem dX1_block_10 : decode cX1_block 10 = .ok (.getfield 13, 3) := dk_180 0 13 (dk_at dksX1_block_0 10 rfl rfl)
theorem dX1_block_13 : decode cX1_block 13 = .ok (.iconst 4, 1) := dk_7 (dk_at dksX1_block_0 13 rfl rfl)
theorem dX1_block_14 : decode cX1_block 14 = .ok (.iload_n 2, 1) := dk_28 (dk_at dksX1_block_0 14 rfl rfl)
theorem dX1_block_15 : decode cX1_block 15 = .ok (.invokestatic 19, 3) := dk_184 0 19 (dk_at dksX1_block_0 15 rfl rfl)
theorem dX1_block_18 : decode cX1_block 18 = .ok (.return_, 1) := dk_177 (dk_at dksX1_block_0 18 rfl rfl)
abbrev cX1_lock : ByteArray := prog_9_method_5_code
def yX1_lock : MethodName := ⟨RX1, "lock", "(I)V"⟩
def dkwX1_lock_0 : List UInt8 := [42, 4, 182, 0, 23, 177]
abbrev dktX1_lock_0 : List UInt8 := dkwX1_lock_0 ++ []
theorem dksX1_lock_0 : cX1_lock.data.toList.drop 0 = dktX1_lock_0 := by decide +kernel
theorem dX1_lock_0 : decode cX1_lock 0 = .ok (.aload_n 0, 1) := dk_42 (dk_at dksX1_lock_0 0 rfl rfl)
theorem dX1_lock_1 : decode cX1_lock 1 = .ok (.iconst 1, 1) := dk_4 (dk_at dksX1_lock_0 1 rfl rfl)
theorem dX1_lock_2 : decode cX1_lock 2 = .ok (.invokevirtual 23, 3) := dk_182 0 23 (dk_at dksX1_lock_0 2 rfl rfl)
theorem dX1_lock_5 : decode cX1_lock 5 = .ok (.return_, 1) := dk_177 (dk_at dksX1_lock_0 5 rfl rfl)
abbrev cX1_run : ByteArray := prog_9_method_12_code
def yX1_run : MethodName := ⟨RX1, "run", "(Z)V"⟩
def dkwX1_run_9 : List UInt8 := [126, 79, 132, 5, 1, 167, 255, 208, 177]
abbrev dktX1_run_9 : List UInt8 := dkwX1_run_9 ++ []
def dkwX1_run_8 : List UInt8 := [17, 0, 255, 126, 79, 42, 180, 0, 16, 7, 21, 5, 96, 21, 4, 16, 8, 21, 5, 104, 124, 17, 0, 255]
abbrev dktX1_run_8 : List UInt8 := dkwX1_run_8 ++ dktX1_run_9
def dkwX1_run_7 : List UInt8 := [3, 54, 5, 21, 5, 7, 162, 0, 48, 42, 180, 0, 16, 21, 5, 29, 16, 8, 21, 5, 104, 124]
abbrev dktX1_run_7 : List UInt8 := dkwX1_run_7 ++ dktX1_run_8
def dkwX1_run_6 : List UInt8 := [21, 4, 130, 62, 132, 5, 255, 167, 255, 209, 21, 4, 44, 4, 46, 100, 54, 4, 29, 44, 3, 46, 100, 62]
abbrev dktX1_run_6 : List UInt8 := dkwX1_run_6 ++ dktX1_run_7
def dkwX1_run_5 : List UInt8 := [29, 116, 184, 0, 33, 29, 130, 54, 4, 29, 44, 5, 21, 5, 104, 46, 100, 21, 4, 116, 184, 0, 33]
abbrev dktX1_run_5 : List UInt8 := dkwX1_run_5 ++ dktX1_run_6
def dkwX1_run_4 : List UInt8 := [167, 0, 71, 16, 12, 54, 5, 21, 5, 4, 161, 0, 47, 21, 4, 44, 5, 21, 5, 104, 4, 96, 46, 100]
abbrev dktX1_run_4 : List UInt8 := dkwX1_run_4 ++ dktX1_run_5
def dkwX1_run_3 : List UInt8 := [29, 130, 29, 184, 0, 33, 44, 5, 21, 5, 104, 4, 96, 46, 96, 54, 4, 132, 5, 1, 167, 255, 210]
abbrev dktX1_run_3 : List UInt8 := dkwX1_run_3 ++ dktX1_run_4
def dkwX1_run_2 : List UInt8 := [16, 12, 163, 0, 45, 29, 21, 4, 130, 21, 4, 184, 0, 33, 44, 5, 21, 5, 104, 46, 96, 62, 21, 4]
abbrev dktX1_run_2 : List UInt8 := dkwX1_run_2 ++ dktX1_run_3
def dkwX1_run_1 : List UInt8 := [27, 153, 0, 72, 29, 44, 3, 46, 96, 62, 21, 4, 44, 4, 46, 96, 54, 4, 4, 54, 5, 21, 5]
abbrev dktX1_run_1 : List UInt8 := dkwX1_run_1 ++ dktX1_run_2
def dkwX1_run_0 : List UInt8 := [42, 182, 0, 37, 77, 42, 180, 0, 13, 3, 184, 0, 29, 62, 42, 180, 0, 13, 7, 184, 0, 29, 54, 4]
abbrev dktX1_run_0 : List UInt8 := dkwX1_run_0 ++ dktX1_run_1
theorem dksX1_run_0 : cX1_run.data.toList.drop 0 = dktX1_run_0 := by decide +kernel
theorem dksX1_run_1 : cX1_run.data.toList.drop 24 = dktX1_run_1 := dk_seg dksX1_run_0 24 rfl rfl
theorem dksX1_run_2 : cX1_run.data.toList.drop 47 = dktX1_run_2 := dk_seg dksX1_run_1 23 rfl rfl
theorem dksX1_run_3 : cX1_run.data.toList.drop 71 = dktX1_run_3 := dk_seg dksX1_run_2 24 rfl rfl
theorem dksX1_run_4 : cX1_run.data.toList.drop 94 = dktX1_run_4 := dk_seg dksX1_run_3 23 rfl rfl
theorem dksX1_run_5 : cX1_run.data.toList.drop 118 = dktX1_run_5 := dk_seg dksX1_run_4 24 rfl rfl
theorem dksX1_run_6 : cX1_run.data.toList.drop 141 = dktX1_run_6 := dk_seg dksX1_run_5 23 rfl rfl
theorem dksX1_run_7 : cX1_run.data.toList.drop 165 = dktX1_run_7 := dk_seg dksX1_run_6 24 rfl rfl
theorem dksX1_run_8 : cX1_run.data.toList.drop 187 = dktX1_run_8 := dk_seg dksX1_run_7 22 rfl rfl
theorem dksX1_run_9 : cX1_run.data.toList.drop 211 = dktX1_run_9 := dk_seg dksX1_run_8 24 rfl rfl
theorem dX1_run_0 : decode cX1_run 0 = .ok (.aload_n 0, 1) := dk_42 (dk_at dksX1_run_0 0 rfl rfl)
theorem dX1_run_1 : decode cX1_run 1 = .ok (.invokevirtual 37, 3) := dk_182 0 37 (dk_at dksX1_run_0 1 rfl rfl)
theorem dX1_run_4 : decode cX1_run 4 = .ok (.astore_n 2, 1) := dk_77 (dk_at dksX1_run_0 4 rfl rfl)
theorem dX1_run_5 : decode cX1_run 5 = .ok (.aload_n 0, 1) := dk_42 (dk_at dksX1_run_0 5 rfl rfl)
theorem dX1_run_6 : decode cX1_run 6 = .ok (.getfield 13, 3) := dk_180 0 13 (dk_at dksX1_run_0 6 rfl rfl)
theorem dX1_run_9 : decode cX1_run 9 = .ok (.iconst 0, 1) := dk_3 (dk_at dksX1_run_0 9 rfl rfl)
theorem dX1_run_10 : decode cX1_run 10 = .ok (.invokestatic 29, 3) := dk_184 0 29 (dk_at dksX1_run_0 10 rfl rfl)
theorem dX1_run_13 : decode cX1_run 13 = .ok (.istore_n 3, 1) := dk_62 (dk_at dksX1_run_0 13 rfl rfl)
theorem dX1_run_14 : decode cX1_run 14 = .ok (.aload_n 0, 1) := dk_42 (dk_at dksX1_run_0 14 rfl rfl)
theorem dX1_run_15 : decode cX1_run 15 = .ok (.getfield 13, 3) := dk_180 0 13 (dk_at dksX1_run_0 15 rfl rfl)
theorem dX1_run_18 : decode cX1_run 18 = .ok (.iconst 4, 1) := dk_7 (dk_at dksX1_run_0 18 rfl rfl)
theorem dX1_run_19 : decode cX1_run 19 = .ok (.invokestatic 29, 3) := dk_184 0 29 (dk_at dksX1_run_0 19 rfl rfl)
theorem dX1_run_22 : decode cX1_run 22 = .ok (.istore 4, 2) := dk_54 4 (dk_at dksX1_run_0 22 rfl rfl)
theorem dX1_run_24 : decode cX1_run 24 = .ok (.iload_n 1, 1) := dk_27 (dk_at dksX1_run_1 0 rfl rfl)
theorem dX1_run_25 : decode cX1_run 25 = .ok (.ifCond .eq 72, 3) := dk_153 0 72 (dk_at dksX1_run_1 1 rfl rfl)
theorem dX1_run_28 : decode cX1_run 28 = .ok (.iload_n 3, 1) := dk_29 (dk_at dksX1_run_1 4 rfl rfl)
theorem dX1_run_29 : decode cX1_run 29 = .ok (.aload_n 2, 1) := dk_44 (dk_at dksX1_run_1 5 rfl rfl)
theorem dX1_run_30 : decode cX1_run 30 = .ok (.iconst 0, 1) := dk_3 (dk_at dksX1_run_1 6 rfl rfl)
theorem dX1_run_31 : decode cX1_run 31 = .ok (.iaload, 1) := dk_46 (dk_at dksX1_run_1 7 rfl rfl)
theorem dX1_run_32 : decode cX1_run 32 = .ok (.iadd, 1) := dk_96 (dk_at dksX1_run_1 8 rfl rfl)
theorem dX1_run_33 : decode cX1_run 33 = .ok (.istore_n 3, 1) := dk_62 (dk_at dksX1_run_1 9 rfl rfl)
theorem dX1_run_34 : decode cX1_run 34 = .ok (.iload 4, 2) := dk_21 4 (dk_at dksX1_run_1 10 rfl rfl)
theorem dX1_run_36 : decode cX1_run 36 = .ok (.aload_n 2, 1) := dk_44 (dk_at dksX1_run_1 12 rfl rfl)
theorem dX1_run_37 : decode cX1_run 37 = .ok (.iconst 1, 1) := dk_4 (dk_at dksX1_run_1 13 rfl rfl)
theorem dX1_run_38 : decode cX1_run 38 = .ok (.iaload, 1) := dk_46 (dk_at dksX1_run_1 14 rfl rfl)
theorem dX1_run_39 : decode cX1_run 39 = .ok (.iadd, 1) := dk_96 (dk_at dksX1_run_1 15 rfl rfl)
theorem dX1_run_40 : decode cX1_run 40 = .ok (.istore 4, 2) := dk_54 4 (dk_at dksX1_run_1 16 rfl rfl)
theorem dX1_run_42 : decode cX1_run 42 = .ok (.iconst 1, 1) := dk_4 (dk_at dksX1_run_1 18 rfl rfl)
theorem dX1_run_43 : decode cX1_run 43 = .ok (.istore 5, 2) := dk_54 5 (dk_at dksX1_run_1 19 rfl rfl)
theorem dX1_run_45 : decode cX1_run 45 = .ok (.iload 5, 2) := dk_21 5 (dk_at dksX1_run_1 21 rfl rfl)
theorem dX1_run_47 : decode cX1_run 47 = .ok (.bipush 12, 2) := dk_16 12 (dk_at dksX1_run_2 0 rfl rfl)
theorem dX1_run_49 : decode cX1_run 49 = .ok (.if_icmp .gt 45, 3) := dk_163 0 45 (dk_at dksX1_run_2 2 rfl rfl)
theorem dX1_run_52 : decode cX1_run 52 = .ok (.iload_n 3, 1) := dk_29 (dk_at dksX1_run_2 5 rfl rfl)
theorem dX1_run_53 : decode cX1_run 53 = .ok (.iload 4, 2) := dk_21 4 (dk_at dksX1_run_2 6 rfl rfl)
theorem dX1_run_55 : decode cX1_run 55 = .ok (.ixor, 1) := dk_130 (dk_at dksX1_run_2 8 rfl rfl)
theorem dX1_run_56 : decode cX1_run 56 = .ok (.iload 4, 2) := dk_21 4 (dk_at dksX1_run_2 9 rfl rfl)
theorem dX1_run_58 : decode cX1_run 58 = .ok (.invokestatic 33, 3) := dk_184 0 33 (dk_at dksX1_run_2 11 rfl rfl)
theorem dX1_run_61 : decode cX1_run 61 = .ok (.aload_n 2, 1) := dk_44 (dk_at dksX1_run_2 14 rfl rfl)
theorem dX1_run_62 : decode cX1_run 62 = .ok (.iconst 2, 1) := dk_5 (dk_at dksX1_run_2 15 rfl rfl)
theorem dX1_run_63 : decode cX1_run 63 = .ok (.iload 5, 2) := dk_21 5 (dk_at dksX1_run_2 16 rfl rfl)
theorem dX1_run_65 : decode cX1_run 65 = .ok (.imul, 1) := dk_104 (dk_at dksX1_run_2 18 rfl rfl)
theorem dX1_run_66 : decode cX1_run 66 = .ok (.iaload, 1) := dk_46 (dk_at dksX1_run_2 19 rfl rfl)
theorem dX1_run_67 : decode cX1_run 67 = .ok (.iadd, 1) := dk_96 (dk_at dksX1_run_2 20 rfl rfl)
theorem dX1_run_68 : decode cX1_run 68 = .ok (.istore_n 3, 1) := dk_62 (dk_at dksX1_run_2 21 rfl rfl)
theorem dX1_run_69 : decode cX1_run 69 = .ok (.iload 4, 2) := dk_21 4 (dk_at dksX1_run_2 22 rfl rfl)
theorem dX1_run_71 : decode cX1_run 71 = .ok (.iload_n 3, 1) := dk_29 (dk_at dksX1_run_3 0 rfl rfl)
theorem dX1_run_72 : decode cX1_run 72 = .ok (.ixor, 1) := dk_130 (dk_at dksX1_run_3 1 rfl rfl)
theorem dX1_run_73 : decode cX1_run 73 = .ok (.iload_n 3, 1) := dk_29 (dk_at dksX1_run_3 2 rfl rfl)
theorem dX1_run_74 : decode cX1_run 74 = .ok (.invokestatic 33, 3) := dk_184 0 33 (dk_at dksX1_run_3 3 rfl rfl)
theorem dX1_run_77 : decode cX1_run 77 = .ok (.aload_n 2, 1) := dk_44 (dk_at dksX1_run_3 6 rfl rfl)
theorem dX1_run_78 : decode cX1_run 78 = .ok (.iconst 2, 1) := dk_5 (dk_at dksX1_run_3 7 rfl rfl)
theorem dX1_run_79 : decode cX1_run 79 = .ok (.iload 5, 2) := dk_21 5 (dk_at dksX1_run_3 8 rfl rfl)
theorem dX1_run_81 : decode cX1_run 81 = .ok (.imul, 1) := dk_104 (dk_at dksX1_run_3 10 rfl rfl)
theorem dX1_run_82 : decode cX1_run 82 = .ok (.iconst 1, 1) := dk_4 (dk_at dksX1_run_3 11 rfl rfl)
theorem dX1_run_83 : decode cX1_run 83 = .ok (.iadd, 1) := dk_96 (dk_at dksX1_run_3 12 rfl rfl)
theorem dX1_run_84 : decode cX1_run 84 = .ok (.iaload, 1) := dk_46 (dk_at dksX1_run_3 13 rfl rfl)
theorem dX1_run_85 : decode cX1_run 85 = .ok (.iadd, 1) := dk_96 (dk_at dksX1_run_3 14 rfl rfl)
theorem dX1_run_86 : decode cX1_run 86 = .ok (.istore 4, 2) := dk_54 4 (dk_at dksX1_run_3 15 rfl rfl)
theorem dX1_run_88 : decode cX1_run 88 = .ok (.iinc 5 1, 3) := dk_132 5 1 (dk_at dksX1_run_3 17 rfl rfl)
theorem dX1_run_91 : decode cX1_run 91 = .ok (.goto (-46), 3) := dk_167 255 210 (dk_at dksX1_run_3 20 rfl rfl)
theorem dX1_run_94 : decode cX1_run 94 = .ok (.goto 71, 3) := dk_167 0 71 (dk_at dksX1_run_4 0 rfl rfl)
theorem dX1_run_97 : decode cX1_run 97 = .ok (.bipush 12, 2) := dk_16 12 (dk_at dksX1_run_4 3 rfl rfl)
theorem dX1_run_99 : decode cX1_run 99 = .ok (.istore 5, 2) := dk_54 5 (dk_at dksX1_run_4 5 rfl rfl)
theorem dX1_run_101 : decode cX1_run 101 = .ok (.iload 5, 2) := dk_21 5 (dk_at dksX1_run_4 7 rfl rfl)
theorem dX1_run_103 : decode cX1_run 103 = .ok (.iconst 1, 1) := dk_4 (dk_at dksX1_run_4 9 rfl rfl)
theorem dX1_run_104 : decode cX1_run 104 = .ok (.if_icmp .lt 47, 3) := dk_161 0 47 (dk_at dksX1_run_4 10 rfl rfl)
theorem dX1_run_107 : decode cX1_run 107 = .ok (.iload 4, 2) := dk_21 4 (dk_at dksX1_run_4 13 rfl rfl)
theorem dX1_run_109 : decode cX1_run 109 = .ok (.aload_n 2, 1) := dk_44 (dk_at dksX1_run_4 15 rfl rfl)
theorem dX1_run_110 : decode cX1_run 110 = .ok (.iconst 2, 1) := dk_5 (dk_at dksX1_run_4 16 rfl rfl)
theorem dX1_run_111 : decode cX1_run 111 = .ok (.iload 5, 2) := dk_21 5 (dk_at dksX1_run_4 17 rfl rfl)
theorem dX1_run_113 : decode cX1_run 113 = .ok (.imul, 1) := dk_104 (dk_at dksX1_run_4 19 rfl rfl)
theorem dX1_run_114 : decode cX1_run 114 = .ok (.iconst 1, 1) := dk_4 (dk_at dksX1_run_4 20 rfl rfl)
theorem dX1_run_115 : decode cX1_run 115 = .ok (.iadd, 1) := dk_96 (dk_at dksX1_run_4 21 rfl rfl)
theorem dX1_run_116 : decode cX1_run 116 = .ok (.iaload, 1) := dk_46 (dk_at dksX1_run_4 22 rfl rfl)
theorem dX1_run_117 : decode cX1_run 117 = .ok (.isub, 1) := dk_100 (dk_at dksX1_run_4 23 rfl rfl)
theorem dX1_run_118 : decode cX1_run 118 = .ok (.iload_n 3, 1) := dk_29 (dk_at dksX1_run_5 0 rfl rfl)
theorem dX1_run_119 : decode cX1_run 119 = .ok (.ineg, 1) := dk_116 (dk_at dksX1_run_5 1 rfl rfl)
theorem dX1_run_120 : decode cX1_run 120 = .ok (.invokestatic 33, 3) := dk_184 0 33 (dk_at dksX1_run_5 2 rfl rfl)
theorem dX1_run_123 : decode cX1_run 123 = .ok (.iload_n 3, 1) := dk_29 (dk_at dksX1_run_5 5 rfl rfl)
theorem dX1_run_124 : decode cX1_run 124 = .ok (.ixor, 1) := dk_130 (dk_at dksX1_run_5 6 rfl rfl)
theorem dX1_run_125 : decode cX1_run 125 = .ok (.istore 4, 2) := dk_54 4 (dk_at dksX1_run_5 7 rfl rfl)
theorem dX1_run_127 : decode cX1_run 127 = .ok (.iload_n 3, 1) := dk_29 (dk_at dksX1_run_5 9 rfl rfl)
theorem dX1_run_128 : decode cX1_run 128 = .ok (.aload_n 2, 1) := dk_44 (dk_at dksX1_run_5 10 rfl rfl)
theorem dX1_run_129 : decode cX1_run 129 = .ok (.iconst 2, 1) := dk_5 (dk_at dksX1_run_5 11 rfl rfl)
theorem dX1_run_130 : decode cX1_run 130 = .ok (.iload 5, 2) := dk_21 5 (dk_at dksX1_run_5 12 rfl rfl)
theorem dX1_run_132 : decode cX1_run 132 = .ok (.imul, 1) := dk_104 (dk_at dksX1_run_5 14 rfl rfl)
theorem dX1_run_133 : decode cX1_run 133 = .ok (.iaload, 1) := dk_46 (dk_at dksX1_run_5 15 rfl rfl)
theorem dX1_run_134 : decode cX1_run 134 = .ok (.isub, 1) := dk_100 (dk_at dksX1_run_5 16 rfl rfl)
theorem dX1_run_135 : decode cX1_run 135 = .ok (.iload 4, 2) := dk_21 4 (dk_at dksX1_run_5 17 rfl rfl)
theorem dX1_run_137 : decode cX1_run 137 = .ok (.ineg, 1) := dk_116 (dk_at dksX1_run_5 19 rfl rfl)
theorem dX1_run_138 : decode cX1_run 138 = .ok (.invokestatic 33, 3) := dk_184 0 33 (dk_at dksX1_run_5 20 rfl rfl)
theorem dX1_run_141 : decode cX1_run 141 = .ok (.iload 4, 2) := dk_21 4 (dk_at dksX1_run_6 0 rfl rfl)
theorem dX1_run_143 : decode cX1_run 143 = .ok (.ixor, 1) := dk_130 (dk_at dksX1_run_6 2 rfl rfl)
theorem dX1_run_144 : decode cX1_run 144 = .ok (.istore_n 3, 1) := dk_62 (dk_at dksX1_run_6 3 rfl rfl)
theorem dX1_run_145 : decode cX1_run 145 = .ok (.iinc 5 (-1), 3) := dk_132 5 255 (dk_at dksX1_run_6 4 rfl rfl)
theorem dX1_run_148 : decode cX1_run 148 = .ok (.goto (-47), 3) := dk_167 255 209 (dk_at dksX1_run_6 7 rfl rfl)
theorem dX1_run_151 : decode cX1_run 151 = .ok (.iload 4, 2) := dk_21 4 (dk_at dksX1_run_6 10 rfl rfl)
theorem dX1_run_153 : decode cX1_run 153 = .ok (.aload_n 2, 1) := dk_44 (dk_at dksX1_run_6 12 rfl rfl)
theorem dX1_run_154 : decode cX1_run 154 = .ok (.iconst 1, 1) := dk_4 (dk_at dksX1_run_6 13 rfl rfl)
theorem dX1_run_155 : decode cX1_run 155 = .ok (.iaload, 1) := dk_46 (dk_at dksX1_run_6 14 rfl rfl)
theorem dX1_run_156 : decode cX1_run 156 = .ok (.isub, 1) := dk_100 (dk_at dksX1_run_6 15 rfl rfl)
theorem dX1_run_157 : decode cX1_run 157 = .ok (.istore 4, 2) := dk_54 4 (dk_at dksX1_run_6 16 rfl rfl)
theorem dX1_run_159 : decode cX1_run 159 = .ok (.iload_n 3, 1) := dk_29 (dk_at dksX1_run_6 18 rfl rfl)
theorem dX1_run_160 : decode cX1_run 160 = .ok (.aload_n 2, 1) := dk_44 (dk_at dksX1_run_6 19 rfl rfl)
theorem dX1_run_161 : decode cX1_run 161 = .ok (.iconst 0, 1) := dk_3 (dk_at dksX1_run_6 20 rfl rfl)
theorem dX1_run_162 : decode cX1_run 162 = .ok (.iaload, 1) := dk_46 (dk_at dksX1_run_6 21 rfl rfl)
theorem dX1_run_163 : decode cX1_run 163 = .ok (.isub, 1) := dk_100 (dk_at dksX1_run_6 22 rfl rfl)
theorem dX1_run_164 : decode cX1_run 164 = .ok (.istore_n 3, 1) := dk_62 (dk_at dksX1_run_6 23 rfl rfl)
theorem dX1_run_165 : decode cX1_run 165 = .ok (.iconst 0, 1) := dk_3 (dk_at dksX1_run_7 0 rfl rfl)
theorem dX1_run_166 : decode cX1_run 166 = .ok (.istore 5, 2) := dk_54 5 (dk_at dksX1_run_7 1 rfl rfl)
theorem dX1_run_168 : decode cX1_run 168 = .ok (.iload 5, 2) := dk_21 5 (dk_at dksX1_run_7 3 rfl rfl)
theorem dX1_run_170 : decode cX1_run 170 = .ok (.iconst 4, 1) := dk_7 (dk_at dksX1_run_7 5 rfl rfl)
theorem dX1_run_171 : decode cX1_run 171 = .ok (.if_icmp .ge 48, 3) := dk_162 0 48 (dk_at dksX1_run_7 6 rfl rfl)
theorem dX1_run_174 : decode cX1_run 174 = .ok (.aload_n 0, 1) := dk_42 (dk_at dksX1_run_7 9 rfl rfl)
theorem dX1_run_175 : decode cX1_run 175 = .ok (.getfield 16, 3) := dk_180 0 16 (dk_at dksX1_run_7 10 rfl rfl)
theorem dX1_run_178 : decode cX1_run 178 = .ok (.iload 5, 2) := dk_21 5 (dk_at dksX1_run_7 13 rfl rfl)
theorem dX1_run_180 : decode cX1_run 180 = .ok (.iload_n 3, 1) := dk_29 (dk_at dksX1_run_7 15 rfl rfl)
theorem dX1_run_181 : decode cX1_run 181 = .ok (.bipush 8, 2) := dk_16 8 (dk_at dksX1_run_7 16 rfl rfl)
theorem dX1_run_183 : decode cX1_run 183 = .ok (.iload 5, 2) := dk_21 5 (dk_at dksX1_run_7 18 rfl rfl)
theorem dX1_run_185 : decode cX1_run 185 = .ok (.imul, 1) := dk_104 (dk_at dksX1_run_7 20 rfl rfl)
theorem dX1_run_186 : decode cX1_run 186 = .ok (.iushr, 1) := dk_124 (dk_at dksX1_run_7 21 rfl rfl)
theorem dX1_run_187 : decode cX1_run 187 = .ok (.sipush 255, 3) := dk_17 0 255 (dk_at dksX1_run_8 0 rfl rfl)
theorem dX1_run_190 : decode cX1_run 190 = .ok (.iand, 1) := dk_126 (dk_at dksX1_run_8 3 rfl rfl)
theorem dX1_run_191 : decode cX1_run 191 = .ok (.iastore, 1) := dk_79 (dk_at dksX1_run_8 4 rfl rfl)
theorem dX1_run_192 : decode cX1_run 192 = .ok (.aload_n 0, 1) := dk_42 (dk_at dksX1_run_8 5 rfl rfl)
theorem dX1_run_193 : decode cX1_run 193 = .ok (.getfield 16, 3) := dk_180 0 16 (dk_at dksX1_run_8 6 rfl rfl)
theorem dX1_run_196 : decode cX1_run 196 = .ok (.iconst 4, 1) := dk_7 (dk_at dksX1_run_8 9 rfl rfl)
theorem dX1_run_197 : decode cX1_run 197 = .ok (.iload 5, 2) := dk_21 5 (dk_at dksX1_run_8 10 rfl rfl)
theorem dX1_run_199 : decode cX1_run 199 = .ok (.iadd, 1) := dk_96 (dk_at dksX1_run_8 12 rfl rfl)
theorem dX1_run_200 : decode cX1_run 200 = .ok (.iload 4, 2) := dk_21 4 (dk_at dksX1_run_8 13 rfl rfl)
theorem dX1_run_202 : decode cX1_run 202 = .ok (.bipush 8, 2) := dk_16 8 (dk_at dksX1_run_8 15 rfl rfl)
theorem dX1_run_204 : decode cX1_run 204 = .ok (.iload 5, 2) := dk_21 5 (dk_at dksX1_run_8 17 rfl rfl)
theorem dX1_run_206 : decode cX1_run 206 = .ok (.imul, 1) := dk_104 (dk_at dksX1_run_8 19 rfl rfl)
theorem dX1_run_207 : decode cX1_run 207 = .ok (.iushr, 1) := dk_124 (dk_at dksX1_run_8 20 rfl rfl)
theorem dX1_run_208 : decode cX1_run 208 = .ok (.sipush 255, 3) := dk_17 0 255 (dk_at dksX1_run_8 21 rfl rfl)
theorem dX1_run_211 : decode cX1_run 211 = .ok (.iand, 1) := dk_126 (dk_at dksX1_run_9 0 rfl rfl)
theorem dX1_run_212 : decode cX1_run 212 = .ok (.iastore, 1) := dk_79 (dk_at dksX1_run_9 1 rfl rfl)
theorem dX1_run_213 : decode cX1_run 213 = .ok (.iinc 5 1, 3) := dk_132 5 1 (dk_at dksX1_run_9 2 rfl rfl)
theorem dX1_run_216 : decode cX1_run 216 = .ok (.goto (-48), 3) := dk_167 255 208 (dk_at dksX1_run_9 5 rfl rfl)
theorem dX1_run_219 : decode cX1_run 219 = .ok (.return_, 1) := dk_177 (dk_at dksX1_run_9 8 rfl rfl)
abbrev cX1_spread : ByteArray := prog_9_method_11_code
def yX1_spread : MethodName := ⟨RX1, "spread", "()[I"⟩
def dkwX1_spread_6 : List UInt8 := [184, 0, 33, 54, 4, 44, 21, 5, 7, 112, 21, 4, 79, 132, 5, 1, 167, 255, 191, 43, 176]
abbrev dktX1_spread_6 : List UInt8 := dkwX1_spread_6 ++ []
def dkwX1_spread_5 : List UInt8 := [21, 5, 43, 190, 112, 29, 79, 44, 21, 5, 7, 112, 46, 29, 96, 21, 4, 96, 29, 21, 4, 96]
abbrev dktX1_spread_5 : List UInt8 := dkwX1_spread_5 ++ dktX1_spread_6
def dkwX1_spread_4 : List UInt8 := [43, 190, 104, 162, 0, 62, 43, 21, 5, 43, 190, 112, 46, 29, 96, 21, 4, 96, 6, 184, 0, 33, 62, 43]
abbrev dktX1_spread_4 : List UInt8 := dkwX1_spread_4 ++ dktX1_spread_5
def dkwX1_spread_3 : List UInt8 := [89, 6, 42, 180, 0, 7, 16, 12, 184, 0, 29, 79, 77, 3, 62, 3, 54, 4, 3, 54, 5, 21, 5, 6]
abbrev dktX1_spread_3 : List UInt8 := dkwX1_spread_3 ++ dktX1_spread_4
def dkwX1_spread_2 : List UInt8 := [79, 89, 4, 42, 180, 0, 7, 7, 184, 0, 29, 79, 89, 5, 42, 180, 0, 7, 16, 8, 184, 0, 29, 79]
abbrev dktX1_spread_2 : List UInt8 := dkwX1_spread_2 ++ dktX1_spread_3
def dkwX1_spread_1 : List UInt8 := [46, 18, 28, 96, 79, 132, 2, 1, 167, 255, 236, 7, 188, 10, 89, 3, 42, 180, 0, 7, 3, 184, 0, 29]
abbrev dktX1_spread_1 : List UInt8 := dkwX1_spread_1 ++ dktX1_spread_2
def dkwX1_spread_0 : List UInt8 := [16, 26, 188, 10, 76, 43, 3, 18, 27, 79, 4, 61, 28, 43, 190, 162, 0, 20, 43, 28, 43, 28, 4, 100]
abbrev dktX1_spread_0 : List UInt8 := dkwX1_spread_0 ++ dktX1_spread_1
theorem dksX1_spread_0 : cX1_spread.data.toList.drop 0 = dktX1_spread_0 := by decide +kernel
theorem dksX1_spread_1 : cX1_spread.data.toList.drop 24 = dktX1_spread_1 := dk_seg dksX1_spread_0 24 rfl rfl
theorem dksX1_spread_2 : cX1_spread.data.toList.drop 48 = dktX1_spread_2 := dk_seg dksX1_spread_1 24 rfl rfl
theorem dksX1_spread_3 : cX1_spread.data.toList.drop 72 = dktX1_spread_3 := dk_seg dksX1_spread_2 24 rfl rfl
theorem dksX1_spread_4 : cX1_spread.data.toList.drop 96 = dktX1_spread_4 := dk_seg dksX1_spread_3 24 rfl rfl
theorem dksX1_spread_5 : cX1_spread.data.toList.drop 120 = dktX1_spread_5 := dk_seg dksX1_spread_4 24 rfl rfl
theorem dksX1_spread_6 : cX1_spread.data.toList.drop 142 = dktX1_spread_6 := dk_seg dksX1_spread_5 22 rfl rfl
theorem dX1_spread_0 : decode cX1_spread 0 = .ok (.bipush 26, 2) := dk_16 26 (dk_at dksX1_spread_0 0 rfl rfl)
theorem dX1_spread_2 : decode cX1_spread 2 = .ok (.newarray .int, 2) := dk_188_10 (dk_at dksX1_spread_0 2 rfl rfl)
theorem dX1_spread_4 : decode cX1_spread 4 = .ok (.astore_n 1, 1) := dk_76 (dk_at dksX1_spread_0 4 rfl rfl)
theorem dX1_spread_5 : decode cX1_spread 5 = .ok (.aload_n 1, 1) := dk_43 (dk_at dksX1_spread_0 5 rfl rfl)
theorem dX1_spread_6 : decode cX1_spread 6 = .ok (.iconst 0, 1) := dk_3 (dk_at dksX1_spread_0 6 rfl rfl)
theorem dX1_spread_7 : decode cX1_spread 7 = .ok (.ldc 27, 2) := dk_18 27 (dk_at dksX1_spread_0 7 rfl rfl)
theorem dX1_spread_9 : decode cX1_spread 9 = .ok (.iastore, 1) := dk_79 (dk_at dksX1_spread_0 9 rfl rfl)
theorem dX1_spread_10 : decode cX1_spread 10 = .ok (.iconst 1, 1) := dk_4 (dk_at dksX1_spread_0 10 rfl rfl)
theorem dX1_spread_11 : decode cX1_spread 11 = .ok (.istore_n 2, 1) := dk_61 (dk_at dksX1_spread_0 11 rfl rfl)
theorem dX1_spread_12 : decode cX1_spread 12 = .ok (.iload_n 2, 1) := dk_28 (dk_at dksX1_spread_0 12 rfl rfl)
theorem dX1_spread_13 : decode cX1_spread 13 = .ok (.aload_n 1, 1) := dk_43 (dk_at dksX1_spread_0 13 rfl rfl)
theorem dX1_spread_14 : decode cX1_spread 14 = .ok (.arraylength, 1) := dk_190 (dk_at dksX1_spread_0 14 rfl rfl)
theorem dX1_spread_15 : decode cX1_spread 15 = .ok (.if_icmp .ge 20, 3) := dk_162 0 20 (dk_at dksX1_spread_0 15 rfl rfl)
theorem dX1_spread_18 : decode cX1_spread 18 = .ok (.aload_n 1, 1) := dk_43 (dk_at dksX1_spread_0 18 rfl rfl)
theorem dX1_spread_19 : decode cX1_spread 19 = .ok (.iload_n 2, 1) := dk_28 (dk_at dksX1_spread_0 19 rfl rfl)
theorem dX1_spread_20 : decode cX1_spread 20 = .ok (.aload_n 1, 1) := dk_43 (dk_at dksX1_spread_0 20 rfl rfl)
theorem dX1_spread_21 : decode cX1_spread 21 = .ok (.iload_n 2, 1) := dk_28 (dk_at dksX1_spread_0 21 rfl rfl)
theorem dX1_spread_22 : decode cX1_spread 22 = .ok (.iconst 1, 1) := dk_4 (dk_at dksX1_spread_0 22 rfl rfl)
theorem dX1_spread_23 : decode cX1_spread 23 = .ok (.isub, 1) := dk_100 (dk_at dksX1_spread_0 23 rfl rfl)
theorem dX1_spread_24 : decode cX1_spread 24 = .ok (.iaload, 1) := dk_46 (dk_at dksX1_spread_1 0 rfl rfl)
theorem dX1_spread_25 : decode cX1_spread 25 = .ok (.ldc 28, 2) := dk_18 28 (dk_at dksX1_spread_1 1 rfl rfl)
theorem dX1_spread_27 : decode cX1_spread 27 = .ok (.iadd, 1) := dk_96 (dk_at dksX1_spread_1 3 rfl rfl)
theorem dX1_spread_28 : decode cX1_spread 28 = .ok (.iastore, 1) := dk_79 (dk_at dksX1_spread_1 4 rfl rfl)
theorem dX1_spread_29 : decode cX1_spread 29 = .ok (.iinc 2 1, 3) := dk_132 2 1 (dk_at dksX1_spread_1 5 rfl rfl)
theorem dX1_spread_32 : decode cX1_spread 32 = .ok (.goto (-20), 3) := dk_167 255 236 (dk_at dksX1_spread_1 8 rfl rfl)
theorem dX1_spread_35 : decode cX1_spread 35 = .ok (.iconst 4, 1) := dk_7 (dk_at dksX1_spread_1 11 rfl rfl)
theorem dX1_spread_36 : decode cX1_spread 36 = .ok (.newarray .int, 2) := dk_188_10 (dk_at dksX1_spread_1 12 rfl rfl)
theorem dX1_spread_38 : decode cX1_spread 38 = .ok (.dup, 1) := dk_89 (dk_at dksX1_spread_1 14 rfl rfl)
theorem dX1_spread_39 : decode cX1_spread 39 = .ok (.iconst 0, 1) := dk_3 (dk_at dksX1_spread_1 15 rfl rfl)
theorem dX1_spread_40 : decode cX1_spread 40 = .ok (.aload_n 0, 1) := dk_42 (dk_at dksX1_spread_1 16 rfl rfl)
theorem dX1_spread_41 : decode cX1_spread 41 = .ok (.getfield 7, 3) := dk_180 0 7 (dk_at dksX1_spread_1 17 rfl rfl)
theorem dX1_spread_44 : decode cX1_spread 44 = .ok (.iconst 0, 1) := dk_3 (dk_at dksX1_spread_1 20 rfl rfl)
theorem dX1_spread_45 : decode cX1_spread 45 = .ok (.invokestatic 29, 3) := dk_184 0 29 (dk_at dksX1_spread_1 21 rfl rfl)
theorem dX1_spread_48 : decode cX1_spread 48 = .ok (.iastore, 1) := dk_79 (dk_at dksX1_spread_2 0 rfl rfl)
theorem dX1_spread_49 : decode cX1_spread 49 = .ok (.dup, 1) := dk_89 (dk_at dksX1_spread_2 1 rfl rfl)
theorem dX1_spread_50 : decode cX1_spread 50 = .ok (.iconst 1, 1) := dk_4 (dk_at dksX1_spread_2 2 rfl rfl)
theorem dX1_spread_51 : decode cX1_spread 51 = .ok (.aload_n 0, 1) := dk_42 (dk_at dksX1_spread_2 3 rfl rfl)
theorem dX1_spread_52 : decode cX1_spread 52 = .ok (.getfield 7, 3) := dk_180 0 7 (dk_at dksX1_spread_2 4 rfl rfl)
theorem dX1_spread_55 : decode cX1_spread 55 = .ok (.iconst 4, 1) := dk_7 (dk_at dksX1_spread_2 7 rfl rfl)
theorem dX1_spread_56 : decode cX1_spread 56 = .ok (.invokestatic 29, 3) := dk_184 0 29 (dk_at dksX1_spread_2 8 rfl rfl)
theorem dX1_spread_59 : decode cX1_spread 59 = .ok (.iastore, 1) := dk_79 (dk_at dksX1_spread_2 11 rfl rfl)
theorem dX1_spread_60 : decode cX1_spread 60 = .ok (.dup, 1) := dk_89 (dk_at dksX1_spread_2 12 rfl rfl)
theorem dX1_spread_61 : decode cX1_spread 61 = .ok (.iconst 2, 1) := dk_5 (dk_at dksX1_spread_2 13 rfl rfl)
theorem dX1_spread_62 : decode cX1_spread 62 = .ok (.aload_n 0, 1) := dk_42 (dk_at dksX1_spread_2 14 rfl rfl)
theorem dX1_spread_63 : decode cX1_spread 63 = .ok (.getfield 7, 3) := dk_180 0 7 (dk_at dksX1_spread_2 15 rfl rfl)
theorem dX1_spread_66 : decode cX1_spread 66 = .ok (.bipush 8, 2) := dk_16 8 (dk_at dksX1_spread_2 18 rfl rfl)
theorem dX1_spread_68 : decode cX1_spread 68 = .ok (.invokestatic 29, 3) := dk_184 0 29 (dk_at dksX1_spread_2 20 rfl rfl)
theorem dX1_spread_71 : decode cX1_spread 71 = .ok (.iastore, 1) := dk_79 (dk_at dksX1_spread_2 23 rfl rfl)
theorem dX1_spread_72 : decode cX1_spread 72 = .ok (.dup, 1) := dk_89 (dk_at dksX1_spread_3 0 rfl rfl)
theorem dX1_spread_73 : decode cX1_spread 73 = .ok (.iconst 3, 1) := dk_6 (dk_at dksX1_spread_3 1 rfl rfl)
theorem dX1_spread_74 : decode cX1_spread 74 = .ok (.aload_n 0, 1) := dk_42 (dk_at dksX1_spread_3 2 rfl rfl)
theorem dX1_spread_75 : decode cX1_spread 75 = .ok (.getfield 7, 3) := dk_180 0 7 (dk_at dksX1_spread_3 3 rfl rfl)
theorem dX1_spread_78 : decode cX1_spread 78 = .ok (.bipush 12, 2) := dk_16 12 (dk_at dksX1_spread_3 6 rfl rfl)
theorem dX1_spread_80 : decode cX1_spread 80 = .ok (.invokestatic 29, 3) := dk_184 0 29 (dk_at dksX1_spread_3 8 rfl rfl)
theorem dX1_spread_83 : decode cX1_spread 83 = .ok (.iastore, 1) := dk_79 (dk_at dksX1_spread_3 11 rfl rfl)
theorem dX1_spread_84 : decode cX1_spread 84 = .ok (.astore_n 2, 1) := dk_77 (dk_at dksX1_spread_3 12 rfl rfl)
theorem dX1_spread_85 : decode cX1_spread 85 = .ok (.iconst 0, 1) := dk_3 (dk_at dksX1_spread_3 13 rfl rfl)
theorem dX1_spread_86 : decode cX1_spread 86 = .ok (.istore_n 3, 1) := dk_62 (dk_at dksX1_spread_3 14 rfl rfl)
theorem dX1_spread_87 : decode cX1_spread 87 = .ok (.iconst 0, 1) := dk_3 (dk_at dksX1_spread_3 15 rfl rfl)
theorem dX1_spread_88 : decode cX1_spread 88 = .ok (.istore 4, 2) := dk_54 4 (dk_at dksX1_spread_3 16 rfl rfl)
theorem dX1_spread_90 : decode cX1_spread 90 = .ok (.iconst 0, 1) := dk_3 (dk_at dksX1_spread_3 18 rfl rfl)
theorem dX1_spread_91 : decode cX1_spread 91 = .ok (.istore 5, 2) := dk_54 5 (dk_at dksX1_spread_3 19 rfl rfl)
theorem dX1_spread_93 : decode cX1_spread 93 = .ok (.iload 5, 2) := dk_21 5 (dk_at dksX1_spread_3 21 rfl rfl)
theorem dX1_spread_95 : decode cX1_spread 95 = .ok (.iconst 3, 1) := dk_6 (dk_at dksX1_spread_3 23 rfl rfl)
theorem dX1_spread_96 : decode cX1_spread 96 = .ok (.aload_n 1, 1) := dk_43 (dk_at dksX1_spread_4 0 rfl rfl)
theorem dX1_spread_97 : decode cX1_spread 97 = .ok (.arraylength, 1) := dk_190 (dk_at dksX1_spread_4 1 rfl rfl)
theorem dX1_spread_98 : decode cX1_spread 98 = .ok (.imul, 1) := dk_104 (dk_at dksX1_spread_4 2 rfl rfl)
theorem dX1_spread_99 : decode cX1_spread 99 = .ok (.if_icmp .ge 62, 3) := dk_162 0 62 (dk_at dksX1_spread_4 3 rfl rfl)
theorem dX1_spread_102 : decode cX1_spread 102 = .ok (.aload_n 1, 1) := dk_43 (dk_at dksX1_spread_4 6 rfl rfl)
theorem dX1_spread_103 : decode cX1_spread 103 = .ok (.iload 5, 2) := dk_21 5 (dk_at dksX1_spread_4 7 rfl rfl)
theorem dX1_spread_105 : decode cX1_spread 105 = .ok (.aload_n 1, 1) := dk_43 (dk_at dksX1_spread_4 9 rfl rfl)
theorem dX1_spread_106 : decode cX1_spread 106 = .ok (.arraylength, 1) := dk_190 (dk_at dksX1_spread_4 10 rfl rfl)
theorem dX1_spread_107 : decode cX1_spread 107 = .ok (.irem, 1) := dk_112 (dk_at dksX1_spread_4 11 rfl rfl)
theorem dX1_spread_108 : decode cX1_spread 108 = .ok (.iaload, 1) := dk_46 (dk_at dksX1_spread_4 12 rfl rfl)
theorem dX1_spread_109 : decode cX1_spread 109 = .ok (.iload_n 3, 1) := dk_29 (dk_at dksX1_spread_4 13 rfl rfl)
theorem dX1_spread_110 : decode cX1_spread 110 = .ok (.iadd, 1) := dk_96 (dk_at dksX1_spread_4 14 rfl rfl)
theorem dX1_spread_111 : decode cX1_spread 111 = .ok (.iload 4, 2) := dk_21 4 (dk_at dksX1_spread_4 15 rfl rfl)
theorem dX1_spread_113 : decode cX1_spread 113 = .ok (.iadd, 1) := dk_96 (dk_at dksX1_spread_4 17 rfl rfl)
theorem dX1_spread_114 : decode cX1_spread 114 = .ok (.iconst 3, 1) := dk_6 (dk_at dksX1_spread_4 18 rfl rfl)
theorem dX1_spread_115 : decode cX1_spread 115 = .ok (.invokestatic 33, 3) := dk_184 0 33 (dk_at dksX1_spread_4 19 rfl rfl)
theorem dX1_spread_118 : decode cX1_spread 118 = .ok (.istore_n 3, 1) := dk_62 (dk_at dksX1_spread_4 22 rfl rfl)
theorem dX1_spread_119 : decode cX1_spread 119 = .ok (.aload_n 1, 1) := dk_43 (dk_at dksX1_spread_4 23 rfl rfl)
theorem dX1_spread_120 : decode cX1_spread 120 = .ok (.iload 5, 2) := dk_21 5 (dk_at dksX1_spread_5 0 rfl rfl)
theorem dX1_spread_122 : decode cX1_spread 122 = .ok (.aload_n 1, 1) := dk_43 (dk_at dksX1_spread_5 2 rfl rfl)
theorem dX1_spread_123 : decode cX1_spread 123 = .ok (.arraylength, 1) := dk_190 (dk_at dksX1_spread_5 3 rfl rfl)
theorem dX1_spread_124 : decode cX1_spread 124 = .ok (.irem, 1) := dk_112 (dk_at dksX1_spread_5 4 rfl rfl)
theorem dX1_spread_125 : decode cX1_spread 125 = .ok (.iload_n 3, 1) := dk_29 (dk_at dksX1_spread_5 5 rfl rfl)
theorem dX1_spread_126 : decode cX1_spread 126 = .ok (.iastore, 1) := dk_79 (dk_at dksX1_spread_5 6 rfl rfl)
theorem dX1_spread_127 : decode cX1_spread 127 = .ok (.aload_n 2, 1) := dk_44 (dk_at dksX1_spread_5 7 rfl rfl)
theorem dX1_spread_128 : decode cX1_spread 128 = .ok (.iload 5, 2) := dk_21 5 (dk_at dksX1_spread_5 8 rfl rfl)
theorem dX1_spread_130 : decode cX1_spread 130 = .ok (.iconst 4, 1) := dk_7 (dk_at dksX1_spread_5 10 rfl rfl)
theorem dX1_spread_131 : decode cX1_spread 131 = .ok (.irem, 1) := dk_112 (dk_at dksX1_spread_5 11 rfl rfl)
theorem dX1_spread_132 : decode cX1_spread 132 = .ok (.iaload, 1) := dk_46 (dk_at dksX1_spread_5 12 rfl rfl)
theorem dX1_spread_133 : decode cX1_spread 133 = .ok (.iload_n 3, 1) := dk_29 (dk_at dksX1_spread_5 13 rfl rfl)
theorem dX1_spread_134 : decode cX1_spread 134 = .ok (.iadd, 1) := dk_96 (dk_at dksX1_spread_5 14 rfl rfl)
theorem dX1_spread_135 : decode cX1_spread 135 = .ok (.iload 4, 2) := dk_21 4 (dk_at dksX1_spread_5 15 rfl rfl)
theorem dX1_spread_137 : decode cX1_spread 137 = .ok (.iadd, 1) := dk_96 (dk_at dksX1_spread_5 17 rfl rfl)
theorem dX1_spread_138 : decode cX1_spread 138 = .ok (.iload_n 3, 1) := dk_29 (dk_at dksX1_spread_5 18 rfl rfl)
theorem dX1_spread_139 : decode cX1_spread 139 = .ok (.iload 4, 2) := dk_21 4 (dk_at dksX1_spread_5 19 rfl rfl)
theorem dX1_spread_141 : decode cX1_spread 141 = .ok (.iadd, 1) := dk_96 (dk_at dksX1_spread_5 21 rfl rfl)
theorem dX1_spread_142 : decode cX1_spread 142 = .ok (.invokestatic 33, 3) := dk_184 0 33 (dk_at dksX1_spread_6 0 rfl rfl)
theorem dX1_spread_145 : decode cX1_spread 145 = .ok (.istore 4, 2) := dk_54 4 (dk_at dksX1_spread_6 3 rfl rfl)
theorem dX1_spread_147 : decode cX1_spread 147 = .ok (.aload_n 2, 1) := dk_44 (dk_at dksX1_spread_6 5 rfl rfl)
theorem dX1_spread_148 : decode cX1_spread 148 = .ok (.iload 5, 2) := dk_21 5 (dk_at dksX1_spread_6 6 rfl rfl)
theorem dX1_spread_150 : decode cX1_spread 150 = .ok (.iconst 4, 1) := dk_7 (dk_at dksX1_spread_6 8 rfl rfl)
theorem dX1_spread_151 : decode cX1_spread 151 = .ok (.irem, 1) := dk_112 (dk_at dksX1_spread_6 9 rfl rfl)
theorem dX1_spread_152 : decode cX1_spread 152 = .ok (.iload 4, 2) := dk_21 4 (dk_at dksX1_spread_6 10 rfl rfl)
theorem dX1_spread_154 : decode cX1_spread 154 = .ok (.iastore, 1) := dk_79 (dk_at dksX1_spread_6 12 rfl rfl)
theorem dX1_spread_155 : decode cX1_spread 155 = .ok (.iinc 5 1, 3) := dk_132 5 1 (dk_at dksX1_spread_6 13 rfl rfl)
theorem dX1_spread_158 : decode cX1_spread 158 = .ok (.goto (-65), 3) := dk_167 255 191 (dk_at dksX1_spread_6 16 rfl rfl)
theorem dX1_spread_161 : decode cX1_spread 161 = .ok (.aload_n 1, 1) := dk_43 (dk_at dksX1_spread_6 19 rfl rfl)
theorem dX1_spread_162 : decode cX1_spread 162 = .ok (.areturn, 1) := dk_176 (dk_at dksX1_spread_6 20 rfl rfl)
abbrev cX1_low : ByteArray := prog_9_method_9_code
def yX1_low : MethodName := ⟨RX1, "low", "([II)I"⟩
def dkwX1_low_1 : List UInt8 := [96, 46, 16, 24, 120, 128, 172]
abbrev dktX1_low_1 : List UInt8 := dkwX1_low_1 ++ []
def dkwX1_low_0 : List UInt8 := [42, 27, 46, 42, 27, 4, 96, 46, 16, 8, 120, 128, 42, 27, 5, 96, 46, 16, 16, 120, 128, 42, 27, 6]
abbrev dktX1_low_0 : List UInt8 := dkwX1_low_0 ++ dktX1_low_1
theorem dksX1_low_0 : cX1_low.data.toList.drop 0 = dktX1_low_0 := by decide +kernel
theorem dksX1_low_1 : cX1_low.data.toList.drop 24 = dktX1_low_1 := dk_seg dksX1_low_0 24 rfl rfl
theorem dX1_low_0 : decode cX1_low 0 = .ok (.aload_n 0, 1) := dk_42 (dk_at dksX1_low_0 0 rfl rfl)
theorem dX1_low_1 : decode cX1_low 1 = .ok (.iload_n 1, 1) := dk_27 (dk_at dksX1_low_0 1 rfl rfl)
theorem dX1_low_2 : decode cX1_low 2 = .ok (.iaload, 1) := dk_46 (dk_at dksX1_low_0 2 rfl rfl)
theorem dX1_low_3 : decode cX1_low 3 = .ok (.aload_n 0, 1) := dk_42 (dk_at dksX1_low_0 3 rfl rfl)
theorem dX1_low_4 : decode cX1_low 4 = .ok (.iload_n 1, 1) := dk_27 (dk_at dksX1_low_0 4 rfl rfl)
theorem dX1_low_5 : decode cX1_low 5 = .ok (.iconst 1, 1) := dk_4 (dk_at dksX1_low_0 5 rfl rfl)
theorem dX1_low_6 : decode cX1_low 6 = .ok (.iadd, 1) := dk_96 (dk_at dksX1_low_0 6 rfl rfl)
theorem dX1_low_7 : decode cX1_low 7 = .ok (.iaload, 1) := dk_46 (dk_at dksX1_low_0 7 rfl rfl)
theorem dX1_low_8 : decode cX1_low 8 = .ok (.bipush 8, 2) := dk_16 8 (dk_at dksX1_low_0 8 rfl rfl)
theorem dX1_low_10 : decode cX1_low 10 = .ok (.ishl, 1) := dk_120 (dk_at dksX1_low_0 10 rfl rfl)
theorem dX1_low_11 : decode cX1_low 11 = .ok (.ior, 1) := dk_128 (dk_at dksX1_low_0 11 rfl rfl)
theorem dX1_low_12 : decode cX1_low 12 = .ok (.aload_n 0, 1) := dk_42 (dk_at dksX1_low_0 12 rfl rfl)
theorem dX1_low_13 : decode cX1_low 13 = .ok (.iload_n 1, 1) := dk_27 (dk_at dksX1_low_0 13 rfl rfl)
theorem dX1_low_14 : decode cX1_low 14 = .ok (.iconst 2, 1) := dk_5 (dk_at dksX1_low_0 14 rfl rfl)
theorem dX1_low_15 : decode cX1_low 15 = .ok (.iadd, 1) := dk_96 (dk_at dksX1_low_0 15 rfl rfl)
theorem dX1_low_16 : decode cX1_low 16 = .ok (.iaload, 1) := dk_46 (dk_at dksX1_low_0 16 rfl rfl)
theorem dX1_low_17 : decode cX1_low 17 = .ok (.bipush 16, 2) := dk_16 16 (dk_at dksX1_low_0 17 rfl rfl)
theorem dX1_low_19 : decode cX1_low 19 = .ok (.ishl, 1) := dk_120 (dk_at dksX1_low_0 19 rfl rfl)
theorem dX1_low_20 : decode cX1_low 20 = .ok (.ior, 1) := dk_128 (dk_at dksX1_low_0 20 rfl rfl)
theorem dX1_low_21 : decode cX1_low 21 = .ok (.aload_n 0, 1) := dk_42 (dk_at dksX1_low_0 21 rfl rfl)
theorem dX1_low_22 : decode cX1_low 22 = .ok (.iload_n 1, 1) := dk_27 (dk_at dksX1_low_0 22 rfl rfl)
theorem dX1_low_23 : decode cX1_low 23 = .ok (.iconst 3, 1) := dk_6 (dk_at dksX1_low_0 23 rfl rfl)
theorem dX1_low_24 : decode cX1_low 24 = .ok (.iadd, 1) := dk_96 (dk_at dksX1_low_1 0 rfl rfl)
theorem dX1_low_25 : decode cX1_low 25 = .ok (.iaload, 1) := dk_46 (dk_at dksX1_low_1 1 rfl rfl)
theorem dX1_low_26 : decode cX1_low 26 = .ok (.bipush 24, 2) := dk_16 24 (dk_at dksX1_low_1 2 rfl rfl)
theorem dX1_low_28 : decode cX1_low 28 = .ok (.ishl, 1) := dk_120 (dk_at dksX1_low_1 4 rfl rfl)
theorem dX1_low_29 : decode cX1_low 29 = .ok (.ior, 1) := dk_128 (dk_at dksX1_low_1 5 rfl rfl)
theorem dX1_low_30 : decode cX1_low 30 = .ok (.ireturn, 1) := dk_172 (dk_at dksX1_low_1 6 rfl rfl)
abbrev cX1_left : ByteArray := prog_9_method_10_code
def yX1_left : MethodName := ⟨RX1, "left", "(II)I"⟩
def dkwX1_left_0 : List UInt8 := [27, 16, 31, 126, 61, 28, 154, 0, 7, 26, 167, 0, 13, 26, 28, 120, 26, 16, 32, 28, 100, 124, 128, 172]
abbrev dktX1_left_0 : List UInt8 := dkwX1_left_0 ++ []
theorem dksX1_left_0 : cX1_left.data.toList.drop 0 = dktX1_left_0 := by decide +kernel
theorem dX1_left_0 : decode cX1_left 0 = .ok (.iload_n 1, 1) := dk_27 (dk_at dksX1_left_0 0 rfl rfl)
theorem dX1_left_1 : decode cX1_left 1 = .ok (.bipush 31, 2) := dk_16 31 (dk_at dksX1_left_0 1 rfl rfl)
theorem dX1_left_3 : decode cX1_left 3 = .ok (.iand, 1) := dk_126 (dk_at dksX1_left_0 3 rfl rfl)
theorem dX1_left_4 : decode cX1_left 4 = .ok (.istore_n 2, 1) := dk_61 (dk_at dksX1_left_0 4 rfl rfl)
theorem dX1_left_5 : decode cX1_left 5 = .ok (.iload_n 2, 1) := dk_28 (dk_at dksX1_left_0 5 rfl rfl)
theorem dX1_left_6 : decode cX1_left 6 = .ok (.ifCond .ne 7, 3) := dk_154 0 7 (dk_at dksX1_left_0 6 rfl rfl)
theorem dX1_left_9 : decode cX1_left 9 = .ok (.iload_n 0, 1) := dk_26 (dk_at dksX1_left_0 9 rfl rfl)
theorem dX1_left_10 : decode cX1_left 10 = .ok (.goto 13, 3) := dk_167 0 13 (dk_at dksX1_left_0 10 rfl rfl)
theorem dX1_left_13 : decode cX1_left 13 = .ok (.iload_n 0, 1) := dk_26 (dk_at dksX1_left_0 13 rfl rfl)
theorem dX1_left_14 : decode cX1_left 14 = .ok (.iload_n 2, 1) := dk_28 (dk_at dksX1_left_0 14 rfl rfl)
theorem dX1_left_15 : decode cX1_left 15 = .ok (.ishl, 1) := dk_120 (dk_at dksX1_left_0 15 rfl rfl)
theorem dX1_left_16 : decode cX1_left 16 = .ok (.iload_n 0, 1) := dk_26 (dk_at dksX1_left_0 16 rfl rfl)
theorem dX1_left_17 : decode cX1_left 17 = .ok (.bipush 32, 2) := dk_16 32 (dk_at dksX1_left_0 17 rfl rfl)
theorem dX1_left_19 : decode cX1_left 19 = .ok (.iload_n 2, 1) := dk_28 (dk_at dksX1_left_0 19 rfl rfl)
theorem dX1_left_20 : decode cX1_left 20 = .ok (.isub, 1) := dk_100 (dk_at dksX1_left_0 20 rfl rfl)
theorem dX1_left_21 : decode cX1_left 21 = .ok (.iushr, 1) := dk_124 (dk_at dksX1_left_0 21 rfl rfl)
theorem dX1_left_22 : decode cX1_left 22 = .ok (.ior, 1) := dk_128 (dk_at dksX1_left_0 22 rfl rfl)
theorem dX1_left_23 : decode cX1_left 23 = .ok (.ireturn, 1) := dk_172 (dk_at dksX1_left_0 23 rfl rfl)
abbrev cX1_open : ByteArray := prog_9_method_6_code
def yX1_open : MethodName := ⟨RX1, "open", "(I)V"⟩
def dkwX1_open_0 : List UInt8 := [42, 3, 182, 0, 23, 177]
abbrev dktX1_open_0 : List UInt8 := dkwX1_open_0 ++ []
theorem dksX1_open_0 : cX1_open.data.toList.drop 0 = dktX1_open_0 := by decide +kernel
theorem dX1_open_0 : decode cX1_open 0 = .ok (.aload_n 0, 1) := dk_42 (dk_at dksX1_open_0 0 rfl rfl)
theorem dX1_open_1 : decode cX1_open 1 = .ok (.iconst 0, 1) := dk_3 (dk_at dksX1_open_0 1 rfl rfl)
theorem dX1_open_2 : decode cX1_open 2 = .ok (.invokevirtual 23, 3) := dk_182 0 23 (dk_at dksX1_open_0 2 rfl rfl)
theorem dX1_open_5 : decode cX1_open 5 = .ok (.return_, 1) := dk_177 (dk_at dksX1_open_0 5 rfl rfl)
abbrev cX1_again : ByteArray := prog_9_method_7_code
def yX1_again : MethodName := ⟨RX1, "again", "()V"⟩
def dkwX1_again_1 : List UInt8 := [167, 255, 235, 177]
abbrev dktX1_again_1 : List UInt8 := dkwX1_again_1 ++ []
def dkwX1_again_0 : List UInt8 := [3, 60, 27, 16, 8, 162, 0, 21, 42, 180, 0, 13, 27, 42, 180, 0, 16, 27, 46, 79, 132, 1, 1]
abbrev dktX1_again_0 : List UInt8 := dkwX1_again_0 ++ dktX1_again_1
theorem dksX1_again_0 : cX1_again.data.toList.drop 0 = dktX1_again_0 := by decide +kernel
theorem dksX1_again_1 : cX1_again.data.toList.drop 23 = dktX1_again_1 := dk_seg dksX1_again_0 23 rfl rfl
theorem dX1_again_0 : decode cX1_again 0 = .ok (.iconst 0, 1) := dk_3 (dk_at dksX1_again_0 0 rfl rfl)
theorem dX1_again_1 : decode cX1_again 1 = .ok (.istore_n 1, 1) := dk_60 (dk_at dksX1_again_0 1 rfl rfl)
theorem dX1_again_2 : decode cX1_again 2 = .ok (.iload_n 1, 1) := dk_27 (dk_at dksX1_again_0 2 rfl rfl)
theorem dX1_again_3 : decode cX1_again 3 = .ok (.bipush 8, 2) := dk_16 8 (dk_at dksX1_again_0 3 rfl rfl)
theorem dX1_again_5 : decode cX1_again 5 = .ok (.if_icmp .ge 21, 3) := dk_162 0 21 (dk_at dksX1_again_0 5 rfl rfl)
theorem dX1_again_8 : decode cX1_again 8 = .ok (.aload_n 0, 1) := dk_42 (dk_at dksX1_again_0 8 rfl rfl)
theorem dX1_again_9 : decode cX1_again 9 = .ok (.getfield 13, 3) := dk_180 0 13 (dk_at dksX1_again_0 9 rfl rfl)
theorem dX1_again_12 : decode cX1_again 12 = .ok (.iload_n 1, 1) := dk_27 (dk_at dksX1_again_0 12 rfl rfl)
theorem dX1_again_13 : decode cX1_again 13 = .ok (.aload_n 0, 1) := dk_42 (dk_at dksX1_again_0 13 rfl rfl)
theorem dX1_again_14 : decode cX1_again 14 = .ok (.getfield 16, 3) := dk_180 0 16 (dk_at dksX1_again_0 14 rfl rfl)
theorem dX1_again_17 : decode cX1_again 17 = .ok (.iload_n 1, 1) := dk_27 (dk_at dksX1_again_0 17 rfl rfl)
theorem dX1_again_18 : decode cX1_again 18 = .ok (.iaload, 1) := dk_46 (dk_at dksX1_again_0 18 rfl rfl)
theorem dX1_again_19 : decode cX1_again 19 = .ok (.iastore, 1) := dk_79 (dk_at dksX1_again_0 19 rfl rfl)
theorem dX1_again_20 : decode cX1_again 20 = .ok (.iinc 1 1, 3) := dk_132 1 1 (dk_at dksX1_again_0 20 rfl rfl)
theorem dX1_again_23 : decode cX1_again 23 = .ok (.goto (-21), 3) := dk_167 255 235 (dk_at dksX1_again_1 0 rfl rfl)
theorem dX1_again_26 : decode cX1_again 26 = .ok (.return_, 1) := dk_177 (dk_at dksX1_again_1 3 rfl rfl)
abbrev cX1_out : ByteArray := prog_9_method_8_code
def yX1_out : MethodName := ⟨RX1, "out", "(I)I"⟩
def dkwX1_out_0 : List UInt8 := [42, 180, 0, 16, 27, 16, 7, 126, 46, 172]
abbrev dktX1_out_0 : List UInt8 := dkwX1_out_0 ++ []
theorem dksX1_out_0 : cX1_out.data.toList.drop 0 = dktX1_out_0 := by decide +kernel
theorem dX1_out_0 : decode cX1_out 0 = .ok (.aload_n 0, 1) := dk_42 (dk_at dksX1_out_0 0 rfl rfl)
theorem dX1_out_1 : decode cX1_out 1 = .ok (.getfield 16, 3) := dk_180 0 16 (dk_at dksX1_out_0 1 rfl rfl)
theorem dX1_out_4 : decode cX1_out 4 = .ok (.iload_n 1, 1) := dk_27 (dk_at dksX1_out_0 4 rfl rfl)
theorem dX1_out_5 : decode cX1_out 5 = .ok (.bipush 7, 2) := dk_16 7 (dk_at dksX1_out_0 5 rfl rfl)
theorem dX1_out_7 : decode cX1_out 7 = .ok (.iand, 1) := dk_126 (dk_at dksX1_out_0 7 rfl rfl)
theorem dX1_out_8 : decode cX1_out 8 = .ok (.iaload, 1) := dk_46 (dk_at dksX1_out_0 8 rfl rfl)
theorem dX1_out_9 : decode cX1_out 9 = .ok (.ireturn, 1) := dk_172 (dk_at dksX1_out_0 9 rfl rfl)
theorem q13 : (Jvm.Cond.initialized "RcFiveDeskModel") ∈ lw_all := lw_g (lw_at lw_m1 2 rfl) rfl
theorem q239 : (Jvm.Cond.instantiable "RcFiveDeskModel" (3 : Nat)) ∈ lw_all := lw_g (lw_at lw_m1 228 rfl) rfl
theorem q241 : (Jvm.Cond.instanceMethod ({ cls := "RcFiveDeskModel", name := "<init>", desc := "()V" } : Jvm.MethodName)) ∈ lw_all := lw_g (lw_at lw_m1 230 rfl) rfl
theorem q242 : (Jvm.Cond.code ({ cls := "RcFiveDeskModel", name := "<init>", desc := "()V" } : Jvm.MethodName) prog_9_method_1_code (1 : Nat) (Option.none : Option Jvm.ClassFile.FieldType)) ∈ lw_all := lw_g (lw_at lw_m1 231 rfl) rfl
theorem q243 : (Jvm.Cond.methodLink "RcFiveDeskModel" (1 : Nat) ({ cls := "java/lang/Object", name := "<init>", desc := "()V" } : Jvm.MethodName)) ∈ lw_all := lw_g (lw_at lw_m1 232 rfl) rfl
theorem q244 : (Jvm.Cond.fieldLink "RcFiveDeskModel" (7 : Nat) "RcFiveDeskModel" "key" "[I") ∈ lw_all := lw_g (lw_at lw_m1 233 rfl) rfl
theorem q245 : (Jvm.Cond.fieldLink "RcFiveDeskModel" (13 : Nat) "RcFiveDeskModel" "block" "[I") ∈ lw_all := lw_g (lw_at lw_m1 234 rfl) rfl
theorem q246 : (Jvm.Cond.fieldLink "RcFiveDeskModel" (16 : Nat) "RcFiveDeskModel" "out" "[I") ∈ lw_all := lw_g (lw_at lw_m1 235 rfl) rfl
theorem q247 : (Jvm.Cond.laysFinal "RcFiveDeskModel" "RcFiveDeskModel" "key" "[I") ∈ lw_all := lw_g (lw_at lw_m1 236 rfl) rfl
theorem q248 : (Jvm.Cond.soleField "RcFiveDeskModel" "key") ∈ lw_all := lw_g (lw_at lw_m1 237 rfl) rfl
theorem q249 : (Jvm.Cond.laysFinal "RcFiveDeskModel" "RcFiveDeskModel" "block" "[I") ∈ lw_all := lw_g (lw_at lw_m1 238 rfl) rfl
theorem q250 : (Jvm.Cond.soleField "RcFiveDeskModel" "block") ∈ lw_all := lw_g (lw_at lw_m1 239 rfl) rfl
theorem q251 : (Jvm.Cond.laysFinal "RcFiveDeskModel" "RcFiveDeskModel" "out" "[I") ∈ lw_all := lw_g (lw_at lw_m2 0 rfl) rfl
theorem q252 : (Jvm.Cond.soleField "RcFiveDeskModel" "out") ∈ lw_all := lw_g (lw_at lw_m2 1 rfl) rfl
theorem q253 : (Jvm.Cond.superclass "RcFiveDeskModel" "java/lang/Object") ∈ lw_all := lw_g (lw_at lw_m2 2 rfl) rfl
theorem q255 : (Jvm.Cond.instanceMethod ({ cls := "RcFiveDeskModel", name := "key", desc := "(IIIII)V" } : Jvm.MethodName)) ∈ lw_all := lw_g (lw_at lw_m2 4 rfl) rfl
theorem q256 : (Jvm.Cond.selects "RcFiveDeskModel" ({ cls := "RcFiveDeskModel", name := "key", desc := "(IIIII)V" } : Jvm.MethodName) ({ cls := "RcFiveDeskModel", name := "key", desc := "(IIIII)V" } : Jvm.MethodName)) ∈ lw_all := lw_g (lw_at lw_m2 5 rfl) rfl
theorem q257 : (Jvm.Cond.code ({ cls := "RcFiveDeskModel", name := "key", desc := "(IIIII)V" } : Jvm.MethodName) prog_9_method_3_code (7 : Nat) (Option.none : Option Jvm.ClassFile.FieldType)) ∈ lw_all := lw_g (lw_at lw_m2 6 rfl) rfl
theorem q258 : (Jvm.Cond.methodLink "RcFiveDeskModel" (19 : Nat) ({ cls := "RcFiveDeskModel", name := "word", desc := "([III)V" } : Jvm.MethodName)) ∈ lw_all := lw_g (lw_at lw_m2 7 rfl) rfl
theorem q259 : (Jvm.Cond.static ({ cls := "RcFiveDeskModel", name := "word", desc := "([III)V" } : Jvm.MethodName)) ∈ lw_all := lw_g (lw_at lw_m2 8 rfl) rfl
theorem q260 : (Jvm.Cond.code ({ cls := "RcFiveDeskModel", name := "word", desc := "([III)V" } : Jvm.MethodName) prog_9_method_2_code (4 : Nat) (Option.none : Option Jvm.ClassFile.FieldType)) ∈ lw_all := lw_g (lw_at lw_m2 9 rfl) rfl
theorem q262 : (Jvm.Cond.instanceMethod ({ cls := "RcFiveDeskModel", name := "block", desc := "(II)V" } : Jvm.MethodName)) ∈ lw_all := lw_g (lw_at lw_m2 11 rfl) rfl
theorem q263 : (Jvm.Cond.selects "RcFiveDeskModel" ({ cls := "RcFiveDeskModel", name := "block", desc := "(II)V" } : Jvm.MethodName) ({ cls := "RcFiveDeskModel", name := "block", desc := "(II)V" } : Jvm.MethodName)) ∈ lw_all := lw_g (lw_at lw_m2 12 rfl) rfl
theorem q264 : (Jvm.Cond.code ({ cls := "RcFiveDeskModel", name := "block", desc := "(II)V" } : Jvm.MethodName) prog_9_method_4_code (3 : Nat) (Option.none : Option Jvm.ClassFile.FieldType)) ∈ lw_all := lw_g (lw_at lw_m2 13 rfl) rfl
theorem q266 : (Jvm.Cond.instanceMethod ({ cls := "RcFiveDeskModel", name := "lock", desc := "(I)V" } : Jvm.MethodName)) ∈ lw_all := lw_g (lw_at lw_m2 15 rfl) rfl
theorem q267 : (Jvm.Cond.selects "RcFiveDeskModel" ({ cls := "RcFiveDeskModel", name := "lock", desc := "(I)V" } : Jvm.MethodName) ({ cls := "RcFiveDeskModel", name := "lock", desc := "(I)V" } : Jvm.MethodName)) ∈ lw_all := lw_g (lw_at lw_m2 16 rfl) rfl
theorem q268 : (Jvm.Cond.code ({ cls := "RcFiveDeskModel", name := "lock", desc := "(I)V" } : Jvm.MethodName) prog_9_method_5_code (2 : Nat) (Option.none : Option Jvm.ClassFile.FieldType)) ∈ lw_all := lw_g (lw_at lw_m2 17 rfl) rfl
theorem q269 : (Jvm.Cond.methodLink "RcFiveDeskModel" (23 : Nat) ({ cls := "RcFiveDeskModel", name := "run", desc := "(Z)V" } : Jvm.MethodName)) ∈ lw_all := lw_g (lw_at lw_m2 18 rfl) rfl
theorem q270 : (Jvm.Cond.privateMethod ({ cls := "RcFiveDeskModel", name := "run", desc := "(Z)V" } : Jvm.MethodName)) ∈ lw_tbl := lw_at lw_m2 19 rfl
theorem q271 : (Jvm.Cond.instanceMethod ({ cls := "RcFiveDeskModel", name := "run", desc := "(Z)V" } : Jvm.MethodName)) ∈ lw_all := lw_g (lw_at lw_m2 20 rfl) rfl
theorem q272 : (Jvm.Cond.code ({ cls := "RcFiveDeskModel", name := "run", desc := "(Z)V" } : Jvm.MethodName) prog_9_method_12_code (6 : Nat) (Option.none : Option Jvm.ClassFile.FieldType)) ∈ lw_all := lw_g (lw_at lw_m2 21 rfl) rfl
theorem q273 : (Jvm.Cond.methodLink "RcFiveDeskModel" (37 : Nat) ({ cls := "RcFiveDeskModel", name := "spread", desc := "()[I" } : Jvm.MethodName)) ∈ lw_all := lw_g (lw_at lw_m2 22 rfl) rfl
theorem q274 : (Jvm.Cond.privateMethod ({ cls := "RcFiveDeskModel", name := "spread", desc := "()[I" } : Jvm.MethodName)) ∈ lw_tbl := lw_at lw_m2 23 rfl
theorem q275 : (Jvm.Cond.instanceMethod ({ cls := "RcFiveDeskModel", name := "spread", desc := "()[I" } : Jvm.MethodName)) ∈ lw_all := lw_g (lw_at lw_m2 24 rfl) rfl
theorem q276 : (Jvm.Cond.code ({ cls := "RcFiveDeskModel", name := "spread", desc := "()[I" } : Jvm.MethodName) prog_9_method_11_code (6 : Nat) (Option.some (Jvm.ClassFile.FieldType.array Jvm.ClassFile.FieldType.int))) ∈ lw_all := lw_g (lw_at lw_m2 25 rfl) rfl
theorem q277 : (Jvm.Cond.constant "RcFiveDeskModel" (27 : Nat) (-1209970333 : Int32)) ∈ lw_all := lw_g (lw_at lw_m2 26 rfl) rfl
theorem q278 : (Jvm.Cond.constant "RcFiveDeskModel" (28 : Nat) (-1640531527 : Int32)) ∈ lw_all := lw_g (lw_at lw_m2 27 rfl) rfl
theorem q279 : (Jvm.Cond.methodLink "RcFiveDeskModel" (29 : Nat) ({ cls := "RcFiveDeskModel", name := "low", desc := "([II)I" } : Jvm.MethodName)) ∈ lw_all := lw_g (lw_at lw_m2 28 rfl) rfl
theorem q280 : (Jvm.Cond.static ({ cls := "RcFiveDeskModel", name := "low", desc := "([II)I" } : Jvm.MethodName)) ∈ lw_all := lw_g (lw_at lw_m2 29 rfl) rfl
theorem q281 : (Jvm.Cond.code ({ cls := "RcFiveDeskModel", name := "low", desc := "([II)I" } : Jvm.MethodName) prog_9_method_9_code (2 : Nat) (Option.some Jvm.ClassFile.FieldType.int)) ∈ lw_all := lw_g (lw_at lw_m2 30 rfl) rfl
theorem q282 : (Jvm.Cond.methodLink "RcFiveDeskModel" (33 : Nat) ({ cls := "RcFiveDeskModel", name := "left", desc := "(II)I" } : Jvm.MethodName)) ∈ lw_all := lw_g (lw_at lw_m2 31 rfl) rfl
theorem q283 : (Jvm.Cond.static ({ cls := "RcFiveDeskModel", name := "left", desc := "(II)I" } : Jvm.MethodName)) ∈ lw_all := lw_g (lw_at lw_m2 32 rfl) rfl
theorem q284 : (Jvm.Cond.code ({ cls := "RcFiveDeskModel", name := "left", desc := "(II)I" } : Jvm.MethodName) prog_9_method_10_code (3 : Nat) (Option.some Jvm.ClassFile.FieldType.int)) ∈ lw_all := lw_g (lw_at lw_m2 33 rfl) rfl
theorem q286 : (Jvm.Cond.instanceMethod ({ cls := "RcFiveDeskModel", name := "open", desc := "(I)V" } : Jvm.MethodName)) ∈ lw_all := lw_g (lw_at lw_m2 35 rfl) rfl
theorem q287 : (Jvm.Cond.selects "RcFiveDeskModel" ({ cls := "RcFiveDeskModel", name := "open", desc := "(I)V" } : Jvm.MethodName) ({ cls := "RcFiveDeskModel", name := "open", desc := "(I)V" } : Jvm.MethodName)) ∈ lw_all := lw_g (lw_at lw_m2 36 rfl) rfl
theorem q288 : (Jvm.Cond.code ({ cls := "RcFiveDeskModel", name := "open", desc := "(I)V" } : Jvm.MethodName) prog_9_method_6_code (2 : Nat) (Option.none : Option Jvm.ClassFile.FieldType)) ∈ lw_all := lw_g (lw_at lw_m2 37 rfl) rfl
theorem q290 : (Jvm.Cond.instanceMethod ({ cls := "RcFiveDeskModel", name := "again", desc := "()V" } : Jvm.MethodName)) ∈ lw_all := lw_g (lw_at lw_m2 39 rfl) rfl
theorem q291 : (Jvm.Cond.selects "RcFiveDeskModel" ({ cls := "RcFiveDeskModel", name := "again", desc := "()V" } : Jvm.MethodName) ({ cls := "RcFiveDeskModel", name := "again", desc := "()V" } : Jvm.MethodName)) ∈ lw_all := lw_g (lw_at lw_m2 40 rfl) rfl
theorem q292 : (Jvm.Cond.code ({ cls := "RcFiveDeskModel", name := "again", desc := "()V" } : Jvm.MethodName) prog_9_method_7_code (2 : Nat) (Option.none : Option Jvm.ClassFile.FieldType)) ∈ lw_all := lw_g (lw_at lw_m2 41 rfl) rfl
theorem q294 : (Jvm.Cond.instanceMethod ({ cls := "RcFiveDeskModel", name := "out", desc := "(I)I" } : Jvm.MethodName)) ∈ lw_all := lw_g (lw_at lw_m2 43 rfl) rfl
theorem q295 : (Jvm.Cond.selects "RcFiveDeskModel" ({ cls := "RcFiveDeskModel", name := "out", desc := "(I)I" } : Jvm.MethodName) ({ cls := "RcFiveDeskModel", name := "out", desc := "(I)I" } : Jvm.MethodName)) ∈ lw_all := lw_g (lw_at lw_m2 44 rfl) rfl
theorem q296 : (Jvm.Cond.code ({ cls := "RcFiveDeskModel", name := "out", desc := "(I)I" } : Jvm.MethodName) prog_9_method_8_code (2 : Nat) (Option.some Jvm.ClassFile.FieldType.int)) ∈ lw_all := lw_g (lw_at lw_m2 45 rfl) rfl
theorem in_X1 : ∀ w ∈ wsX10, w ∈ lw_all := lw_in wsX10 [247, 249, 251] (by decide +kernel) (by decide +kernel)
end
section
/-! RC532Engine -/
set_option maxRecDepth 100000
def RX2 : String := "RC532Engine"
def TX2 : u_T := fun k => match k with
  | 0 => ("RC532Engine", "_noRounds", "I", false)
  | 1 => ("RC532Engine", "_S", "[I", false)
  | _ => ("RC532Engine", "forEncryption", "Z", false)
def tyX2 : Nat → FieldType := fun k => match k with
  | 0 => .int
  | 1 => .array .int
  | _ => .boolean
abbrev wsX20 : List Cond := u_ws RX2 TX2 3
theorem nmX2 : ∀ a, a < 3 → ∀ b, b < 3 → a ≠ b → (TX2 a).2.1 ≠ (TX2 b).2.1 := by decide +kernel
theorem tyX2_ok : ∀ k, k < 3 → parseFieldDescriptor (TX2 k).2.2.1 = some (tyX2 k) := by decide +kernel
abbrev cX2_init : ByteArray := prog_5_method_1_code
def yX2_init : MethodName := ⟨RX2, "<init>", "()V"⟩
def dkwX2_init_0 : List UInt8 := [42, 183, 0, 1, 42, 16, 12, 181, 0, 7, 42, 1, 181, 0, 13, 177]
abbrev dktX2_init_0 : List UInt8 := dkwX2_init_0 ++ []
theorem dksX2_init_0 : cX2_init.data.toList.drop 0 = dktX2_init_0 := by decide +kernel
theorem dX2_init_0 : decode cX2_init 0 = .ok (.aload_n 0, 1) := dk_42 (dk_at dksX2_init_0 0 rfl rfl)
theorem dX2_init_1 : decode cX2_init 1 = .ok (.invokespecial 1, 3) := dk_183 0 1 (dk_at dksX2_init_0 1 rfl rfl)
theorem dX2_init_4 : decode cX2_init 4 = .ok (.aload_n 0, 1) := dk_42 (dk_at dksX2_init_0 4 rfl rfl)
theorem dX2_init_5 : decode cX2_init 5 = .ok (.bipush 12, 2) := dk_16 12 (dk_at dksX2_init_0 5 rfl rfl)
theorem dX2_init_7 : decode cX2_init 7 = .ok (.putfield 7, 3) := dk_181 0 7 (dk_at dksX2_init_0 7 rfl rfl)
theorem dX2_init_10 : decode cX2_init 10 = .ok (.aload_n 0, 1) := dk_42 (dk_at dksX2_init_0 10 rfl rfl)
theorem dX2_init_11 : decode cX2_init 11 = .ok (.aconst_null, 1) := dk_1 (dk_at dksX2_init_0 11 rfl rfl)
theorem dX2_init_12 : decode cX2_init 12 = .ok (.putfield 13, 3) := dk_181 0 13 (dk_at dksX2_init_0 12 rfl rfl)
theorem dX2_init_15 : decode cX2_init 15 = .ok (.return_, 1) := dk_177 (dk_at dksX2_init_0 15 rfl rfl)
abbrev cX2_init_2 : ByteArray := prog_5_method_2_code
def yX2_init_2 : MethodName := ⟨RX2, "init", "(ZLCipherParameters;)V"⟩
def dkwX2_init_2_3 : List UInt8 := [183, 0, 38, 191, 42, 27, 181, 0, 41, 177]
abbrev dktX2_init_2_3 : List UInt8 := dkwX2_init_2_3 ++ []
def dkwX2_init_2_2 : List UInt8 := [58, 4, 25, 4, 182, 0, 33, 78, 42, 45, 182, 0, 27, 167, 0, 13, 187, 0, 34, 89, 18, 36]
abbrev dktX2_init_2_2 : List UInt8 := dkwX2_init_2_2 ++ dktX2_init_2_3
def dkwX2_init_2_1 : List UInt8 := [182, 0, 23, 78, 42, 45, 182, 0, 27, 167, 0, 40, 44, 193, 0, 31, 153, 0, 23, 44, 192, 0, 31]
abbrev dktX2_init_2_1 : List UInt8 := dkwX2_init_2_1 ++ dktX2_init_2_2
def dkwX2_init_2_0 : List UInt8 := [44, 193, 0, 17, 153, 0, 32, 44, 192, 0, 17, 58, 4, 42, 25, 4, 182, 0, 19, 181, 0, 7, 25, 4]
abbrev dktX2_init_2_0 : List UInt8 := dkwX2_init_2_0 ++ dktX2_init_2_1
theorem dksX2_init_2_0 : cX2_init_2.data.toList.drop 0 = dktX2_init_2_0 := by decide +kernel
theorem dksX2_init_2_1 : cX2_init_2.data.toList.drop 24 = dktX2_init_2_1 := dk_seg dksX2_init_2_0 24 rfl rfl
theorem dksX2_init_2_2 : cX2_init_2.data.toList.drop 47 = dktX2_init_2_2 := dk_seg dksX2_init_2_1 23 rfl rfl
theorem dksX2_init_2_3 : cX2_init_2.data.toList.drop 69 = dktX2_init_2_3 := dk_seg dksX2_init_2_2 22 rfl rfl
theorem dX2_init_2_0 : decode cX2_init_2 0 = .ok (.aload_n 2, 1) := dk_44 (dk_at dksX2_init_2_0 0 rfl rfl)
theorem dX2_init_2_1 : decode cX2_init_2 1 = .ok (.instanceof 17, 3) := dk_193 0 17 (dk_at dksX2_init_2_0 1 rfl rfl)
theorem dX2_init_2_4 : decode cX2_init_2 4 = .ok (.ifCond .eq 32, 3) := dk_153 0 32 (dk_at dksX2_init_2_0 4 rfl rfl)
theorem dX2_init_2_7 : decode cX2_init_2 7 = .ok (.aload_n 2, 1) := dk_44 (dk_at dksX2_init_2_0 7 rfl rfl)
theorem dX2_init_2_8 : decode cX2_init_2 8 = .ok (.checkcast 17, 3) := dk_192 0 17 (dk_at dksX2_init_2_0 8 rfl rfl)
theorem dX2_init_2_11 : decode cX2_init_2 11 = .ok (.astore 4, 2) := dk_58 4 (dk_at dksX2_init_2_0 11 rfl rfl)
theorem dX2_init_2_13 : decode cX2_init_2 13 = .ok (.aload_n 0, 1) := dk_42 (dk_at dksX2_init_2_0 13 rfl rfl)
theorem dX2_init_2_14 : decode cX2_init_2 14 = .ok (.aload 4, 2) := dk_25 4 (dk_at dksX2_init_2_0 14 rfl rfl)
theorem dX2_init_2_16 : decode cX2_init_2 16 = .ok (.invokevirtual 19, 3) := dk_182 0 19 (dk_at dksX2_init_2_0 16 rfl rfl)
theorem dX2_init_2_19 : decode cX2_init_2 19 = .ok (.putfield 7, 3) := dk_181 0 7 (dk_at dksX2_init_2_0 19 rfl rfl)
theorem dX2_init_2_22 : decode cX2_init_2 22 = .ok (.aload 4, 2) := dk_25 4 (dk_at dksX2_init_2_0 22 rfl rfl)
theorem dX2_init_2_24 : decode cX2_init_2 24 = .ok (.invokevirtual 23, 3) := dk_182 0 23 (dk_at dksX2_init_2_1 0 rfl rfl)
theorem dX2_init_2_27 : decode cX2_init_2 27 = .ok (.astore_n 3, 1) := dk_78 (dk_at dksX2_init_2_1 3 rfl rfl)
theorem dX2_init_2_28 : decode cX2_init_2 28 = .ok (.aload_n 0, 1) := dk_42 (dk_at dksX2_init_2_1 4 rfl rfl)
theorem dX2_init_2_29 : decode cX2_init_2 29 = .ok (.aload_n 3, 1) := dk_45 (dk_at dksX2_init_2_1 5 rfl rfl)
theorem dX2_init_2_30 : decode cX2_init_2 30 = .ok (.invokevirtual 27, 3) := dk_182 0 27 (dk_at dksX2_init_2_1 6 rfl rfl)
theorem dX2_init_2_33 : decode cX2_init_2 33 = .ok (.goto 40, 3) := dk_167 0 40 (dk_at dksX2_init_2_1 9 rfl rfl)
theorem dX2_init_2_36 : decode cX2_init_2 36 = .ok (.aload_n 2, 1) := dk_44 (dk_at dksX2_init_2_1 12 rfl rfl)
theorem dX2_init_2_37 : decode cX2_init_2 37 = .ok (.instanceof 31, 3) := dk_193 0 31 (dk_at dksX2_init_2_1 13 rfl rfl)
theorem dX2_init_2_40 : decode cX2_init_2 40 = .ok (.ifCond .eq 23, 3) := dk_153 0 23 (dk_at dksX2_init_2_1 16 rfl rfl)
theorem dX2_init_2_43 : decode cX2_init_2 43 = .ok (.aload_n 2, 1) := dk_44 (dk_at dksX2_init_2_1 19 rfl rfl)
theorem dX2_init_2_44 : decode cX2_init_2 44 = .ok (.checkcast 31, 3) := dk_192 0 31 (dk_at dksX2_init_2_1 20 rfl rfl)
theorem dX2_init_2_47 : decode cX2_init_2 47 = .ok (.astore 4, 2) := dk_58 4 (dk_at dksX2_init_2_2 0 rfl rfl)
theorem dX2_init_2_49 : decode cX2_init_2 49 = .ok (.aload 4, 2) := dk_25 4 (dk_at dksX2_init_2_2 2 rfl rfl)
theorem dX2_init_2_51 : decode cX2_init_2 51 = .ok (.invokevirtual 33, 3) := dk_182 0 33 (dk_at dksX2_init_2_2 4 rfl rfl)
theorem dX2_init_2_54 : decode cX2_init_2 54 = .ok (.astore_n 3, 1) := dk_78 (dk_at dksX2_init_2_2 7 rfl rfl)
theorem dX2_init_2_55 : decode cX2_init_2 55 = .ok (.aload_n 0, 1) := dk_42 (dk_at dksX2_init_2_2 8 rfl rfl)
theorem dX2_init_2_56 : decode cX2_init_2 56 = .ok (.aload_n 3, 1) := dk_45 (dk_at dksX2_init_2_2 9 rfl rfl)
theorem dX2_init_2_57 : decode cX2_init_2 57 = .ok (.invokevirtual 27, 3) := dk_182 0 27 (dk_at dksX2_init_2_2 10 rfl rfl)
theorem dX2_init_2_60 : decode cX2_init_2 60 = .ok (.goto 13, 3) := dk_167 0 13 (dk_at dksX2_init_2_2 13 rfl rfl)
theorem dX2_init_2_63 : decode cX2_init_2 63 = .ok (.new 34, 3) := dk_187 0 34 (dk_at dksX2_init_2_2 16 rfl rfl)
theorem dX2_init_2_66 : decode cX2_init_2 66 = .ok (.dup, 1) := dk_89 (dk_at dksX2_init_2_2 19 rfl rfl)
theorem dX2_init_2_67 : decode cX2_init_2 67 = .ok (.ldc 36, 2) := dk_18 36 (dk_at dksX2_init_2_2 20 rfl rfl)
theorem dX2_init_2_69 : decode cX2_init_2 69 = .ok (.invokespecial 38, 3) := dk_183 0 38 (dk_at dksX2_init_2_3 0 rfl rfl)
theorem dX2_init_2_72 : decode cX2_init_2 72 = .ok (.athrow, 1) := dk_191 (dk_at dksX2_init_2_3 3 rfl rfl)
theorem dX2_init_2_73 : decode cX2_init_2 73 = .ok (.aload_n 0, 1) := dk_42 (dk_at dksX2_init_2_3 4 rfl rfl)
theorem dX2_init_2_74 : decode cX2_init_2 74 = .ok (.iload_n 1, 1) := dk_27 (dk_at dksX2_init_2_3 5 rfl rfl)
theorem dX2_init_2_75 : decode cX2_init_2 75 = .ok (.putfield 41, 3) := dk_181 0 41 (dk_at dksX2_init_2_3 6 rfl rfl)
theorem dX2_init_2_78 : decode cX2_init_2 78 = .ok (.return_, 1) := dk_177 (dk_at dksX2_init_2_3 9 rfl rfl)
abbrev cX2_setKey : ByteArray := prog_5_method_4_code
def yX2_setKey : MethodName := ⟨RX2, "setKey", "([B)V"⟩
def dkwX2_setKey_9 : List UInt8 := [54, 6, 21, 7, 4, 96, 44, 190, 112, 54, 7, 132, 8, 1, 167, 255, 172, 177]
abbrev dktX2_setKey_9 : List UInt8 := dkwX2_setKey_9 ++ []
def dkwX2_setKey_8 : List UInt8 := [96, 21, 4, 21, 5, 96, 182, 0, 54, 91, 79, 54, 5, 21, 6, 4, 96, 42, 180, 0, 13, 190, 112]
abbrev dktX2_setKey_8 : List UInt8 := dkwX2_setKey_8 ++ dktX2_setKey_9
def dkwX2_setKey_7 : List UInt8 := [21, 5, 96, 6, 182, 0, 54, 91, 79, 54, 4, 44, 21, 7, 42, 44, 21, 7, 46, 21, 4, 96, 21, 5]
abbrev dktX2_setKey_7 : List UInt8 := dkwX2_setKey_7 ++ dktX2_setKey_8
def dkwX2_setKey_6 : List UInt8 := [21, 8, 29, 162, 0, 84, 42, 180, 0, 13, 21, 6, 42, 42, 180, 0, 13, 21, 6, 46, 21, 4, 96]
abbrev dktX2_setKey_6 : List UInt8 := dkwX2_setKey_6 ++ dktX2_setKey_7
def dkwX2_setKey_5 : List UInt8 := [6, 42, 180, 0, 13, 190, 104, 62, 3, 54, 4, 3, 54, 5, 3, 54, 6, 3, 54, 7, 3, 54, 8]
abbrev dktX2_setKey_5 : List UInt8 := dkwX2_setKey_5 ++ dktX2_setKey_6
def dkwX2_setKey_4 : List UInt8 := [132, 3, 1, 167, 255, 227, 44, 190, 42, 180, 0, 13, 190, 164, 0, 11, 6, 44, 190, 104, 62, 167, 0, 11]
abbrev dktX2_setKey_4 : List UInt8 := dkwX2_setKey_4 ++ dktX2_setKey_5
def dkwX2_setKey_3 : List UInt8 := [180, 0, 13, 190, 162, 0, 26, 42, 180, 0, 13, 29, 42, 180, 0, 13, 29, 4, 100, 46, 18, 53, 96, 79]
abbrev dktX2_setKey_3 : List UInt8 := dkwX2_setKey_3 ++ dktX2_setKey_4
def dkwX2_setKey_2 : List UInt8 := [180, 0, 7, 4, 96, 104, 188, 10, 181, 0, 13, 42, 180, 0, 13, 3, 18, 52, 79, 4, 62, 29, 42]
abbrev dktX2_setKey_2 : List UInt8 := dkwX2_setKey_2 ++ dktX2_setKey_3
def dkwX2_setKey_1 : List UInt8 := [29, 51, 17, 0, 255, 126, 16, 8, 29, 7, 112, 104, 120, 96, 79, 132, 3, 1, 167, 255, 225, 42, 5, 42]
abbrev dktX2_setKey_1 : List UInt8 := dkwX2_setKey_1 ++ dktX2_setKey_2
def dkwX2_setKey_0 : List UInt8 := [43, 190, 6, 96, 7, 108, 188, 10, 77, 3, 62, 29, 43, 190, 159, 0, 31, 44, 29, 7, 108, 92, 46, 43]
abbrev dktX2_setKey_0 : List UInt8 := dkwX2_setKey_0 ++ dktX2_setKey_1
theorem dksX2_setKey_0 : cX2_setKey.data.toList.drop 0 = dktX2_setKey_0 := by decide +kernel
theorem dksX2_setKey_1 : cX2_setKey.data.toList.drop 24 = dktX2_setKey_1 := dk_seg dksX2_setKey_0 24 rfl rfl
theorem dksX2_setKey_2 : cX2_setKey.data.toList.drop 48 = dktX2_setKey_2 := dk_seg dksX2_setKey_1 24 rfl rfl
theorem dksX2_setKey_3 : cX2_setKey.data.toList.drop 71 = dktX2_setKey_3 := dk_seg dksX2_setKey_2 23 rfl rfl
theorem dksX2_setKey_4 : cX2_setKey.data.toList.drop 95 = dktX2_setKey_4 := dk_seg dksX2_setKey_3 24 rfl rfl
theorem dksX2_setKey_5 : cX2_setKey.data.toList.drop 119 = dktX2_setKey_5 := dk_seg dksX2_setKey_4 24 rfl rfl
theorem dksX2_setKey_6 : cX2_setKey.data.toList.drop 142 = dktX2_setKey_6 := dk_seg dksX2_setKey_5 23 rfl rfl
theorem dksX2_setKey_7 : cX2_setKey.data.toList.drop 165 = dktX2_setKey_7 := dk_seg dksX2_setKey_6 23 rfl rfl
theorem dksX2_setKey_8 : cX2_setKey.data.toList.drop 189 = dktX2_setKey_8 := dk_seg dksX2_setKey_7 24 rfl rfl
theorem dksX2_setKey_9 : cX2_setKey.data.toList.drop 212 = dktX2_setKey_9 := dk_seg dksX2_setKey_8 23 rfl rfl
theorem dX2_setKey_0 : decode cX2_setKey 0 = .ok (.aload_n 1, 1) := dk_43 (dk_at dksX2_setKey_0 0 rfl rfl)
theorem dX2_setKey_1 : decode cX2_setKey 1 = .ok (.arraylength, 1) := dk_190 (dk_at dksX2_setKey_0 1 rfl rfl)
theorem dX2_setKey_2 : decode cX2_setKey 2 = .ok (.iconst 3, 1) := dk_6 (dk_at dksX2_setKey_0 2 rfl rfl)
theorem dX2_setKey_3 : decode cX2_setKey 3 = .ok (.iadd, 1) := dk_96 (dk_at dksX2_setKey_0 3 rfl rfl)
theorem dX2_setKey_4 : decode cX2_setKey 4 = .ok (.iconst 4, 1) := dk_7 (dk_at dksX2_setKey_0 4 rfl rfl)
theorem dX2_setKey_5 : decode cX2_setKey 5 = .ok (.idiv, 1) := dk_108 (dk_at dksX2_setKey_0 5 rfl rfl)
theorem dX2_setKey_6 : decode cX2_setKey 6 = .ok (.newarray .int, 2) := dk_188_10 (dk_at dksX2_setKey_0 6 rfl rfl)
theorem dX2_setKey_8 : decode cX2_setKey 8 = .ok (.astore_n 2, 1) := dk_77 (dk_at dksX2_setKey_0 8 rfl rfl)
theorem dX2_setKey_9 : decode cX2_setKey 9 = .ok (.iconst 0, 1) := dk_3 (dk_at dksX2_setKey_0 9 rfl rfl)
theorem dX2_setKey_10 : decode cX2_setKey 10 = .ok (.istore_n 3, 1) := dk_62 (dk_at dksX2_setKey_0 10 rfl rfl)
theorem dX2_setKey_11 : decode cX2_setKey 11 = .ok (.iload_n 3, 1) := dk_29 (dk_at dksX2_setKey_0 11 rfl rfl)
theorem dX2_setKey_12 : decode cX2_setKey 12 = .ok (.aload_n 1, 1) := dk_43 (dk_at dksX2_setKey_0 12 rfl rfl)
theorem dX2_setKey_13 : decode cX2_setKey 13 = .ok (.arraylength, 1) := dk_190 (dk_at dksX2_setKey_0 13 rfl rfl)
theorem dX2_setKey_14 : decode cX2_setKey 14 = .ok (.if_icmp .eq 31, 3) := dk_159 0 31 (dk_at dksX2_setKey_0 14 rfl rfl)
theorem dX2_setKey_17 : decode cX2_setKey 17 = .ok (.aload_n 2, 1) := dk_44 (dk_at dksX2_setKey_0 17 rfl rfl)
theorem dX2_setKey_18 : decode cX2_setKey 18 = .ok (.iload_n 3, 1) := dk_29 (dk_at dksX2_setKey_0 18 rfl rfl)
theorem dX2_setKey_19 : decode cX2_setKey 19 = .ok (.iconst 4, 1) := dk_7 (dk_at dksX2_setKey_0 19 rfl rfl)
theorem dX2_setKey_20 : decode cX2_setKey 20 = .ok (.idiv, 1) := dk_108 (dk_at dksX2_setKey_0 20 rfl rfl)
theorem dX2_setKey_21 : decode cX2_setKey 21 = .ok (.dup2, 1) := dk_92 (dk_at dksX2_setKey_0 21 rfl rfl)
theorem dX2_setKey_22 : decode cX2_setKey 22 = .ok (.iaload, 1) := dk_46 (dk_at dksX2_setKey_0 22 rfl rfl)
theorem dX2_setKey_23 : decode cX2_setKey 23 = .ok (.aload_n 1, 1) := dk_43 (dk_at dksX2_setKey_0 23 rfl rfl)
theorem dX2_setKey_24 : decode cX2_setKey 24 = .ok (.iload_n 3, 1) := dk_29 (dk_at dksX2_setKey_1 0 rfl rfl)
theorem dX2_setKey_25 : decode cX2_setKey 25 = .ok (.baload, 1) := dk_51 (dk_at dksX2_setKey_1 1 rfl rfl)
theorem dX2_setKey_26 : decode cX2_setKey 26 = .ok (.sipush 255, 3) := dk_17 0 255 (dk_at dksX2_setKey_1 2 rfl rfl)
theorem dX2_setKey_29 : decode cX2_setKey 29 = .ok (.iand, 1) := dk_126 (dk_at dksX2_setKey_1 5 rfl rfl)
theorem dX2_setKey_30 : decode cX2_setKey 30 = .ok (.bipush 8, 2) := dk_16 8 (dk_at dksX2_setKey_1 6 rfl rfl)
theorem dX2_setKey_32 : decode cX2_setKey 32 = .ok (.iload_n 3, 1) := dk_29 (dk_at dksX2_setKey_1 8 rfl rfl)
theorem dX2_setKey_33 : decode cX2_setKey 33 = .ok (.iconst 4, 1) := dk_7 (dk_at dksX2_setKey_1 9 rfl rfl)
theorem dX2_setKey_34 : decode cX2_setKey 34 = .ok (.irem, 1) := dk_112 (dk_at dksX2_setKey_1 10 rfl rfl)
theorem dX2_setKey_35 : decode cX2_setKey 35 = .ok (.imul, 1) := dk_104 (dk_at dksX2_setKey_1 11 rfl rfl)
theorem dX2_setKey_36 : decode cX2_setKey 36 = .ok (.ishl, 1) := dk_120 (dk_at dksX2_setKey_1 12 rfl rfl)
theorem dX2_setKey_37 : decode cX2_setKey 37 = .ok (.iadd, 1) := dk_96 (dk_at dksX2_setKey_1 13 rfl rfl)
theorem dX2_setKey_38 : decode cX2_setKey 38 = .ok (.iastore, 1) := dk_79 (dk_at dksX2_setKey_1 14 rfl rfl)
theorem dX2_setKey_39 : decode cX2_setKey 39 = .ok (.iinc 3 1, 3) := dk_132 3 1 (dk_at dksX2_setKey_1 15 rfl rfl)
theorem dX2_setKey_42 : decode cX2_setKey 42 = .ok (.goto (-31), 3) := dk_167 255 225 (dk_at dksX2_setKey_1 18 rfl rfl)
theorem dX2_setKey_45 : decode cX2_setKey 45 = .ok (.aload_n 0, 1) := dk_42 (dk_at dksX2_setKey_1 21 rfl rfl)
theorem dX2_setKey_46 : decode cX2_setKey 46 = .ok (.iconst 2, 1) := dk_5 (dk_at dksX2_setKey_1 22 rfl rfl)
theorem dX2_setKey_47 : decode cX2_setKey 47 = .ok (.aload_n 0, 1) := dk_42 (dk_at dksX2_setKey_1 23 rfl rfl)
theorem dX2_setKey_48 : decode cX2_setKey 48 = .ok (.getfield 7, 3) := dk_180 0 7 (dk_at dksX2_setKey_2 0 rfl rfl)
theorem dX2_setKey_51 : decode cX2_setKey 51 = .ok (.iconst 1, 1) := dk_4 (dk_at dksX2_setKey_2 3 rfl rfl)
theorem dX2_setKey_52 : decode cX2_setKey 52 = .ok (.iadd, 1) := dk_96 (dk_at dksX2_setKey_2 4 rfl rfl)
theorem dX2_setKey_53 : decode cX2_setKey 53 = .ok (.imul, 1) := dk_104 (dk_at dksX2_setKey_2 5 rfl rfl)
theorem dX2_setKey_54 : decode cX2_setKey 54 = .ok (.newarray .int, 2) := dk_188_10 (dk_at dksX2_setKey_2 6 rfl rfl)
theorem dX2_setKey_56 : decode cX2_setKey 56 = .ok (.putfield 13, 3) := dk_181 0 13 (dk_at dksX2_setKey_2 8 rfl rfl)
theorem dX2_setKey_59 : decode cX2_setKey 59 = .ok (.aload_n 0, 1) := dk_42 (dk_at dksX2_setKey_2 11 rfl rfl)
theorem dX2_setKey_60 : decode cX2_setKey 60 = .ok (.getfield 13, 3) := dk_180 0 13 (dk_at dksX2_setKey_2 12 rfl rfl)
theorem dX2_setKey_63 : decode cX2_setKey 63 = .ok (.iconst 0, 1) := dk_3 (dk_at dksX2_setKey_2 15 rfl rfl)
theorem dX2_setKey_64 : decode cX2_setKey 64 = .ok (.ldc 52, 2) := dk_18 52 (dk_at dksX2_setKey_2 16 rfl rfl)
theorem dX2_setKey_66 : decode cX2_setKey 66 = .ok (.iastore, 1) := dk_79 (dk_at dksX2_setKey_2 18 rfl rfl)
theorem dX2_setKey_67 : decode cX2_setKey 67 = .ok (.iconst 1, 1) := dk_4 (dk_at dksX2_setKey_2 19 rfl rfl)
theorem dX2_setKey_68 : decode cX2_setKey 68 = .ok (.istore_n 3, 1) := dk_62 (dk_at dksX2_setKey_2 20 rfl rfl)
theorem dX2_setKey_69 : decode cX2_setKey 69 = .ok (.iload_n 3, 1) := dk_29 (dk_at dksX2_setKey_2 21 rfl rfl)
theorem dX2_setKey_70 : decode cX2_setKey 70 = .ok (.aload_n 0, 1) := dk_42 (dk_at dksX2_setKey_2 22 rfl rfl)
theorem dX2_setKey_71 : decode cX2_setKey 71 = .ok (.getfield 13, 3) := dk_180 0 13 (dk_at dksX2_setKey_3 0 rfl rfl)
theorem dX2_setKey_74 : decode cX2_setKey 74 = .ok (.arraylength, 1) := dk_190 (dk_at dksX2_setKey_3 3 rfl rfl)
theorem dX2_setKey_75 : decode cX2_setKey 75 = .ok (.if_icmp .ge 26, 3) := dk_162 0 26 (dk_at dksX2_setKey_3 4 rfl rfl)
theorem dX2_setKey_78 : decode cX2_setKey 78 = .ok (.aload_n 0, 1) := dk_42 (dk_at dksX2_setKey_3 7 rfl rfl)
theorem dX2_setKey_79 : decode cX2_setKey 79 = .ok (.getfield 13, 3) := dk_180 0 13 (dk_at dksX2_setKey_3 8 rfl rfl)
theorem dX2_setKey_82 : decode cX2_setKey 82 = .ok (.iload_n 3, 1) := dk_29 (dk_at dksX2_setKey_3 11 rfl rfl)
theorem dX2_setKey_83 : decode cX2_setKey 83 = .ok (.aload_n 0, 1) := dk_42 (dk_at dksX2_setKey_3 12 rfl rfl)
theorem dX2_setKey_84 : decode cX2_setKey 84 = .ok (.getfield 13, 3) := dk_180 0 13 (dk_at dksX2_setKey_3 13 rfl rfl)
theorem dX2_setKey_87 : decode cX2_setKey 87 = .ok (.iload_n 3, 1) := dk_29 (dk_at dksX2_setKey_3 16 rfl rfl)
theorem dX2_setKey_88 : decode cX2_setKey 88 = .ok (.iconst 1, 1) := dk_4 (dk_at dksX2_setKey_3 17 rfl rfl)
theorem dX2_setKey_89 : decode cX2_setKey 89 = .ok (.isub, 1) := dk_100 (dk_at dksX2_setKey_3 18 rfl rfl)
theorem dX2_setKey_90 : decode cX2_setKey 90 = .ok (.iaload, 1) := dk_46 (dk_at dksX2_setKey_3 19 rfl rfl)
theorem dX2_setKey_91 : decode cX2_setKey 91 = .ok (.ldc 53, 2) := dk_18 53 (dk_at dksX2_setKey_3 20 rfl rfl)
theorem dX2_setKey_93 : decode cX2_setKey 93 = .ok (.iadd, 1) := dk_96 (dk_at dksX2_setKey_3 22 rfl rfl)
theorem dX2_setKey_94 : decode cX2_setKey 94 = .ok (.iastore, 1) := dk_79 (dk_at dksX2_setKey_3 23 rfl rfl)
theorem dX2_setKey_95 : decode cX2_setKey 95 = .ok (.iinc 3 1, 3) := dk_132 3 1 (dk_at dksX2_setKey_4 0 rfl rfl)
theorem dX2_setKey_98 : decode cX2_setKey 98 = .ok (.goto (-29), 3) := dk_167 255 227 (dk_at dksX2_setKey_4 3 rfl rfl)
theorem dX2_setKey_101 : decode cX2_setKey 101 = .ok (.aload_n 2, 1) := dk_44 (dk_at dksX2_setKey_4 6 rfl rfl)
theorem dX2_setKey_102 : decode cX2_setKey 102 = .ok (.arraylength, 1) := dk_190 (dk_at dksX2_setKey_4 7 rfl rfl)
theorem dX2_setKey_103 : decode cX2_setKey 103 = .ok (.aload_n 0, 1) := dk_42 (dk_at dksX2_setKey_4 8 rfl rfl)
theorem dX2_setKey_104 : decode cX2_setKey 104 = .ok (.getfield 13, 3) := dk_180 0 13 (dk_at dksX2_setKey_4 9 rfl rfl)
theorem dX2_setKey_107 : decode cX2_setKey 107 = .ok (.arraylength, 1) := dk_190 (dk_at dksX2_setKey_4 12 rfl rfl)
theorem dX2_setKey_108 : decode cX2_setKey 108 = .ok (.if_icmp .le 11, 3) := dk_164 0 11 (dk_at dksX2_setKey_4 13 rfl rfl)
theorem dX2_setKey_111 : decode cX2_setKey 111 = .ok (.iconst 3, 1) := dk_6 (dk_at dksX2_setKey_4 16 rfl rfl)
theorem dX2_setKey_112 : decode cX2_setKey 112 = .ok (.aload_n 2, 1) := dk_44 (dk_at dksX2_setKey_4 17 rfl rfl)
theorem dX2_setKey_113 : decode cX2_setKey 113 = .ok (.arraylength, 1) := dk_190 (dk_at dksX2_setKey_4 18 rfl rfl)
theorem dX2_setKey_114 : decode cX2_setKey 114 = .ok (.imul, 1) := dk_104 (dk_at dksX2_setKey_4 19 rfl rfl)
theorem dX2_setKey_115 : decode cX2_setKey 115 = .ok (.istore_n 3, 1) := dk_62 (dk_at dksX2_setKey_4 20 rfl rfl)
theorem dX2_setKey_116 : decode cX2_setKey 116 = .ok (.goto 11, 3) := dk_167 0 11 (dk_at dksX2_setKey_4 21 rfl rfl)
theorem dX2_setKey_119 : decode cX2_setKey 119 = .ok (.iconst 3, 1) := dk_6 (dk_at dksX2_setKey_5 0 rfl rfl)
theorem dX2_setKey_120 : decode cX2_setKey 120 = .ok (.aload_n 0, 1) := dk_42 (dk_at dksX2_setKey_5 1 rfl rfl)
theorem dX2_setKey_121 : decode cX2_setKey 121 = .ok (.getfield 13, 3) := dk_180 0 13 (dk_at dksX2_setKey_5 2 rfl rfl)
theorem dX2_setKey_124 : decode cX2_setKey 124 = .ok (.arraylength, 1) := dk_190 (dk_at dksX2_setKey_5 5 rfl rfl)
theorem dX2_setKey_125 : decode cX2_setKey 125 = .ok (.imul, 1) := dk_104 (dk_at dksX2_setKey_5 6 rfl rfl)
theorem dX2_setKey_126 : decode cX2_setKey 126 = .ok (.istore_n 3, 1) := dk_62 (dk_at dksX2_setKey_5 7 rfl rfl)
theorem dX2_setKey_127 : decode cX2_setKey 127 = .ok (.iconst 0, 1) := dk_3 (dk_at dksX2_setKey_5 8 rfl rfl)
theorem dX2_setKey_128 : decode cX2_setKey 128 = .ok (.istore 4, 2) := dk_54 4 (dk_at dksX2_setKey_5 9 rfl rfl)
theorem dX2_setKey_130 : decode cX2_setKey 130 = .ok (.iconst 0, 1) := dk_3 (dk_at dksX2_setKey_5 11 rfl rfl)
theorem dX2_setKey_131 : decode cX2_setKey 131 = .ok (.istore 5, 2) := dk_54 5 (dk_at dksX2_setKey_5 12 rfl rfl)
theorem dX2_setKey_133 : decode cX2_setKey 133 = .ok (.iconst 0, 1) := dk_3 (dk_at dksX2_setKey_5 14 rfl rfl)
theorem dX2_setKey_134 : decode cX2_setKey 134 = .ok (.istore 6, 2) := dk_54 6 (dk_at dksX2_setKey_5 15 rfl rfl)
theorem dX2_setKey_136 : decode cX2_setKey 136 = .ok (.iconst 0, 1) := dk_3 (dk_at dksX2_setKey_5 17 rfl rfl)
theorem dX2_setKey_137 : decode cX2_setKey 137 = .ok (.istore 7, 2) := dk_54 7 (dk_at dksX2_setKey_5 18 rfl rfl)
theorem dX2_setKey_139 : decode cX2_setKey 139 = .ok (.iconst 0, 1) := dk_3 (dk_at dksX2_setKey_5 20 rfl rfl)
theorem dX2_setKey_140 : decode cX2_setKey 140 = .ok (.istore 8, 2) := dk_54 8 (dk_at dksX2_setKey_5 21 rfl rfl)
theorem dX2_setKey_142 : decode cX2_setKey 142 = .ok (.iload 8, 2) := dk_21 8 (dk_at dksX2_setKey_6 0 rfl rfl)
theorem dX2_setKey_144 : decode cX2_setKey 144 = .ok (.iload_n 3, 1) := dk_29 (dk_at dksX2_setKey_6 2 rfl rfl)
theorem dX2_setKey_145 : decode cX2_setKey 145 = .ok (.if_icmp .ge 84, 3) := dk_162 0 84 (dk_at dksX2_setKey_6 3 rfl rfl)
theorem dX2_setKey_148 : decode cX2_setKey 148 = .ok (.aload_n 0, 1) := dk_42 (dk_at dksX2_setKey_6 6 rfl rfl)
theorem dX2_setKey_149 : decode cX2_setKey 149 = .ok (.getfield 13, 3) := dk_180 0 13 (dk_at dksX2_setKey_6 7 rfl rfl)
theorem dX2_setKey_152 : decode cX2_setKey 152 = .ok (.iload 6, 2) := dk_21 6 (dk_at dksX2_setKey_6 10 rfl rfl)
theorem dX2_setKey_154 : decode cX2_setKey 154 = .ok (.aload_n 0, 1) := dk_42 (dk_at dksX2_setKey_6 12 rfl rfl)
theorem dX2_setKey_155 : decode cX2_setKey 155 = .ok (.aload_n 0, 1) := dk_42 (dk_at dksX2_setKey_6 13 rfl rfl)
theorem dX2_setKey_156 : decode cX2_setKey 156 = .ok (.getfield 13, 3) := dk_180 0 13 (dk_at dksX2_setKey_6 14 rfl rfl)
theorem dX2_setKey_159 : decode cX2_setKey 159 = .ok (.iload 6, 2) := dk_21 6 (dk_at dksX2_setKey_6 17 rfl rfl)
theorem dX2_setKey_161 : decode cX2_setKey 161 = .ok (.iaload, 1) := dk_46 (dk_at dksX2_setKey_6 19 rfl rfl)
theorem dX2_setKey_162 : decode cX2_setKey 162 = .ok (.iload 4, 2) := dk_21 4 (dk_at dksX2_setKey_6 20 rfl rfl)
theorem dX2_setKey_164 : decode cX2_setKey 164 = .ok (.iadd, 1) := dk_96 (dk_at dksX2_setKey_6 22 rfl rfl)
theorem dX2_setKey_165 : decode cX2_setKey 165 = .ok (.iload 5, 2) := dk_21 5 (dk_at dksX2_setKey_7 0 rfl rfl)
theorem dX2_setKey_167 : decode cX2_setKey 167 = .ok (.iadd, 1) := dk_96 (dk_at dksX2_setKey_7 2 rfl rfl)
theorem dX2_setKey_168 : decode cX2_setKey 168 = .ok (.iconst 3, 1) := dk_6 (dk_at dksX2_setKey_7 3 rfl rfl)
theorem dX2_setKey_169 : decode cX2_setKey 169 = .ok (.invokevirtual 54, 3) := dk_182 0 54 (dk_at dksX2_setKey_7 4 rfl rfl)
theorem dX2_setKey_172 : decode cX2_setKey 172 = .ok (.dup_x2, 1) := dk_91 (dk_at dksX2_setKey_7 7 rfl rfl)
theorem dX2_setKey_173 : decode cX2_setKey 173 = .ok (.iastore, 1) := dk_79 (dk_at dksX2_setKey_7 8 rfl rfl)
theorem dX2_setKey_174 : decode cX2_setKey 174 = .ok (.istore 4, 2) := dk_54 4 (dk_at dksX2_setKey_7 9 rfl rfl)
theorem dX2_setKey_176 : decode cX2_setKey 176 = .ok (.aload_n 2, 1) := dk_44 (dk_at dksX2_setKey_7 11 rfl rfl)
theorem dX2_setKey_177 : decode cX2_setKey 177 = .ok (.iload 7, 2) := dk_21 7 (dk_at dksX2_setKey_7 12 rfl rfl)
theorem dX2_setKey_179 : decode cX2_setKey 179 = .ok (.aload_n 0, 1) := dk_42 (dk_at dksX2_setKey_7 14 rfl rfl)
theorem dX2_setKey_180 : decode cX2_setKey 180 = .ok (.aload_n 2, 1) := dk_44 (dk_at dksX2_setKey_7 15 rfl rfl)
theorem dX2_setKey_181 : decode cX2_setKey 181 = .ok (.iload 7, 2) := dk_21 7 (dk_at dksX2_setKey_7 16 rfl rfl)
theorem dX2_setKey_183 : decode cX2_setKey 183 = .ok (.iaload, 1) := dk_46 (dk_at dksX2_setKey_7 18 rfl rfl)
theorem dX2_setKey_184 : decode cX2_setKey 184 = .ok (.iload 4, 2) := dk_21 4 (dk_at dksX2_setKey_7 19 rfl rfl)
theorem dX2_setKey_186 : decode cX2_setKey 186 = .ok (.iadd, 1) := dk_96 (dk_at dksX2_setKey_7 21 rfl rfl)
theorem dX2_setKey_187 : decode cX2_setKey 187 = .ok (.iload 5, 2) := dk_21 5 (dk_at dksX2_setKey_7 22 rfl rfl)
theorem dX2_setKey_189 : decode cX2_setKey 189 = .ok (.iadd, 1) := dk_96 (dk_at dksX2_setKey_8 0 rfl rfl)
theorem dX2_setKey_190 : decode cX2_setKey 190 = .ok (.iload 4, 2) := dk_21 4 (dk_at dksX2_setKey_8 1 rfl rfl)
theorem dX2_setKey_192 : decode cX2_setKey 192 = .ok (.iload 5, 2) := dk_21 5 (dk_at dksX2_setKey_8 3 rfl rfl)
theorem dX2_setKey_194 : decode cX2_setKey 194 = .ok (.iadd, 1) := dk_96 (dk_at dksX2_setKey_8 5 rfl rfl)
theorem dX2_setKey_195 : decode cX2_setKey 195 = .ok (.invokevirtual 54, 3) := dk_182 0 54 (dk_at dksX2_setKey_8 6 rfl rfl)
theorem dX2_setKey_198 : decode cX2_setKey 198 = .ok (.dup_x2, 1) := dk_91 (dk_at dksX2_setKey_8 9 rfl rfl)
theorem dX2_setKey_199 : decode cX2_setKey 199 = .ok (.iastore, 1) := dk_79 (dk_at dksX2_setKey_8 10 rfl rfl)
theorem dX2_setKey_200 : decode cX2_setKey 200 = .ok (.istore 5, 2) := dk_54 5 (dk_at dksX2_setKey_8 11 rfl rfl)
theorem dX2_setKey_202 : decode cX2_setKey 202 = .ok (.iload 6, 2) := dk_21 6 (dk_at dksX2_setKey_8 13 rfl rfl)
theorem dX2_setKey_204 : decode cX2_setKey 204 = .ok (.iconst 1, 1) := dk_4 (dk_at dksX2_setKey_8 15 rfl rfl)
theorem dX2_setKey_205 : decode cX2_setKey 205 = .ok (.iadd, 1) := dk_96 (dk_at dksX2_setKey_8 16 rfl rfl)
theorem dX2_setKey_206 : decode cX2_setKey 206 = .ok (.aload_n 0, 1) := dk_42 (dk_at dksX2_setKey_8 17 rfl rfl)
theorem dX2_setKey_207 : decode cX2_setKey 207 = .ok (.getfield 13, 3) := dk_180 0 13 (dk_at dksX2_setKey_8 18 rfl rfl)
theorem dX2_setKey_210 : decode cX2_setKey 210 = .ok (.arraylength, 1) := dk_190 (dk_at dksX2_setKey_8 21 rfl rfl)
theorem dX2_setKey_211 : decode cX2_setKey 211 = .ok (.irem, 1) := dk_112 (dk_at dksX2_setKey_8 22 rfl rfl)
theorem dX2_setKey_212 : decode cX2_setKey 212 = .ok (.istore 6, 2) := dk_54 6 (dk_at dksX2_setKey_9 0 rfl rfl)
theorem dX2_setKey_214 : decode cX2_setKey 214 = .ok (.iload 7, 2) := dk_21 7 (dk_at dksX2_setKey_9 2 rfl rfl)
theorem dX2_setKey_216 : decode cX2_setKey 216 = .ok (.iconst 1, 1) := dk_4 (dk_at dksX2_setKey_9 4 rfl rfl)
theorem dX2_setKey_217 : decode cX2_setKey 217 = .ok (.iadd, 1) := dk_96 (dk_at dksX2_setKey_9 5 rfl rfl)
theorem dX2_setKey_218 : decode cX2_setKey 218 = .ok (.aload_n 2, 1) := dk_44 (dk_at dksX2_setKey_9 6 rfl rfl)
theorem dX2_setKey_219 : decode cX2_setKey 219 = .ok (.arraylength, 1) := dk_190 (dk_at dksX2_setKey_9 7 rfl rfl)
theorem dX2_setKey_220 : decode cX2_setKey 220 = .ok (.irem, 1) := dk_112 (dk_at dksX2_setKey_9 8 rfl rfl)
theorem dX2_setKey_221 : decode cX2_setKey 221 = .ok (.istore 7, 2) := dk_54 7 (dk_at dksX2_setKey_9 9 rfl rfl)
theorem dX2_setKey_223 : decode cX2_setKey 223 = .ok (.iinc 8 1, 3) := dk_132 8 1 (dk_at dksX2_setKey_9 11 rfl rfl)
theorem dX2_setKey_226 : decode cX2_setKey 226 = .ok (.goto (-84), 3) := dk_167 255 172 (dk_at dksX2_setKey_9 14 rfl rfl)
theorem dX2_setKey_229 : decode cX2_setKey 229 = .ok (.return_, 1) := dk_177 (dk_at dksX2_setKey_9 17 rfl rfl)
abbrev cX2_rotateLeft : ByteArray := prog_5_method_7_code
def yX2_rotateLeft : MethodName := ⟨RX2, "rotateLeft", "(II)I"⟩
def dkwX2_rotateLeft_0 : List UInt8 := [27, 28, 16, 31, 126, 120, 27, 16, 32, 28, 16, 31, 126, 100, 124, 128, 172]
abbrev dktX2_rotateLeft_0 : List UInt8 := dkwX2_rotateLeft_0 ++ []
theorem dksX2_rotateLeft_0 : cX2_rotateLeft.data.toList.drop 0 = dktX2_rotateLeft_0 := by decide +kernel
theorem dX2_rotateLeft_0 : decode cX2_rotateLeft 0 = .ok (.iload_n 1, 1) := dk_27 (dk_at dksX2_rotateLeft_0 0 rfl rfl)
theorem dX2_rotateLeft_1 : decode cX2_rotateLeft 1 = .ok (.iload_n 2, 1) := dk_28 (dk_at dksX2_rotateLeft_0 1 rfl rfl)
theorem dX2_rotateLeft_2 : decode cX2_rotateLeft 2 = .ok (.bipush 31, 2) := dk_16 31 (dk_at dksX2_rotateLeft_0 2 rfl rfl)
theorem dX2_rotateLeft_4 : decode cX2_rotateLeft 4 = .ok (.iand, 1) := dk_126 (dk_at dksX2_rotateLeft_0 4 rfl rfl)
theorem dX2_rotateLeft_5 : decode cX2_rotateLeft 5 = .ok (.ishl, 1) := dk_120 (dk_at dksX2_rotateLeft_0 5 rfl rfl)
theorem dX2_rotateLeft_6 : decode cX2_rotateLeft 6 = .ok (.iload_n 1, 1) := dk_27 (dk_at dksX2_rotateLeft_0 6 rfl rfl)
theorem dX2_rotateLeft_7 : decode cX2_rotateLeft 7 = .ok (.bipush 32, 2) := dk_16 32 (dk_at dksX2_rotateLeft_0 7 rfl rfl)
theorem dX2_rotateLeft_9 : decode cX2_rotateLeft 9 = .ok (.iload_n 2, 1) := dk_28 (dk_at dksX2_rotateLeft_0 9 rfl rfl)
theorem dX2_rotateLeft_10 : decode cX2_rotateLeft 10 = .ok (.bipush 31, 2) := dk_16 31 (dk_at dksX2_rotateLeft_0 10 rfl rfl)
theorem dX2_rotateLeft_12 : decode cX2_rotateLeft 12 = .ok (.iand, 1) := dk_126 (dk_at dksX2_rotateLeft_0 12 rfl rfl)
theorem dX2_rotateLeft_13 : decode cX2_rotateLeft 13 = .ok (.isub, 1) := dk_100 (dk_at dksX2_rotateLeft_0 13 rfl rfl)
theorem dX2_rotateLeft_14 : decode cX2_rotateLeft 14 = .ok (.iushr, 1) := dk_124 (dk_at dksX2_rotateLeft_0 14 rfl rfl)
theorem dX2_rotateLeft_15 : decode cX2_rotateLeft 15 = .ok (.ior, 1) := dk_128 (dk_at dksX2_rotateLeft_0 15 rfl rfl)
theorem dX2_rotateLeft_16 : decode cX2_rotateLeft 16 = .ok (.ireturn, 1) := dk_172 (dk_at dksX2_rotateLeft_0 16 rfl rfl)
abbrev cX2_processBlock : ByteArray := prog_5_method_3_code
def yX2_processBlock : MethodName := ⟨RX2, "processBlock", "([BI[BI)I"⟩
def dkwX2_processBlock_1 : List UInt8 := [21, 4, 182, 0, 49, 172]
abbrev dktX2_processBlock_1 : List UInt8 := dkwX2_processBlock_1 ++ []
def dkwX2_processBlock_0 : List UInt8 := [42, 180, 0, 41, 153, 0, 15, 42, 43, 28, 45, 21, 4, 182, 0, 45, 167, 0, 12, 42, 43, 28, 45]
abbrev dktX2_processBlock_0 : List UInt8 := dkwX2_processBlock_0 ++ dktX2_processBlock_1
theorem dksX2_processBlock_0 : cX2_processBlock.data.toList.drop 0 = dktX2_processBlock_0 := by decide +kernel
theorem dksX2_processBlock_1 : cX2_processBlock.data.toList.drop 23 = dktX2_processBlock_1 := dk_seg dksX2_processBlock_0 23 rfl rfl
theorem dX2_processBlock_0 : decode cX2_processBlock 0 = .ok (.aload_n 0, 1) := dk_42 (dk_at dksX2_processBlock_0 0 rfl rfl)
theorem dX2_processBlock_1 : decode cX2_processBlock 1 = .ok (.getfield 41, 3) := dk_180 0 41 (dk_at dksX2_processBlock_0 1 rfl rfl)
theorem dX2_processBlock_4 : decode cX2_processBlock 4 = .ok (.ifCond .eq 15, 3) := dk_153 0 15 (dk_at dksX2_processBlock_0 4 rfl rfl)
theorem dX2_processBlock_7 : decode cX2_processBlock 7 = .ok (.aload_n 0, 1) := dk_42 (dk_at dksX2_processBlock_0 7 rfl rfl)
theorem dX2_processBlock_8 : decode cX2_processBlock 8 = .ok (.aload_n 1, 1) := dk_43 (dk_at dksX2_processBlock_0 8 rfl rfl)
theorem dX2_processBlock_9 : decode cX2_processBlock 9 = .ok (.iload_n 2, 1) := dk_28 (dk_at dksX2_processBlock_0 9 rfl rfl)
theorem dX2_processBlock_10 : decode cX2_processBlock 10 = .ok (.aload_n 3, 1) := dk_45 (dk_at dksX2_processBlock_0 10 rfl rfl)
theorem dX2_processBlock_11 : decode cX2_processBlock 11 = .ok (.iload 4, 2) := dk_21 4 (dk_at dksX2_processBlock_0 11 rfl rfl)
theorem dX2_processBlock_13 : decode cX2_processBlock 13 = .ok (.invokevirtual 45, 3) := dk_182 0 45 (dk_at dksX2_processBlock_0 13 rfl rfl)
theorem dX2_processBlock_16 : decode cX2_processBlock 16 = .ok (.goto 12, 3) := dk_167 0 12 (dk_at dksX2_processBlock_0 16 rfl rfl)
theorem dX2_processBlock_19 : decode cX2_processBlock 19 = .ok (.aload_n 0, 1) := dk_42 (dk_at dksX2_processBlock_0 19 rfl rfl)
theorem dX2_processBlock_20 : decode cX2_processBlock 20 = .ok (.aload_n 1, 1) := dk_43 (dk_at dksX2_processBlock_0 20 rfl rfl)
theorem dX2_processBlock_21 : decode cX2_processBlock 21 = .ok (.iload_n 2, 1) := dk_28 (dk_at dksX2_processBlock_0 21 rfl rfl)
theorem dX2_processBlock_22 : decode cX2_processBlock 22 = .ok (.aload_n 3, 1) := dk_45 (dk_at dksX2_processBlock_0 22 rfl rfl)
theorem dX2_processBlock_23 : decode cX2_processBlock 23 = .ok (.iload 4, 2) := dk_21 4 (dk_at dksX2_processBlock_1 0 rfl rfl)
theorem dX2_processBlock_25 : decode cX2_processBlock 25 = .ok (.invokevirtual 49, 3) := dk_182 0 49 (dk_at dksX2_processBlock_1 2 rfl rfl)
theorem dX2_processBlock_28 : decode cX2_processBlock 28 = .ok (.ireturn, 1) := dk_172 (dk_at dksX2_processBlock_1 5 rfl rfl)
abbrev cX2_encryptBlock : ByteArray := prog_5_method_5_code
def yX2_encryptBlock : MethodName := ⟨RX2, "encryptBlock", "([BI[BI)I"⟩
def dkwX2_encryptBlock_5 : List UInt8 := [182, 0, 62, 16, 8, 172]
abbrev dktX2_encryptBlock_5 : List UInt8 := dkwX2_encryptBlock_5 ++ []
def dkwX2_encryptBlock_4 : List UInt8 := [132, 7, 1, 167, 255, 196, 42, 21, 5, 45, 21, 4, 182, 0, 62, 42, 21, 6, 45, 21, 4, 7, 96]
abbrev dktX2_encryptBlock_4 : List UInt8 := dkwX2_encryptBlock_4 ++ dktX2_encryptBlock_5
def dkwX2_encryptBlock_3 : List UInt8 := [21, 5, 130, 21, 5, 182, 0, 54, 42, 180, 0, 13, 5, 21, 7, 104, 4, 96, 46, 96, 54, 6]
abbrev dktX2_encryptBlock_3 : List UInt8 := dkwX2_encryptBlock_3 ++ dktX2_encryptBlock_4
def dkwX2_encryptBlock_2 : List UInt8 := [21, 6, 130, 21, 6, 182, 0, 54, 42, 180, 0, 13, 5, 21, 7, 104, 46, 96, 54, 5, 42, 21, 6]
abbrev dktX2_encryptBlock_2 : List UInt8 := dkwX2_encryptBlock_2 ++ dktX2_encryptBlock_3
def dkwX2_encryptBlock_1 : List UInt8 := [180, 0, 13, 4, 46, 96, 54, 6, 4, 54, 7, 21, 7, 42, 180, 0, 7, 163, 0, 57, 42, 21, 5]
abbrev dktX2_encryptBlock_1 : List UInt8 := dkwX2_encryptBlock_1 ++ dktX2_encryptBlock_2
def dkwX2_encryptBlock_0 : List UInt8 := [42, 43, 28, 182, 0, 58, 42, 180, 0, 13, 3, 46, 96, 54, 5, 42, 43, 28, 7, 96, 182, 0, 58, 42]
abbrev dktX2_encryptBlock_0 : List UInt8 := dkwX2_encryptBlock_0 ++ dktX2_encryptBlock_1
theorem dksX2_encryptBlock_0 : cX2_encryptBlock.data.toList.drop 0 = dktX2_encryptBlock_0 := by decide +kernel
theorem dksX2_encryptBlock_1 : cX2_encryptBlock.data.toList.drop 24 = dktX2_encryptBlock_1 := dk_seg dksX2_encryptBlock_0 24 rfl rfl
theorem dksX2_encryptBlock_2 : cX2_encryptBlock.data.toList.drop 47 = dktX2_encryptBlock_2 := dk_seg dksX2_encryptBlock_1 23 rfl rfl
theorem dksX2_encryptBlock_3 : cX2_encryptBlock.data.toList.drop 70 = dktX2_encryptBlock_3 := dk_seg dksX2_encryptBlock_2 23 rfl rfl
theorem dksX2_encryptBlock_4 : cX2_encryptBlock.data.toList.drop 92 = dktX2_encryptBlock_4 := dk_seg dksX2_encryptBlock_3 22 rfl rfl
theorem dksX2_encryptBlock_5 : cX2_encryptBlock.data.toList.drop 115 = dktX2_encryptBlock_5 := dk_seg dksX2_encryptBlock_4 23 rfl rfl
theorem dX2_encryptBlock_0 : decode cX2_encryptBlock 0 = .ok (.aload_n 0, 1) := dk_42 (dk_at dksX2_encryptBlock_0 0 rfl rfl)
theorem dX2_encryptBlock_1 : decode cX2_encryptBlock 1 = .ok (.aload_n 1, 1) := dk_43 (dk_at dksX2_encryptBlock_0 1 rfl rfl)
theorem dX2_encryptBlock_2 : decode cX2_encryptBlock 2 = .ok (.iload_n 2, 1) := dk_28 (dk_at dksX2_encryptBlock_0 2 rfl rfl)
theorem dX2_encryptBlock_3 : decode cX2_encryptBlock 3 = .ok (.invokevirtual 58, 3) := dk_182 0 58 (dk_at dksX2_encryptBlock_0 3 rfl rfl)
theorem dX2_encryptBlock_6 : decode cX2_encryptBlock 6 = .ok (.aload_n 0, 1) := dk_42 (dk_at dksX2_encryptBlock_0 6 rfl rfl)
theorem dX2_encryptBlock_7 : decode cX2_encryptBlock 7 = .ok (.getfield 13, 3) := dk_180 0 13 (dk_at dksX2_encryptBlock_0 7 rfl rfl)
theorem dX2_encryptBlock_10 : decode cX2_encryptBlock 10 = .ok (.iconst 0, 1) := dk_3 (dk_at dksX2_encryptBlock_0 10 rfl rfl)
theorem dX2_encryptBlock_11 : decode cX2_encryptBlock 11 = .ok (.iaload, 1) := dk_46 (dk_at dksX2_encryptBlock_0 11 rfl rfl)
theorem dX2_encryptBlock_12 : decode cX2_encryptBlock 12 = .ok (.iadd, 1) := dk_96 (dk_at dksX2_encryptBlock_0 12 rfl rfl)
theorem dX2_encryptBlock_13 : decode cX2_encryptBlock 13 = .ok (.istore 5, 2) := dk_54 5 (dk_at dksX2_encryptBlock_0 13 rfl rfl)
theorem dX2_encryptBlock_15 : decode cX2_encryptBlock 15 = .ok (.aload_n 0, 1) := dk_42 (dk_at dksX2_encryptBlock_0 15 rfl rfl)
theorem dX2_encryptBlock_16 : decode cX2_encryptBlock 16 = .ok (.aload_n 1, 1) := dk_43 (dk_at dksX2_encryptBlock_0 16 rfl rfl)
theorem dX2_encryptBlock_17 : decode cX2_encryptBlock 17 = .ok (.iload_n 2, 1) := dk_28 (dk_at dksX2_encryptBlock_0 17 rfl rfl)
theorem dX2_encryptBlock_18 : decode cX2_encryptBlock 18 = .ok (.iconst 4, 1) := dk_7 (dk_at dksX2_encryptBlock_0 18 rfl rfl)
theorem dX2_encryptBlock_19 : decode cX2_encryptBlock 19 = .ok (.iadd, 1) := dk_96 (dk_at dksX2_encryptBlock_0 19 rfl rfl)
theorem dX2_encryptBlock_20 : decode cX2_encryptBlock 20 = .ok (.invokevirtual 58, 3) := dk_182 0 58 (dk_at dksX2_encryptBlock_0 20 rfl rfl)
theorem dX2_encryptBlock_23 : decode cX2_encryptBlock 23 = .ok (.aload_n 0, 1) := dk_42 (dk_at dksX2_encryptBlock_0 23 rfl rfl)
theorem dX2_encryptBlock_24 : decode cX2_encryptBlock 24 = .ok (.getfield 13, 3) := dk_180 0 13 (dk_at dksX2_encryptBlock_1 0 rfl rfl)
theorem dX2_encryptBlock_27 : decode cX2_encryptBlock 27 = .ok (.iconst 1, 1) := dk_4 (dk_at dksX2_encryptBlock_1 3 rfl rfl)
theorem dX2_encryptBlock_28 : decode cX2_encryptBlock 28 = .ok (.iaload, 1) := dk_46 (dk_at dksX2_encryptBlock_1 4 rfl rfl)
theorem dX2_encryptBlock_29 : decode cX2_encryptBlock 29 = .ok (.iadd, 1) := dk_96 (dk_at dksX2_encryptBlock_1 5 rfl rfl)
theorem dX2_encryptBlock_30 : decode cX2_encryptBlock 30 = .ok (.istore 6, 2) := dk_54 6 (dk_at dksX2_encryptBlock_1 6 rfl rfl)
theorem dX2_encryptBlock_32 : decode cX2_encryptBlock 32 = .ok (.iconst 1, 1) := dk_4 (dk_at dksX2_encryptBlock_1 8 rfl rfl)
theorem dX2_encryptBlock_33 : decode cX2_encryptBlock 33 = .ok (.istore 7, 2) := dk_54 7 (dk_at dksX2_encryptBlock_1 9 rfl rfl)
theorem dX2_encryptBlock_35 : decode cX2_encryptBlock 35 = .ok (.iload 7, 2) := dk_21 7 (dk_at dksX2_encryptBlock_1 11 rfl rfl)
theorem dX2_encryptBlock_37 : decode cX2_encryptBlock 37 = .ok (.aload_n 0, 1) := dk_42 (dk_at dksX2_encryptBlock_1 13 rfl rfl)
theorem dX2_encryptBlock_38 : decode cX2_encryptBlock 38 = .ok (.getfield 7, 3) := dk_180 0 7 (dk_at dksX2_encryptBlock_1 14 rfl rfl)
theorem dX2_encryptBlock_41 : decode cX2_encryptBlock 41 = .ok (.if_icmp .gt 57, 3) := dk_163 0 57 (dk_at dksX2_encryptBlock_1 17 rfl rfl)
theorem dX2_encryptBlock_44 : decode cX2_encryptBlock 44 = .ok (.aload_n 0, 1) := dk_42 (dk_at dksX2_encryptBlock_1 20 rfl rfl)
theorem dX2_encryptBlock_45 : decode cX2_encryptBlock 45 = .ok (.iload 5, 2) := dk_21 5 (dk_at dksX2_encryptBlock_1 21 rfl rfl)
theorem dX2_encryptBlock_47 : decode cX2_encryptBlock 47 = .ok (.iload 6, 2) := dk_21 6 (dk_at dksX2_encryptBlock_2 0 rfl rfl)
theorem dX2_encryptBlock_49 : decode cX2_encryptBlock 49 = .ok (.ixor, 1) := dk_130 (dk_at dksX2_encryptBlock_2 2 rfl rfl)
theorem dX2_encryptBlock_50 : decode cX2_encryptBlock 50 = .ok (.iload 6, 2) := dk_21 6 (dk_at dksX2_encryptBlock_2 3 rfl rfl)
theorem dX2_encryptBlock_52 : decode cX2_encryptBlock 52 = .ok (.invokevirtual 54, 3) := dk_182 0 54 (dk_at dksX2_encryptBlock_2 5 rfl rfl)
theorem dX2_encryptBlock_55 : decode cX2_encryptBlock 55 = .ok (.aload_n 0, 1) := dk_42 (dk_at dksX2_encryptBlock_2 8 rfl rfl)
theorem dX2_encryptBlock_56 : decode cX2_encryptBlock 56 = .ok (.getfield 13, 3) := dk_180 0 13 (dk_at dksX2_encryptBlock_2 9 rfl rfl)
theorem dX2_encryptBlock_59 : decode cX2_encryptBlock 59 = .ok (.iconst 2, 1) := dk_5 (dk_at dksX2_encryptBlock_2 12 rfl rfl)
theorem dX2_encryptBlock_60 : decode cX2_encryptBlock 60 = .ok (.iload 7, 2) := dk_21 7 (dk_at dksX2_encryptBlock_2 13 rfl rfl)
theorem dX2_encryptBlock_62 : decode cX2_encryptBlock 62 = .ok (.imul, 1) := dk_104 (dk_at dksX2_encryptBlock_2 15 rfl rfl)
theorem dX2_encryptBlock_63 : decode cX2_encryptBlock 63 = .ok (.iaload, 1) := dk_46 (dk_at dksX2_encryptBlock_2 16 rfl rfl)
theorem dX2_encryptBlock_64 : decode cX2_encryptBlock 64 = .ok (.iadd, 1) := dk_96 (dk_at dksX2_encryptBlock_2 17 rfl rfl)
theorem dX2_encryptBlock_65 : decode cX2_encryptBlock 65 = .ok (.istore 5, 2) := dk_54 5 (dk_at dksX2_encryptBlock_2 18 rfl rfl)
theorem dX2_encryptBlock_67 : decode cX2_encryptBlock 67 = .ok (.aload_n 0, 1) := dk_42 (dk_at dksX2_encryptBlock_2 20 rfl rfl)
theorem dX2_encryptBlock_68 : decode cX2_encryptBlock 68 = .ok (.iload 6, 2) := dk_21 6 (dk_at dksX2_encryptBlock_2 21 rfl rfl)
theorem dX2_encryptBlock_70 : decode cX2_encryptBlock 70 = .ok (.iload 5, 2) := dk_21 5 (dk_at dksX2_encryptBlock_3 0 rfl rfl)
theorem dX2_encryptBlock_72 : decode cX2_encryptBlock 72 = .ok (.ixor, 1) := dk_130 (dk_at dksX2_encryptBlock_3 2 rfl rfl)
theorem dX2_encryptBlock_73 : decode cX2_encryptBlock 73 = .ok (.iload 5, 2) := dk_21 5 (dk_at dksX2_encryptBlock_3 3 rfl rfl)
theorem dX2_encryptBlock_75 : decode cX2_encryptBlock 75 = .ok (.invokevirtual 54, 3) := dk_182 0 54 (dk_at dksX2_encryptBlock_3 5 rfl rfl)
theorem dX2_encryptBlock_78 : decode cX2_encryptBlock 78 = .ok (.aload_n 0, 1) := dk_42 (dk_at dksX2_encryptBlock_3 8 rfl rfl)
theorem dX2_encryptBlock_79 : decode cX2_encryptBlock 79 = .ok (.getfield 13, 3) := dk_180 0 13 (dk_at dksX2_encryptBlock_3 9 rfl rfl)
theorem dX2_encryptBlock_82 : decode cX2_encryptBlock 82 = .ok (.iconst 2, 1) := dk_5 (dk_at dksX2_encryptBlock_3 12 rfl rfl)
theorem dX2_encryptBlock_83 : decode cX2_encryptBlock 83 = .ok (.iload 7, 2) := dk_21 7 (dk_at dksX2_encryptBlock_3 13 rfl rfl)
theorem dX2_encryptBlock_85 : decode cX2_encryptBlock 85 = .ok (.imul, 1) := dk_104 (dk_at dksX2_encryptBlock_3 15 rfl rfl)
theorem dX2_encryptBlock_86 : decode cX2_encryptBlock 86 = .ok (.iconst 1, 1) := dk_4 (dk_at dksX2_encryptBlock_3 16 rfl rfl)
theorem dX2_encryptBlock_87 : decode cX2_encryptBlock 87 = .ok (.iadd, 1) := dk_96 (dk_at dksX2_encryptBlock_3 17 rfl rfl)
theorem dX2_encryptBlock_88 : decode cX2_encryptBlock 88 = .ok (.iaload, 1) := dk_46 (dk_at dksX2_encryptBlock_3 18 rfl rfl)
theorem dX2_encryptBlock_89 : decode cX2_encryptBlock 89 = .ok (.iadd, 1) := dk_96 (dk_at dksX2_encryptBlock_3 19 rfl rfl)
theorem dX2_encryptBlock_90 : decode cX2_encryptBlock 90 = .ok (.istore 6, 2) := dk_54 6 (dk_at dksX2_encryptBlock_3 20 rfl rfl)
theorem dX2_encryptBlock_92 : decode cX2_encryptBlock 92 = .ok (.iinc 7 1, 3) := dk_132 7 1 (dk_at dksX2_encryptBlock_4 0 rfl rfl)
theorem dX2_encryptBlock_95 : decode cX2_encryptBlock 95 = .ok (.goto (-60), 3) := dk_167 255 196 (dk_at dksX2_encryptBlock_4 3 rfl rfl)
theorem dX2_encryptBlock_98 : decode cX2_encryptBlock 98 = .ok (.aload_n 0, 1) := dk_42 (dk_at dksX2_encryptBlock_4 6 rfl rfl)
theorem dX2_encryptBlock_99 : decode cX2_encryptBlock 99 = .ok (.iload 5, 2) := dk_21 5 (dk_at dksX2_encryptBlock_4 7 rfl rfl)
theorem dX2_encryptBlock_101 : decode cX2_encryptBlock 101 = .ok (.aload_n 3, 1) := dk_45 (dk_at dksX2_encryptBlock_4 9 rfl rfl)
theorem dX2_encryptBlock_102 : decode cX2_encryptBlock 102 = .ok (.iload 4, 2) := dk_21 4 (dk_at dksX2_encryptBlock_4 10 rfl rfl)
theorem dX2_encryptBlock_104 : decode cX2_encryptBlock 104 = .ok (.invokevirtual 62, 3) := dk_182 0 62 (dk_at dksX2_encryptBlock_4 12 rfl rfl)
theorem dX2_encryptBlock_107 : decode cX2_encryptBlock 107 = .ok (.aload_n 0, 1) := dk_42 (dk_at dksX2_encryptBlock_4 15 rfl rfl)
theorem dX2_encryptBlock_108 : decode cX2_encryptBlock 108 = .ok (.iload 6, 2) := dk_21 6 (dk_at dksX2_encryptBlock_4 16 rfl rfl)
theorem dX2_encryptBlock_110 : decode cX2_encryptBlock 110 = .ok (.aload_n 3, 1) := dk_45 (dk_at dksX2_encryptBlock_4 18 rfl rfl)
theorem dX2_encryptBlock_111 : decode cX2_encryptBlock 111 = .ok (.iload 4, 2) := dk_21 4 (dk_at dksX2_encryptBlock_4 19 rfl rfl)
theorem dX2_encryptBlock_113 : decode cX2_encryptBlock 113 = .ok (.iconst 4, 1) := dk_7 (dk_at dksX2_encryptBlock_4 21 rfl rfl)
theorem dX2_encryptBlock_114 : decode cX2_encryptBlock 114 = .ok (.iadd, 1) := dk_96 (dk_at dksX2_encryptBlock_4 22 rfl rfl)
theorem dX2_encryptBlock_115 : decode cX2_encryptBlock 115 = .ok (.invokevirtual 62, 3) := dk_182 0 62 (dk_at dksX2_encryptBlock_5 0 rfl rfl)
theorem dX2_encryptBlock_118 : decode cX2_encryptBlock 118 = .ok (.bipush 8, 2) := dk_16 8 (dk_at dksX2_encryptBlock_5 3 rfl rfl)
theorem dX2_encryptBlock_120 : decode cX2_encryptBlock 120 = .ok (.ireturn, 1) := dk_172 (dk_at dksX2_encryptBlock_5 5 rfl rfl)
abbrev cX2_bytesToWord : ByteArray := prog_5_method_9_code
def yX2_bytesToWord : MethodName := ⟨RX2, "bytesToWord", "([BI)I"⟩
def dkwX2_bytesToWord_1 : List UInt8 := [51, 17, 0, 255, 126, 16, 16, 120, 128, 43, 28, 6, 96, 51, 17, 0, 255, 126, 16, 24, 120, 128, 172]
abbrev dktX2_bytesToWord_1 : List UInt8 := dkwX2_bytesToWord_1 ++ []
def dkwX2_bytesToWord_0 : List UInt8 := [43, 28, 51, 17, 0, 255, 126, 43, 28, 4, 96, 51, 17, 0, 255, 126, 16, 8, 120, 128, 43, 28, 5, 96]
abbrev dktX2_bytesToWord_0 : List UInt8 := dkwX2_bytesToWord_0 ++ dktX2_bytesToWord_1
theorem dksX2_bytesToWord_0 : cX2_bytesToWord.data.toList.drop 0 = dktX2_bytesToWord_0 := by decide +kernel
theorem dksX2_bytesToWord_1 : cX2_bytesToWord.data.toList.drop 24 = dktX2_bytesToWord_1 := dk_seg dksX2_bytesToWord_0 24 rfl rfl
theorem dX2_bytesToWord_0 : decode cX2_bytesToWord 0 = .ok (.aload_n 1, 1) := dk_43 (dk_at dksX2_bytesToWord_0 0 rfl rfl)
theorem dX2_bytesToWord_1 : decode cX2_bytesToWord 1 = .ok (.iload_n 2, 1) := dk_28 (dk_at dksX2_bytesToWord_0 1 rfl rfl)
theorem dX2_bytesToWord_2 : decode cX2_bytesToWord 2 = .ok (.baload, 1) := dk_51 (dk_at dksX2_bytesToWord_0 2 rfl rfl)
theorem dX2_bytesToWord_3 : decode cX2_bytesToWord 3 = .ok (.sipush 255, 3) := dk_17 0 255 (dk_at dksX2_bytesToWord_0 3 rfl rfl)
theorem dX2_bytesToWord_6 : decode cX2_bytesToWord 6 = .ok (.iand, 1) := dk_126 (dk_at dksX2_bytesToWord_0 6 rfl rfl)
theorem dX2_bytesToWord_7 : decode cX2_bytesToWord 7 = .ok (.aload_n 1, 1) := dk_43 (dk_at dksX2_bytesToWord_0 7 rfl rfl)
theorem dX2_bytesToWord_8 : decode cX2_bytesToWord 8 = .ok (.iload_n 2, 1) := dk_28 (dk_at dksX2_bytesToWord_0 8 rfl rfl)
theorem dX2_bytesToWord_9 : decode cX2_bytesToWord 9 = .ok (.iconst 1, 1) := dk_4 (dk_at dksX2_bytesToWord_0 9 rfl rfl)
theorem dX2_bytesToWord_10 : decode cX2_bytesToWord 10 = .ok (.iadd, 1) := dk_96 (dk_at dksX2_bytesToWord_0 10 rfl rfl)
theorem dX2_bytesToWord_11 : decode cX2_bytesToWord 11 = .ok (.baload, 1) := dk_51 (dk_at dksX2_bytesToWord_0 11 rfl rfl)
theorem dX2_bytesToWord_12 : decode cX2_bytesToWord 12 = .ok (.sipush 255, 3) := dk_17 0 255 (dk_at dksX2_bytesToWord_0 12 rfl rfl)
theorem dX2_bytesToWord_15 : decode cX2_bytesToWord 15 = .ok (.iand, 1) := dk_126 (dk_at dksX2_bytesToWord_0 15 rfl rfl)
theorem dX2_bytesToWord_16 : decode cX2_bytesToWord 16 = .ok (.bipush 8, 2) := dk_16 8 (dk_at dksX2_bytesToWord_0 16 rfl rfl)
theorem dX2_bytesToWord_18 : decode cX2_bytesToWord 18 = .ok (.ishl, 1) := dk_120 (dk_at dksX2_bytesToWord_0 18 rfl rfl)
theorem dX2_bytesToWord_19 : decode cX2_bytesToWord 19 = .ok (.ior, 1) := dk_128 (dk_at dksX2_bytesToWord_0 19 rfl rfl)
theorem dX2_bytesToWord_20 : decode cX2_bytesToWord 20 = .ok (.aload_n 1, 1) := dk_43 (dk_at dksX2_bytesToWord_0 20 rfl rfl)
theorem dX2_bytesToWord_21 : decode cX2_bytesToWord 21 = .ok (.iload_n 2, 1) := dk_28 (dk_at dksX2_bytesToWord_0 21 rfl rfl)
theorem dX2_bytesToWord_22 : decode cX2_bytesToWord 22 = .ok (.iconst 2, 1) := dk_5 (dk_at dksX2_bytesToWord_0 22 rfl rfl)
theorem dX2_bytesToWord_23 : decode cX2_bytesToWord 23 = .ok (.iadd, 1) := dk_96 (dk_at dksX2_bytesToWord_0 23 rfl rfl)
theorem dX2_bytesToWord_24 : decode cX2_bytesToWord 24 = .ok (.baload, 1) := dk_51 (dk_at dksX2_bytesToWord_1 0 rfl rfl)
theorem dX2_bytesToWord_25 : decode cX2_bytesToWord 25 = .ok (.sipush 255, 3) := dk_17 0 255 (dk_at dksX2_bytesToWord_1 1 rfl rfl)
theorem dX2_bytesToWord_28 : decode cX2_bytesToWord 28 = .ok (.iand, 1) := dk_126 (dk_at dksX2_bytesToWord_1 4 rfl rfl)
theorem dX2_bytesToWord_29 : decode cX2_bytesToWord 29 = .ok (.bipush 16, 2) := dk_16 16 (dk_at dksX2_bytesToWord_1 5 rfl rfl)
theorem dX2_bytesToWord_31 : decode cX2_bytesToWord 31 = .ok (.ishl, 1) := dk_120 (dk_at dksX2_bytesToWord_1 7 rfl rfl)
theorem dX2_bytesToWord_32 : decode cX2_bytesToWord 32 = .ok (.ior, 1) := dk_128 (dk_at dksX2_bytesToWord_1 8 rfl rfl)
theorem dX2_bytesToWord_33 : decode cX2_bytesToWord 33 = .ok (.aload_n 1, 1) := dk_43 (dk_at dksX2_bytesToWord_1 9 rfl rfl)
theorem dX2_bytesToWord_34 : decode cX2_bytesToWord 34 = .ok (.iload_n 2, 1) := dk_28 (dk_at dksX2_bytesToWord_1 10 rfl rfl)
theorem dX2_bytesToWord_35 : decode cX2_bytesToWord 35 = .ok (.iconst 3, 1) := dk_6 (dk_at dksX2_bytesToWord_1 11 rfl rfl)
theorem dX2_bytesToWord_36 : decode cX2_bytesToWord 36 = .ok (.iadd, 1) := dk_96 (dk_at dksX2_bytesToWord_1 12 rfl rfl)
theorem dX2_bytesToWord_37 : decode cX2_bytesToWord 37 = .ok (.baload, 1) := dk_51 (dk_at dksX2_bytesToWord_1 13 rfl rfl)
theorem dX2_bytesToWord_38 : decode cX2_bytesToWord 38 = .ok (.sipush 255, 3) := dk_17 0 255 (dk_at dksX2_bytesToWord_1 14 rfl rfl)
theorem dX2_bytesToWord_41 : decode cX2_bytesToWord 41 = .ok (.iand, 1) := dk_126 (dk_at dksX2_bytesToWord_1 17 rfl rfl)
theorem dX2_bytesToWord_42 : decode cX2_bytesToWord 42 = .ok (.bipush 24, 2) := dk_16 24 (dk_at dksX2_bytesToWord_1 18 rfl rfl)
theorem dX2_bytesToWord_44 : decode cX2_bytesToWord 44 = .ok (.ishl, 1) := dk_120 (dk_at dksX2_bytesToWord_1 20 rfl rfl)
theorem dX2_bytesToWord_45 : decode cX2_bytesToWord 45 = .ok (.ior, 1) := dk_128 (dk_at dksX2_bytesToWord_1 21 rfl rfl)
theorem dX2_bytesToWord_46 : decode cX2_bytesToWord 46 = .ok (.ireturn, 1) := dk_172 (dk_at dksX2_bytesToWord_1 22 rfl rfl)
abbrev cX2_wordToBytes : ByteArray := prog_5_method_10_code
def yX2_wordToBytes : MethodName := ⟨RX2, "wordToBytes", "(I[BI)V"⟩
def dkwX2_wordToBytes_1 : List UInt8 := [84, 44, 29, 6, 96, 27, 16, 24, 122, 145, 84, 177]
abbrev dktX2_wordToBytes_1 : List UInt8 := dkwX2_wordToBytes_1 ++ []
def dkwX2_wordToBytes_0 : List UInt8 := [44, 29, 27, 145, 84, 44, 29, 4, 96, 27, 16, 8, 122, 145, 84, 44, 29, 5, 96, 27, 16, 16, 122, 145]
abbrev dktX2_wordToBytes_0 : List UInt8 := dkwX2_wordToBytes_0 ++ dktX2_wordToBytes_1
theorem dksX2_wordToBytes_0 : cX2_wordToBytes.data.toList.drop 0 = dktX2_wordToBytes_0 := by decide +kernel
theorem dksX2_wordToBytes_1 : cX2_wordToBytes.data.toList.drop 24 = dktX2_wordToBytes_1 := dk_seg dksX2_wordToBytes_0 24 rfl rfl
theorem dX2_wordToBytes_0 : decode cX2_wordToBytes 0 = .ok (.aload_n 2, 1) := dk_44 (dk_at dksX2_wordToBytes_0 0 rfl rfl)
theorem dX2_wordToBytes_1 : decode cX2_wordToBytes 1 = .ok (.iload_n 3, 1) := dk_29 (dk_at dksX2_wordToBytes_0 1 rfl rfl)
theorem dX2_wordToBytes_2 : decode cX2_wordToBytes 2 = .ok (.iload_n 1, 1) := dk_27 (dk_at dksX2_wordToBytes_0 2 rfl rfl)
theorem dX2_wordToBytes_3 : decode cX2_wordToBytes 3 = .ok (.i2b, 1) := dk_145 (dk_at dksX2_wordToBytes_0 3 rfl rfl)
theorem dX2_wordToBytes_4 : decode cX2_wordToBytes 4 = .ok (.bastore, 1) := dk_84 (dk_at dksX2_wordToBytes_0 4 rfl rfl)
theorem dX2_wordToBytes_5 : decode cX2_wordToBytes 5 = .ok (.aload_n 2, 1) := dk_44 (dk_at dksX2_wordToBytes_0 5 rfl rfl)
theorem dX2_wordToBytes_6 : decode cX2_wordToBytes 6 = .ok (.iload_n 3, 1) := dk_29 (dk_at dksX2_wordToBytes_0 6 rfl rfl)
theorem dX2_wordToBytes_7 : decode cX2_wordToBytes 7 = .ok (.iconst 1, 1) := dk_4 (dk_at dksX2_wordToBytes_0 7 rfl rfl)
theorem dX2_wordToBytes_8 : decode cX2_wordToBytes 8 = .ok (.iadd, 1) := dk_96 (dk_at dksX2_wordToBytes_0 8 rfl rfl)
theorem dX2_wordToBytes_9 : decode cX2_wordToBytes 9 = .ok (.iload_n 1, 1) := dk_27 (dk_at dksX2_wordToBytes_0 9 rfl rfl)
theorem dX2_wordToBytes_10 : decode cX2_wordToBytes 10 = .ok (.bipush 8, 2) := dk_16 8 (dk_at dksX2_wordToBytes_0 10 rfl rfl)
theorem dX2_wordToBytes_12 : decode cX2_wordToBytes 12 = .ok (.ishr, 1) := dk_122 (dk_at dksX2_wordToBytes_0 12 rfl rfl)
theorem dX2_wordToBytes_13 : decode cX2_wordToBytes 13 = .ok (.i2b, 1) := dk_145 (dk_at dksX2_wordToBytes_0 13 rfl rfl)
theorem dX2_wordToBytes_14 : decode cX2_wordToBytes 14 = .ok (.bastore, 1) := dk_84 (dk_at dksX2_wordToBytes_0 14 rfl rfl)
theorem dX2_wordToBytes_15 : decode cX2_wordToBytes 15 = .ok (.aload_n 2, 1) := dk_44 (dk_at dksX2_wordToBytes_0 15 rfl rfl)
theorem dX2_wordToBytes_16 : decode cX2_wordToBytes 16 = .ok (.iload_n 3, 1) := dk_29 (dk_at dksX2_wordToBytes_0 16 rfl rfl)
theorem dX2_wordToBytes_17 : decode cX2_wordToBytes 17 = .ok (.iconst 2, 1) := dk_5 (dk_at dksX2_wordToBytes_0 17 rfl rfl)
theorem dX2_wordToBytes_18 : decode cX2_wordToBytes 18 = .ok (.iadd, 1) := dk_96 (dk_at dksX2_wordToBytes_0 18 rfl rfl)
theorem dX2_wordToBytes_19 : decode cX2_wordToBytes 19 = .ok (.iload_n 1, 1) := dk_27 (dk_at dksX2_wordToBytes_0 19 rfl rfl)
theorem dX2_wordToBytes_20 : decode cX2_wordToBytes 20 = .ok (.bipush 16, 2) := dk_16 16 (dk_at dksX2_wordToBytes_0 20 rfl rfl)
theorem dX2_wordToBytes_22 : decode cX2_wordToBytes 22 = .ok (.ishr, 1) := dk_122 (dk_at dksX2_wordToBytes_0 22 rfl rfl)
theorem dX2_wordToBytes_23 : decode cX2_wordToBytes 23 = .ok (.i2b, 1) := dk_145 (dk_at dksX2_wordToBytes_0 23 rfl rfl)
theorem dX2_wordToBytes_24 : decode cX2_wordToBytes 24 = .ok (.bastore, 1) := dk_84 (dk_at dksX2_wordToBytes_1 0 rfl rfl)
theorem dX2_wordToBytes_25 : decode cX2_wordToBytes 25 = .ok (.aload_n 2, 1) := dk_44 (dk_at dksX2_wordToBytes_1 1 rfl rfl)
theorem dX2_wordToBytes_26 : decode cX2_wordToBytes 26 = .ok (.iload_n 3, 1) := dk_29 (dk_at dksX2_wordToBytes_1 2 rfl rfl)
theorem dX2_wordToBytes_27 : decode cX2_wordToBytes 27 = .ok (.iconst 3, 1) := dk_6 (dk_at dksX2_wordToBytes_1 3 rfl rfl)
theorem dX2_wordToBytes_28 : decode cX2_wordToBytes 28 = .ok (.iadd, 1) := dk_96 (dk_at dksX2_wordToBytes_1 4 rfl rfl)
theorem dX2_wordToBytes_29 : decode cX2_wordToBytes 29 = .ok (.iload_n 1, 1) := dk_27 (dk_at dksX2_wordToBytes_1 5 rfl rfl)
theorem dX2_wordToBytes_30 : decode cX2_wordToBytes 30 = .ok (.bipush 24, 2) := dk_16 24 (dk_at dksX2_wordToBytes_1 6 rfl rfl)
theorem dX2_wordToBytes_32 : decode cX2_wordToBytes 32 = .ok (.ishr, 1) := dk_122 (dk_at dksX2_wordToBytes_1 8 rfl rfl)
theorem dX2_wordToBytes_33 : decode cX2_wordToBytes 33 = .ok (.i2b, 1) := dk_145 (dk_at dksX2_wordToBytes_1 9 rfl rfl)
theorem dX2_wordToBytes_34 : decode cX2_wordToBytes 34 = .ok (.bastore, 1) := dk_84 (dk_at dksX2_wordToBytes_1 10 rfl rfl)
theorem dX2_wordToBytes_35 : decode cX2_wordToBytes 35 = .ok (.return_, 1) := dk_177 (dk_at dksX2_wordToBytes_1 11 rfl rfl)
abbrev cX2_decryptBlock : ByteArray := prog_5_method_6_code
def yX2_decryptBlock : MethodName := ⟨RX2, "decryptBlock", "([BI[BI)I"⟩
def dkwX2_decryptBlock_5 : List UInt8 := [16, 8, 172]
abbrev dktX2_decryptBlock_5 : List UInt8 := dkwX2_decryptBlock_5 ++ []
def dkwX2_decryptBlock_4 : List UInt8 := [45, 21, 4, 182, 0, 62, 42, 21, 6, 42, 180, 0, 13, 4, 46, 100, 45, 21, 4, 7, 96, 182, 0, 62]
abbrev dktX2_decryptBlock_4 : List UInt8 := dkwX2_decryptBlock_4 ++ dktX2_decryptBlock_5
def dkwX2_decryptBlock_3 : List UInt8 := [182, 0, 66, 21, 6, 130, 54, 5, 132, 7, 255, 167, 255, 199, 42, 21, 5, 42, 180, 0, 13, 3, 46, 100]
abbrev dktX2_decryptBlock_3 : List UInt8 := dkwX2_decryptBlock_3 ++ dktX2_decryptBlock_4
def dkwX2_decryptBlock_2 : List UInt8 := [182, 0, 66, 21, 5, 130, 54, 6, 42, 21, 5, 42, 180, 0, 13, 5, 21, 7, 104, 46, 100, 21, 6]
abbrev dktX2_decryptBlock_2 : List UInt8 := dkwX2_decryptBlock_2 ++ dktX2_decryptBlock_3
def dkwX2_decryptBlock_1 : List UInt8 := [21, 7, 4, 161, 0, 57, 42, 21, 6, 42, 180, 0, 13, 5, 21, 7, 104, 4, 96, 46, 100, 21, 5]
abbrev dktX2_decryptBlock_1 : List UInt8 := dkwX2_decryptBlock_1 ++ dktX2_decryptBlock_2
def dkwX2_decryptBlock_0 : List UInt8 := [42, 43, 28, 182, 0, 58, 54, 5, 42, 43, 28, 7, 96, 182, 0, 58, 54, 6, 42, 180, 0, 7, 54, 7]
abbrev dktX2_decryptBlock_0 : List UInt8 := dkwX2_decryptBlock_0 ++ dktX2_decryptBlock_1
theorem dksX2_decryptBlock_0 : cX2_decryptBlock.data.toList.drop 0 = dktX2_decryptBlock_0 := by decide +kernel
theorem dksX2_decryptBlock_1 : cX2_decryptBlock.data.toList.drop 24 = dktX2_decryptBlock_1 := dk_seg dksX2_decryptBlock_0 24 rfl rfl
theorem dksX2_decryptBlock_2 : cX2_decryptBlock.data.toList.drop 47 = dktX2_decryptBlock_2 := dk_seg dksX2_decryptBlock_1 23 rfl rfl
theorem dksX2_decryptBlock_3 : cX2_decryptBlock.data.toList.drop 70 = dktX2_decryptBlock_3 := dk_seg dksX2_decryptBlock_2 23 rfl rfl
theorem dksX2_decryptBlock_4 : cX2_decryptBlock.data.toList.drop 94 = dktX2_decryptBlock_4 := dk_seg dksX2_decryptBlock_3 24 rfl rfl
theorem dksX2_decryptBlock_5 : cX2_decryptBlock.data.toList.drop 118 = dktX2_decryptBlock_5 := dk_seg dksX2_decryptBlock_4 24 rfl rfl
theorem dX2_decryptBlock_0 : decode cX2_decryptBlock 0 = .ok (.aload_n 0, 1) := dk_42 (dk_at dksX2_decryptBlock_0 0 rfl rfl)
theorem dX2_decryptBlock_1 : decode cX2_decryptBlock 1 = .ok (.aload_n 1, 1) := dk_43 (dk_at dksX2_decryptBlock_0 1 rfl rfl)
theorem dX2_decryptBlock_2 : decode cX2_decryptBlock 2 = .ok (.iload_n 2, 1) := dk_28 (dk_at dksX2_decryptBlock_0 2 rfl rfl)
theorem dX2_decryptBlock_3 : decode cX2_decryptBlock 3 = .ok (.invokevirtual 58, 3) := dk_182 0 58 (dk_at dksX2_decryptBlock_0 3 rfl rfl)
theorem dX2_decryptBlock_6 : decode cX2_decryptBlock 6 = .ok (.istore 5, 2) := dk_54 5 (dk_at dksX2_decryptBlock_0 6 rfl rfl)
theorem dX2_decryptBlock_8 : decode cX2_decryptBlock 8 = .ok (.aload_n 0, 1) := dk_42 (dk_at dksX2_decryptBlock_0 8 rfl rfl)
theorem dX2_decryptBlock_9 : decode cX2_decryptBlock 9 = .ok (.aload_n 1, 1) := dk_43 (dk_at dksX2_decryptBlock_0 9 rfl rfl)
theorem dX2_decryptBlock_10 : decode cX2_decryptBlock 10 = .ok (.iload_n 2, 1) := dk_28 (dk_at dksX2_decryptBlock_0 10 rfl rfl)
theorem dX2_decryptBlock_11 : decode cX2_decryptBlock 11 = .ok (.iconst 4, 1) := dk_7 (dk_at dksX2_decryptBlock_0 11 rfl rfl)
theorem dX2_decryptBlock_12 : decode cX2_decryptBlock 12 = .ok (.iadd, 1) := dk_96 (dk_at dksX2_decryptBlock_0 12 rfl rfl)
theorem dX2_decryptBlock_13 : decode cX2_decryptBlock 13 = .ok (.invokevirtual 58, 3) := dk_182 0 58 (dk_at dksX2_decryptBlock_0 13 rfl rfl)
theorem dX2_decryptBlock_16 : decode cX2_decryptBlock 16 = .ok (.istore 6, 2) := dk_54 6 (dk_at dksX2_decryptBlock_0 16 rfl rfl)
theorem dX2_decryptBlock_18 : decode cX2_decryptBlock 18 = .ok (.aload_n 0, 1) := dk_42 (dk_at dksX2_decryptBlock_0 18 rfl rfl)
theorem dX2_decryptBlock_19 : decode cX2_decryptBlock 19 = .ok (.getfield 7, 3) := dk_180 0 7 (dk_at dksX2_decryptBlock_0 19 rfl rfl)
theorem dX2_decryptBlock_22 : decode cX2_decryptBlock 22 = .ok (.istore 7, 2) := dk_54 7 (dk_at dksX2_decryptBlock_0 22 rfl rfl)
theorem dX2_decryptBlock_24 : decode cX2_decryptBlock 24 = .ok (.iload 7, 2) := dk_21 7 (dk_at dksX2_decryptBlock_1 0 rfl rfl)
theorem dX2_decryptBlock_26 : decode cX2_decryptBlock 26 = .ok (.iconst 1, 1) := dk_4 (dk_at dksX2_decryptBlock_1 2 rfl rfl)
theorem dX2_decryptBlock_27 : decode cX2_decryptBlock 27 = .ok (.if_icmp .lt 57, 3) := dk_161 0 57 (dk_at dksX2_decryptBlock_1 3 rfl rfl)
theorem dX2_decryptBlock_30 : decode cX2_decryptBlock 30 = .ok (.aload_n 0, 1) := dk_42 (dk_at dksX2_decryptBlock_1 6 rfl rfl)
theorem dX2_decryptBlock_31 : decode cX2_decryptBlock 31 = .ok (.iload 6, 2) := dk_21 6 (dk_at dksX2_decryptBlock_1 7 rfl rfl)
theorem dX2_decryptBlock_33 : decode cX2_decryptBlock 33 = .ok (.aload_n 0, 1) := dk_42 (dk_at dksX2_decryptBlock_1 9 rfl rfl)
theorem dX2_decryptBlock_34 : decode cX2_decryptBlock 34 = .ok (.getfield 13, 3) := dk_180 0 13 (dk_at dksX2_decryptBlock_1 10 rfl rfl)
theorem dX2_decryptBlock_37 : decode cX2_decryptBlock 37 = .ok (.iconst 2, 1) := dk_5 (dk_at dksX2_decryptBlock_1 13 rfl rfl)
theorem dX2_decryptBlock_38 : decode cX2_decryptBlock 38 = .ok (.iload 7, 2) := dk_21 7 (dk_at dksX2_decryptBlock_1 14 rfl rfl)
theorem dX2_decryptBlock_40 : decode cX2_decryptBlock 40 = .ok (.imul, 1) := dk_104 (dk_at dksX2_decryptBlock_1 16 rfl rfl)
theorem dX2_decryptBlock_41 : decode cX2_decryptBlock 41 = .ok (.iconst 1, 1) := dk_4 (dk_at dksX2_decryptBlock_1 17 rfl rfl)
theorem dX2_decryptBlock_42 : decode cX2_decryptBlock 42 = .ok (.iadd, 1) := dk_96 (dk_at dksX2_decryptBlock_1 18 rfl rfl)
theorem dX2_decryptBlock_43 : decode cX2_decryptBlock 43 = .ok (.iaload, 1) := dk_46 (dk_at dksX2_decryptBlock_1 19 rfl rfl)
theorem dX2_decryptBlock_44 : decode cX2_decryptBlock 44 = .ok (.isub, 1) := dk_100 (dk_at dksX2_decryptBlock_1 20 rfl rfl)
theorem dX2_decryptBlock_45 : decode cX2_decryptBlock 45 = .ok (.iload 5, 2) := dk_21 5 (dk_at dksX2_decryptBlock_1 21 rfl rfl)
theorem dX2_decryptBlock_47 : decode cX2_decryptBlock 47 = .ok (.invokevirtual 66, 3) := dk_182 0 66 (dk_at dksX2_decryptBlock_2 0 rfl rfl)
theorem dX2_decryptBlock_50 : decode cX2_decryptBlock 50 = .ok (.iload 5, 2) := dk_21 5 (dk_at dksX2_decryptBlock_2 3 rfl rfl)
theorem dX2_decryptBlock_52 : decode cX2_decryptBlock 52 = .ok (.ixor, 1) := dk_130 (dk_at dksX2_decryptBlock_2 5 rfl rfl)
theorem dX2_decryptBlock_53 : decode cX2_decryptBlock 53 = .ok (.istore 6, 2) := dk_54 6 (dk_at dksX2_decryptBlock_2 6 rfl rfl)
theorem dX2_decryptBlock_55 : decode cX2_decryptBlock 55 = .ok (.aload_n 0, 1) := dk_42 (dk_at dksX2_decryptBlock_2 8 rfl rfl)
theorem dX2_decryptBlock_56 : decode cX2_decryptBlock 56 = .ok (.iload 5, 2) := dk_21 5 (dk_at dksX2_decryptBlock_2 9 rfl rfl)
theorem dX2_decryptBlock_58 : decode cX2_decryptBlock 58 = .ok (.aload_n 0, 1) := dk_42 (dk_at dksX2_decryptBlock_2 11 rfl rfl)
theorem dX2_decryptBlock_59 : decode cX2_decryptBlock 59 = .ok (.getfield 13, 3) := dk_180 0 13 (dk_at dksX2_decryptBlock_2 12 rfl rfl)
theorem dX2_decryptBlock_62 : decode cX2_decryptBlock 62 = .ok (.iconst 2, 1) := dk_5 (dk_at dksX2_decryptBlock_2 15 rfl rfl)
theorem dX2_decryptBlock_63 : decode cX2_decryptBlock 63 = .ok (.iload 7, 2) := dk_21 7 (dk_at dksX2_decryptBlock_2 16 rfl rfl)
theorem dX2_decryptBlock_65 : decode cX2_decryptBlock 65 = .ok (.imul, 1) := dk_104 (dk_at dksX2_decryptBlock_2 18 rfl rfl)
theorem dX2_decryptBlock_66 : decode cX2_decryptBlock 66 = .ok (.iaload, 1) := dk_46 (dk_at dksX2_decryptBlock_2 19 rfl rfl)
theorem dX2_decryptBlock_67 : decode cX2_decryptBlock 67 = .ok (.isub, 1) := dk_100 (dk_at dksX2_decryptBlock_2 20 rfl rfl)
theorem dX2_decryptBlock_68 : decode cX2_decryptBlock 68 = .ok (.iload 6, 2) := dk_21 6 (dk_at dksX2_decryptBlock_2 21 rfl rfl)
theorem dX2_decryptBlock_70 : decode cX2_decryptBlock 70 = .ok (.invokevirtual 66, 3) := dk_182 0 66 (dk_at dksX2_decryptBlock_3 0 rfl rfl)
theorem dX2_decryptBlock_73 : decode cX2_decryptBlock 73 = .ok (.iload 6, 2) := dk_21 6 (dk_at dksX2_decryptBlock_3 3 rfl rfl)
theorem dX2_decryptBlock_75 : decode cX2_decryptBlock 75 = .ok (.ixor, 1) := dk_130 (dk_at dksX2_decryptBlock_3 5 rfl rfl)
theorem dX2_decryptBlock_76 : decode cX2_decryptBlock 76 = .ok (.istore 5, 2) := dk_54 5 (dk_at dksX2_decryptBlock_3 6 rfl rfl)
theorem dX2_decryptBlock_78 : decode cX2_decryptBlock 78 = .ok (.iinc 7 (-1), 3) := dk_132 7 255 (dk_at dksX2_decryptBlock_3 8 rfl rfl)
theorem dX2_decryptBlock_81 : decode cX2_decryptBlock 81 = .ok (.goto (-57), 3) := dk_167 255 199 (dk_at dksX2_decryptBlock_3 11 rfl rfl)
theorem dX2_decryptBlock_84 : decode cX2_decryptBlock 84 = .ok (.aload_n 0, 1) := dk_42 (dk_at dksX2_decryptBlock_3 14 rfl rfl)
theorem dX2_decryptBlock_85 : decode cX2_decryptBlock 85 = .ok (.iload 5, 2) := dk_21 5 (dk_at dksX2_decryptBlock_3 15 rfl rfl)
theorem dX2_decryptBlock_87 : decode cX2_decryptBlock 87 = .ok (.aload_n 0, 1) := dk_42 (dk_at dksX2_decryptBlock_3 17 rfl rfl)
theorem dX2_decryptBlock_88 : decode cX2_decryptBlock 88 = .ok (.getfield 13, 3) := dk_180 0 13 (dk_at dksX2_decryptBlock_3 18 rfl rfl)
theorem dX2_decryptBlock_91 : decode cX2_decryptBlock 91 = .ok (.iconst 0, 1) := dk_3 (dk_at dksX2_decryptBlock_3 21 rfl rfl)
theorem dX2_decryptBlock_92 : decode cX2_decryptBlock 92 = .ok (.iaload, 1) := dk_46 (dk_at dksX2_decryptBlock_3 22 rfl rfl)
theorem dX2_decryptBlock_93 : decode cX2_decryptBlock 93 = .ok (.isub, 1) := dk_100 (dk_at dksX2_decryptBlock_3 23 rfl rfl)
theorem dX2_decryptBlock_94 : decode cX2_decryptBlock 94 = .ok (.aload_n 3, 1) := dk_45 (dk_at dksX2_decryptBlock_4 0 rfl rfl)
theorem dX2_decryptBlock_95 : decode cX2_decryptBlock 95 = .ok (.iload 4, 2) := dk_21 4 (dk_at dksX2_decryptBlock_4 1 rfl rfl)
theorem dX2_decryptBlock_97 : decode cX2_decryptBlock 97 = .ok (.invokevirtual 62, 3) := dk_182 0 62 (dk_at dksX2_decryptBlock_4 3 rfl rfl)
theorem dX2_decryptBlock_100 : decode cX2_decryptBlock 100 = .ok (.aload_n 0, 1) := dk_42 (dk_at dksX2_decryptBlock_4 6 rfl rfl)
theorem dX2_decryptBlock_101 : decode cX2_decryptBlock 101 = .ok (.iload 6, 2) := dk_21 6 (dk_at dksX2_decryptBlock_4 7 rfl rfl)
theorem dX2_decryptBlock_103 : decode cX2_decryptBlock 103 = .ok (.aload_n 0, 1) := dk_42 (dk_at dksX2_decryptBlock_4 9 rfl rfl)
theorem dX2_decryptBlock_104 : decode cX2_decryptBlock 104 = .ok (.getfield 13, 3) := dk_180 0 13 (dk_at dksX2_decryptBlock_4 10 rfl rfl)
theorem dX2_decryptBlock_107 : decode cX2_decryptBlock 107 = .ok (.iconst 1, 1) := dk_4 (dk_at dksX2_decryptBlock_4 13 rfl rfl)
theorem dX2_decryptBlock_108 : decode cX2_decryptBlock 108 = .ok (.iaload, 1) := dk_46 (dk_at dksX2_decryptBlock_4 14 rfl rfl)
theorem dX2_decryptBlock_109 : decode cX2_decryptBlock 109 = .ok (.isub, 1) := dk_100 (dk_at dksX2_decryptBlock_4 15 rfl rfl)
theorem dX2_decryptBlock_110 : decode cX2_decryptBlock 110 = .ok (.aload_n 3, 1) := dk_45 (dk_at dksX2_decryptBlock_4 16 rfl rfl)
theorem dX2_decryptBlock_111 : decode cX2_decryptBlock 111 = .ok (.iload 4, 2) := dk_21 4 (dk_at dksX2_decryptBlock_4 17 rfl rfl)
theorem dX2_decryptBlock_113 : decode cX2_decryptBlock 113 = .ok (.iconst 4, 1) := dk_7 (dk_at dksX2_decryptBlock_4 19 rfl rfl)
theorem dX2_decryptBlock_114 : decode cX2_decryptBlock 114 = .ok (.iadd, 1) := dk_96 (dk_at dksX2_decryptBlock_4 20 rfl rfl)
theorem dX2_decryptBlock_115 : decode cX2_decryptBlock 115 = .ok (.invokevirtual 62, 3) := dk_182 0 62 (dk_at dksX2_decryptBlock_4 21 rfl rfl)
theorem dX2_decryptBlock_118 : decode cX2_decryptBlock 118 = .ok (.bipush 8, 2) := dk_16 8 (dk_at dksX2_decryptBlock_5 0 rfl rfl)
theorem dX2_decryptBlock_120 : decode cX2_decryptBlock 120 = .ok (.ireturn, 1) := dk_172 (dk_at dksX2_decryptBlock_5 2 rfl rfl)
abbrev cX2_rotateRight : ByteArray := prog_5_method_8_code
def yX2_rotateRight : MethodName := ⟨RX2, "rotateRight", "(II)I"⟩
def dkwX2_rotateRight_0 : List UInt8 := [27, 28, 16, 31, 126, 124, 27, 16, 32, 28, 16, 31, 126, 100, 120, 128, 172]
abbrev dktX2_rotateRight_0 : List UInt8 := dkwX2_rotateRight_0 ++ []
theorem dksX2_rotateRight_0 : cX2_rotateRight.data.toList.drop 0 = dktX2_rotateRight_0 := by decide +kernel
theorem dX2_rotateRight_0 : decode cX2_rotateRight 0 = .ok (.iload_n 1, 1) := dk_27 (dk_at dksX2_rotateRight_0 0 rfl rfl)
theorem dX2_rotateRight_1 : decode cX2_rotateRight 1 = .ok (.iload_n 2, 1) := dk_28 (dk_at dksX2_rotateRight_0 1 rfl rfl)
theorem dX2_rotateRight_2 : decode cX2_rotateRight 2 = .ok (.bipush 31, 2) := dk_16 31 (dk_at dksX2_rotateRight_0 2 rfl rfl)
theorem dX2_rotateRight_4 : decode cX2_rotateRight 4 = .ok (.iand, 1) := dk_126 (dk_at dksX2_rotateRight_0 4 rfl rfl)
theorem dX2_rotateRight_5 : decode cX2_rotateRight 5 = .ok (.iushr, 1) := dk_124 (dk_at dksX2_rotateRight_0 5 rfl rfl)
theorem dX2_rotateRight_6 : decode cX2_rotateRight 6 = .ok (.iload_n 1, 1) := dk_27 (dk_at dksX2_rotateRight_0 6 rfl rfl)
theorem dX2_rotateRight_7 : decode cX2_rotateRight 7 = .ok (.bipush 32, 2) := dk_16 32 (dk_at dksX2_rotateRight_0 7 rfl rfl)
theorem dX2_rotateRight_9 : decode cX2_rotateRight 9 = .ok (.iload_n 2, 1) := dk_28 (dk_at dksX2_rotateRight_0 9 rfl rfl)
theorem dX2_rotateRight_10 : decode cX2_rotateRight 10 = .ok (.bipush 31, 2) := dk_16 31 (dk_at dksX2_rotateRight_0 10 rfl rfl)
theorem dX2_rotateRight_12 : decode cX2_rotateRight 12 = .ok (.iand, 1) := dk_126 (dk_at dksX2_rotateRight_0 12 rfl rfl)
theorem dX2_rotateRight_13 : decode cX2_rotateRight 13 = .ok (.isub, 1) := dk_100 (dk_at dksX2_rotateRight_0 13 rfl rfl)
theorem dX2_rotateRight_14 : decode cX2_rotateRight 14 = .ok (.ishl, 1) := dk_120 (dk_at dksX2_rotateRight_0 14 rfl rfl)
theorem dX2_rotateRight_15 : decode cX2_rotateRight 15 = .ok (.ior, 1) := dk_128 (dk_at dksX2_rotateRight_0 15 rfl rfl)
theorem dX2_rotateRight_16 : decode cX2_rotateRight 16 = .ok (.ireturn, 1) := dk_172 (dk_at dksX2_rotateRight_0 16 rfl rfl)
theorem q14 : (Jvm.Cond.initialized "RC532Engine") ∈ lw_all := lw_g (lw_at lw_m1 3 rfl) rfl
theorem q63 : (Jvm.Cond.instantiable "RC532Engine" (3 : Nat)) ∈ lw_all := lw_g (lw_at lw_m1 52 rfl) rfl
theorem q65 : (Jvm.Cond.instanceMethod ({ cls := "RC532Engine", name := "<init>", desc := "()V" } : Jvm.MethodName)) ∈ lw_all := lw_g (lw_at lw_m1 54 rfl) rfl
theorem q66 : (Jvm.Cond.code ({ cls := "RC532Engine", name := "<init>", desc := "()V" } : Jvm.MethodName) prog_5_method_1_code (1 : Nat) (Option.none : Option Jvm.ClassFile.FieldType)) ∈ lw_all := lw_g (lw_at lw_m1 55 rfl) rfl
theorem q67 : (Jvm.Cond.methodLink "RC532Engine" (1 : Nat) ({ cls := "java/lang/Object", name := "<init>", desc := "()V" } : Jvm.MethodName)) ∈ lw_all := lw_g (lw_at lw_m1 56 rfl) rfl
theorem q68 : (Jvm.Cond.fieldLink "RC532Engine" (7 : Nat) "RC532Engine" "_noRounds" "I") ∈ lw_all := lw_g (lw_at lw_m1 57 rfl) rfl
theorem q69 : (Jvm.Cond.fieldLink "RC532Engine" (13 : Nat) "RC532Engine" "_S" "[I") ∈ lw_all := lw_g (lw_at lw_m1 58 rfl) rfl
theorem q70 : (Jvm.Cond.fieldLink "RC532Engine" (41 : Nat) "RC532Engine" "forEncryption" "Z") ∈ lw_all := lw_g (lw_at lw_m1 59 rfl) rfl
theorem q71 : (Jvm.Cond.lays "RC532Engine" "RC532Engine" "_noRounds" "I") ∈ lw_all := lw_g (lw_at lw_m1 60 rfl) rfl
theorem q72 : (Jvm.Cond.soleField "RC532Engine" "_noRounds") ∈ lw_all := lw_g (lw_at lw_m1 61 rfl) rfl
theorem q73 : (Jvm.Cond.lays "RC532Engine" "RC532Engine" "_S" "[I") ∈ lw_all := lw_g (lw_at lw_m1 62 rfl) rfl
theorem q74 : (Jvm.Cond.soleField "RC532Engine" "_S") ∈ lw_all := lw_g (lw_at lw_m1 63 rfl) rfl
theorem q75 : (Jvm.Cond.lays "RC532Engine" "RC532Engine" "forEncryption" "Z") ∈ lw_all := lw_g (lw_at lw_m1 64 rfl) rfl
theorem q76 : (Jvm.Cond.soleField "RC532Engine" "forEncryption") ∈ lw_all := lw_g (lw_at lw_m1 65 rfl) rfl
theorem q77 : (Jvm.Cond.superclass "RC532Engine" "java/lang/Object") ∈ lw_all := lw_g (lw_at lw_m1 66 rfl) rfl
theorem q101 : (Jvm.Cond.castable "RC532Engine" "BlockCipher") ∈ lw_tbl := lw_at lw_m1 90 rfl
theorem q102 : (Jvm.Cond.selects "RC532Engine" ({ cls := "BlockCipher", name := "init", desc := "(ZLCipherParameters;)V" } : Jvm.MethodName) ({ cls := "RC532Engine", name := "init", desc := "(ZLCipherParameters;)V" } : Jvm.MethodName)) ∈ lw_all := lw_g (lw_at lw_m1 91 rfl) rfl
theorem q103 : (Jvm.Cond.unhidden "RC532Engine" "init" "(ZLCipherParameters;)V") ∈ lw_tbl := lw_at lw_m1 92 rfl
theorem q104 : (Jvm.Cond.instanceMethod ({ cls := "RC532Engine", name := "init", desc := "(ZLCipherParameters;)V" } : Jvm.MethodName)) ∈ lw_all := lw_g (lw_at lw_m1 93 rfl) rfl
theorem q105 : (Jvm.Cond.publicMethod ({ cls := "RC532Engine", name := "init", desc := "(ZLCipherParameters;)V" } : Jvm.MethodName)) ∈ lw_tbl := lw_at lw_m1 94 rfl
theorem q106 : (Jvm.Cond.code ({ cls := "RC532Engine", name := "init", desc := "(ZLCipherParameters;)V" } : Jvm.MethodName) prog_5_method_2_code (5 : Nat) (Option.none : Option Jvm.ClassFile.FieldType)) ∈ lw_all := lw_g (lw_at lw_m1 95 rfl) rfl
theorem q107 : (Jvm.Cond.classLink "RC532Engine" (17 : Nat) "RC5Parameters") ∈ lw_all := lw_g (lw_at lw_m1 96 rfl) rfl
theorem q108 : (Jvm.Cond.methodLink "RC532Engine" (19 : Nat) ({ cls := "RC5Parameters", name := "getRounds", desc := "()I" } : Jvm.MethodName)) ∈ lw_all := lw_g (lw_at lw_m1 97 rfl) rfl
theorem q112 : (Jvm.Cond.methodLink "RC532Engine" (23 : Nat) ({ cls := "RC5Parameters", name := "getKey", desc := "()[B" } : Jvm.MethodName)) ∈ lw_all := lw_g (lw_at lw_m1 101 rfl) rfl
theorem q116 : (Jvm.Cond.methodLink "RC532Engine" (27 : Nat) ({ cls := "RC532Engine", name := "setKey", desc := "([B)V" } : Jvm.MethodName)) ∈ lw_all := lw_g (lw_at lw_m1 105 rfl) rfl
theorem q117 : (Jvm.Cond.privateMethod ({ cls := "RC532Engine", name := "setKey", desc := "([B)V" } : Jvm.MethodName)) ∈ lw_tbl := lw_at lw_m1 106 rfl
theorem q118 : (Jvm.Cond.instanceMethod ({ cls := "RC532Engine", name := "setKey", desc := "([B)V" } : Jvm.MethodName)) ∈ lw_all := lw_g (lw_at lw_m1 107 rfl) rfl
theorem q119 : (Jvm.Cond.code ({ cls := "RC532Engine", name := "setKey", desc := "([B)V" } : Jvm.MethodName) prog_5_method_4_code (9 : Nat) (Option.none : Option Jvm.ClassFile.FieldType)) ∈ lw_all := lw_g (lw_at lw_m1 108 rfl) rfl
theorem q120 : (Jvm.Cond.constant "RC532Engine" (52 : Nat) (-1209970333 : Int32)) ∈ lw_all := lw_g (lw_at lw_m1 109 rfl) rfl
theorem q121 : (Jvm.Cond.constant "RC532Engine" (53 : Nat) (-1640531527 : Int32)) ∈ lw_all := lw_g (lw_at lw_m1 110 rfl) rfl
theorem q122 : (Jvm.Cond.methodLink "RC532Engine" (54 : Nat) ({ cls := "RC532Engine", name := "rotateLeft", desc := "(II)I" } : Jvm.MethodName)) ∈ lw_all := lw_g (lw_at lw_m1 111 rfl) rfl
theorem q123 : (Jvm.Cond.privateMethod ({ cls := "RC532Engine", name := "rotateLeft", desc := "(II)I" } : Jvm.MethodName)) ∈ lw_tbl := lw_at lw_m1 112 rfl
theorem q124 : (Jvm.Cond.instanceMethod ({ cls := "RC532Engine", name := "rotateLeft", desc := "(II)I" } : Jvm.MethodName)) ∈ lw_all := lw_g (lw_at lw_m1 113 rfl) rfl
theorem q125 : (Jvm.Cond.code ({ cls := "RC532Engine", name := "rotateLeft", desc := "(II)I" } : Jvm.MethodName) prog_5_method_7_code (3 : Nat) (Option.some Jvm.ClassFile.FieldType.int)) ∈ lw_all := lw_g (lw_at lw_m1 114 rfl) rfl
theorem q126 : (Jvm.Cond.classLink "RC532Engine" (31 : Nat) "KeyParameter") ∈ lw_all := lw_g (lw_at lw_m1 115 rfl) rfl
theorem q127 : (Jvm.Cond.methodLink "RC532Engine" (33 : Nat) ({ cls := "KeyParameter", name := "getKey", desc := "()[B" } : Jvm.MethodName)) ∈ lw_all := lw_g (lw_at lw_m1 116 rfl) rfl
theorem q131 : (Jvm.Cond.classLink "RC532Engine" (34 : Nat) "java/lang/IllegalArgumentException") ∈ lw_all := lw_g (lw_at lw_m1 120 rfl) rfl
theorem q170 : (Jvm.Cond.stringRef "RC532Engine" (36 : Nat) "left out") ∈ lw_tbl := lw_at lw_m1 159 rfl
theorem q171 : (Jvm.Cond.methodLink "RC532Engine" (38 : Nat) ({ cls := "java/lang/IllegalArgumentException", name := "<init>", desc := "(Ljava/lang/String;)V" } : Jvm.MethodName)) ∈ lw_all := lw_g (lw_at lw_m1 160 rfl) rfl
theorem q201 : (Jvm.Cond.selects "RC532Engine" ({ cls := "BlockCipher", name := "processBlock", desc := "([BI[BI)I" } : Jvm.MethodName) ({ cls := "RC532Engine", name := "processBlock", desc := "([BI[BI)I" } : Jvm.MethodName)) ∈ lw_all := lw_g (lw_at lw_m1 190 rfl) rfl
theorem q202 : (Jvm.Cond.unhidden "RC532Engine" "processBlock" "([BI[BI)I") ∈ lw_tbl := lw_at lw_m1 191 rfl
theorem q203 : (Jvm.Cond.instanceMethod ({ cls := "RC532Engine", name := "processBlock", desc := "([BI[BI)I" } : Jvm.MethodName)) ∈ lw_all := lw_g (lw_at lw_m1 192 rfl) rfl
theorem q204 : (Jvm.Cond.publicMethod ({ cls := "RC532Engine", name := "processBlock", desc := "([BI[BI)I" } : Jvm.MethodName)) ∈ lw_tbl := lw_at lw_m1 193 rfl
theorem q205 : (Jvm.Cond.code ({ cls := "RC532Engine", name := "processBlock", desc := "([BI[BI)I" } : Jvm.MethodName) prog_5_method_3_code (5 : Nat) (Option.some Jvm.ClassFile.FieldType.int)) ∈ lw_all := lw_g (lw_at lw_m1 194 rfl) rfl
theorem q206 : (Jvm.Cond.methodLink "RC532Engine" (45 : Nat) ({ cls := "RC532Engine", name := "encryptBlock", desc := "([BI[BI)I" } : Jvm.MethodName)) ∈ lw_all := lw_g (lw_at lw_m1 195 rfl) rfl
theorem q207 : (Jvm.Cond.privateMethod ({ cls := "RC532Engine", name := "encryptBlock", desc := "([BI[BI)I" } : Jvm.MethodName)) ∈ lw_tbl := lw_at lw_m1 196 rfl
theorem q208 : (Jvm.Cond.instanceMethod ({ cls := "RC532Engine", name := "encryptBlock", desc := "([BI[BI)I" } : Jvm.MethodName)) ∈ lw_all := lw_g (lw_at lw_m1 197 rfl) rfl
theorem q209 : (Jvm.Cond.code ({ cls := "RC532Engine", name := "encryptBlock", desc := "([BI[BI)I" } : Jvm.MethodName) prog_5_method_5_code (8 : Nat) (Option.some Jvm.ClassFile.FieldType.int)) ∈ lw_all := lw_g (lw_at lw_m1 198 rfl) rfl
theorem q210 : (Jvm.Cond.methodLink "RC532Engine" (58 : Nat) ({ cls := "RC532Engine", name := "bytesToWord", desc := "([BI)I" } : Jvm.MethodName)) ∈ lw_all := lw_g (lw_at lw_m1 199 rfl) rfl
theorem q211 : (Jvm.Cond.privateMethod ({ cls := "RC532Engine", name := "bytesToWord", desc := "([BI)I" } : Jvm.MethodName)) ∈ lw_tbl := lw_at lw_m1 200 rfl
theorem q212 : (Jvm.Cond.instanceMethod ({ cls := "RC532Engine", name := "bytesToWord", desc := "([BI)I" } : Jvm.MethodName)) ∈ lw_all := lw_g (lw_at lw_m1 201 rfl) rfl
theorem q213 : (Jvm.Cond.code ({ cls := "RC532Engine", name := "bytesToWord", desc := "([BI)I" } : Jvm.MethodName) prog_5_method_9_code (3 : Nat) (Option.some Jvm.ClassFile.FieldType.int)) ∈ lw_all := lw_g (lw_at lw_m1 202 rfl) rfl
theorem q214 : (Jvm.Cond.methodLink "RC532Engine" (62 : Nat) ({ cls := "RC532Engine", name := "wordToBytes", desc := "(I[BI)V" } : Jvm.MethodName)) ∈ lw_all := lw_g (lw_at lw_m1 203 rfl) rfl
theorem q215 : (Jvm.Cond.privateMethod ({ cls := "RC532Engine", name := "wordToBytes", desc := "(I[BI)V" } : Jvm.MethodName)) ∈ lw_tbl := lw_at lw_m1 204 rfl
theorem q216 : (Jvm.Cond.instanceMethod ({ cls := "RC532Engine", name := "wordToBytes", desc := "(I[BI)V" } : Jvm.MethodName)) ∈ lw_all := lw_g (lw_at lw_m1 205 rfl) rfl
theorem q217 : (Jvm.Cond.code ({ cls := "RC532Engine", name := "wordToBytes", desc := "(I[BI)V" } : Jvm.MethodName) prog_5_method_10_code (4 : Nat) (Option.none : Option Jvm.ClassFile.FieldType)) ∈ lw_all := lw_g (lw_at lw_m1 206 rfl) rfl
theorem q218 : (Jvm.Cond.methodLink "RC532Engine" (49 : Nat) ({ cls := "RC532Engine", name := "decryptBlock", desc := "([BI[BI)I" } : Jvm.MethodName)) ∈ lw_all := lw_g (lw_at lw_m1 207 rfl) rfl
theorem q219 : (Jvm.Cond.privateMethod ({ cls := "RC532Engine", name := "decryptBlock", desc := "([BI[BI)I" } : Jvm.MethodName)) ∈ lw_tbl := lw_at lw_m1 208 rfl
theorem q220 : (Jvm.Cond.instanceMethod ({ cls := "RC532Engine", name := "decryptBlock", desc := "([BI[BI)I" } : Jvm.MethodName)) ∈ lw_all := lw_g (lw_at lw_m1 209 rfl) rfl
theorem q221 : (Jvm.Cond.code ({ cls := "RC532Engine", name := "decryptBlock", desc := "([BI[BI)I" } : Jvm.MethodName) prog_5_method_6_code (8 : Nat) (Option.some Jvm.ClassFile.FieldType.int)) ∈ lw_all := lw_g (lw_at lw_m1 210 rfl) rfl
theorem q222 : (Jvm.Cond.methodLink "RC532Engine" (66 : Nat) ({ cls := "RC532Engine", name := "rotateRight", desc := "(II)I" } : Jvm.MethodName)) ∈ lw_all := lw_g (lw_at lw_m1 211 rfl) rfl
theorem q223 : (Jvm.Cond.privateMethod ({ cls := "RC532Engine", name := "rotateRight", desc := "(II)I" } : Jvm.MethodName)) ∈ lw_tbl := lw_at lw_m1 212 rfl
theorem q224 : (Jvm.Cond.instanceMethod ({ cls := "RC532Engine", name := "rotateRight", desc := "(II)I" } : Jvm.MethodName)) ∈ lw_all := lw_g (lw_at lw_m1 213 rfl) rfl
theorem q225 : (Jvm.Cond.code ({ cls := "RC532Engine", name := "rotateRight", desc := "(II)I" } : Jvm.MethodName) prog_5_method_8_code (3 : Nat) (Option.some Jvm.ClassFile.FieldType.int)) ∈ lw_all := lw_g (lw_at lw_m1 214 rfl) rfl
theorem in_X2 : ∀ w ∈ wsX20, w ∈ lw_all := lw_in wsX20 [71, 73, 75] (by decide +kernel) (by decide +kernel)
end
section
/-! KeyParameter -/
set_option maxRecDepth 100000
def RX3 : String := "KeyParameter"
def TX3 : u_T := fun k => match k with
  | _ => ("KeyParameter", "key", "[B", false)
def tyX3 : Nat → FieldType := fun k => match k with
  | _ => .array .byte
abbrev wsX30 : List Cond := u_ws RX3 TX3 1
theorem nmX3 : ∀ a, a < 1 → ∀ b, b < 1 → a ≠ b → (TX3 a).2.1 ≠ (TX3 b).2.1 := by decide +kernel
theorem tyX3_ok : ∀ k, k < 1 → parseFieldDescriptor (TX3 k).2.2.1 = some (tyX3 k) := by decide +kernel
abbrev cX3_init : ByteArray := prog_4_method_1_code
def yX3_init : MethodName := ⟨RX3, "<init>", "([B)V"⟩
def dkwX3_init_0 : List UInt8 := [42, 43, 3, 43, 190, 183, 0, 1, 177]
abbrev dktX3_init_0 : List UInt8 := dkwX3_init_0 ++ []
theorem dksX3_init_0 : cX3_init.data.toList.drop 0 = dktX3_init_0 := by decide +kernel
theorem dX3_init_0 : decode cX3_init 0 = .ok (.aload_n 0, 1) := dk_42 (dk_at dksX3_init_0 0 rfl rfl)
theorem dX3_init_1 : decode cX3_init 1 = .ok (.aload_n 1, 1) := dk_43 (dk_at dksX3_init_0 1 rfl rfl)
theorem dX3_init_2 : decode cX3_init 2 = .ok (.iconst 0, 1) := dk_3 (dk_at dksX3_init_0 2 rfl rfl)
theorem dX3_init_3 : decode cX3_init 3 = .ok (.aload_n 1, 1) := dk_43 (dk_at dksX3_init_0 3 rfl rfl)
theorem dX3_init_4 : decode cX3_init 4 = .ok (.arraylength, 1) := dk_190 (dk_at dksX3_init_0 4 rfl rfl)
theorem dX3_init_5 : decode cX3_init 5 = .ok (.invokespecial 1, 3) := dk_183 0 1 (dk_at dksX3_init_0 5 rfl rfl)
theorem dX3_init_8 : decode cX3_init 8 = .ok (.return_, 1) := dk_177 (dk_at dksX3_init_0 8 rfl rfl)
abbrev cX3_init_2 : ByteArray := prog_4_method_2_code
def yX3_init_2 : MethodName := ⟨RX3, "<init>", "([BII)V"⟩
def dkwX3_init_2_0 : List UInt8 := [42, 29, 183, 0, 7, 43, 28, 42, 180, 0, 10, 3, 29, 184, 0, 14, 177]
abbrev dktX3_init_2_0 : List UInt8 := dkwX3_init_2_0 ++ []
theorem dksX3_init_2_0 : cX3_init_2.data.toList.drop 0 = dktX3_init_2_0 := by decide +kernel
theorem dX3_init_2_0 : decode cX3_init_2 0 = .ok (.aload_n 0, 1) := dk_42 (dk_at dksX3_init_2_0 0 rfl rfl)
theorem dX3_init_2_1 : decode cX3_init_2 1 = .ok (.iload_n 3, 1) := dk_29 (dk_at dksX3_init_2_0 1 rfl rfl)
theorem dX3_init_2_2 : decode cX3_init_2 2 = .ok (.invokespecial 7, 3) := dk_183 0 7 (dk_at dksX3_init_2_0 2 rfl rfl)
theorem dX3_init_2_5 : decode cX3_init_2 5 = .ok (.aload_n 1, 1) := dk_43 (dk_at dksX3_init_2_0 5 rfl rfl)
theorem dX3_init_2_6 : decode cX3_init_2 6 = .ok (.iload_n 2, 1) := dk_28 (dk_at dksX3_init_2_0 6 rfl rfl)
theorem dX3_init_2_7 : decode cX3_init_2 7 = .ok (.aload_n 0, 1) := dk_42 (dk_at dksX3_init_2_0 7 rfl rfl)
theorem dX3_init_2_8 : decode cX3_init_2 8 = .ok (.getfield 10, 3) := dk_180 0 10 (dk_at dksX3_init_2_0 8 rfl rfl)
theorem dX3_init_2_11 : decode cX3_init_2 11 = .ok (.iconst 0, 1) := dk_3 (dk_at dksX3_init_2_0 11 rfl rfl)
theorem dX3_init_2_12 : decode cX3_init_2 12 = .ok (.iload_n 3, 1) := dk_29 (dk_at dksX3_init_2_0 12 rfl rfl)
theorem dX3_init_2_13 : decode cX3_init_2 13 = .ok (.invokestatic 14, 3) := dk_184 0 14 (dk_at dksX3_init_2_0 13 rfl rfl)
theorem dX3_init_2_16 : decode cX3_init_2 16 = .ok (.return_, 1) := dk_177 (dk_at dksX3_init_2_0 16 rfl rfl)
abbrev cX3_init_3 : ByteArray := prog_4_method_3_code
def yX3_init_3 : MethodName := ⟨RX3, "<init>", "(I)V"⟩
def dkwX3_init_3_0 : List UInt8 := [42, 183, 0, 20, 42, 27, 188, 8, 181, 0, 10, 177]
abbrev dktX3_init_3_0 : List UInt8 := dkwX3_init_3_0 ++ []
theorem dksX3_init_3_0 : cX3_init_3.data.toList.drop 0 = dktX3_init_3_0 := by decide +kernel
theorem dX3_init_3_0 : decode cX3_init_3 0 = .ok (.aload_n 0, 1) := dk_42 (dk_at dksX3_init_3_0 0 rfl rfl)
theorem dX3_init_3_1 : decode cX3_init_3 1 = .ok (.invokespecial 20, 3) := dk_183 0 20 (dk_at dksX3_init_3_0 1 rfl rfl)
theorem dX3_init_3_4 : decode cX3_init_3 4 = .ok (.aload_n 0, 1) := dk_42 (dk_at dksX3_init_3_0 4 rfl rfl)
theorem dX3_init_3_5 : decode cX3_init_3 5 = .ok (.iload_n 1, 1) := dk_27 (dk_at dksX3_init_3_0 5 rfl rfl)
theorem dX3_init_3_6 : decode cX3_init_3 6 = .ok (.newarray .byte, 2) := dk_188_8 (dk_at dksX3_init_3_0 6 rfl rfl)
theorem dX3_init_3_8 : decode cX3_init_3 8 = .ok (.putfield 10, 3) := dk_181 0 10 (dk_at dksX3_init_3_0 8 rfl rfl)
theorem dX3_init_3_11 : decode cX3_init_3 11 = .ok (.return_, 1) := dk_177 (dk_at dksX3_init_3_0 11 rfl rfl)
abbrev cX3_getKey : ByteArray := prog_4_method_4_code
def yX3_getKey : MethodName := ⟨RX3, "getKey", "()[B"⟩
theorem dX3_getKey_0 : decode cX3_getKey 0 = .ok (.aload_n 0, 1) := by decide +kernel
theorem dX3_getKey_1 : decode cX3_getKey 1 = .ok (.getfield 10, 3) := by decide +kernel
theorem dX3_getKey_4 : decode cX3_getKey 4 = .ok (.areturn, 1) := by decide +kernel
theorem q15 : (Jvm.Cond.initialized "KeyParameter") ∈ lw_all := lw_g (lw_at lw_m1 4 rfl) rfl
theorem q79 : (Jvm.Cond.instantiable "KeyParameter" (1 : Nat)) ∈ lw_all := lw_g (lw_at lw_m1 68 rfl) rfl
theorem q81 : (Jvm.Cond.instanceMethod ({ cls := "KeyParameter", name := "<init>", desc := "([B)V" } : Jvm.MethodName)) ∈ lw_all := lw_g (lw_at lw_m1 70 rfl) rfl
theorem q82 : (Jvm.Cond.code ({ cls := "KeyParameter", name := "<init>", desc := "([B)V" } : Jvm.MethodName) prog_4_method_1_code (2 : Nat) (Option.none : Option Jvm.ClassFile.FieldType)) ∈ lw_all := lw_g (lw_at lw_m1 71 rfl) rfl
theorem q83 : (Jvm.Cond.methodLink "KeyParameter" (1 : Nat) ({ cls := "KeyParameter", name := "<init>", desc := "([BII)V" } : Jvm.MethodName)) ∈ lw_all := lw_g (lw_at lw_m1 72 rfl) rfl
theorem q84 : (Jvm.Cond.instanceMethod ({ cls := "KeyParameter", name := "<init>", desc := "([BII)V" } : Jvm.MethodName)) ∈ lw_all := lw_g (lw_at lw_m1 73 rfl) rfl
theorem q85 : (Jvm.Cond.code ({ cls := "KeyParameter", name := "<init>", desc := "([BII)V" } : Jvm.MethodName) prog_4_method_2_code (4 : Nat) (Option.none : Option Jvm.ClassFile.FieldType)) ∈ lw_all := lw_g (lw_at lw_m1 74 rfl) rfl
theorem q86 : (Jvm.Cond.methodLink "KeyParameter" (7 : Nat) ({ cls := "KeyParameter", name := "<init>", desc := "(I)V" } : Jvm.MethodName)) ∈ lw_all := lw_g (lw_at lw_m1 75 rfl) rfl
theorem q87 : (Jvm.Cond.instanceMethod ({ cls := "KeyParameter", name := "<init>", desc := "(I)V" } : Jvm.MethodName)) ∈ lw_all := lw_g (lw_at lw_m1 76 rfl) rfl
theorem q88 : (Jvm.Cond.code ({ cls := "KeyParameter", name := "<init>", desc := "(I)V" } : Jvm.MethodName) prog_4_method_3_code (2 : Nat) (Option.none : Option Jvm.ClassFile.FieldType)) ∈ lw_all := lw_g (lw_at lw_m1 77 rfl) rfl
theorem q89 : (Jvm.Cond.methodLink "KeyParameter" (20 : Nat) ({ cls := "java/lang/Object", name := "<init>", desc := "()V" } : Jvm.MethodName)) ∈ lw_all := lw_g (lw_at lw_m1 78 rfl) rfl
theorem q90 : (Jvm.Cond.fieldLink "KeyParameter" (10 : Nat) "KeyParameter" "key" "[B") ∈ lw_all := lw_g (lw_at lw_m1 79 rfl) rfl
theorem q91 : (Jvm.Cond.lays "KeyParameter" "KeyParameter" "key" "[B") ∈ lw_all := lw_g (lw_at lw_m1 80 rfl) rfl
theorem q92 : (Jvm.Cond.soleField "KeyParameter" "key") ∈ lw_all := lw_g (lw_at lw_m1 81 rfl) rfl
theorem q93 : (Jvm.Cond.superclass "KeyParameter" "java/lang/Object") ∈ lw_all := lw_g (lw_at lw_m1 82 rfl) rfl
theorem q94 : (Jvm.Cond.methodLink "KeyParameter" (14 : Nat) ({ cls := "java/lang/System", name := "arraycopy", desc := "(Ljava/lang/Object;ILjava/lang/Object;II)V" } : Jvm.MethodName)) ∈ lw_all := lw_g (lw_at lw_m1 83 rfl) rfl
theorem q128 : (Jvm.Cond.instanceMethod ({ cls := "KeyParameter", name := "getKey", desc := "()[B" } : Jvm.MethodName)) ∈ lw_all := lw_g (lw_at lw_m1 117 rfl) rfl
theorem q129 : (Jvm.Cond.selects "KeyParameter" ({ cls := "KeyParameter", name := "getKey", desc := "()[B" } : Jvm.MethodName) ({ cls := "KeyParameter", name := "getKey", desc := "()[B" } : Jvm.MethodName)) ∈ lw_all := lw_g (lw_at lw_m1 118 rfl) rfl
theorem q130 : (Jvm.Cond.code ({ cls := "KeyParameter", name := "getKey", desc := "()[B" } : Jvm.MethodName) prog_4_method_4_code (1 : Nat) (Option.some (Jvm.ClassFile.FieldType.array Jvm.ClassFile.FieldType.byte))) ∈ lw_all := lw_g (lw_at lw_m1 119 rfl) rfl
theorem in_X3 : ∀ w ∈ wsX30, w ∈ lw_all := lw_in wsX30 [91] (by decide +kernel) (by decide +kernel)
/-! RC5Parameters -/
set_option maxRecDepth 100000
def RX4 : String := "RC5Parameters"
abbrev cX4_getRounds : ByteArray := prog_6_method_3_code
def yX4_getRounds : MethodName := ⟨RX4, "getRounds", "()I"⟩
theorem dX4_getRounds_0 : decode cX4_getRounds 0 = .ok (.aload_n 0, 1) := by decide +kernel
theorem dX4_getRounds_1 : decode cX4_getRounds 1 = .ok (.getfield 13, 3) := by decide +kernel
theorem dX4_getRounds_4 : decode cX4_getRounds 4 = .ok (.ireturn, 1) := by decide +kernel
abbrev cX4_getKey : ByteArray := prog_6_method_2_code
def yX4_getKey : MethodName := ⟨RX4, "getKey", "()[B"⟩
theorem dX4_getKey_0 : decode cX4_getKey 0 = .ok (.aload_n 0, 1) := by decide +kernel
theorem dX4_getKey_1 : decode cX4_getKey 1 = .ok (.getfield 7, 3) := by decide +kernel
theorem dX4_getKey_4 : decode cX4_getKey 4 = .ok (.areturn, 1) := by decide +kernel
theorem q109 : (Jvm.Cond.instanceMethod ({ cls := "RC5Parameters", name := "getRounds", desc := "()I" } : Jvm.MethodName)) ∈ lw_all := lw_g (lw_at lw_m1 98 rfl) rfl
theorem q110 : (Jvm.Cond.selects "RC5Parameters" ({ cls := "RC5Parameters", name := "getRounds", desc := "()I" } : Jvm.MethodName) ({ cls := "RC5Parameters", name := "getRounds", desc := "()I" } : Jvm.MethodName)) ∈ lw_all := lw_g (lw_at lw_m1 99 rfl) rfl
theorem q111 : (Jvm.Cond.code ({ cls := "RC5Parameters", name := "getRounds", desc := "()I" } : Jvm.MethodName) prog_6_method_3_code (1 : Nat) (Option.some Jvm.ClassFile.FieldType.int)) ∈ lw_all := lw_g (lw_at lw_m1 100 rfl) rfl
theorem q113 : (Jvm.Cond.instanceMethod ({ cls := "RC5Parameters", name := "getKey", desc := "()[B" } : Jvm.MethodName)) ∈ lw_all := lw_g (lw_at lw_m1 102 rfl) rfl
theorem q114 : (Jvm.Cond.selects "RC5Parameters" ({ cls := "RC5Parameters", name := "getKey", desc := "()[B" } : Jvm.MethodName) ({ cls := "RC5Parameters", name := "getKey", desc := "()[B" } : Jvm.MethodName)) ∈ lw_all := lw_g (lw_at lw_m1 103 rfl) rfl
theorem q115 : (Jvm.Cond.code ({ cls := "RC5Parameters", name := "getKey", desc := "()[B" } : Jvm.MethodName) prog_6_method_2_code (1 : Nat) (Option.some (Jvm.ClassFile.FieldType.array Jvm.ClassFile.FieldType.byte))) ∈ lw_all := lw_g (lw_at lw_m1 104 rfl) rfl
theorem q298 : (Jvm.Cond.fieldLink "RC5Parameters" (13 : Nat) "RC5Parameters" "rounds" "I") ∈ lw_all := lw_g (lw_at lw_m2 47 rfl) rfl
theorem q299 : (Jvm.Cond.fieldLink "RC5Parameters" (7 : Nat) "RC5Parameters" "key" "[B") ∈ lw_all := lw_g (lw_at lw_m2 48 rfl) rfl
theorem q99 : (Jvm.Cond.interfaceMethod "BlockCipher" "BlockCipher" "init" "(ZLCipherParameters;)V") ∈ lw_tbl := lw_at lw_m1 88 rfl
set_option maxRecDepth 100000
theorem q100 : (Jvm.Cond.declares ({ cls := "BlockCipher", name := "init", desc := "(ZLCipherParameters;)V" } : Jvm.MethodName)) ∈ lw_tbl := lw_at lw_m1 89 rfl
theorem q199 : (Jvm.Cond.interfaceMethod "BlockCipher" "BlockCipher" "processBlock" "([BI[BI)I") ∈ lw_tbl := lw_at lw_m1 188 rfl
theorem q200 : (Jvm.Cond.declares ({ cls := "BlockCipher", name := "processBlock", desc := "([BI[BI)I" } : Jvm.MethodName)) ∈ lw_tbl := lw_at lw_m1 189 rfl
theorem q11 : (Jvm.Cond.initialized "RcFiveDeskLaw") ∈ lw_all := lw_g (lw_at lw_m1 0 rfl) rfl
set_option maxRecDepth 100000
theorem q21 : (Jvm.Cond.classLink "RcFiveDeskLaw" (7 : Nat) "RcFiveDesk") ∈ lw_all := lw_g (lw_at lw_m1 10 rfl) rfl
theorem q23 : (Jvm.Cond.methodLink "RcFiveDeskLaw" (9 : Nat) ({ cls := "RcFiveDesk", name := "<init>", desc := "()V" } : Jvm.MethodName)) ∈ lw_all := lw_g (lw_at lw_m1 12 rfl) rfl
theorem q40 : (Jvm.Cond.methodLink "RcFiveDeskLaw" (13 : Nat) ({ cls := "RcFiveDesk", name := "key", desc := "(IIIII)V" } : Jvm.MethodName)) ∈ lw_all := lw_g (lw_at lw_m1 29 rfl) rfl
theorem q47 : (Jvm.Cond.methodLink "RcFiveDeskLaw" (18 : Nat) ({ cls := "RcFiveDesk", name := "block", desc := "(II)V" } : Jvm.MethodName)) ∈ lw_all := lw_g (lw_at lw_m1 36 rfl) rfl
theorem q51 : (Jvm.Cond.methodLink "RcFiveDeskLaw" (23 : Nat) ({ cls := "RcFiveDesk", name := "lock", desc := "(I)V" } : Jvm.MethodName)) ∈ lw_all := lw_g (lw_at lw_m1 40 rfl) rfl
theorem q226 : (Jvm.Cond.methodLink "RcFiveDeskLaw" (28 : Nat) ({ cls := "RcFiveDesk", name := "open", desc := "(I)V" } : Jvm.MethodName)) ∈ lw_all := lw_g (lw_at lw_m1 215 rfl) rfl
theorem q230 : (Jvm.Cond.methodLink "RcFiveDeskLaw" (32 : Nat) ({ cls := "RcFiveDesk", name := "again", desc := "()V" } : Jvm.MethodName)) ∈ lw_all := lw_g (lw_at lw_m1 219 rfl) rfl
theorem q234 : (Jvm.Cond.methodLink "RcFiveDeskLaw" (36 : Nat) ({ cls := "RcFiveDesk", name := "out", desc := "(I)I" } : Jvm.MethodName)) ∈ lw_all := lw_g (lw_at lw_m1 223 rfl) rfl
theorem q238 : (Jvm.Cond.classLink "RcFiveDeskLaw" (10 : Nat) "RcFiveDeskModel") ∈ lw_all := lw_g (lw_at lw_m1 227 rfl) rfl
theorem q240 : (Jvm.Cond.methodLink "RcFiveDeskLaw" (12 : Nat) ({ cls := "RcFiveDeskModel", name := "<init>", desc := "()V" } : Jvm.MethodName)) ∈ lw_all := lw_g (lw_at lw_m1 229 rfl) rfl
theorem q254 : (Jvm.Cond.methodLink "RcFiveDeskLaw" (17 : Nat) ({ cls := "RcFiveDeskModel", name := "key", desc := "(IIIII)V" } : Jvm.MethodName)) ∈ lw_all := lw_g (lw_at lw_m2 3 rfl) rfl
theorem q261 : (Jvm.Cond.methodLink "RcFiveDeskLaw" (22 : Nat) ({ cls := "RcFiveDeskModel", name := "block", desc := "(II)V" } : Jvm.MethodName)) ∈ lw_all := lw_g (lw_at lw_m2 10 rfl) rfl
theorem q265 : (Jvm.Cond.methodLink "RcFiveDeskLaw" (27 : Nat) ({ cls := "RcFiveDeskModel", name := "lock", desc := "(I)V" } : Jvm.MethodName)) ∈ lw_all := lw_g (lw_at lw_m2 14 rfl) rfl
theorem q285 : (Jvm.Cond.methodLink "RcFiveDeskLaw" (31 : Nat) ({ cls := "RcFiveDeskModel", name := "open", desc := "(I)V" } : Jvm.MethodName)) ∈ lw_all := lw_g (lw_at lw_m2 34 rfl) rfl
theorem q289 : (Jvm.Cond.methodLink "RcFiveDeskLaw" (35 : Nat) ({ cls := "RcFiveDeskModel", name := "again", desc := "()V" } : Jvm.MethodName)) ∈ lw_all := lw_g (lw_at lw_m2 38 rfl) rfl
theorem q293 : (Jvm.Cond.methodLink "RcFiveDeskLaw" (40 : Nat) ({ cls := "RcFiveDeskModel", name := "out", desc := "(I)I" } : Jvm.MethodName)) ∈ lw_all := lw_g (lw_at lw_m2 42 rfl) rfl
theorem q16 : (Jvm.Cond.initialized "java/lang/System") ∈ lw_all := lw_g (lw_at lw_m1 5 rfl) rfl
set_option maxRecDepth 100000
theorem q95 : (Jvm.Cond.static ({ cls := "java/lang/System", name := "arraycopy", desc := "(Ljava/lang/Object;ILjava/lang/Object;II)V" } : Jvm.MethodName)) ∈ lw_all := lw_g (lw_at lw_m1 84 rfl) rfl
theorem q96 : (Jvm.Cond.native ({ cls := "java/lang/System", name := "arraycopy", desc := "(Ljava/lang/Object;ILjava/lang/Object;II)V" } : Jvm.MethodName)) ∈ lw_all := lw_g (lw_at lw_m1 85 rfl) rfl
theorem q39 : (Jvm.Cond.arrayClass Jvm.ClassFile.FieldType.byte) ∈ lw_all := lw_g (lw_at lw_m1 28 rfl) rfl
set_option maxRecDepth 100000
theorem q196 : (Jvm.Cond.arrayClass Jvm.ClassFile.FieldType.int) ∈ lw_all := lw_g (lw_at lw_m1 185 rfl) rfl
/-! the law's own entry -/
set_option maxRecDepth 100000
abbrev cL_law : ByteArray := code
def dkwL_law_10 : List UInt8 := [3, 172, 132, 3, 6, 167, 255, 31, 4, 172]
abbrev dktL_law_10 : List UInt8 := dkwL_law_10 ++ []
def dkwL_law_9 : List UInt8 := [167, 0, 26, 43, 42, 29, 4, 96, 46, 182, 0, 36, 44, 42, 29, 4, 96, 46, 182, 0, 40, 159, 0, 5]
abbrev dktL_law_9 : List UInt8 := dkwL_law_9 ++ dktL_law_10
def dkwL_law_8 : List UInt8 := [182, 0, 28, 44, 42, 29, 4, 96, 46, 182, 0, 31, 167, 0, 37, 43, 182, 0, 32, 44, 182, 0, 35]
abbrev dktL_law_8 : List UInt8 := dkwL_law_8 ++ dktL_law_9
def dkwL_law_7 : List UInt8 := [96, 46, 182, 0, 23, 44, 42, 29, 4, 96, 46, 182, 0, 27, 167, 0, 58, 43, 42, 29, 4, 96, 46]
abbrev dktL_law_7 : List UInt8 := dkwL_law_7 ++ dktL_law_8
def dkwL_law_6 : List UInt8 := [182, 0, 18, 44, 42, 29, 4, 96, 46, 42, 29, 5, 96, 46, 182, 0, 22, 167, 0, 79, 43, 42, 29, 4]
abbrev dktL_law_6 : List UInt8 := dkwL_law_6 ++ dktL_law_7
def dkwL_law_5 : List UInt8 := [96, 46, 42, 29, 8, 96, 46, 182, 0, 17, 167, 0, 110, 43, 42, 29, 4, 96, 46, 42, 29, 5, 96, 46]
abbrev dktL_law_5 : List UInt8 := dkwL_law_5 ++ dktL_law_6
def dkwL_law_4 : List UInt8 := [96, 46, 182, 0, 13, 44, 42, 29, 4, 96, 46, 42, 29, 5, 96, 46, 42, 29, 6, 96, 46, 42, 29, 7]
abbrev dktL_law_4 : List UInt8 := dkwL_law_4 ++ dktL_law_5
def dkwL_law_3 : List UInt8 := [43, 42, 29, 4, 96, 46, 42, 29, 5, 96, 46, 42, 29, 6, 96, 46, 42, 29, 7, 96, 46, 42, 29, 8]
abbrev dktL_law_3 : List UInt8 := dkwL_law_3 ++ dktL_law_4
def dkwL_law_2 : List UInt8 := [170, 0, 0, 0, 0, 0, 207, 0, 0, 0, 0, 0, 0, 0, 5, 0, 0, 0, 39, 0, 0, 0, 100, 0, 0, 0, 131, 0, 0, 0, 152, 0, 0, 0, 173, 0, 0, 0, 184]
abbrev dktL_law_2 : List UInt8 := dkwL_law_2 ++ dktL_law_3
def dkwL_law_1 : List UInt8 := [163, 0, 222, 42, 29, 46, 16, 7, 126]
abbrev dktL_law_1 : List UInt8 := dkwL_law_1 ++ dktL_law_2
def dkwL_law_0 : List UInt8 := [187, 0, 7, 89, 183, 0, 9, 76, 187, 0, 10, 89, 183, 0, 12, 77, 3, 62, 29, 42, 190, 16, 6, 100]
abbrev dktL_law_0 : List UInt8 := dkwL_law_0 ++ dktL_law_1
theorem dksL_law_0 : cL_law.data.toList.drop 0 = dktL_law_0 := by decide +kernel
theorem dksL_law_1 : cL_law.data.toList.drop 24 = dktL_law_1 := dk_seg dksL_law_0 24 rfl rfl
theorem dksL_law_2 : cL_law.data.toList.drop 33 = dktL_law_2 := dk_seg dksL_law_1 9 rfl rfl
theorem dksL_law_3 : cL_law.data.toList.drop 72 = dktL_law_3 := dk_seg dksL_law_2 39 rfl rfl
theorem dksL_law_4 : cL_law.data.toList.drop 96 = dktL_law_4 := dk_seg dksL_law_3 24 rfl rfl
theorem dksL_law_5 : cL_law.data.toList.drop 120 = dktL_law_5 := dk_seg dksL_law_4 24 rfl rfl
theorem dksL_law_6 : cL_law.data.toList.drop 144 = dktL_law_6 := dk_seg dksL_law_5 24 rfl rfl
theorem dksL_law_7 : cL_law.data.toList.drop 168 = dktL_law_7 := dk_seg dksL_law_6 24 rfl rfl
theorem dksL_law_8 : cL_law.data.toList.drop 191 = dktL_law_8 := dk_seg dksL_law_7 23 rfl rfl
theorem dksL_law_9 : cL_law.data.toList.drop 214 = dktL_law_9 := dk_seg dksL_law_8 23 rfl rfl
theorem dksL_law_10 : cL_law.data.toList.drop 238 = dktL_law_10 := dk_seg dksL_law_9 24 rfl rfl
theorem dL_law_0 : decode cL_law 0 = .ok (.new 7, 3) := dk_187 0 7 (dk_at dksL_law_0 0 rfl rfl)
theorem dL_law_3 : decode cL_law 3 = .ok (.dup, 1) := dk_89 (dk_at dksL_law_0 3 rfl rfl)
theorem dL_law_4 : decode cL_law 4 = .ok (.invokespecial 9, 3) := dk_183 0 9 (dk_at dksL_law_0 4 rfl rfl)
theorem dL_law_7 : decode cL_law 7 = .ok (.astore_n 1, 1) := dk_76 (dk_at dksL_law_0 7 rfl rfl)
theorem dL_law_8 : decode cL_law 8 = .ok (.new 10, 3) := dk_187 0 10 (dk_at dksL_law_0 8 rfl rfl)
theorem dL_law_11 : decode cL_law 11 = .ok (.dup, 1) := dk_89 (dk_at dksL_law_0 11 rfl rfl)
theorem dL_law_12 : decode cL_law 12 = .ok (.invokespecial 12, 3) := dk_183 0 12 (dk_at dksL_law_0 12 rfl rfl)
theorem dL_law_15 : decode cL_law 15 = .ok (.astore_n 2, 1) := dk_77 (dk_at dksL_law_0 15 rfl rfl)
theorem dL_law_16 : decode cL_law 16 = .ok (.iconst 0, 1) := dk_3 (dk_at dksL_law_0 16 rfl rfl)
theorem dL_law_17 : decode cL_law 17 = .ok (.istore_n 3, 1) := dk_62 (dk_at dksL_law_0 17 rfl rfl)
theorem dL_law_18 : decode cL_law 18 = .ok (.iload_n 3, 1) := dk_29 (dk_at dksL_law_0 18 rfl rfl)
theorem dL_law_19 : decode cL_law 19 = .ok (.aload_n 0, 1) := dk_42 (dk_at dksL_law_0 19 rfl rfl)
theorem dL_law_20 : decode cL_law 20 = .ok (.arraylength, 1) := dk_190 (dk_at dksL_law_0 20 rfl rfl)
theorem dL_law_21 : decode cL_law 21 = .ok (.bipush 6, 2) := dk_16 6 (dk_at dksL_law_0 21 rfl rfl)
theorem dL_law_23 : decode cL_law 23 = .ok (.isub, 1) := dk_100 (dk_at dksL_law_0 23 rfl rfl)
theorem dL_law_24 : decode cL_law 24 = .ok (.if_icmp .gt 222, 3) := dk_163 0 222 (dk_at dksL_law_1 0 rfl rfl)
theorem dL_law_27 : decode cL_law 27 = .ok (.aload_n 0, 1) := dk_42 (dk_at dksL_law_1 3 rfl rfl)
theorem dL_law_28 : decode cL_law 28 = .ok (.iload_n 3, 1) := dk_29 (dk_at dksL_law_1 4 rfl rfl)
theorem dL_law_29 : decode cL_law 29 = .ok (.iaload, 1) := dk_46 (dk_at dksL_law_1 5 rfl rfl)
theorem dL_law_30 : decode cL_law 30 = .ok (.bipush 7, 2) := dk_16 7 (dk_at dksL_law_1 6 rfl rfl)
theorem dL_law_32 : decode cL_law 32 = .ok (.iand, 1) := dk_126 (dk_at dksL_law_1 8 rfl rfl)
theorem dL_law_33 : decode cL_law 33 = .ok (.tableswitch 207 0 5 #[39, 100, 131, 152, 173, 184], 39) := by decide +kernel
theorem dL_law_72 : decode cL_law 72 = .ok (.aload_n 1, 1) := dk_43 (dk_at dksL_law_3 0 rfl rfl)
theorem dL_law_73 : decode cL_law 73 = .ok (.aload_n 0, 1) := dk_42 (dk_at dksL_law_3 1 rfl rfl)
theorem dL_law_74 : decode cL_law 74 = .ok (.iload_n 3, 1) := dk_29 (dk_at dksL_law_3 2 rfl rfl)
theorem dL_law_75 : decode cL_law 75 = .ok (.iconst 1, 1) := dk_4 (dk_at dksL_law_3 3 rfl rfl)
theorem dL_law_76 : decode cL_law 76 = .ok (.iadd, 1) := dk_96 (dk_at dksL_law_3 4 rfl rfl)
theorem dL_law_77 : decode cL_law 77 = .ok (.iaload, 1) := dk_46 (dk_at dksL_law_3 5 rfl rfl)
theorem dL_law_78 : decode cL_law 78 = .ok (.aload_n 0, 1) := dk_42 (dk_at dksL_law_3 6 rfl rfl)
theorem dL_law_79 : decode cL_law 79 = .ok (.iload_n 3, 1) := dk_29 (dk_at dksL_law_3 7 rfl rfl)
theorem dL_law_80 : decode cL_law 80 = .ok (.iconst 2, 1) := dk_5 (dk_at dksL_law_3 8 rfl rfl)
theorem dL_law_81 : decode cL_law 81 = .ok (.iadd, 1) := dk_96 (dk_at dksL_law_3 9 rfl rfl)
theorem dL_law_82 : decode cL_law 82 = .ok (.iaload, 1) := dk_46 (dk_at dksL_law_3 10 rfl rfl)
theorem dL_law_83 : decode cL_law 83 = .ok (.aload_n 0, 1) := dk_42 (dk_at dksL_law_3 11 rfl rfl)
theorem dL_law_84 : decode cL_law 84 = .ok (.iload_n 3, 1) := dk_29 (dk_at dksL_law_3 12 rfl rfl)
theorem dL_law_85 : decode cL_law 85 = .ok (.iconst 3, 1) := dk_6 (dk_at dksL_law_3 13 rfl rfl)
theorem dL_law_86 : decode cL_law 86 = .ok (.iadd, 1) := dk_96 (dk_at dksL_law_3 14 rfl rfl)
theorem dL_law_87 : decode cL_law 87 = .ok (.iaload, 1) := dk_46 (dk_at dksL_law_3 15 rfl rfl)
theorem dL_law_88 : decode cL_law 88 = .ok (.aload_n 0, 1) := dk_42 (dk_at dksL_law_3 16 rfl rfl)
theorem dL_law_89 : decode cL_law 89 = .ok (.iload_n 3, 1) := dk_29 (dk_at dksL_law_3 17 rfl rfl)
theorem dL_law_90 : decode cL_law 90 = .ok (.iconst 4, 1) := dk_7 (dk_at dksL_law_3 18 rfl rfl)
theorem dL_law_91 : decode cL_law 91 = .ok (.iadd, 1) := dk_96 (dk_at dksL_law_3 19 rfl rfl)
theorem dL_law_92 : decode cL_law 92 = .ok (.iaload, 1) := dk_46 (dk_at dksL_law_3 20 rfl rfl)
theorem dL_law_93 : decode cL_law 93 = .ok (.aload_n 0, 1) := dk_42 (dk_at dksL_law_3 21 rfl rfl)
theorem dL_law_94 : decode cL_law 94 = .ok (.iload_n 3, 1) := dk_29 (dk_at dksL_law_3 22 rfl rfl)
theorem dL_law_95 : decode cL_law 95 = .ok (.iconst 5, 1) := dk_8 (dk_at dksL_law_3 23 rfl rfl)
theorem dL_law_96 : decode cL_law 96 = .ok (.iadd, 1) := dk_96 (dk_at dksL_law_4 0 rfl rfl)
theorem dL_law_97 : decode cL_law 97 = .ok (.iaload, 1) := dk_46 (dk_at dksL_law_4 1 rfl rfl)
theorem dL_law_98 : decode cL_law 98 = .ok (.invokevirtual 13, 3) := dk_182 0 13 (dk_at dksL_law_4 2 rfl rfl)
theorem dL_law_101 : decode cL_law 101 = .ok (.aload_n 2, 1) := dk_44 (dk_at dksL_law_4 5 rfl rfl)
theorem dL_law_102 : decode cL_law 102 = .ok (.aload_n 0, 1) := dk_42 (dk_at dksL_law_4 6 rfl rfl)
theorem dL_law_103 : decode cL_law 103 = .ok (.iload_n 3, 1) := dk_29 (dk_at dksL_law_4 7 rfl rfl)
theorem dL_law_104 : decode cL_law 104 = .ok (.iconst 1, 1) := dk_4 (dk_at dksL_law_4 8 rfl rfl)
theorem dL_law_105 : decode cL_law 105 = .ok (.iadd, 1) := dk_96 (dk_at dksL_law_4 9 rfl rfl)
theorem dL_law_106 : decode cL_law 106 = .ok (.iaload, 1) := dk_46 (dk_at dksL_law_4 10 rfl rfl)
theorem dL_law_107 : decode cL_law 107 = .ok (.aload_n 0, 1) := dk_42 (dk_at dksL_law_4 11 rfl rfl)
theorem dL_law_108 : decode cL_law 108 = .ok (.iload_n 3, 1) := dk_29 (dk_at dksL_law_4 12 rfl rfl)
theorem dL_law_109 : decode cL_law 109 = .ok (.iconst 2, 1) := dk_5 (dk_at dksL_law_4 13 rfl rfl)
theorem dL_law_110 : decode cL_law 110 = .ok (.iadd, 1) := dk_96 (dk_at dksL_law_4 14 rfl rfl)
theorem dL_law_111 : decode cL_law 111 = .ok (.iaload, 1) := dk_46 (dk_at dksL_law_4 15 rfl rfl)
theorem dL_law_112 : decode cL_law 112 = .ok (.aload_n 0, 1) := dk_42 (dk_at dksL_law_4 16 rfl rfl)
theorem dL_law_113 : decode cL_law 113 = .ok (.iload_n 3, 1) := dk_29 (dk_at dksL_law_4 17 rfl rfl)
theorem dL_law_114 : decode cL_law 114 = .ok (.iconst 3, 1) := dk_6 (dk_at dksL_law_4 18 rfl rfl)
theorem dL_law_115 : decode cL_law 115 = .ok (.iadd, 1) := dk_96 (dk_at dksL_law_4 19 rfl rfl)
theorem dL_law_116 : decode cL_law 116 = .ok (.iaload, 1) := dk_46 (dk_at dksL_law_4 20 rfl rfl)
theorem dL_law_117 : decode cL_law 117 = .ok (.aload_n 0, 1) := dk_42 (dk_at dksL_law_4 21 rfl rfl)
theorem dL_law_118 : decode cL_law 118 = .ok (.iload_n 3, 1) := dk_29 (dk_at dksL_law_4 22 rfl rfl)
theorem dL_law_119 : decode cL_law 119 = .ok (.iconst 4, 1) := dk_7 (dk_at dksL_law_4 23 rfl rfl)
theorem dL_law_120 : decode cL_law 120 = .ok (.iadd, 1) := dk_96 (dk_at dksL_law_5 0 rfl rfl)
theorem dL_law_121 : decode cL_law 121 = .ok (.iaload, 1) := dk_46 (dk_at dksL_law_5 1 rfl rfl)
theorem dL_law_122 : decode cL_law 122 = .ok (.aload_n 0, 1) := dk_42 (dk_at dksL_law_5 2 rfl rfl)
theorem dL_law_123 : decode cL_law 123 = .ok (.iload_n 3, 1) := dk_29 (dk_at dksL_law_5 3 rfl rfl)
theorem dL_law_124 : decode cL_law 124 = .ok (.iconst 5, 1) := dk_8 (dk_at dksL_law_5 4 rfl rfl)
theorem dL_law_125 : decode cL_law 125 = .ok (.iadd, 1) := dk_96 (dk_at dksL_law_5 5 rfl rfl)
theorem dL_law_126 : decode cL_law 126 = .ok (.iaload, 1) := dk_46 (dk_at dksL_law_5 6 rfl rfl)
theorem dL_law_127 : decode cL_law 127 = .ok (.invokevirtual 17, 3) := dk_182 0 17 (dk_at dksL_law_5 7 rfl rfl)
theorem dL_law_130 : decode cL_law 130 = .ok (.goto 110, 3) := dk_167 0 110 (dk_at dksL_law_5 10 rfl rfl)
theorem dL_law_133 : decode cL_law 133 = .ok (.aload_n 1, 1) := dk_43 (dk_at dksL_law_5 13 rfl rfl)
theorem dL_law_134 : decode cL_law 134 = .ok (.aload_n 0, 1) := dk_42 (dk_at dksL_law_5 14 rfl rfl)
theorem dL_law_135 : decode cL_law 135 = .ok (.iload_n 3, 1) := dk_29 (dk_at dksL_law_5 15 rfl rfl)
theorem dL_law_136 : decode cL_law 136 = .ok (.iconst 1, 1) := dk_4 (dk_at dksL_law_5 16 rfl rfl)
theorem dL_law_137 : decode cL_law 137 = .ok (.iadd, 1) := dk_96 (dk_at dksL_law_5 17 rfl rfl)
theorem dL_law_138 : decode cL_law 138 = .ok (.iaload, 1) := dk_46 (dk_at dksL_law_5 18 rfl rfl)
theorem dL_law_139 : decode cL_law 139 = .ok (.aload_n 0, 1) := dk_42 (dk_at dksL_law_5 19 rfl rfl)
theorem dL_law_140 : decode cL_law 140 = .ok (.iload_n 3, 1) := dk_29 (dk_at dksL_law_5 20 rfl rfl)
theorem dL_law_141 : decode cL_law 141 = .ok (.iconst 2, 1) := dk_5 (dk_at dksL_law_5 21 rfl rfl)
theorem dL_law_142 : decode cL_law 142 = .ok (.iadd, 1) := dk_96 (dk_at dksL_law_5 22 rfl rfl)
theorem dL_law_143 : decode cL_law 143 = .ok (.iaload, 1) := dk_46 (dk_at dksL_law_5 23 rfl rfl)
theorem dL_law_144 : decode cL_law 144 = .ok (.invokevirtual 18, 3) := dk_182 0 18 (dk_at dksL_law_6 0 rfl rfl)
theorem dL_law_147 : decode cL_law 147 = .ok (.aload_n 2, 1) := dk_44 (dk_at dksL_law_6 3 rfl rfl)
theorem dL_law_148 : decode cL_law 148 = .ok (.aload_n 0, 1) := dk_42 (dk_at dksL_law_6 4 rfl rfl)
theorem dL_law_149 : decode cL_law 149 = .ok (.iload_n 3, 1) := dk_29 (dk_at dksL_law_6 5 rfl rfl)
theorem dL_law_150 : decode cL_law 150 = .ok (.iconst 1, 1) := dk_4 (dk_at dksL_law_6 6 rfl rfl)
theorem dL_law_151 : decode cL_law 151 = .ok (.iadd, 1) := dk_96 (dk_at dksL_law_6 7 rfl rfl)
theorem dL_law_152 : decode cL_law 152 = .ok (.iaload, 1) := dk_46 (dk_at dksL_law_6 8 rfl rfl)
theorem dL_law_153 : decode cL_law 153 = .ok (.aload_n 0, 1) := dk_42 (dk_at dksL_law_6 9 rfl rfl)
theorem dL_law_154 : decode cL_law 154 = .ok (.iload_n 3, 1) := dk_29 (dk_at dksL_law_6 10 rfl rfl)
theorem dL_law_155 : decode cL_law 155 = .ok (.iconst 2, 1) := dk_5 (dk_at dksL_law_6 11 rfl rfl)
theorem dL_law_156 : decode cL_law 156 = .ok (.iadd, 1) := dk_96 (dk_at dksL_law_6 12 rfl rfl)
theorem dL_law_157 : decode cL_law 157 = .ok (.iaload, 1) := dk_46 (dk_at dksL_law_6 13 rfl rfl)
theorem dL_law_158 : decode cL_law 158 = .ok (.invokevirtual 22, 3) := dk_182 0 22 (dk_at dksL_law_6 14 rfl rfl)
theorem dL_law_161 : decode cL_law 161 = .ok (.goto 79, 3) := dk_167 0 79 (dk_at dksL_law_6 17 rfl rfl)
theorem dL_law_164 : decode cL_law 164 = .ok (.aload_n 1, 1) := dk_43 (dk_at dksL_law_6 20 rfl rfl)
theorem dL_law_165 : decode cL_law 165 = .ok (.aload_n 0, 1) := dk_42 (dk_at dksL_law_6 21 rfl rfl)
theorem dL_law_166 : decode cL_law 166 = .ok (.iload_n 3, 1) := dk_29 (dk_at dksL_law_6 22 rfl rfl)
theorem dL_law_167 : decode cL_law 167 = .ok (.iconst 1, 1) := dk_4 (dk_at dksL_law_6 23 rfl rfl)
theorem dL_law_168 : decode cL_law 168 = .ok (.iadd, 1) := dk_96 (dk_at dksL_law_7 0 rfl rfl)
theorem dL_law_169 : decode cL_law 169 = .ok (.iaload, 1) := dk_46 (dk_at dksL_law_7 1 rfl rfl)
theorem dL_law_170 : decode cL_law 170 = .ok (.invokevirtual 23, 3) := dk_182 0 23 (dk_at dksL_law_7 2 rfl rfl)
theorem dL_law_173 : decode cL_law 173 = .ok (.aload_n 2, 1) := dk_44 (dk_at dksL_law_7 5 rfl rfl)
theorem dL_law_174 : decode cL_law 174 = .ok (.aload_n 0, 1) := dk_42 (dk_at dksL_law_7 6 rfl rfl)
theorem dL_law_175 : decode cL_law 175 = .ok (.iload_n 3, 1) := dk_29 (dk_at dksL_law_7 7 rfl rfl)
theorem dL_law_176 : decode cL_law 176 = .ok (.iconst 1, 1) := dk_4 (dk_at dksL_law_7 8 rfl rfl)
theorem dL_law_177 : decode cL_law 177 = .ok (.iadd, 1) := dk_96 (dk_at dksL_law_7 9 rfl rfl)
theorem dL_law_178 : decode cL_law 178 = .ok (.iaload, 1) := dk_46 (dk_at dksL_law_7 10 rfl rfl)
theorem dL_law_179 : decode cL_law 179 = .ok (.invokevirtual 27, 3) := dk_182 0 27 (dk_at dksL_law_7 11 rfl rfl)
theorem dL_law_182 : decode cL_law 182 = .ok (.goto 58, 3) := dk_167 0 58 (dk_at dksL_law_7 14 rfl rfl)
theorem dL_law_185 : decode cL_law 185 = .ok (.aload_n 1, 1) := dk_43 (dk_at dksL_law_7 17 rfl rfl)
theorem dL_law_186 : decode cL_law 186 = .ok (.aload_n 0, 1) := dk_42 (dk_at dksL_law_7 18 rfl rfl)
theorem dL_law_187 : decode cL_law 187 = .ok (.iload_n 3, 1) := dk_29 (dk_at dksL_law_7 19 rfl rfl)
theorem dL_law_188 : decode cL_law 188 = .ok (.iconst 1, 1) := dk_4 (dk_at dksL_law_7 20 rfl rfl)
theorem dL_law_189 : decode cL_law 189 = .ok (.iadd, 1) := dk_96 (dk_at dksL_law_7 21 rfl rfl)
theorem dL_law_190 : decode cL_law 190 = .ok (.iaload, 1) := dk_46 (dk_at dksL_law_7 22 rfl rfl)
theorem dL_law_191 : decode cL_law 191 = .ok (.invokevirtual 28, 3) := dk_182 0 28 (dk_at dksL_law_8 0 rfl rfl)
theorem dL_law_194 : decode cL_law 194 = .ok (.aload_n 2, 1) := dk_44 (dk_at dksL_law_8 3 rfl rfl)
theorem dL_law_195 : decode cL_law 195 = .ok (.aload_n 0, 1) := dk_42 (dk_at dksL_law_8 4 rfl rfl)
theorem dL_law_196 : decode cL_law 196 = .ok (.iload_n 3, 1) := dk_29 (dk_at dksL_law_8 5 rfl rfl)
theorem dL_law_197 : decode cL_law 197 = .ok (.iconst 1, 1) := dk_4 (dk_at dksL_law_8 6 rfl rfl)
theorem dL_law_198 : decode cL_law 198 = .ok (.iadd, 1) := dk_96 (dk_at dksL_law_8 7 rfl rfl)
theorem dL_law_199 : decode cL_law 199 = .ok (.iaload, 1) := dk_46 (dk_at dksL_law_8 8 rfl rfl)
theorem dL_law_200 : decode cL_law 200 = .ok (.invokevirtual 31, 3) := dk_182 0 31 (dk_at dksL_law_8 9 rfl rfl)
theorem dL_law_203 : decode cL_law 203 = .ok (.goto 37, 3) := dk_167 0 37 (dk_at dksL_law_8 12 rfl rfl)
theorem dL_law_206 : decode cL_law 206 = .ok (.aload_n 1, 1) := dk_43 (dk_at dksL_law_8 15 rfl rfl)
theorem dL_law_207 : decode cL_law 207 = .ok (.invokevirtual 32, 3) := dk_182 0 32 (dk_at dksL_law_8 16 rfl rfl)
theorem dL_law_210 : decode cL_law 210 = .ok (.aload_n 2, 1) := dk_44 (dk_at dksL_law_8 19 rfl rfl)
theorem dL_law_211 : decode cL_law 211 = .ok (.invokevirtual 35, 3) := dk_182 0 35 (dk_at dksL_law_8 20 rfl rfl)
theorem dL_law_214 : decode cL_law 214 = .ok (.goto 26, 3) := dk_167 0 26 (dk_at dksL_law_9 0 rfl rfl)
theorem dL_law_217 : decode cL_law 217 = .ok (.aload_n 1, 1) := dk_43 (dk_at dksL_law_9 3 rfl rfl)
theorem dL_law_218 : decode cL_law 218 = .ok (.aload_n 0, 1) := dk_42 (dk_at dksL_law_9 4 rfl rfl)
theorem dL_law_219 : decode cL_law 219 = .ok (.iload_n 3, 1) := dk_29 (dk_at dksL_law_9 5 rfl rfl)
theorem dL_law_220 : decode cL_law 220 = .ok (.iconst 1, 1) := dk_4 (dk_at dksL_law_9 6 rfl rfl)
theorem dL_law_221 : decode cL_law 221 = .ok (.iadd, 1) := dk_96 (dk_at dksL_law_9 7 rfl rfl)
theorem dL_law_222 : decode cL_law 222 = .ok (.iaload, 1) := dk_46 (dk_at dksL_law_9 8 rfl rfl)
theorem dL_law_223 : decode cL_law 223 = .ok (.invokevirtual 36, 3) := dk_182 0 36 (dk_at dksL_law_9 9 rfl rfl)
theorem dL_law_226 : decode cL_law 226 = .ok (.aload_n 2, 1) := dk_44 (dk_at dksL_law_9 12 rfl rfl)
theorem dL_law_227 : decode cL_law 227 = .ok (.aload_n 0, 1) := dk_42 (dk_at dksL_law_9 13 rfl rfl)
theorem dL_law_228 : decode cL_law 228 = .ok (.iload_n 3, 1) := dk_29 (dk_at dksL_law_9 14 rfl rfl)
theorem dL_law_229 : decode cL_law 229 = .ok (.iconst 1, 1) := dk_4 (dk_at dksL_law_9 15 rfl rfl)
theorem dL_law_230 : decode cL_law 230 = .ok (.iadd, 1) := dk_96 (dk_at dksL_law_9 16 rfl rfl)
theorem dL_law_231 : decode cL_law 231 = .ok (.iaload, 1) := dk_46 (dk_at dksL_law_9 17 rfl rfl)
theorem dL_law_232 : decode cL_law 232 = .ok (.invokevirtual 40, 3) := dk_182 0 40 (dk_at dksL_law_9 18 rfl rfl)
theorem dL_law_235 : decode cL_law 235 = .ok (.if_icmp .eq 5, 3) := dk_159 0 5 (dk_at dksL_law_9 21 rfl rfl)
theorem dL_law_238 : decode cL_law 238 = .ok (.iconst 0, 1) := dk_3 (dk_at dksL_law_10 0 rfl rfl)
theorem dL_law_239 : decode cL_law 239 = .ok (.ireturn, 1) := dk_172 (dk_at dksL_law_10 1 rfl rfl)
theorem dL_law_240 : decode cL_law 240 = .ok (.iinc 3 6, 3) := dk_132 3 6 (dk_at dksL_law_10 2 rfl rfl)
theorem dL_law_243 : decode cL_law 243 = .ok (.goto (-225), 3) := dk_167 255 31 (dk_at dksL_law_10 5 rfl rfl)
theorem dL_law_246 : decode cL_law 246 = .ok (.iconst 1, 1) := dk_4 (dk_at dksL_law_10 8 rfl rfl)
theorem dL_law_247 : decode cL_law 247 = .ok (.ireturn, 1) := dk_172 (dk_at dksL_law_10 9 rfl rfl)
end
section
/-! OWN BASE: one world over the four made classes; every byte array has the class dB, every int array dN; entry of a method, calls, arrays with places as naturals -/
set_option maxRecDepth 100000
abbrev vwCl : List vw_C := [(RX0, TX0, 3), (RX1, TX1, 3), (RX2, TX2, 3), (RX3, TX3, 1)]
abbrev vTy (dB dN : ClassId) : List (ClassId × FieldType) := [(dB, .byte), (dN, .int)]
/-- a contract's start: the cells ws, the classes, what else (X) -/
abbrev vPre (D : va_G) (dB dN : ClassId) (X : State → Prop) (sz : Nat) (ws : va_W) (U : State) : Prop := U.heap.size = sz ∧ va_P D vwCl ws U.heap ∧ va_K D vwCl (vTy dB dN) U ∧ va_D (fun _ => True) ws ∧ X U
abbrev vT : State → Prop := fun _ => True
abbrev xInit : MethodName := ⟨"BlockCipher", "init", "(ZLCipherParameters;)V"⟩
abbrev xProc : MethodName := ⟨"BlockCipher", "processBlock", "([BI[BI)I"⟩
/-- what the tables say beside: KeyParameter is no RC5Parameters; the engine's two methods through BlockCipher -/
def vX (U : State) : Prop := va_Nc "KeyParameter" "RC5Parameters" U ∧ va_Fw "RC532Engine" xInit yX2_init_2 U ∧ va_Fw "RC532Engine" xProc yX2_processBlock U
def vMv (X : State → Prop) : Prop := ∀ u U : State, u.vm.Alike U.vm → X u → X U
theorem vT_mv : vMv vT := fun _ _ _ _ => trivial
theorem vX_mv : vMv vX := fun _ _ h x => ⟨x.1.moved h, x.2.1.moved (by decide +kernel) h, x.2.2.moved (by decide +kernel) h⟩
/-- a contract's end -/
abbrev qV {S : Type} (D : va_G) (w1 : S → va_W) (A : Nat → Prop) : Array Value → State → Outcome → State → Prop := va_Qv (fun _ : S => True) (fun u t => va_P D vwCl (w1 u) t.heap ∧ va_D A (w1 u)) A
abbrev qI {S : Type} (D : va_G) (w1 : S → va_W) (A : Nat → Prop) : Array Value → State → Outcome → State → Prop := va_Qi (fun (_ : Int32) (_ : S) => True) (fun u t => va_P D vwCl (w1 u) t.heap ∧ va_D A (w1 u)) A
abbrev qR {S : Type} (D : va_G) (w1 : S → Nat → va_W) (A : Nat → Prop) : Array Value → State → Outcome → State → Prop := va_Qr (fun _ : S => True) (fun u a t => va_P D vwCl (w1 u a) t.heap ∧ va_D A (w1 u a)) A
/-- what stands at a method's entry -/
abbrev vAt (p : Program) (s : State) (m : MethodId) (meth : Method) (c : Code) (args : Array Value) (own nm : String) (cc : ByteArray) (maxL : Nat) (ret : Option FieldType) : Prop :=
  p.tables.exec = Jvm.exec ∧ c.code = cc ∧ meth.sig.returnType = ret ∧ meth.locks = false ∧ c.maxLocals = maxL ∧ s.vm.findClass own = some m.cls ∧ (∀ w ∈ lw_all, w.before args s = true) ∧ meth.name = nm
theorem v_met {l : Launch} {y : MethodName} {cc : ByteArray} {maxL : Nat} {ret : Option FieldType} {rm : Room} {av : List Value} {ws : va_W} {sz : Nat} {D : va_G} {dB dN : ClassId} {X : State → Prop} {mc ms : Nat} {Qc : (Nat → Prop) → Array Value → State → Outcome → State → Prop} (hy : plainName y.cls = true) (hlen : (lg_sl av).length ≤ maxL)
    (body : ∀ (p : Program) (e : Env) (s : State) (m : MethodId) (args : Array Value) (below : List Frame) (meth : Method) (c : Code) (A : Nat → Prop) (ls : Array Slot) (Q : State → Prop), vAt p s m meth c args y.cls y.name cc maxL ret → va_P D vwCl ws s.heap → va_K D vwCl (vTy dB dN) s → va_D A ws → X s → (∀ q : Nat, s.heap.size ≤ q → A q) → va_S A s.heap s.heap [] → lv_has ls maxL (lv_args 0 av) → Q = MQ below (Qc A) args s mc ms A → W p l e rm s m args below meth c s.heap [] 0 0 Q (F0 m 0 ls [])) :
    Met l y (ws_ y cc maxL ret) rm (va_Pc av (vPre D dB dN X sz ws)) (Qc (va_A ws sz)) mc ms (va_A ws sz) := by
  refine Met.ofW (cc := cc) (maxL := maxL) (ret := ret) hy rfl ?_
  intro p e s m args below meth c s₁ B hml hv
  obtain ⟨rfl, hsz, hP, hK, hD0, hX⟩ := hv
  have hts := atoms_spec (ws := ws_ y cc maxL ret) B.pre
  have hts : ∀ w ∈ lw_all, w.before _ s = true := fun w h => hts w (List.mem_cons_of_mem _ h)
  have hown : s.vm.findClass y.cls = some m.cls := findClass_of_methodNamed B.named
  subst hsz
  have hl := lv_entry av (n := maxL) hlen
  rw [lg_entry_eq]
  exact body p e s m _ below meth c (va_A ws s.heap.size) _ _ ⟨B.exec, B.bytes, B.returns, B.notSynchronized, hml, hown, hts, (name_of_methodNamed B.named B.method).1⟩ hP hK hD0.self hX (fun q h => Or.inr h) va_S.rf hl rfl
/-- a method that only reads -/
theorem v_metR {l : Launch} {y : MethodName} {cc : ByteArray} {maxL : Nat} {ret : Option FieldType} {rm : Room} {av : List Value} {ws : va_W} {sz : Nat} {D : va_G} {dB dN : ClassId} {Qc : Array Value → State → Outcome → State → Prop} (hy : plainName y.cls = true) (hlen : (lg_sl av).length ≤ maxL)
    (body : ∀ (p : Program) (e : Env) (s : State) (m : MethodId) (args : Array Value) (below : List Frame) (meth : Method) (c : Code) (ls : Array Slot) (Q : State → Prop), vAt p s m meth c args y.cls y.name cc maxL ret → va_P D vwCl ws s.heap → va_K D vwCl (vTy dB dN) s → lv_has ls maxL (lv_args 0 av) → Q = MQ below Qc args s 0 0 (fun _ => False) → W p l e rm s m args below meth c s.heap [] 0 0 Q (F0 m 0 ls [])) :
    Met l y (ws_ y cc maxL ret) rm (va_Pc av (vPre D dB dN vT sz ws)) Qc 0 0 (fun _ => False) := by
  refine Met.ofW (cc := cc) (maxL := maxL) (ret := ret) hy rfl ?_
  intro p e s m args below meth c s₁ B hml hv
  obtain ⟨rfl, hsz, hP, hK, hD0, hX⟩ := hv
  have hts := atoms_spec (ws := ws_ y cc maxL ret) B.pre
  have hts : ∀ w ∈ lw_all, w.before _ s = true := fun w h => hts w (List.mem_cons_of_mem _ h)
  have hown : s.vm.findClass y.cls = some m.cls := findClass_of_methodNamed B.named
  have hl := lv_entry av (n := maxL) hlen
  rw [lg_entry_eq]
  exact body p e s m _ below meth c _ _ ⟨B.exec, B.bytes, B.returns, B.notSynchronized, hml, hown, hts, (name_of_methodNamed B.named B.method).1⟩ hP hK hl rfl
theorem v_blind {av : List Value} {D : va_G} {dB dN : ClassId} {X : State → Prop} {sz : Nat} {ws : va_W} (hX : vMv X) : FrameBlind (va_Pc av (vPre D dB dN X sz ws)) := by
  intro a U g mk q
  obtain ⟨q0, q1, qP, qK, qD, qX⟩ := q
  exact ⟨q0, q1, qP, va_K.moved (u := U) (U := U.calling g mk a) (Vm.Alike.refl U.vm) qK, qD, hX U (U.calling g mk a) (Vm.Alike.refl U.vm) qX⟩
theorem v_preS {s : State} {H : Heap} {av : List Value} {D : va_G} {dB dN : ClassId} {X : State → Prop} {ws : va_W} {A : Nat → Prop} (hX : vMv X) (hx : X s) (hP : va_P D vwCl ws H) (hD : va_D A ws) (hK : va_K D vwCl (vTy dB dN) s) : PreS s H (va_Pc av (vPre D dB dN X H.size ws)) av :=
  ⟨v_blind hX, fun U hU hW => ⟨rfl, by rw [hU], by rw [hU]; exact hP, va_K.moved hW.alike hK, hD.weaken (fun _ _ _ _ => trivial), hX s U hW.alike hx⟩⟩
theorem v_preV {s : State} {H : Heap} {As : List Value} {D : va_G} {dB dN : ClassId} {X : State → Prop} {w0 ws : va_W} {A : Nat → Prop} {b q0 ci : Nat} {q : vw_C} {fs : List Value} (hX : vMv X) (hx : X s) (hP0 : va_P D vwCl w0 H) (hc : vwCl[ci]? = some q) (he : w0[q0]? = some (b, .inr (ci, fs))) (hP : va_P D vwCl ws H) (hD : va_D A ws) (hK : va_K D vwCl (vTy dB dN) s) : PreV s H q.1 b (va_Pc (.ref b :: As) (vPre D dB dN X H.size ws)) As :=
  ⟨v_blind hX, va_recv hK hP0 hc he, (v_preS hX hx hP hD hK).2⟩
/-! places as naturals -/
theorem v_add {x y : Int32} {a b : Nat} (hx : x = nI a) (hy : y = nI b) : x + y = nI (a + b) := by rw [hx, hy]; exact nI_add a b
theorem v_mul {x y : Int32} {a b : Nat} (hx : x = nI a) (hy : y = nI b) : x * y = nI (a * b) := by rw [hx, hy]; exact pk_mul a b
theorem v_sub {x y : Int32} {a b : Nat} (hx : x = nI a) (hy : y = nI b) (h : b ≤ a) : x - y = nI (a - b) := by rw [hx, hy]; exact pk_sub h
theorem v_div {x y : Int32} {a b : Nat} (hx : x = nI a) (hy : y = nI b) (ha : a < 2 ^ 31) (h0 : 0 < b) (hb : b < 2 ^ 31) : x / y = nI (a / b) := by rw [hx, hy]; exact pk_div ha h0 hb
theorem v_rem {x y : Int32} {a b : Nat} (hx : x = nI a) (hy : y = nI b) (ha : a < 2 ^ 31) (h0 : 0 < b) (hb : b < 2 ^ 31) : x - x / y * y = nI (a % b) := by rw [hx, hy]; exact pk_rem ha h0 hb
theorem v_le {x y : Int32} {a b : Nat} (hx : x = nI a) (hy : y = nI b) (ha : a < 2 ^ 31) (hb : b < 2 ^ 31) : x ≤ y ↔ a ≤ b := by rw [hx, hy]; exact nI_leI ha hb
theorem v_lt {x y : Int32} {a b : Nat} (hx : x = nI a) (hy : y = nI b) (ha : a < 2 ^ 31) (hb : b < 2 ^ 31) : x < y ↔ a < b := by rw [hx, hy]; exact nI_ltI ha hb
theorem v_eq {x y : Int32} {a b : Nat} (hx : x = nI a) (hy : y = nI b) (ha : a < 2 ^ 31) (hb : b < 2 ^ 31) : x = y ↔ a = b := by rw [hx, hy]; exact nI_eq ha hb
section VB
variable {p : Program} {l : Launch} {e : Env} {R : Room} {s : State} {m : MethodId} {args : Array Value} {below : List Frame} {meth : Method} {c : Code} {H : Heap} {locs : List Loc} {cells slots : Nat} {Q : State → Prop}
variable {pc : Nat} {ls : Array Slot} {rest st0 : List Value} {a : Array Value} {A : Nat → Prop} {mc ms : Nat} {D : va_G}
theorem v_callv {S : Type} {post : S → Prop} {w1 : S → va_W} {ws wc wr : va_W} (hr : va_Run p l e R s m args below meth c H locs cells slots mc ms (F0 m pc ls st0) rest (va_Qv post (fun u t => va_P D vwCl (w1 u) t.heap ∧ va_D (va_A wc H.size) (w1 u)) (va_A wc H.size) a) (va_A wc H.size)) (hP : va_P D vwCl ws H) (hD : va_D A ws) (hS : va_S A s.heap H locs) (hA : ∀ q : Nat, s.heap.size ≤ q → A q) (isC isR : List Nat) (hC : isC.map (fun i => ws[i]?) = wc.map some) (hR : isR.map (fun i => ws[i]?) = wr.map some) (hn : va_nd isR = true) (hdis : ∀ i ∈ isR, i ∉ isC)
    (kk : ∀ (u : S) (H1 : Heap) (locs1 : List Loc), post u → va_P D vwCl (wr ++ w1 u) H1 → va_D A (wr ++ w1 u) → va_S A s.heap H1 locs1 → W p l e R s m args below meth c H1 locs1 (cells + mc) (slots + ms) Q (F0 m (pc + 3) ls rest)) : W p l e R s m args below meth c H locs cells slots Q (F0 m pc ls st0) := by
  have hF := va_free hD hS hA isC hC
  refine va_callv hr hS (fun q _ h => hF q h) hF (fun u t H1 locs1 ht hvm hp hB hz hk hS1 => ?_)
  obtain ⟨hB1, hB2⟩ := hB
  rw [ht] at hB1
  obtain ⟨h1, h2⟩ := va_join hP hD isC isR hC hR hn hdis hk hF hB1 hB2
  exact kk u H1 locs1 hp h1 h2 hS1
theorem v_calli {S : Type} {post : Int32 → S → Prop} {w1 : S → va_W} {ws wc wr : va_W} (hr : va_Run p l e R s m args below meth c H locs cells slots mc ms (F0 m pc ls st0) rest (va_Qi post (fun u t => va_P D vwCl (w1 u) t.heap ∧ va_D (va_A wc H.size) (w1 u)) (va_A wc H.size) a) (va_A wc H.size)) (hP : va_P D vwCl ws H) (hD : va_D A ws) (hS : va_S A s.heap H locs) (hA : ∀ q : Nat, s.heap.size ≤ q → A q) (isC isR : List Nat) (hC : isC.map (fun i => ws[i]?) = wc.map some) (hR : isR.map (fun i => ws[i]?) = wr.map some) (hn : va_nd isR = true) (hdis : ∀ i ∈ isR, i ∉ isC)
    (kk : ∀ (r : Int32) (u : S) (H1 : Heap) (locs1 : List Loc), post r u → va_P D vwCl (wr ++ w1 u) H1 → va_D A (wr ++ w1 u) → va_S A s.heap H1 locs1 → W p l e R s m args below meth c H1 locs1 (cells + mc) (slots + ms) Q (F0 m (pc + 3) ls (.int r :: rest))) : W p l e R s m args below meth c H locs cells slots Q (F0 m pc ls st0) := by
  have hF := va_free hD hS hA isC hC
  refine va_calli hr hS (fun q _ h => hF q h) hF (fun r u t H1 locs1 ht hvm hp hB hz hk hS1 => ?_)
  obtain ⟨hB1, hB2⟩ := hB
  rw [ht] at hB1
  obtain ⟨h1, h2⟩ := va_join hP hD isC isR hC hR hn hdis hk hF hB1 hB2
  exact kk r u H1 locs1 hp h1 h2 hS1
theorem v_callr {S : Type} {post : S → Prop} {w1 : S → Nat → va_W} {ws wc wr : va_W} (hr : va_Run p l e R s m args below meth c H locs cells slots mc ms (F0 m pc ls st0) rest (va_Qr post (fun u x t => va_P D vwCl (w1 u x) t.heap ∧ va_D (va_A wc H.size) (w1 u x)) (va_A wc H.size) a) (va_A wc H.size)) (hP : va_P D vwCl ws H) (hD : va_D A ws) (hS : va_S A s.heap H locs) (hA : ∀ q : Nat, s.heap.size ≤ q → A q) (isC isR : List Nat) (hC : isC.map (fun i => ws[i]?) = wc.map some) (hR : isR.map (fun i => ws[i]?) = wr.map some) (hn : va_nd isR = true) (hdis : ∀ i ∈ isR, i ∉ isC)
    (kk : ∀ (u : S) (x : Nat) (H1 : Heap) (locs1 : List Loc), post u → va_P D vwCl (wr ++ w1 u x) H1 → va_D A (wr ++ w1 u x) → va_S A s.heap H1 locs1 → W p l e R s m args below meth c H1 locs1 (cells + mc) (slots + ms) Q (F0 m (pc + 3) ls (.ref x :: rest))) : W p l e R s m args below meth c H locs cells slots Q (F0 m pc ls st0) := by
  have hF := va_free hD hS hA isC hC
  refine va_callr hr hS (fun q _ h => hF q h) hF (fun u x t H1 locs1 ht hvm hp hB hz hk hS1 => ?_)
  obtain ⟨hB1, hB2⟩ := hB
  rw [ht] at hB1
  obtain ⟨h1, h2⟩ := va_join hP hD isC isR hC hR hn hdis hk hF hB1 hB2
  exact kk u x H1 locs1 hp h1 h2 hS1
theorem v_callFv {S : Type} {post : S → Prop} {w1 : S → va_W} {ws wc wr : va_W} (hr : va_Run5 p l e R s m args below meth c H locs cells slots mc ms (F0 m pc ls st0) rest (va_Qv post (fun u t => va_P D vwCl (w1 u) t.heap ∧ va_D (va_A wc H.size) (w1 u)) (va_A wc H.size) a) (va_A wc H.size)) (hP : va_P D vwCl ws H) (hD : va_D A ws) (hS : va_S A s.heap H locs) (hA : ∀ q : Nat, s.heap.size ≤ q → A q) (isC isR : List Nat) (hC : isC.map (fun i => ws[i]?) = wc.map some) (hR : isR.map (fun i => ws[i]?) = wr.map some) (hn : va_nd isR = true) (hdis : ∀ i ∈ isR, i ∉ isC)
    (kk : ∀ (u : S) (H1 : Heap) (locs1 : List Loc), post u → va_P D vwCl (wr ++ w1 u) H1 → va_D A (wr ++ w1 u) → va_S A s.heap H1 locs1 → W p l e R s m args below meth c H1 locs1 (cells + mc) (slots + ms) Q (F0 m (pc + 5) ls rest)) : W p l e R s m args below meth c H locs cells slots Q (F0 m pc ls st0) := by
  have hF := va_free hD hS hA isC hC
  refine va_callFv hr hS (fun q _ h => hF q h) hF (fun u t H1 locs1 ht hvm hp hB hz hk hS1 => ?_)
  obtain ⟨hB1, hB2⟩ := hB
  rw [ht] at hB1
  obtain ⟨h1, h2⟩ := va_join hP hD isC isR hC hR hn hdis hk hF hB1 hB2
  exact kk u H1 locs1 hp h1 h2 hS1
theorem v_callFi {S : Type} {post : Int32 → S → Prop} {w1 : S → va_W} {ws wc wr : va_W} (hr : va_Run5 p l e R s m args below meth c H locs cells slots mc ms (F0 m pc ls st0) rest (va_Qi post (fun u t => va_P D vwCl (w1 u) t.heap ∧ va_D (va_A wc H.size) (w1 u)) (va_A wc H.size) a) (va_A wc H.size)) (hP : va_P D vwCl ws H) (hD : va_D A ws) (hS : va_S A s.heap H locs) (hA : ∀ q : Nat, s.heap.size ≤ q → A q) (isC isR : List Nat) (hC : isC.map (fun i => ws[i]?) = wc.map some) (hR : isR.map (fun i => ws[i]?) = wr.map some) (hn : va_nd isR = true) (hdis : ∀ i ∈ isR, i ∉ isC)
    (kk : ∀ (r : Int32) (u : S) (H1 : Heap) (locs1 : List Loc), post r u → va_P D vwCl (wr ++ w1 u) H1 → va_D A (wr ++ w1 u) → va_S A s.heap H1 locs1 → W p l e R s m args below meth c H1 locs1 (cells + mc) (slots + ms) Q (F0 m (pc + 5) ls (.int r :: rest))) : W p l e R s m args below meth c H locs cells slots Q (F0 m pc ls st0) := by
  have hF := va_free hD hS hA isC hC
  refine va_callFi hr hS (fun q _ h => hF q h) hF (fun r u t H1 locs1 ht hvm hp hB hz hk hS1 => ?_)
  obtain ⟨hB1, hB2⟩ := hB
  rw [ht] at hB1
  obtain ⟨h1, h2⟩ := va_join hP hD isC isR hC hR hn hdis hk hF hB1 hB2
  exact kk r u H1 locs1 hp h1 h2 hS1
end VB
section VA
variable {p : Program} {l : Launch} {e : Env} {R : Room} {s : State} {m : MethodId} {args : Array Value} {below : List Frame} {meth : Method} {c : Code} {H : Heap} {locs : List Loc} {cells slots : Nat} {Q : State → Prop}
variable {cc : ByteArray} {pc : Nat} {ls : Array Slot} {rest : List Value} {D : va_G} {cl : List vw_C} {A : Nat → Prop} {a : Nat} {tys : List (ClassId × FieldType)} {ws : va_W} {H0 : Heap}
theorem v_iald (hexec : p.tables.exec = Jvm.exec) (hb : c.code = cc) (hK : va_K D cl tys s) (hP : va_P D cl ws H) (q0 t0 : Nat) {cA : ClassId} {n : Nat} {f : Nat → Int32} (ha : ws[q0]? = some (a, .inl (cA, n, .inl f))) (ht : tys[t0]? = some (cA, .int)) {i : Int32} {k : Nat} (hi : i = nI k) (hk : k < n) (hn : n < 2 ^ 31) (hdg : decode cc pc = .ok (.iaload, 1))
    (kk : W p l e R s m args below meth c H locs cells slots Q (F0 m (pc + 1) ls (.int (f k) :: rest))) : W p l e R s m args below meth c H locs cells slots Q (F0 m pc ls (.int i :: .ref a :: rest)) := by
  subst hi
  refine va_iald hexec hb hK hP q0 t0 ha ht (vp_in_nI hk hn) hdg ?_
  rw [nI_clamp (Nat.lt_trans hk hn)]
  exact kk
theorem v_bald (hexec : p.tables.exec = Jvm.exec) (hb : c.code = cc) (hK : va_K D cl tys s) (hP : va_P D cl ws H) (q0 t0 : Nat) {cA : ClassId} {n : Nat} {f : Nat → Int32} (ha : ws[q0]? = some (a, .inl (cA, n, .inl f))) (ht : tys[t0]? = some (cA, .byte)) {i : Int32} {k : Nat} (hi : i = nI k) (hk : k < n) (hn : n < 2 ^ 31) (hdg : decode cc pc = .ok (.baload, 1))
    (kk : W p l e R s m args below meth c H locs cells slots Q (F0 m (pc + 1) ls (.int (f k) :: rest))) : W p l e R s m args below meth c H locs cells slots Q (F0 m pc ls (.int i :: .ref a :: rest)) := by
  subst hi
  refine va_bald hexec hb hK hP q0 t0 ha ht (vp_in_nI hk hn) hdg ?_
  rw [nI_clamp (Nat.lt_trans hk hn)]
  exact kk
theorem v_iast (hexec : p.tables.exec = Jvm.exec) (hb : c.code = cc) (hK : va_K D cl tys s) (hP : va_P D cl ws H) (hD : va_D A ws) (hS : va_S A H0 H locs) (q0 t0 : Nat) {cA : ClassId} {n : Nat} {f : Nat → Int32} (ha : ws[q0]? = some (a, .inl (cA, n, .inl f))) (ht : tys[t0]? = some (cA, .int)) {i x : Int32} {k : Nat} (hi : i = nI k) (hk : k < n) (hn : n < 2 ^ 31) (hdg : decode cc pc = .ok (.iastore, 1))
    (kk : ∀ (H1 : Heap) (locs1 : List Loc), va_P D cl (ws.set q0 (a, .inl (cA, n, .inl (upd f k x)))) H1 → va_D A (ws.set q0 (a, .inl (cA, n, .inl (upd f k x)))) → va_S A H0 H1 locs1 → W p l e R s m args below meth c H1 locs1 cells slots Q (F0 m (pc + 1) ls rest)) : W p l e R s m args below meth c H locs cells slots Q (F0 m pc ls (.int x :: .int i :: .ref a :: rest)) := by
  subst hi
  refine va_iast hexec hb hK hP hD hS q0 t0 ha ht (vp_in_nI hk hn) hdg ?_
  rw [nI_clamp (Nat.lt_trans hk hn)]
  exact kk
theorem v_bast (hexec : p.tables.exec = Jvm.exec) (hb : c.code = cc) (hK : va_K D cl tys s) (hP : va_P D cl ws H) (hD : va_D A ws) (hS : va_S A H0 H locs) (q0 t0 : Nat) {cA : ClassId} {n : Nat} {f : Nat → Int32} (ha : ws[q0]? = some (a, .inl (cA, n, .inl f))) (ht : tys[t0]? = some (cA, .byte)) {i x : Int32} {k : Nat} (hi : i = nI k) (hk : k < n) (hn : n < 2 ^ 31) {v : Int32} (hv : vp_nar .byte x = v) (hdg : decode cc pc = .ok (.bastore, 1))
    (kk : ∀ (H1 : Heap) (locs1 : List Loc), va_P D cl (ws.set q0 (a, .inl (cA, n, .inl (upd f k v)))) H1 → va_D A (ws.set q0 (a, .inl (cA, n, .inl (upd f k v)))) → va_S A H0 H1 locs1 → W p l e R s m args below meth c H1 locs1 cells slots Q (F0 m (pc + 1) ls rest)) : W p l e R s m args below meth c H locs cells slots Q (F0 m pc ls (.int x :: .int i :: .ref a :: rest)) := by
  subst hi
  subst hv
  refine va_bast hexec hb hK hP hD hS q0 t0 ha ht (vp_in_nI hk hn) hdg ?_
  rw [nI_clamp (Nat.lt_trans hk hn)]
  exact kk
/-- a new array has its type's one class -/
theorem v_newa (hexec : p.tables.exec = Jvm.exec) (hb : c.code = cc) {atype : ArrayType} (harr : (Cond.arrayClass (newarray.typeOf atype)).before args s = true) {ty : FieldType} (hty : newarray.typeOf atype = ty) (t0 : Nat) {dA : ClassId} (ht : tys[t0]? = some (dA, ty)) (hfl : ∀ cA : ClassId, va_RA s cA ty = (s.vm.findClass ("[" ++ ty.toString) = some cA)) (hK : va_K D cl tys s) (hP : va_P D cl ws H) (hD : va_D A ws) (hS : va_S A H0 H locs) (hA : ∀ q, H0.size ≤ q → A q)
    {n : Int32} {N' : Nat} {a0 : vp_A} (ha : ∀ cA : ClassId, vp_cell cA a0 = arrV cA N' (fun _ => defaultValue ty)) (hi : n = nI N') (hN : N' < 2 ^ 31) (hbytes : N' * componentBytes ty ≤ 536870912) (hcells : cells + 1 ≤ R.cells) (hslots : slots + N' ≤ R.slots) (hdg : decode cc pc = .ok (.newarray atype, 2))
    (kk : ∀ (q : Nat) (H1 : Heap), va_P D cl (ws ++ [(q, .inl (dA, a0))]) H1 → va_D A (ws ++ [(q, .inl (dA, a0))]) → va_S A H0 H1 locs →
      W p l e R s m args below meth c H1 locs (cells + 1) (slots + N') Q (F0 m (pc + 2) ls (.ref q :: rest))) : W p l e R s m args below meth c H locs cells slots Q (F0 m pc ls (.int n :: rest)) := by
  subst hi
  refine va_newa hexec hb harr hty hK hP hD hS hA ha (nI_pos hN) (nI_clamp hN) hbytes hcells hslots hdg (fun q cA H1 hK1 hP1 hD1 hS1 => ?_)
  have h1 := (hK.2 t0 _ ht).2
  have h2 := (hK1.2 tys.length (cA, ty) (by simp)).2
  rw [hfl] at h1 h2
  have h3 : cA = dA := Option.some.inj (h2.symm.trans h1)
  subst h3
  exact kk q H1 hP1 hD1 hS1
end VA
theorem v_cell0 (N : Nat) (ty : FieldType) (h : defaultValue ty = .int 0) (cA : ClassId) : vp_cell cA (N, .inl (fun _ => 0)) = arrV cA N (fun _ => defaultValue ty) := by
  rw [h]
  rfl
end
section
/-! bits: pasted from the kit (BITS.to-paste), then own pure definitions and laws of RC5 (no program in sight) -/
/-! ===== Int32 by its bits: bt x i ===== -/
def bt (x : Int32) (i : Nat) : Bool := x.toBitVec.getLsbD i
theorem b_ext {x y : Int32} (h : ∀ i, i < 32 → bt x i = bt y i) : x = y := Int32.toBitVec_inj.mp (BitVec.eq_of_getLsbD_eq (fun i hi => h i hi))
theorem b_or (x y : Int32) (i : Nat) : bt (x ||| y) i = (bt x i || bt y i) := by unfold bt; rw [Int32.toBitVec_or, BitVec.getLsbD_or]
theorem b_and (x y : Int32) (i : Nat) : bt (x &&& y) i = (bt x i && bt y i) := by unfold bt; rw [Int32.toBitVec_and, BitVec.getLsbD_and]
theorem b_xor (x y : Int32) (i : Nat) : bt (x ^^^ y) i = (bt x i ^^ bt y i) := by unfold bt; rw [Int32.toBitVec_xor, BitVec.getLsbD_xor]
theorem b_big {x : Int32} {i : Nat} (h : 32 ≤ i) : bt x i = false := BitVec.getLsbD_of_ge _ _ h
theorem b_255 (i : Nat) : bt 255 i = decide (i < 8) := by
  rcases Nat.lt_or_ge i 32 with h | h
  · exact (by decide +kernel : ∀ i, i < 32 → bt 255 i = decide (i < 8)) i h
  · rw [b_big h, decide_eq_false (by omega)]
theorem b_65535 (i : Nat) : bt 65535 i = decide (i < 16) := by
  rcases Nat.lt_or_ge i 32 with h | h
  · exact (by decide +kernel : ∀ i, i < 32 → bt 65535 i = decide (i < 16)) i h
  · rw [b_big h, decide_eq_false (by omega)]
theorem b_m1 : ∀ i, i < 32 → bt (-1) i = true := by decide +kernel
theorem b_0 (i : Nat) : bt 0 i = false := BitVec.getLsbD_zero
theorem s_l : ∀ n, n < 32 → ((nI n &&& 31).toBitVec.smod 32).toNat = n := by decide +kernel
theorem s_u : ∀ n, n < 32 → (((nI n).toUInt32 &&& Int32.toUInt32 31).toBitVec % 32).toNat = n := by decide +kernel
theorem b_shl (n : Nat) (hn : n < 32) (x : Int32) {i : Nat} (hi : i < 32) : bt (x <<< (nI n &&& 31)) i = (decide (n ≤ i) && bt x (i - n)) := by
  unfold bt
  rw [Int32.toBitVec_shiftLeft]
  show (x.toBitVec <<< ((nI n &&& 31).toBitVec.smod 32).toNat).getLsbD i = _
  rw [s_l n hn, BitVec.getLsbD_shiftLeft]
  rcases Nat.lt_or_ge i n with h | h
  · simp [h, Nat.not_le.mpr h]
  · simp [hi, h, Nat.not_lt.mpr h]
theorem b_ushr (n : Nat) (hn : n < 32) (x : Int32) (i : Nat) : bt ((x.toUInt32 >>> ((nI n).toUInt32 &&& Int32.toUInt32 31)).toInt32) i = bt x (n + i) := by
  show (x.toUInt32 >>> ((nI n).toUInt32 &&& Int32.toUInt32 31)).toBitVec.getLsbD i = x.toUInt32.toBitVec.getLsbD (n + i)
  rw [UInt32.toBitVec_shiftRight]
  show (x.toUInt32.toBitVec >>> (((nI n).toUInt32 &&& Int32.toUInt32 31).toBitVec % 32).toNat).getLsbD i = _
  rw [s_u n hn, BitVec.getLsbD_ushiftRight]
theorem b_sshr (n : Nat) (hn : n < 32) (x : Int32) {i : Nat} (hi : i < 32) : bt (x >>> (nI n &&& 31)) i = if n + i < 32 then bt x (n + i) else bt x 31 := by
  unfold bt
  rw [Int32.toBitVec_shiftRight]
  show (x.toBitVec.sshiftRight ((nI n &&& 31).toBitVec.smod 32).toNat).getLsbD i = _
  rw [s_l n hn, BitVec.getLsbD_sshiftRight, BitVec.msb_eq_getLsbD_last]
  simp [hi]
theorem b_shl8 (x : Int32) {i : Nat} (hi : i < 32) : bt (x <<< ((8 : Int32) &&& 31)) i = (decide (8 ≤ i) && bt x (i - 8)) := b_shl 8 (by omega) x hi
theorem b_shl16 (x : Int32) {i : Nat} (hi : i < 32) : bt (x <<< ((16 : Int32) &&& 31)) i = (decide (16 ≤ i) && bt x (i - 16)) := b_shl 16 (by omega) x hi
theorem b_shl24 (x : Int32) {i : Nat} (hi : i < 32) : bt (x <<< ((24 : Int32) &&& 31)) i = (decide (24 ≤ i) && bt x (i - 24)) := b_shl 24 (by omega) x hi
theorem b_sshr8 (x : Int32) {i : Nat} (hi : i < 32) : bt (x >>> ((8 : Int32) &&& 31)) i = if 8 + i < 32 then bt x (8 + i) else bt x 31 := b_sshr 8 (by omega) x hi
/-! ===== a byte read unsigned ===== -/
theorem bp_b (x : Int32) : x.toInt8.toInt32 &&& 255 = x &&& 255 := by
  apply Int32.toBitVec_inj.mp
  rw [Int32.toBitVec_and, Int32.toBitVec_and, Int8.toBitVec_toInt32, Int32.toBitVec_toInt8]
  apply BitVec.eq_of_getLsbD_eq
  intro i hi
  rw [BitVec.getLsbD_and, BitVec.getLsbD_and]
  have hm : ∀ i < 32, 8 ≤ i → (255 : Int32).toBitVec.getLsbD i = false := by decide
  rcases Nat.lt_or_ge i 8 with z | z
  · rw [BitVec.getLsbD_signExtend, BitVec.getLsbD_signExtend, if_pos z, if_pos hi]
    simp only [z, hi, decide_true, Bool.true_and]
  · rw [hm i hi z]; simp
/-! ===== own: rotations ===== -/
def rc_rl (x y : Int32) : Int32 := (x <<< ((y &&& 31) &&& 31)) ||| (x.toUInt32 >>> ((32 - (y &&& 31)).toUInt32 &&& Int32.toUInt32 31)).toInt32
def rc_rr (x y : Int32) : Int32 := (x.toUInt32 >>> ((y &&& 31).toUInt32 &&& Int32.toUInt32 31)).toInt32 ||| (x <<< ((32 - (y &&& 31)) &&& 31))
theorem rc_rl0 (x y : Int32) (h : y &&& 31 = 0) : rc_rl x y = x := by
  unfold rc_rl
  rw [h]
  have e2 : ((32 : Int32) - 0).toUInt32 &&& Int32.toUInt32 31 = (nI 0).toUInt32 &&& Int32.toUInt32 31 := by decide
  rw [e2]
  apply b_ext
  intro i hi
  have e1 : bt (x <<< ((0 : Int32) &&& 31)) i = (decide (0 ≤ i) && bt x (i - 0)) := b_shl 0 (by omega) x hi
  rw [b_or, e1, b_ushr 0 (by omega) x i]
  simp
theorem rc_neg (y : Int32) : ∃ n : Nat, n < 32 ∧ y &&& 31 = nI n ∧ (-y) &&& 31 = nI ((32 - n) % 32) := by
  have h1 := pk_and y (m := 31) 5 rfl
  have h2 := pk_and (-y) (m := 31) 5 rfl
  refine ⟨y.toBitVec.toNat % 32, Nat.mod_lt _ (by omega), h1, ?_⟩
  rw [h2, Int32.toBitVec_neg, BitVec.toNat_neg]
  have := y.toBitVec.isLt
  congr 1
  omega
theorem rc_sh1 : ∀ n, n < 32 → nI ((32 - n) % 32) &&& 31 = (32 - nI n) &&& 31 := by decide +kernel
theorem rc_sh2 : ∀ n, n < 32 → (32 - nI ((32 - n) % 32)).toUInt32 &&& Int32.toUInt32 31 = (nI n).toUInt32 &&& Int32.toUInt32 31 := by decide +kernel
theorem rc_or_comm (x y : Int32) : x ||| y = y ||| x := by
  apply b_ext
  intro i _
  rw [b_or, b_or, Bool.or_comm]
theorem rc_rlneg (x y : Int32) : rc_rl x (-y) = rc_rr x y := by
  obtain ⟨n, hn, h1, h2⟩ := rc_neg y
  unfold rc_rl rc_rr
  rw [h1, h2, rc_sh1 n hn, rc_sh2 n hn, rc_or_comm]
/-! ===== own: bytes ===== -/
def rc_rel (n : Nat) (f g : Nat → Int32) : Prop := ∀ j, j < n → g j = f j &&& 255
theorem rc_by (n : Nat) (hn : n ≤ 24) (w : Int32) : (w.toUInt32 >>> ((nI n).toUInt32 &&& Int32.toUInt32 31)).toInt32 &&& 255 = (w >>> (nI n &&& 31)).toInt8.toInt32 &&& 255 := by
  rw [bp_b]
  apply b_ext
  intro i hi
  rw [b_and, b_and, b_255, b_ushr n (by omega), b_sshr n (by omega) w hi]
  by_cases h : i < 8
  · rw [if_pos (by omega)]
  · simp [h]
theorem rc_by0 (w : Int32) : (w.toUInt32 >>> ((nI 0).toUInt32 &&& Int32.toUInt32 31)).toInt32 &&& 255 = w.toInt8.toInt32 &&& 255 := by
  rw [rc_by 0 (by omega), bp_b, bp_b]
  congr 1
  exact sb_shr0 w
def rc_wD (f : Nat → Int32) (p : Nat) (w : Int32) : Nat → Int32 := upd (upd (upd (upd f p (w >>> ((24 : Int32) &&& 31)).toInt8.toInt32) (p + 1) (w >>> ((16 : Int32) &&& 31)).toInt8.toInt32) (p + 2) (w >>> ((8 : Int32) &&& 31)).toInt8.toInt32) (p + 3) w.toInt8.toInt32
def rc_wE (f : Nat → Int32) (p : Nat) (w : Int32) : Nat → Int32 := upd (upd (upd (upd f p w.toInt8.toInt32) (p + 1) (w >>> ((8 : Int32) &&& 31)).toInt8.toInt32) (p + 2) (w >>> ((16 : Int32) &&& 31)).toInt8.toInt32) (p + 3) (w >>> ((24 : Int32) &&& 31)).toInt8.toInt32
def rc_bM (w : Int32) (n : Nat) : Int32 := (w.toUInt32 >>> ((24 - 8 * nI n).toUInt32 &&& Int32.toUInt32 31)).toInt32 &&& 255
def rc_wM (f : Nat → Int32) (p : Nat) (w : Int32) : Nat → Nat → Int32
  | 0 => f
  | n + 1 => upd (rc_wM f p w n) (p + n) (rc_bM w n)
def rc_bO (w : Int32) (n : Nat) : Int32 := (w.toUInt32 >>> ((8 * nI n).toUInt32 &&& Int32.toUInt32 31)).toInt32 &&& 255
def rc_oM (f : Nat → Int32) (a b : Int32) : Nat → Nat → Int32
  | 0 => f
  | n + 1 => upd (upd (rc_oM f a b n) n (rc_bO a n)) (4 + n) (rc_bO b n)
theorem rc_bM0 (w : Int32) : rc_bM w 0 = (w >>> ((24 : Int32) &&& 31)).toInt8.toInt32 &&& 255 := by
  unfold rc_bM
  rw [show (24 - 8 * nI 0 : Int32) = nI 24 by decide]
  exact rc_by 24 (by omega) w
theorem rc_bM1 (w : Int32) : rc_bM w 1 = (w >>> ((16 : Int32) &&& 31)).toInt8.toInt32 &&& 255 := by
  unfold rc_bM
  rw [show (24 - 8 * nI 1 : Int32) = nI 16 by decide]
  exact rc_by 16 (by omega) w
theorem rc_bM2 (w : Int32) : rc_bM w 2 = (w >>> ((8 : Int32) &&& 31)).toInt8.toInt32 &&& 255 := by
  unfold rc_bM
  rw [show (24 - 8 * nI 2 : Int32) = nI 8 by decide]
  exact rc_by 8 (by omega) w
theorem rc_bM3 (w : Int32) : rc_bM w 3 = w.toInt8.toInt32 &&& 255 := by
  unfold rc_bM
  rw [show (24 - 8 * nI 3 : Int32) = nI 0 by decide]
  exact rc_by0 w
theorem rc_bO0 (w : Int32) : rc_bO w 0 = w.toInt8.toInt32 &&& 255 := by
  unfold rc_bO
  rw [show (8 * nI 0 : Int32) = nI 0 by decide]
  exact rc_by0 w
theorem rc_bO1 (w : Int32) : rc_bO w 1 = (w >>> ((8 : Int32) &&& 31)).toInt8.toInt32 &&& 255 := by
  unfold rc_bO
  rw [show (8 * nI 1 : Int32) = nI 8 by decide]
  exact rc_by 8 (by omega) w
theorem rc_bO2 (w : Int32) : rc_bO w 2 = (w >>> ((16 : Int32) &&& 31)).toInt8.toInt32 &&& 255 := by
  unfold rc_bO
  rw [show (8 * nI 2 : Int32) = nI 16 by decide]
  exact rc_by 16 (by omega) w
theorem rc_bO3 (w : Int32) : rc_bO w 3 = (w >>> ((24 : Int32) &&& 31)).toInt8.toInt32 &&& 255 := by
  unfold rc_bO
  rw [show (8 * nI 3 : Int32) = nI 24 by decide]
  exact rc_by 24 (by omega) w
theorem rc_updR {n : Nat} {f g : Nat → Int32} (h : rc_rel n f g) (k : Nat) {x y : Int32} (e : y = x &&& 255) : rc_rel n (upd f k x) (upd g k y) := by
  intro j hj
  unfold upd
  by_cases q : j = k
  · rw [if_pos q, if_pos q]; exact e
  · rw [if_neg q, if_neg q]; exact h j hj
theorem rc_relW {n : Nat} {f g : Nat → Int32} (h : rc_rel n f g) (p : Nat) (w : Int32) : rc_rel n (rc_wD f p w) (rc_wM g p w 4) :=
  rc_updR (rc_updR (rc_updR (rc_updR h p (rc_bM0 w)) (p + 1) (rc_bM1 w)) (p + 2) (rc_bM2 w)) (p + 3) (rc_bM3 w)
theorem rc_relO (f g : Nat → Int32) (a b : Int32) : rc_rel 8 (rc_wE (rc_wE f 0 a) 4 b) (rc_oM g a b 4) := by
  intro j hj
  have : j = 0 ∨ j = 1 ∨ j = 2 ∨ j = 3 ∨ j = 4 ∨ j = 5 ∨ j = 6 ∨ j = 7 := by omega
  rcases this with rfl | rfl | rfl | rfl | rfl | rfl | rfl | rfl
  · simpa [rc_oM, rc_wE, upd] using rc_bO0 a
  · simpa [rc_oM, rc_wE, upd] using rc_bO1 a
  · simpa [rc_oM, rc_wE, upd] using rc_bO2 a
  · simpa [rc_oM, rc_wE, upd] using rc_bO3 a
  · simpa [rc_oM, rc_wE, upd] using rc_bO0 b
  · simpa [rc_oM, rc_wE, upd] using rc_bO1 b
  · simpa [rc_oM, rc_wE, upd] using rc_bO2 b
  · simpa [rc_oM, rc_wE, upd] using rc_bO3 b
def rc_cD (f o : Nat → Int32) : Nat → Nat → Int32
  | 0 => f
  | n + 1 => upd (rc_cD f o n) n (o n).toInt8.toInt32
def rc_cM (f o : Nat → Int32) : Nat → Nat → Int32
  | 0 => f
  | n + 1 => upd (rc_cM f o n) n (o n)
theorem rc_cD_at (f o : Nat → Int32) : ∀ (n j : Nat), j < n → rc_cD f o n j = (o j).toInt8.toInt32
  | 0, j, h => absurd h (Nat.not_lt_zero j)
  | n + 1, j, h => by
    show upd (rc_cD f o n) n (o n).toInt8.toInt32 j = _
    unfold upd
    by_cases q : j = n
    · rw [if_pos q, q]
    · rw [if_neg q]; exact rc_cD_at f o n j (by omega)
theorem rc_cM_at (f o : Nat → Int32) : ∀ (n j : Nat), j < n → rc_cM f o n j = o j
  | 0, j, h => absurd h (Nat.not_lt_zero j)
  | n + 1, j, h => by
    show upd (rc_cM f o n) n (o n) j = _
    unfold upd
    by_cases q : j = n
    · rw [if_pos q, q]
    · rw [if_neg q]; exact rc_cM_at f o n j (by omega)
theorem rc_relC {fo go : Nat → Int32} (h : rc_rel 8 fo go) (f g : Nat → Int32) : rc_rel 8 (rc_cD f fo 8) (rc_cM g go 8) := by
  intro j hj
  rw [rc_cD_at f fo 8 j hj, rc_cM_at g go 8 j hj, bp_b]
  exact h j hj
/-! ===== own: words of bytes, the key's words ===== -/
def rc_low (f : Nat → Int32) (i : Nat) : Int32 := ((f i ||| (f (i + 1) <<< ((8 : Int32) &&& 31))) ||| (f (i + 2) <<< ((16 : Int32) &&& 31))) ||| (f (i + 3) <<< ((24 : Int32) &&& 31))
theorem rc_low_congr {f g : Nat → Int32} {i : Nat} (h : ∀ j, i ≤ j → j < i + 4 → f j = g j) : rc_low f i = rc_low g i := by
  unfold rc_low
  rw [h i (by omega) (by omega), h (i + 1) (by omega) (by omega), h (i + 2) (by omega) (by omega), h (i + 3) (by omega) (by omega)]
def rc_L (k : Nat → Int32) : Nat → Nat → Int32
  | 0 => fun _ => 0
  | n + 1 => upd (rc_L k n) (n / 4) (rc_L k n (n / 4) + ((k n &&& 255) <<< ((8 * nI (n % 4)) &&& 31)))
def rc_L4 (f : Nat → Int32) : Nat → Int32 := upd (upd (upd (upd (fun _ => 0) 0 (rc_low f 0)) 1 (rc_low f 4)) 2 (rc_low f 8)) 3 (rc_low f 12)
theorem rc_addor {x y : Int32} (h : x &&& y = 0) : x + y = x ||| y := by
  apply Int32.toBitVec_inj.mp
  rw [Int32.toBitVec_add, Int32.toBitVec_or]
  apply BitVec.add_eq_or_of_and_eq_zero
  rw [← Int32.toBitVec_and, h]
  rfl
theorem rc_sum (a b c d : Int32) : ((((0 + ((a &&& 255) <<< ((8 * nI 0) &&& 31))) + ((b &&& 255) <<< ((8 * nI 1) &&& 31))) + ((c &&& 255) <<< ((8 * nI 2) &&& 31))) + ((d &&& 255) <<< ((8 * nI 3) &&& 31))) = (((a &&& 255) ||| ((b &&& 255) <<< ((8 : Int32) &&& 31))) ||| ((c &&& 255) <<< ((16 : Int32) &&& 31))) ||| ((d &&& 255) <<< ((24 : Int32) &&& 31)) := by
  rw [show (8 * nI 0 : Int32) = 0 by decide, show (8 * nI 1 : Int32) = 8 by decide, show (8 * nI 2 : Int32) = 16 by decide, show (8 * nI 3 : Int32) = 24 by decide, Int32.zero_add, sb_shl0]
  have h1 : (a &&& 255) &&& ((b &&& 255) <<< ((8 : Int32) &&& 31)) = 0 := by
    apply b_ext
    intro i hi
    rw [b_and, b_shl8 _ hi, b_and, b_and, b_255, b_255, b_0]
    by_cases q : i < 8
    · simp [q, Nat.not_le.mpr q]
    · simp [q]
  rw [rc_addor h1]
  have h2 : ((a &&& 255) ||| ((b &&& 255) <<< ((8 : Int32) &&& 31))) &&& ((c &&& 255) <<< ((16 : Int32) &&& 31)) = 0 := by
    apply b_ext
    intro i hi
    rw [b_and, b_or, b_shl8 _ hi, b_shl16 _ hi, b_and, b_and, b_and, b_255, b_255, b_255, b_0]
    by_cases q : i < 16
    · simp [Nat.not_le.mpr q]
    · have q1 : ¬ i < 8 := by omega
      have q2 : ¬ i - 8 < 8 := by omega
      simp [q1, q2]
  rw [rc_addor h2]
  have h3 : (((a &&& 255) ||| ((b &&& 255) <<< ((8 : Int32) &&& 31))) ||| ((c &&& 255) <<< ((16 : Int32) &&& 31))) &&& ((d &&& 255) <<< ((24 : Int32) &&& 31)) = 0 := by
    apply b_ext
    intro i hi
    rw [b_and, b_or, b_or, b_shl8 _ hi, b_shl16 _ hi, b_shl24 _ hi, b_and, b_and, b_and, b_and, b_255, b_255, b_255, b_255, b_0]
    by_cases q : i < 24
    · simp [Nat.not_le.mpr q]
    · have q1 : ¬ i < 8 := by omega
      have q2 : ¬ i - 8 < 8 := by omega
      have q3 : ¬ i - 16 < 8 := by omega
      simp [q1, q2, q3]
  rw [rc_addor h3]
theorem rc_uu (f : Nat → Int32) (k : Nat) (x y : Int32) : upd (upd f k x) k y = upd f k y := by
  funext j
  unfold upd
  by_cases q : j = k
  · rw [if_pos q, if_pos q]
  · rw [if_neg q, if_neg q, if_neg q]
theorem rc_Lst (k : Nat → Int32) (q : Nat) (h : rc_L k (4 * q) q = 0) : rc_L k (4 * q + 4) = upd (rc_L k (4 * q)) q (rc_low (fun j => k j &&& 255) (4 * q)) := by
  have s : ∀ r, r < 4 → rc_L k (4 * q + r + 1) = upd (rc_L k (4 * q + r)) q (rc_L k (4 * q + r) q + ((k (4 * q + r) &&& 255) <<< ((8 * nI r) &&& 31))) := by
    intro r hr
    have e1 : (4 * q + r) / 4 = q := by omega
    have e2 : (4 * q + r) % 4 = r := by omega
    show upd (rc_L k (4 * q + r)) ((4 * q + r) / 4) (rc_L k (4 * q + r) ((4 * q + r) / 4) + ((k (4 * q + r) &&& 255) <<< ((8 * nI ((4 * q + r) % 4)) &&& 31))) = _
    rw [e1, e2]
  rw [s 3 (by omega), s 2 (by omega), s 1 (by omega), s 0 (by omega), pk_us, rc_uu, pk_us, rc_uu, pk_us, rc_uu, Nat.add_zero, h, rc_sum]
  rfl
theorem rc_L16 (k : Nat → Int32) : rc_L k 16 = rc_L4 (fun j => k j &&& 255) := by
  have h0 := rc_Lst k 0 rfl
  have h1 := rc_Lst k 1 (by rw [show 4 * 1 = 4 * 0 + 4 from rfl, h0, pk_un (by omega)]; rfl)
  have h2 := rc_Lst k 2 (by rw [show 4 * 2 = 4 * 1 + 4 from rfl, h1, pk_un (by omega), show 4 * 1 = 4 * 0 + 4 from rfl, h0, pk_un (by omega)]; rfl)
  have h3 := rc_Lst k 3 (by rw [show 4 * 3 = 4 * 2 + 4 from rfl, h2, pk_un (by omega), show 4 * 2 = 4 * 1 + 4 from rfl, h1, pk_un (by omega), show 4 * 1 = 4 * 0 + 4 from rfl, h0, pk_un (by omega)]; rfl)
  rw [show 16 = 4 * 3 + 4 from rfl, h3, show 4 * 3 = 4 * 2 + 4 from rfl, h2, show 4 * 2 = 4 * 1 + 4 from rfl, h1, show 4 * 1 = 4 * 0 + 4 from rfl, h0]
  rfl
theorem rc_L4_congr {f g : Nat → Int32} (h : ∀ j, j < 16 → f j = g j) : rc_L4 f = rc_L4 g := by
  unfold rc_L4
  rw [rc_low_congr (f := f) (g := g) (i := 0) (fun j _ _ => h j (by omega)), rc_low_congr (f := f) (g := g) (i := 4) (fun j _ _ => h j (by omega)), rc_low_congr (f := f) (g := g) (i := 8) (fun j _ _ => h j (by omega)), rc_low_congr (f := f) (g := g) (i := 12) (fun j _ _ => h j (by omega))]
/-! ===== own: the key's table, the rounds ===== -/
def rc_S : Nat → Nat → Int32
  | 0 => upd (fun _ => 0) 0 (-1209970333)
  | n + 1 => upd (rc_S n) (n + 1) (rc_S n n + (-1640531527))
abbrev rc_T : Type := Int32 × Int32 × (Nat → Int32) × (Nat → Int32)
def rc_stepA (k : Nat) (q : rc_T) : Int32 := rc_rl ((q.2.2.1 (k % 26) + q.1) + q.2.1) 3
def rc_stepB (k : Nat) (q : rc_T) : Int32 := rc_rl ((q.2.2.2 (k % 4) + rc_stepA k q) + q.2.1) (rc_stepA k q + q.2.1)
def rc_step (k : Nat) (q : rc_T) : rc_T := (rc_stepA k q, rc_stepB k q, upd q.2.2.1 (k % 26) (rc_stepA k q), upd q.2.2.2 (k % 4) (rc_stepB k q))
def rc_mix (S L : Nat → Int32) : Nat → rc_T
  | 0 => (0, 0, S, L)
  | k + 1 => rc_step k (rc_mix S L k)
def rc_key (f : Nat → Int32) : Nat → Int32 := (rc_mix (rc_S 25) (rc_L4 f) 78).2.2.1
theorem rc_key_congr {f g : Nat → Int32} (h : ∀ j, j < 16 → f j = g j) : rc_key f = rc_key g := by
  unfold rc_key
  rw [rc_L4_congr h]
def rc_encA (S : Nat → Int32) (n : Nat) (a b : Int32) : Int32 := rc_rl (a ^^^ b) b + S (2 * (n + 1))
def rc_encB (S : Nat → Int32) (n : Nat) (a b : Int32) : Int32 := rc_rl (b ^^^ rc_encA S n a b) (rc_encA S n a b) + S (2 * (n + 1) + 1)
def rc_enc (S : Nat → Int32) (a b : Int32) : Nat → Int32 × Int32
  | 0 => (a, b)
  | n + 1 => (rc_encA S n (rc_enc S a b n).1 (rc_enc S a b n).2, rc_encB S n (rc_enc S a b n).1 (rc_enc S a b n).2)
def rc_decB (S : Nat → Int32) (j : Nat) (a b : Int32) : Int32 := rc_rr (b - S (2 * (j + 1) + 1)) a ^^^ a
def rc_decA (S : Nat → Int32) (j : Nat) (a b : Int32) : Int32 := rc_rr (a - S (2 * (j + 1))) (rc_decB S j a b) ^^^ rc_decB S j a b
def rc_dec (S : Nat → Int32) : Nat → Int32 → Int32 → Int32 × Int32
  | 0, a, b => (a, b)
  | j + 1, a, b => rc_dec S j (rc_decA S j a b) (rc_decB S j a b)
def rc_E (S f : Nat → Int32) : Int32 × Int32 := rc_enc S (rc_low f 0 + S 0) (rc_low f 4 + S 1) 12
def rc_D (S f : Nat → Int32) : Int32 × Int32 := ((rc_dec S 12 (rc_low f 0) (rc_low f 4)).1 - S 0, (rc_dec S 12 (rc_low f 0) (rc_low f 4)).2 - S 1)
/-- the answer's two words: z 0 opens, else locks -/
def rc_R (z : Int32) (S f : Nat → Int32) : Int32 × Int32 := if z = 0 then rc_D S f else rc_E S f
theorem rc_R_congr (z : Int32) (S : Nat → Int32) {f g : Nat → Int32} (h : ∀ j, j < 8 → f j = g j) : rc_R z S f = rc_R z S g := by
  unfold rc_R rc_D rc_E
  rw [rc_low_congr (f := f) (g := g) (i := 0) (fun j _ _ => h j (by omega)), rc_low_congr (f := f) (g := g) (i := 4) (fun j _ _ => h j (by omega))]
/-- what the engine leaves in its out array -/
def rc_oE (f : Nat → Int32) (q : Int32 × Int32) : Nat → Int32 := rc_wE (rc_wE f 0 q.1) 4 q.2
/-- the two sides' answers agree -/
theorem rc_relRun {kf kg bf bg k2 : Nat → Int32} (hk : rc_rel 32 kf kg) (hb : rc_rel 8 bf bg) (h2 : ∀ j, j < 16 → k2 j = (kf j).toInt8.toInt32) (z : Int32) (f g : Nat → Int32) : rc_rel 8 (rc_oE f (rc_R z (rc_key (fun j => k2 j &&& 255)) (fun j => bf j &&& 255))) (rc_oM g (rc_R z (rc_key kg) bg).1 (rc_R z (rc_key kg) bg).2 4) := by
  have e1 : rc_key (fun j => k2 j &&& 255) = rc_key kg := rc_key_congr (fun j hj => by rw [h2 j hj, bp_b]; exact (hk j (by omega)).symm)
  have e2 : rc_R z (rc_key kg) (fun j => bf j &&& 255) = rc_R z (rc_key kg) bg := rc_R_congr z _ (fun j hj => (hb j hj).symm)
  rw [e1, e2]
  exact rc_relO f g _ _
end
section
/-! own base, second part -/
section VT
variable {p : Program} {l : Launch} {e : Env} {R : Room} {s : State} {m : MethodId} {args : Array Value} {below : List Frame} {meth : Method} {c : Code} {H : Heap} {locs : List Loc} {cells slots : Nat} {Q : State → Prop}
variable {pc : Nat} {ls : Array Slot} {rest : List Value}
theorem v_top {x y : Int32} (h : x = y) (k : W p l e R s m args below meth c H locs cells slots Q (F0 m pc ls (.int y :: rest))) : W p l e R s m args below meth c H locs cells slots Q (F0 m pc ls (.int x :: rest)) := by
  subst h
  exact k
end VT
abbrev rmR : Room := { frames := 0, cells := 0, slots := 0, locals := 0 }
end
section
/-! own base, third part: a call through the interface; what the desk's run leaves -/
theorem lw_F {own : String} {idx : Nat} {C : String} {x y : MethodName} {b : ByteArray} {L : Nat} {r : Option FieldType} (h1 : Cond.methodLink own idx x ∈ lw_all) (h2 : Cond.selects C x y ∈ lw_all) (h3 : Cond.instanceMethod y ∈ lw_all) (h4 : Cond.initialized y.cls ∈ lw_all) (h5 : Cond.code y b L r ∈ lw_all) : GoodIn lw_all (va_wsF own idx C x y (ws_ y b L r)) := by
  refine lw_app ?_ (lw_meth h5)
  intro w hw
  simp only [List.mem_cons, List.not_mem_nil, or_false] at hw
  rcases hw with e | e | e | e
  · rw [e]; exact h1
  · rw [e]; exact h2
  · rw [e]; exact h3
  · rw [e]; exact h4
/-- the engine's own key bytes, out of the desk's -/
def rc_k2 (kf : Nat → Int32) : Nat → Int32 := va_cpy (rc_cD (fun _ => 0) kf 16) (fun _ => 0) 0 0 16
theorem rc_k2_at (kf : Nat → Int32) (j : Nat) (h : j < 16) : rc_k2 kf j = (kf j).toInt8.toInt32 := by
  unfold rc_k2
  rw [sb_cpy0 h, rc_cD_at _ _ 16 j h]
/-- the desk's out bytes behind lock (z 1) or open (z 0) -/
def rc_oD (z : Int32) (kf bf uf : Nat → Int32) : Nat → Int32 := rc_oE uf (rc_R z (rc_key (fun j => rc_k2 kf j &&& 255)) (fun j => bf j &&& 255))
theorem rc_fit (kf : Nat → Int32) (j : Nat) (h : j < 16) : fits .byte (.int (rc_cD (fun _ => 0) kf 16 j)) = true := by
  rw [rc_cD_at _ _ 16 j h]
  exact pk_fb _
/-- the reference's out bytes behind lock or open -/
def rc_oR (z : Int32) (kg bg ug : Nat → Int32) : Nat → Int32 := rc_oM ug (rc_R z (rc_key kg) bg).1 (rc_R z (rc_key kg) bg).2 4
theorem rc_relRD {kf kg bf bg : Nat → Int32} (hk : rc_rel 32 kf kg) (hb : rc_rel 8 bf bg) (z : Int32) (uf ug : Nat → Int32) : rc_rel 8 (rc_oD z kf bf uf) (rc_oR z kg bg ug) :=
  rc_relRun hk hb (rc_k2_at kf) z uf ug
end
section
set_option maxHeartbeats 4000000 in
set_option maxRecDepth 100000 in
theorem metX2_rotateLeft (l : Launch) (D : va_G) (dB dN : ClassId) (sz : Nat) (h0 : Nat) (x y : Int32) : Met l yX2_rotateLeft (ws_ yX2_rotateLeft cX2_rotateLeft 3 (some .int)) rmR (va_Pc [.ref h0, .int x, .int y] (vPre D dB dN vT sz [])) (vp_Si (fun r => r = rc_rl x y)) 0 0 (fun _ => False) := by
  refine v_metR (by decide) (Nat.le_of_ble_eq_true rfl) ?_
  rintro p e s m args below meth c ls Q ⟨hx, hb, hr, hlocks, hml, hown, hts, hin⟩ hP hK hl hQ
  have hl : lv_has ls 3 [(0, .ref h0), (1, .int x), (2, .int y)] := hl
  have hown : s.vm.findClass RX2 = some m.cls := hown
  refine lv_iload_n hx hb dX2_rotateLeft_0 rfl (lv_at hl 1 rfl) ?_
  refine lv_iload_n hx hb dX2_rotateLeft_1 rfl (lv_at hl 2 rfl) ?_
  refine lv_bipush (v := 31) hx hb dX2_rotateLeft_2 (by decide) ?_
  refine lv_iand hx hb dX2_rotateLeft_4 ?_
  refine lv_ishl hx hb dX2_rotateLeft_5 ?_
  refine lv_iload_n hx hb dX2_rotateLeft_6 rfl (lv_at hl 1 rfl) ?_
  refine lv_bipush (v := 32) hx hb dX2_rotateLeft_7 (by decide) ?_
  refine lv_iload_n hx hb dX2_rotateLeft_9 rfl (lv_at hl 2 rfl) ?_
  refine lv_bipush (v := 31) hx hb dX2_rotateLeft_10 (by decide) ?_
  refine lv_iand hx hb dX2_rotateLeft_12 ?_
  refine lv_isub hx hb dX2_rotateLeft_13 ?_
  refine lv_iushr hx hb dX2_rotateLeft_14 rfl ?_
  refine lv_ior hx hb dX2_rotateLeft_15 ?_
  subst hQ
  exact W.iret hx hb hr (fun t ht hW => ⟨_, rfl, rfl, ht⟩) (fun q h => by cases h) dX2_rotateLeft_16 hlocks
set_option maxHeartbeats 4000000 in
set_option maxRecDepth 100000 in
theorem metX2_rotateRight (l : Launch) (D : va_G) (dB dN : ClassId) (sz : Nat) (h0 : Nat) (x y : Int32) : Met l yX2_rotateRight (ws_ yX2_rotateRight cX2_rotateRight 3 (some .int)) rmR (va_Pc [.ref h0, .int x, .int y] (vPre D dB dN vT sz [])) (vp_Si (fun r => r = rc_rr x y)) 0 0 (fun _ => False) := by
  refine v_metR (by decide) (Nat.le_of_ble_eq_true rfl) ?_
  rintro p e s m args below meth c ls Q ⟨hx, hb, hr, hlocks, hml, hown, hts, hin⟩ hP hK hl hQ
  have hl : lv_has ls 3 [(0, .ref h0), (1, .int x), (2, .int y)] := hl
  have hown : s.vm.findClass RX2 = some m.cls := hown
  refine lv_iload_n hx hb dX2_rotateRight_0 rfl (lv_at hl 1 rfl) ?_
  refine lv_iload_n hx hb dX2_rotateRight_1 rfl (lv_at hl 2 rfl) ?_
  refine lv_bipush (v := 31) hx hb dX2_rotateRight_2 (by decide) ?_
  refine lv_iand hx hb dX2_rotateRight_4 ?_
  refine lv_iushr hx hb dX2_rotateRight_5 rfl ?_
  refine lv_iload_n hx hb dX2_rotateRight_6 rfl (lv_at hl 1 rfl) ?_
  refine lv_bipush (v := 32) hx hb dX2_rotateRight_7 (by decide) ?_
  refine lv_iload_n hx hb dX2_rotateRight_9 rfl (lv_at hl 2 rfl) ?_
  refine lv_bipush (v := 31) hx hb dX2_rotateRight_10 (by decide) ?_
  refine lv_iand hx hb dX2_rotateRight_12 ?_
  refine lv_isub hx hb dX2_rotateRight_13 ?_
  refine lv_ishl hx hb dX2_rotateRight_14 ?_
  refine lv_ior hx hb dX2_rotateRight_15 ?_
  subst hQ
  exact W.iret hx hb hr (fun t ht hW => ⟨_, rfl, rfl, ht⟩) (fun q h => by cases h) dX2_rotateRight_16 hlocks
set_option maxHeartbeats 4000000 in
set_option maxRecDepth 100000 in
theorem metX2_bytesToWord (l : Launch) (D : va_G) (dB dN : ClassId) (sz : Nat) (h0 a : Nat) (f : Nat → Int32) (i : Int32) (k n : Nat) (hi : i = nI k) (hk : k + 4 ≤ n) (hn : n < 2 ^ 31) : Met l yX2_bytesToWord (ws_ yX2_bytesToWord cX2_bytesToWord 3 (some .int)) rmR (va_Pc [.ref h0, .ref a, .int i] (vPre D dB dN vT sz [(a, .inl (dB, n, .inl f))])) (vp_Si (fun r => r = rc_low (fun j => f j &&& 255) k)) 0 0 (fun _ => False) := by
  refine v_metR (by decide) (Nat.le_of_ble_eq_true rfl) ?_
  rintro p e s m args below meth c ls Q ⟨hx, hb, hr, hlocks, hml, hown, hts, hin⟩ hP hK hl hQ
  have hl : lv_has ls 3 [(0, .ref h0), (1, .ref a), (2, .int i)] := hl
  have hown : s.vm.findClass RX2 = some m.cls := hown
  refine lv_aload_n hx hb dX2_bytesToWord_0 rfl (lv_at hl 1 rfl) ?_
  refine lv_iload_n hx hb dX2_bytesToWord_1 rfl (lv_at hl 2 rfl) ?_
  refine v_bald hx hb hK hP 0 0 rfl rfl (k := k) hi (by omega) hn dX2_bytesToWord_2 ?_
  refine lv_sipush (v := 255) hx hb dX2_bytesToWord_3 (by decide) ?_
  refine lv_iand hx hb dX2_bytesToWord_6 ?_
  refine lv_aload_n hx hb dX2_bytesToWord_7 rfl (lv_at hl 1 rfl) ?_
  refine lv_iload_n hx hb dX2_bytesToWord_8 rfl (lv_at hl 2 rfl) ?_
  refine lv_iconst (v := 1) hx hb dX2_bytesToWord_9 (by decide) ?_
  refine lv_iadd hx hb dX2_bytesToWord_10 ?_
  refine v_bald hx hb hK hP 0 0 rfl rfl (k := (k + 1)) (v_add hi rfl) (by omega) hn dX2_bytesToWord_11 ?_
  refine lv_sipush (v := 255) hx hb dX2_bytesToWord_12 (by decide) ?_
  refine lv_iand hx hb dX2_bytesToWord_15 ?_
  refine lv_bipush (v := 8) hx hb dX2_bytesToWord_16 (by decide) ?_
  refine lv_ishl hx hb dX2_bytesToWord_18 ?_
  refine lv_ior hx hb dX2_bytesToWord_19 ?_
  refine lv_aload_n hx hb dX2_bytesToWord_20 rfl (lv_at hl 1 rfl) ?_
  refine lv_iload_n hx hb dX2_bytesToWord_21 rfl (lv_at hl 2 rfl) ?_
  refine lv_iconst (v := 2) hx hb dX2_bytesToWord_22 (by decide) ?_
  refine lv_iadd hx hb dX2_bytesToWord_23 ?_
  refine v_bald hx hb hK hP 0 0 rfl rfl (k := (k + 2)) (v_add hi rfl) (by omega) hn dX2_bytesToWord_24 ?_
  refine lv_sipush (v := 255) hx hb dX2_bytesToWord_25 (by decide) ?_
  refine lv_iand hx hb dX2_bytesToWord_28 ?_
  refine lv_bipush (v := 16) hx hb dX2_bytesToWord_29 (by decide) ?_
  refine lv_ishl hx hb dX2_bytesToWord_31 ?_
  refine lv_ior hx hb dX2_bytesToWord_32 ?_
  refine lv_aload_n hx hb dX2_bytesToWord_33 rfl (lv_at hl 1 rfl) ?_
  refine lv_iload_n hx hb dX2_bytesToWord_34 rfl (lv_at hl 2 rfl) ?_
  refine lv_iconst (v := 3) hx hb dX2_bytesToWord_35 (by decide) ?_
  refine lv_iadd hx hb dX2_bytesToWord_36 ?_
  refine v_bald hx hb hK hP 0 0 rfl rfl (k := (k + 3)) (v_add hi rfl) (by omega) hn dX2_bytesToWord_37 ?_
  refine lv_sipush (v := 255) hx hb dX2_bytesToWord_38 (by decide) ?_
  refine lv_iand hx hb dX2_bytesToWord_41 ?_
  refine lv_bipush (v := 24) hx hb dX2_bytesToWord_42 (by decide) ?_
  refine lv_ishl hx hb dX2_bytesToWord_44 ?_
  refine lv_ior hx hb dX2_bytesToWord_45 ?_
  subst hQ
  exact W.iret hx hb hr (fun t ht hW => ⟨_, rfl, rfl, ht⟩) (fun q h => by cases h) dX2_bytesToWord_46 hlocks
set_option maxHeartbeats 4000000 in
set_option maxRecDepth 100000 in
theorem metX2_wordToBytes (l : Launch) (D : va_G) (dB dN : ClassId) (sz : Nat) (h0 a : Nat) (f : Nat → Int32) (x i : Int32) (k n : Nat) (hi : i = nI k) (hk : k + 4 ≤ n) (hn : n < 2 ^ 31) : Met l yX2_wordToBytes (ws_ yX2_wordToBytes cX2_wordToBytes 4 none) rmR (va_Pc [.ref h0, .int x, .ref a, .int i] (vPre D dB dN vT sz [(a, .inl (dB, n, .inl f))])) (qV D (fun _ : Unit => [(a, .inl (dB, n, .inl (rc_wE f k x)))]) (va_A [(a, .inl (dB, n, .inl f))] sz)) 0 0 (va_A [(a, .inl (dB, n, .inl f))] sz) := by
  refine v_met (Qc := qV D (fun _ : Unit => [(a, .inl (dB, n, .inl (rc_wE f k x)))])) (by decide) (Nat.le_of_ble_eq_true rfl) ?_
  rintro p e s m args below meth c A ls Q ⟨hx, hb, hr, hlocks, hml, hown, hts, hin⟩ hP hK hD hX hA hS hl hQ
  have hl : lv_has ls 4 [(0, .ref h0), (1, .int x), (2, .ref a), (3, .int i)] := hl
  have hown : s.vm.findClass RX2 = some m.cls := hown
  refine lv_aload_n hx hb dX2_wordToBytes_0 rfl (lv_at hl 2 rfl) ?_
  refine lv_iload_n hx hb dX2_wordToBytes_1 rfl (lv_at hl 3 rfl) ?_
  refine lv_iload_n hx hb dX2_wordToBytes_2 rfl (lv_at hl 1 rfl) ?_
  refine lv_i2b hx hb dX2_wordToBytes_3 rfl ?_
  refine v_bast hx hb hK hP hD hS 0 0 rfl rfl (k := k) hi (by omega) hn (pk_vb x) dX2_wordToBytes_4 (fun H locs hP hD hS => ?_)
  have hP : va_P D vwCl [(a, .inl (dB, n, .inl (upd f k x.toInt8.toInt32)))] H := hP
  have hD : va_D A [(a, .inl (dB, n, .inl (upd f k x.toInt8.toInt32)))] := hD
  refine lv_aload_n hx hb dX2_wordToBytes_5 rfl (lv_at hl 2 rfl) ?_
  refine lv_iload_n hx hb dX2_wordToBytes_6 rfl (lv_at hl 3 rfl) ?_
  refine lv_iconst (v := 1) hx hb dX2_wordToBytes_7 (by decide) ?_
  refine lv_iadd hx hb dX2_wordToBytes_8 ?_
  refine lv_iload_n hx hb dX2_wordToBytes_9 rfl (lv_at hl 1 rfl) ?_
  refine lv_bipush (v := 8) hx hb dX2_wordToBytes_10 (by decide) ?_
  refine lv_ishr hx hb dX2_wordToBytes_12 ?_
  refine lv_i2b hx hb dX2_wordToBytes_13 rfl ?_
  refine v_bast hx hb hK hP hD hS 0 0 rfl rfl (k := (k + 1)) (v_add hi rfl) (by omega) hn (pk_vb (x >>> (8 &&& 31))) dX2_wordToBytes_14 (fun H locs hP hD hS => ?_)
  have hP : va_P D vwCl [(a, .inl (dB, n, .inl (upd (upd f k x.toInt8.toInt32) (k + 1) ((x >>> (8 &&& 31)).toInt8.toInt32))))] H := hP
  have hD : va_D A [(a, .inl (dB, n, .inl (upd (upd f k x.toInt8.toInt32) (k + 1) ((x >>> (8 &&& 31)).toInt8.toInt32))))] := hD
  refine lv_aload_n hx hb dX2_wordToBytes_15 rfl (lv_at hl 2 rfl) ?_
  refine lv_iload_n hx hb dX2_wordToBytes_16 rfl (lv_at hl 3 rfl) ?_
  refine lv_iconst (v := 2) hx hb dX2_wordToBytes_17 (by decide) ?_
  refine lv_iadd hx hb dX2_wordToBytes_18 ?_
  refine lv_iload_n hx hb dX2_wordToBytes_19 rfl (lv_at hl 1 rfl) ?_
  refine lv_bipush (v := 16) hx hb dX2_wordToBytes_20 (by decide) ?_
  refine lv_ishr hx hb dX2_wordToBytes_22 ?_
  refine lv_i2b hx hb dX2_wordToBytes_23 rfl ?_
  refine v_bast hx hb hK hP hD hS 0 0 rfl rfl (k := (k + 2)) (v_add hi rfl) (by omega) hn (pk_vb (x >>> (16 &&& 31))) dX2_wordToBytes_24 (fun H locs hP hD hS => ?_)
  have hP : va_P D vwCl [(a, .inl (dB, n, .inl (upd (upd (upd f k x.toInt8.toInt32) (k + 1) ((x >>> (8 &&& 31)).toInt8.toInt32)) (k + 2) ((x >>> (16 &&& 31)).toInt8.toInt32))))] H := hP
  have hD : va_D A [(a, .inl (dB, n, .inl (upd (upd (upd f k x.toInt8.toInt32) (k + 1) ((x >>> (8 &&& 31)).toInt8.toInt32)) (k + 2) ((x >>> (16 &&& 31)).toInt8.toInt32))))] := hD
  refine lv_aload_n hx hb dX2_wordToBytes_25 rfl (lv_at hl 2 rfl) ?_
  refine lv_iload_n hx hb dX2_wordToBytes_26 rfl (lv_at hl 3 rfl) ?_
  refine lv_iconst (v := 3) hx hb dX2_wordToBytes_27 (by decide) ?_
  refine lv_iadd hx hb dX2_wordToBytes_28 ?_
  refine lv_iload_n hx hb dX2_wordToBytes_29 rfl (lv_at hl 1 rfl) ?_
  refine lv_bipush (v := 24) hx hb dX2_wordToBytes_30 (by decide) ?_
  refine lv_ishr hx hb dX2_wordToBytes_32 ?_
  refine lv_i2b hx hb dX2_wordToBytes_33 rfl ?_
  refine v_bast hx hb hK hP hD hS 0 0 rfl rfl (k := (k + 3)) (v_add hi rfl) (by omega) hn (pk_vb (x >>> (24 &&& 31))) dX2_wordToBytes_34 (fun H locs hP hD hS => ?_)
  have hP : va_P D vwCl [(a, .inl (dB, n, .inl (upd (upd (upd (upd f k x.toInt8.toInt32) (k + 1) ((x >>> (8 &&& 31)).toInt8.toInt32)) (k + 2) ((x >>> (16 &&& 31)).toInt8.toInt32)) (k + 3) ((x >>> (24 &&& 31)).toInt8.toInt32))))] H := hP
  have hD : va_D A [(a, .inl (dB, n, .inl (upd (upd (upd (upd f k x.toInt8.toInt32) (k + 1) ((x >>> (8 &&& 31)).toInt8.toInt32)) (k + 2) ((x >>> (16 &&& 31)).toInt8.toInt32)) (k + 3) ((x >>> (24 &&& 31)).toInt8.toInt32))))] := hD
  have hP9 : va_P D vwCl [(a, .inl (dB, n, .inl (upd (upd (upd (upd f k x.toInt8.toInt32) (k + 1) ((x >>> (8 &&& 31)).toInt8.toInt32)) (k + 2) ((x >>> (16 &&& 31)).toInt8.toInt32)) (k + 3) ((x >>> (24 &&& 31)).toInt8.toInt32))))] H := hP.sub [0] rfl
  have hD9 : va_D A [(a, .inl (dB, n, .inl (upd (upd (upd (upd f k x.toInt8.toInt32) (k + 1) ((x >>> (8 &&& 31)).toInt8.toInt32)) (k + 2) ((x >>> (16 &&& 31)).toInt8.toInt32)) (k + 3) ((x >>> (24 &&& 31)).toInt8.toInt32))))] := hD.sub [0] (by decide) rfl
  subst hQ
  exact W.vret hx hb hr (fun t ht hW => ⟨⟨(), rfl, trivial, by rw [ht]; exact hP9, hD9⟩, hS.F ht⟩) hS.2.2 dX2_wordToBytes_35 hlocks
abbrev rmO : Room := { frames := 1, cells := 0, slots := 0, locals := 12 }
set_option maxHeartbeats 4000000 in
set_option maxRecDepth 100000 in
theorem metX2_init (l : Launch) (D : va_G) (dB dN : ClassId) (sz : Nat) (h0 : Nat) : Met l yX2_init (ws_ yX2_init cX2_init 1 none) rmO (va_Pc [.ref h0] (vPre D dB dN vT sz [(h0, .inr (2, [.int 0, .null, .int 0]))])) (qV D (fun _ : Unit => [(h0, .inr (2, [.int 12, .null, .int 0]))]) (va_A [(h0, .inr (2, [.int 0, .null, .int 0]))] sz)) 0 0 (va_A [(h0, .inr (2, [.int 0, .null, .int 0]))] sz) := by
  refine v_met (Qc := qV D (fun _ : Unit => [(h0, .inr (2, [.int 12, .null, .int 0]))])) (by decide) (Nat.le_of_ble_eq_true rfl) ?_
  rintro p e s m args below meth c A ls Q ⟨hx, hb, hr, hlocks, hml, hown, hts, hin⟩ hP hK hD hX hA hS hl hQ
  have hl : lv_has ls 1 [(0, .ref h0)] := hl
  have hown : s.vm.findClass RX2 = some m.cls := hown
  refine lv_aload_n hx hb dX2_init_0 rfl (lv_at hl 0 rfl) ?_
  refine W.objInit hx hb hown (hts _ q67) (hts _ q27) (hts _ q28) rfl (by rw [hml]; exact hl.1) rfl dX2_init_1 (Nat.le_of_ble_eq_true rfl) (Nat.le_of_ble_eq_true rfl) ?_
  refine W.eq (g2 := F0 m 4 ls []) rfl ?_
  refine lv_aload_n hx hb dX2_init_4 rfl (lv_at hl 0 rfl) ?_
  refine lv_bipush (v := 12) hx hb dX2_init_5 (by decide) ?_
  refine va_put (D := D) (ci := 2) (v := .int 12) (ty := .int) (C := RX2) (T := TX2) (N := 3) hx hb hts in_X2 tyX2 tyX2_ok nmX2 hown hK hP hD hS 0 rfl rfl 0 (by decide) (hts _ q68) (fun _ h9 => h9) rfl (by decide +kernel) rfl rfl (Nat.le_of_ble_eq_true rfl) dX2_init_7 (fun H locs hP hD hS => ?_)
  have hP : va_P D vwCl [(h0, .inr (2, [.int 12, .null, .int 0]))] H := hP
  have hD : va_D A [(h0, .inr (2, [.int 12, .null, .int 0]))] := hD
  refine lv_aload_n hx hb dX2_init_10 rfl (lv_at hl 0 rfl) ?_
  refine lv_null hx hb dX2_init_11 ?_
  refine va_put (D := D) (ci := 2) (v := .null) (ty := .array .int) (C := RX2) (T := TX2) (N := 3) hx hb hts in_X2 tyX2 tyX2_ok nmX2 hown hK hP hD hS 0 rfl rfl 1 (by decide) (hts _ q69) (fun _ h9 => h9) rfl (by decide +kernel) rfl rfl (Nat.le_of_ble_eq_true rfl) dX2_init_12 (fun H locs hP hD hS => ?_)
  have hP : va_P D vwCl [(h0, .inr (2, [.int 12, .null, .int 0]))] H := hP
  have hD : va_D A [(h0, .inr (2, [.int 12, .null, .int 0]))] := hD
  have hP9 : va_P D vwCl [(h0, .inr (2, [.int 12, .null, .int 0]))] H := hP.sub [0] rfl
  have hD9 : va_D A [(h0, .inr (2, [.int 12, .null, .int 0]))] := hD.sub [0] (by decide) rfl
  subst hQ
  exact W.vret hx hb hr (fun t ht hW => ⟨⟨(), rfl, trivial, by rw [ht]; exact hP9, hD9⟩, hS.F ht⟩) hS.2.2 dX2_init_15 hlocks
end
section
abbrev rmSK : Room := { frames := 1, cells := 2, slots := 30, locals := 22 }
set_option maxHeartbeats 4000000 in
set_option maxRecDepth 100000 in
theorem metX2_setKey (l : Launch) (D : va_G) (dB dN : ClassId) (sz : Nat) (h0 hk : Nat) (z0 : Int32) (kf : Nat → Int32) : Met l yX2_setKey (ws_ yX2_setKey cX2_setKey 9 none) rmSK (va_Pc [.ref h0, .ref hk] (vPre D dB dN vT sz [(h0, .inr (2, [.int 12, .null, .int z0])), (hk, .inl (dB, 16, .inl kf))])) (qV D (fun hS : Nat => [(h0, .inr (2, [.int 12, .ref hS, .int z0])), (hk, .inl (dB, 16, .inl kf)), (hS, .inl (dN, 26, .inl (rc_key (fun j => kf j &&& 255))))]) (va_A [(h0, .inr (2, [.int 12, .null, .int z0])), (hk, .inl (dB, 16, .inl kf))] sz)) 2 30 (va_A [(h0, .inr (2, [.int 12, .null, .int z0])), (hk, .inl (dB, 16, .inl kf))] sz) := by
  refine v_met (Qc := qV D (fun hS : Nat => [(h0, .inr (2, [.int 12, .ref hS, .int z0])), (hk, .inl (dB, 16, .inl kf)), (hS, .inl (dN, 26, .inl (rc_key (fun j => kf j &&& 255))))])) (by decide) (Nat.le_of_ble_eq_true rfl) ?_
  rintro p e s m args below meth c A ls Q ⟨hx, hb, hr, hlocks, hml, hown, hts, hin⟩ hP hK hD hX hA hS hl hQ
  have hl : lv_has ls 9 [(0, .ref h0), (1, .ref hk)] := hl
  have hown : s.vm.findClass RX2 = some m.cls := hown
  refine lv_aload_n hx hb dX2_setKey_0 rfl (lv_at hl 1 rfl) ?_
  refine va_alen (v := 16) hx hb hK hP 1 0 rfl rfl rfl dX2_setKey_1 ?_
  refine lv_iconst (v := 3) hx hb dX2_setKey_2 (by decide) ?_
  refine lv_iadd hx hb dX2_setKey_3 ?_
  refine lv_iconst (v := 4) hx hb dX2_setKey_4 (by decide) ?_
  refine lv_idiv hx hb dX2_setKey_5 (by decide) ?_
  refine v_top (y := nI ((16 + 3) / 4)) (v_div (v_add rfl rfl) rfl (by omega) (by decide) (Nat.le_of_ble_eq_true rfl)) ?_
  refine v_top (y := 4) rfl ?_
  refine v_newa (atype := .int) (a0 := (4, .inl (fun _ => 0))) hx hb (hts _ q196) rfl 1 rfl (fun _ => rfl) hK hP hD hS hA (fun cA => v_cell0 4 .int rfl cA) rfl (Nat.le_of_ble_eq_true rfl) (Nat.le_of_ble_eq_true rfl) (Nat.le_of_ble_eq_true rfl) (Nat.le_of_ble_eq_true rfl) dX2_setKey_6 (fun q_1 H hP hD hS => ?_)
  have hP : va_P D vwCl [(h0, .inr (2, [.int 12, .null, .int z0])), (hk, .inl (dB, 16, .inl kf)), (q_1, .inl (dN, 4, .inl (fun _ => 0)))] H := hP
  have hD : va_D A [(h0, .inr (2, [.int 12, .null, .int z0])), (hk, .inl (dB, 16, .inl kf)), (q_1, .inl (dN, 4, .inl (fun _ => 0)))] := hD
  refine W.widen (k := 1) (n := 4) (Nat.le_of_ble_eq_true rfl) (Nat.le_of_ble_eq_true rfl) ?_
  refine lv_astore_n (lv' := [(2, .ref q_1), (0, .ref h0), (1, .ref hk)]) hx hb dX2_setKey_8 rfl hl (by decide) rfl (fun ls hl => ?_)
  refine lv_iconst (v := 0) hx hb dX2_setKey_9 (by decide) ?_
  refine lv_istore_n (lv' := [(3, .int 0), (2, .ref q_1), (0, .ref h0), (1, .ref hk)]) hx hb dX2_setKey_10 rfl hl (by decide) rfl (fun ls hl => ?_)
  have loop1 : ∀ (n i : Nat) (H : Heap) (locs : List Loc) (ls : Array Slot), i + n = 16 → va_P D vwCl [(h0, .inr (2, [.int 12, .null, .int z0])), (hk, .inl (dB, 16, .inl kf)), (q_1, .inl (dN, 4, .inl (rc_L kf i)))] H → va_D A [(h0, .inr (2, [.int 12, .null, .int z0])), (hk, .inl (dB, 16, .inl kf)), (q_1, .inl (dN, 4, .inl (rc_L kf i)))] → va_S A s.heap H locs → lv_has ls 9 [(0, .ref h0), (1, .ref hk), (2, .ref q_1), (3, .int (nI i))] → W p l e rmSK s m args below meth c H locs 1 4 Q (F0 m 11 ls []) := by
    intro n
    induction n with
    | zero =>
      intro i H locs ls hi hP hD hS hl
      obtain rfl : i = 16 := by omega
      refine lv_iload_n hx hb dX2_setKey_11 rfl (lv_at hl 3 rfl) ?_
      refine lv_aload_n hx hb dX2_setKey_12 rfl (lv_at hl 1 rfl) ?_
      refine va_alen (v := 16) hx hb hK hP 1 0 rfl rfl rfl dX2_setKey_13 ?_
      refine lv_icmp_eq (tgt := 45) hx hb dX2_setKey_14 (by decide) (fun _ => ?_) (fun c => absurd ((v_eq (a := 16) (b := 16) rfl rfl (by omega) (by omega)).mpr (by omega)) c)
      refine lv_aload_n hx hb dX2_setKey_45 rfl (lv_at hl 0 rfl) ?_
      refine lv_iconst (v := 2) hx hb dX2_setKey_46 (by decide) ?_
      refine lv_aload_n hx hb dX2_setKey_47 rfl (lv_at hl 0 rfl) ?_
      refine va_get (D := D) (ci := 2) (v := .int 12) (C := RX2) (T := TX2) (N := 3) hx hb hts in_X2 hown hK hP 0 rfl rfl 0 (by decide) (hts _ q68) (fun _ h9 => h9) rfl dX2_setKey_48 ?_
      refine lv_iconst (v := 1) hx hb dX2_setKey_51 (by decide) ?_
      refine lv_iadd hx hb dX2_setKey_52 ?_
      refine lv_imul hx hb dX2_setKey_53 ?_
      refine v_top (y := 26) rfl ?_
      refine v_newa (atype := .int) (a0 := (26, .inl (fun _ => 0))) hx hb (hts _ q196) rfl 1 rfl (fun _ => rfl) hK hP hD hS hA (fun cA => v_cell0 26 .int rfl cA) rfl (Nat.le_of_ble_eq_true rfl) (Nat.le_of_ble_eq_true rfl) (Nat.le_of_ble_eq_true rfl) (Nat.le_of_ble_eq_true rfl) dX2_setKey_54 (fun q_2 H hP hD hS => ?_)
      have hP : va_P D vwCl [(h0, .inr (2, [.int 12, .null, .int z0])), (hk, .inl (dB, 16, .inl kf)), (q_1, .inl (dN, 4, .inl (rc_L kf 16))), (q_2, .inl (dN, 26, .inl (fun _ => 0)))] H := hP
      have hD : va_D A [(h0, .inr (2, [.int 12, .null, .int z0])), (hk, .inl (dB, 16, .inl kf)), (q_1, .inl (dN, 4, .inl (rc_L kf 16))), (q_2, .inl (dN, 26, .inl (fun _ => 0)))] := hD
      refine W.widen (k := 2) (n := 30) (Nat.le_of_ble_eq_true rfl) (Nat.le_of_ble_eq_true rfl) ?_
      refine va_put (D := D) (ci := 2) (v := .ref q_2) (ty := .array .int) (C := RX2) (T := TX2) (N := 3) hx hb hts in_X2 tyX2 tyX2_ok nmX2 hown hK hP hD hS 0 rfl rfl 1 (by decide) (hts _ q69) (fun _ h9 => h9) rfl (by decide +kernel) rfl rfl (Nat.le_of_ble_eq_true rfl) dX2_setKey_56 (fun H locs hP hD hS => ?_)
      have hP : va_P D vwCl [(h0, .inr (2, [.int 12, .ref q_2, .int z0])), (hk, .inl (dB, 16, .inl kf)), (q_1, .inl (dN, 4, .inl (rc_L kf 16))), (q_2, .inl (dN, 26, .inl (fun _ => 0)))] H := hP
      have hD : va_D A [(h0, .inr (2, [.int 12, .ref q_2, .int z0])), (hk, .inl (dB, 16, .inl kf)), (q_1, .inl (dN, 4, .inl (rc_L kf 16))), (q_2, .inl (dN, 26, .inl (fun _ => 0)))] := hD
      refine lv_aload_n hx hb dX2_setKey_59 rfl (lv_at hl 0 rfl) ?_
      refine va_get (D := D) (ci := 2) (v := .ref q_2) (C := RX2) (T := TX2) (N := 3) hx hb hts in_X2 hown hK hP 0 rfl rfl 1 (by decide) (hts _ q69) (fun _ h9 => h9) rfl dX2_setKey_60 ?_
      refine lv_iconst (v := 0) hx hb dX2_setKey_63 (by decide) ?_
      refine lv_ldc (v := (-1209970333)) hx hb hown (hts _ q120) dX2_setKey_64 ?_
      refine v_iast hx hb hK hP hD hS 3 1 rfl rfl (k := 0) rfl (by omega) (Nat.le_of_ble_eq_true rfl) dX2_setKey_66 (fun H locs hP hD hS => ?_)
      have hP : va_P D vwCl [(h0, .inr (2, [.int 12, .ref q_2, .int z0])), (hk, .inl (dB, 16, .inl kf)), (q_1, .inl (dN, 4, .inl (rc_L kf 16))), (q_2, .inl (dN, 26, .inl (upd (fun _ => 0) 0 (-1209970333))))] H := hP
      have hD : va_D A [(h0, .inr (2, [.int 12, .ref q_2, .int z0])), (hk, .inl (dB, 16, .inl kf)), (q_1, .inl (dN, 4, .inl (rc_L kf 16))), (q_2, .inl (dN, 26, .inl (upd (fun _ => 0) 0 (-1209970333))))] := hD
      refine lv_iconst (v := 1) hx hb dX2_setKey_67 (by decide) ?_
      refine lv_istore_n (lv' := [(3, .int 1), (0, .ref h0), (1, .ref hk), (2, .ref q_1)]) hx hb dX2_setKey_68 rfl hl (by decide) rfl (fun ls hl => ?_)
      have hP : va_P D vwCl [(h0, .inr (2, [.int 12, .ref q_2, .int z0])), (hk, .inl (dB, 16, .inl kf)), (q_1, .inl (dN, 4, .inl (rc_L kf 16))), (q_2, .inl (dN, 26, .inl (rc_S 0)))] H := hP
      have hD : va_D A [(h0, .inr (2, [.int 12, .ref q_2, .int z0])), (hk, .inl (dB, 16, .inl kf)), (q_1, .inl (dN, 4, .inl (rc_L kf 16))), (q_2, .inl (dN, 26, .inl (rc_S 0)))] := hD
      have loop2 : ∀ (n n2 : Nat) (H : Heap) (locs : List Loc) (ls : Array Slot), n2 + n = 25 → va_P D vwCl [(h0, .inr (2, [.int 12, .ref q_2, .int z0])), (hk, .inl (dB, 16, .inl kf)), (q_1, .inl (dN, 4, .inl (rc_L kf 16))), (q_2, .inl (dN, 26, .inl (rc_S n2)))] H → va_D A [(h0, .inr (2, [.int 12, .ref q_2, .int z0])), (hk, .inl (dB, 16, .inl kf)), (q_1, .inl (dN, 4, .inl (rc_L kf 16))), (q_2, .inl (dN, 26, .inl (rc_S n2)))] → va_S A s.heap H locs → lv_has ls 9 [(0, .ref h0), (1, .ref hk), (2, .ref q_1), (3, .int (nI (n2 + 1)))] → W p l e rmSK s m args below meth c H locs 2 30 Q (F0 m 69 ls []) := by
        intro n
        induction n with
        | zero =>
          intro n2 H locs ls hi hP hD hS hl
          obtain rfl : n2 = 25 := by omega
          refine lv_iload_n hx hb dX2_setKey_69 rfl (lv_at hl 3 rfl) ?_
          refine lv_aload_n hx hb dX2_setKey_70 rfl (lv_at hl 0 rfl) ?_
          refine va_get (D := D) (ci := 2) (v := .ref q_2) (C := RX2) (T := TX2) (N := 3) hx hb hts in_X2 hown hK hP 0 rfl rfl 1 (by decide) (hts _ q69) (fun _ h9 => h9) rfl dX2_setKey_71 ?_
          refine va_alen (v := 26) hx hb hK hP 3 1 rfl rfl rfl dX2_setKey_74 ?_
          refine lv_icmp_ge (tgt := 101) hx hb dX2_setKey_75 (by decide) (fun _ => ?_) (fun c => absurd ((v_le (a := 26) (b := (25 + 1)) rfl rfl (by omega) (by omega)).mpr (by omega)) c)
          refine lv_aload_n hx hb dX2_setKey_101 rfl (lv_at hl 2 rfl) ?_
          refine va_alen (v := 4) hx hb hK hP 2 1 rfl rfl rfl dX2_setKey_102 ?_
          refine lv_aload_n hx hb dX2_setKey_103 rfl (lv_at hl 0 rfl) ?_
          refine va_get (D := D) (ci := 2) (v := .ref q_2) (C := RX2) (T := TX2) (N := 3) hx hb hts in_X2 hown hK hP 0 rfl rfl 1 (by decide) (hts _ q69) (fun _ h9 => h9) rfl dX2_setKey_104 ?_
          refine va_alen (v := 26) hx hb hK hP 3 1 rfl rfl rfl dX2_setKey_107 ?_
          refine lv_icmp_le (tgt := 119) hx hb dX2_setKey_108 (by decide) (fun _ => ?_) (fun c => absurd ((v_le (a := 4) (b := 26) rfl rfl (by omega) (by omega)).mpr (by omega)) c)
          refine lv_iconst (v := 3) hx hb dX2_setKey_119 (by decide) ?_
          refine lv_aload_n hx hb dX2_setKey_120 rfl (lv_at hl 0 rfl) ?_
          refine va_get (D := D) (ci := 2) (v := .ref q_2) (C := RX2) (T := TX2) (N := 3) hx hb hts in_X2 hown hK hP 0 rfl rfl 1 (by decide) (hts _ q69) (fun _ h9 => h9) rfl dX2_setKey_121 ?_
          refine va_alen (v := 26) hx hb hK hP 3 1 rfl rfl rfl dX2_setKey_124 ?_
          refine lv_imul hx hb dX2_setKey_125 ?_
          refine v_top (y := 78) rfl ?_
          refine lv_istore_n (lv' := [(3, .int 78), (0, .ref h0), (1, .ref hk), (2, .ref q_1)]) hx hb dX2_setKey_126 rfl hl (by decide) rfl (fun ls hl => ?_)
          refine lv_iconst (v := 0) hx hb dX2_setKey_127 (by decide) ?_
          refine lv_istore (lv' := [(4, .int 0), (3, .int 78), (0, .ref h0), (1, .ref hk), (2, .ref q_1)]) hx hb dX2_setKey_128 hl (by decide) rfl (fun ls hl => ?_)
          refine lv_iconst (v := 0) hx hb dX2_setKey_130 (by decide) ?_
          refine lv_istore (lv' := [(5, .int 0), (4, .int 0), (3, .int 78), (0, .ref h0), (1, .ref hk), (2, .ref q_1)]) hx hb dX2_setKey_131 hl (by decide) rfl (fun ls hl => ?_)
          refine lv_iconst (v := 0) hx hb dX2_setKey_133 (by decide) ?_
          refine lv_istore (lv' := [(6, .int 0), (5, .int 0), (4, .int 0), (3, .int 78), (0, .ref h0), (1, .ref hk), (2, .ref q_1)]) hx hb dX2_setKey_134 hl (by decide) rfl (fun ls hl => ?_)
          refine lv_iconst (v := 0) hx hb dX2_setKey_136 (by decide) ?_
          refine lv_istore (lv' := [(7, .int 0), (6, .int 0), (5, .int 0), (4, .int 0), (3, .int 78), (0, .ref h0), (1, .ref hk), (2, .ref q_1)]) hx hb dX2_setKey_137 hl (by decide) rfl (fun ls hl => ?_)
          refine lv_iconst (v := 0) hx hb dX2_setKey_139 (by decide) ?_
          refine lv_istore (lv' := [(8, .int 0), (7, .int 0), (6, .int 0), (5, .int 0), (4, .int 0), (3, .int 78), (0, .ref h0), (1, .ref hk), (2, .ref q_1)]) hx hb dX2_setKey_140 hl (by decide) rfl (fun ls hl => ?_)
          have loop3 : ∀ (n k : Nat) (H : Heap) (locs : List Loc) (ls : Array Slot), k + n = 78 → va_P D vwCl [(h0, .inr (2, [.int 12, .ref q_2, .int z0])), (hk, .inl (dB, 16, .inl kf)), (q_1, .inl (dN, 4, .inl ((rc_mix (rc_S 25) (rc_L kf 16) k).2.2.2))), (q_2, .inl (dN, 26, .inl ((rc_mix (rc_S 25) (rc_L kf 16) k).2.2.1)))] H → va_D A [(h0, .inr (2, [.int 12, .ref q_2, .int z0])), (hk, .inl (dB, 16, .inl kf)), (q_1, .inl (dN, 4, .inl ((rc_mix (rc_S 25) (rc_L kf 16) k).2.2.2))), (q_2, .inl (dN, 26, .inl ((rc_mix (rc_S 25) (rc_L kf 16) k).2.2.1)))] → va_S A s.heap H locs → lv_has ls 9 [(0, .ref h0), (1, .ref hk), (2, .ref q_1), (3, .int 78), (4, .int ((rc_mix (rc_S 25) (rc_L kf 16) k).1)), (5, .int ((rc_mix (rc_S 25) (rc_L kf 16) k).2.1)), (6, .int (nI (k % 26))), (7, .int (nI (k % 4))), (8, .int (nI k))] → W p l e rmSK s m args below meth c H locs 2 30 Q (F0 m 142 ls []) := by
            intro n
            induction n with
            | zero =>
              intro k H locs ls hi hP hD hS hl
              obtain rfl : k = 78 := by omega
              refine lv_iload hx hb dX2_setKey_142 (lv_at hl 8 rfl) ?_
              refine lv_iload_n hx hb dX2_setKey_144 rfl (lv_at hl 3 rfl) ?_
              refine lv_icmp_ge (tgt := 229) hx hb dX2_setKey_145 (by decide) (fun _ => ?_) (fun c => absurd ((v_le (a := 78) (b := 78) rfl rfl (by omega) (by omega)).mpr (by omega)) c)
              have eK : (rc_mix (rc_S 25) (rc_L kf 16) 78).2.2.1 = rc_key (fun j => kf j &&& 255) := by rw [rc_L16]; rfl
              rw [eK] at hP hD
              have hP9 : va_P D vwCl [(h0, .inr (2, [.int 12, .ref q_2, .int z0])), (hk, .inl (dB, 16, .inl kf)), (q_2, .inl (dN, 26, .inl (rc_key (fun j => kf j &&& 255))))] H := hP.sub [0, 1, 3] rfl
              have hD9 : va_D A [(h0, .inr (2, [.int 12, .ref q_2, .int z0])), (hk, .inl (dB, 16, .inl kf)), (q_2, .inl (dN, 26, .inl (rc_key (fun j => kf j &&& 255))))] := hD.sub [0, 1, 3] (by decide) rfl
              subst hQ
              exact W.vret hx hb hr (fun t ht hW => ⟨⟨q_2, rfl, trivial, by rw [ht]; exact hP9, hD9⟩, hS.F ht⟩) hS.2.2 dX2_setKey_229 hlocks
            | succ n ih =>
              intro k H locs ls hi hP hD hS hl
              refine lv_iload hx hb dX2_setKey_142 (lv_at hl 8 rfl) ?_
              refine lv_iload_n hx hb dX2_setKey_144 rfl (lv_at hl 3 rfl) ?_
              refine lv_icmp_ge (tgt := 229) hx hb dX2_setKey_145 (by decide) (fun c => absurd ((v_le (a := 78) (b := k) rfl rfl (by omega) (by omega)).mp c) (by omega)) (fun _ => ?_)
              refine lv_aload_n hx hb dX2_setKey_148 rfl (lv_at hl 0 rfl) ?_
              refine va_get (D := D) (ci := 2) (v := .ref q_2) (C := RX2) (T := TX2) (N := 3) hx hb hts in_X2 hown hK hP 0 rfl rfl 1 (by decide) (hts _ q69) (fun _ h9 => h9) rfl dX2_setKey_149 ?_
              refine lv_iload hx hb dX2_setKey_152 (lv_at hl 6 rfl) ?_
              refine lv_aload_n hx hb dX2_setKey_154 rfl (lv_at hl 0 rfl) ?_
              refine lv_aload_n hx hb dX2_setKey_155 rfl (lv_at hl 0 rfl) ?_
              refine va_get (D := D) (ci := 2) (v := .ref q_2) (C := RX2) (T := TX2) (N := 3) hx hb hts in_X2 hown hK hP 0 rfl rfl 1 (by decide) (hts _ q69) (fun _ h9 => h9) rfl dX2_setKey_156 ?_
              refine lv_iload hx hb dX2_setKey_159 (lv_at hl 6 rfl) ?_
              refine v_iald hx hb hK hP 3 1 rfl rfl (k := (k % 26)) rfl (by omega) (Nat.le_of_ble_eq_true rfl) dX2_setKey_161 ?_
              refine lv_iload hx hb dX2_setKey_162 (lv_at hl 4 rfl) ?_
              refine lv_iadd hx hb dX2_setKey_164 ?_
              refine lv_iload hx hb dX2_setKey_165 (lv_at hl 5 rfl) ?_
              refine lv_iadd hx hb dX2_setKey_167 ?_
              refine lv_iconst (v := 3) hx hb dX2_setKey_168 (by decide) ?_
              refine vp_callSi (W.runV (As := [.int (((((rc_mix (rc_S 25) (rc_L kf 16) k).2.2.1) (k % 26)) + (rc_mix (rc_S 25) (rc_L kf 16) k).1) + (rc_mix (rc_S 25) (rc_L kf 16) k).2.1), .int 3]) (rest := [.int (nI (k % 26)), .ref q_2]) ⟨hx, hb, hml, hown, hts⟩ (metX2_rotateLeft l D dB dN H.size h0 (((((rc_mix (rc_S 25) (rc_L kf 16) k).2.2.1) (k % 26)) + (rc_mix (rc_S 25) (rc_L kf 16) k).1) + (rc_mix (rc_S 25) (rc_L kf 16) k).2.1) 3) (cwV 2 hts (lw_V q122 q124 qs2 q14 q125) rfl rfl rfl (by decide +kernel) ⟨(Nat.le_of_ble_eq_true rfl), (Nat.le_of_ble_eq_true rfl)⟩) (v_preV (q0 := 0) (ci := 2) (q := (RX2, TX2, 3)) (fs := [.int 12, .ref q_2, .int z0]) vT_mv trivial hP rfl rfl (hP.sub (ws' := []) [] rfl) (hD.sub (ws' := []) [] (by decide) rfl) hK) rfl rfl hl.1 rfl (lv_room (Nat.le_of_ble_eq_true rfl)) dX2_setKey_169 ⟨(Nat.le_of_ble_eq_true rfl), (Nat.le_of_ble_eq_true rfl)⟩) (fun a1 ea1 => ?_)
              have ea1 : a1 = rc_stepA k (rc_mix (rc_S 25) (rc_L kf 16) k) := ea1
              subst ea1
              refine lv_dup_x2 hx hb dX2_setKey_172 rfl rfl rfl ?_
              refine v_iast hx hb hK hP hD hS 3 1 rfl rfl (k := (k % 26)) rfl (by omega) (Nat.le_of_ble_eq_true rfl) dX2_setKey_173 (fun H locs hP hD hS => ?_)
              have hP : va_P D vwCl [(h0, .inr (2, [.int 12, .ref q_2, .int z0])), (hk, .inl (dB, 16, .inl kf)), (q_1, .inl (dN, 4, .inl ((rc_mix (rc_S 25) (rc_L kf 16) k).2.2.2))), (q_2, .inl (dN, 26, .inl (upd ((rc_mix (rc_S 25) (rc_L kf 16) k).2.2.1) (k % 26) (rc_stepA k (rc_mix (rc_S 25) (rc_L kf 16) k)))))] H := hP
              have hD : va_D A [(h0, .inr (2, [.int 12, .ref q_2, .int z0])), (hk, .inl (dB, 16, .inl kf)), (q_1, .inl (dN, 4, .inl ((rc_mix (rc_S 25) (rc_L kf 16) k).2.2.2))), (q_2, .inl (dN, 26, .inl (upd ((rc_mix (rc_S 25) (rc_L kf 16) k).2.2.1) (k % 26) (rc_stepA k (rc_mix (rc_S 25) (rc_L kf 16) k)))))] := hD
              refine lv_istore (lv' := [(4, .int (rc_stepA k (rc_mix (rc_S 25) (rc_L kf 16) k))), (0, .ref h0), (1, .ref hk), (2, .ref q_1), (3, .int 78), (5, .int ((rc_mix (rc_S 25) (rc_L kf 16) k).2.1)), (6, .int (nI (k % 26))), (7, .int (nI (k % 4))), (8, .int (nI k))]) hx hb dX2_setKey_174 hl (by decide) rfl (fun ls hl => ?_)
              refine lv_aload_n hx hb dX2_setKey_176 rfl (lv_at hl 3 rfl) ?_
              refine lv_iload hx hb dX2_setKey_177 (lv_at hl 7 rfl) ?_
              refine lv_aload_n hx hb dX2_setKey_179 rfl (lv_at hl 1 rfl) ?_
              refine lv_aload_n hx hb dX2_setKey_180 rfl (lv_at hl 3 rfl) ?_
              refine lv_iload hx hb dX2_setKey_181 (lv_at hl 7 rfl) ?_
              refine v_iald hx hb hK hP 2 1 rfl rfl (k := (k % 4)) rfl (by omega) (Nat.le_of_ble_eq_true rfl) dX2_setKey_183 ?_
              refine lv_iload hx hb dX2_setKey_184 (lv_at hl 0 rfl) ?_
              refine lv_iadd hx hb dX2_setKey_186 ?_
              refine lv_iload hx hb dX2_setKey_187 (lv_at hl 5 rfl) ?_
              refine lv_iadd hx hb dX2_setKey_189 ?_
              refine lv_iload hx hb dX2_setKey_190 (lv_at hl 0 rfl) ?_
              refine lv_iload hx hb dX2_setKey_192 (lv_at hl 5 rfl) ?_
              refine lv_iadd hx hb dX2_setKey_194 ?_
              refine vp_callSi (W.runV (As := [.int (((((rc_mix (rc_S 25) (rc_L kf 16) k).2.2.2) (k % 4)) + (rc_stepA k (rc_mix (rc_S 25) (rc_L kf 16) k))) + (rc_mix (rc_S 25) (rc_L kf 16) k).2.1), .int ((rc_stepA k (rc_mix (rc_S 25) (rc_L kf 16) k)) + (rc_mix (rc_S 25) (rc_L kf 16) k).2.1)]) (rest := [.int (nI (k % 4)), .ref q_1]) ⟨hx, hb, hml, hown, hts⟩ (metX2_rotateLeft l D dB dN H.size h0 (((((rc_mix (rc_S 25) (rc_L kf 16) k).2.2.2) (k % 4)) + (rc_stepA k (rc_mix (rc_S 25) (rc_L kf 16) k))) + (rc_mix (rc_S 25) (rc_L kf 16) k).2.1) ((rc_stepA k (rc_mix (rc_S 25) (rc_L kf 16) k)) + (rc_mix (rc_S 25) (rc_L kf 16) k).2.1)) (cwV 2 hts (lw_V q122 q124 qs2 q14 q125) rfl rfl rfl (by decide +kernel) ⟨(Nat.le_of_ble_eq_true rfl), (Nat.le_of_ble_eq_true rfl)⟩) (v_preV (q0 := 0) (ci := 2) (q := (RX2, TX2, 3)) (fs := [.int 12, .ref q_2, .int z0]) vT_mv trivial hP rfl rfl (hP.sub (ws' := []) [] rfl) (hD.sub (ws' := []) [] (by decide) rfl) hK) rfl rfl hl.1 rfl (lv_room (Nat.le_of_ble_eq_true rfl)) dX2_setKey_195 ⟨(Nat.le_of_ble_eq_true rfl), (Nat.le_of_ble_eq_true rfl)⟩) (fun b1 eb1 => ?_)
              have eb1 : b1 = rc_stepB k (rc_mix (rc_S 25) (rc_L kf 16) k) := eb1
              subst eb1
              refine lv_dup_x2 hx hb dX2_setKey_198 rfl rfl rfl ?_
              refine v_iast hx hb hK hP hD hS 2 1 rfl rfl (k := (k % 4)) rfl (by omega) (Nat.le_of_ble_eq_true rfl) dX2_setKey_199 (fun H locs hP hD hS => ?_)
              have hP : va_P D vwCl [(h0, .inr (2, [.int 12, .ref q_2, .int z0])), (hk, .inl (dB, 16, .inl kf)), (q_1, .inl (dN, 4, .inl (upd ((rc_mix (rc_S 25) (rc_L kf 16) k).2.2.2) (k % 4) (rc_stepB k (rc_mix (rc_S 25) (rc_L kf 16) k))))), (q_2, .inl (dN, 26, .inl (upd ((rc_mix (rc_S 25) (rc_L kf 16) k).2.2.1) (k % 26) (rc_stepA k (rc_mix (rc_S 25) (rc_L kf 16) k)))))] H := hP
              have hD : va_D A [(h0, .inr (2, [.int 12, .ref q_2, .int z0])), (hk, .inl (dB, 16, .inl kf)), (q_1, .inl (dN, 4, .inl (upd ((rc_mix (rc_S 25) (rc_L kf 16) k).2.2.2) (k % 4) (rc_stepB k (rc_mix (rc_S 25) (rc_L kf 16) k))))), (q_2, .inl (dN, 26, .inl (upd ((rc_mix (rc_S 25) (rc_L kf 16) k).2.2.1) (k % 26) (rc_stepA k (rc_mix (rc_S 25) (rc_L kf 16) k)))))] := hD
              refine lv_istore (lv' := [(5, .int (rc_stepB k (rc_mix (rc_S 25) (rc_L kf 16) k))), (4, .int (rc_stepA k (rc_mix (rc_S 25) (rc_L kf 16) k))), (0, .ref h0), (1, .ref hk), (2, .ref q_1), (3, .int 78), (6, .int (nI (k % 26))), (7, .int (nI (k % 4))), (8, .int (nI k))]) hx hb dX2_setKey_200 hl (by decide) rfl (fun ls hl => ?_)
              refine lv_iload hx hb dX2_setKey_202 (lv_at hl 6 rfl) ?_
              refine lv_iconst (v := 1) hx hb dX2_setKey_204 (by decide) ?_
              refine lv_iadd hx hb dX2_setKey_205 ?_
              refine lv_aload_n hx hb dX2_setKey_206 rfl (lv_at hl 2 rfl) ?_
              refine va_get (D := D) (ci := 2) (v := .ref q_2) (C := RX2) (T := TX2) (N := 3) hx hb hts in_X2 hown hK hP 0 rfl rfl 1 (by decide) (hts _ q69) (fun _ h9 => h9) rfl dX2_setKey_207 ?_
              refine va_alen (v := 26) hx hb hK hP 3 1 rfl rfl rfl dX2_setKey_210 ?_
              refine lv_irem hx hb dX2_setKey_211 (by decide) ?_
              refine v_top (y := nI (((k % 26) + 1) % 26)) (v_rem (v_add rfl rfl) rfl (by omega) (by decide) (Nat.le_of_ble_eq_true rfl)) ?_
              refine v_top (y := nI ((k + 1) % 26)) (congrArg nI (by omega)) ?_
              refine lv_istore (lv' := [(6, .int (nI ((k + 1) % 26))), (5, .int (rc_stepB k (rc_mix (rc_S 25) (rc_L kf 16) k))), (4, .int (rc_stepA k (rc_mix (rc_S 25) (rc_L kf 16) k))), (0, .ref h0), (1, .ref hk), (2, .ref q_1), (3, .int 78), (7, .int (nI (k % 4))), (8, .int (nI k))]) hx hb dX2_setKey_212 hl (by decide) rfl (fun ls hl => ?_)
              refine lv_iload hx hb dX2_setKey_214 (lv_at hl 7 rfl) ?_
              refine lv_iconst (v := 1) hx hb dX2_setKey_216 (by decide) ?_
              refine lv_iadd hx hb dX2_setKey_217 ?_
              refine lv_aload_n hx hb dX2_setKey_218 rfl (lv_at hl 5 rfl) ?_
              refine va_alen (v := 4) hx hb hK hP 2 1 rfl rfl rfl dX2_setKey_219 ?_
              refine lv_irem hx hb dX2_setKey_220 (by decide) ?_
              refine v_top (y := nI (((k % 4) + 1) % 4)) (v_rem (v_add rfl rfl) rfl (by omega) (by decide) (Nat.le_of_ble_eq_true rfl)) ?_
              refine v_top (y := nI ((k + 1) % 4)) (congrArg nI (by omega)) ?_
              refine lv_istore (lv' := [(7, .int (nI ((k + 1) % 4))), (6, .int (nI ((k + 1) % 26))), (5, .int (rc_stepB k (rc_mix (rc_S 25) (rc_L kf 16) k))), (4, .int (rc_stepA k (rc_mix (rc_S 25) (rc_L kf 16) k))), (0, .ref h0), (1, .ref hk), (2, .ref q_1), (3, .int 78), (8, .int (nI k))]) hx hb dX2_setKey_221 hl (by decide) rfl (fun ls hl => ?_)
              refine lv_iinc (v := (nI (k + 1))) (lv' := [(8, .int (nI (k + 1))), (7, .int (nI ((k + 1) % 4))), (6, .int (nI ((k + 1) % 26))), (5, .int (rc_stepB k (rc_mix (rc_S 25) (rc_L kf 16) k))), (4, .int (rc_stepA k (rc_mix (rc_S 25) (rc_L kf 16) k))), (0, .ref h0), (1, .ref hk), (2, .ref q_1), (3, .int 78)]) hx hb dX2_setKey_223 hl (k := 8) rfl (v_add rfl (show (Int32.ofInt 1) = nI 1 from rfl)) (by decide) rfl (fun ls hl => ?_)
              refine lv_goto (tgt := 142) hx hb dX2_setKey_226 (by decide) ?_
              exact ih (k + 1) H locs ls (by omega) (hP.sub [0, 1, 2, 3] rfl) (hD.sub [0, 1, 2, 3] (by decide) rfl) hS (lv_sub hl [5, 6, 7, 8, 4, 3, 2, 1, 0] rfl)
          exact loop3 78 0 _ _ _ rfl (hP.sub [0, 1, 2, 3] rfl) (hD.sub [0, 1, 2, 3] (by decide) rfl) hS (lv_sub hl [6, 7, 8, 5, 4, 3, 2, 1, 0] rfl)
        | succ n ih =>
          intro n2 H locs ls hi hP hD hS hl
          refine lv_iload_n hx hb dX2_setKey_69 rfl (lv_at hl 3 rfl) ?_
          refine lv_aload_n hx hb dX2_setKey_70 rfl (lv_at hl 0 rfl) ?_
          refine va_get (D := D) (ci := 2) (v := .ref q_2) (C := RX2) (T := TX2) (N := 3) hx hb hts in_X2 hown hK hP 0 rfl rfl 1 (by decide) (hts _ q69) (fun _ h9 => h9) rfl dX2_setKey_71 ?_
          refine va_alen (v := 26) hx hb hK hP 3 1 rfl rfl rfl dX2_setKey_74 ?_
          refine lv_icmp_ge (tgt := 101) hx hb dX2_setKey_75 (by decide) (fun c => absurd ((v_le (a := 26) (b := (n2 + 1)) rfl rfl (by omega) (by omega)).mp c) (by omega)) (fun _ => ?_)
          refine lv_aload_n hx hb dX2_setKey_78 rfl (lv_at hl 0 rfl) ?_
          refine va_get (D := D) (ci := 2) (v := .ref q_2) (C := RX2) (T := TX2) (N := 3) hx hb hts in_X2 hown hK hP 0 rfl rfl 1 (by decide) (hts _ q69) (fun _ h9 => h9) rfl dX2_setKey_79 ?_
          refine lv_iload_n hx hb dX2_setKey_82 rfl (lv_at hl 3 rfl) ?_
          refine lv_aload_n hx hb dX2_setKey_83 rfl (lv_at hl 0 rfl) ?_
          refine va_get (D := D) (ci := 2) (v := .ref q_2) (C := RX2) (T := TX2) (N := 3) hx hb hts in_X2 hown hK hP 0 rfl rfl 1 (by decide) (hts _ q69) (fun _ h9 => h9) rfl dX2_setKey_84 ?_
          refine lv_iload_n hx hb dX2_setKey_87 rfl (lv_at hl 3 rfl) ?_
          refine lv_iconst (v := 1) hx hb dX2_setKey_88 (by decide) ?_
          refine lv_isub hx hb dX2_setKey_89 ?_
          refine v_iald hx hb hK hP 3 1 rfl rfl (k := ((n2 + 1) - 1)) (v_sub rfl rfl (by omega)) (by omega) (Nat.le_of_ble_eq_true rfl) dX2_setKey_90 ?_
          refine lv_ldc (v := (-1640531527)) hx hb hown (hts _ q121) dX2_setKey_91 ?_
          refine lv_iadd hx hb dX2_setKey_93 ?_
          refine v_iast hx hb hK hP hD hS 3 1 rfl rfl (k := (n2 + 1)) rfl (by omega) (Nat.le_of_ble_eq_true rfl) dX2_setKey_94 (fun H locs hP hD hS => ?_)
          have hP : va_P D vwCl [(h0, .inr (2, [.int 12, .ref q_2, .int z0])), (hk, .inl (dB, 16, .inl kf)), (q_1, .inl (dN, 4, .inl (rc_L kf 16))), (q_2, .inl (dN, 26, .inl (upd (rc_S n2) (n2 + 1) (((rc_S n2) ((n2 + 1) - 1)) + (-1640531527)))))] H := hP
          have hD : va_D A [(h0, .inr (2, [.int 12, .ref q_2, .int z0])), (hk, .inl (dB, 16, .inl kf)), (q_1, .inl (dN, 4, .inl (rc_L kf 16))), (q_2, .inl (dN, 26, .inl (upd (rc_S n2) (n2 + 1) (((rc_S n2) ((n2 + 1) - 1)) + (-1640531527)))))] := hD
          refine lv_iinc (v := (nI ((n2 + 1) + 1))) (lv' := [(3, .int (nI ((n2 + 1) + 1))), (0, .ref h0), (1, .ref hk), (2, .ref q_1)]) hx hb dX2_setKey_95 hl (k := 3) rfl (v_add rfl (show (Int32.ofInt 1) = nI 1 from rfl)) (by decide) rfl (fun ls hl => ?_)
          refine lv_goto (tgt := 69) hx hb dX2_setKey_98 (by decide) ?_
          exact ih (n2 + 1) H locs ls (by omega) (hP.sub [0, 1, 2, 3] rfl) (hD.sub [0, 1, 2, 3] (by decide) rfl) hS (lv_sub hl [1, 2, 3, 0] rfl)
      exact loop2 25 0 _ _ _ rfl (hP.sub [0, 1, 2, 3] rfl) (hD.sub [0, 1, 2, 3] (by decide) rfl) hS (lv_sub hl [1, 2, 3, 0] rfl)
    | succ n ih =>
      intro i H locs ls hi hP hD hS hl
      refine lv_iload_n hx hb dX2_setKey_11 rfl (lv_at hl 3 rfl) ?_
      refine lv_aload_n hx hb dX2_setKey_12 rfl (lv_at hl 1 rfl) ?_
      refine va_alen (v := 16) hx hb hK hP 1 0 rfl rfl rfl dX2_setKey_13 ?_
      refine lv_icmp_eq (tgt := 45) hx hb dX2_setKey_14 (by decide) (fun c => absurd ((v_eq (a := i) (b := 16) rfl rfl (by omega) (by omega)).mp c) (by omega)) (fun _ => ?_)
      refine lv_aload_n hx hb dX2_setKey_17 rfl (lv_at hl 2 rfl) ?_
      refine lv_iload_n hx hb dX2_setKey_18 rfl (lv_at hl 3 rfl) ?_
      refine lv_iconst (v := 4) hx hb dX2_setKey_19 (by decide) ?_
      refine lv_idiv hx hb dX2_setKey_20 (by decide) ?_
      refine v_top (y := nI (i / 4)) (v_div rfl rfl (by omega) (by decide) (Nat.le_of_ble_eq_true rfl)) ?_
      refine lv_dup2_11 hx hb dX2_setKey_21 rfl rfl ?_
      refine v_iald hx hb hK hP 2 1 rfl rfl (k := (i / 4)) rfl (by omega) (Nat.le_of_ble_eq_true rfl) dX2_setKey_22 ?_
      refine lv_aload_n hx hb dX2_setKey_23 rfl (lv_at hl 1 rfl) ?_
      refine lv_iload_n hx hb dX2_setKey_24 rfl (lv_at hl 3 rfl) ?_
      refine v_bald hx hb hK hP 1 0 rfl rfl (k := i) rfl (by omega) (Nat.le_of_ble_eq_true rfl) dX2_setKey_25 ?_
      refine lv_sipush (v := 255) hx hb dX2_setKey_26 (by decide) ?_
      refine lv_iand hx hb dX2_setKey_29 ?_
      refine lv_bipush (v := 8) hx hb dX2_setKey_30 (by decide) ?_
      refine lv_iload_n hx hb dX2_setKey_32 rfl (lv_at hl 3 rfl) ?_
      refine lv_iconst (v := 4) hx hb dX2_setKey_33 (by decide) ?_
      refine lv_irem hx hb dX2_setKey_34 (by decide) ?_
      refine v_top (y := nI (i % 4)) (v_rem rfl rfl (by omega) (by decide) (Nat.le_of_ble_eq_true rfl)) ?_
      refine lv_imul hx hb dX2_setKey_35 ?_
      refine lv_ishl hx hb dX2_setKey_36 ?_
      refine lv_iadd hx hb dX2_setKey_37 ?_
      refine v_iast hx hb hK hP hD hS 2 1 rfl rfl (k := (i / 4)) rfl (by omega) (Nat.le_of_ble_eq_true rfl) dX2_setKey_38 (fun H locs hP hD hS => ?_)
      have hP : va_P D vwCl [(h0, .inr (2, [.int 12, .null, .int z0])), (hk, .inl (dB, 16, .inl kf)), (q_1, .inl (dN, 4, .inl (upd (rc_L kf i) (i / 4) (((rc_L kf i) (i / 4)) + (((kf i) &&& 255) <<< ((8 * (nI (i % 4))) &&& 31))))))] H := hP
      have hD : va_D A [(h0, .inr (2, [.int 12, .null, .int z0])), (hk, .inl (dB, 16, .inl kf)), (q_1, .inl (dN, 4, .inl (upd (rc_L kf i) (i / 4) (((rc_L kf i) (i / 4)) + (((kf i) &&& 255) <<< ((8 * (nI (i % 4))) &&& 31))))))] := hD
      refine lv_iinc (v := (nI (i + 1))) (lv' := [(3, .int (nI (i + 1))), (0, .ref h0), (1, .ref hk), (2, .ref q_1)]) hx hb dX2_setKey_39 hl (k := 3) rfl (v_add rfl (show (Int32.ofInt 1) = nI 1 from rfl)) (by decide) rfl (fun ls hl => ?_)
      refine lv_goto (tgt := 11) hx hb dX2_setKey_42 (by decide) ?_
      exact ih (i + 1) H locs ls (by omega) (hP.sub [0, 1, 2] rfl) (hD.sub [0, 1, 2] (by decide) rfl) hS (lv_sub hl [1, 2, 3, 0] rfl)
  exact loop1 16 0 _ _ _ rfl (hP.sub [0, 1, 2] rfl) (hD.sub [0, 1, 2] (by decide) rfl) hS (lv_sub hl [2, 3, 1, 0] rfl)
end
section
abbrev rmEB : Room := { frames := 1, cells := 0, slots := 0, locals := 23 }
set_option maxHeartbeats 4000000 in
set_option maxRecDepth 100000 in
theorem metX2_encryptBlock (l : Launch) (D : va_G) (dB dN : ClassId) (sz : Nat) (h0 sa ib ob : Nat) (z : Int32) (Sf bf uf : Nat → Int32) : Met l yX2_encryptBlock (ws_ yX2_encryptBlock cX2_encryptBlock 8 (some .int)) rmEB (va_Pc [.ref h0, .ref ib, .int 0, .ref ob, .int 0] (vPre D dB dN vT sz [(h0, .inr (2, [.int 12, .ref sa, .int z])), (sa, .inl (dN, 26, .inl Sf)), (ib, .inl (dB, 8, .inl bf)), (ob, .inl (dB, 8, .inl uf))])) (qI D (fun _ : Unit => [(h0, .inr (2, [.int 12, .ref sa, .int z])), (sa, .inl (dN, 26, .inl Sf)), (ib, .inl (dB, 8, .inl bf)), (ob, .inl (dB, 8, .inl (rc_oE uf (rc_E Sf (fun j => bf j &&& 255)))))]) (va_A [(h0, .inr (2, [.int 12, .ref sa, .int z])), (sa, .inl (dN, 26, .inl Sf)), (ib, .inl (dB, 8, .inl bf)), (ob, .inl (dB, 8, .inl uf))] sz)) 0 0 (va_A [(h0, .inr (2, [.int 12, .ref sa, .int z])), (sa, .inl (dN, 26, .inl Sf)), (ib, .inl (dB, 8, .inl bf)), (ob, .inl (dB, 8, .inl uf))] sz) := by
  refine v_met (Qc := qI D (fun _ : Unit => [(h0, .inr (2, [.int 12, .ref sa, .int z])), (sa, .inl (dN, 26, .inl Sf)), (ib, .inl (dB, 8, .inl bf)), (ob, .inl (dB, 8, .inl (rc_oE uf (rc_E Sf (fun j => bf j &&& 255)))))])) (by decide) (Nat.le_of_ble_eq_true rfl) ?_
  rintro p e s m args below meth c A ls Q ⟨hx, hb, hr, hlocks, hml, hown, hts, hin⟩ hP hK hD hX hA hS hl hQ
  have hl : lv_has ls 8 [(0, .ref h0), (1, .ref ib), (2, .int 0), (3, .ref ob), (4, .int 0)] := hl
  have hown : s.vm.findClass RX2 = some m.cls := hown
  refine lv_aload_n hx hb dX2_encryptBlock_0 rfl (lv_at hl 0 rfl) ?_
  refine lv_aload_n hx hb dX2_encryptBlock_1 rfl (lv_at hl 1 rfl) ?_
  refine lv_iload_n hx hb dX2_encryptBlock_2 rfl (lv_at hl 2 rfl) ?_
  refine vp_callSi (W.runV (As := [.ref ib, .int 0]) (rest := []) ⟨hx, hb, hml, hown, hts⟩ (metX2_bytesToWord l D dB dN s.heap.size h0 ib bf 0 0 8 rfl (by decide) (Nat.le_of_ble_eq_true rfl)) (cwV 2 hts (lw_V q210 q212 qs5 q14 q213) rfl rfl rfl (by decide +kernel) ⟨(Nat.le_of_ble_eq_true rfl), (Nat.le_of_ble_eq_true rfl)⟩) (v_preV (q0 := 0) (ci := 2) (q := (RX2, TX2, 3)) (fs := [.int 12, .ref sa, .int z]) vT_mv trivial hP rfl rfl (hP.sub (ws' := [(ib, .inl (dB, 8, .inl bf))]) [2] rfl) (hD.sub (ws' := [(ib, .inl (dB, 8, .inl bf))]) [2] (by decide) rfl) hK) rfl rfl hl.1 rfl (lv_room (Nat.le_of_ble_eq_true rfl)) dX2_encryptBlock_3 ⟨(Nat.le_of_ble_eq_true rfl), (Nat.le_of_ble_eq_true rfl)⟩) (fun x0 ex0 => ?_)
  subst ex0
  refine lv_aload_n hx hb dX2_encryptBlock_6 rfl (lv_at hl 0 rfl) ?_
  refine va_get (D := D) (ci := 2) (v := .ref sa) (C := RX2) (T := TX2) (N := 3) hx hb hts in_X2 hown hK hP 0 rfl rfl 1 (by decide) (hts _ q69) (fun _ h9 => h9) rfl dX2_encryptBlock_7 ?_
  refine lv_iconst (v := 0) hx hb dX2_encryptBlock_10 (by decide) ?_
  refine v_iald hx hb hK hP 1 1 rfl rfl (k := 0) rfl (by omega) (Nat.le_of_ble_eq_true rfl) dX2_encryptBlock_11 ?_
  refine lv_iadd hx hb dX2_encryptBlock_12 ?_
  refine lv_istore (lv' := [(5, .int ((rc_low (fun j => bf j &&& 255) 0) + (Sf 0))), (0, .ref h0), (1, .ref ib), (2, .int 0), (3, .ref ob), (4, .int 0)]) hx hb dX2_encryptBlock_13 hl (by decide) rfl (fun ls hl => ?_)
  refine lv_aload_n hx hb dX2_encryptBlock_15 rfl (lv_at hl 1 rfl) ?_
  refine lv_aload_n hx hb dX2_encryptBlock_16 rfl (lv_at hl 2 rfl) ?_
  refine lv_iload_n hx hb dX2_encryptBlock_17 rfl (lv_at hl 3 rfl) ?_
  refine lv_iconst (v := 4) hx hb dX2_encryptBlock_18 (by decide) ?_
  refine lv_iadd hx hb dX2_encryptBlock_19 ?_
  refine vp_callSi (W.runV (As := [.ref ib, .int (0 + 4)]) (rest := []) ⟨hx, hb, hml, hown, hts⟩ (metX2_bytesToWord l D dB dN s.heap.size h0 ib bf (0 + 4) 4 8 (by decide) (by decide) (Nat.le_of_ble_eq_true rfl)) (cwV 2 hts (lw_V q210 q212 qs5 q14 q213) rfl rfl rfl (by decide +kernel) ⟨(Nat.le_of_ble_eq_true rfl), (Nat.le_of_ble_eq_true rfl)⟩) (v_preV (q0 := 0) (ci := 2) (q := (RX2, TX2, 3)) (fs := [.int 12, .ref sa, .int z]) vT_mv trivial hP rfl rfl (hP.sub (ws' := [(ib, .inl (dB, 8, .inl bf))]) [2] rfl) (hD.sub (ws' := [(ib, .inl (dB, 8, .inl bf))]) [2] (by decide) rfl) hK) rfl rfl hl.1 rfl (lv_room (Nat.le_of_ble_eq_true rfl)) dX2_encryptBlock_20 ⟨(Nat.le_of_ble_eq_true rfl), (Nat.le_of_ble_eq_true rfl)⟩) (fun x1 ex1 => ?_)
  subst ex1
  refine lv_aload_n hx hb dX2_encryptBlock_23 rfl (lv_at hl 1 rfl) ?_
  refine va_get (D := D) (ci := 2) (v := .ref sa) (C := RX2) (T := TX2) (N := 3) hx hb hts in_X2 hown hK hP 0 rfl rfl 1 (by decide) (hts _ q69) (fun _ h9 => h9) rfl dX2_encryptBlock_24 ?_
  refine lv_iconst (v := 1) hx hb dX2_encryptBlock_27 (by decide) ?_
  refine v_iald hx hb hK hP 1 1 rfl rfl (k := 1) rfl (by omega) (Nat.le_of_ble_eq_true rfl) dX2_encryptBlock_28 ?_
  refine lv_iadd hx hb dX2_encryptBlock_29 ?_
  refine lv_istore (lv' := [(6, .int ((rc_low (fun j => bf j &&& 255) 4) + (Sf 1))), (5, .int ((rc_low (fun j => bf j &&& 255) 0) + (Sf 0))), (0, .ref h0), (1, .ref ib), (2, .int 0), (3, .ref ob), (4, .int 0)]) hx hb dX2_encryptBlock_30 hl (by decide) rfl (fun ls hl => ?_)
  refine lv_iconst (v := 1) hx hb dX2_encryptBlock_32 (by decide) ?_
  refine lv_istore (lv' := [(7, .int 1), (6, .int ((rc_low (fun j => bf j &&& 255) 4) + (Sf 1))), (5, .int ((rc_low (fun j => bf j &&& 255) 0) + (Sf 0))), (0, .ref h0), (1, .ref ib), (2, .int 0), (3, .ref ob), (4, .int 0)]) hx hb dX2_encryptBlock_33 hl (by decide) rfl (fun ls hl => ?_)
  have loop1 : ∀ (n r : Nat) (H : Heap) (locs : List Loc) (ls : Array Slot), r + n = 12 → va_P D vwCl [(h0, .inr (2, [.int 12, .ref sa, .int z])), (sa, .inl (dN, 26, .inl Sf)), (ib, .inl (dB, 8, .inl bf)), (ob, .inl (dB, 8, .inl uf))] H → va_D A [(h0, .inr (2, [.int 12, .ref sa, .int z])), (sa, .inl (dN, 26, .inl Sf)), (ib, .inl (dB, 8, .inl bf)), (ob, .inl (dB, 8, .inl uf))] → va_S A s.heap H locs → lv_has ls 8 [(0, .ref h0), (1, .ref ib), (2, .int 0), (3, .ref ob), (4, .int 0), (5, .int ((rc_enc Sf (rc_low (fun j => bf j &&& 255) 0 + Sf 0) (rc_low (fun j => bf j &&& 255) 4 + Sf 1) r).1)), (6, .int ((rc_enc Sf (rc_low (fun j => bf j &&& 255) 0 + Sf 0) (rc_low (fun j => bf j &&& 255) 4 + Sf 1) r).2)), (7, .int (nI (r + 1)))] → W p l e rmEB s m args below meth c H locs 0 0 Q (F0 m 35 ls []) := by
    intro n
    induction n with
    | zero =>
      intro r H locs ls hi hP hD hS hl
      obtain rfl : r = 12 := by omega
      refine lv_iload hx hb dX2_encryptBlock_35 (lv_at hl 7 rfl) ?_
      refine lv_aload_n hx hb dX2_encryptBlock_37 rfl (lv_at hl 0 rfl) ?_
      refine va_get (D := D) (ci := 2) (v := .int 12) (C := RX2) (T := TX2) (N := 3) hx hb hts in_X2 hown hK hP 0 rfl rfl 0 (by decide) (hts _ q68) (fun _ h9 => h9) rfl dX2_encryptBlock_38 ?_
      refine lv_icmp_gt (tgt := 98) hx hb dX2_encryptBlock_41 (by decide) (fun _ => ?_) (fun c => absurd ((v_lt (a := 12) (b := (12 + 1)) rfl rfl (by omega) (by omega)).mpr (by omega)) c)
      refine lv_aload_n hx hb dX2_encryptBlock_98 rfl (lv_at hl 0 rfl) ?_
      refine lv_iload hx hb dX2_encryptBlock_99 (lv_at hl 5 rfl) ?_
      refine lv_aload_n hx hb dX2_encryptBlock_101 rfl (lv_at hl 3 rfl) ?_
      refine lv_iload hx hb dX2_encryptBlock_102 (lv_at hl 4 rfl) ?_
      refine v_callv (wr := [(h0, .inr (2, [.int 12, .ref sa, .int z])), (sa, .inl (dN, 26, .inl Sf)), (ib, .inl (dB, 8, .inl bf))]) (va_runV (As := [.int ((rc_enc Sf (rc_low (fun j => bf j &&& 255) 0 + Sf 0) (rc_low (fun j => bf j &&& 255) 4 + Sf 1) 12).1), .ref ob, .int 0]) (rest := []) ⟨hx, hb, hml, hown, hts⟩ (metX2_wordToBytes l D dB dN H.size h0 ob uf ((rc_enc Sf (rc_low (fun j => bf j &&& 255) 0 + Sf 0) (rc_low (fun j => bf j &&& 255) 4 + Sf 1) 12).1) 0 0 8 rfl (by decide) (Nat.le_of_ble_eq_true rfl)) (cwV 3 hts (lw_V q214 q216 qs6 q14 q217) rfl rfl rfl (by decide +kernel) ⟨(Nat.le_of_ble_eq_true rfl), (Nat.le_of_ble_eq_true rfl)⟩) (v_preV (q0 := 0) (ci := 2) (q := (RX2, TX2, 3)) (fs := [.int 12, .ref sa, .int z]) vT_mv trivial hP rfl rfl (hP.sub (ws' := [(ob, .inl (dB, 8, .inl uf))]) [3] rfl) (hD.sub (ws' := [(ob, .inl (dB, 8, .inl uf))]) [3] (by decide) rfl) hK) rfl rfl hl.1 rfl (lv_room (Nat.le_of_ble_eq_true rfl)) dX2_encryptBlock_104 ⟨(Nat.le_of_ble_eq_true rfl), (Nat.le_of_ble_eq_true rfl)⟩) hP hD hS hA [3] [0, 1, 2] rfl rfl (by decide) (by decide) (fun _ H locs _ hP hD hS => ?_)
      have hP : va_P D vwCl [(h0, .inr (2, [.int 12, .ref sa, .int z])), (sa, .inl (dN, 26, .inl Sf)), (ib, .inl (dB, 8, .inl bf)), (ob, .inl (dB, 8, .inl (rc_wE uf 0 ((rc_enc Sf (rc_low (fun j => bf j &&& 255) 0 + Sf 0) (rc_low (fun j => bf j &&& 255) 4 + Sf 1) 12).1))))] H := hP
      have hD : va_D A [(h0, .inr (2, [.int 12, .ref sa, .int z])), (sa, .inl (dN, 26, .inl Sf)), (ib, .inl (dB, 8, .inl bf)), (ob, .inl (dB, 8, .inl (rc_wE uf 0 ((rc_enc Sf (rc_low (fun j => bf j &&& 255) 0 + Sf 0) (rc_low (fun j => bf j &&& 255) 4 + Sf 1) 12).1))))] := hD
      refine lv_aload_n hx hb dX2_encryptBlock_107 rfl (lv_at hl 0 rfl) ?_
      refine lv_iload hx hb dX2_encryptBlock_108 (lv_at hl 6 rfl) ?_
      refine lv_aload_n hx hb dX2_encryptBlock_110 rfl (lv_at hl 3 rfl) ?_
      refine lv_iload hx hb dX2_encryptBlock_111 (lv_at hl 4 rfl) ?_
      refine lv_iconst (v := 4) hx hb dX2_encryptBlock_113 (by decide) ?_
      refine lv_iadd hx hb dX2_encryptBlock_114 ?_
      refine v_callv (wr := [(h0, .inr (2, [.int 12, .ref sa, .int z])), (sa, .inl (dN, 26, .inl Sf)), (ib, .inl (dB, 8, .inl bf))]) (va_runV (As := [.int ((rc_enc Sf (rc_low (fun j => bf j &&& 255) 0 + Sf 0) (rc_low (fun j => bf j &&& 255) 4 + Sf 1) 12).2), .ref ob, .int (0 + 4)]) (rest := []) ⟨hx, hb, hml, hown, hts⟩ (metX2_wordToBytes l D dB dN H.size h0 ob (rc_wE uf 0 ((rc_enc Sf (rc_low (fun j => bf j &&& 255) 0 + Sf 0) (rc_low (fun j => bf j &&& 255) 4 + Sf 1) 12).1)) ((rc_enc Sf (rc_low (fun j => bf j &&& 255) 0 + Sf 0) (rc_low (fun j => bf j &&& 255) 4 + Sf 1) 12).2) (0 + 4) 4 8 (by decide) (by decide) (Nat.le_of_ble_eq_true rfl)) (cwV 3 hts (lw_V q214 q216 qs6 q14 q217) rfl rfl rfl (by decide +kernel) ⟨(Nat.le_of_ble_eq_true rfl), (Nat.le_of_ble_eq_true rfl)⟩) (v_preV (q0 := 0) (ci := 2) (q := (RX2, TX2, 3)) (fs := [.int 12, .ref sa, .int z]) vT_mv trivial hP rfl rfl (hP.sub (ws' := [(ob, .inl (dB, 8, .inl (rc_wE uf 0 ((rc_enc Sf (rc_low (fun j => bf j &&& 255) 0 + Sf 0) (rc_low (fun j => bf j &&& 255) 4 + Sf 1) 12).1))))]) [3] rfl) (hD.sub (ws' := [(ob, .inl (dB, 8, .inl (rc_wE uf 0 ((rc_enc Sf (rc_low (fun j => bf j &&& 255) 0 + Sf 0) (rc_low (fun j => bf j &&& 255) 4 + Sf 1) 12).1))))]) [3] (by decide) rfl) hK) rfl rfl hl.1 rfl (lv_room (Nat.le_of_ble_eq_true rfl)) dX2_encryptBlock_115 ⟨(Nat.le_of_ble_eq_true rfl), (Nat.le_of_ble_eq_true rfl)⟩) hP hD hS hA [3] [0, 1, 2] rfl rfl (by decide) (by decide) (fun _ H locs _ hP hD hS => ?_)
      have hP : va_P D vwCl [(h0, .inr (2, [.int 12, .ref sa, .int z])), (sa, .inl (dN, 26, .inl Sf)), (ib, .inl (dB, 8, .inl bf)), (ob, .inl (dB, 8, .inl (rc_wE (rc_wE uf 0 ((rc_enc Sf (rc_low (fun j => bf j &&& 255) 0 + Sf 0) (rc_low (fun j => bf j &&& 255) 4 + Sf 1) 12).1)) 4 ((rc_enc Sf (rc_low (fun j => bf j &&& 255) 0 + Sf 0) (rc_low (fun j => bf j &&& 255) 4 + Sf 1) 12).2))))] H := hP
      have hD : va_D A [(h0, .inr (2, [.int 12, .ref sa, .int z])), (sa, .inl (dN, 26, .inl Sf)), (ib, .inl (dB, 8, .inl bf)), (ob, .inl (dB, 8, .inl (rc_wE (rc_wE uf 0 ((rc_enc Sf (rc_low (fun j => bf j &&& 255) 0 + Sf 0) (rc_low (fun j => bf j &&& 255) 4 + Sf 1) 12).1)) 4 ((rc_enc Sf (rc_low (fun j => bf j &&& 255) 0 + Sf 0) (rc_low (fun j => bf j &&& 255) 4 + Sf 1) 12).2))))] := hD
      refine lv_bipush (v := 8) hx hb dX2_encryptBlock_118 (by decide) ?_
      have hP : va_P D vwCl [(h0, .inr (2, [.int 12, .ref sa, .int z])), (sa, .inl (dN, 26, .inl Sf)), (ib, .inl (dB, 8, .inl bf)), (ob, .inl (dB, 8, .inl (rc_oE uf (rc_E Sf (fun j => bf j &&& 255)))))] H := hP
      have hD : va_D A [(h0, .inr (2, [.int 12, .ref sa, .int z])), (sa, .inl (dN, 26, .inl Sf)), (ib, .inl (dB, 8, .inl bf)), (ob, .inl (dB, 8, .inl (rc_oE uf (rc_E Sf (fun j => bf j &&& 255)))))] := hD
      have hP9 : va_P D vwCl [(h0, .inr (2, [.int 12, .ref sa, .int z])), (sa, .inl (dN, 26, .inl Sf)), (ib, .inl (dB, 8, .inl bf)), (ob, .inl (dB, 8, .inl (rc_oE uf (rc_E Sf (fun j => bf j &&& 255)))))] H := hP.sub [0, 1, 2, 3] rfl
      have hD9 : va_D A [(h0, .inr (2, [.int 12, .ref sa, .int z])), (sa, .inl (dN, 26, .inl Sf)), (ib, .inl (dB, 8, .inl bf)), (ob, .inl (dB, 8, .inl (rc_oE uf (rc_E Sf (fun j => bf j &&& 255)))))] := hD.sub [0, 1, 2, 3] (by decide) rfl
      subst hQ
      exact W.iret hx hb hr (fun t ht hW => ⟨⟨_, (), rfl, trivial, by rw [ht]; exact hP9, hD9⟩, hS.F ht⟩) hS.2.2 dX2_encryptBlock_120 hlocks
    | succ n ih =>
      intro r H locs ls hi hP hD hS hl
      refine lv_iload hx hb dX2_encryptBlock_35 (lv_at hl 7 rfl) ?_
      refine lv_aload_n hx hb dX2_encryptBlock_37 rfl (lv_at hl 0 rfl) ?_
      refine va_get (D := D) (ci := 2) (v := .int 12) (C := RX2) (T := TX2) (N := 3) hx hb hts in_X2 hown hK hP 0 rfl rfl 0 (by decide) (hts _ q68) (fun _ h9 => h9) rfl dX2_encryptBlock_38 ?_
      refine lv_icmp_gt (tgt := 98) hx hb dX2_encryptBlock_41 (by decide) (fun c => absurd ((v_lt (a := 12) (b := (r + 1)) rfl rfl (by omega) (by omega)).mp c) (by omega)) (fun _ => ?_)
      refine lv_aload_n hx hb dX2_encryptBlock_44 rfl (lv_at hl 0 rfl) ?_
      refine lv_iload hx hb dX2_encryptBlock_45 (lv_at hl 5 rfl) ?_
      refine lv_iload hx hb dX2_encryptBlock_47 (lv_at hl 6 rfl) ?_
      refine lv_ixor hx hb dX2_encryptBlock_49 ?_
      refine lv_iload hx hb dX2_encryptBlock_50 (lv_at hl 6 rfl) ?_
      refine vp_callSi (W.runV (As := [.int ((rc_enc Sf (rc_low (fun j => bf j &&& 255) 0 + Sf 0) (rc_low (fun j => bf j &&& 255) 4 + Sf 1) r).1 ^^^ (rc_enc Sf (rc_low (fun j => bf j &&& 255) 0 + Sf 0) (rc_low (fun j => bf j &&& 255) 4 + Sf 1) r).2), .int ((rc_enc Sf (rc_low (fun j => bf j &&& 255) 0 + Sf 0) (rc_low (fun j => bf j &&& 255) 4 + Sf 1) r).2)]) (rest := []) ⟨hx, hb, hml, hown, hts⟩ (metX2_rotateLeft l D dB dN H.size h0 ((rc_enc Sf (rc_low (fun j => bf j &&& 255) 0 + Sf 0) (rc_low (fun j => bf j &&& 255) 4 + Sf 1) r).1 ^^^ (rc_enc Sf (rc_low (fun j => bf j &&& 255) 0 + Sf 0) (rc_low (fun j => bf j &&& 255) 4 + Sf 1) r).2) ((rc_enc Sf (rc_low (fun j => bf j &&& 255) 0 + Sf 0) (rc_low (fun j => bf j &&& 255) 4 + Sf 1) r).2)) (cwV 2 hts (lw_V q122 q124 qs2 q14 q125) rfl rfl rfl (by decide +kernel) ⟨(Nat.le_of_ble_eq_true rfl), (Nat.le_of_ble_eq_true rfl)⟩) (v_preV (q0 := 0) (ci := 2) (q := (RX2, TX2, 3)) (fs := [.int 12, .ref sa, .int z]) vT_mv trivial hP rfl rfl (hP.sub (ws' := []) [] rfl) (hD.sub (ws' := []) [] (by decide) rfl) hK) rfl rfl hl.1 rfl (lv_room (Nat.le_of_ble_eq_true rfl)) dX2_encryptBlock_52 ⟨(Nat.le_of_ble_eq_true rfl), (Nat.le_of_ble_eq_true rfl)⟩) (fun a1 ea1 => ?_)
      subst ea1
      refine lv_aload_n hx hb dX2_encryptBlock_55 rfl (lv_at hl 0 rfl) ?_
      refine va_get (D := D) (ci := 2) (v := .ref sa) (C := RX2) (T := TX2) (N := 3) hx hb hts in_X2 hown hK hP 0 rfl rfl 1 (by decide) (hts _ q69) (fun _ h9 => h9) rfl dX2_encryptBlock_56 ?_
      refine lv_iconst (v := 2) hx hb dX2_encryptBlock_59 (by decide) ?_
      refine lv_iload hx hb dX2_encryptBlock_60 (lv_at hl 7 rfl) ?_
      refine lv_imul hx hb dX2_encryptBlock_62 ?_
      refine v_iald hx hb hK hP 1 1 rfl rfl (k := (2 * (r + 1))) (v_mul rfl rfl) (by omega) (Nat.le_of_ble_eq_true rfl) dX2_encryptBlock_63 ?_
      refine lv_iadd hx hb dX2_encryptBlock_64 ?_
      refine v_top (y := (rc_encA Sf r (rc_enc Sf (rc_low (fun j => bf j &&& 255) 0 + Sf 0) (rc_low (fun j => bf j &&& 255) 4 + Sf 1) r).1 (rc_enc Sf (rc_low (fun j => bf j &&& 255) 0 + Sf 0) (rc_low (fun j => bf j &&& 255) 4 + Sf 1) r).2)) rfl ?_
      refine lv_istore (lv' := [(5, .int (rc_encA Sf r (rc_enc Sf (rc_low (fun j => bf j &&& 255) 0 + Sf 0) (rc_low (fun j => bf j &&& 255) 4 + Sf 1) r).1 (rc_enc Sf (rc_low (fun j => bf j &&& 255) 0 + Sf 0) (rc_low (fun j => bf j &&& 255) 4 + Sf 1) r).2)), (0, .ref h0), (1, .ref ib), (2, .int 0), (3, .ref ob), (4, .int 0), (6, .int ((rc_enc Sf (rc_low (fun j => bf j &&& 255) 0 + Sf 0) (rc_low (fun j => bf j &&& 255) 4 + Sf 1) r).2)), (7, .int (nI (r + 1)))]) hx hb dX2_encryptBlock_65 hl (by decide) rfl (fun ls hl => ?_)
      refine lv_aload_n hx hb dX2_encryptBlock_67 rfl (lv_at hl 1 rfl) ?_
      refine lv_iload hx hb dX2_encryptBlock_68 (lv_at hl 6 rfl) ?_
      refine lv_iload hx hb dX2_encryptBlock_70 (lv_at hl 0 rfl) ?_
      refine lv_ixor hx hb dX2_encryptBlock_72 ?_
      refine lv_iload hx hb dX2_encryptBlock_73 (lv_at hl 0 rfl) ?_
      refine vp_callSi (W.runV (As := [.int ((rc_enc Sf (rc_low (fun j => bf j &&& 255) 0 + Sf 0) (rc_low (fun j => bf j &&& 255) 4 + Sf 1) r).2 ^^^ (rc_encA Sf r (rc_enc Sf (rc_low (fun j => bf j &&& 255) 0 + Sf 0) (rc_low (fun j => bf j &&& 255) 4 + Sf 1) r).1 (rc_enc Sf (rc_low (fun j => bf j &&& 255) 0 + Sf 0) (rc_low (fun j => bf j &&& 255) 4 + Sf 1) r).2)), .int (rc_encA Sf r (rc_enc Sf (rc_low (fun j => bf j &&& 255) 0 + Sf 0) (rc_low (fun j => bf j &&& 255) 4 + Sf 1) r).1 (rc_enc Sf (rc_low (fun j => bf j &&& 255) 0 + Sf 0) (rc_low (fun j => bf j &&& 255) 4 + Sf 1) r).2)]) (rest := []) ⟨hx, hb, hml, hown, hts⟩ (metX2_rotateLeft l D dB dN H.size h0 ((rc_enc Sf (rc_low (fun j => bf j &&& 255) 0 + Sf 0) (rc_low (fun j => bf j &&& 255) 4 + Sf 1) r).2 ^^^ (rc_encA Sf r (rc_enc Sf (rc_low (fun j => bf j &&& 255) 0 + Sf 0) (rc_low (fun j => bf j &&& 255) 4 + Sf 1) r).1 (rc_enc Sf (rc_low (fun j => bf j &&& 255) 0 + Sf 0) (rc_low (fun j => bf j &&& 255) 4 + Sf 1) r).2)) (rc_encA Sf r (rc_enc Sf (rc_low (fun j => bf j &&& 255) 0 + Sf 0) (rc_low (fun j => bf j &&& 255) 4 + Sf 1) r).1 (rc_enc Sf (rc_low (fun j => bf j &&& 255) 0 + Sf 0) (rc_low (fun j => bf j &&& 255) 4 + Sf 1) r).2)) (cwV 2 hts (lw_V q122 q124 qs2 q14 q125) rfl rfl rfl (by decide +kernel) ⟨(Nat.le_of_ble_eq_true rfl), (Nat.le_of_ble_eq_true rfl)⟩) (v_preV (q0 := 0) (ci := 2) (q := (RX2, TX2, 3)) (fs := [.int 12, .ref sa, .int z]) vT_mv trivial hP rfl rfl (hP.sub (ws' := []) [] rfl) (hD.sub (ws' := []) [] (by decide) rfl) hK) rfl rfl hl.1 rfl (lv_room (Nat.le_of_ble_eq_true rfl)) dX2_encryptBlock_75 ⟨(Nat.le_of_ble_eq_true rfl), (Nat.le_of_ble_eq_true rfl)⟩) (fun b1 eb1 => ?_)
      subst eb1
      refine lv_aload_n hx hb dX2_encryptBlock_78 rfl (lv_at hl 1 rfl) ?_
      refine va_get (D := D) (ci := 2) (v := .ref sa) (C := RX2) (T := TX2) (N := 3) hx hb hts in_X2 hown hK hP 0 rfl rfl 1 (by decide) (hts _ q69) (fun _ h9 => h9) rfl dX2_encryptBlock_79 ?_
      refine lv_iconst (v := 2) hx hb dX2_encryptBlock_82 (by decide) ?_
      refine lv_iload hx hb dX2_encryptBlock_83 (lv_at hl 7 rfl) ?_
      refine lv_imul hx hb dX2_encryptBlock_85 ?_
      refine lv_iconst (v := 1) hx hb dX2_encryptBlock_86 (by decide) ?_
      refine lv_iadd hx hb dX2_encryptBlock_87 ?_
      refine v_iald hx hb hK hP 1 1 rfl rfl (k := ((2 * (r + 1)) + 1)) (v_add (v_mul rfl rfl) rfl) (by omega) (Nat.le_of_ble_eq_true rfl) dX2_encryptBlock_88 ?_
      refine lv_iadd hx hb dX2_encryptBlock_89 ?_
      refine v_top (y := (rc_encB Sf r (rc_enc Sf (rc_low (fun j => bf j &&& 255) 0 + Sf 0) (rc_low (fun j => bf j &&& 255) 4 + Sf 1) r).1 (rc_enc Sf (rc_low (fun j => bf j &&& 255) 0 + Sf 0) (rc_low (fun j => bf j &&& 255) 4 + Sf 1) r).2)) rfl ?_
      refine lv_istore (lv' := [(6, .int (rc_encB Sf r (rc_enc Sf (rc_low (fun j => bf j &&& 255) 0 + Sf 0) (rc_low (fun j => bf j &&& 255) 4 + Sf 1) r).1 (rc_enc Sf (rc_low (fun j => bf j &&& 255) 0 + Sf 0) (rc_low (fun j => bf j &&& 255) 4 + Sf 1) r).2)), (5, .int (rc_encA Sf r (rc_enc Sf (rc_low (fun j => bf j &&& 255) 0 + Sf 0) (rc_low (fun j => bf j &&& 255) 4 + Sf 1) r).1 (rc_enc Sf (rc_low (fun j => bf j &&& 255) 0 + Sf 0) (rc_low (fun j => bf j &&& 255) 4 + Sf 1) r).2)), (0, .ref h0), (1, .ref ib), (2, .int 0), (3, .ref ob), (4, .int 0), (7, .int (nI (r + 1)))]) hx hb dX2_encryptBlock_90 hl (by decide) rfl (fun ls hl => ?_)
      refine lv_iinc (v := (nI ((r + 1) + 1))) (lv' := [(7, .int (nI ((r + 1) + 1))), (6, .int (rc_encB Sf r (rc_enc Sf (rc_low (fun j => bf j &&& 255) 0 + Sf 0) (rc_low (fun j => bf j &&& 255) 4 + Sf 1) r).1 (rc_enc Sf (rc_low (fun j => bf j &&& 255) 0 + Sf 0) (rc_low (fun j => bf j &&& 255) 4 + Sf 1) r).2)), (5, .int (rc_encA Sf r (rc_enc Sf (rc_low (fun j => bf j &&& 255) 0 + Sf 0) (rc_low (fun j => bf j &&& 255) 4 + Sf 1) r).1 (rc_enc Sf (rc_low (fun j => bf j &&& 255) 0 + Sf 0) (rc_low (fun j => bf j &&& 255) 4 + Sf 1) r).2)), (0, .ref h0), (1, .ref ib), (2, .int 0), (3, .ref ob), (4, .int 0)]) hx hb dX2_encryptBlock_92 hl (k := 7) rfl (v_add rfl (show (Int32.ofInt 1) = nI 1 from rfl)) (by decide) rfl (fun ls hl => ?_)
      refine lv_goto (tgt := 35) hx hb dX2_encryptBlock_95 (by decide) ?_
      exact ih (r + 1) H locs ls (by omega) (hP.sub [0, 1, 2, 3] rfl) (hD.sub [0, 1, 2, 3] (by decide) rfl) hS (lv_sub hl [3, 4, 5, 6, 7, 2, 1, 0] rfl)
  exact loop1 12 0 _ _ _ rfl (hP.sub [0, 1, 2, 3] rfl) (hD.sub [0, 1, 2, 3] (by decide) rfl) hS (lv_sub hl [3, 4, 5, 6, 7, 2, 1, 0] rfl)
set_option maxHeartbeats 4000000 in
set_option maxRecDepth 100000 in
theorem metX2_decryptBlock (l : Launch) (D : va_G) (dB dN : ClassId) (sz : Nat) (h0 sa ib ob : Nat) (z : Int32) (Sf bf uf : Nat → Int32) : Met l yX2_decryptBlock (ws_ yX2_decryptBlock cX2_decryptBlock 8 (some .int)) rmEB (va_Pc [.ref h0, .ref ib, .int 0, .ref ob, .int 0] (vPre D dB dN vT sz [(h0, .inr (2, [.int 12, .ref sa, .int z])), (sa, .inl (dN, 26, .inl Sf)), (ib, .inl (dB, 8, .inl bf)), (ob, .inl (dB, 8, .inl uf))])) (qI D (fun _ : Unit => [(h0, .inr (2, [.int 12, .ref sa, .int z])), (sa, .inl (dN, 26, .inl Sf)), (ib, .inl (dB, 8, .inl bf)), (ob, .inl (dB, 8, .inl (rc_oE uf (rc_D Sf (fun j => bf j &&& 255)))))]) (va_A [(h0, .inr (2, [.int 12, .ref sa, .int z])), (sa, .inl (dN, 26, .inl Sf)), (ib, .inl (dB, 8, .inl bf)), (ob, .inl (dB, 8, .inl uf))] sz)) 0 0 (va_A [(h0, .inr (2, [.int 12, .ref sa, .int z])), (sa, .inl (dN, 26, .inl Sf)), (ib, .inl (dB, 8, .inl bf)), (ob, .inl (dB, 8, .inl uf))] sz) := by
  refine v_met (Qc := qI D (fun _ : Unit => [(h0, .inr (2, [.int 12, .ref sa, .int z])), (sa, .inl (dN, 26, .inl Sf)), (ib, .inl (dB, 8, .inl bf)), (ob, .inl (dB, 8, .inl (rc_oE uf (rc_D Sf (fun j => bf j &&& 255)))))])) (by decide) (Nat.le_of_ble_eq_true rfl) ?_
  rintro p e s m args below meth c A ls Q ⟨hx, hb, hr, hlocks, hml, hown, hts, hin⟩ hP hK hD hX hA hS hl hQ
  have hl : lv_has ls 8 [(0, .ref h0), (1, .ref ib), (2, .int 0), (3, .ref ob), (4, .int 0)] := hl
  have hown : s.vm.findClass RX2 = some m.cls := hown
  refine lv_aload_n hx hb dX2_decryptBlock_0 rfl (lv_at hl 0 rfl) ?_
  refine lv_aload_n hx hb dX2_decryptBlock_1 rfl (lv_at hl 1 rfl) ?_
  refine lv_iload_n hx hb dX2_decryptBlock_2 rfl (lv_at hl 2 rfl) ?_
  refine vp_callSi (W.runV (As := [.ref ib, .int 0]) (rest := []) ⟨hx, hb, hml, hown, hts⟩ (metX2_bytesToWord l D dB dN s.heap.size h0 ib bf 0 0 8 rfl (by decide) (Nat.le_of_ble_eq_true rfl)) (cwV 2 hts (lw_V q210 q212 qs5 q14 q213) rfl rfl rfl (by decide +kernel) ⟨(Nat.le_of_ble_eq_true rfl), (Nat.le_of_ble_eq_true rfl)⟩) (v_preV (q0 := 0) (ci := 2) (q := (RX2, TX2, 3)) (fs := [.int 12, .ref sa, .int z]) vT_mv trivial hP rfl rfl (hP.sub (ws' := [(ib, .inl (dB, 8, .inl bf))]) [2] rfl) (hD.sub (ws' := [(ib, .inl (dB, 8, .inl bf))]) [2] (by decide) rfl) hK) rfl rfl hl.1 rfl (lv_room (Nat.le_of_ble_eq_true rfl)) dX2_decryptBlock_3 ⟨(Nat.le_of_ble_eq_true rfl), (Nat.le_of_ble_eq_true rfl)⟩) (fun x0 ex0 => ?_)
  subst ex0
  refine lv_istore (lv' := [(5, .int (rc_low (fun j => bf j &&& 255) 0)), (0, .ref h0), (1, .ref ib), (2, .int 0), (3, .ref ob), (4, .int 0)]) hx hb dX2_decryptBlock_6 hl (by decide) rfl (fun ls hl => ?_)
  refine lv_aload_n hx hb dX2_decryptBlock_8 rfl (lv_at hl 1 rfl) ?_
  refine lv_aload_n hx hb dX2_decryptBlock_9 rfl (lv_at hl 2 rfl) ?_
  refine lv_iload_n hx hb dX2_decryptBlock_10 rfl (lv_at hl 3 rfl) ?_
  refine lv_iconst (v := 4) hx hb dX2_decryptBlock_11 (by decide) ?_
  refine lv_iadd hx hb dX2_decryptBlock_12 ?_
  refine vp_callSi (W.runV (As := [.ref ib, .int (0 + 4)]) (rest := []) ⟨hx, hb, hml, hown, hts⟩ (metX2_bytesToWord l D dB dN s.heap.size h0 ib bf (0 + 4) 4 8 (by decide) (by decide) (Nat.le_of_ble_eq_true rfl)) (cwV 2 hts (lw_V q210 q212 qs5 q14 q213) rfl rfl rfl (by decide +kernel) ⟨(Nat.le_of_ble_eq_true rfl), (Nat.le_of_ble_eq_true rfl)⟩) (v_preV (q0 := 0) (ci := 2) (q := (RX2, TX2, 3)) (fs := [.int 12, .ref sa, .int z]) vT_mv trivial hP rfl rfl (hP.sub (ws' := [(ib, .inl (dB, 8, .inl bf))]) [2] rfl) (hD.sub (ws' := [(ib, .inl (dB, 8, .inl bf))]) [2] (by decide) rfl) hK) rfl rfl hl.1 rfl (lv_room (Nat.le_of_ble_eq_true rfl)) dX2_decryptBlock_13 ⟨(Nat.le_of_ble_eq_true rfl), (Nat.le_of_ble_eq_true rfl)⟩) (fun x1 ex1 => ?_)
  subst ex1
  refine lv_istore (lv' := [(6, .int (rc_low (fun j => bf j &&& 255) 4)), (5, .int (rc_low (fun j => bf j &&& 255) 0)), (0, .ref h0), (1, .ref ib), (2, .int 0), (3, .ref ob), (4, .int 0)]) hx hb dX2_decryptBlock_16 hl (by decide) rfl (fun ls hl => ?_)
  refine lv_aload_n hx hb dX2_decryptBlock_18 rfl (lv_at hl 2 rfl) ?_
  refine va_get (D := D) (ci := 2) (v := .int 12) (C := RX2) (T := TX2) (N := 3) hx hb hts in_X2 hown hK hP 0 rfl rfl 0 (by decide) (hts _ q68) (fun _ h9 => h9) rfl dX2_decryptBlock_19 ?_
  refine lv_istore (lv' := [(7, .int 12), (6, .int (rc_low (fun j => bf j &&& 255) 4)), (5, .int (rc_low (fun j => bf j &&& 255) 0)), (0, .ref h0), (1, .ref ib), (2, .int 0), (3, .ref ob), (4, .int 0)]) hx hb dX2_decryptBlock_22 hl (by decide) rfl (fun ls hl => ?_)
  have loop1 : ∀ (n : Nat) (a b : Int32) (H : Heap) (locs : List Loc) (ls : Array Slot), n ≤ 12 → rc_dec Sf n a b = (rc_dec Sf 12 (rc_low (fun j => bf j &&& 255) 0) (rc_low (fun j => bf j &&& 255) 4)) → va_P D vwCl [(h0, .inr (2, [.int 12, .ref sa, .int z])), (sa, .inl (dN, 26, .inl Sf)), (ib, .inl (dB, 8, .inl bf)), (ob, .inl (dB, 8, .inl uf))] H → va_D A [(h0, .inr (2, [.int 12, .ref sa, .int z])), (sa, .inl (dN, 26, .inl Sf)), (ib, .inl (dB, 8, .inl bf)), (ob, .inl (dB, 8, .inl uf))] → va_S A s.heap H locs → lv_has ls 8 [(0, .ref h0), (1, .ref ib), (2, .int 0), (3, .ref ob), (4, .int 0), (5, .int a), (6, .int b), (7, .int (nI n))] → W p l e rmEB s m args below meth c H locs 0 0 Q (F0 m 24 ls []) := by
    intro n
    induction n with
    | zero =>
      intro a b H locs ls hi he hP hD hS hl
      have ea : a = (rc_dec Sf 12 (rc_low (fun j => bf j &&& 255) 0) (rc_low (fun j => bf j &&& 255) 4)).1 := congrArg Prod.fst he
      have eb : b = (rc_dec Sf 12 (rc_low (fun j => bf j &&& 255) 0) (rc_low (fun j => bf j &&& 255) 4)).2 := congrArg Prod.snd he
      clear he
      subst ea
      subst eb
      refine lv_iload hx hb dX2_decryptBlock_24 (lv_at hl 7 rfl) ?_
      refine lv_iconst (v := 1) hx hb dX2_decryptBlock_26 (by decide) ?_
      refine lv_icmp_lt (tgt := 84) hx hb dX2_decryptBlock_27 (by decide) (fun _ => ?_) (fun c => absurd ((v_lt (a := 0) (b := 1) rfl rfl (by omega) (by omega)).mpr (by omega)) c)
      refine lv_aload_n hx hb dX2_decryptBlock_84 rfl (lv_at hl 0 rfl) ?_
      refine lv_iload hx hb dX2_decryptBlock_85 (lv_at hl 5 rfl) ?_
      refine lv_aload_n hx hb dX2_decryptBlock_87 rfl (lv_at hl 0 rfl) ?_
      refine va_get (D := D) (ci := 2) (v := .ref sa) (C := RX2) (T := TX2) (N := 3) hx hb hts in_X2 hown hK hP 0 rfl rfl 1 (by decide) (hts _ q69) (fun _ h9 => h9) rfl dX2_decryptBlock_88 ?_
      refine lv_iconst (v := 0) hx hb dX2_decryptBlock_91 (by decide) ?_
      refine v_iald hx hb hK hP 1 1 rfl rfl (k := 0) rfl (by omega) (Nat.le_of_ble_eq_true rfl) dX2_decryptBlock_92 ?_
      refine lv_isub hx hb dX2_decryptBlock_93 ?_
      refine lv_aload_n hx hb dX2_decryptBlock_94 rfl (lv_at hl 3 rfl) ?_
      refine lv_iload hx hb dX2_decryptBlock_95 (lv_at hl 4 rfl) ?_
      refine v_callv (wr := [(h0, .inr (2, [.int 12, .ref sa, .int z])), (sa, .inl (dN, 26, .inl Sf)), (ib, .inl (dB, 8, .inl bf))]) (va_runV (As := [.int ((rc_dec Sf 12 (rc_low (fun j => bf j &&& 255) 0) (rc_low (fun j => bf j &&& 255) 4)).1 - (Sf 0)), .ref ob, .int 0]) (rest := []) ⟨hx, hb, hml, hown, hts⟩ (metX2_wordToBytes l D dB dN H.size h0 ob uf ((rc_dec Sf 12 (rc_low (fun j => bf j &&& 255) 0) (rc_low (fun j => bf j &&& 255) 4)).1 - (Sf 0)) 0 0 8 rfl (by decide) (Nat.le_of_ble_eq_true rfl)) (cwV 3 hts (lw_V q214 q216 qs6 q14 q217) rfl rfl rfl (by decide +kernel) ⟨(Nat.le_of_ble_eq_true rfl), (Nat.le_of_ble_eq_true rfl)⟩) (v_preV (q0 := 0) (ci := 2) (q := (RX2, TX2, 3)) (fs := [.int 12, .ref sa, .int z]) vT_mv trivial hP rfl rfl (hP.sub (ws' := [(ob, .inl (dB, 8, .inl uf))]) [3] rfl) (hD.sub (ws' := [(ob, .inl (dB, 8, .inl uf))]) [3] (by decide) rfl) hK) rfl rfl hl.1 rfl (lv_room (Nat.le_of_ble_eq_true rfl)) dX2_decryptBlock_97 ⟨(Nat.le_of_ble_eq_true rfl), (Nat.le_of_ble_eq_true rfl)⟩) hP hD hS hA [3] [0, 1, 2] rfl rfl (by decide) (by decide) (fun _ H locs _ hP hD hS => ?_)
      have hP : va_P D vwCl [(h0, .inr (2, [.int 12, .ref sa, .int z])), (sa, .inl (dN, 26, .inl Sf)), (ib, .inl (dB, 8, .inl bf)), (ob, .inl (dB, 8, .inl (rc_wE uf 0 ((rc_dec Sf 12 (rc_low (fun j => bf j &&& 255) 0) (rc_low (fun j => bf j &&& 255) 4)).1 - (Sf 0)))))] H := hP
      have hD : va_D A [(h0, .inr (2, [.int 12, .ref sa, .int z])), (sa, .inl (dN, 26, .inl Sf)), (ib, .inl (dB, 8, .inl bf)), (ob, .inl (dB, 8, .inl (rc_wE uf 0 ((rc_dec Sf 12 (rc_low (fun j => bf j &&& 255) 0) (rc_low (fun j => bf j &&& 255) 4)).1 - (Sf 0)))))] := hD
      refine lv_aload_n hx hb dX2_decryptBlock_100 rfl (lv_at hl 0 rfl) ?_
      refine lv_iload hx hb dX2_decryptBlock_101 (lv_at hl 6 rfl) ?_
      refine lv_aload_n hx hb dX2_decryptBlock_103 rfl (lv_at hl 0 rfl) ?_
      refine va_get (D := D) (ci := 2) (v := .ref sa) (C := RX2) (T := TX2) (N := 3) hx hb hts in_X2 hown hK hP 0 rfl rfl 1 (by decide) (hts _ q69) (fun _ h9 => h9) rfl dX2_decryptBlock_104 ?_
      refine lv_iconst (v := 1) hx hb dX2_decryptBlock_107 (by decide) ?_
      refine v_iald hx hb hK hP 1 1 rfl rfl (k := 1) rfl (by omega) (Nat.le_of_ble_eq_true rfl) dX2_decryptBlock_108 ?_
      refine lv_isub hx hb dX2_decryptBlock_109 ?_
      refine lv_aload_n hx hb dX2_decryptBlock_110 rfl (lv_at hl 3 rfl) ?_
      refine lv_iload hx hb dX2_decryptBlock_111 (lv_at hl 4 rfl) ?_
      refine lv_iconst (v := 4) hx hb dX2_decryptBlock_113 (by decide) ?_
      refine lv_iadd hx hb dX2_decryptBlock_114 ?_
      refine v_callv (wr := [(h0, .inr (2, [.int 12, .ref sa, .int z])), (sa, .inl (dN, 26, .inl Sf)), (ib, .inl (dB, 8, .inl bf))]) (va_runV (As := [.int ((rc_dec Sf 12 (rc_low (fun j => bf j &&& 255) 0) (rc_low (fun j => bf j &&& 255) 4)).2 - (Sf 1)), .ref ob, .int (0 + 4)]) (rest := []) ⟨hx, hb, hml, hown, hts⟩ (metX2_wordToBytes l D dB dN H.size h0 ob (rc_wE uf 0 ((rc_dec Sf 12 (rc_low (fun j => bf j &&& 255) 0) (rc_low (fun j => bf j &&& 255) 4)).1 - (Sf 0))) ((rc_dec Sf 12 (rc_low (fun j => bf j &&& 255) 0) (rc_low (fun j => bf j &&& 255) 4)).2 - (Sf 1)) (0 + 4) 4 8 (by decide) (by decide) (Nat.le_of_ble_eq_true rfl)) (cwV 3 hts (lw_V q214 q216 qs6 q14 q217) rfl rfl rfl (by decide +kernel) ⟨(Nat.le_of_ble_eq_true rfl), (Nat.le_of_ble_eq_true rfl)⟩) (v_preV (q0 := 0) (ci := 2) (q := (RX2, TX2, 3)) (fs := [.int 12, .ref sa, .int z]) vT_mv trivial hP rfl rfl (hP.sub (ws' := [(ob, .inl (dB, 8, .inl (rc_wE uf 0 ((rc_dec Sf 12 (rc_low (fun j => bf j &&& 255) 0) (rc_low (fun j => bf j &&& 255) 4)).1 - (Sf 0)))))]) [3] rfl) (hD.sub (ws' := [(ob, .inl (dB, 8, .inl (rc_wE uf 0 ((rc_dec Sf 12 (rc_low (fun j => bf j &&& 255) 0) (rc_low (fun j => bf j &&& 255) 4)).1 - (Sf 0)))))]) [3] (by decide) rfl) hK) rfl rfl hl.1 rfl (lv_room (Nat.le_of_ble_eq_true rfl)) dX2_decryptBlock_115 ⟨(Nat.le_of_ble_eq_true rfl), (Nat.le_of_ble_eq_true rfl)⟩) hP hD hS hA [3] [0, 1, 2] rfl rfl (by decide) (by decide) (fun _ H locs _ hP hD hS => ?_)
      have hP : va_P D vwCl [(h0, .inr (2, [.int 12, .ref sa, .int z])), (sa, .inl (dN, 26, .inl Sf)), (ib, .inl (dB, 8, .inl bf)), (ob, .inl (dB, 8, .inl (rc_wE (rc_wE uf 0 ((rc_dec Sf 12 (rc_low (fun j => bf j &&& 255) 0) (rc_low (fun j => bf j &&& 255) 4)).1 - (Sf 0))) 4 ((rc_dec Sf 12 (rc_low (fun j => bf j &&& 255) 0) (rc_low (fun j => bf j &&& 255) 4)).2 - (Sf 1)))))] H := hP
      have hD : va_D A [(h0, .inr (2, [.int 12, .ref sa, .int z])), (sa, .inl (dN, 26, .inl Sf)), (ib, .inl (dB, 8, .inl bf)), (ob, .inl (dB, 8, .inl (rc_wE (rc_wE uf 0 ((rc_dec Sf 12 (rc_low (fun j => bf j &&& 255) 0) (rc_low (fun j => bf j &&& 255) 4)).1 - (Sf 0))) 4 ((rc_dec Sf 12 (rc_low (fun j => bf j &&& 255) 0) (rc_low (fun j => bf j &&& 255) 4)).2 - (Sf 1)))))] := hD
      refine lv_bipush (v := 8) hx hb dX2_decryptBlock_118 (by decide) ?_
      have hP : va_P D vwCl [(h0, .inr (2, [.int 12, .ref sa, .int z])), (sa, .inl (dN, 26, .inl Sf)), (ib, .inl (dB, 8, .inl bf)), (ob, .inl (dB, 8, .inl (rc_oE uf (rc_D Sf (fun j => bf j &&& 255)))))] H := hP
      have hD : va_D A [(h0, .inr (2, [.int 12, .ref sa, .int z])), (sa, .inl (dN, 26, .inl Sf)), (ib, .inl (dB, 8, .inl bf)), (ob, .inl (dB, 8, .inl (rc_oE uf (rc_D Sf (fun j => bf j &&& 255)))))] := hD
      have hP9 : va_P D vwCl [(h0, .inr (2, [.int 12, .ref sa, .int z])), (sa, .inl (dN, 26, .inl Sf)), (ib, .inl (dB, 8, .inl bf)), (ob, .inl (dB, 8, .inl (rc_oE uf (rc_D Sf (fun j => bf j &&& 255)))))] H := hP.sub [0, 1, 2, 3] rfl
      have hD9 : va_D A [(h0, .inr (2, [.int 12, .ref sa, .int z])), (sa, .inl (dN, 26, .inl Sf)), (ib, .inl (dB, 8, .inl bf)), (ob, .inl (dB, 8, .inl (rc_oE uf (rc_D Sf (fun j => bf j &&& 255)))))] := hD.sub [0, 1, 2, 3] (by decide) rfl
      subst hQ
      exact W.iret hx hb hr (fun t ht hW => ⟨⟨_, (), rfl, trivial, by rw [ht]; exact hP9, hD9⟩, hS.F ht⟩) hS.2.2 dX2_decryptBlock_120 hlocks
    | succ n ih =>
      intro a b H locs ls hi he hP hD hS hl
      refine lv_iload hx hb dX2_decryptBlock_24 (lv_at hl 7 rfl) ?_
      refine lv_iconst (v := 1) hx hb dX2_decryptBlock_26 (by decide) ?_
      refine lv_icmp_lt (tgt := 84) hx hb dX2_decryptBlock_27 (by decide) (fun c => absurd ((v_lt (a := (n + 1)) (b := 1) rfl rfl (by omega) (by omega)).mp c) (by omega)) (fun _ => ?_)
      refine lv_aload_n hx hb dX2_decryptBlock_30 rfl (lv_at hl 0 rfl) ?_
      refine lv_iload hx hb dX2_decryptBlock_31 (lv_at hl 6 rfl) ?_
      refine lv_aload_n hx hb dX2_decryptBlock_33 rfl (lv_at hl 0 rfl) ?_
      refine va_get (D := D) (ci := 2) (v := .ref sa) (C := RX2) (T := TX2) (N := 3) hx hb hts in_X2 hown hK hP 0 rfl rfl 1 (by decide) (hts _ q69) (fun _ h9 => h9) rfl dX2_decryptBlock_34 ?_
      refine lv_iconst (v := 2) hx hb dX2_decryptBlock_37 (by decide) ?_
      refine lv_iload hx hb dX2_decryptBlock_38 (lv_at hl 7 rfl) ?_
      refine lv_imul hx hb dX2_decryptBlock_40 ?_
      refine lv_iconst (v := 1) hx hb dX2_decryptBlock_41 (by decide) ?_
      refine lv_iadd hx hb dX2_decryptBlock_42 ?_
      refine v_iald hx hb hK hP 1 1 rfl rfl (k := ((2 * (n + 1)) + 1)) (v_add (v_mul rfl rfl) rfl) (by omega) (Nat.le_of_ble_eq_true rfl) dX2_decryptBlock_43 ?_
      refine lv_isub hx hb dX2_decryptBlock_44 ?_
      refine lv_iload hx hb dX2_decryptBlock_45 (lv_at hl 5 rfl) ?_
      refine vp_callSi (W.runV (As := [.int (b - (Sf ((2 * (n + 1)) + 1))), .int a]) (rest := []) ⟨hx, hb, hml, hown, hts⟩ (metX2_rotateRight l D dB dN H.size h0 (b - (Sf ((2 * (n + 1)) + 1))) a) (cwV 2 hts (lw_V q222 q224 qs8 q14 q225) rfl rfl rfl (by decide +kernel) ⟨(Nat.le_of_ble_eq_true rfl), (Nat.le_of_ble_eq_true rfl)⟩) (v_preV (q0 := 0) (ci := 2) (q := (RX2, TX2, 3)) (fs := [.int 12, .ref sa, .int z]) vT_mv trivial hP rfl rfl (hP.sub (ws' := []) [] rfl) (hD.sub (ws' := []) [] (by decide) rfl) hK) rfl rfl hl.1 rfl (lv_room (Nat.le_of_ble_eq_true rfl)) dX2_decryptBlock_47 ⟨(Nat.le_of_ble_eq_true rfl), (Nat.le_of_ble_eq_true rfl)⟩) (fun b1 eb1 => ?_)
      subst eb1
      refine lv_iload hx hb dX2_decryptBlock_50 (lv_at hl 5 rfl) ?_
      refine lv_ixor hx hb dX2_decryptBlock_52 ?_
      refine v_top (y := (rc_decB Sf n a b)) rfl ?_
      refine lv_istore (lv' := [(6, .int (rc_decB Sf n a b)), (0, .ref h0), (1, .ref ib), (2, .int 0), (3, .ref ob), (4, .int 0), (5, .int a), (7, .int (nI (n + 1)))]) hx hb dX2_decryptBlock_53 hl (by decide) rfl (fun ls hl => ?_)
      refine lv_aload_n hx hb dX2_decryptBlock_55 rfl (lv_at hl 1 rfl) ?_
      refine lv_iload hx hb dX2_decryptBlock_56 (lv_at hl 6 rfl) ?_
      refine lv_aload_n hx hb dX2_decryptBlock_58 rfl (lv_at hl 1 rfl) ?_
      refine va_get (D := D) (ci := 2) (v := .ref sa) (C := RX2) (T := TX2) (N := 3) hx hb hts in_X2 hown hK hP 0 rfl rfl 1 (by decide) (hts _ q69) (fun _ h9 => h9) rfl dX2_decryptBlock_59 ?_
      refine lv_iconst (v := 2) hx hb dX2_decryptBlock_62 (by decide) ?_
      refine lv_iload hx hb dX2_decryptBlock_63 (lv_at hl 7 rfl) ?_
      refine lv_imul hx hb dX2_decryptBlock_65 ?_
      refine v_iald hx hb hK hP 1 1 rfl rfl (k := (2 * (n + 1))) (v_mul rfl rfl) (by omega) (Nat.le_of_ble_eq_true rfl) dX2_decryptBlock_66 ?_
      refine lv_isub hx hb dX2_decryptBlock_67 ?_
      refine lv_iload hx hb dX2_decryptBlock_68 (lv_at hl 0 rfl) ?_
      refine vp_callSi (W.runV (As := [.int (a - (Sf (2 * (n + 1)))), .int (rc_decB Sf n a b)]) (rest := []) ⟨hx, hb, hml, hown, hts⟩ (metX2_rotateRight l D dB dN H.size h0 (a - (Sf (2 * (n + 1)))) (rc_decB Sf n a b)) (cwV 2 hts (lw_V q222 q224 qs8 q14 q225) rfl rfl rfl (by decide +kernel) ⟨(Nat.le_of_ble_eq_true rfl), (Nat.le_of_ble_eq_true rfl)⟩) (v_preV (q0 := 0) (ci := 2) (q := (RX2, TX2, 3)) (fs := [.int 12, .ref sa, .int z]) vT_mv trivial hP rfl rfl (hP.sub (ws' := []) [] rfl) (hD.sub (ws' := []) [] (by decide) rfl) hK) rfl rfl hl.1 rfl (lv_room (Nat.le_of_ble_eq_true rfl)) dX2_decryptBlock_70 ⟨(Nat.le_of_ble_eq_true rfl), (Nat.le_of_ble_eq_true rfl)⟩) (fun a1 ea1 => ?_)
      subst ea1
      refine lv_iload hx hb dX2_decryptBlock_73 (lv_at hl 0 rfl) ?_
      refine lv_ixor hx hb dX2_decryptBlock_75 ?_
      refine v_top (y := (rc_decA Sf n a b)) rfl ?_
      refine lv_istore (lv' := [(5, .int (rc_decA Sf n a b)), (6, .int (rc_decB Sf n a b)), (0, .ref h0), (1, .ref ib), (2, .int 0), (3, .ref ob), (4, .int 0), (7, .int (nI (n + 1)))]) hx hb dX2_decryptBlock_76 hl (by decide) rfl (fun ls hl => ?_)
      refine lv_iinc (v := (nI n)) (lv' := [(7, .int (nI n)), (5, .int (rc_decA Sf n a b)), (6, .int (rc_decB Sf n a b)), (0, .ref h0), (1, .ref ib), (2, .int 0), (3, .ref ob), (4, .int 0)]) hx hb dX2_decryptBlock_78 hl (k := 7) rfl (pk_m1 n) (by decide) rfl (fun ls hl => ?_)
      refine lv_goto (tgt := 24) hx hb dX2_decryptBlock_81 (by decide) ?_
      exact ih (rc_decA Sf n a b) (rc_decB Sf n a b) H locs ls (by omega) he (hP.sub [0, 1, 2, 3] rfl) (hD.sub [0, 1, 2, 3] (by decide) rfl) hS (lv_sub hl [3, 4, 5, 6, 7, 1, 2, 0] rfl)
  exact loop1 12 _ _ _ _ _ (Nat.le_refl 12) rfl (hP.sub [0, 1, 2, 3] rfl) (hD.sub [0, 1, 2, 3] (by decide) rfl) hS (lv_sub hl [3, 4, 5, 6, 7, 2, 1, 0] rfl)
abbrev rmPB : Room := { frames := 2, cells := 0, slots := 0, locals := 50 }
set_option maxHeartbeats 4000000 in
set_option maxRecDepth 100000 in
theorem metX2_processBlock (l : Launch) (D : va_G) (dB dN : ClassId) (sz : Nat) (h0 sa ib ob : Nat) (z : Int32) (Sf bf uf : Nat → Int32) : Met l yX2_processBlock (ws_ yX2_processBlock cX2_processBlock 5 (some .int)) rmPB (va_Pc [.ref h0, .ref ib, .int 0, .ref ob, .int 0] (vPre D dB dN vT sz [(h0, .inr (2, [.int 12, .ref sa, .int z])), (sa, .inl (dN, 26, .inl Sf)), (ib, .inl (dB, 8, .inl bf)), (ob, .inl (dB, 8, .inl uf))])) (qI D (fun _ : Unit => [(h0, .inr (2, [.int 12, .ref sa, .int z])), (sa, .inl (dN, 26, .inl Sf)), (ib, .inl (dB, 8, .inl bf)), (ob, .inl (dB, 8, .inl (rc_oE uf (rc_R z Sf (fun j => bf j &&& 255)))))]) (va_A [(h0, .inr (2, [.int 12, .ref sa, .int z])), (sa, .inl (dN, 26, .inl Sf)), (ib, .inl (dB, 8, .inl bf)), (ob, .inl (dB, 8, .inl uf))] sz)) 0 0 (va_A [(h0, .inr (2, [.int 12, .ref sa, .int z])), (sa, .inl (dN, 26, .inl Sf)), (ib, .inl (dB, 8, .inl bf)), (ob, .inl (dB, 8, .inl uf))] sz) := by
  refine v_met (Qc := qI D (fun _ : Unit => [(h0, .inr (2, [.int 12, .ref sa, .int z])), (sa, .inl (dN, 26, .inl Sf)), (ib, .inl (dB, 8, .inl bf)), (ob, .inl (dB, 8, .inl (rc_oE uf (rc_R z Sf (fun j => bf j &&& 255)))))])) (by decide) (Nat.le_of_ble_eq_true rfl) ?_
  rintro p e s m args below meth c A ls Q ⟨hx, hb, hr, hlocks, hml, hown, hts, hin⟩ hP hK hD hX hA hS hl hQ
  have hl : lv_has ls 5 [(0, .ref h0), (1, .ref ib), (2, .int 0), (3, .ref ob), (4, .int 0)] := hl
  have hown : s.vm.findClass RX2 = some m.cls := hown
  refine lv_aload_n hx hb dX2_processBlock_0 rfl (lv_at hl 0 rfl) ?_
  refine va_get (D := D) (ci := 2) (v := .int z) (C := RX2) (T := TX2) (N := 3) hx hb hts in_X2 hown hK hP 0 rfl rfl 2 (by decide) (hts _ q70) (fun _ h9 => h9) rfl dX2_processBlock_1 ?_
  refine lv_if_eq (tgt := 19) hx hb dX2_processBlock_4 (by decide) (fun hz => ?_) (fun hz => ?_)
  · have eR : rc_R z Sf (fun j => bf j &&& 255) = rc_D Sf (fun j => bf j &&& 255) := if_pos hz
    refine lv_aload_n hx hb dX2_processBlock_19 rfl (lv_at hl 0 rfl) ?_
    refine lv_aload_n hx hb dX2_processBlock_20 rfl (lv_at hl 1 rfl) ?_
    refine lv_iload_n hx hb dX2_processBlock_21 rfl (lv_at hl 2 rfl) ?_
    refine lv_aload_n hx hb dX2_processBlock_22 rfl (lv_at hl 3 rfl) ?_
    refine lv_iload hx hb dX2_processBlock_23 (lv_at hl 4 rfl) ?_
    refine v_calli (wr := []) (va_runV (As := [.ref ib, .int 0, .ref ob, .int 0]) (rest := []) ⟨hx, hb, hml, hown, hts⟩ (metX2_decryptBlock l D dB dN s.heap.size h0 sa ib ob z Sf bf uf) (cwV 4 hts (lw_V q218 q220 qs7 q14 q221) rfl rfl rfl (by decide +kernel) ⟨(Nat.le_of_ble_eq_true rfl), (Nat.le_of_ble_eq_true rfl)⟩) (v_preV (q0 := 0) (ci := 2) (q := (RX2, TX2, 3)) (fs := [.int 12, .ref sa, .int z]) vT_mv trivial hP rfl rfl (hP.sub (ws' := [(h0, .inr (2, [.int 12, .ref sa, .int z])), (sa, .inl (dN, 26, .inl Sf)), (ib, .inl (dB, 8, .inl bf)), (ob, .inl (dB, 8, .inl uf))]) [0, 1, 2, 3] rfl) (hD.sub (ws' := [(h0, .inr (2, [.int 12, .ref sa, .int z])), (sa, .inl (dN, 26, .inl Sf)), (ib, .inl (dB, 8, .inl bf)), (ob, .inl (dB, 8, .inl uf))]) [0, 1, 2, 3] (by decide) rfl) hK) rfl rfl hl.1 rfl (lv_room (Nat.le_of_ble_eq_true rfl)) dX2_processBlock_25 ⟨(Nat.le_of_ble_eq_true rfl), (Nat.le_of_ble_eq_true rfl)⟩) hP hD hS hA [0, 1, 2, 3] [] rfl rfl (by decide) (by decide) (fun r_ _ H locs _ hP hD hS => ?_)
    have hP : va_P D vwCl [(h0, .inr (2, [.int 12, .ref sa, .int z])), (sa, .inl (dN, 26, .inl Sf)), (ib, .inl (dB, 8, .inl bf)), (ob, .inl (dB, 8, .inl (rc_oE uf (rc_D Sf (fun j => bf j &&& 255)))))] H := hP
    have hD : va_D A [(h0, .inr (2, [.int 12, .ref sa, .int z])), (sa, .inl (dN, 26, .inl Sf)), (ib, .inl (dB, 8, .inl bf)), (ob, .inl (dB, 8, .inl (rc_oE uf (rc_D Sf (fun j => bf j &&& 255)))))] := hD
    rw [← eR] at hP hD
    have hP9 : va_P D vwCl [(h0, .inr (2, [.int 12, .ref sa, .int z])), (sa, .inl (dN, 26, .inl Sf)), (ib, .inl (dB, 8, .inl bf)), (ob, .inl (dB, 8, .inl (rc_oE uf (rc_R z Sf (fun j => bf j &&& 255)))))] H := hP.sub [0, 1, 2, 3] rfl
    have hD9 : va_D A [(h0, .inr (2, [.int 12, .ref sa, .int z])), (sa, .inl (dN, 26, .inl Sf)), (ib, .inl (dB, 8, .inl bf)), (ob, .inl (dB, 8, .inl (rc_oE uf (rc_R z Sf (fun j => bf j &&& 255)))))] := hD.sub [0, 1, 2, 3] (by decide) rfl
    subst hQ
    exact W.iret hx hb hr (fun t ht hW => ⟨⟨_, (), rfl, trivial, by rw [ht]; exact hP9, hD9⟩, hS.F ht⟩) hS.2.2 dX2_processBlock_28 hlocks
  · have eR : rc_R z Sf (fun j => bf j &&& 255) = rc_E Sf (fun j => bf j &&& 255) := if_neg hz
    refine lv_aload_n hx hb dX2_processBlock_7 rfl (lv_at hl 0 rfl) ?_
    refine lv_aload_n hx hb dX2_processBlock_8 rfl (lv_at hl 1 rfl) ?_
    refine lv_iload_n hx hb dX2_processBlock_9 rfl (lv_at hl 2 rfl) ?_
    refine lv_aload_n hx hb dX2_processBlock_10 rfl (lv_at hl 3 rfl) ?_
    refine lv_iload hx hb dX2_processBlock_11 (lv_at hl 4 rfl) ?_
    refine v_calli (wr := []) (va_runV (As := [.ref ib, .int 0, .ref ob, .int 0]) (rest := []) ⟨hx, hb, hml, hown, hts⟩ (metX2_encryptBlock l D dB dN s.heap.size h0 sa ib ob z Sf bf uf) (cwV 4 hts (lw_V q206 q208 qs4 q14 q209) rfl rfl rfl (by decide +kernel) ⟨(Nat.le_of_ble_eq_true rfl), (Nat.le_of_ble_eq_true rfl)⟩) (v_preV (q0 := 0) (ci := 2) (q := (RX2, TX2, 3)) (fs := [.int 12, .ref sa, .int z]) vT_mv trivial hP rfl rfl (hP.sub (ws' := [(h0, .inr (2, [.int 12, .ref sa, .int z])), (sa, .inl (dN, 26, .inl Sf)), (ib, .inl (dB, 8, .inl bf)), (ob, .inl (dB, 8, .inl uf))]) [0, 1, 2, 3] rfl) (hD.sub (ws' := [(h0, .inr (2, [.int 12, .ref sa, .int z])), (sa, .inl (dN, 26, .inl Sf)), (ib, .inl (dB, 8, .inl bf)), (ob, .inl (dB, 8, .inl uf))]) [0, 1, 2, 3] (by decide) rfl) hK) rfl rfl hl.1 rfl (lv_room (Nat.le_of_ble_eq_true rfl)) dX2_processBlock_13 ⟨(Nat.le_of_ble_eq_true rfl), (Nat.le_of_ble_eq_true rfl)⟩) hP hD hS hA [0, 1, 2, 3] [] rfl rfl (by decide) (by decide) (fun r_ _ H locs _ hP hD hS => ?_)
    have hP : va_P D vwCl [(h0, .inr (2, [.int 12, .ref sa, .int z])), (sa, .inl (dN, 26, .inl Sf)), (ib, .inl (dB, 8, .inl bf)), (ob, .inl (dB, 8, .inl (rc_oE uf (rc_E Sf (fun j => bf j &&& 255)))))] H := hP
    have hD : va_D A [(h0, .inr (2, [.int 12, .ref sa, .int z])), (sa, .inl (dN, 26, .inl Sf)), (ib, .inl (dB, 8, .inl bf)), (ob, .inl (dB, 8, .inl (rc_oE uf (rc_E Sf (fun j => bf j &&& 255)))))] := hD
    rw [← eR] at hP hD
    refine lv_goto (tgt := 28) hx hb dX2_processBlock_16 (by decide) ?_
    have hP9 : va_P D vwCl [(h0, .inr (2, [.int 12, .ref sa, .int z])), (sa, .inl (dN, 26, .inl Sf)), (ib, .inl (dB, 8, .inl bf)), (ob, .inl (dB, 8, .inl (rc_oE uf (rc_R z Sf (fun j => bf j &&& 255)))))] H := hP.sub [0, 1, 2, 3] rfl
    have hD9 : va_D A [(h0, .inr (2, [.int 12, .ref sa, .int z])), (sa, .inl (dN, 26, .inl Sf)), (ib, .inl (dB, 8, .inl bf)), (ob, .inl (dB, 8, .inl (rc_oE uf (rc_R z Sf (fun j => bf j &&& 255)))))] := hD.sub [0, 1, 2, 3] (by decide) rfl
    subst hQ
    exact W.iret hx hb hr (fun t ht hW => ⟨⟨_, (), rfl, trivial, by rw [ht]; exact hP9, hD9⟩, hS.F ht⟩) hS.2.2 dX2_processBlock_28 hlocks
end
section
set_option maxHeartbeats 4000000 in
set_option maxRecDepth 100000 in
theorem metX3_getKey (l : Launch) (D : va_G) (dB dN : ClassId) (sz : Nat) (h0 hk : Nat) : Met l yX3_getKey (ws_ yX3_getKey cX3_getKey 1 (some (.array .byte))) rmR (va_Pc [.ref h0] (vPre D dB dN vT sz [(h0, .inr (3, [.ref hk]))])) (va_Sr (fun k => hk = k) (fun k => .ref k)) 0 0 (fun _ => False) := by
  refine v_metR (by decide) (Nat.le_of_ble_eq_true rfl) ?_
  rintro p e s m args below meth c ls Q ⟨hx, hb, hr, hlocks, hml, hown, hts, hin⟩ hP hK hl hQ
  have hl : lv_has ls 1 [(0, .ref h0)] := hl
  have hown : s.vm.findClass RX3 = some m.cls := hown
  refine lv_aload_n hx hb dX3_getKey_0 rfl (lv_at hl 0 rfl) ?_
  refine va_get (D := D) (ci := 3) (v := .ref hk) (C := RX3) (T := TX3) (N := 1) hx hb hts in_X3 hown hK hP 0 rfl rfl 0 (by decide) (hts _ q90) (fun _ h9 => h9) rfl dX3_getKey_1 ?_
  subst hQ
  exact W.aret hx hb hr (Or.inr ⟨_, rfl⟩) (Or.inr ⟨hk, rfl⟩) (fun t ht hW => ⟨hk, rfl, rfl, ht⟩) (fun q h => by cases h) dX3_getKey_4 hlocks
abbrev rmK3 : Room := { frames := 1, cells := 1, slots := 16, locals := 12 }
abbrev rmK2 : Room := { frames := 2, cells := 1, slots := 16, locals := 33 }
abbrev rmK1 : Room := { frames := 3, cells := 1, slots := 16, locals := 56 }
set_option maxHeartbeats 4000000 in
set_option maxRecDepth 100000 in
theorem metX3_init_3 (l : Launch) (D : va_G) (dB dN : ClassId) (sz : Nat) (h0 : Nat) : Met l yX3_init_3 (ws_ yX3_init_3 cX3_init_3 2 none) rmK3 (va_Pc [.ref h0, .int 16] (vPre D dB dN vT sz [(h0, .inr (3, [.null]))])) (qV D (fun q : Nat => [(h0, .inr (3, [.ref q])), (q, .inl (dB, 16, .inl (fun _ => 0)))]) (va_A [(h0, .inr (3, [.null]))] sz)) 1 16 (va_A [(h0, .inr (3, [.null]))] sz) := by
  refine v_met (Qc := qV D (fun q : Nat => [(h0, .inr (3, [.ref q])), (q, .inl (dB, 16, .inl (fun _ => 0)))])) (by decide) (Nat.le_of_ble_eq_true rfl) ?_
  rintro p e s m args below meth c A ls Q ⟨hx, hb, hr, hlocks, hml, hown, hts, hin⟩ hP hK hD hX hA hS hl hQ
  have hl : lv_has ls 2 [(0, .ref h0), (1, .int 16)] := hl
  have hown : s.vm.findClass RX3 = some m.cls := hown
  refine lv_aload_n hx hb dX3_init_3_0 rfl (lv_at hl 0 rfl) ?_
  refine W.objInit hx hb hown (hts _ q89) (hts _ q27) (hts _ q28) rfl (by rw [hml]; exact hl.1) rfl dX3_init_3_1 (Nat.le_of_ble_eq_true rfl) (Nat.le_of_ble_eq_true rfl) ?_
  refine W.eq (g2 := F0 m 4 ls []) rfl ?_
  refine lv_aload_n hx hb dX3_init_3_4 rfl (lv_at hl 0 rfl) ?_
  refine lv_iload_n hx hb dX3_init_3_5 rfl (lv_at hl 1 rfl) ?_
  refine v_newa (atype := .byte) (a0 := (16, .inl (fun _ => 0))) hx hb (hts _ q39) rfl 0 rfl (fun _ => rfl) hK hP hD hS hA (fun cA => v_cell0 16 .byte rfl cA) rfl (Nat.le_of_ble_eq_true rfl) (Nat.le_of_ble_eq_true rfl) (Nat.le_of_ble_eq_true rfl) (Nat.le_of_ble_eq_true rfl) dX3_init_3_6 (fun q_1 H hP hD hS => ?_)
  have hP : va_P D vwCl [(h0, .inr (3, [.null])), (q_1, .inl (dB, 16, .inl (fun _ => 0)))] H := hP
  have hD : va_D A [(h0, .inr (3, [.null])), (q_1, .inl (dB, 16, .inl (fun _ => 0)))] := hD
  refine W.widen (k := 1) (n := 16) (Nat.le_of_ble_eq_true rfl) (Nat.le_of_ble_eq_true rfl) ?_
  refine va_put (D := D) (ci := 3) (v := .ref q_1) (ty := .array .byte) (C := RX3) (T := TX3) (N := 1) hx hb hts in_X3 tyX3 tyX3_ok nmX3 hown hK hP hD hS 0 rfl rfl 0 (by decide) (hts _ q90) (fun _ h9 => h9) rfl (by decide +kernel) rfl rfl (Nat.le_of_ble_eq_true rfl) dX3_init_3_8 (fun H locs hP hD hS => ?_)
  have hP : va_P D vwCl [(h0, .inr (3, [.ref q_1])), (q_1, .inl (dB, 16, .inl (fun _ => 0)))] H := hP
  have hD : va_D A [(h0, .inr (3, [.ref q_1])), (q_1, .inl (dB, 16, .inl (fun _ => 0)))] := hD
  have hP9 : va_P D vwCl [(h0, .inr (3, [.ref q_1])), (q_1, .inl (dB, 16, .inl (fun _ => 0)))] H := hP.sub [0, 1] rfl
  have hD9 : va_D A [(h0, .inr (3, [.ref q_1])), (q_1, .inl (dB, 16, .inl (fun _ => 0)))] := hD.sub [0, 1] (by decide) rfl
  subst hQ
  exact W.vret hx hb hr (fun t ht hW => ⟨⟨q_1, rfl, trivial, by rw [ht]; exact hP9, hD9⟩, hS.F ht⟩) hS.2.2 dX3_init_3_11 hlocks
set_option maxHeartbeats 4000000 in
set_option maxRecDepth 100000 in
theorem metX3_init_2 (l : Launch) (D : va_G) (dB dN : ClassId) (sz : Nat) (h0 hk : Nat) (kf : Nat → Int32) (hf : ∀ j, j < 16 → fits .byte (.int (kf j)) = true) : Met l yX3_init_2 (ws_ yX3_init_2 cX3_init_2 4 none) rmK2 (va_Pc [.ref h0, .ref hk, .int 0, .int 16] (vPre D dB dN vT sz [(h0, .inr (3, [.null])), (hk, .inl (dB, 16, .inl kf))])) (qV D (fun q : Nat => [(h0, .inr (3, [.ref q])), (hk, .inl (dB, 16, .inl kf)), (q, .inl (dB, 16, .inl (va_cpy kf (fun _ => 0) 0 0 16)))]) (va_A [(h0, .inr (3, [.null])), (hk, .inl (dB, 16, .inl kf))] sz)) 1 16 (va_A [(h0, .inr (3, [.null])), (hk, .inl (dB, 16, .inl kf))] sz) := by
  refine v_met (Qc := qV D (fun q : Nat => [(h0, .inr (3, [.ref q])), (hk, .inl (dB, 16, .inl kf)), (q, .inl (dB, 16, .inl (va_cpy kf (fun _ => 0) 0 0 16)))])) (by decide) (Nat.le_of_ble_eq_true rfl) ?_
  rintro p e s m args below meth c A ls Q ⟨hx, hb, hr, hlocks, hml, hown, hts, hin⟩ hP hK hD hX hA hS hl hQ
  have hl : lv_has ls 4 [(0, .ref h0), (1, .ref hk), (2, .int 0), (3, .int 16)] := hl
  have hown : s.vm.findClass RX3 = some m.cls := hown
  refine lv_aload_n hx hb dX3_init_2_0 rfl (lv_at hl 0 rfl) ?_
  refine lv_iload_n hx hb dX3_init_2_1 rfl (lv_at hl 3 rfl) ?_
  refine v_callv (wr := [(hk, .inl (dB, 16, .inl kf))]) (va_runI (As := [.int 16]) (rest := []) ⟨hx, hb, hml, hown, hts⟩ (metX3_init_3 l D dB dN s.heap.size h0) (cwI 1 hts (lw_meth q88) rfl rfl rfl (hts _ q15) (hts _ q86) (hts _ q87) rfl (by decide +kernel) ⟨(Nat.le_of_ble_eq_true rfl), (Nat.le_of_ble_eq_true rfl)⟩) (v_preS vT_mv trivial (hP.sub (ws' := [(h0, .inr (3, [.null]))]) [0] rfl) (hD.sub (ws' := [(h0, .inr (3, [.null]))]) [0] (by decide) rfl) hK) rfl rfl hl.1 rfl (lv_room (Nat.le_of_ble_eq_true rfl)) dX3_init_2_2 ⟨(Nat.le_of_ble_eq_true rfl), (Nat.le_of_ble_eq_true rfl)⟩) hP hD hS hA [0] [1] rfl rfl (by decide) (by decide) (fun q H locs _ hP hD hS => ?_)
  have hP : va_P D vwCl [(hk, .inl (dB, 16, .inl kf)), (h0, .inr (3, [.ref q])), (q, .inl (dB, 16, .inl (fun _ => 0)))] H := hP
  have hD : va_D A [(hk, .inl (dB, 16, .inl kf)), (h0, .inr (3, [.ref q])), (q, .inl (dB, 16, .inl (fun _ => 0)))] := hD
  refine W.widen (k := 1) (n := 16) (Nat.le_of_ble_eq_true rfl) (Nat.le_of_ble_eq_true rfl) ?_
  refine lv_aload_n hx hb dX3_init_2_5 rfl (lv_at hl 1 rfl) ?_
  refine lv_iload_n hx hb dX3_init_2_6 rfl (lv_at hl 2 rfl) ?_
  refine lv_aload_n hx hb dX3_init_2_7 rfl (lv_at hl 0 rfl) ?_
  refine va_get (D := D) (ci := 3) (v := .ref q) (C := RX3) (T := TX3) (N := 1) hx hb hts in_X3 hown hK hP 1 rfl rfl 0 (by decide) (hts _ q90) (fun _ h9 => h9) rfl dX3_init_2_8 ?_
  refine lv_iconst (v := 0) hx hb dX3_init_2_11 (by decide) ?_
  refine lv_iload_n hx hb dX3_init_2_12 rfl (lv_at hl 3 rfl) ?_
  refine va_copyi hx hb (hml.trans hl.1.symm) hown (hts _ q94) (hts _ q96) (hts _ q95) (hts _ q16) hK hP hD hS 0 2 0 0 rfl rfl rfl rfl rfl (by decide) (by decide) (by decide) (by decide) (by decide) (fun i hi => by have h16 : i < 16 := hi; have e0 : (0 : Int32).toNatClampNeg + i = i := by { rw [show (0 : Int32).toNatClampNeg = 0 from rfl, Nat.zero_add] }; rw [e0]; exact hf i h16) (Nat.le_of_ble_eq_true rfl) (Nat.le_of_ble_eq_true rfl) dX3_init_2_13 (fun H locs hP hD hS => ?_)
  have hP : va_P D vwCl [(hk, .inl (dB, 16, .inl kf)), (h0, .inr (3, [.ref q])), (q, .inl (dB, 16, .inl (va_cpy kf (fun _ => 0) 0 0 16)))] H := hP
  have hD : va_D A [(hk, .inl (dB, 16, .inl kf)), (h0, .inr (3, [.ref q])), (q, .inl (dB, 16, .inl (va_cpy kf (fun _ => 0) 0 0 16)))] := hD
  have hP9 : va_P D vwCl [(h0, .inr (3, [.ref q])), (hk, .inl (dB, 16, .inl kf)), (q, .inl (dB, 16, .inl (va_cpy kf (fun _ => 0) 0 0 16)))] H := hP.sub [1, 0, 2] rfl
  have hD9 : va_D A [(h0, .inr (3, [.ref q])), (hk, .inl (dB, 16, .inl kf)), (q, .inl (dB, 16, .inl (va_cpy kf (fun _ => 0) 0 0 16)))] := hD.sub [1, 0, 2] (by decide) rfl
  subst hQ
  exact W.vret hx hb hr (fun t ht hW => ⟨⟨q, rfl, trivial, by rw [ht]; exact hP9, hD9⟩, hS.F ht⟩) hS.2.2 dX3_init_2_16 hlocks
set_option maxHeartbeats 4000000 in
set_option maxRecDepth 100000 in
theorem metX3_init (l : Launch) (D : va_G) (dB dN : ClassId) (sz : Nat) (h0 hk : Nat) (kf : Nat → Int32) (hf : ∀ j, j < 16 → fits .byte (.int (kf j)) = true) : Met l yX3_init (ws_ yX3_init cX3_init 2 none) rmK1 (va_Pc [.ref h0, .ref hk] (vPre D dB dN vT sz [(h0, .inr (3, [.null])), (hk, .inl (dB, 16, .inl kf))])) (qV D (fun q : Nat => [(h0, .inr (3, [.ref q])), (hk, .inl (dB, 16, .inl kf)), (q, .inl (dB, 16, .inl (va_cpy kf (fun _ => 0) 0 0 16)))]) (va_A [(h0, .inr (3, [.null])), (hk, .inl (dB, 16, .inl kf))] sz)) 1 16 (va_A [(h0, .inr (3, [.null])), (hk, .inl (dB, 16, .inl kf))] sz) := by
  refine v_met (Qc := qV D (fun q : Nat => [(h0, .inr (3, [.ref q])), (hk, .inl (dB, 16, .inl kf)), (q, .inl (dB, 16, .inl (va_cpy kf (fun _ => 0) 0 0 16)))])) (by decide) (Nat.le_of_ble_eq_true rfl) ?_
  rintro p e s m args below meth c A ls Q ⟨hx, hb, hr, hlocks, hml, hown, hts, hin⟩ hP hK hD hX hA hS hl hQ
  have hl : lv_has ls 2 [(0, .ref h0), (1, .ref hk)] := hl
  have hown : s.vm.findClass RX3 = some m.cls := hown
  refine lv_aload_n hx hb dX3_init_0 rfl (lv_at hl 0 rfl) ?_
  refine lv_aload_n hx hb dX3_init_1 rfl (lv_at hl 1 rfl) ?_
  refine lv_iconst (v := 0) hx hb dX3_init_2 (by decide) ?_
  refine lv_aload_n hx hb dX3_init_3 rfl (lv_at hl 1 rfl) ?_
  refine va_alen (v := 16) hx hb hK hP 1 0 rfl rfl rfl dX3_init_4 ?_
  refine v_callv (wr := []) (va_runI (As := [.ref hk, .int 0, .int 16]) (rest := []) ⟨hx, hb, hml, hown, hts⟩ (metX3_init_2 l D dB dN s.heap.size h0 hk kf hf) (cwI 3 hts (lw_meth q85) rfl rfl rfl (hts _ q15) (hts _ q83) (hts _ q84) rfl (by decide +kernel) ⟨(Nat.le_of_ble_eq_true rfl), (Nat.le_of_ble_eq_true rfl)⟩) (v_preS vT_mv trivial (hP.sub (ws' := [(h0, .inr (3, [.null])), (hk, .inl (dB, 16, .inl kf))]) [0, 1] rfl) (hD.sub (ws' := [(h0, .inr (3, [.null])), (hk, .inl (dB, 16, .inl kf))]) [0, 1] (by decide) rfl) hK) rfl rfl hl.1 rfl (lv_room (Nat.le_of_ble_eq_true rfl)) dX3_init_5 ⟨(Nat.le_of_ble_eq_true rfl), (Nat.le_of_ble_eq_true rfl)⟩) hP hD hS hA [0, 1] [] rfl rfl (by decide) (by decide) (fun q H locs _ hP hD hS => ?_)
  have hP : va_P D vwCl [(h0, .inr (3, [.ref q])), (hk, .inl (dB, 16, .inl kf)), (q, .inl (dB, 16, .inl (va_cpy kf (fun _ => 0) 0 0 16)))] H := hP
  have hD : va_D A [(h0, .inr (3, [.ref q])), (hk, .inl (dB, 16, .inl kf)), (q, .inl (dB, 16, .inl (va_cpy kf (fun _ => 0) 0 0 16)))] := hD
  refine W.widen (k := 1) (n := 16) (Nat.le_of_ble_eq_true rfl) (Nat.le_of_ble_eq_true rfl) ?_
  have hP9 : va_P D vwCl [(h0, .inr (3, [.ref q])), (hk, .inl (dB, 16, .inl kf)), (q, .inl (dB, 16, .inl (va_cpy kf (fun _ => 0) 0 0 16)))] H := hP.sub [0, 1, 2] rfl
  have hD9 : va_D A [(h0, .inr (3, [.ref q])), (hk, .inl (dB, 16, .inl kf)), (q, .inl (dB, 16, .inl (va_cpy kf (fun _ => 0) 0 0 16)))] := hD.sub [0, 1, 2] (by decide) rfl
  subst hQ
  exact W.vret hx hb hr (fun t ht hW => ⟨⟨q, rfl, trivial, by rw [ht]; exact hP9, hD9⟩, hS.F ht⟩) hS.2.2 dX3_init_8 hlocks
abbrev rmIN : Room := { frames := 2, cells := 2, slots := 30, locals := 50 }
set_option maxHeartbeats 4000000 in
set_option maxRecDepth 100000 in
theorem metX2_init_2 (l : Launch) (D : va_G) (dB dN : ClassId) (sz : Nat) (h0 hp hk : Nat) (z : Int32) (hz : z = 0 ∨ z = 1) (kf : Nat → Int32) : Met l yX2_init_2 (ws_ yX2_init_2 cX2_init_2 5 none) rmIN (va_Pc [.ref h0, .int z, .ref hp] (vPre D dB dN vX sz [(h0, .inr (2, [.int 12, .null, .int 0])), (hp, .inr (3, [.ref hk])), (hk, .inl (dB, 16, .inl kf))])) (qV D (fun sa : Nat => [(h0, .inr (2, [.int 12, .ref sa, .int z])), (sa, .inl (dN, 26, .inl (rc_key (fun j => kf j &&& 255))))]) (va_A [(h0, .inr (2, [.int 12, .null, .int 0])), (hp, .inr (3, [.ref hk])), (hk, .inl (dB, 16, .inl kf))] sz)) 2 30 (va_A [(h0, .inr (2, [.int 12, .null, .int 0])), (hp, .inr (3, [.ref hk])), (hk, .inl (dB, 16, .inl kf))] sz) := by
  refine v_met (Qc := qV D (fun sa : Nat => [(h0, .inr (2, [.int 12, .ref sa, .int z])), (sa, .inl (dN, 26, .inl (rc_key (fun j => kf j &&& 255))))])) (by decide) (Nat.le_of_ble_eq_true rfl) ?_
  rintro p e s m args below meth c A ls Q ⟨hx, hb, hr, hlocks, hml, hown, hts, hin⟩ hP hK hD hX hA hS hl hQ
  have hl : lv_has ls 5 [(0, .ref h0), (1, .int z), (2, .ref hp)] := hl
  have hown : s.vm.findClass RX2 = some m.cls := hown
  refine lv_aload_n hx hb dX2_init_2_0 rfl (lv_at hl 2 rfl) ?_
  refine va_instNo (C := "KeyParameter") hx hb hown (hts _ q107) hX.1 (va_recv hK hP (ci := 3) (q0 := 1) rfl rfl) dX2_init_2_1 ?_
  refine lv_if_eq (tgt := 36) hx hb dX2_init_2_4 (by decide) (fun _ => ?_) (fun c => absurd ((v_eq (a := 0) (b := 0) rfl rfl (by omega) (by omega)).mpr (by omega)) c)
  refine lv_aload_n hx hb dX2_init_2_36 rfl (lv_at hl 2 rfl) ?_
  refine va_instS hx hb hown (hts _ q126) (hK.1 3 _ rfl).2 (va_recv hK hP (ci := 3) (q0 := 1) rfl rfl) dX2_init_2_37 ?_
  refine lv_if_eq (tgt := 63) hx hb dX2_init_2_40 (by decide) (fun c => absurd ((v_eq (a := 1) (b := 0) rfl rfl (by omega) (by omega)).mp c) (by omega)) (fun _ => ?_)
  refine lv_aload_n hx hb dX2_init_2_43 rfl (lv_at hl 2 rfl) ?_
  refine va_castS hx hb hown (hts _ q126) (hK.1 3 _ rfl).2 (va_recv hK hP (ci := 3) (q0 := 1) rfl rfl) dX2_init_2_44 ?_
  refine lv_astore (lv' := [(4, .ref hp), (0, .ref h0), (1, .int z), (2, .ref hp)]) hx hb dX2_init_2_47 hl (by decide) rfl (fun ls hl => ?_)
  refine lv_aload hx hb dX2_init_2_49 (lv_at hl 0 rfl) ?_
  refine va_csr (W.runV (As := []) (rest := []) ⟨hx, hb, hml, hown, hts⟩ (metX3_getKey l D dB dN s.heap.size hp hk) (cwV 0 hts (lw_V q127 q128 q129 q15 q130) rfl rfl rfl (by decide +kernel) ⟨(Nat.le_of_ble_eq_true rfl), (Nat.le_of_ble_eq_true rfl)⟩) (v_preV (q0 := 1) (ci := 3) (q := (RX3, TX3, 1)) (fs := [.ref hk]) vT_mv trivial hP rfl rfl (hP.sub (ws' := [(hp, .inr (3, [.ref hk]))]) [1] rfl) (hD.sub (ws' := [(hp, .inr (3, [.ref hk]))]) [1] (by decide) rfl) hK) rfl rfl hl.1 rfl (lv_room (Nat.le_of_ble_eq_true rfl)) dX2_init_2_51 ⟨(Nat.le_of_ble_eq_true rfl), (Nat.le_of_ble_eq_true rfl)⟩) (fun k_1 ek_1 => ?_)
  subst ek_1
  refine lv_astore_n (lv' := [(3, .ref hk), (4, .ref hp), (0, .ref h0), (1, .int z), (2, .ref hp)]) hx hb dX2_init_2_54 rfl hl (by decide) rfl (fun ls hl => ?_)
  refine lv_aload_n hx hb dX2_init_2_55 rfl (lv_at hl 2 rfl) ?_
  refine lv_aload_n hx hb dX2_init_2_56 rfl (lv_at hl 0 rfl) ?_
  refine v_callv (wr := [(hp, .inr (3, [.ref hk]))]) (va_runV (As := [.ref hk]) (rest := []) ⟨hx, hb, hml, hown, hts⟩ (metX2_setKey l D dB dN s.heap.size h0 hk 0 kf) (cwV 1 hts (lw_V q116 q118 qs1 q14 q119) rfl rfl rfl (by decide +kernel) ⟨(Nat.le_of_ble_eq_true rfl), (Nat.le_of_ble_eq_true rfl)⟩) (v_preV (q0 := 0) (ci := 2) (q := (RX2, TX2, 3)) (fs := [.int 12, .null, .int 0]) vT_mv trivial hP rfl rfl (hP.sub (ws' := [(h0, .inr (2, [.int 12, .null, .int 0])), (hk, .inl (dB, 16, .inl kf))]) [0, 2] rfl) (hD.sub (ws' := [(h0, .inr (2, [.int 12, .null, .int 0])), (hk, .inl (dB, 16, .inl kf))]) [0, 2] (by decide) rfl) hK) rfl rfl hl.1 rfl (lv_room (Nat.le_of_ble_eq_true rfl)) dX2_init_2_57 ⟨(Nat.le_of_ble_eq_true rfl), (Nat.le_of_ble_eq_true rfl)⟩) hP hD hS hA [0, 2] [1] rfl rfl (by decide) (by decide) (fun sa H locs _ hP hD hS => ?_)
  have hP : va_P D vwCl [(hp, .inr (3, [.ref hk])), (h0, .inr (2, [.int 12, .ref sa, .int 0])), (hk, .inl (dB, 16, .inl kf)), (sa, .inl (dN, 26, .inl (rc_key (fun j => kf j &&& 255))))] H := hP
  have hD : va_D A [(hp, .inr (3, [.ref hk])), (h0, .inr (2, [.int 12, .ref sa, .int 0])), (hk, .inl (dB, 16, .inl kf)), (sa, .inl (dN, 26, .inl (rc_key (fun j => kf j &&& 255))))] := hD
  refine W.widen (k := 2) (n := 30) (Nat.le_of_ble_eq_true rfl) (Nat.le_of_ble_eq_true rfl) ?_
  refine lv_goto (tgt := 73) hx hb dX2_init_2_60 (by decide) ?_
  refine lv_aload_n hx hb dX2_init_2_73 rfl (lv_at hl 2 rfl) ?_
  refine lv_iload_n hx hb dX2_init_2_74 rfl (lv_at hl 3 rfl) ?_
  refine va_put (D := D) (ci := 2) (v := .int z) (ty := .boolean) (C := RX2) (T := TX2) (N := 3) hx hb hts in_X2 tyX2 tyX2_ok nmX2 hown hK hP hD hS 1 rfl rfl 2 (by decide) (hts _ q70) (fun _ h9 => h9) rfl (by decide +kernel) (by rcases hz with rfl | rfl <;> rfl) (by rcases hz with rfl | rfl <;> rfl) (Nat.le_of_ble_eq_true rfl) dX2_init_2_75 (fun H locs hP hD hS => ?_)
  have hP : va_P D vwCl [(hp, .inr (3, [.ref hk])), (h0, .inr (2, [.int 12, .ref sa, .int z])), (hk, .inl (dB, 16, .inl kf)), (sa, .inl (dN, 26, .inl (rc_key (fun j => kf j &&& 255))))] H := hP
  have hD : va_D A [(hp, .inr (3, [.ref hk])), (h0, .inr (2, [.int 12, .ref sa, .int z])), (hk, .inl (dB, 16, .inl kf)), (sa, .inl (dN, 26, .inl (rc_key (fun j => kf j &&& 255))))] := hD
  have hP9 : va_P D vwCl [(h0, .inr (2, [.int 12, .ref sa, .int z])), (sa, .inl (dN, 26, .inl (rc_key (fun j => kf j &&& 255))))] H := hP.sub [1, 3] rfl
  have hD9 : va_D A [(h0, .inr (2, [.int 12, .ref sa, .int z])), (sa, .inl (dN, 26, .inl (rc_key (fun j => kf j &&& 255))))] := hD.sub [1, 3] (by decide) rfl
  subst hQ
  exact W.vret hx hb hr (fun t ht hW => ⟨⟨sa, rfl, trivial, by rw [ht]; exact hP9, hD9⟩, hS.F ht⟩) hS.2.2 dX2_init_2_78 hlocks
end
section
abbrev rmDI : Room := { frames := 1, cells := 3, slots := 48, locals := 12 }
abbrev rmWD : Room := { frames := 1, cells := 0, slots := 0, locals := 23 }
set_option maxHeartbeats 4000000 in
set_option maxRecDepth 100000 in
theorem metX0_init (l : Launch) (D : va_G) (dB dN : ClassId) (sz : Nat) (h0 : Nat) : Met l yX0_init (ws_ yX0_init cX0_init 1 none) rmDI (va_Pc [.ref h0] (vPre D dB dN vT sz [(h0, .inr (0, [.null, .null, .null]))])) (qV D (fun u : Nat × Nat × Nat => [(h0, .inr (0, [.ref u.1, .ref u.2.1, .ref u.2.2])), (u.1, .inl (dB, 32, .inl (fun _ => 0))), (u.2.1, .inl (dB, 8, .inl (fun _ => 0))), (u.2.2, .inl (dB, 8, .inl (fun _ => 0)))]) (va_A [(h0, .inr (0, [.null, .null, .null]))] sz)) 3 48 (va_A [(h0, .inr (0, [.null, .null, .null]))] sz) := by
  refine v_met (Qc := qV D (fun u : Nat × Nat × Nat => [(h0, .inr (0, [.ref u.1, .ref u.2.1, .ref u.2.2])), (u.1, .inl (dB, 32, .inl (fun _ => 0))), (u.2.1, .inl (dB, 8, .inl (fun _ => 0))), (u.2.2, .inl (dB, 8, .inl (fun _ => 0)))])) (by decide) (Nat.le_of_ble_eq_true rfl) ?_
  rintro p e s m args below meth c A ls Q ⟨hx, hb, hr, hlocks, hml, hown, hts, hin⟩ hP hK hD hX hA hS hl hQ
  have hl : lv_has ls 1 [(0, .ref h0)] := hl
  have hown : s.vm.findClass RX0 = some m.cls := hown
  refine lv_aload_n hx hb dX0_init_0 rfl (lv_at hl 0 rfl) ?_
  refine W.objInit hx hb hown (hts _ q26) (hts _ q27) (hts _ q28) rfl (by rw [hml]; exact hl.1) rfl dX0_init_1 (Nat.le_of_ble_eq_true rfl) (Nat.le_of_ble_eq_true rfl) ?_
  refine W.eq (g2 := F0 m 4 ls []) rfl ?_
  refine lv_aload_n hx hb dX0_init_4 rfl (lv_at hl 0 rfl) ?_
  refine lv_bipush (v := 32) hx hb dX0_init_5 (by decide) ?_
  refine v_newa (atype := .byte) (a0 := (32, .inl (fun _ => 0))) hx hb (hts _ q39) rfl 0 rfl (fun _ => rfl) hK hP hD hS hA (fun cA => v_cell0 32 .byte rfl cA) rfl (Nat.le_of_ble_eq_true rfl) (Nat.le_of_ble_eq_true rfl) (Nat.le_of_ble_eq_true rfl) (Nat.le_of_ble_eq_true rfl) dX0_init_7 (fun q_1 H hP hD hS => ?_)
  have hP : va_P D vwCl [(h0, .inr (0, [.null, .null, .null])), (q_1, .inl (dB, 32, .inl (fun _ => 0)))] H := hP
  have hD : va_D A [(h0, .inr (0, [.null, .null, .null])), (q_1, .inl (dB, 32, .inl (fun _ => 0)))] := hD
  refine W.widen (k := 1) (n := 32) (Nat.le_of_ble_eq_true rfl) (Nat.le_of_ble_eq_true rfl) ?_
  refine va_putF (D := D) (ci := 0) (v := .ref q_1) (ty := .array .byte) (C := RX0) (T := TX0) (N := 3) hx hb hts in_X0 tyX0 tyX0_ok nmX0 hown hK hP hD hS 0 rfl rfl 0 (by decide) (hts _ q29) (fun _ h9 => h9) rfl hin rfl (by decide +kernel) rfl rfl (Nat.le_of_ble_eq_true rfl) dX0_init_9 (fun H locs hP hD hS => ?_)
  have hP : va_P D vwCl [(h0, .inr (0, [.ref q_1, .null, .null])), (q_1, .inl (dB, 32, .inl (fun _ => 0)))] H := hP
  have hD : va_D A [(h0, .inr (0, [.ref q_1, .null, .null])), (q_1, .inl (dB, 32, .inl (fun _ => 0)))] := hD
  refine lv_aload_n hx hb dX0_init_12 rfl (lv_at hl 0 rfl) ?_
  refine lv_bipush (v := 8) hx hb dX0_init_13 (by decide) ?_
  refine v_newa (atype := .byte) (a0 := (8, .inl (fun _ => 0))) hx hb (hts _ q39) rfl 0 rfl (fun _ => rfl) hK hP hD hS hA (fun cA => v_cell0 8 .byte rfl cA) rfl (Nat.le_of_ble_eq_true rfl) (Nat.le_of_ble_eq_true rfl) (Nat.le_of_ble_eq_true rfl) (Nat.le_of_ble_eq_true rfl) dX0_init_15 (fun q_2 H hP hD hS => ?_)
  have hP : va_P D vwCl [(h0, .inr (0, [.ref q_1, .null, .null])), (q_1, .inl (dB, 32, .inl (fun _ => 0))), (q_2, .inl (dB, 8, .inl (fun _ => 0)))] H := hP
  have hD : va_D A [(h0, .inr (0, [.ref q_1, .null, .null])), (q_1, .inl (dB, 32, .inl (fun _ => 0))), (q_2, .inl (dB, 8, .inl (fun _ => 0)))] := hD
  refine W.widen (k := 2) (n := 40) (Nat.le_of_ble_eq_true rfl) (Nat.le_of_ble_eq_true rfl) ?_
  refine va_putF (D := D) (ci := 0) (v := .ref q_2) (ty := .array .byte) (C := RX0) (T := TX0) (N := 3) hx hb hts in_X0 tyX0 tyX0_ok nmX0 hown hK hP hD hS 0 rfl rfl 1 (by decide) (hts _ q30) (fun _ h9 => h9) rfl hin rfl (by decide +kernel) rfl rfl (Nat.le_of_ble_eq_true rfl) dX0_init_17 (fun H locs hP hD hS => ?_)
  have hP : va_P D vwCl [(h0, .inr (0, [.ref q_1, .ref q_2, .null])), (q_1, .inl (dB, 32, .inl (fun _ => 0))), (q_2, .inl (dB, 8, .inl (fun _ => 0)))] H := hP
  have hD : va_D A [(h0, .inr (0, [.ref q_1, .ref q_2, .null])), (q_1, .inl (dB, 32, .inl (fun _ => 0))), (q_2, .inl (dB, 8, .inl (fun _ => 0)))] := hD
  refine lv_aload_n hx hb dX0_init_20 rfl (lv_at hl 0 rfl) ?_
  refine lv_bipush (v := 8) hx hb dX0_init_21 (by decide) ?_
  refine v_newa (atype := .byte) (a0 := (8, .inl (fun _ => 0))) hx hb (hts _ q39) rfl 0 rfl (fun _ => rfl) hK hP hD hS hA (fun cA => v_cell0 8 .byte rfl cA) rfl (Nat.le_of_ble_eq_true rfl) (Nat.le_of_ble_eq_true rfl) (Nat.le_of_ble_eq_true rfl) (Nat.le_of_ble_eq_true rfl) dX0_init_23 (fun q_3 H hP hD hS => ?_)
  have hP : va_P D vwCl [(h0, .inr (0, [.ref q_1, .ref q_2, .null])), (q_1, .inl (dB, 32, .inl (fun _ => 0))), (q_2, .inl (dB, 8, .inl (fun _ => 0))), (q_3, .inl (dB, 8, .inl (fun _ => 0)))] H := hP
  have hD : va_D A [(h0, .inr (0, [.ref q_1, .ref q_2, .null])), (q_1, .inl (dB, 32, .inl (fun _ => 0))), (q_2, .inl (dB, 8, .inl (fun _ => 0))), (q_3, .inl (dB, 8, .inl (fun _ => 0)))] := hD
  refine W.widen (k := 3) (n := 48) (Nat.le_of_ble_eq_true rfl) (Nat.le_of_ble_eq_true rfl) ?_
  refine va_putF (D := D) (ci := 0) (v := .ref q_3) (ty := .array .byte) (C := RX0) (T := TX0) (N := 3) hx hb hts in_X0 tyX0 tyX0_ok nmX0 hown hK hP hD hS 0 rfl rfl 2 (by decide) (hts _ q31) (fun _ h9 => h9) rfl hin rfl (by decide +kernel) rfl rfl (Nat.le_of_ble_eq_true rfl) dX0_init_25 (fun H locs hP hD hS => ?_)
  have hP : va_P D vwCl [(h0, .inr (0, [.ref q_1, .ref q_2, .ref q_3])), (q_1, .inl (dB, 32, .inl (fun _ => 0))), (q_2, .inl (dB, 8, .inl (fun _ => 0))), (q_3, .inl (dB, 8, .inl (fun _ => 0)))] H := hP
  have hD : va_D A [(h0, .inr (0, [.ref q_1, .ref q_2, .ref q_3])), (q_1, .inl (dB, 32, .inl (fun _ => 0))), (q_2, .inl (dB, 8, .inl (fun _ => 0))), (q_3, .inl (dB, 8, .inl (fun _ => 0)))] := hD
  have hP9 : va_P D vwCl [(h0, .inr (0, [.ref q_1, .ref q_2, .ref q_3])), (q_1, .inl (dB, 32, .inl (fun _ => 0))), (q_2, .inl (dB, 8, .inl (fun _ => 0))), (q_3, .inl (dB, 8, .inl (fun _ => 0)))] H := hP.sub [0, 1, 2, 3] rfl
  have hD9 : va_D A [(h0, .inr (0, [.ref q_1, .ref q_2, .ref q_3])), (q_1, .inl (dB, 32, .inl (fun _ => 0))), (q_2, .inl (dB, 8, .inl (fun _ => 0))), (q_3, .inl (dB, 8, .inl (fun _ => 0)))] := hD.sub [0, 1, 2, 3] (by decide) rfl
  subst hQ
  exact W.vret hx hb hr (fun t ht hW => ⟨⟨(q_1, q_2, q_3), rfl, trivial, by rw [ht]; exact hP9, hD9⟩, hS.F ht⟩) hS.2.2 dX0_init_28 hlocks
set_option maxHeartbeats 4000000 in
set_option maxRecDepth 100000 in
theorem metX0_word (l : Launch) (D : va_G) (dB dN : ClassId) (sz : Nat) (a : Nat) (f : Nat → Int32) (i x : Int32) (k n : Nat) (hi : i = nI k) (hk : k + 4 ≤ n) (hn : n < 2 ^ 31) : Met l yX0_word (ws_ yX0_word cX0_word 3 none) rmR (va_Pc [.ref a, .int i, .int x] (vPre D dB dN vT sz [(a, .inl (dB, n, .inl f))])) (qV D (fun _ : Unit => [(a, .inl (dB, n, .inl (rc_wD f k x)))]) (va_A [(a, .inl (dB, n, .inl f))] sz)) 0 0 (va_A [(a, .inl (dB, n, .inl f))] sz) := by
  refine v_met (Qc := qV D (fun _ : Unit => [(a, .inl (dB, n, .inl (rc_wD f k x)))])) (by decide) (Nat.le_of_ble_eq_true rfl) ?_
  rintro p e s m args below meth c A ls Q ⟨hx, hb, hr, hlocks, hml, hown, hts, hin⟩ hP hK hD hX hA hS hl hQ
  have hl : lv_has ls 3 [(0, .ref a), (1, .int i), (2, .int x)] := hl
  have hown : s.vm.findClass RX0 = some m.cls := hown
  refine lv_aload_n hx hb dX0_word_0 rfl (lv_at hl 0 rfl) ?_
  refine lv_iload_n hx hb dX0_word_1 rfl (lv_at hl 1 rfl) ?_
  refine lv_iload_n hx hb dX0_word_2 rfl (lv_at hl 2 rfl) ?_
  refine lv_bipush (v := 24) hx hb dX0_word_3 (by decide) ?_
  refine lv_ishr hx hb dX0_word_5 ?_
  refine lv_i2b hx hb dX0_word_6 rfl ?_
  refine v_bast hx hb hK hP hD hS 0 0 rfl rfl (k := k) hi (by omega) hn (pk_vb (x >>> (24 &&& 31))) dX0_word_7 (fun H locs hP hD hS => ?_)
  have hP : va_P D vwCl [(a, .inl (dB, n, .inl (upd f k ((x >>> (24 &&& 31)).toInt8.toInt32))))] H := hP
  have hD : va_D A [(a, .inl (dB, n, .inl (upd f k ((x >>> (24 &&& 31)).toInt8.toInt32))))] := hD
  refine lv_aload_n hx hb dX0_word_8 rfl (lv_at hl 0 rfl) ?_
  refine lv_iload_n hx hb dX0_word_9 rfl (lv_at hl 1 rfl) ?_
  refine lv_iconst (v := 1) hx hb dX0_word_10 (by decide) ?_
  refine lv_iadd hx hb dX0_word_11 ?_
  refine lv_iload_n hx hb dX0_word_12 rfl (lv_at hl 2 rfl) ?_
  refine lv_bipush (v := 16) hx hb dX0_word_13 (by decide) ?_
  refine lv_ishr hx hb dX0_word_15 ?_
  refine lv_i2b hx hb dX0_word_16 rfl ?_
  refine v_bast hx hb hK hP hD hS 0 0 rfl rfl (k := (k + 1)) (v_add hi rfl) (by omega) hn (pk_vb (x >>> (16 &&& 31))) dX0_word_17 (fun H locs hP hD hS => ?_)
  have hP : va_P D vwCl [(a, .inl (dB, n, .inl (upd (upd f k ((x >>> (24 &&& 31)).toInt8.toInt32)) (k + 1) ((x >>> (16 &&& 31)).toInt8.toInt32))))] H := hP
  have hD : va_D A [(a, .inl (dB, n, .inl (upd (upd f k ((x >>> (24 &&& 31)).toInt8.toInt32)) (k + 1) ((x >>> (16 &&& 31)).toInt8.toInt32))))] := hD
  refine lv_aload_n hx hb dX0_word_18 rfl (lv_at hl 0 rfl) ?_
  refine lv_iload_n hx hb dX0_word_19 rfl (lv_at hl 1 rfl) ?_
  refine lv_iconst (v := 2) hx hb dX0_word_20 (by decide) ?_
  refine lv_iadd hx hb dX0_word_21 ?_
  refine lv_iload_n hx hb dX0_word_22 rfl (lv_at hl 2 rfl) ?_
  refine lv_bipush (v := 8) hx hb dX0_word_23 (by decide) ?_
  refine lv_ishr hx hb dX0_word_25 ?_
  refine lv_i2b hx hb dX0_word_26 rfl ?_
  refine v_bast hx hb hK hP hD hS 0 0 rfl rfl (k := (k + 2)) (v_add hi rfl) (by omega) hn (pk_vb (x >>> (8 &&& 31))) dX0_word_27 (fun H locs hP hD hS => ?_)
  have hP : va_P D vwCl [(a, .inl (dB, n, .inl (upd (upd (upd f k ((x >>> (24 &&& 31)).toInt8.toInt32)) (k + 1) ((x >>> (16 &&& 31)).toInt8.toInt32)) (k + 2) ((x >>> (8 &&& 31)).toInt8.toInt32))))] H := hP
  have hD : va_D A [(a, .inl (dB, n, .inl (upd (upd (upd f k ((x >>> (24 &&& 31)).toInt8.toInt32)) (k + 1) ((x >>> (16 &&& 31)).toInt8.toInt32)) (k + 2) ((x >>> (8 &&& 31)).toInt8.toInt32))))] := hD
  refine lv_aload_n hx hb dX0_word_28 rfl (lv_at hl 0 rfl) ?_
  refine lv_iload_n hx hb dX0_word_29 rfl (lv_at hl 1 rfl) ?_
  refine lv_iconst (v := 3) hx hb dX0_word_30 (by decide) ?_
  refine lv_iadd hx hb dX0_word_31 ?_
  refine lv_iload_n hx hb dX0_word_32 rfl (lv_at hl 2 rfl) ?_
  refine lv_i2b hx hb dX0_word_33 rfl ?_
  refine v_bast hx hb hK hP hD hS 0 0 rfl rfl (k := (k + 3)) (v_add hi rfl) (by omega) hn (pk_vb x) dX0_word_34 (fun H locs hP hD hS => ?_)
  have hP : va_P D vwCl [(a, .inl (dB, n, .inl (upd (upd (upd (upd f k ((x >>> (24 &&& 31)).toInt8.toInt32)) (k + 1) ((x >>> (16 &&& 31)).toInt8.toInt32)) (k + 2) ((x >>> (8 &&& 31)).toInt8.toInt32)) (k + 3) x.toInt8.toInt32)))] H := hP
  have hD : va_D A [(a, .inl (dB, n, .inl (upd (upd (upd (upd f k ((x >>> (24 &&& 31)).toInt8.toInt32)) (k + 1) ((x >>> (16 &&& 31)).toInt8.toInt32)) (k + 2) ((x >>> (8 &&& 31)).toInt8.toInt32)) (k + 3) x.toInt8.toInt32)))] := hD
  have hP9 : va_P D vwCl [(a, .inl (dB, n, .inl (upd (upd (upd (upd f k ((x >>> (24 &&& 31)).toInt8.toInt32)) (k + 1) ((x >>> (16 &&& 31)).toInt8.toInt32)) (k + 2) ((x >>> (8 &&& 31)).toInt8.toInt32)) (k + 3) x.toInt8.toInt32)))] H := hP.sub [0] rfl
  have hD9 : va_D A [(a, .inl (dB, n, .inl (upd (upd (upd (upd f k ((x >>> (24 &&& 31)).toInt8.toInt32)) (k + 1) ((x >>> (16 &&& 31)).toInt8.toInt32)) (k + 2) ((x >>> (8 &&& 31)).toInt8.toInt32)) (k + 3) x.toInt8.toInt32)))] := hD.sub [0] (by decide) rfl
  subst hQ
  exact W.vret hx hb hr (fun t ht hW => ⟨⟨(), rfl, trivial, by rw [ht]; exact hP9, hD9⟩, hS.F ht⟩) hS.2.2 dX0_word_35 hlocks
set_option maxHeartbeats 4000000 in
set_option maxRecDepth 100000 in
theorem metX0_key (l : Launch) (D : va_G) (dB dN : ClassId) (sz : Nat) (h0 ka ba oa : Nat) (kf bf uf : Nat → Int32) (hf x1 x2 x3 x4 : Int32) (h : Nat) (hh : h < 2) (eh : hf &&& 1 = nI h) : Met l yX0_key (ws_ yX0_key cX0_key 7 none) rmWD (va_Pc [.ref h0, .int hf, .int x1, .int x2, .int x3, .int x4] (vPre D dB dN vT sz [(h0, .inr (0, [.ref ka, .ref ba, .ref oa])), (ka, .inl (dB, 32, .inl kf)), (ba, .inl (dB, 8, .inl bf)), (oa, .inl (dB, 8, .inl uf))])) (qV D (fun _ : Unit => [(h0, .inr (0, [.ref ka, .ref ba, .ref oa])), (ka, .inl (dB, 32, .inl (rc_wD (rc_wD (rc_wD (rc_wD kf (h * 16) x1) (h * 16 + 4) x2) (h * 16 + 8) x3) (h * 16 + 12) x4))), (ba, .inl (dB, 8, .inl bf)), (oa, .inl (dB, 8, .inl uf))]) (va_A [(h0, .inr (0, [.ref ka, .ref ba, .ref oa])), (ka, .inl (dB, 32, .inl kf)), (ba, .inl (dB, 8, .inl bf)), (oa, .inl (dB, 8, .inl uf))] sz)) 0 0 (va_A [(h0, .inr (0, [.ref ka, .ref ba, .ref oa])), (ka, .inl (dB, 32, .inl kf)), (ba, .inl (dB, 8, .inl bf)), (oa, .inl (dB, 8, .inl uf))] sz) := by
  refine v_met (Qc := qV D (fun _ : Unit => [(h0, .inr (0, [.ref ka, .ref ba, .ref oa])), (ka, .inl (dB, 32, .inl (rc_wD (rc_wD (rc_wD (rc_wD kf (h * 16) x1) (h * 16 + 4) x2) (h * 16 + 8) x3) (h * 16 + 12) x4))), (ba, .inl (dB, 8, .inl bf)), (oa, .inl (dB, 8, .inl uf))])) (by decide) (Nat.le_of_ble_eq_true rfl) ?_
  rintro p e s m args below meth c A ls Q ⟨hx, hb, hr, hlocks, hml, hown, hts, hin⟩ hP hK hD hX hA hS hl hQ
  have hl : lv_has ls 7 [(0, .ref h0), (1, .int hf), (2, .int x1), (3, .int x2), (4, .int x3), (5, .int x4)] := hl
  have hown : s.vm.findClass RX0 = some m.cls := hown
  refine lv_iload_n hx hb dX0_key_0 rfl (lv_at hl 1 rfl) ?_
  refine lv_iconst (v := 1) hx hb dX0_key_1 (by decide) ?_
  refine lv_iand hx hb dX0_key_2 ?_
  refine v_top (y := (nI h)) eh ?_
  refine lv_iconst (v := 4) hx hb dX0_key_3 (by decide) ?_
  refine lv_ishl hx hb dX0_key_4 ?_
  refine v_top (y := (nI (h * 16))) (pk_shlN (4 &&& 31) 4 (by decide) (by omega)) ?_
  refine lv_istore (lv' := [(6, .int (nI (h * 16))), (0, .ref h0), (1, .int hf), (2, .int x1), (3, .int x2), (4, .int x3), (5, .int x4)]) hx hb dX0_key_5 hl (by decide) rfl (fun ls hl => ?_)
  refine lv_aload_n hx hb dX0_key_7 rfl (lv_at hl 1 rfl) ?_
  refine va_get (D := D) (ci := 0) (v := .ref ka) (C := RX0) (T := TX0) (N := 3) hx hb hts in_X0 hown hK hP 0 rfl rfl 0 (by decide) (hts _ q29) (fun _ h9 => h9) rfl dX0_key_8 ?_
  refine lv_iload hx hb dX0_key_11 (lv_at hl 0 rfl) ?_
  refine lv_iload_n hx hb dX0_key_13 rfl (lv_at hl 3 rfl) ?_
  refine v_callv (wr := [(h0, .inr (0, [.ref ka, .ref ba, .ref oa])), (ba, .inl (dB, 8, .inl bf)), (oa, .inl (dB, 8, .inl uf))]) (va_runS (As := [.ref ka, .int (nI (h * 16)), .int x1]) (rest := []) ⟨hx, hb, hml, hown, hts⟩ (metX0_word l D dB dN s.heap.size ka kf (nI (h * 16)) x1 (h * 16) 32 rfl (by omega) (Nat.le_of_ble_eq_true rfl)) (va_cwS 3 hts (lw_S q44 q45 q12 q46) rfl rfl rfl (by decide +kernel) ⟨(Nat.le_of_ble_eq_true rfl), (Nat.le_of_ble_eq_true rfl)⟩) (v_preS vT_mv trivial (hP.sub (ws' := [(ka, .inl (dB, 32, .inl kf))]) [1] rfl) (hD.sub (ws' := [(ka, .inl (dB, 32, .inl kf))]) [1] (by decide) rfl) hK) rfl rfl hl.1 rfl (lv_room (Nat.le_of_ble_eq_true rfl)) dX0_key_14 ⟨(Nat.le_of_ble_eq_true rfl), (Nat.le_of_ble_eq_true rfl)⟩) hP hD hS hA [1] [0, 2, 3] rfl rfl (by decide) (by decide) (fun _ H locs _ hP hD hS => ?_)
  have hP : va_P D vwCl [(h0, .inr (0, [.ref ka, .ref ba, .ref oa])), (ba, .inl (dB, 8, .inl bf)), (oa, .inl (dB, 8, .inl uf)), (ka, .inl (dB, 32, .inl (rc_wD kf (h * 16) x1)))] H := hP
  have hD : va_D A [(h0, .inr (0, [.ref ka, .ref ba, .ref oa])), (ba, .inl (dB, 8, .inl bf)), (oa, .inl (dB, 8, .inl uf)), (ka, .inl (dB, 32, .inl (rc_wD kf (h * 16) x1)))] := hD
  refine lv_aload_n hx hb dX0_key_17 rfl (lv_at hl 1 rfl) ?_
  refine va_get (D := D) (ci := 0) (v := .ref ka) (C := RX0) (T := TX0) (N := 3) hx hb hts in_X0 hown hK hP 0 rfl rfl 0 (by decide) (hts _ q29) (fun _ h9 => h9) rfl dX0_key_18 ?_
  refine lv_iload hx hb dX0_key_21 (lv_at hl 0 rfl) ?_
  refine lv_iconst (v := 4) hx hb dX0_key_23 (by decide) ?_
  refine lv_iadd hx hb dX0_key_24 ?_
  refine lv_iload_n hx hb dX0_key_25 rfl (lv_at hl 4 rfl) ?_
  refine v_callv (wr := [(h0, .inr (0, [.ref ka, .ref ba, .ref oa])), (ba, .inl (dB, 8, .inl bf)), (oa, .inl (dB, 8, .inl uf))]) (va_runS (As := [.ref ka, .int ((nI (h * 16)) + 4), .int x2]) (rest := []) ⟨hx, hb, hml, hown, hts⟩ (metX0_word l D dB dN H.size ka (rc_wD kf (h * 16) x1) ((nI (h * 16)) + 4) x2 (h * 16 + 4) 32 (show ((nI (h * 16)) + 4) = nI (h * 16 + 4) from (v_add rfl rfl)) (by omega) (Nat.le_of_ble_eq_true rfl)) (va_cwS 3 hts (lw_S q44 q45 q12 q46) rfl rfl rfl (by decide +kernel) ⟨(Nat.le_of_ble_eq_true rfl), (Nat.le_of_ble_eq_true rfl)⟩) (v_preS vT_mv trivial (hP.sub (ws' := [(ka, .inl (dB, 32, .inl (rc_wD kf (h * 16) x1)))]) [3] rfl) (hD.sub (ws' := [(ka, .inl (dB, 32, .inl (rc_wD kf (h * 16) x1)))]) [3] (by decide) rfl) hK) rfl rfl hl.1 rfl (lv_room (Nat.le_of_ble_eq_true rfl)) dX0_key_26 ⟨(Nat.le_of_ble_eq_true rfl), (Nat.le_of_ble_eq_true rfl)⟩) hP hD hS hA [3] [0, 1, 2] rfl rfl (by decide) (by decide) (fun _ H locs _ hP hD hS => ?_)
  have hP : va_P D vwCl [(h0, .inr (0, [.ref ka, .ref ba, .ref oa])), (ba, .inl (dB, 8, .inl bf)), (oa, .inl (dB, 8, .inl uf)), (ka, .inl (dB, 32, .inl (rc_wD (rc_wD kf (h * 16) x1) (h * 16 + 4) x2)))] H := hP
  have hD : va_D A [(h0, .inr (0, [.ref ka, .ref ba, .ref oa])), (ba, .inl (dB, 8, .inl bf)), (oa, .inl (dB, 8, .inl uf)), (ka, .inl (dB, 32, .inl (rc_wD (rc_wD kf (h * 16) x1) (h * 16 + 4) x2)))] := hD
  refine lv_aload_n hx hb dX0_key_29 rfl (lv_at hl 1 rfl) ?_
  refine va_get (D := D) (ci := 0) (v := .ref ka) (C := RX0) (T := TX0) (N := 3) hx hb hts in_X0 hown hK hP 0 rfl rfl 0 (by decide) (hts _ q29) (fun _ h9 => h9) rfl dX0_key_30 ?_
  refine lv_iload hx hb dX0_key_33 (lv_at hl 0 rfl) ?_
  refine lv_bipush (v := 8) hx hb dX0_key_35 (by decide) ?_
  refine lv_iadd hx hb dX0_key_37 ?_
  refine lv_iload hx hb dX0_key_38 (lv_at hl 5 rfl) ?_
  refine v_callv (wr := [(h0, .inr (0, [.ref ka, .ref ba, .ref oa])), (ba, .inl (dB, 8, .inl bf)), (oa, .inl (dB, 8, .inl uf))]) (va_runS (As := [.ref ka, .int ((nI (h * 16)) + 8), .int x3]) (rest := []) ⟨hx, hb, hml, hown, hts⟩ (metX0_word l D dB dN H.size ka (rc_wD (rc_wD kf (h * 16) x1) (h * 16 + 4) x2) ((nI (h * 16)) + 8) x3 (h * 16 + 8) 32 (show ((nI (h * 16)) + 8) = nI (h * 16 + 8) from (v_add rfl rfl)) (by omega) (Nat.le_of_ble_eq_true rfl)) (va_cwS 3 hts (lw_S q44 q45 q12 q46) rfl rfl rfl (by decide +kernel) ⟨(Nat.le_of_ble_eq_true rfl), (Nat.le_of_ble_eq_true rfl)⟩) (v_preS vT_mv trivial (hP.sub (ws' := [(ka, .inl (dB, 32, .inl (rc_wD (rc_wD kf (h * 16) x1) (h * 16 + 4) x2)))]) [3] rfl) (hD.sub (ws' := [(ka, .inl (dB, 32, .inl (rc_wD (rc_wD kf (h * 16) x1) (h * 16 + 4) x2)))]) [3] (by decide) rfl) hK) rfl rfl hl.1 rfl (lv_room (Nat.le_of_ble_eq_true rfl)) dX0_key_40 ⟨(Nat.le_of_ble_eq_true rfl), (Nat.le_of_ble_eq_true rfl)⟩) hP hD hS hA [3] [0, 1, 2] rfl rfl (by decide) (by decide) (fun _ H locs _ hP hD hS => ?_)
  have hP : va_P D vwCl [(h0, .inr (0, [.ref ka, .ref ba, .ref oa])), (ba, .inl (dB, 8, .inl bf)), (oa, .inl (dB, 8, .inl uf)), (ka, .inl (dB, 32, .inl (rc_wD (rc_wD (rc_wD kf (h * 16) x1) (h * 16 + 4) x2) (h * 16 + 8) x3)))] H := hP
  have hD : va_D A [(h0, .inr (0, [.ref ka, .ref ba, .ref oa])), (ba, .inl (dB, 8, .inl bf)), (oa, .inl (dB, 8, .inl uf)), (ka, .inl (dB, 32, .inl (rc_wD (rc_wD (rc_wD kf (h * 16) x1) (h * 16 + 4) x2) (h * 16 + 8) x3)))] := hD
  refine lv_aload_n hx hb dX0_key_43 rfl (lv_at hl 1 rfl) ?_
  refine va_get (D := D) (ci := 0) (v := .ref ka) (C := RX0) (T := TX0) (N := 3) hx hb hts in_X0 hown hK hP 0 rfl rfl 0 (by decide) (hts _ q29) (fun _ h9 => h9) rfl dX0_key_44 ?_
  refine lv_iload hx hb dX0_key_47 (lv_at hl 0 rfl) ?_
  refine lv_bipush (v := 12) hx hb dX0_key_49 (by decide) ?_
  refine lv_iadd hx hb dX0_key_51 ?_
  refine lv_iload hx hb dX0_key_52 (lv_at hl 6 rfl) ?_
  refine v_callv (wr := [(h0, .inr (0, [.ref ka, .ref ba, .ref oa])), (ba, .inl (dB, 8, .inl bf)), (oa, .inl (dB, 8, .inl uf))]) (va_runS (As := [.ref ka, .int ((nI (h * 16)) + 12), .int x4]) (rest := []) ⟨hx, hb, hml, hown, hts⟩ (metX0_word l D dB dN H.size ka (rc_wD (rc_wD (rc_wD kf (h * 16) x1) (h * 16 + 4) x2) (h * 16 + 8) x3) ((nI (h * 16)) + 12) x4 (h * 16 + 12) 32 (show ((nI (h * 16)) + 12) = nI (h * 16 + 12) from (v_add rfl rfl)) (by omega) (Nat.le_of_ble_eq_true rfl)) (va_cwS 3 hts (lw_S q44 q45 q12 q46) rfl rfl rfl (by decide +kernel) ⟨(Nat.le_of_ble_eq_true rfl), (Nat.le_of_ble_eq_true rfl)⟩) (v_preS vT_mv trivial (hP.sub (ws' := [(ka, .inl (dB, 32, .inl (rc_wD (rc_wD (rc_wD kf (h * 16) x1) (h * 16 + 4) x2) (h * 16 + 8) x3)))]) [3] rfl) (hD.sub (ws' := [(ka, .inl (dB, 32, .inl (rc_wD (rc_wD (rc_wD kf (h * 16) x1) (h * 16 + 4) x2) (h * 16 + 8) x3)))]) [3] (by decide) rfl) hK) rfl rfl hl.1 rfl (lv_room (Nat.le_of_ble_eq_true rfl)) dX0_key_54 ⟨(Nat.le_of_ble_eq_true rfl), (Nat.le_of_ble_eq_true rfl)⟩) hP hD hS hA [3] [0, 1, 2] rfl rfl (by decide) (by decide) (fun _ H locs _ hP hD hS => ?_)
  have hP : va_P D vwCl [(h0, .inr (0, [.ref ka, .ref ba, .ref oa])), (ba, .inl (dB, 8, .inl bf)), (oa, .inl (dB, 8, .inl uf)), (ka, .inl (dB, 32, .inl (rc_wD (rc_wD (rc_wD (rc_wD kf (h * 16) x1) (h * 16 + 4) x2) (h * 16 + 8) x3) (h * 16 + 12) x4)))] H := hP
  have hD : va_D A [(h0, .inr (0, [.ref ka, .ref ba, .ref oa])), (ba, .inl (dB, 8, .inl bf)), (oa, .inl (dB, 8, .inl uf)), (ka, .inl (dB, 32, .inl (rc_wD (rc_wD (rc_wD (rc_wD kf (h * 16) x1) (h * 16 + 4) x2) (h * 16 + 8) x3) (h * 16 + 12) x4)))] := hD
  have hP9 : va_P D vwCl [(h0, .inr (0, [.ref ka, .ref ba, .ref oa])), (ka, .inl (dB, 32, .inl (rc_wD (rc_wD (rc_wD (rc_wD kf (h * 16) x1) (h * 16 + 4) x2) (h * 16 + 8) x3) (h * 16 + 12) x4))), (ba, .inl (dB, 8, .inl bf)), (oa, .inl (dB, 8, .inl uf))] H := hP.sub [0, 3, 1, 2] rfl
  have hD9 : va_D A [(h0, .inr (0, [.ref ka, .ref ba, .ref oa])), (ka, .inl (dB, 32, .inl (rc_wD (rc_wD (rc_wD (rc_wD kf (h * 16) x1) (h * 16 + 4) x2) (h * 16 + 8) x3) (h * 16 + 12) x4))), (ba, .inl (dB, 8, .inl bf)), (oa, .inl (dB, 8, .inl uf))] := hD.sub [0, 3, 1, 2] (by decide) rfl
  subst hQ
  exact W.vret hx hb hr (fun t ht hW => ⟨⟨(), rfl, trivial, by rw [ht]; exact hP9, hD9⟩, hS.F ht⟩) hS.2.2 dX0_key_57 hlocks
set_option maxHeartbeats 4000000 in
set_option maxRecDepth 100000 in
theorem metX0_block (l : Launch) (D : va_G) (dB dN : ClassId) (sz : Nat) (h0 ka ba oa : Nat) (kf bf uf : Nat → Int32) (x1 x2 : Int32) : Met l yX0_block (ws_ yX0_block cX0_block 3 none) rmWD (va_Pc [.ref h0, .int x1, .int x2] (vPre D dB dN vT sz [(h0, .inr (0, [.ref ka, .ref ba, .ref oa])), (ka, .inl (dB, 32, .inl kf)), (ba, .inl (dB, 8, .inl bf)), (oa, .inl (dB, 8, .inl uf))])) (qV D (fun _ : Unit => [(h0, .inr (0, [.ref ka, .ref ba, .ref oa])), (ka, .inl (dB, 32, .inl kf)), (ba, .inl (dB, 8, .inl (rc_wD (rc_wD bf 0 x1) 4 x2))), (oa, .inl (dB, 8, .inl uf))]) (va_A [(h0, .inr (0, [.ref ka, .ref ba, .ref oa])), (ka, .inl (dB, 32, .inl kf)), (ba, .inl (dB, 8, .inl bf)), (oa, .inl (dB, 8, .inl uf))] sz)) 0 0 (va_A [(h0, .inr (0, [.ref ka, .ref ba, .ref oa])), (ka, .inl (dB, 32, .inl kf)), (ba, .inl (dB, 8, .inl bf)), (oa, .inl (dB, 8, .inl uf))] sz) := by
  refine v_met (Qc := qV D (fun _ : Unit => [(h0, .inr (0, [.ref ka, .ref ba, .ref oa])), (ka, .inl (dB, 32, .inl kf)), (ba, .inl (dB, 8, .inl (rc_wD (rc_wD bf 0 x1) 4 x2))), (oa, .inl (dB, 8, .inl uf))])) (by decide) (Nat.le_of_ble_eq_true rfl) ?_
  rintro p e s m args below meth c A ls Q ⟨hx, hb, hr, hlocks, hml, hown, hts, hin⟩ hP hK hD hX hA hS hl hQ
  have hl : lv_has ls 3 [(0, .ref h0), (1, .int x1), (2, .int x2)] := hl
  have hown : s.vm.findClass RX0 = some m.cls := hown
  refine lv_aload_n hx hb dX0_block_0 rfl (lv_at hl 0 rfl) ?_
  refine va_get (D := D) (ci := 0) (v := .ref ba) (C := RX0) (T := TX0) (N := 3) hx hb hts in_X0 hown hK hP 0 rfl rfl 1 (by decide) (hts _ q30) (fun _ h9 => h9) rfl dX0_block_1 ?_
  refine lv_iconst (v := 0) hx hb dX0_block_4 (by decide) ?_
  refine lv_iload_n hx hb dX0_block_5 rfl (lv_at hl 1 rfl) ?_
  refine v_callv (wr := [(h0, .inr (0, [.ref ka, .ref ba, .ref oa])), (ka, .inl (dB, 32, .inl kf)), (oa, .inl (dB, 8, .inl uf))]) (va_runS (As := [.ref ba, .int 0, .int x1]) (rest := []) ⟨hx, hb, hml, hown, hts⟩ (metX0_word l D dB dN s.heap.size ba bf 0 x1 0 8 rfl (by omega) (Nat.le_of_ble_eq_true rfl)) (va_cwS 3 hts (lw_S q44 q45 q12 q46) rfl rfl rfl (by decide +kernel) ⟨(Nat.le_of_ble_eq_true rfl), (Nat.le_of_ble_eq_true rfl)⟩) (v_preS vT_mv trivial (hP.sub (ws' := [(ba, .inl (dB, 8, .inl bf))]) [2] rfl) (hD.sub (ws' := [(ba, .inl (dB, 8, .inl bf))]) [2] (by decide) rfl) hK) rfl rfl hl.1 rfl (lv_room (Nat.le_of_ble_eq_true rfl)) dX0_block_6 ⟨(Nat.le_of_ble_eq_true rfl), (Nat.le_of_ble_eq_true rfl)⟩) hP hD hS hA [2] [0, 1, 3] rfl rfl (by decide) (by decide) (fun _ H locs _ hP hD hS => ?_)
  have hP : va_P D vwCl [(h0, .inr (0, [.ref ka, .ref ba, .ref oa])), (ka, .inl (dB, 32, .inl kf)), (oa, .inl (dB, 8, .inl uf)), (ba, .inl (dB, 8, .inl (rc_wD bf 0 x1)))] H := hP
  have hD : va_D A [(h0, .inr (0, [.ref ka, .ref ba, .ref oa])), (ka, .inl (dB, 32, .inl kf)), (oa, .inl (dB, 8, .inl uf)), (ba, .inl (dB, 8, .inl (rc_wD bf 0 x1)))] := hD
  refine lv_aload_n hx hb dX0_block_9 rfl (lv_at hl 0 rfl) ?_
  refine va_get (D := D) (ci := 0) (v := .ref ba) (C := RX0) (T := TX0) (N := 3) hx hb hts in_X0 hown hK hP 0 rfl rfl 1 (by decide) (hts _ q30) (fun _ h9 => h9) rfl dX0_block_10 ?_
  refine lv_iconst (v := 4) hx hb dX0_block_13 (by decide) ?_
  refine lv_iload_n hx hb dX0_block_14 rfl (lv_at hl 2 rfl) ?_
  refine v_callv (wr := [(h0, .inr (0, [.ref ka, .ref ba, .ref oa])), (ka, .inl (dB, 32, .inl kf)), (oa, .inl (dB, 8, .inl uf))]) (va_runS (As := [.ref ba, .int 4, .int x2]) (rest := []) ⟨hx, hb, hml, hown, hts⟩ (metX0_word l D dB dN H.size ba (rc_wD bf 0 x1) 4 x2 4 8 rfl (by omega) (Nat.le_of_ble_eq_true rfl)) (va_cwS 3 hts (lw_S q44 q45 q12 q46) rfl rfl rfl (by decide +kernel) ⟨(Nat.le_of_ble_eq_true rfl), (Nat.le_of_ble_eq_true rfl)⟩) (v_preS vT_mv trivial (hP.sub (ws' := [(ba, .inl (dB, 8, .inl (rc_wD bf 0 x1)))]) [3] rfl) (hD.sub (ws' := [(ba, .inl (dB, 8, .inl (rc_wD bf 0 x1)))]) [3] (by decide) rfl) hK) rfl rfl hl.1 rfl (lv_room (Nat.le_of_ble_eq_true rfl)) dX0_block_15 ⟨(Nat.le_of_ble_eq_true rfl), (Nat.le_of_ble_eq_true rfl)⟩) hP hD hS hA [3] [0, 1, 2] rfl rfl (by decide) (by decide) (fun _ H locs _ hP hD hS => ?_)
  have hP : va_P D vwCl [(h0, .inr (0, [.ref ka, .ref ba, .ref oa])), (ka, .inl (dB, 32, .inl kf)), (oa, .inl (dB, 8, .inl uf)), (ba, .inl (dB, 8, .inl (rc_wD (rc_wD bf 0 x1) 4 x2)))] H := hP
  have hD : va_D A [(h0, .inr (0, [.ref ka, .ref ba, .ref oa])), (ka, .inl (dB, 32, .inl kf)), (oa, .inl (dB, 8, .inl uf)), (ba, .inl (dB, 8, .inl (rc_wD (rc_wD bf 0 x1) 4 x2)))] := hD
  have hP9 : va_P D vwCl [(h0, .inr (0, [.ref ka, .ref ba, .ref oa])), (ka, .inl (dB, 32, .inl kf)), (ba, .inl (dB, 8, .inl (rc_wD (rc_wD bf 0 x1) 4 x2))), (oa, .inl (dB, 8, .inl uf))] H := hP.sub [0, 1, 3, 2] rfl
  have hD9 : va_D A [(h0, .inr (0, [.ref ka, .ref ba, .ref oa])), (ka, .inl (dB, 32, .inl kf)), (ba, .inl (dB, 8, .inl (rc_wD (rc_wD bf 0 x1) 4 x2))), (oa, .inl (dB, 8, .inl uf))] := hD.sub [0, 1, 3, 2] (by decide) rfl
  subst hQ
  exact W.vret hx hb hr (fun t ht hW => ⟨⟨(), rfl, trivial, by rw [ht]; exact hP9, hD9⟩, hS.F ht⟩) hS.2.2 dX0_block_18 hlocks
set_option maxHeartbeats 4000000 in
set_option maxRecDepth 100000 in
theorem metX0_again (l : Launch) (D : va_G) (dB dN : ClassId) (sz : Nat) (h0 ka ba oa : Nat) (kf bf uf : Nat → Int32) : Met l yX0_again (ws_ yX0_again cX0_again 2 none) rmR (va_Pc [.ref h0] (vPre D dB dN vT sz [(h0, .inr (0, [.ref ka, .ref ba, .ref oa])), (ka, .inl (dB, 32, .inl kf)), (ba, .inl (dB, 8, .inl bf)), (oa, .inl (dB, 8, .inl uf))])) (qV D (fun _ : Unit => [(h0, .inr (0, [.ref ka, .ref ba, .ref oa])), (ka, .inl (dB, 32, .inl kf)), (ba, .inl (dB, 8, .inl (rc_cD bf uf 8))), (oa, .inl (dB, 8, .inl uf))]) (va_A [(h0, .inr (0, [.ref ka, .ref ba, .ref oa])), (ka, .inl (dB, 32, .inl kf)), (ba, .inl (dB, 8, .inl bf)), (oa, .inl (dB, 8, .inl uf))] sz)) 0 0 (va_A [(h0, .inr (0, [.ref ka, .ref ba, .ref oa])), (ka, .inl (dB, 32, .inl kf)), (ba, .inl (dB, 8, .inl bf)), (oa, .inl (dB, 8, .inl uf))] sz) := by
  refine v_met (Qc := qV D (fun _ : Unit => [(h0, .inr (0, [.ref ka, .ref ba, .ref oa])), (ka, .inl (dB, 32, .inl kf)), (ba, .inl (dB, 8, .inl (rc_cD bf uf 8))), (oa, .inl (dB, 8, .inl uf))])) (by decide) (Nat.le_of_ble_eq_true rfl) ?_
  rintro p e s m args below meth c A ls Q ⟨hx, hb, hr, hlocks, hml, hown, hts, hin⟩ hP hK hD hX hA hS hl hQ
  have hl : lv_has ls 2 [(0, .ref h0)] := hl
  have hown : s.vm.findClass RX0 = some m.cls := hown
  refine lv_iconst (v := 0) hx hb dX0_again_0 (by decide) ?_
  refine lv_istore_n (lv' := [(1, .int 0), (0, .ref h0)]) hx hb dX0_again_1 rfl hl (by decide) rfl (fun ls hl => ?_)
  have loop1 : ∀ (n i : Nat) (H : Heap) (locs : List Loc) (ls : Array Slot), i + n = 8 → va_P D vwCl [(h0, .inr (0, [.ref ka, .ref ba, .ref oa])), (ka, .inl (dB, 32, .inl kf)), (ba, .inl (dB, 8, .inl (rc_cD bf uf i))), (oa, .inl (dB, 8, .inl uf))] H → va_D A [(h0, .inr (0, [.ref ka, .ref ba, .ref oa])), (ka, .inl (dB, 32, .inl kf)), (ba, .inl (dB, 8, .inl (rc_cD bf uf i))), (oa, .inl (dB, 8, .inl uf))] → va_S A s.heap H locs → lv_has ls 2 [(0, .ref h0), (1, .int (nI i))] → W p l e rmR s m args below meth c H locs 0 0 Q (F0 m 2 ls []) := by
    intro n
    induction n with
    | zero =>
      intro i H locs ls hi hP hD hS hl
      obtain rfl : i = 8 := by omega
      refine lv_iload_n hx hb dX0_again_2 rfl (lv_at hl 1 rfl) ?_
      refine lv_bipush (v := 8) hx hb dX0_again_3 (by decide) ?_
      refine lv_icmp_ge (tgt := 26) hx hb dX0_again_5 (by decide) (fun _ => ?_) (fun c => absurd ((v_le (a := 8) (b := 8) rfl rfl (by omega) (by omega)).mpr (by omega)) c)
      have hP9 : va_P D vwCl [(h0, .inr (0, [.ref ka, .ref ba, .ref oa])), (ka, .inl (dB, 32, .inl kf)), (ba, .inl (dB, 8, .inl (rc_cD bf uf 8))), (oa, .inl (dB, 8, .inl uf))] H := hP.sub [0, 1, 2, 3] rfl
      have hD9 : va_D A [(h0, .inr (0, [.ref ka, .ref ba, .ref oa])), (ka, .inl (dB, 32, .inl kf)), (ba, .inl (dB, 8, .inl (rc_cD bf uf 8))), (oa, .inl (dB, 8, .inl uf))] := hD.sub [0, 1, 2, 3] (by decide) rfl
      subst hQ
      exact W.vret hx hb hr (fun t ht hW => ⟨⟨(), rfl, trivial, by rw [ht]; exact hP9, hD9⟩, hS.F ht⟩) hS.2.2 dX0_again_26 hlocks
    | succ n ih =>
      intro i H locs ls hi hP hD hS hl
      refine lv_iload_n hx hb dX0_again_2 rfl (lv_at hl 1 rfl) ?_
      refine lv_bipush (v := 8) hx hb dX0_again_3 (by decide) ?_
      refine lv_icmp_ge (tgt := 26) hx hb dX0_again_5 (by decide) (fun c => absurd ((v_le (a := 8) (b := i) rfl rfl (by omega) (by omega)).mp c) (by omega)) (fun _ => ?_)
      refine lv_aload_n hx hb dX0_again_8 rfl (lv_at hl 0 rfl) ?_
      refine va_get (D := D) (ci := 0) (v := .ref ba) (C := RX0) (T := TX0) (N := 3) hx hb hts in_X0 hown hK hP 0 rfl rfl 1 (by decide) (hts _ q30) (fun _ h9 => h9) rfl dX0_again_9 ?_
      refine lv_iload_n hx hb dX0_again_12 rfl (lv_at hl 1 rfl) ?_
      refine lv_aload_n hx hb dX0_again_13 rfl (lv_at hl 0 rfl) ?_
      refine va_get (D := D) (ci := 0) (v := .ref oa) (C := RX0) (T := TX0) (N := 3) hx hb hts in_X0 hown hK hP 0 rfl rfl 2 (by decide) (hts _ q31) (fun _ h9 => h9) rfl dX0_again_14 ?_
      refine lv_iload_n hx hb dX0_again_17 rfl (lv_at hl 1 rfl) ?_
      refine v_bald hx hb hK hP 3 0 rfl rfl (k := i) rfl (by omega) (Nat.le_of_ble_eq_true rfl) dX0_again_18 ?_
      refine v_bast hx hb hK hP hD hS 2 0 rfl rfl (k := i) rfl (by omega) (Nat.le_of_ble_eq_true rfl) (vp_nar_byte (uf i)) dX0_again_19 (fun H locs hP hD hS => ?_)
      have hP : va_P D vwCl [(h0, .inr (0, [.ref ka, .ref ba, .ref oa])), (ka, .inl (dB, 32, .inl kf)), (ba, .inl (dB, 8, .inl (upd (rc_cD bf uf i) i ((uf i).toInt8.toInt32)))), (oa, .inl (dB, 8, .inl uf))] H := hP
      have hD : va_D A [(h0, .inr (0, [.ref ka, .ref ba, .ref oa])), (ka, .inl (dB, 32, .inl kf)), (ba, .inl (dB, 8, .inl (upd (rc_cD bf uf i) i ((uf i).toInt8.toInt32)))), (oa, .inl (dB, 8, .inl uf))] := hD
      refine lv_iinc (v := (nI (i + 1))) (lv' := [(1, .int (nI (i + 1))), (0, .ref h0)]) hx hb dX0_again_20 hl (k := 1) rfl (v_add rfl (show (Int32.ofInt 1) = nI 1 from rfl)) (by decide) rfl (fun ls hl => ?_)
      refine lv_goto (tgt := 2) hx hb dX0_again_23 (by decide) ?_
      exact ih (i + 1) H locs ls (by omega) (hP.sub [0, 1, 2, 3] rfl) (hD.sub [0, 1, 2, 3] (by decide) rfl) hS (lv_sub hl [1, 0] rfl)
  exact loop1 8 0 _ _ _ rfl (hP.sub [0, 1, 2, 3] rfl) (hD.sub [0, 1, 2, 3] (by decide) rfl) hS (lv_sub hl [1, 0] rfl)
set_option maxHeartbeats 4000000 in
set_option maxRecDepth 100000 in
theorem metX0_out (l : Launch) (D : va_G) (dB dN : ClassId) (sz : Nat) (h0 ka ba oa : Nat) (uf : Nat → Int32) (x : Int32) (j : Nat) (hj : j < 8) (ej : x &&& 7 = nI j) : Met l yX0_out (ws_ yX0_out cX0_out 2 (some .int)) rmR (va_Pc [.ref h0, .int x] (vPre D dB dN vT sz [(h0, .inr (0, [.ref ka, .ref ba, .ref oa])), (oa, .inl (dB, 8, .inl uf))])) (vp_Si (fun r => r = uf j &&& 255)) 0 0 (fun _ => False) := by
  refine v_metR (by decide) (Nat.le_of_ble_eq_true rfl) ?_
  rintro p e s m args below meth c ls Q ⟨hx, hb, hr, hlocks, hml, hown, hts, hin⟩ hP hK hl hQ
  have hl : lv_has ls 2 [(0, .ref h0), (1, .int x)] := hl
  have hown : s.vm.findClass RX0 = some m.cls := hown
  refine lv_aload_n hx hb dX0_out_0 rfl (lv_at hl 0 rfl) ?_
  refine va_get (D := D) (ci := 0) (v := .ref oa) (C := RX0) (T := TX0) (N := 3) hx hb hts in_X0 hown hK hP 0 rfl rfl 2 (by decide) (hts _ q31) (fun _ h9 => h9) rfl dX0_out_1 ?_
  refine lv_iload_n hx hb dX0_out_4 rfl (lv_at hl 1 rfl) ?_
  refine lv_bipush (v := 7) hx hb dX0_out_5 (by decide) ?_
  refine lv_iand hx hb dX0_out_7 ?_
  refine v_top (y := (nI j)) ej ?_
  refine v_bald hx hb hK hP 1 0 rfl rfl (k := j) rfl (by omega) (Nat.le_of_ble_eq_true rfl) dX0_out_8 ?_
  refine lv_sipush (v := 255) hx hb dX0_out_9 (by decide) ?_
  refine lv_iand hx hb dX0_out_12 ?_
  subst hQ
  exact W.iret hx hb hr (fun t ht hW => ⟨_, rfl, rfl, ht⟩) (fun q h => by cases h) dX0_out_13 hlocks
set_option maxHeartbeats 4000000 in
set_option maxRecDepth 100000 in
theorem metX1_init (l : Launch) (D : va_G) (dB dN : ClassId) (sz : Nat) (h0 : Nat) : Met l yX1_init (ws_ yX1_init cX1_init 1 none) rmDI (va_Pc [.ref h0] (vPre D dB dN vT sz [(h0, .inr (1, [.null, .null, .null]))])) (qV D (fun u : Nat × Nat × Nat => [(h0, .inr (1, [.ref u.1, .ref u.2.1, .ref u.2.2])), (u.1, .inl (dN, 32, .inl (fun _ => 0))), (u.2.1, .inl (dN, 8, .inl (fun _ => 0))), (u.2.2, .inl (dN, 8, .inl (fun _ => 0)))]) (va_A [(h0, .inr (1, [.null, .null, .null]))] sz)) 3 48 (va_A [(h0, .inr (1, [.null, .null, .null]))] sz) := by
  refine v_met (Qc := qV D (fun u : Nat × Nat × Nat => [(h0, .inr (1, [.ref u.1, .ref u.2.1, .ref u.2.2])), (u.1, .inl (dN, 32, .inl (fun _ => 0))), (u.2.1, .inl (dN, 8, .inl (fun _ => 0))), (u.2.2, .inl (dN, 8, .inl (fun _ => 0)))])) (by decide) (Nat.le_of_ble_eq_true rfl) ?_
  rintro p e s m args below meth c A ls Q ⟨hx, hb, hr, hlocks, hml, hown, hts, hin⟩ hP hK hD hX hA hS hl hQ
  have hl : lv_has ls 1 [(0, .ref h0)] := hl
  have hown : s.vm.findClass RX1 = some m.cls := hown
  refine lv_aload_n hx hb dX1_init_0 rfl (lv_at hl 0 rfl) ?_
  refine W.objInit hx hb hown (hts _ q243) (hts _ q27) (hts _ q28) rfl (by rw [hml]; exact hl.1) rfl dX1_init_1 (Nat.le_of_ble_eq_true rfl) (Nat.le_of_ble_eq_true rfl) ?_
  refine W.eq (g2 := F0 m 4 ls []) rfl ?_
  refine lv_aload_n hx hb dX1_init_4 rfl (lv_at hl 0 rfl) ?_
  refine lv_bipush (v := 32) hx hb dX1_init_5 (by decide) ?_
  refine v_newa (atype := .int) (a0 := (32, .inl (fun _ => 0))) hx hb (hts _ q196) rfl 1 rfl (fun _ => rfl) hK hP hD hS hA (fun cA => v_cell0 32 .int rfl cA) rfl (Nat.le_of_ble_eq_true rfl) (Nat.le_of_ble_eq_true rfl) (Nat.le_of_ble_eq_true rfl) (Nat.le_of_ble_eq_true rfl) dX1_init_7 (fun q_1 H hP hD hS => ?_)
  have hP : va_P D vwCl [(h0, .inr (1, [.null, .null, .null])), (q_1, .inl (dN, 32, .inl (fun _ => 0)))] H := hP
  have hD : va_D A [(h0, .inr (1, [.null, .null, .null])), (q_1, .inl (dN, 32, .inl (fun _ => 0)))] := hD
  refine W.widen (k := 1) (n := 32) (Nat.le_of_ble_eq_true rfl) (Nat.le_of_ble_eq_true rfl) ?_
  refine va_putF (D := D) (ci := 1) (v := .ref q_1) (ty := .array .int) (C := RX1) (T := TX1) (N := 3) hx hb hts in_X1 tyX1 tyX1_ok nmX1 hown hK hP hD hS 0 rfl rfl 0 (by decide) (hts _ q244) (fun _ h9 => h9) rfl hin rfl (by decide +kernel) rfl rfl (Nat.le_of_ble_eq_true rfl) dX1_init_9 (fun H locs hP hD hS => ?_)
  have hP : va_P D vwCl [(h0, .inr (1, [.ref q_1, .null, .null])), (q_1, .inl (dN, 32, .inl (fun _ => 0)))] H := hP
  have hD : va_D A [(h0, .inr (1, [.ref q_1, .null, .null])), (q_1, .inl (dN, 32, .inl (fun _ => 0)))] := hD
  refine lv_aload_n hx hb dX1_init_12 rfl (lv_at hl 0 rfl) ?_
  refine lv_bipush (v := 8) hx hb dX1_init_13 (by decide) ?_
  refine v_newa (atype := .int) (a0 := (8, .inl (fun _ => 0))) hx hb (hts _ q196) rfl 1 rfl (fun _ => rfl) hK hP hD hS hA (fun cA => v_cell0 8 .int rfl cA) rfl (Nat.le_of_ble_eq_true rfl) (Nat.le_of_ble_eq_true rfl) (Nat.le_of_ble_eq_true rfl) (Nat.le_of_ble_eq_true rfl) dX1_init_15 (fun q_2 H hP hD hS => ?_)
  have hP : va_P D vwCl [(h0, .inr (1, [.ref q_1, .null, .null])), (q_1, .inl (dN, 32, .inl (fun _ => 0))), (q_2, .inl (dN, 8, .inl (fun _ => 0)))] H := hP
  have hD : va_D A [(h0, .inr (1, [.ref q_1, .null, .null])), (q_1, .inl (dN, 32, .inl (fun _ => 0))), (q_2, .inl (dN, 8, .inl (fun _ => 0)))] := hD
  refine W.widen (k := 2) (n := 40) (Nat.le_of_ble_eq_true rfl) (Nat.le_of_ble_eq_true rfl) ?_
  refine va_putF (D := D) (ci := 1) (v := .ref q_2) (ty := .array .int) (C := RX1) (T := TX1) (N := 3) hx hb hts in_X1 tyX1 tyX1_ok nmX1 hown hK hP hD hS 0 rfl rfl 1 (by decide) (hts _ q245) (fun _ h9 => h9) rfl hin rfl (by decide +kernel) rfl rfl (Nat.le_of_ble_eq_true rfl) dX1_init_17 (fun H locs hP hD hS => ?_)
  have hP : va_P D vwCl [(h0, .inr (1, [.ref q_1, .ref q_2, .null])), (q_1, .inl (dN, 32, .inl (fun _ => 0))), (q_2, .inl (dN, 8, .inl (fun _ => 0)))] H := hP
  have hD : va_D A [(h0, .inr (1, [.ref q_1, .ref q_2, .null])), (q_1, .inl (dN, 32, .inl (fun _ => 0))), (q_2, .inl (dN, 8, .inl (fun _ => 0)))] := hD
  refine lv_aload_n hx hb dX1_init_20 rfl (lv_at hl 0 rfl) ?_
  refine lv_bipush (v := 8) hx hb dX1_init_21 (by decide) ?_
  refine v_newa (atype := .int) (a0 := (8, .inl (fun _ => 0))) hx hb (hts _ q196) rfl 1 rfl (fun _ => rfl) hK hP hD hS hA (fun cA => v_cell0 8 .int rfl cA) rfl (Nat.le_of_ble_eq_true rfl) (Nat.le_of_ble_eq_true rfl) (Nat.le_of_ble_eq_true rfl) (Nat.le_of_ble_eq_true rfl) dX1_init_23 (fun q_3 H hP hD hS => ?_)
  have hP : va_P D vwCl [(h0, .inr (1, [.ref q_1, .ref q_2, .null])), (q_1, .inl (dN, 32, .inl (fun _ => 0))), (q_2, .inl (dN, 8, .inl (fun _ => 0))), (q_3, .inl (dN, 8, .inl (fun _ => 0)))] H := hP
  have hD : va_D A [(h0, .inr (1, [.ref q_1, .ref q_2, .null])), (q_1, .inl (dN, 32, .inl (fun _ => 0))), (q_2, .inl (dN, 8, .inl (fun _ => 0))), (q_3, .inl (dN, 8, .inl (fun _ => 0)))] := hD
  refine W.widen (k := 3) (n := 48) (Nat.le_of_ble_eq_true rfl) (Nat.le_of_ble_eq_true rfl) ?_
  refine va_putF (D := D) (ci := 1) (v := .ref q_3) (ty := .array .int) (C := RX1) (T := TX1) (N := 3) hx hb hts in_X1 tyX1 tyX1_ok nmX1 hown hK hP hD hS 0 rfl rfl 2 (by decide) (hts _ q246) (fun _ h9 => h9) rfl hin rfl (by decide +kernel) rfl rfl (Nat.le_of_ble_eq_true rfl) dX1_init_25 (fun H locs hP hD hS => ?_)
  have hP : va_P D vwCl [(h0, .inr (1, [.ref q_1, .ref q_2, .ref q_3])), (q_1, .inl (dN, 32, .inl (fun _ => 0))), (q_2, .inl (dN, 8, .inl (fun _ => 0))), (q_3, .inl (dN, 8, .inl (fun _ => 0)))] H := hP
  have hD : va_D A [(h0, .inr (1, [.ref q_1, .ref q_2, .ref q_3])), (q_1, .inl (dN, 32, .inl (fun _ => 0))), (q_2, .inl (dN, 8, .inl (fun _ => 0))), (q_3, .inl (dN, 8, .inl (fun _ => 0)))] := hD
  have hP9 : va_P D vwCl [(h0, .inr (1, [.ref q_1, .ref q_2, .ref q_3])), (q_1, .inl (dN, 32, .inl (fun _ => 0))), (q_2, .inl (dN, 8, .inl (fun _ => 0))), (q_3, .inl (dN, 8, .inl (fun _ => 0)))] H := hP.sub [0, 1, 2, 3] rfl
  have hD9 : va_D A [(h0, .inr (1, [.ref q_1, .ref q_2, .ref q_3])), (q_1, .inl (dN, 32, .inl (fun _ => 0))), (q_2, .inl (dN, 8, .inl (fun _ => 0))), (q_3, .inl (dN, 8, .inl (fun _ => 0)))] := hD.sub [0, 1, 2, 3] (by decide) rfl
  subst hQ
  exact W.vret hx hb hr (fun t ht hW => ⟨⟨(q_1, q_2, q_3), rfl, trivial, by rw [ht]; exact hP9, hD9⟩, hS.F ht⟩) hS.2.2 dX1_init_28 hlocks
set_option maxHeartbeats 4000000 in
set_option maxRecDepth 100000 in
theorem metX1_word (l : Launch) (D : va_G) (dB dN : ClassId) (sz : Nat) (a : Nat) (f : Nat → Int32) (i x : Int32) (k n : Nat) (hi : i = nI k) (hk : k + 4 ≤ n) (hn : n < 2 ^ 31) : Met l yX1_word (ws_ yX1_word cX1_word 4 none) rmR (va_Pc [.ref a, .int i, .int x] (vPre D dB dN vT sz [(a, .inl (dN, n, .inl f))])) (qV D (fun _ : Unit => [(a, .inl (dN, n, .inl (rc_wM f k x 4)))]) (va_A [(a, .inl (dN, n, .inl f))] sz)) 0 0 (va_A [(a, .inl (dN, n, .inl f))] sz) := by
  refine v_met (Qc := qV D (fun _ : Unit => [(a, .inl (dN, n, .inl (rc_wM f k x 4)))])) (by decide) (Nat.le_of_ble_eq_true rfl) ?_
  rintro p e s m args below meth c A ls Q ⟨hx, hb, hr, hlocks, hml, hown, hts, hin⟩ hP hK hD hX hA hS hl hQ
  have hl : lv_has ls 4 [(0, .ref a), (1, .int i), (2, .int x)] := hl
  have hown : s.vm.findClass RX1 = some m.cls := hown
  refine lv_iconst (v := 0) hx hb dX1_word_0 (by decide) ?_
  refine lv_istore_n (lv' := [(3, .int 0), (0, .ref a), (1, .int i), (2, .int x)]) hx hb dX1_word_1 rfl hl (by decide) rfl (fun ls hl => ?_)
  have loop1 : ∀ (v r : Nat) (H : Heap) (locs : List Loc) (ls : Array Slot), r + v = 4 → va_P D vwCl [(a, .inl (dN, n, .inl (rc_wM f k x r)))] H → va_D A [(a, .inl (dN, n, .inl (rc_wM f k x r)))] → va_S A s.heap H locs → lv_has ls 4 [(0, .ref a), (1, .int i), (2, .int x), (3, .int (nI r))] → W p l e rmR s m args below meth c H locs 0 0 Q (F0 m 2 ls []) := by
    intro v
    induction v with
    | zero =>
      intro r H locs ls hr4 hP hD hS hl
      obtain rfl : r = 4 := by omega
      refine lv_iload_n hx hb dX1_word_2 rfl (lv_at hl 3 rfl) ?_
      refine lv_iconst (v := 4) hx hb dX1_word_3 (by decide) ?_
      refine lv_icmp_ge (tgt := 31) hx hb dX1_word_4 (by decide) (fun _ => ?_) (fun c => absurd ((v_le (a := 4) (b := 4) rfl rfl (by omega) (by omega)).mpr (by omega)) c)
      have hP9 : va_P D vwCl [(a, .inl (dN, n, .inl (rc_wM f k x 4)))] H := hP.sub [0] rfl
      have hD9 : va_D A [(a, .inl (dN, n, .inl (rc_wM f k x 4)))] := hD.sub [0] (by decide) rfl
      subst hQ
      exact W.vret hx hb hr (fun t ht hW => ⟨⟨(), rfl, trivial, by rw [ht]; exact hP9, hD9⟩, hS.F ht⟩) hS.2.2 dX1_word_31 hlocks
    | succ v ih =>
      intro r H locs ls hr4 hP hD hS hl
      refine lv_iload_n hx hb dX1_word_2 rfl (lv_at hl 3 rfl) ?_
      refine lv_iconst (v := 4) hx hb dX1_word_3 (by decide) ?_
      refine lv_icmp_ge (tgt := 31) hx hb dX1_word_4 (by decide) (fun c => absurd ((v_le (a := 4) (b := r) rfl rfl (by omega) (by omega)).mp c) (by omega)) (fun _ => ?_)
      refine lv_aload_n hx hb dX1_word_7 rfl (lv_at hl 0 rfl) ?_
      refine lv_iload_n hx hb dX1_word_8 rfl (lv_at hl 1 rfl) ?_
      refine lv_iload_n hx hb dX1_word_9 rfl (lv_at hl 3 rfl) ?_
      refine lv_iadd hx hb dX1_word_10 ?_
      refine lv_iload_n hx hb dX1_word_11 rfl (lv_at hl 2 rfl) ?_
      refine lv_bipush (v := 24) hx hb dX1_word_12 (by decide) ?_
      refine lv_bipush (v := 8) hx hb dX1_word_14 (by decide) ?_
      refine lv_iload_n hx hb dX1_word_16 rfl (lv_at hl 3 rfl) ?_
      refine lv_imul hx hb dX1_word_17 ?_
      refine lv_isub hx hb dX1_word_18 ?_
      refine lv_iushr hx hb dX1_word_19 rfl ?_
      refine lv_sipush (v := 255) hx hb dX1_word_20 (by decide) ?_
      refine lv_iand hx hb dX1_word_23 ?_
      refine v_iast hx hb hK hP hD hS 0 1 rfl rfl (k := (k + r)) (v_add hi rfl) (by omega) hn dX1_word_24 (fun H locs hP hD hS => ?_)
      have hP : va_P D vwCl [(a, .inl (dN, n, .inl (upd (rc_wM f k x r) (k + r) ((x.toUInt32 >>> ((24 - (8 * (nI r))).toUInt32 &&& Int32.toUInt32 31)).toInt32 &&& 255))))] H := hP
      have hD : va_D A [(a, .inl (dN, n, .inl (upd (rc_wM f k x r) (k + r) ((x.toUInt32 >>> ((24 - (8 * (nI r))).toUInt32 &&& Int32.toUInt32 31)).toInt32 &&& 255))))] := hD
      refine lv_iinc (v := (nI (r + 1))) (lv' := [(3, .int (nI (r + 1))), (0, .ref a), (1, .int i), (2, .int x)]) hx hb dX1_word_25 hl (k := 3) rfl (v_add rfl (show (Int32.ofInt 1) = nI 1 from rfl)) (by decide) rfl (fun ls hl => ?_)
      refine lv_goto (tgt := 2) hx hb dX1_word_28 (by decide) ?_
      exact ih (r + 1) H locs ls (by omega) (hP.sub [0] rfl) (hD.sub [0] (by decide) rfl) hS (lv_sub hl [1, 2, 3, 0] rfl)
  exact loop1 4 0 _ _ _ rfl (hP.sub [0] rfl) (hD.sub [0] (by decide) rfl) hS (lv_sub hl [1, 2, 3, 0] rfl)
set_option maxHeartbeats 4000000 in
set_option maxRecDepth 100000 in
theorem metX1_key (l : Launch) (D : va_G) (dB dN : ClassId) (sz : Nat) (h0 ka ba oa : Nat) (kf bf uf : Nat → Int32) (hf x1 x2 x3 x4 : Int32) (h : Nat) (hh : h < 2) (eh : hf &&& 1 = nI h) : Met l yX1_key (ws_ yX1_key cX1_key 7 none) rmWD (va_Pc [.ref h0, .int hf, .int x1, .int x2, .int x3, .int x4] (vPre D dB dN vT sz [(h0, .inr (1, [.ref ka, .ref ba, .ref oa])), (ka, .inl (dN, 32, .inl kf)), (ba, .inl (dN, 8, .inl bf)), (oa, .inl (dN, 8, .inl uf))])) (qV D (fun _ : Unit => [(h0, .inr (1, [.ref ka, .ref ba, .ref oa])), (ka, .inl (dN, 32, .inl (rc_wM (rc_wM (rc_wM (rc_wM kf (h * 16) x1 4) (h * 16 + 4) x2 4) (h * 16 + 8) x3 4) (h * 16 + 12) x4 4))), (ba, .inl (dN, 8, .inl bf)), (oa, .inl (dN, 8, .inl uf))]) (va_A [(h0, .inr (1, [.ref ka, .ref ba, .ref oa])), (ka, .inl (dN, 32, .inl kf)), (ba, .inl (dN, 8, .inl bf)), (oa, .inl (dN, 8, .inl uf))] sz)) 0 0 (va_A [(h0, .inr (1, [.ref ka, .ref ba, .ref oa])), (ka, .inl (dN, 32, .inl kf)), (ba, .inl (dN, 8, .inl bf)), (oa, .inl (dN, 8, .inl uf))] sz) := by
  refine v_met (Qc := qV D (fun _ : Unit => [(h0, .inr (1, [.ref ka, .ref ba, .ref oa])), (ka, .inl (dN, 32, .inl (rc_wM (rc_wM (rc_wM (rc_wM kf (h * 16) x1 4) (h * 16 + 4) x2 4) (h * 16 + 8) x3 4) (h * 16 + 12) x4 4))), (ba, .inl (dN, 8, .inl bf)), (oa, .inl (dN, 8, .inl uf))])) (by decide) (Nat.le_of_ble_eq_true rfl) ?_
  rintro p e s m args below meth c A ls Q ⟨hx, hb, hr, hlocks, hml, hown, hts, hin⟩ hP hK hD hX hA hS hl hQ
  have hl : lv_has ls 7 [(0, .ref h0), (1, .int hf), (2, .int x1), (3, .int x2), (4, .int x3), (5, .int x4)] := hl
  have hown : s.vm.findClass RX1 = some m.cls := hown
  refine lv_iload_n hx hb dX1_key_0 rfl (lv_at hl 1 rfl) ?_
  refine lv_iconst (v := 1) hx hb dX1_key_1 (by decide) ?_
  refine lv_iand hx hb dX1_key_2 ?_
  refine v_top (y := (nI h)) eh ?_
  refine lv_bipush (v := 16) hx hb dX1_key_3 (by decide) ?_
  refine lv_imul hx hb dX1_key_5 ?_
  refine v_top (y := (nI (h * 16))) (v_mul (a := h) (b := 16) rfl rfl) ?_
  refine lv_istore (lv' := [(6, .int (nI (h * 16))), (0, .ref h0), (1, .int hf), (2, .int x1), (3, .int x2), (4, .int x3), (5, .int x4)]) hx hb dX1_key_6 hl (by decide) rfl (fun ls hl => ?_)
  refine lv_aload_n hx hb dX1_key_8 rfl (lv_at hl 1 rfl) ?_
  refine va_get (D := D) (ci := 1) (v := .ref ka) (C := RX1) (T := TX1) (N := 3) hx hb hts in_X1 hown hK hP 0 rfl rfl 0 (by decide) (hts _ q244) (fun _ h9 => h9) rfl dX1_key_9 ?_
  refine lv_iload hx hb dX1_key_12 (lv_at hl 0 rfl) ?_
  refine lv_iload_n hx hb dX1_key_14 rfl (lv_at hl 3 rfl) ?_
  refine v_callv (wr := [(h0, .inr (1, [.ref ka, .ref ba, .ref oa])), (ba, .inl (dN, 8, .inl bf)), (oa, .inl (dN, 8, .inl uf))]) (va_runS (As := [.ref ka, .int (nI (h * 16)), .int x1]) (rest := []) ⟨hx, hb, hml, hown, hts⟩ (metX1_word l D dB dN s.heap.size ka kf (nI (h * 16)) x1 (h * 16) 32 rfl (by omega) (Nat.le_of_ble_eq_true rfl)) (va_cwS 3 hts (lw_S q258 q259 q13 q260) rfl rfl rfl (by decide +kernel) ⟨(Nat.le_of_ble_eq_true rfl), (Nat.le_of_ble_eq_true rfl)⟩) (v_preS vT_mv trivial (hP.sub (ws' := [(ka, .inl (dN, 32, .inl kf))]) [1] rfl) (hD.sub (ws' := [(ka, .inl (dN, 32, .inl kf))]) [1] (by decide) rfl) hK) rfl rfl hl.1 rfl (lv_room (Nat.le_of_ble_eq_true rfl)) dX1_key_15 ⟨(Nat.le_of_ble_eq_true rfl), (Nat.le_of_ble_eq_true rfl)⟩) hP hD hS hA [1] [0, 2, 3] rfl rfl (by decide) (by decide) (fun _ H locs _ hP hD hS => ?_)
  have hP : va_P D vwCl [(h0, .inr (1, [.ref ka, .ref ba, .ref oa])), (ba, .inl (dN, 8, .inl bf)), (oa, .inl (dN, 8, .inl uf)), (ka, .inl (dN, 32, .inl (rc_wM kf (h * 16) x1 4)))] H := hP
  have hD : va_D A [(h0, .inr (1, [.ref ka, .ref ba, .ref oa])), (ba, .inl (dN, 8, .inl bf)), (oa, .inl (dN, 8, .inl uf)), (ka, .inl (dN, 32, .inl (rc_wM kf (h * 16) x1 4)))] := hD
  refine lv_aload_n hx hb dX1_key_18 rfl (lv_at hl 1 rfl) ?_
  refine va_get (D := D) (ci := 1) (v := .ref ka) (C := RX1) (T := TX1) (N := 3) hx hb hts in_X1 hown hK hP 0 rfl rfl 0 (by decide) (hts _ q244) (fun _ h9 => h9) rfl dX1_key_19 ?_
  refine lv_iload hx hb dX1_key_22 (lv_at hl 0 rfl) ?_
  refine lv_iconst (v := 4) hx hb dX1_key_24 (by decide) ?_
  refine lv_iadd hx hb dX1_key_25 ?_
  refine lv_iload_n hx hb dX1_key_26 rfl (lv_at hl 4 rfl) ?_
  refine v_callv (wr := [(h0, .inr (1, [.ref ka, .ref ba, .ref oa])), (ba, .inl (dN, 8, .inl bf)), (oa, .inl (dN, 8, .inl uf))]) (va_runS (As := [.ref ka, .int ((nI (h * 16)) + 4), .int x2]) (rest := []) ⟨hx, hb, hml, hown, hts⟩ (metX1_word l D dB dN H.size ka (rc_wM kf (h * 16) x1 4) ((nI (h * 16)) + 4) x2 (h * 16 + 4) 32 (show ((nI (h * 16)) + 4) = nI (h * 16 + 4) from (v_add rfl rfl)) (by omega) (Nat.le_of_ble_eq_true rfl)) (va_cwS 3 hts (lw_S q258 q259 q13 q260) rfl rfl rfl (by decide +kernel) ⟨(Nat.le_of_ble_eq_true rfl), (Nat.le_of_ble_eq_true rfl)⟩) (v_preS vT_mv trivial (hP.sub (ws' := [(ka, .inl (dN, 32, .inl (rc_wM kf (h * 16) x1 4)))]) [3] rfl) (hD.sub (ws' := [(ka, .inl (dN, 32, .inl (rc_wM kf (h * 16) x1 4)))]) [3] (by decide) rfl) hK) rfl rfl hl.1 rfl (lv_room (Nat.le_of_ble_eq_true rfl)) dX1_key_27 ⟨(Nat.le_of_ble_eq_true rfl), (Nat.le_of_ble_eq_true rfl)⟩) hP hD hS hA [3] [0, 1, 2] rfl rfl (by decide) (by decide) (fun _ H locs _ hP hD hS => ?_)
  have hP : va_P D vwCl [(h0, .inr (1, [.ref ka, .ref ba, .ref oa])), (ba, .inl (dN, 8, .inl bf)), (oa, .inl (dN, 8, .inl uf)), (ka, .inl (dN, 32, .inl (rc_wM (rc_wM kf (h * 16) x1 4) (h * 16 + 4) x2 4)))] H := hP
  have hD : va_D A [(h0, .inr (1, [.ref ka, .ref ba, .ref oa])), (ba, .inl (dN, 8, .inl bf)), (oa, .inl (dN, 8, .inl uf)), (ka, .inl (dN, 32, .inl (rc_wM (rc_wM kf (h * 16) x1 4) (h * 16 + 4) x2 4)))] := hD
  refine lv_aload_n hx hb dX1_key_30 rfl (lv_at hl 1 rfl) ?_
  refine va_get (D := D) (ci := 1) (v := .ref ka) (C := RX1) (T := TX1) (N := 3) hx hb hts in_X1 hown hK hP 0 rfl rfl 0 (by decide) (hts _ q244) (fun _ h9 => h9) rfl dX1_key_31 ?_
  refine lv_iload hx hb dX1_key_34 (lv_at hl 0 rfl) ?_
  refine lv_bipush (v := 8) hx hb dX1_key_36 (by decide) ?_
  refine lv_iadd hx hb dX1_key_38 ?_
  refine lv_iload hx hb dX1_key_39 (lv_at hl 5 rfl) ?_
  refine v_callv (wr := [(h0, .inr (1, [.ref ka, .ref ba, .ref oa])), (ba, .inl (dN, 8, .inl bf)), (oa, .inl (dN, 8, .inl uf))]) (va_runS (As := [.ref ka, .int ((nI (h * 16)) + 8), .int x3]) (rest := []) ⟨hx, hb, hml, hown, hts⟩ (metX1_word l D dB dN H.size ka (rc_wM (rc_wM kf (h * 16) x1 4) (h * 16 + 4) x2 4) ((nI (h * 16)) + 8) x3 (h * 16 + 8) 32 (show ((nI (h * 16)) + 8) = nI (h * 16 + 8) from (v_add rfl rfl)) (by omega) (Nat.le_of_ble_eq_true rfl)) (va_cwS 3 hts (lw_S q258 q259 q13 q260) rfl rfl rfl (by decide +kernel) ⟨(Nat.le_of_ble_eq_true rfl), (Nat.le_of_ble_eq_true rfl)⟩) (v_preS vT_mv trivial (hP.sub (ws' := [(ka, .inl (dN, 32, .inl (rc_wM (rc_wM kf (h * 16) x1 4) (h * 16 + 4) x2 4)))]) [3] rfl) (hD.sub (ws' := [(ka, .inl (dN, 32, .inl (rc_wM (rc_wM kf (h * 16) x1 4) (h * 16 + 4) x2 4)))]) [3] (by decide) rfl) hK) rfl rfl hl.1 rfl (lv_room (Nat.le_of_ble_eq_true rfl)) dX1_key_41 ⟨(Nat.le_of_ble_eq_true rfl), (Nat.le_of_ble_eq_true rfl)⟩) hP hD hS hA [3] [0, 1, 2] rfl rfl (by decide) (by decide) (fun _ H locs _ hP hD hS => ?_)
  have hP : va_P D vwCl [(h0, .inr (1, [.ref ka, .ref ba, .ref oa])), (ba, .inl (dN, 8, .inl bf)), (oa, .inl (dN, 8, .inl uf)), (ka, .inl (dN, 32, .inl (rc_wM (rc_wM (rc_wM kf (h * 16) x1 4) (h * 16 + 4) x2 4) (h * 16 + 8) x3 4)))] H := hP
  have hD : va_D A [(h0, .inr (1, [.ref ka, .ref ba, .ref oa])), (ba, .inl (dN, 8, .inl bf)), (oa, .inl (dN, 8, .inl uf)), (ka, .inl (dN, 32, .inl (rc_wM (rc_wM (rc_wM kf (h * 16) x1 4) (h * 16 + 4) x2 4) (h * 16 + 8) x3 4)))] := hD
  refine lv_aload_n hx hb dX1_key_44 rfl (lv_at hl 1 rfl) ?_
  refine va_get (D := D) (ci := 1) (v := .ref ka) (C := RX1) (T := TX1) (N := 3) hx hb hts in_X1 hown hK hP 0 rfl rfl 0 (by decide) (hts _ q244) (fun _ h9 => h9) rfl dX1_key_45 ?_
  refine lv_iload hx hb dX1_key_48 (lv_at hl 0 rfl) ?_
  refine lv_bipush (v := 12) hx hb dX1_key_50 (by decide) ?_
  refine lv_iadd hx hb dX1_key_52 ?_
  refine lv_iload hx hb dX1_key_53 (lv_at hl 6 rfl) ?_
  refine v_callv (wr := [(h0, .inr (1, [.ref ka, .ref ba, .ref oa])), (ba, .inl (dN, 8, .inl bf)), (oa, .inl (dN, 8, .inl uf))]) (va_runS (As := [.ref ka, .int ((nI (h * 16)) + 12), .int x4]) (rest := []) ⟨hx, hb, hml, hown, hts⟩ (metX1_word l D dB dN H.size ka (rc_wM (rc_wM (rc_wM kf (h * 16) x1 4) (h * 16 + 4) x2 4) (h * 16 + 8) x3 4) ((nI (h * 16)) + 12) x4 (h * 16 + 12) 32 (show ((nI (h * 16)) + 12) = nI (h * 16 + 12) from (v_add rfl rfl)) (by omega) (Nat.le_of_ble_eq_true rfl)) (va_cwS 3 hts (lw_S q258 q259 q13 q260) rfl rfl rfl (by decide +kernel) ⟨(Nat.le_of_ble_eq_true rfl), (Nat.le_of_ble_eq_true rfl)⟩) (v_preS vT_mv trivial (hP.sub (ws' := [(ka, .inl (dN, 32, .inl (rc_wM (rc_wM (rc_wM kf (h * 16) x1 4) (h * 16 + 4) x2 4) (h * 16 + 8) x3 4)))]) [3] rfl) (hD.sub (ws' := [(ka, .inl (dN, 32, .inl (rc_wM (rc_wM (rc_wM kf (h * 16) x1 4) (h * 16 + 4) x2 4) (h * 16 + 8) x3 4)))]) [3] (by decide) rfl) hK) rfl rfl hl.1 rfl (lv_room (Nat.le_of_ble_eq_true rfl)) dX1_key_55 ⟨(Nat.le_of_ble_eq_true rfl), (Nat.le_of_ble_eq_true rfl)⟩) hP hD hS hA [3] [0, 1, 2] rfl rfl (by decide) (by decide) (fun _ H locs _ hP hD hS => ?_)
  have hP : va_P D vwCl [(h0, .inr (1, [.ref ka, .ref ba, .ref oa])), (ba, .inl (dN, 8, .inl bf)), (oa, .inl (dN, 8, .inl uf)), (ka, .inl (dN, 32, .inl (rc_wM (rc_wM (rc_wM (rc_wM kf (h * 16) x1 4) (h * 16 + 4) x2 4) (h * 16 + 8) x3 4) (h * 16 + 12) x4 4)))] H := hP
  have hD : va_D A [(h0, .inr (1, [.ref ka, .ref ba, .ref oa])), (ba, .inl (dN, 8, .inl bf)), (oa, .inl (dN, 8, .inl uf)), (ka, .inl (dN, 32, .inl (rc_wM (rc_wM (rc_wM (rc_wM kf (h * 16) x1 4) (h * 16 + 4) x2 4) (h * 16 + 8) x3 4) (h * 16 + 12) x4 4)))] := hD
  have hP9 : va_P D vwCl [(h0, .inr (1, [.ref ka, .ref ba, .ref oa])), (ka, .inl (dN, 32, .inl (rc_wM (rc_wM (rc_wM (rc_wM kf (h * 16) x1 4) (h * 16 + 4) x2 4) (h * 16 + 8) x3 4) (h * 16 + 12) x4 4))), (ba, .inl (dN, 8, .inl bf)), (oa, .inl (dN, 8, .inl uf))] H := hP.sub [0, 3, 1, 2] rfl
  have hD9 : va_D A [(h0, .inr (1, [.ref ka, .ref ba, .ref oa])), (ka, .inl (dN, 32, .inl (rc_wM (rc_wM (rc_wM (rc_wM kf (h * 16) x1 4) (h * 16 + 4) x2 4) (h * 16 + 8) x3 4) (h * 16 + 12) x4 4))), (ba, .inl (dN, 8, .inl bf)), (oa, .inl (dN, 8, .inl uf))] := hD.sub [0, 3, 1, 2] (by decide) rfl
  subst hQ
  exact W.vret hx hb hr (fun t ht hW => ⟨⟨(), rfl, trivial, by rw [ht]; exact hP9, hD9⟩, hS.F ht⟩) hS.2.2 dX1_key_58 hlocks
set_option maxHeartbeats 4000000 in
set_option maxRecDepth 100000 in
theorem metX1_block (l : Launch) (D : va_G) (dB dN : ClassId) (sz : Nat) (h0 ka ba oa : Nat) (kf bf uf : Nat → Int32) (x1 x2 : Int32) : Met l yX1_block (ws_ yX1_block cX1_block 3 none) rmWD (va_Pc [.ref h0, .int x1, .int x2] (vPre D dB dN vT sz [(h0, .inr (1, [.ref ka, .ref ba, .ref oa])), (ka, .inl (dN, 32, .inl kf)), (ba, .inl (dN, 8, .inl bf)), (oa, .inl (dN, 8, .inl uf))])) (qV D (fun _ : Unit => [(h0, .inr (1, [.ref ka, .ref ba, .ref oa])), (ka, .inl (dN, 32, .inl kf)), (ba, .inl (dN, 8, .inl (rc_wM (rc_wM bf 0 x1 4) 4 x2 4))), (oa, .inl (dN, 8, .inl uf))]) (va_A [(h0, .inr (1, [.ref ka, .ref ba, .ref oa])), (ka, .inl (dN, 32, .inl kf)), (ba, .inl (dN, 8, .inl bf)), (oa, .inl (dN, 8, .inl uf))] sz)) 0 0 (va_A [(h0, .inr (1, [.ref ka, .ref ba, .ref oa])), (ka, .inl (dN, 32, .inl kf)), (ba, .inl (dN, 8, .inl bf)), (oa, .inl (dN, 8, .inl uf))] sz) := by
  refine v_met (Qc := qV D (fun _ : Unit => [(h0, .inr (1, [.ref ka, .ref ba, .ref oa])), (ka, .inl (dN, 32, .inl kf)), (ba, .inl (dN, 8, .inl (rc_wM (rc_wM bf 0 x1 4) 4 x2 4))), (oa, .inl (dN, 8, .inl uf))])) (by decide) (Nat.le_of_ble_eq_true rfl) ?_
  rintro p e s m args below meth c A ls Q ⟨hx, hb, hr, hlocks, hml, hown, hts, hin⟩ hP hK hD hX hA hS hl hQ
  have hl : lv_has ls 3 [(0, .ref h0), (1, .int x1), (2, .int x2)] := hl
  have hown : s.vm.findClass RX1 = some m.cls := hown
  refine lv_aload_n hx hb dX1_block_0 rfl (lv_at hl 0 rfl) ?_
  refine va_get (D := D) (ci := 1) (v := .ref ba) (C := RX1) (T := TX1) (N := 3) hx hb hts in_X1 hown hK hP 0 rfl rfl 1 (by decide) (hts _ q245) (fun _ h9 => h9) rfl dX1_block_1 ?_
  refine lv_iconst (v := 0) hx hb dX1_block_4 (by decide) ?_
  refine lv_iload_n hx hb dX1_block_5 rfl (lv_at hl 1 rfl) ?_
  refine v_callv (wr := [(h0, .inr (1, [.ref ka, .ref ba, .ref oa])), (ka, .inl (dN, 32, .inl kf)), (oa, .inl (dN, 8, .inl uf))]) (va_runS (As := [.ref ba, .int 0, .int x1]) (rest := []) ⟨hx, hb, hml, hown, hts⟩ (metX1_word l D dB dN s.heap.size ba bf 0 x1 0 8 rfl (by omega) (Nat.le_of_ble_eq_true rfl)) (va_cwS 3 hts (lw_S q258 q259 q13 q260) rfl rfl rfl (by decide +kernel) ⟨(Nat.le_of_ble_eq_true rfl), (Nat.le_of_ble_eq_true rfl)⟩) (v_preS vT_mv trivial (hP.sub (ws' := [(ba, .inl (dN, 8, .inl bf))]) [2] rfl) (hD.sub (ws' := [(ba, .inl (dN, 8, .inl bf))]) [2] (by decide) rfl) hK) rfl rfl hl.1 rfl (lv_room (Nat.le_of_ble_eq_true rfl)) dX1_block_6 ⟨(Nat.le_of_ble_eq_true rfl), (Nat.le_of_ble_eq_true rfl)⟩) hP hD hS hA [2] [0, 1, 3] rfl rfl (by decide) (by decide) (fun _ H locs _ hP hD hS => ?_)
  have hP : va_P D vwCl [(h0, .inr (1, [.ref ka, .ref ba, .ref oa])), (ka, .inl (dN, 32, .inl kf)), (oa, .inl (dN, 8, .inl uf)), (ba, .inl (dN, 8, .inl (rc_wM bf 0 x1 4)))] H := hP
  have hD : va_D A [(h0, .inr (1, [.ref ka, .ref ba, .ref oa])), (ka, .inl (dN, 32, .inl kf)), (oa, .inl (dN, 8, .inl uf)), (ba, .inl (dN, 8, .inl (rc_wM bf 0 x1 4)))] := hD
  refine lv_aload_n hx hb dX1_block_9 rfl (lv_at hl 0 rfl) ?_
  refine va_get (D := D) (ci := 1) (v := .ref ba) (C := RX1) (T := TX1) (N := 3) hx hb hts in_X1 hown hK hP 0 rfl rfl 1 (by decide) (hts _ q245) (fun _ h9 => h9) rfl dX1_block_10 ?_
  refine lv_iconst (v := 4) hx hb dX1_block_13 (by decide) ?_
  refine lv_iload_n hx hb dX1_block_14 rfl (lv_at hl 2 rfl) ?_
  refine v_callv (wr := [(h0, .inr (1, [.ref ka, .ref ba, .ref oa])), (ka, .inl (dN, 32, .inl kf)), (oa, .inl (dN, 8, .inl uf))]) (va_runS (As := [.ref ba, .int 4, .int x2]) (rest := []) ⟨hx, hb, hml, hown, hts⟩ (metX1_word l D dB dN H.size ba (rc_wM bf 0 x1 4) 4 x2 4 8 rfl (by omega) (Nat.le_of_ble_eq_true rfl)) (va_cwS 3 hts (lw_S q258 q259 q13 q260) rfl rfl rfl (by decide +kernel) ⟨(Nat.le_of_ble_eq_true rfl), (Nat.le_of_ble_eq_true rfl)⟩) (v_preS vT_mv trivial (hP.sub (ws' := [(ba, .inl (dN, 8, .inl (rc_wM bf 0 x1 4)))]) [3] rfl) (hD.sub (ws' := [(ba, .inl (dN, 8, .inl (rc_wM bf 0 x1 4)))]) [3] (by decide) rfl) hK) rfl rfl hl.1 rfl (lv_room (Nat.le_of_ble_eq_true rfl)) dX1_block_15 ⟨(Nat.le_of_ble_eq_true rfl), (Nat.le_of_ble_eq_true rfl)⟩) hP hD hS hA [3] [0, 1, 2] rfl rfl (by decide) (by decide) (fun _ H locs _ hP hD hS => ?_)
  have hP : va_P D vwCl [(h0, .inr (1, [.ref ka, .ref ba, .ref oa])), (ka, .inl (dN, 32, .inl kf)), (oa, .inl (dN, 8, .inl uf)), (ba, .inl (dN, 8, .inl (rc_wM (rc_wM bf 0 x1 4) 4 x2 4)))] H := hP
  have hD : va_D A [(h0, .inr (1, [.ref ka, .ref ba, .ref oa])), (ka, .inl (dN, 32, .inl kf)), (oa, .inl (dN, 8, .inl uf)), (ba, .inl (dN, 8, .inl (rc_wM (rc_wM bf 0 x1 4) 4 x2 4)))] := hD
  have hP9 : va_P D vwCl [(h0, .inr (1, [.ref ka, .ref ba, .ref oa])), (ka, .inl (dN, 32, .inl kf)), (ba, .inl (dN, 8, .inl (rc_wM (rc_wM bf 0 x1 4) 4 x2 4))), (oa, .inl (dN, 8, .inl uf))] H := hP.sub [0, 1, 3, 2] rfl
  have hD9 : va_D A [(h0, .inr (1, [.ref ka, .ref ba, .ref oa])), (ka, .inl (dN, 32, .inl kf)), (ba, .inl (dN, 8, .inl (rc_wM (rc_wM bf 0 x1 4) 4 x2 4))), (oa, .inl (dN, 8, .inl uf))] := hD.sub [0, 1, 3, 2] (by decide) rfl
  subst hQ
  exact W.vret hx hb hr (fun t ht hW => ⟨⟨(), rfl, trivial, by rw [ht]; exact hP9, hD9⟩, hS.F ht⟩) hS.2.2 dX1_block_18 hlocks
set_option maxHeartbeats 4000000 in
set_option maxRecDepth 100000 in
theorem metX1_again (l : Launch) (D : va_G) (dB dN : ClassId) (sz : Nat) (h0 ka ba oa : Nat) (kf bf uf : Nat → Int32) : Met l yX1_again (ws_ yX1_again cX1_again 2 none) rmR (va_Pc [.ref h0] (vPre D dB dN vT sz [(h0, .inr (1, [.ref ka, .ref ba, .ref oa])), (ka, .inl (dN, 32, .inl kf)), (ba, .inl (dN, 8, .inl bf)), (oa, .inl (dN, 8, .inl uf))])) (qV D (fun _ : Unit => [(h0, .inr (1, [.ref ka, .ref ba, .ref oa])), (ka, .inl (dN, 32, .inl kf)), (ba, .inl (dN, 8, .inl (rc_cM bf uf 8))), (oa, .inl (dN, 8, .inl uf))]) (va_A [(h0, .inr (1, [.ref ka, .ref ba, .ref oa])), (ka, .inl (dN, 32, .inl kf)), (ba, .inl (dN, 8, .inl bf)), (oa, .inl (dN, 8, .inl uf))] sz)) 0 0 (va_A [(h0, .inr (1, [.ref ka, .ref ba, .ref oa])), (ka, .inl (dN, 32, .inl kf)), (ba, .inl (dN, 8, .inl bf)), (oa, .inl (dN, 8, .inl uf))] sz) := by
  refine v_met (Qc := qV D (fun _ : Unit => [(h0, .inr (1, [.ref ka, .ref ba, .ref oa])), (ka, .inl (dN, 32, .inl kf)), (ba, .inl (dN, 8, .inl (rc_cM bf uf 8))), (oa, .inl (dN, 8, .inl uf))])) (by decide) (Nat.le_of_ble_eq_true rfl) ?_
  rintro p e s m args below meth c A ls Q ⟨hx, hb, hr, hlocks, hml, hown, hts, hin⟩ hP hK hD hX hA hS hl hQ
  have hl : lv_has ls 2 [(0, .ref h0)] := hl
  have hown : s.vm.findClass RX1 = some m.cls := hown
  refine lv_iconst (v := 0) hx hb dX1_again_0 (by decide) ?_
  refine lv_istore_n (lv' := [(1, .int 0), (0, .ref h0)]) hx hb dX1_again_1 rfl hl (by decide) rfl (fun ls hl => ?_)
  have loop1 : ∀ (n i : Nat) (H : Heap) (locs : List Loc) (ls : Array Slot), i + n = 8 → va_P D vwCl [(h0, .inr (1, [.ref ka, .ref ba, .ref oa])), (ka, .inl (dN, 32, .inl kf)), (ba, .inl (dN, 8, .inl (rc_cM bf uf i))), (oa, .inl (dN, 8, .inl uf))] H → va_D A [(h0, .inr (1, [.ref ka, .ref ba, .ref oa])), (ka, .inl (dN, 32, .inl kf)), (ba, .inl (dN, 8, .inl (rc_cM bf uf i))), (oa, .inl (dN, 8, .inl uf))] → va_S A s.heap H locs → lv_has ls 2 [(0, .ref h0), (1, .int (nI i))] → W p l e rmR s m args below meth c H locs 0 0 Q (F0 m 2 ls []) := by
    intro n
    induction n with
    | zero =>
      intro i H locs ls hi hP hD hS hl
      obtain rfl : i = 8 := by omega
      refine lv_iload_n hx hb dX1_again_2 rfl (lv_at hl 1 rfl) ?_
      refine lv_bipush (v := 8) hx hb dX1_again_3 (by decide) ?_
      refine lv_icmp_ge (tgt := 26) hx hb dX1_again_5 (by decide) (fun _ => ?_) (fun c => absurd ((v_le (a := 8) (b := 8) rfl rfl (by omega) (by omega)).mpr (by omega)) c)
      have hP9 : va_P D vwCl [(h0, .inr (1, [.ref ka, .ref ba, .ref oa])), (ka, .inl (dN, 32, .inl kf)), (ba, .inl (dN, 8, .inl (rc_cM bf uf 8))), (oa, .inl (dN, 8, .inl uf))] H := hP.sub [0, 1, 2, 3] rfl
      have hD9 : va_D A [(h0, .inr (1, [.ref ka, .ref ba, .ref oa])), (ka, .inl (dN, 32, .inl kf)), (ba, .inl (dN, 8, .inl (rc_cM bf uf 8))), (oa, .inl (dN, 8, .inl uf))] := hD.sub [0, 1, 2, 3] (by decide) rfl
      subst hQ
      exact W.vret hx hb hr (fun t ht hW => ⟨⟨(), rfl, trivial, by rw [ht]; exact hP9, hD9⟩, hS.F ht⟩) hS.2.2 dX1_again_26 hlocks
    | succ n ih =>
      intro i H locs ls hi hP hD hS hl
      refine lv_iload_n hx hb dX1_again_2 rfl (lv_at hl 1 rfl) ?_
      refine lv_bipush (v := 8) hx hb dX1_again_3 (by decide) ?_
      refine lv_icmp_ge (tgt := 26) hx hb dX1_again_5 (by decide) (fun c => absurd ((v_le (a := 8) (b := i) rfl rfl (by omega) (by omega)).mp c) (by omega)) (fun _ => ?_)
      refine lv_aload_n hx hb dX1_again_8 rfl (lv_at hl 0 rfl) ?_
      refine va_get (D := D) (ci := 1) (v := .ref ba) (C := RX1) (T := TX1) (N := 3) hx hb hts in_X1 hown hK hP 0 rfl rfl 1 (by decide) (hts _ q245) (fun _ h9 => h9) rfl dX1_again_9 ?_
      refine lv_iload_n hx hb dX1_again_12 rfl (lv_at hl 1 rfl) ?_
      refine lv_aload_n hx hb dX1_again_13 rfl (lv_at hl 0 rfl) ?_
      refine va_get (D := D) (ci := 1) (v := .ref oa) (C := RX1) (T := TX1) (N := 3) hx hb hts in_X1 hown hK hP 0 rfl rfl 2 (by decide) (hts _ q246) (fun _ h9 => h9) rfl dX1_again_14 ?_
      refine lv_iload_n hx hb dX1_again_17 rfl (lv_at hl 1 rfl) ?_
      refine v_iald hx hb hK hP 3 1 rfl rfl (k := i) rfl (by omega) (Nat.le_of_ble_eq_true rfl) dX1_again_18 ?_
      refine v_iast hx hb hK hP hD hS 2 1 rfl rfl (k := i) rfl (by omega) (Nat.le_of_ble_eq_true rfl) dX1_again_19 (fun H locs hP hD hS => ?_)
      have hP : va_P D vwCl [(h0, .inr (1, [.ref ka, .ref ba, .ref oa])), (ka, .inl (dN, 32, .inl kf)), (ba, .inl (dN, 8, .inl (upd (rc_cM bf uf i) i (uf i)))), (oa, .inl (dN, 8, .inl uf))] H := hP
      have hD : va_D A [(h0, .inr (1, [.ref ka, .ref ba, .ref oa])), (ka, .inl (dN, 32, .inl kf)), (ba, .inl (dN, 8, .inl (upd (rc_cM bf uf i) i (uf i)))), (oa, .inl (dN, 8, .inl uf))] := hD
      refine lv_iinc (v := (nI (i + 1))) (lv' := [(1, .int (nI (i + 1))), (0, .ref h0)]) hx hb dX1_again_20 hl (k := 1) rfl (v_add rfl (show (Int32.ofInt 1) = nI 1 from rfl)) (by decide) rfl (fun ls hl => ?_)
      refine lv_goto (tgt := 2) hx hb dX1_again_23 (by decide) ?_
      exact ih (i + 1) H locs ls (by omega) (hP.sub [0, 1, 2, 3] rfl) (hD.sub [0, 1, 2, 3] (by decide) rfl) hS (lv_sub hl [1, 0] rfl)
  exact loop1 8 0 _ _ _ rfl (hP.sub [0, 1, 2, 3] rfl) (hD.sub [0, 1, 2, 3] (by decide) rfl) hS (lv_sub hl [1, 0] rfl)
set_option maxHeartbeats 4000000 in
set_option maxRecDepth 100000 in
theorem metX1_out (l : Launch) (D : va_G) (dB dN : ClassId) (sz : Nat) (h0 ka ba oa : Nat) (uf : Nat → Int32) (x : Int32) (j : Nat) (hj : j < 8) (ej : x &&& 7 = nI j) : Met l yX1_out (ws_ yX1_out cX1_out 2 (some .int)) rmR (va_Pc [.ref h0, .int x] (vPre D dB dN vT sz [(h0, .inr (1, [.ref ka, .ref ba, .ref oa])), (oa, .inl (dN, 8, .inl uf))])) (vp_Si (fun r => r = uf j)) 0 0 (fun _ => False) := by
  refine v_metR (by decide) (Nat.le_of_ble_eq_true rfl) ?_
  rintro p e s m args below meth c ls Q ⟨hx, hb, hr, hlocks, hml, hown, hts, hin⟩ hP hK hl hQ
  have hl : lv_has ls 2 [(0, .ref h0), (1, .int x)] := hl
  have hown : s.vm.findClass RX1 = some m.cls := hown
  refine lv_aload_n hx hb dX1_out_0 rfl (lv_at hl 0 rfl) ?_
  refine va_get (D := D) (ci := 1) (v := .ref oa) (C := RX1) (T := TX1) (N := 3) hx hb hts in_X1 hown hK hP 0 rfl rfl 2 (by decide) (hts _ q246) (fun _ h9 => h9) rfl dX1_out_1 ?_
  refine lv_iload_n hx hb dX1_out_4 rfl (lv_at hl 1 rfl) ?_
  refine lv_bipush (v := 7) hx hb dX1_out_5 (by decide) ?_
  refine lv_iand hx hb dX1_out_7 ?_
  refine v_top (y := (nI j)) ej ?_
  refine v_iald hx hb hK hP 1 1 rfl rfl (k := j) rfl (by omega) (Nat.le_of_ble_eq_true rfl) dX1_out_8 ?_
  subst hQ
  exact W.iret hx hb hr (fun t ht hW => ⟨_, rfl, rfl, ht⟩) (fun q h => by cases h) dX1_out_9 hlocks
end
section
set_option maxHeartbeats 4000000 in
set_option maxRecDepth 100000 in
theorem metX0_size (l : Launch) (D : va_G) (dB dN : ClassId) (sz : Nat) (x : Int32) : Met l yX0_size (ws_ yX0_size cX0_size 1 (some .int)) rmR (va_Pc [.int x] (vPre D dB dN vT sz [])) (vp_Si (fun r => r = 16)) 0 0 (fun _ => False) := by
  refine v_metR (by decide) (Nat.le_of_ble_eq_true rfl) ?_
  rintro p e s m args below meth c ls Q ⟨hx, hb, hr, hlocks, hml, hown, hts, hin⟩ hP hK hl hQ
  have hl : lv_has ls 1 [(0, .int x)] := hl
  have hown : s.vm.findClass RX0 = some m.cls := hown
  refine lv_bipush (v := 16) hx hb dX0_size_0 (by decide) ?_
  subst hQ
  exact W.iret hx hb hr (fun t ht hW => ⟨_, rfl, rfl, ht⟩) (fun q h => by cases h) dX0_size_2 hlocks
abbrev rmRU : Room := { frames := 4, cells := 6, slots := 66, locals := 77 }
abbrev rmLK : Room := { frames := 5, cells := 6, slots := 66, locals := 102 }
set_option maxHeartbeats 4000000 in
set_option maxRecDepth 100000 in
theorem metX0_run (l : Launch) (D : va_G) (dB dN : ClassId) (sz : Nat) (h0 ka ba oa : Nat) (kf bf uf : Nat → Int32) (z kd : Int32) (hz : z = 0 ∨ z = 1) : Met l yX0_run (ws_ yX0_run cX0_run 6 none) rmRU (va_Pc [.ref h0, .int z, .int kd] (vPre D dB dN vX sz [(h0, .inr (0, [.ref ka, .ref ba, .ref oa])), (ka, .inl (dB, 32, .inl kf)), (ba, .inl (dB, 8, .inl bf)), (oa, .inl (dB, 8, .inl uf))])) (qV D (fun _ : Unit => [(h0, .inr (0, [.ref ka, .ref ba, .ref oa])), (ka, .inl (dB, 32, .inl kf)), (ba, .inl (dB, 8, .inl bf)), (oa, .inl (dB, 8, .inl (rc_oD z kf bf uf)))]) (va_A [(h0, .inr (0, [.ref ka, .ref ba, .ref oa])), (ka, .inl (dB, 32, .inl kf)), (ba, .inl (dB, 8, .inl bf)), (oa, .inl (dB, 8, .inl uf))] sz)) 6 66 (va_A [(h0, .inr (0, [.ref ka, .ref ba, .ref oa])), (ka, .inl (dB, 32, .inl kf)), (ba, .inl (dB, 8, .inl bf)), (oa, .inl (dB, 8, .inl uf))] sz) := by
  refine v_met (Qc := qV D (fun _ : Unit => [(h0, .inr (0, [.ref ka, .ref ba, .ref oa])), (ka, .inl (dB, 32, .inl kf)), (ba, .inl (dB, 8, .inl bf)), (oa, .inl (dB, 8, .inl (rc_oD z kf bf uf)))])) (by decide) (Nat.le_of_ble_eq_true rfl) ?_
  rintro p e s m args below meth c A ls Q ⟨hx, hb, hr, hlocks, hml, hown, hts, hin⟩ hP hK hD hX hA hS hl hQ
  have hl : lv_has ls 6 [(0, .ref h0), (1, .int z), (2, .int kd)] := hl
  have hown : s.vm.findClass RX0 = some m.cls := hown
  refine lv_iload_n hx hb dX0_run_0 rfl (lv_at hl 2 rfl) ?_
  refine lv_iconst (v := 3) hx hb dX0_run_1 (by decide) ?_
  refine lv_iand hx hb dX0_run_2 ?_
  refine vp_callSi (W.runS (As := [.int (kd &&& 3)]) (rest := []) ⟨hx, hb, hml, hown, hts⟩ (metX0_size l D dB dN s.heap.size (kd &&& 3)) (va_cwS 1 hts (lw_S q59 q60 q12 q61) rfl rfl rfl (by decide +kernel) ⟨(Nat.le_of_ble_eq_true rfl), (Nat.le_of_ble_eq_true rfl)⟩) (v_preS vT_mv trivial (hP.sub (ws' := []) [] rfl) (hD.sub (ws' := []) [] (by decide) rfl) hK) rfl rfl hl.1 rfl (lv_room (Nat.le_of_ble_eq_true rfl)) dX0_run_3 ⟨(Nat.le_of_ble_eq_true rfl), (Nat.le_of_ble_eq_true rfl)⟩) (fun n0 en0 => ?_)
  subst en0
  refine lv_istore_n (lv' := [(3, .int 16), (0, .ref h0), (1, .int z), (2, .int kd)]) hx hb dX0_run_6 rfl hl (by decide) rfl (fun ls hl => ?_)
  refine lv_iload_n hx hb dX0_run_7 rfl (lv_at hl 0 rfl) ?_
  refine v_newa (atype := .byte) (a0 := (16, .inl (fun _ => 0))) hx hb (hts _ q39) rfl 0 rfl (fun _ => rfl) hK hP hD hS hA (fun cA => v_cell0 16 .byte rfl cA) rfl (Nat.le_of_ble_eq_true rfl) (Nat.le_of_ble_eq_true rfl) (Nat.le_of_ble_eq_true rfl) (Nat.le_of_ble_eq_true rfl) dX0_run_8 (fun q_1 H hP hD hS => ?_)
  have hP : va_P D vwCl [(h0, .inr (0, [.ref ka, .ref ba, .ref oa])), (ka, .inl (dB, 32, .inl kf)), (ba, .inl (dB, 8, .inl bf)), (oa, .inl (dB, 8, .inl uf)), (q_1, .inl (dB, 16, .inl (fun _ => 0)))] H := hP
  have hD : va_D A [(h0, .inr (0, [.ref ka, .ref ba, .ref oa])), (ka, .inl (dB, 32, .inl kf)), (ba, .inl (dB, 8, .inl bf)), (oa, .inl (dB, 8, .inl uf)), (q_1, .inl (dB, 16, .inl (fun _ => 0)))] := hD
  refine W.widen (k := 1) (n := 16) (Nat.le_of_ble_eq_true rfl) (Nat.le_of_ble_eq_true rfl) ?_
  refine lv_astore (lv' := [(4, .ref q_1), (3, .int 16), (0, .ref h0), (1, .int z), (2, .int kd)]) hx hb dX0_run_10 hl (by decide) rfl (fun ls hl => ?_)
  refine lv_iconst (v := 0) hx hb dX0_run_12 (by decide) ?_
  refine lv_istore (lv' := [(5, .int 0), (4, .ref q_1), (3, .int 16), (0, .ref h0), (1, .int z), (2, .int kd)]) hx hb dX0_run_13 hl (by decide) rfl (fun ls hl => ?_)
  have loop1 : ∀ (n i : Nat) (H : Heap) (locs : List Loc) (ls : Array Slot), i + n = 16 → va_P D vwCl [(h0, .inr (0, [.ref ka, .ref ba, .ref oa])), (ka, .inl (dB, 32, .inl kf)), (ba, .inl (dB, 8, .inl bf)), (oa, .inl (dB, 8, .inl uf)), (q_1, .inl (dB, 16, .inl (rc_cD (fun _ => 0) kf i)))] H → va_D A [(h0, .inr (0, [.ref ka, .ref ba, .ref oa])), (ka, .inl (dB, 32, .inl kf)), (ba, .inl (dB, 8, .inl bf)), (oa, .inl (dB, 8, .inl uf)), (q_1, .inl (dB, 16, .inl (rc_cD (fun _ => 0) kf i)))] → va_S A s.heap H locs → lv_has ls 6 [(0, .ref h0), (1, .int z), (2, .int kd), (3, .int 16), (4, .ref q_1), (5, .int (nI i))] → W p l e rmRU s m args below meth c H locs 1 16 Q (F0 m 15 ls []) := by
    intro n
    induction n with
    | zero =>
      intro i H locs ls hi hP hD hS hl
      obtain rfl : i = 16 := by omega
      refine lv_iload hx hb dX0_run_15 (lv_at hl 5 rfl) ?_
      refine lv_iload_n hx hb dX0_run_17 rfl (lv_at hl 3 rfl) ?_
      refine lv_icmp_ge (tgt := 39) hx hb dX0_run_18 (by decide) (fun _ => ?_) (fun c => absurd ((v_le (a := 16) (b := 16) rfl rfl (by omega) (by omega)).mpr (by omega)) c)
      refine va_new (ci := 2) (fs := [.int 0, .null, .int 0]) (C := RX2) (T := TX2) (N := 3) hx hb hts in_X2 tyX2 tyX2_ok hown (hts _ q62) (hts _ q63) (hts _ q14) hK hP hD hS hA rfl (fun j hj => by rcases (show j = 0 ∨ j = 1 ∨ j = 2 by omega) with rfl | rfl | rfl <;> rfl) (Nat.le_of_ble_eq_true rfl) (Nat.le_of_ble_eq_true rfl) dX0_run_39 (fun q_2 H hP hD hS => ?_)
      have hP : va_P D vwCl [(h0, .inr (0, [.ref ka, .ref ba, .ref oa])), (ka, .inl (dB, 32, .inl kf)), (ba, .inl (dB, 8, .inl bf)), (oa, .inl (dB, 8, .inl uf)), (q_1, .inl (dB, 16, .inl (rc_cD (fun _ => 0) kf 16))), (q_2, .inr (2, [.int 0, .null, .int 0]))] H := hP
      have hD : va_D A [(h0, .inr (0, [.ref ka, .ref ba, .ref oa])), (ka, .inl (dB, 32, .inl kf)), (ba, .inl (dB, 8, .inl bf)), (oa, .inl (dB, 8, .inl uf)), (q_1, .inl (dB, 16, .inl (rc_cD (fun _ => 0) kf 16))), (q_2, .inr (2, [.int 0, .null, .int 0]))] := hD
      refine W.widen (k := 2) (n := 19) (Nat.le_of_ble_eq_true rfl) (Nat.le_of_ble_eq_true rfl) ?_
      refine lv_dup hx hb dX0_run_42 rfl ?_
      refine v_callv (wr := [(h0, .inr (0, [.ref ka, .ref ba, .ref oa])), (ka, .inl (dB, 32, .inl kf)), (ba, .inl (dB, 8, .inl bf)), (oa, .inl (dB, 8, .inl uf)), (q_1, .inl (dB, 16, .inl (rc_cD (fun _ => 0) kf 16)))]) (va_runI (As := []) (rest := [.ref q_2]) ⟨hx, hb, hml, hown, hts⟩ (metX2_init l D dB dN H.size q_2) (cwI 0 hts (lw_meth q66) rfl rfl rfl (hts _ q14) (hts _ q64) (hts _ q65) rfl (by decide +kernel) ⟨(Nat.le_of_ble_eq_true rfl), (Nat.le_of_ble_eq_true rfl)⟩) (v_preS vT_mv trivial (hP.sub (ws' := [(q_2, .inr (2, [.int 0, .null, .int 0]))]) [5] rfl) (hD.sub (ws' := [(q_2, .inr (2, [.int 0, .null, .int 0]))]) [5] (by decide) rfl) hK) rfl rfl hl.1 rfl (lv_room (Nat.le_of_ble_eq_true rfl)) dX0_run_43 ⟨(Nat.le_of_ble_eq_true rfl), (Nat.le_of_ble_eq_true rfl)⟩) hP hD hS hA [5] [0, 1, 2, 3, 4] rfl rfl (by decide) (by decide) (fun _ H locs _ hP hD hS => ?_)
      have hP : va_P D vwCl [(h0, .inr (0, [.ref ka, .ref ba, .ref oa])), (ka, .inl (dB, 32, .inl kf)), (ba, .inl (dB, 8, .inl bf)), (oa, .inl (dB, 8, .inl uf)), (q_1, .inl (dB, 16, .inl (rc_cD (fun _ => 0) kf 16))), (q_2, .inr (2, [.int 12, .null, .int 0]))] H := hP
      have hD : va_D A [(h0, .inr (0, [.ref ka, .ref ba, .ref oa])), (ka, .inl (dB, 32, .inl kf)), (ba, .inl (dB, 8, .inl bf)), (oa, .inl (dB, 8, .inl uf)), (q_1, .inl (dB, 16, .inl (rc_cD (fun _ => 0) kf 16))), (q_2, .inr (2, [.int 12, .null, .int 0]))] := hD
      refine lv_astore (lv' := [(5, .ref q_2), (0, .ref h0), (1, .int z), (2, .int kd), (3, .int 16), (4, .ref q_1)]) hx hb dX0_run_46 hl (by decide) rfl (fun ls hl => ?_)
      refine lv_aload hx hb dX0_run_48 (lv_at hl 0 rfl) ?_
      refine lv_iload_n hx hb dX0_run_50 rfl (lv_at hl 2 rfl) ?_
      refine va_new (ci := 3) (fs := [.null]) (C := RX3) (T := TX3) (N := 1) hx hb hts in_X3 tyX3 tyX3_ok hown (hts _ q78) (hts _ q79) (hts _ q15) hK hP hD hS hA rfl (fun j hj => by rcases (show j = 0 by omega) with rfl <;> rfl) (Nat.le_of_ble_eq_true rfl) (Nat.le_of_ble_eq_true rfl) dX0_run_51 (fun q_3 H hP hD hS => ?_)
      have hP : va_P D vwCl [(h0, .inr (0, [.ref ka, .ref ba, .ref oa])), (ka, .inl (dB, 32, .inl kf)), (ba, .inl (dB, 8, .inl bf)), (oa, .inl (dB, 8, .inl uf)), (q_1, .inl (dB, 16, .inl (rc_cD (fun _ => 0) kf 16))), (q_2, .inr (2, [.int 12, .null, .int 0])), (q_3, .inr (3, [.null]))] H := hP
      have hD : va_D A [(h0, .inr (0, [.ref ka, .ref ba, .ref oa])), (ka, .inl (dB, 32, .inl kf)), (ba, .inl (dB, 8, .inl bf)), (oa, .inl (dB, 8, .inl uf)), (q_1, .inl (dB, 16, .inl (rc_cD (fun _ => 0) kf 16))), (q_2, .inr (2, [.int 12, .null, .int 0])), (q_3, .inr (3, [.null]))] := hD
      refine W.widen (k := 3) (n := 20) (Nat.le_of_ble_eq_true rfl) (Nat.le_of_ble_eq_true rfl) ?_
      refine lv_dup hx hb dX0_run_54 rfl ?_
      refine lv_aload hx hb dX0_run_55 (lv_at hl 5 rfl) ?_
      refine v_callv (wr := [(h0, .inr (0, [.ref ka, .ref ba, .ref oa])), (ka, .inl (dB, 32, .inl kf)), (ba, .inl (dB, 8, .inl bf)), (oa, .inl (dB, 8, .inl uf)), (q_2, .inr (2, [.int 12, .null, .int 0]))]) (va_runI (As := [.ref q_1]) (rest := [.ref q_3, .int z, .ref q_2]) ⟨hx, hb, hml, hown, hts⟩ (metX3_init l D dB dN H.size q_3 q_1 (rc_cD (fun _ => 0) kf 16) (rc_fit kf)) (cwI 1 hts (lw_meth q82) rfl rfl rfl (hts _ q15) (hts _ q80) (hts _ q81) rfl (by decide +kernel) ⟨(Nat.le_of_ble_eq_true rfl), (Nat.le_of_ble_eq_true rfl)⟩) (v_preS vT_mv trivial (hP.sub (ws' := [(q_3, .inr (3, [.null])), (q_1, .inl (dB, 16, .inl (rc_cD (fun _ => 0) kf 16)))]) [6, 4] rfl) (hD.sub (ws' := [(q_3, .inr (3, [.null])), (q_1, .inl (dB, 16, .inl (rc_cD (fun _ => 0) kf 16)))]) [6, 4] (by decide) rfl) hK) rfl rfl hl.1 rfl (lv_room (Nat.le_of_ble_eq_true rfl)) dX0_run_57 ⟨(Nat.le_of_ble_eq_true rfl), (Nat.le_of_ble_eq_true rfl)⟩) hP hD hS hA [6, 4] [0, 1, 2, 3, 5] rfl rfl (by decide) (by decide) (fun q2 H locs _ hP hD hS => ?_)
      have hP : va_P D vwCl [(h0, .inr (0, [.ref ka, .ref ba, .ref oa])), (ka, .inl (dB, 32, .inl kf)), (ba, .inl (dB, 8, .inl bf)), (oa, .inl (dB, 8, .inl uf)), (q_2, .inr (2, [.int 12, .null, .int 0])), (q_3, .inr (3, [.ref q2])), (q_1, .inl (dB, 16, .inl (rc_cD (fun _ => 0) kf 16))), (q2, .inl (dB, 16, .inl (va_cpy (rc_cD (fun _ => 0) kf 16) (fun _ => 0) 0 0 16)))] H := hP
      have hD : va_D A [(h0, .inr (0, [.ref ka, .ref ba, .ref oa])), (ka, .inl (dB, 32, .inl kf)), (ba, .inl (dB, 8, .inl bf)), (oa, .inl (dB, 8, .inl uf)), (q_2, .inr (2, [.int 12, .null, .int 0])), (q_3, .inr (3, [.ref q2])), (q_1, .inl (dB, 16, .inl (rc_cD (fun _ => 0) kf 16))), (q2, .inl (dB, 16, .inl (va_cpy (rc_cD (fun _ => 0) kf 16) (fun _ => 0) 0 0 16)))] := hD
      refine W.widen (k := 4) (n := 36) (Nat.le_of_ble_eq_true rfl) (Nat.le_of_ble_eq_true rfl) ?_
      have hP : va_P D vwCl [(h0, .inr (0, [.ref ka, .ref ba, .ref oa])), (ka, .inl (dB, 32, .inl kf)), (ba, .inl (dB, 8, .inl bf)), (oa, .inl (dB, 8, .inl uf)), (q_2, .inr (2, [.int 12, .null, .int 0])), (q_3, .inr (3, [.ref q2])), (q_1, .inl (dB, 16, .inl (rc_cD (fun _ => 0) kf 16))), (q2, .inl (dB, 16, .inl (rc_k2 kf)))] H := hP
      have hD : va_D A [(h0, .inr (0, [.ref ka, .ref ba, .ref oa])), (ka, .inl (dB, 32, .inl kf)), (ba, .inl (dB, 8, .inl bf)), (oa, .inl (dB, 8, .inl uf)), (q_2, .inr (2, [.int 12, .null, .int 0])), (q_3, .inr (3, [.ref q2])), (q_1, .inl (dB, 16, .inl (rc_cD (fun _ => 0) kf 16))), (q2, .inl (dB, 16, .inl (rc_k2 kf)))] := hD
      refine v_callFv (wr := [(h0, .inr (0, [.ref ka, .ref ba, .ref oa])), (ka, .inl (dB, 32, .inl kf)), (ba, .inl (dB, 8, .inl bf)), (oa, .inl (dB, 8, .inl uf)), (q_1, .inl (dB, 16, .inl (rc_cD (fun _ => 0) kf 16)))]) (va_runF (As := [.int z, .ref q_3]) (rest := []) (hK.1 2 _ rfl).2 ⟨hx, hb, hml, hown, hts⟩ (metX2_init_2 l D dB dN H.size q_2 q_3 q2 z hz (rc_k2 kf)) (va_cwF (C := RX2) (x := xInit) 2 hts (lw_F q98 q102 q104 q14 q106) rfl rfl rfl hX.2.1 (by decide +kernel) ⟨(Nat.le_of_ble_eq_true rfl), (Nat.le_of_ble_eq_true rfl)⟩) (v_preV (q0 := 4) (ci := 2) (q := (RX2, TX2, 3)) (fs := [.int 12, .null, .int 0]) vX_mv hX hP rfl rfl (hP.sub (ws' := [(q_2, .inr (2, [.int 12, .null, .int 0])), (q_3, .inr (3, [.ref q2])), (q2, .inl (dB, 16, .inl (rc_k2 kf)))]) [4, 5, 7] rfl) (hD.sub (ws' := [(q_2, .inr (2, [.int 12, .null, .int 0])), (q_3, .inr (3, [.ref q2])), (q2, .inl (dB, 16, .inl (rc_k2 kf)))]) [4, 5, 7] (by decide) rfl) hK) rfl rfl hl.1 rfl (lv_room (Nat.le_of_ble_eq_true rfl)) dX0_run_60 ⟨(Nat.le_of_ble_eq_true rfl), (Nat.le_of_ble_eq_true rfl)⟩) hP hD hS hA [4, 5, 7] [0, 1, 2, 3, 6] rfl rfl (by decide) (by decide) (fun sa H locs _ hP hD hS => ?_)
      have hP : va_P D vwCl [(h0, .inr (0, [.ref ka, .ref ba, .ref oa])), (ka, .inl (dB, 32, .inl kf)), (ba, .inl (dB, 8, .inl bf)), (oa, .inl (dB, 8, .inl uf)), (q_1, .inl (dB, 16, .inl (rc_cD (fun _ => 0) kf 16))), (q_2, .inr (2, [.int 12, .ref sa, .int z])), (sa, .inl (dN, 26, .inl (rc_key (fun j => rc_k2 kf j &&& 255))))] H := hP
      have hD : va_D A [(h0, .inr (0, [.ref ka, .ref ba, .ref oa])), (ka, .inl (dB, 32, .inl kf)), (ba, .inl (dB, 8, .inl bf)), (oa, .inl (dB, 8, .inl uf)), (q_1, .inl (dB, 16, .inl (rc_cD (fun _ => 0) kf 16))), (q_2, .inr (2, [.int 12, .ref sa, .int z])), (sa, .inl (dN, 26, .inl (rc_key (fun j => rc_k2 kf j &&& 255))))] := hD
      refine W.widen (k := 6) (n := 66) (Nat.le_of_ble_eq_true rfl) (Nat.le_of_ble_eq_true rfl) ?_
      refine lv_aload hx hb dX0_run_65 (lv_at hl 0 rfl) ?_
      refine lv_aload_n hx hb dX0_run_67 rfl (lv_at hl 1 rfl) ?_
      refine va_get (D := D) (ci := 0) (v := .ref ba) (C := RX0) (T := TX0) (N := 3) hx hb hts in_X0 hown hK hP 0 rfl rfl 1 (by decide) (hts _ q30) (fun _ h9 => h9) rfl dX0_run_68 ?_
      refine lv_iconst (v := 0) hx hb dX0_run_71 (by decide) ?_
      refine lv_aload_n hx hb dX0_run_72 rfl (lv_at hl 1 rfl) ?_
      refine va_get (D := D) (ci := 0) (v := .ref oa) (C := RX0) (T := TX0) (N := 3) hx hb hts in_X0 hown hK hP 0 rfl rfl 2 (by decide) (hts _ q31) (fun _ h9 => h9) rfl dX0_run_73 ?_
      refine lv_iconst (v := 0) hx hb dX0_run_76 (by decide) ?_
      refine v_callFi (wr := [(h0, .inr (0, [.ref ka, .ref ba, .ref oa])), (ka, .inl (dB, 32, .inl kf)), (q_1, .inl (dB, 16, .inl (rc_cD (fun _ => 0) kf 16)))]) (va_runF (As := [.ref ba, .int 0, .ref oa, .int 0]) (rest := []) (hK.1 2 _ rfl).2 ⟨hx, hb, hml, hown, hts⟩ (metX2_processBlock l D dB dN H.size q_2 sa ba oa z (rc_key (fun j => rc_k2 kf j &&& 255)) bf uf) (va_cwF (C := RX2) (x := xProc) 4 hts (lw_F q198 q201 q203 q14 q205) rfl rfl rfl hX.2.2 (by decide +kernel) ⟨(Nat.le_of_ble_eq_true rfl), (Nat.le_of_ble_eq_true rfl)⟩) (v_preV (q0 := 5) (ci := 2) (q := (RX2, TX2, 3)) (fs := [.int 12, .ref sa, .int z]) vT_mv trivial hP rfl rfl (hP.sub (ws' := [(q_2, .inr (2, [.int 12, .ref sa, .int z])), (sa, .inl (dN, 26, .inl (rc_key (fun j => rc_k2 kf j &&& 255)))), (ba, .inl (dB, 8, .inl bf)), (oa, .inl (dB, 8, .inl uf))]) [5, 6, 2, 3] rfl) (hD.sub (ws' := [(q_2, .inr (2, [.int 12, .ref sa, .int z])), (sa, .inl (dN, 26, .inl (rc_key (fun j => rc_k2 kf j &&& 255)))), (ba, .inl (dB, 8, .inl bf)), (oa, .inl (dB, 8, .inl uf))]) [5, 6, 2, 3] (by decide) rfl) hK) rfl rfl hl.1 rfl (lv_room (Nat.le_of_ble_eq_true rfl)) dX0_run_77 ⟨(Nat.le_of_ble_eq_true rfl), (Nat.le_of_ble_eq_true rfl)⟩) hP hD hS hA [5, 6, 2, 3] [0, 1, 4] rfl rfl (by decide) (by decide) (fun r_ _ H locs _ hP hD hS => ?_)
      have hP : va_P D vwCl [(h0, .inr (0, [.ref ka, .ref ba, .ref oa])), (ka, .inl (dB, 32, .inl kf)), (q_1, .inl (dB, 16, .inl (rc_cD (fun _ => 0) kf 16))), (q_2, .inr (2, [.int 12, .ref sa, .int z])), (sa, .inl (dN, 26, .inl (rc_key (fun j => rc_k2 kf j &&& 255)))), (ba, .inl (dB, 8, .inl bf)), (oa, .inl (dB, 8, .inl (rc_oE uf (rc_R z (rc_key (fun j => rc_k2 kf j &&& 255)) (fun j => bf j &&& 255)))))] H := hP
      have hD : va_D A [(h0, .inr (0, [.ref ka, .ref ba, .ref oa])), (ka, .inl (dB, 32, .inl kf)), (q_1, .inl (dB, 16, .inl (rc_cD (fun _ => 0) kf 16))), (q_2, .inr (2, [.int 12, .ref sa, .int z])), (sa, .inl (dN, 26, .inl (rc_key (fun j => rc_k2 kf j &&& 255)))), (ba, .inl (dB, 8, .inl bf)), (oa, .inl (dB, 8, .inl (rc_oE uf (rc_R z (rc_key (fun j => rc_k2 kf j &&& 255)) (fun j => bf j &&& 255)))))] := hD
      have hP : va_P D vwCl [(h0, .inr (0, [.ref ka, .ref ba, .ref oa])), (ka, .inl (dB, 32, .inl kf)), (q_1, .inl (dB, 16, .inl (rc_cD (fun _ => 0) kf 16))), (q_2, .inr (2, [.int 12, .ref sa, .int z])), (sa, .inl (dN, 26, .inl (rc_key (fun j => rc_k2 kf j &&& 255)))), (ba, .inl (dB, 8, .inl bf)), (oa, .inl (dB, 8, .inl (rc_oD z kf bf uf)))] H := hP
      have hD : va_D A [(h0, .inr (0, [.ref ka, .ref ba, .ref oa])), (ka, .inl (dB, 32, .inl kf)), (q_1, .inl (dB, 16, .inl (rc_cD (fun _ => 0) kf 16))), (q_2, .inr (2, [.int 12, .ref sa, .int z])), (sa, .inl (dN, 26, .inl (rc_key (fun j => rc_k2 kf j &&& 255)))), (ba, .inl (dB, 8, .inl bf)), (oa, .inl (dB, 8, .inl (rc_oD z kf bf uf)))] := hD
      refine lv_pop hx hb dX0_run_82 rfl ?_
      have hP9 : va_P D vwCl [(h0, .inr (0, [.ref ka, .ref ba, .ref oa])), (ka, .inl (dB, 32, .inl kf)), (ba, .inl (dB, 8, .inl bf)), (oa, .inl (dB, 8, .inl (rc_oD z kf bf uf)))] H := hP.sub [0, 1, 5, 6] rfl
      have hD9 : va_D A [(h0, .inr (0, [.ref ka, .ref ba, .ref oa])), (ka, .inl (dB, 32, .inl kf)), (ba, .inl (dB, 8, .inl bf)), (oa, .inl (dB, 8, .inl (rc_oD z kf bf uf)))] := hD.sub [0, 1, 5, 6] (by decide) rfl
      subst hQ
      exact W.vret hx hb hr (fun t ht hW => ⟨⟨(), rfl, trivial, by rw [ht]; exact hP9, hD9⟩, hS.F ht⟩) hS.2.2 dX0_run_83 hlocks
    | succ n ih =>
      intro i H locs ls hi hP hD hS hl
      refine lv_iload hx hb dX0_run_15 (lv_at hl 5 rfl) ?_
      refine lv_iload_n hx hb dX0_run_17 rfl (lv_at hl 3 rfl) ?_
      refine lv_icmp_ge (tgt := 39) hx hb dX0_run_18 (by decide) (fun c => absurd ((v_le (a := 16) (b := i) rfl rfl (by omega) (by omega)).mp c) (by omega)) (fun _ => ?_)
      refine lv_aload hx hb dX0_run_21 (lv_at hl 4 rfl) ?_
      refine lv_iload hx hb dX0_run_23 (lv_at hl 5 rfl) ?_
      refine lv_aload_n hx hb dX0_run_25 rfl (lv_at hl 0 rfl) ?_
      refine va_get (D := D) (ci := 0) (v := .ref ka) (C := RX0) (T := TX0) (N := 3) hx hb hts in_X0 hown hK hP 0 rfl rfl 0 (by decide) (hts _ q29) (fun _ h9 => h9) rfl dX0_run_26 ?_
      refine lv_iload hx hb dX0_run_29 (lv_at hl 5 rfl) ?_
      refine v_bald hx hb hK hP 1 0 rfl rfl (k := i) rfl (by omega) (Nat.le_of_ble_eq_true rfl) dX0_run_31 ?_
      refine v_bast hx hb hK hP hD hS 4 0 rfl rfl (k := i) rfl (by omega) (Nat.le_of_ble_eq_true rfl) (vp_nar_byte (kf i)) dX0_run_32 (fun H locs hP hD hS => ?_)
      have hP : va_P D vwCl [(h0, .inr (0, [.ref ka, .ref ba, .ref oa])), (ka, .inl (dB, 32, .inl kf)), (ba, .inl (dB, 8, .inl bf)), (oa, .inl (dB, 8, .inl uf)), (q_1, .inl (dB, 16, .inl (upd (rc_cD (fun _ => 0) kf i) i ((kf i).toInt8.toInt32))))] H := hP
      have hD : va_D A [(h0, .inr (0, [.ref ka, .ref ba, .ref oa])), (ka, .inl (dB, 32, .inl kf)), (ba, .inl (dB, 8, .inl bf)), (oa, .inl (dB, 8, .inl uf)), (q_1, .inl (dB, 16, .inl (upd (rc_cD (fun _ => 0) kf i) i ((kf i).toInt8.toInt32))))] := hD
      refine lv_iinc (v := (nI (i + 1))) (lv' := [(5, .int (nI (i + 1))), (0, .ref h0), (1, .int z), (2, .int kd), (3, .int 16), (4, .ref q_1)]) hx hb dX0_run_33 hl (k := 5) rfl (v_add rfl (show (Int32.ofInt 1) = nI 1 from rfl)) (by decide) rfl (fun ls hl => ?_)
      refine lv_goto (tgt := 15) hx hb dX0_run_36 (by decide) ?_
      exact ih (i + 1) H locs ls (by omega) (hP.sub [0, 1, 2, 3, 4] rfl) (hD.sub [0, 1, 2, 3, 4] (by decide) rfl) hS (lv_sub hl [1, 2, 3, 4, 5, 0] rfl)
  exact loop1 16 0 _ _ _ rfl (hP.sub [0, 1, 2, 3, 4] rfl) (hD.sub [0, 1, 2, 3, 4] (by decide) rfl) hS (lv_sub hl [3, 4, 5, 2, 1, 0] rfl)
set_option maxHeartbeats 4000000 in
set_option maxRecDepth 100000 in
theorem metX0_lock (l : Launch) (D : va_G) (dB dN : ClassId) (sz : Nat) (h0 ka ba oa : Nat) (kf bf uf : Nat → Int32) (kd : Int32) : Met l yX0_lock (ws_ yX0_lock cX0_lock 2 none) rmLK (va_Pc [.ref h0, .int kd] (vPre D dB dN vX sz [(h0, .inr (0, [.ref ka, .ref ba, .ref oa])), (ka, .inl (dB, 32, .inl kf)), (ba, .inl (dB, 8, .inl bf)), (oa, .inl (dB, 8, .inl uf))])) (qV D (fun _ : Unit => [(h0, .inr (0, [.ref ka, .ref ba, .ref oa])), (ka, .inl (dB, 32, .inl kf)), (ba, .inl (dB, 8, .inl bf)), (oa, .inl (dB, 8, .inl (rc_oD 1 kf bf uf)))]) (va_A [(h0, .inr (0, [.ref ka, .ref ba, .ref oa])), (ka, .inl (dB, 32, .inl kf)), (ba, .inl (dB, 8, .inl bf)), (oa, .inl (dB, 8, .inl uf))] sz)) 6 66 (va_A [(h0, .inr (0, [.ref ka, .ref ba, .ref oa])), (ka, .inl (dB, 32, .inl kf)), (ba, .inl (dB, 8, .inl bf)), (oa, .inl (dB, 8, .inl uf))] sz) := by
  refine v_met (Qc := qV D (fun _ : Unit => [(h0, .inr (0, [.ref ka, .ref ba, .ref oa])), (ka, .inl (dB, 32, .inl kf)), (ba, .inl (dB, 8, .inl bf)), (oa, .inl (dB, 8, .inl (rc_oD 1 kf bf uf)))])) (by decide) (Nat.le_of_ble_eq_true rfl) ?_
  rintro p e s m args below meth c A ls Q ⟨hx, hb, hr, hlocks, hml, hown, hts, hin⟩ hP hK hD hX hA hS hl hQ
  have hl : lv_has ls 2 [(0, .ref h0), (1, .int kd)] := hl
  have hown : s.vm.findClass RX0 = some m.cls := hown
  refine lv_aload_n hx hb dX0_lock_0 rfl (lv_at hl 0 rfl) ?_
  refine lv_iconst (v := 1) hx hb dX0_lock_1 (by decide) ?_
  refine lv_iload_n hx hb dX0_lock_2 rfl (lv_at hl 1 rfl) ?_
  refine v_callv (wr := []) (va_runV (As := [.int 1, .int kd]) (rest := []) ⟨hx, hb, hml, hown, hts⟩ (metX0_run l D dB dN s.heap.size h0 ka ba oa kf bf uf 1 kd (Or.inr rfl)) (cwV 2 hts (lw_V q55 q57 qs0 q12 q58) rfl rfl rfl (by decide +kernel) ⟨(Nat.le_of_ble_eq_true rfl), (Nat.le_of_ble_eq_true rfl)⟩) (v_preV (q0 := 0) (ci := 0) (q := (RX0, TX0, 3)) (fs := [.ref ka, .ref ba, .ref oa]) vX_mv hX hP rfl rfl (hP.sub (ws' := [(h0, .inr (0, [.ref ka, .ref ba, .ref oa])), (ka, .inl (dB, 32, .inl kf)), (ba, .inl (dB, 8, .inl bf)), (oa, .inl (dB, 8, .inl uf))]) [0, 1, 2, 3] rfl) (hD.sub (ws' := [(h0, .inr (0, [.ref ka, .ref ba, .ref oa])), (ka, .inl (dB, 32, .inl kf)), (ba, .inl (dB, 8, .inl bf)), (oa, .inl (dB, 8, .inl uf))]) [0, 1, 2, 3] (by decide) rfl) hK) rfl rfl hl.1 rfl (lv_room (Nat.le_of_ble_eq_true rfl)) dX0_lock_3 ⟨(Nat.le_of_ble_eq_true rfl), (Nat.le_of_ble_eq_true rfl)⟩) hP hD hS hA [0, 1, 2, 3] [] rfl rfl (by decide) (by decide) (fun _ H locs _ hP hD hS => ?_)
  have hP : va_P D vwCl [(h0, .inr (0, [.ref ka, .ref ba, .ref oa])), (ka, .inl (dB, 32, .inl kf)), (ba, .inl (dB, 8, .inl bf)), (oa, .inl (dB, 8, .inl (rc_oD 1 kf bf uf)))] H := hP
  have hD : va_D A [(h0, .inr (0, [.ref ka, .ref ba, .ref oa])), (ka, .inl (dB, 32, .inl kf)), (ba, .inl (dB, 8, .inl bf)), (oa, .inl (dB, 8, .inl (rc_oD 1 kf bf uf)))] := hD
  refine W.widen (k := 6) (n := 66) (Nat.le_of_ble_eq_true rfl) (Nat.le_of_ble_eq_true rfl) ?_
  have hP9 : va_P D vwCl [(h0, .inr (0, [.ref ka, .ref ba, .ref oa])), (ka, .inl (dB, 32, .inl kf)), (ba, .inl (dB, 8, .inl bf)), (oa, .inl (dB, 8, .inl (rc_oD 1 kf bf uf)))] H := hP.sub [0, 1, 2, 3] rfl
  have hD9 : va_D A [(h0, .inr (0, [.ref ka, .ref ba, .ref oa])), (ka, .inl (dB, 32, .inl kf)), (ba, .inl (dB, 8, .inl bf)), (oa, .inl (dB, 8, .inl (rc_oD 1 kf bf uf)))] := hD.sub [0, 1, 2, 3] (by decide) rfl
  subst hQ
  exact W.vret hx hb hr (fun t ht hW => ⟨⟨(), rfl, trivial, by rw [ht]; exact hP9, hD9⟩, hS.F ht⟩) hS.2.2 dX0_lock_6 hlocks
set_option maxHeartbeats 4000000 in
set_option maxRecDepth 100000 in
theorem metX0_open (l : Launch) (D : va_G) (dB dN : ClassId) (sz : Nat) (h0 ka ba oa : Nat) (kf bf uf : Nat → Int32) (kd : Int32) : Met l yX0_open (ws_ yX0_open cX0_open 2 none) rmLK (va_Pc [.ref h0, .int kd] (vPre D dB dN vX sz [(h0, .inr (0, [.ref ka, .ref ba, .ref oa])), (ka, .inl (dB, 32, .inl kf)), (ba, .inl (dB, 8, .inl bf)), (oa, .inl (dB, 8, .inl uf))])) (qV D (fun _ : Unit => [(h0, .inr (0, [.ref ka, .ref ba, .ref oa])), (ka, .inl (dB, 32, .inl kf)), (ba, .inl (dB, 8, .inl bf)), (oa, .inl (dB, 8, .inl (rc_oD 0 kf bf uf)))]) (va_A [(h0, .inr (0, [.ref ka, .ref ba, .ref oa])), (ka, .inl (dB, 32, .inl kf)), (ba, .inl (dB, 8, .inl bf)), (oa, .inl (dB, 8, .inl uf))] sz)) 6 66 (va_A [(h0, .inr (0, [.ref ka, .ref ba, .ref oa])), (ka, .inl (dB, 32, .inl kf)), (ba, .inl (dB, 8, .inl bf)), (oa, .inl (dB, 8, .inl uf))] sz) := by
  refine v_met (Qc := qV D (fun _ : Unit => [(h0, .inr (0, [.ref ka, .ref ba, .ref oa])), (ka, .inl (dB, 32, .inl kf)), (ba, .inl (dB, 8, .inl bf)), (oa, .inl (dB, 8, .inl (rc_oD 0 kf bf uf)))])) (by decide) (Nat.le_of_ble_eq_true rfl) ?_
  rintro p e s m args below meth c A ls Q ⟨hx, hb, hr, hlocks, hml, hown, hts, hin⟩ hP hK hD hX hA hS hl hQ
  have hl : lv_has ls 2 [(0, .ref h0), (1, .int kd)] := hl
  have hown : s.vm.findClass RX0 = some m.cls := hown
  refine lv_aload_n hx hb dX0_open_0 rfl (lv_at hl 0 rfl) ?_
  refine lv_iconst (v := 0) hx hb dX0_open_1 (by decide) ?_
  refine lv_iload_n hx hb dX0_open_2 rfl (lv_at hl 1 rfl) ?_
  refine v_callv (wr := []) (va_runV (As := [.int 0, .int kd]) (rest := []) ⟨hx, hb, hml, hown, hts⟩ (metX0_run l D dB dN s.heap.size h0 ka ba oa kf bf uf 0 kd (Or.inl rfl)) (cwV 2 hts (lw_V q55 q57 qs0 q12 q58) rfl rfl rfl (by decide +kernel) ⟨(Nat.le_of_ble_eq_true rfl), (Nat.le_of_ble_eq_true rfl)⟩) (v_preV (q0 := 0) (ci := 0) (q := (RX0, TX0, 3)) (fs := [.ref ka, .ref ba, .ref oa]) vX_mv hX hP rfl rfl (hP.sub (ws' := [(h0, .inr (0, [.ref ka, .ref ba, .ref oa])), (ka, .inl (dB, 32, .inl kf)), (ba, .inl (dB, 8, .inl bf)), (oa, .inl (dB, 8, .inl uf))]) [0, 1, 2, 3] rfl) (hD.sub (ws' := [(h0, .inr (0, [.ref ka, .ref ba, .ref oa])), (ka, .inl (dB, 32, .inl kf)), (ba, .inl (dB, 8, .inl bf)), (oa, .inl (dB, 8, .inl uf))]) [0, 1, 2, 3] (by decide) rfl) hK) rfl rfl hl.1 rfl (lv_room (Nat.le_of_ble_eq_true rfl)) dX0_open_3 ⟨(Nat.le_of_ble_eq_true rfl), (Nat.le_of_ble_eq_true rfl)⟩) hP hD hS hA [0, 1, 2, 3] [] rfl rfl (by decide) (by decide) (fun _ H locs _ hP hD hS => ?_)
  have hP : va_P D vwCl [(h0, .inr (0, [.ref ka, .ref ba, .ref oa])), (ka, .inl (dB, 32, .inl kf)), (ba, .inl (dB, 8, .inl bf)), (oa, .inl (dB, 8, .inl (rc_oD 0 kf bf uf)))] H := hP
  have hD : va_D A [(h0, .inr (0, [.ref ka, .ref ba, .ref oa])), (ka, .inl (dB, 32, .inl kf)), (ba, .inl (dB, 8, .inl bf)), (oa, .inl (dB, 8, .inl (rc_oD 0 kf bf uf)))] := hD
  refine W.widen (k := 6) (n := 66) (Nat.le_of_ble_eq_true rfl) (Nat.le_of_ble_eq_true rfl) ?_
  have hP9 : va_P D vwCl [(h0, .inr (0, [.ref ka, .ref ba, .ref oa])), (ka, .inl (dB, 32, .inl kf)), (ba, .inl (dB, 8, .inl bf)), (oa, .inl (dB, 8, .inl (rc_oD 0 kf bf uf)))] H := hP.sub [0, 1, 2, 3] rfl
  have hD9 : va_D A [(h0, .inr (0, [.ref ka, .ref ba, .ref oa])), (ka, .inl (dB, 32, .inl kf)), (ba, .inl (dB, 8, .inl bf)), (oa, .inl (dB, 8, .inl (rc_oD 0 kf bf uf)))] := hD.sub [0, 1, 2, 3] (by decide) rfl
  subst hQ
  exact W.vret hx hb hr (fun t ht hW => ⟨⟨(), rfl, trivial, by rw [ht]; exact hP9, hD9⟩, hS.F ht⟩) hS.2.2 dX0_open_6 hlocks
end
section
set_option maxHeartbeats 4000000 in
set_option maxRecDepth 100000 in
theorem metX1_low (l : Launch) (D : va_G) (dB dN : ClassId) (sz : Nat) (a : Nat) (f : Nat → Int32) (i : Int32) (k n : Nat) (hi : i = nI k) (hk : k + 4 ≤ n) (hn : n < 2 ^ 31) : Met l yX1_low (ws_ yX1_low cX1_low 2 (some .int)) rmR (va_Pc [.ref a, .int i] (vPre D dB dN vT sz [(a, .inl (dN, n, .inl f))])) (vp_Si (fun r => r = rc_low f k)) 0 0 (fun _ => False) := by
  refine v_metR (by decide) (Nat.le_of_ble_eq_true rfl) ?_
  rintro p e s m args below meth c ls Q ⟨hx, hb, hr, hlocks, hml, hown, hts, hin⟩ hP hK hl hQ
  have hl : lv_has ls 2 [(0, .ref a), (1, .int i)] := hl
  have hown : s.vm.findClass RX1 = some m.cls := hown
  refine lv_aload_n hx hb dX1_low_0 rfl (lv_at hl 0 rfl) ?_
  refine lv_iload_n hx hb dX1_low_1 rfl (lv_at hl 1 rfl) ?_
  refine v_iald hx hb hK hP 0 1 rfl rfl (k := k) hi (by omega) hn dX1_low_2 ?_
  refine lv_aload_n hx hb dX1_low_3 rfl (lv_at hl 0 rfl) ?_
  refine lv_iload_n hx hb dX1_low_4 rfl (lv_at hl 1 rfl) ?_
  refine lv_iconst (v := 1) hx hb dX1_low_5 (by decide) ?_
  refine lv_iadd hx hb dX1_low_6 ?_
  refine v_iald hx hb hK hP 0 1 rfl rfl (k := (k + 1)) (v_add hi rfl) (by omega) hn dX1_low_7 ?_
  refine lv_bipush (v := 8) hx hb dX1_low_8 (by decide) ?_
  refine lv_ishl hx hb dX1_low_10 ?_
  refine lv_ior hx hb dX1_low_11 ?_
  refine lv_aload_n hx hb dX1_low_12 rfl (lv_at hl 0 rfl) ?_
  refine lv_iload_n hx hb dX1_low_13 rfl (lv_at hl 1 rfl) ?_
  refine lv_iconst (v := 2) hx hb dX1_low_14 (by decide) ?_
  refine lv_iadd hx hb dX1_low_15 ?_
  refine v_iald hx hb hK hP 0 1 rfl rfl (k := (k + 2)) (v_add hi rfl) (by omega) hn dX1_low_16 ?_
  refine lv_bipush (v := 16) hx hb dX1_low_17 (by decide) ?_
  refine lv_ishl hx hb dX1_low_19 ?_
  refine lv_ior hx hb dX1_low_20 ?_
  refine lv_aload_n hx hb dX1_low_21 rfl (lv_at hl 0 rfl) ?_
  refine lv_iload_n hx hb dX1_low_22 rfl (lv_at hl 1 rfl) ?_
  refine lv_iconst (v := 3) hx hb dX1_low_23 (by decide) ?_
  refine lv_iadd hx hb dX1_low_24 ?_
  refine v_iald hx hb hK hP 0 1 rfl rfl (k := (k + 3)) (v_add hi rfl) (by omega) hn dX1_low_25 ?_
  refine lv_bipush (v := 24) hx hb dX1_low_26 (by decide) ?_
  refine lv_ishl hx hb dX1_low_28 ?_
  refine lv_ior hx hb dX1_low_29 ?_
  subst hQ
  exact W.iret hx hb hr (fun t ht hW => ⟨_, rfl, rfl, ht⟩) (fun q h => by cases h) dX1_low_30 hlocks
set_option maxHeartbeats 4000000 in
set_option maxRecDepth 100000 in
theorem metX1_left (l : Launch) (D : va_G) (dB dN : ClassId) (sz : Nat) (x y : Int32) : Met l yX1_left (ws_ yX1_left cX1_left 3 (some .int)) rmR (va_Pc [.int x, .int y] (vPre D dB dN vT sz [])) (vp_Si (fun r => r = rc_rl x y)) 0 0 (fun _ => False) := by
  refine v_metR (by decide) (Nat.le_of_ble_eq_true rfl) ?_
  rintro p e s m args below meth c ls Q ⟨hx, hb, hr, hlocks, hml, hown, hts, hin⟩ hP hK hl hQ
  have hl : lv_has ls 3 [(0, .int x), (1, .int y)] := hl
  have hown : s.vm.findClass RX1 = some m.cls := hown
  refine lv_iload_n hx hb dX1_left_0 rfl (lv_at hl 1 rfl) ?_
  refine lv_bipush (v := 31) hx hb dX1_left_1 (by decide) ?_
  refine lv_iand hx hb dX1_left_3 ?_
  refine lv_istore_n (lv' := [(2, .int (y &&& 31)), (0, .int x), (1, .int y)]) hx hb dX1_left_4 rfl hl (by decide) rfl (fun ls hl => ?_)
  refine lv_iload_n hx hb dX1_left_5 rfl (lv_at hl 0 rfl) ?_
  refine lv_if_ne (tgt := 13) hx hb dX1_left_6 (by decide) (fun hz => ?_) (fun hz => ?_)
  · refine lv_iload_n hx hb dX1_left_13 rfl (lv_at hl 1 rfl) ?_
    refine lv_iload_n hx hb dX1_left_14 rfl (lv_at hl 0 rfl) ?_
    refine lv_ishl hx hb dX1_left_15 ?_
    refine lv_iload_n hx hb dX1_left_16 rfl (lv_at hl 1 rfl) ?_
    refine lv_bipush (v := 32) hx hb dX1_left_17 (by decide) ?_
    refine lv_iload_n hx hb dX1_left_19 rfl (lv_at hl 0 rfl) ?_
    refine lv_isub hx hb dX1_left_20 ?_
    refine lv_iushr hx hb dX1_left_21 rfl ?_
    refine lv_ior hx hb dX1_left_22 ?_
    subst hQ
    exact W.iret hx hb hr (fun t ht hW => ⟨_, rfl, rfl, ht⟩) (fun q h => by cases h) dX1_left_23 hlocks
  · refine lv_iload_n hx hb dX1_left_9 rfl (lv_at hl 1 rfl) ?_
    refine lv_goto (tgt := 23) hx hb dX1_left_10 (by decide) ?_
    subst hQ
    exact W.iret hx hb hr (fun t ht hW => ⟨_, rfl, (rc_rl0 x y hz).symm, ht⟩) (fun q h => by cases h) dX1_left_23 hlocks
abbrev rmSP : Room := { frames := 1, cells := 2, slots := 30, locals := 22 }
abbrev rmRM : Room := { frames := 2, cells := 2, slots := 30, locals := 47 }
abbrev rmLM : Room := { frames := 3, cells := 2, slots := 30, locals := 72 }
set_option maxHeartbeats 4000000 in
set_option maxRecDepth 100000 in
theorem metX1_spread (l : Launch) (D : va_G) (dB dN : ClassId) (sz : Nat) (h0 ka ba oa : Nat) (kf bf uf : Nat → Int32) : Met l yX1_spread (ws_ yX1_spread cX1_spread 6 (some (.array .int))) rmSP (va_Pc [.ref h0] (vPre D dB dN vT sz [(h0, .inr (1, [.ref ka, .ref ba, .ref oa])), (ka, .inl (dN, 32, .inl kf)), (ba, .inl (dN, 8, .inl bf)), (oa, .inl (dN, 8, .inl uf))])) (qR D (fun (_ : Unit) (sa : Nat) => [(h0, .inr (1, [.ref ka, .ref ba, .ref oa])), (ka, .inl (dN, 32, .inl kf)), (ba, .inl (dN, 8, .inl bf)), (oa, .inl (dN, 8, .inl uf)), (sa, .inl (dN, 26, .inl (rc_key kf)))]) (va_A [(h0, .inr (1, [.ref ka, .ref ba, .ref oa])), (ka, .inl (dN, 32, .inl kf)), (ba, .inl (dN, 8, .inl bf)), (oa, .inl (dN, 8, .inl uf))] sz)) 2 30 (va_A [(h0, .inr (1, [.ref ka, .ref ba, .ref oa])), (ka, .inl (dN, 32, .inl kf)), (ba, .inl (dN, 8, .inl bf)), (oa, .inl (dN, 8, .inl uf))] sz) := by
  refine v_met (Qc := qR D (fun (_ : Unit) (sa : Nat) => [(h0, .inr (1, [.ref ka, .ref ba, .ref oa])), (ka, .inl (dN, 32, .inl kf)), (ba, .inl (dN, 8, .inl bf)), (oa, .inl (dN, 8, .inl uf)), (sa, .inl (dN, 26, .inl (rc_key kf)))])) (by decide) (Nat.le_of_ble_eq_true rfl) ?_
  rintro p e s m args below meth c A ls Q ⟨hx, hb, hr, hlocks, hml, hown, hts, hin⟩ hP hK hD hX hA hS hl hQ
  have hl : lv_has ls 6 [(0, .ref h0)] := hl
  have hown : s.vm.findClass RX1 = some m.cls := hown
  refine lv_bipush (v := 26) hx hb dX1_spread_0 (by decide) ?_
  refine v_newa (atype := .int) (a0 := (26, .inl (fun _ => 0))) hx hb (hts _ q196) rfl 1 rfl (fun _ => rfl) hK hP hD hS hA (fun cA => v_cell0 26 .int rfl cA) rfl (Nat.le_of_ble_eq_true rfl) (Nat.le_of_ble_eq_true rfl) (Nat.le_of_ble_eq_true rfl) (Nat.le_of_ble_eq_true rfl) dX1_spread_2 (fun q_1 H hP hD hS => ?_)
  have hP : va_P D vwCl [(h0, .inr (1, [.ref ka, .ref ba, .ref oa])), (ka, .inl (dN, 32, .inl kf)), (ba, .inl (dN, 8, .inl bf)), (oa, .inl (dN, 8, .inl uf)), (q_1, .inl (dN, 26, .inl (fun _ => 0)))] H := hP
  have hD : va_D A [(h0, .inr (1, [.ref ka, .ref ba, .ref oa])), (ka, .inl (dN, 32, .inl kf)), (ba, .inl (dN, 8, .inl bf)), (oa, .inl (dN, 8, .inl uf)), (q_1, .inl (dN, 26, .inl (fun _ => 0)))] := hD
  refine W.widen (k := 1) (n := 26) (Nat.le_of_ble_eq_true rfl) (Nat.le_of_ble_eq_true rfl) ?_
  refine lv_astore_n (lv' := [(1, .ref q_1), (0, .ref h0)]) hx hb dX1_spread_4 rfl hl (by decide) rfl (fun ls hl => ?_)
  refine lv_aload_n hx hb dX1_spread_5 rfl (lv_at hl 0 rfl) ?_
  refine lv_iconst (v := 0) hx hb dX1_spread_6 (by decide) ?_
  refine lv_ldc (v := (-1209970333)) hx hb hown (hts _ q277) dX1_spread_7 ?_
  refine v_iast hx hb hK hP hD hS 4 1 rfl rfl (k := 0) rfl (by omega) (Nat.le_of_ble_eq_true rfl) dX1_spread_9 (fun H locs hP hD hS => ?_)
  have hP : va_P D vwCl [(h0, .inr (1, [.ref ka, .ref ba, .ref oa])), (ka, .inl (dN, 32, .inl kf)), (ba, .inl (dN, 8, .inl bf)), (oa, .inl (dN, 8, .inl uf)), (q_1, .inl (dN, 26, .inl (upd (fun _ => 0) 0 (-1209970333))))] H := hP
  have hD : va_D A [(h0, .inr (1, [.ref ka, .ref ba, .ref oa])), (ka, .inl (dN, 32, .inl kf)), (ba, .inl (dN, 8, .inl bf)), (oa, .inl (dN, 8, .inl uf)), (q_1, .inl (dN, 26, .inl (upd (fun _ => 0) 0 (-1209970333))))] := hD
  refine lv_iconst (v := 1) hx hb dX1_spread_10 (by decide) ?_
  refine lv_istore_n (lv' := [(2, .int 1), (1, .ref q_1), (0, .ref h0)]) hx hb dX1_spread_11 rfl hl (by decide) rfl (fun ls hl => ?_)
  have hP : va_P D vwCl [(h0, .inr (1, [.ref ka, .ref ba, .ref oa])), (ka, .inl (dN, 32, .inl kf)), (ba, .inl (dN, 8, .inl bf)), (oa, .inl (dN, 8, .inl uf)), (q_1, .inl (dN, 26, .inl (rc_S 0)))] H := hP
  have hD : va_D A [(h0, .inr (1, [.ref ka, .ref ba, .ref oa])), (ka, .inl (dN, 32, .inl kf)), (ba, .inl (dN, 8, .inl bf)), (oa, .inl (dN, 8, .inl uf)), (q_1, .inl (dN, 26, .inl (rc_S 0)))] := hD
  have loop1 : ∀ (n r : Nat) (H : Heap) (locs : List Loc) (ls : Array Slot), r + n = 25 → va_P D vwCl [(h0, .inr (1, [.ref ka, .ref ba, .ref oa])), (ka, .inl (dN, 32, .inl kf)), (ba, .inl (dN, 8, .inl bf)), (oa, .inl (dN, 8, .inl uf)), (q_1, .inl (dN, 26, .inl (rc_S r)))] H → va_D A [(h0, .inr (1, [.ref ka, .ref ba, .ref oa])), (ka, .inl (dN, 32, .inl kf)), (ba, .inl (dN, 8, .inl bf)), (oa, .inl (dN, 8, .inl uf)), (q_1, .inl (dN, 26, .inl (rc_S r)))] → va_S A s.heap H locs → lv_has ls 6 [(0, .ref h0), (1, .ref q_1), (2, .int (nI (r + 1)))] → W p l e rmSP s m args below meth c H locs 1 26 Q (F0 m 12 ls []) := by
    intro n
    induction n with
    | zero =>
      intro r H locs ls hi hP hD hS hl
      obtain rfl : r = 25 := by omega
      refine lv_iload_n hx hb dX1_spread_12 rfl (lv_at hl 2 rfl) ?_
      refine lv_aload_n hx hb dX1_spread_13 rfl (lv_at hl 1 rfl) ?_
      refine va_alen (v := 26) hx hb hK hP 4 1 rfl rfl rfl dX1_spread_14 ?_
      refine lv_icmp_ge (tgt := 35) hx hb dX1_spread_15 (by decide) (fun _ => ?_) (fun c => absurd ((v_le (a := 26) (b := (25 + 1)) rfl rfl (by omega) (by omega)).mpr (by omega)) c)
      refine lv_iconst (v := 4) hx hb dX1_spread_35 (by decide) ?_
      refine v_newa (atype := .int) (a0 := (4, .inl (fun _ => 0))) hx hb (hts _ q196) rfl 1 rfl (fun _ => rfl) hK hP hD hS hA (fun cA => v_cell0 4 .int rfl cA) rfl (Nat.le_of_ble_eq_true rfl) (Nat.le_of_ble_eq_true rfl) (Nat.le_of_ble_eq_true rfl) (Nat.le_of_ble_eq_true rfl) dX1_spread_36 (fun q_2 H hP hD hS => ?_)
      have hP : va_P D vwCl [(h0, .inr (1, [.ref ka, .ref ba, .ref oa])), (ka, .inl (dN, 32, .inl kf)), (ba, .inl (dN, 8, .inl bf)), (oa, .inl (dN, 8, .inl uf)), (q_1, .inl (dN, 26, .inl (rc_S 25))), (q_2, .inl (dN, 4, .inl (fun _ => 0)))] H := hP
      have hD : va_D A [(h0, .inr (1, [.ref ka, .ref ba, .ref oa])), (ka, .inl (dN, 32, .inl kf)), (ba, .inl (dN, 8, .inl bf)), (oa, .inl (dN, 8, .inl uf)), (q_1, .inl (dN, 26, .inl (rc_S 25))), (q_2, .inl (dN, 4, .inl (fun _ => 0)))] := hD
      refine W.widen (k := 2) (n := 30) (Nat.le_of_ble_eq_true rfl) (Nat.le_of_ble_eq_true rfl) ?_
      refine lv_dup hx hb dX1_spread_38 rfl ?_
      refine lv_iconst (v := 0) hx hb dX1_spread_39 (by decide) ?_
      refine lv_aload_n hx hb dX1_spread_40 rfl (lv_at hl 0 rfl) ?_
      refine va_get (D := D) (ci := 1) (v := .ref ka) (C := RX1) (T := TX1) (N := 3) hx hb hts in_X1 hown hK hP 0 rfl rfl 0 (by decide) (hts _ q244) (fun _ h9 => h9) rfl dX1_spread_41 ?_
      refine lv_iconst (v := 0) hx hb dX1_spread_44 (by decide) ?_
      refine vp_callSi (W.runS (As := [.ref ka, .int 0]) (rest := [.int 0, .ref q_2, .ref q_2]) ⟨hx, hb, hml, hown, hts⟩ (metX1_low l D dB dN H.size ka kf 0 0 32 rfl (by decide) (Nat.le_of_ble_eq_true rfl)) (va_cwS 2 hts (lw_S q279 q280 q13 q281) rfl rfl rfl (by decide +kernel) ⟨(Nat.le_of_ble_eq_true rfl), (Nat.le_of_ble_eq_true rfl)⟩) (v_preS vT_mv trivial (hP.sub (ws' := [(ka, .inl (dN, 32, .inl kf))]) [1] rfl) (hD.sub (ws' := [(ka, .inl (dN, 32, .inl kf))]) [1] (by decide) rfl) hK) rfl rfl hl.1 rfl (lv_room (Nat.le_of_ble_eq_true rfl)) dX1_spread_45 ⟨(Nat.le_of_ble_eq_true rfl), (Nat.le_of_ble_eq_true rfl)⟩) (fun l0 el0 => ?_)
      subst el0
      refine v_iast hx hb hK hP hD hS 5 1 rfl rfl (k := 0) rfl (by omega) (Nat.le_of_ble_eq_true rfl) dX1_spread_48 (fun H locs hP hD hS => ?_)
      have hP : va_P D vwCl [(h0, .inr (1, [.ref ka, .ref ba, .ref oa])), (ka, .inl (dN, 32, .inl kf)), (ba, .inl (dN, 8, .inl bf)), (oa, .inl (dN, 8, .inl uf)), (q_1, .inl (dN, 26, .inl (rc_S 25))), (q_2, .inl (dN, 4, .inl (upd (fun _ => 0) 0 (rc_low kf 0))))] H := hP
      have hD : va_D A [(h0, .inr (1, [.ref ka, .ref ba, .ref oa])), (ka, .inl (dN, 32, .inl kf)), (ba, .inl (dN, 8, .inl bf)), (oa, .inl (dN, 8, .inl uf)), (q_1, .inl (dN, 26, .inl (rc_S 25))), (q_2, .inl (dN, 4, .inl (upd (fun _ => 0) 0 (rc_low kf 0))))] := hD
      refine lv_dup hx hb dX1_spread_49 rfl ?_
      refine lv_iconst (v := 1) hx hb dX1_spread_50 (by decide) ?_
      refine lv_aload_n hx hb dX1_spread_51 rfl (lv_at hl 0 rfl) ?_
      refine va_get (D := D) (ci := 1) (v := .ref ka) (C := RX1) (T := TX1) (N := 3) hx hb hts in_X1 hown hK hP 0 rfl rfl 0 (by decide) (hts _ q244) (fun _ h9 => h9) rfl dX1_spread_52 ?_
      refine lv_iconst (v := 4) hx hb dX1_spread_55 (by decide) ?_
      refine vp_callSi (W.runS (As := [.ref ka, .int 4]) (rest := [.int 1, .ref q_2, .ref q_2]) ⟨hx, hb, hml, hown, hts⟩ (metX1_low l D dB dN H.size ka kf 4 4 32 rfl (by decide) (Nat.le_of_ble_eq_true rfl)) (va_cwS 2 hts (lw_S q279 q280 q13 q281) rfl rfl rfl (by decide +kernel) ⟨(Nat.le_of_ble_eq_true rfl), (Nat.le_of_ble_eq_true rfl)⟩) (v_preS vT_mv trivial (hP.sub (ws' := [(ka, .inl (dN, 32, .inl kf))]) [1] rfl) (hD.sub (ws' := [(ka, .inl (dN, 32, .inl kf))]) [1] (by decide) rfl) hK) rfl rfl hl.1 rfl (lv_room (Nat.le_of_ble_eq_true rfl)) dX1_spread_56 ⟨(Nat.le_of_ble_eq_true rfl), (Nat.le_of_ble_eq_true rfl)⟩) (fun l1 el1 => ?_)
      subst el1
      refine v_iast hx hb hK hP hD hS 5 1 rfl rfl (k := 1) rfl (by omega) (Nat.le_of_ble_eq_true rfl) dX1_spread_59 (fun H locs hP hD hS => ?_)
      have hP : va_P D vwCl [(h0, .inr (1, [.ref ka, .ref ba, .ref oa])), (ka, .inl (dN, 32, .inl kf)), (ba, .inl (dN, 8, .inl bf)), (oa, .inl (dN, 8, .inl uf)), (q_1, .inl (dN, 26, .inl (rc_S 25))), (q_2, .inl (dN, 4, .inl (upd (upd (fun _ => 0) 0 (rc_low kf 0)) 1 (rc_low kf 4))))] H := hP
      have hD : va_D A [(h0, .inr (1, [.ref ka, .ref ba, .ref oa])), (ka, .inl (dN, 32, .inl kf)), (ba, .inl (dN, 8, .inl bf)), (oa, .inl (dN, 8, .inl uf)), (q_1, .inl (dN, 26, .inl (rc_S 25))), (q_2, .inl (dN, 4, .inl (upd (upd (fun _ => 0) 0 (rc_low kf 0)) 1 (rc_low kf 4))))] := hD
      refine lv_dup hx hb dX1_spread_60 rfl ?_
      refine lv_iconst (v := 2) hx hb dX1_spread_61 (by decide) ?_
      refine lv_aload_n hx hb dX1_spread_62 rfl (lv_at hl 0 rfl) ?_
      refine va_get (D := D) (ci := 1) (v := .ref ka) (C := RX1) (T := TX1) (N := 3) hx hb hts in_X1 hown hK hP 0 rfl rfl 0 (by decide) (hts _ q244) (fun _ h9 => h9) rfl dX1_spread_63 ?_
      refine lv_bipush (v := 8) hx hb dX1_spread_66 (by decide) ?_
      refine vp_callSi (W.runS (As := [.ref ka, .int 8]) (rest := [.int 2, .ref q_2, .ref q_2]) ⟨hx, hb, hml, hown, hts⟩ (metX1_low l D dB dN H.size ka kf 8 8 32 rfl (by decide) (Nat.le_of_ble_eq_true rfl)) (va_cwS 2 hts (lw_S q279 q280 q13 q281) rfl rfl rfl (by decide +kernel) ⟨(Nat.le_of_ble_eq_true rfl), (Nat.le_of_ble_eq_true rfl)⟩) (v_preS vT_mv trivial (hP.sub (ws' := [(ka, .inl (dN, 32, .inl kf))]) [1] rfl) (hD.sub (ws' := [(ka, .inl (dN, 32, .inl kf))]) [1] (by decide) rfl) hK) rfl rfl hl.1 rfl (lv_room (Nat.le_of_ble_eq_true rfl)) dX1_spread_68 ⟨(Nat.le_of_ble_eq_true rfl), (Nat.le_of_ble_eq_true rfl)⟩) (fun l2 el2 => ?_)
      subst el2
      refine v_iast hx hb hK hP hD hS 5 1 rfl rfl (k := 2) rfl (by omega) (Nat.le_of_ble_eq_true rfl) dX1_spread_71 (fun H locs hP hD hS => ?_)
      have hP : va_P D vwCl [(h0, .inr (1, [.ref ka, .ref ba, .ref oa])), (ka, .inl (dN, 32, .inl kf)), (ba, .inl (dN, 8, .inl bf)), (oa, .inl (dN, 8, .inl uf)), (q_1, .inl (dN, 26, .inl (rc_S 25))), (q_2, .inl (dN, 4, .inl (upd (upd (upd (fun _ => 0) 0 (rc_low kf 0)) 1 (rc_low kf 4)) 2 (rc_low kf 8))))] H := hP
      have hD : va_D A [(h0, .inr (1, [.ref ka, .ref ba, .ref oa])), (ka, .inl (dN, 32, .inl kf)), (ba, .inl (dN, 8, .inl bf)), (oa, .inl (dN, 8, .inl uf)), (q_1, .inl (dN, 26, .inl (rc_S 25))), (q_2, .inl (dN, 4, .inl (upd (upd (upd (fun _ => 0) 0 (rc_low kf 0)) 1 (rc_low kf 4)) 2 (rc_low kf 8))))] := hD
      refine lv_dup hx hb dX1_spread_72 rfl ?_
      refine lv_iconst (v := 3) hx hb dX1_spread_73 (by decide) ?_
      refine lv_aload_n hx hb dX1_spread_74 rfl (lv_at hl 0 rfl) ?_
      refine va_get (D := D) (ci := 1) (v := .ref ka) (C := RX1) (T := TX1) (N := 3) hx hb hts in_X1 hown hK hP 0 rfl rfl 0 (by decide) (hts _ q244) (fun _ h9 => h9) rfl dX1_spread_75 ?_
      refine lv_bipush (v := 12) hx hb dX1_spread_78 (by decide) ?_
      refine vp_callSi (W.runS (As := [.ref ka, .int 12]) (rest := [.int 3, .ref q_2, .ref q_2]) ⟨hx, hb, hml, hown, hts⟩ (metX1_low l D dB dN H.size ka kf 12 12 32 rfl (by decide) (Nat.le_of_ble_eq_true rfl)) (va_cwS 2 hts (lw_S q279 q280 q13 q281) rfl rfl rfl (by decide +kernel) ⟨(Nat.le_of_ble_eq_true rfl), (Nat.le_of_ble_eq_true rfl)⟩) (v_preS vT_mv trivial (hP.sub (ws' := [(ka, .inl (dN, 32, .inl kf))]) [1] rfl) (hD.sub (ws' := [(ka, .inl (dN, 32, .inl kf))]) [1] (by decide) rfl) hK) rfl rfl hl.1 rfl (lv_room (Nat.le_of_ble_eq_true rfl)) dX1_spread_80 ⟨(Nat.le_of_ble_eq_true rfl), (Nat.le_of_ble_eq_true rfl)⟩) (fun l3 el3 => ?_)
      subst el3
      refine v_iast hx hb hK hP hD hS 5 1 rfl rfl (k := 3) rfl (by omega) (Nat.le_of_ble_eq_true rfl) dX1_spread_83 (fun H locs hP hD hS => ?_)
      have hP : va_P D vwCl [(h0, .inr (1, [.ref ka, .ref ba, .ref oa])), (ka, .inl (dN, 32, .inl kf)), (ba, .inl (dN, 8, .inl bf)), (oa, .inl (dN, 8, .inl uf)), (q_1, .inl (dN, 26, .inl (rc_S 25))), (q_2, .inl (dN, 4, .inl (upd (upd (upd (upd (fun _ => 0) 0 (rc_low kf 0)) 1 (rc_low kf 4)) 2 (rc_low kf 8)) 3 (rc_low kf 12))))] H := hP
      have hD : va_D A [(h0, .inr (1, [.ref ka, .ref ba, .ref oa])), (ka, .inl (dN, 32, .inl kf)), (ba, .inl (dN, 8, .inl bf)), (oa, .inl (dN, 8, .inl uf)), (q_1, .inl (dN, 26, .inl (rc_S 25))), (q_2, .inl (dN, 4, .inl (upd (upd (upd (upd (fun _ => 0) 0 (rc_low kf 0)) 1 (rc_low kf 4)) 2 (rc_low kf 8)) 3 (rc_low kf 12))))] := hD
      have hP : va_P D vwCl [(h0, .inr (1, [.ref ka, .ref ba, .ref oa])), (ka, .inl (dN, 32, .inl kf)), (ba, .inl (dN, 8, .inl bf)), (oa, .inl (dN, 8, .inl uf)), (q_1, .inl (dN, 26, .inl (rc_S 25))), (q_2, .inl (dN, 4, .inl (rc_L4 kf)))] H := hP
      have hD : va_D A [(h0, .inr (1, [.ref ka, .ref ba, .ref oa])), (ka, .inl (dN, 32, .inl kf)), (ba, .inl (dN, 8, .inl bf)), (oa, .inl (dN, 8, .inl uf)), (q_1, .inl (dN, 26, .inl (rc_S 25))), (q_2, .inl (dN, 4, .inl (rc_L4 kf)))] := hD
      refine lv_astore_n (lv' := [(2, .ref q_2), (0, .ref h0), (1, .ref q_1)]) hx hb dX1_spread_84 rfl hl (by decide) rfl (fun ls hl => ?_)
      refine lv_iconst (v := 0) hx hb dX1_spread_85 (by decide) ?_
      refine lv_istore_n (lv' := [(3, .int 0), (2, .ref q_2), (0, .ref h0), (1, .ref q_1)]) hx hb dX1_spread_86 rfl hl (by decide) rfl (fun ls hl => ?_)
      refine lv_iconst (v := 0) hx hb dX1_spread_87 (by decide) ?_
      refine lv_istore (lv' := [(4, .int 0), (3, .int 0), (2, .ref q_2), (0, .ref h0), (1, .ref q_1)]) hx hb dX1_spread_88 hl (by decide) rfl (fun ls hl => ?_)
      refine lv_iconst (v := 0) hx hb dX1_spread_90 (by decide) ?_
      refine lv_istore (lv' := [(5, .int 0), (4, .int 0), (3, .int 0), (2, .ref q_2), (0, .ref h0), (1, .ref q_1)]) hx hb dX1_spread_91 hl (by decide) rfl (fun ls hl => ?_)
      have loop3 : ∀ (n k : Nat) (H : Heap) (locs : List Loc) (ls : Array Slot), k + n = 78 → va_P D vwCl [(h0, .inr (1, [.ref ka, .ref ba, .ref oa])), (ka, .inl (dN, 32, .inl kf)), (ba, .inl (dN, 8, .inl bf)), (oa, .inl (dN, 8, .inl uf)), (q_1, .inl (dN, 26, .inl ((rc_mix (rc_S 25) (rc_L4 kf) k).2.2.1))), (q_2, .inl (dN, 4, .inl ((rc_mix (rc_S 25) (rc_L4 kf) k).2.2.2)))] H → va_D A [(h0, .inr (1, [.ref ka, .ref ba, .ref oa])), (ka, .inl (dN, 32, .inl kf)), (ba, .inl (dN, 8, .inl bf)), (oa, .inl (dN, 8, .inl uf)), (q_1, .inl (dN, 26, .inl ((rc_mix (rc_S 25) (rc_L4 kf) k).2.2.1))), (q_2, .inl (dN, 4, .inl ((rc_mix (rc_S 25) (rc_L4 kf) k).2.2.2)))] → va_S A s.heap H locs → lv_has ls 6 [(0, .ref h0), (1, .ref q_1), (2, .ref q_2), (3, .int ((rc_mix (rc_S 25) (rc_L4 kf) k).1)), (4, .int ((rc_mix (rc_S 25) (rc_L4 kf) k).2.1)), (5, .int (nI k))] → W p l e rmSP s m args below meth c H locs 2 30 Q (F0 m 93 ls []) := by
        intro n
        induction n with
        | zero =>
          intro k H locs ls hi hP hD hS hl
          obtain rfl : k = 78 := by omega
          refine lv_iload hx hb dX1_spread_93 (lv_at hl 5 rfl) ?_
          refine lv_iconst (v := 3) hx hb dX1_spread_95 (by decide) ?_
          refine lv_aload_n hx hb dX1_spread_96 rfl (lv_at hl 1 rfl) ?_
          refine va_alen (v := 26) hx hb hK hP 4 1 rfl rfl rfl dX1_spread_97 ?_
          refine lv_imul hx hb dX1_spread_98 ?_
          refine lv_icmp_ge (tgt := 161) hx hb dX1_spread_99 (by decide) (fun _ => ?_) (fun c => absurd ((v_le (a := (3 * 26)) (b := 78) (v_mul rfl rfl) rfl (by omega) (by omega)).mpr (by omega)) c)
          refine lv_aload_n hx hb dX1_spread_161 rfl (lv_at hl 1 rfl) ?_
          have eK : (rc_mix (rc_S 25) (rc_L4 kf) 78).2.2.1 = rc_key kf := rfl
          rw [eK] at hP hD
          have hP9 : va_P D vwCl [(h0, .inr (1, [.ref ka, .ref ba, .ref oa])), (ka, .inl (dN, 32, .inl kf)), (ba, .inl (dN, 8, .inl bf)), (oa, .inl (dN, 8, .inl uf)), (q_1, .inl (dN, 26, .inl (rc_key kf)))] H := hP.sub [0, 1, 2, 3, 4] rfl
          have hD9 : va_D A [(h0, .inr (1, [.ref ka, .ref ba, .ref oa])), (ka, .inl (dN, 32, .inl kf)), (ba, .inl (dN, 8, .inl bf)), (oa, .inl (dN, 8, .inl uf)), (q_1, .inl (dN, 26, .inl (rc_key kf)))] := hD.sub [0, 1, 2, 3, 4] (by decide) rfl
          subst hQ
          exact W.aret hx hb hr (Or.inr ⟨_, rfl⟩) (Or.inr ⟨q_1, rfl⟩) (fun t ht hW => ⟨⟨(), q_1, rfl, trivial, by rw [ht]; exact hP9, hD9⟩, hS.F ht⟩) hS.2.2 dX1_spread_162 hlocks
        | succ n ih =>
          intro k H locs ls hi hP hD hS hl
          refine lv_iload hx hb dX1_spread_93 (lv_at hl 5 rfl) ?_
          refine lv_iconst (v := 3) hx hb dX1_spread_95 (by decide) ?_
          refine lv_aload_n hx hb dX1_spread_96 rfl (lv_at hl 1 rfl) ?_
          refine va_alen (v := 26) hx hb hK hP 4 1 rfl rfl rfl dX1_spread_97 ?_
          refine lv_imul hx hb dX1_spread_98 ?_
          refine lv_icmp_ge (tgt := 161) hx hb dX1_spread_99 (by decide) (fun c => absurd ((v_le (a := (3 * 26)) (b := k) (v_mul rfl rfl) rfl (by omega) (by omega)).mp c) (by omega)) (fun _ => ?_)
          refine lv_aload_n hx hb dX1_spread_102 rfl (lv_at hl 1 rfl) ?_
          refine lv_iload hx hb dX1_spread_103 (lv_at hl 5 rfl) ?_
          refine lv_aload_n hx hb dX1_spread_105 rfl (lv_at hl 1 rfl) ?_
          refine va_alen (v := 26) hx hb hK hP 4 1 rfl rfl rfl dX1_spread_106 ?_
          refine lv_irem hx hb dX1_spread_107 (by decide) ?_
          refine v_top (y := nI (k % 26)) (v_rem rfl rfl (by omega) (by decide) (Nat.le_of_ble_eq_true rfl)) ?_
          refine v_iald hx hb hK hP 4 1 rfl rfl (k := (k % 26)) rfl (by omega) (Nat.le_of_ble_eq_true rfl) dX1_spread_108 ?_
          refine lv_iload_n hx hb dX1_spread_109 rfl (lv_at hl 3 rfl) ?_
          refine lv_iadd hx hb dX1_spread_110 ?_
          refine lv_iload hx hb dX1_spread_111 (lv_at hl 4 rfl) ?_
          refine lv_iadd hx hb dX1_spread_113 ?_
          refine lv_iconst (v := 3) hx hb dX1_spread_114 (by decide) ?_
          refine vp_callSi (W.runS (As := [.int (((((rc_mix (rc_S 25) (rc_L4 kf) k).2.2.1) (k % 26)) + (rc_mix (rc_S 25) (rc_L4 kf) k).1) + (rc_mix (rc_S 25) (rc_L4 kf) k).2.1), .int 3]) (rest := []) ⟨hx, hb, hml, hown, hts⟩ (metX1_left l D dB dN H.size (((((rc_mix (rc_S 25) (rc_L4 kf) k).2.2.1) (k % 26)) + (rc_mix (rc_S 25) (rc_L4 kf) k).1) + (rc_mix (rc_S 25) (rc_L4 kf) k).2.1) 3) (va_cwS 2 hts (lw_S q282 q283 q13 q284) rfl rfl rfl (by decide +kernel) ⟨(Nat.le_of_ble_eq_true rfl), (Nat.le_of_ble_eq_true rfl)⟩) (v_preS vT_mv trivial (hP.sub (ws' := []) [] rfl) (hD.sub (ws' := []) [] (by decide) rfl) hK) rfl rfl hl.1 rfl (lv_room (Nat.le_of_ble_eq_true rfl)) dX1_spread_115 ⟨(Nat.le_of_ble_eq_true rfl), (Nat.le_of_ble_eq_true rfl)⟩) (fun a1 ea1 => ?_)
          have ea1 : a1 = rc_stepA k (rc_mix (rc_S 25) (rc_L4 kf) k) := ea1
          subst ea1
          refine lv_istore_n (lv' := [(3, .int (rc_stepA k (rc_mix (rc_S 25) (rc_L4 kf) k))), (0, .ref h0), (1, .ref q_1), (2, .ref q_2), (4, .int ((rc_mix (rc_S 25) (rc_L4 kf) k).2.1)), (5, .int (nI k))]) hx hb dX1_spread_118 rfl hl (by decide) rfl (fun ls hl => ?_)
          refine lv_aload_n hx hb dX1_spread_119 rfl (lv_at hl 2 rfl) ?_
          refine lv_iload hx hb dX1_spread_120 (lv_at hl 5 rfl) ?_
          refine lv_aload_n hx hb dX1_spread_122 rfl (lv_at hl 2 rfl) ?_
          refine va_alen (v := 26) hx hb hK hP 4 1 rfl rfl rfl dX1_spread_123 ?_
          refine lv_irem hx hb dX1_spread_124 (by decide) ?_
          refine v_top (y := nI (k % 26)) (v_rem rfl rfl (by omega) (by decide) (Nat.le_of_ble_eq_true rfl)) ?_
          refine lv_iload_n hx hb dX1_spread_125 rfl (lv_at hl 0 rfl) ?_
          refine v_iast hx hb hK hP hD hS 4 1 rfl rfl (k := (k % 26)) rfl (by omega) (Nat.le_of_ble_eq_true rfl) dX1_spread_126 (fun H locs hP hD hS => ?_)
          have hP : va_P D vwCl [(h0, .inr (1, [.ref ka, .ref ba, .ref oa])), (ka, .inl (dN, 32, .inl kf)), (ba, .inl (dN, 8, .inl bf)), (oa, .inl (dN, 8, .inl uf)), (q_1, .inl (dN, 26, .inl (upd ((rc_mix (rc_S 25) (rc_L4 kf) k).2.2.1) (k % 26) (rc_stepA k (rc_mix (rc_S 25) (rc_L4 kf) k))))), (q_2, .inl (dN, 4, .inl ((rc_mix (rc_S 25) (rc_L4 kf) k).2.2.2)))] H := hP
          have hD : va_D A [(h0, .inr (1, [.ref ka, .ref ba, .ref oa])), (ka, .inl (dN, 32, .inl kf)), (ba, .inl (dN, 8, .inl bf)), (oa, .inl (dN, 8, .inl uf)), (q_1, .inl (dN, 26, .inl (upd ((rc_mix (rc_S 25) (rc_L4 kf) k).2.2.1) (k % 26) (rc_stepA k (rc_mix (rc_S 25) (rc_L4 kf) k))))), (q_2, .inl (dN, 4, .inl ((rc_mix (rc_S 25) (rc_L4 kf) k).2.2.2)))] := hD
          refine lv_aload_n hx hb dX1_spread_127 rfl (lv_at hl 3 rfl) ?_
          refine lv_iload hx hb dX1_spread_128 (lv_at hl 5 rfl) ?_
          refine lv_iconst (v := 4) hx hb dX1_spread_130 (by decide) ?_
          refine lv_irem hx hb dX1_spread_131 (by decide) ?_
          refine v_top (y := nI (k % 4)) (v_rem rfl rfl (by omega) (by decide) (Nat.le_of_ble_eq_true rfl)) ?_
          refine v_iald hx hb hK hP 5 1 rfl rfl (k := (k % 4)) rfl (by omega) (Nat.le_of_ble_eq_true rfl) dX1_spread_132 ?_
          refine lv_iload_n hx hb dX1_spread_133 rfl (lv_at hl 0 rfl) ?_
          refine lv_iadd hx hb dX1_spread_134 ?_
          refine lv_iload hx hb dX1_spread_135 (lv_at hl 4 rfl) ?_
          refine lv_iadd hx hb dX1_spread_137 ?_
          refine lv_iload_n hx hb dX1_spread_138 rfl (lv_at hl 0 rfl) ?_
          refine lv_iload hx hb dX1_spread_139 (lv_at hl 4 rfl) ?_
          refine lv_iadd hx hb dX1_spread_141 ?_
          refine vp_callSi (W.runS (As := [.int (((((rc_mix (rc_S 25) (rc_L4 kf) k).2.2.2) (k % 4)) + (rc_stepA k (rc_mix (rc_S 25) (rc_L4 kf) k))) + (rc_mix (rc_S 25) (rc_L4 kf) k).2.1), .int ((rc_stepA k (rc_mix (rc_S 25) (rc_L4 kf) k)) + (rc_mix (rc_S 25) (rc_L4 kf) k).2.1)]) (rest := []) ⟨hx, hb, hml, hown, hts⟩ (metX1_left l D dB dN H.size (((((rc_mix (rc_S 25) (rc_L4 kf) k).2.2.2) (k % 4)) + (rc_stepA k (rc_mix (rc_S 25) (rc_L4 kf) k))) + (rc_mix (rc_S 25) (rc_L4 kf) k).2.1) ((rc_stepA k (rc_mix (rc_S 25) (rc_L4 kf) k)) + (rc_mix (rc_S 25) (rc_L4 kf) k).2.1)) (va_cwS 2 hts (lw_S q282 q283 q13 q284) rfl rfl rfl (by decide +kernel) ⟨(Nat.le_of_ble_eq_true rfl), (Nat.le_of_ble_eq_true rfl)⟩) (v_preS vT_mv trivial (hP.sub (ws' := []) [] rfl) (hD.sub (ws' := []) [] (by decide) rfl) hK) rfl rfl hl.1 rfl (lv_room (Nat.le_of_ble_eq_true rfl)) dX1_spread_142 ⟨(Nat.le_of_ble_eq_true rfl), (Nat.le_of_ble_eq_true rfl)⟩) (fun b1 eb1 => ?_)
          have eb1 : b1 = rc_stepB k (rc_mix (rc_S 25) (rc_L4 kf) k) := eb1
          subst eb1
          refine lv_istore (lv' := [(4, .int (rc_stepB k (rc_mix (rc_S 25) (rc_L4 kf) k))), (3, .int (rc_stepA k (rc_mix (rc_S 25) (rc_L4 kf) k))), (0, .ref h0), (1, .ref q_1), (2, .ref q_2), (5, .int (nI k))]) hx hb dX1_spread_145 hl (by decide) rfl (fun ls hl => ?_)
          refine lv_aload_n hx hb dX1_spread_147 rfl (lv_at hl 4 rfl) ?_
          refine lv_iload hx hb dX1_spread_148 (lv_at hl 5 rfl) ?_
          refine lv_iconst (v := 4) hx hb dX1_spread_150 (by decide) ?_
          refine lv_irem hx hb dX1_spread_151 (by decide) ?_
          refine v_top (y := nI (k % 4)) (v_rem rfl rfl (by omega) (by decide) (Nat.le_of_ble_eq_true rfl)) ?_
          refine lv_iload hx hb dX1_spread_152 (lv_at hl 0 rfl) ?_
          refine v_iast hx hb hK hP hD hS 5 1 rfl rfl (k := (k % 4)) rfl (by omega) (Nat.le_of_ble_eq_true rfl) dX1_spread_154 (fun H locs hP hD hS => ?_)
          have hP : va_P D vwCl [(h0, .inr (1, [.ref ka, .ref ba, .ref oa])), (ka, .inl (dN, 32, .inl kf)), (ba, .inl (dN, 8, .inl bf)), (oa, .inl (dN, 8, .inl uf)), (q_1, .inl (dN, 26, .inl (upd ((rc_mix (rc_S 25) (rc_L4 kf) k).2.2.1) (k % 26) (rc_stepA k (rc_mix (rc_S 25) (rc_L4 kf) k))))), (q_2, .inl (dN, 4, .inl (upd ((rc_mix (rc_S 25) (rc_L4 kf) k).2.2.2) (k % 4) (rc_stepB k (rc_mix (rc_S 25) (rc_L4 kf) k)))))] H := hP
          have hD : va_D A [(h0, .inr (1, [.ref ka, .ref ba, .ref oa])), (ka, .inl (dN, 32, .inl kf)), (ba, .inl (dN, 8, .inl bf)), (oa, .inl (dN, 8, .inl uf)), (q_1, .inl (dN, 26, .inl (upd ((rc_mix (rc_S 25) (rc_L4 kf) k).2.2.1) (k % 26) (rc_stepA k (rc_mix (rc_S 25) (rc_L4 kf) k))))), (q_2, .inl (dN, 4, .inl (upd ((rc_mix (rc_S 25) (rc_L4 kf) k).2.2.2) (k % 4) (rc_stepB k (rc_mix (rc_S 25) (rc_L4 kf) k)))))] := hD
          refine lv_iinc (v := (nI (k + 1))) (lv' := [(5, .int (nI (k + 1))), (4, .int (rc_stepB k (rc_mix (rc_S 25) (rc_L4 kf) k))), (3, .int (rc_stepA k (rc_mix (rc_S 25) (rc_L4 kf) k))), (0, .ref h0), (1, .ref q_1), (2, .ref q_2)]) hx hb dX1_spread_155 hl (k := 5) rfl (v_add rfl (show (Int32.ofInt 1) = nI 1 from rfl)) (by decide) rfl (fun ls hl => ?_)
          refine lv_goto (tgt := 93) hx hb dX1_spread_158 (by decide) ?_
          exact ih (k + 1) H locs ls (by omega) (hP.sub [0, 1, 2, 3, 4, 5] rfl) (hD.sub [0, 1, 2, 3, 4, 5] (by decide) rfl) hS (lv_sub hl [3, 4, 5, 2, 1, 0] rfl)
      exact loop3 78 0 _ _ _ rfl (hP.sub [0, 1, 2, 3, 4, 5] rfl) (hD.sub [0, 1, 2, 3, 4, 5] (by decide) rfl) hS (lv_sub hl [4, 5, 3, 2, 1, 0] rfl)
    | succ n ih =>
      intro r H locs ls hi hP hD hS hl
      refine lv_iload_n hx hb dX1_spread_12 rfl (lv_at hl 2 rfl) ?_
      refine lv_aload_n hx hb dX1_spread_13 rfl (lv_at hl 1 rfl) ?_
      refine va_alen (v := 26) hx hb hK hP 4 1 rfl rfl rfl dX1_spread_14 ?_
      refine lv_icmp_ge (tgt := 35) hx hb dX1_spread_15 (by decide) (fun c => absurd ((v_le (a := 26) (b := (r + 1)) rfl rfl (by omega) (by omega)).mp c) (by omega)) (fun _ => ?_)
      refine lv_aload_n hx hb dX1_spread_18 rfl (lv_at hl 1 rfl) ?_
      refine lv_iload_n hx hb dX1_spread_19 rfl (lv_at hl 2 rfl) ?_
      refine lv_aload_n hx hb dX1_spread_20 rfl (lv_at hl 1 rfl) ?_
      refine lv_iload_n hx hb dX1_spread_21 rfl (lv_at hl 2 rfl) ?_
      refine lv_iconst (v := 1) hx hb dX1_spread_22 (by decide) ?_
      refine lv_isub hx hb dX1_spread_23 ?_
      refine v_iald hx hb hK hP 4 1 rfl rfl (k := ((r + 1) - 1)) (v_sub rfl rfl (by omega)) (by omega) (Nat.le_of_ble_eq_true rfl) dX1_spread_24 ?_
      refine lv_ldc (v := (-1640531527)) hx hb hown (hts _ q278) dX1_spread_25 ?_
      refine lv_iadd hx hb dX1_spread_27 ?_
      refine v_iast hx hb hK hP hD hS 4 1 rfl rfl (k := (r + 1)) rfl (by omega) (Nat.le_of_ble_eq_true rfl) dX1_spread_28 (fun H locs hP hD hS => ?_)
      have hP : va_P D vwCl [(h0, .inr (1, [.ref ka, .ref ba, .ref oa])), (ka, .inl (dN, 32, .inl kf)), (ba, .inl (dN, 8, .inl bf)), (oa, .inl (dN, 8, .inl uf)), (q_1, .inl (dN, 26, .inl (upd (rc_S r) (r + 1) (((rc_S r) ((r + 1) - 1)) + (-1640531527)))))] H := hP
      have hD : va_D A [(h0, .inr (1, [.ref ka, .ref ba, .ref oa])), (ka, .inl (dN, 32, .inl kf)), (ba, .inl (dN, 8, .inl bf)), (oa, .inl (dN, 8, .inl uf)), (q_1, .inl (dN, 26, .inl (upd (rc_S r) (r + 1) (((rc_S r) ((r + 1) - 1)) + (-1640531527)))))] := hD
      refine lv_iinc (v := (nI ((r + 1) + 1))) (lv' := [(2, .int (nI ((r + 1) + 1))), (0, .ref h0), (1, .ref q_1)]) hx hb dX1_spread_29 hl (k := 2) rfl (v_add rfl (show (Int32.ofInt 1) = nI 1 from rfl)) (by decide) rfl (fun ls hl => ?_)
      refine lv_goto (tgt := 12) hx hb dX1_spread_32 (by decide) ?_
      exact ih (r + 1) H locs ls (by omega) (hP.sub [0, 1, 2, 3, 4] rfl) (hD.sub [0, 1, 2, 3, 4] (by decide) rfl) hS (lv_sub hl [1, 2, 0] rfl)
  exact loop1 25 0 _ _ _ rfl (hP.sub [0, 1, 2, 3, 4] rfl) (hD.sub [0, 1, 2, 3, 4] (by decide) rfl) hS (lv_sub hl [2, 1, 0] rfl)
set_option maxHeartbeats 4000000 in
set_option maxRecDepth 100000 in
theorem metX1_run (l : Launch) (D : va_G) (dB dN : ClassId) (sz : Nat) (h0 ka ba oa : Nat) (kf bf uf : Nat → Int32) (z : Int32) : Met l yX1_run (ws_ yX1_run cX1_run 6 none) rmRM (va_Pc [.ref h0, .int z] (vPre D dB dN vT sz [(h0, .inr (1, [.ref ka, .ref ba, .ref oa])), (ka, .inl (dN, 32, .inl kf)), (ba, .inl (dN, 8, .inl bf)), (oa, .inl (dN, 8, .inl uf))])) (qV D (fun _ : Unit => [(h0, .inr (1, [.ref ka, .ref ba, .ref oa])), (ka, .inl (dN, 32, .inl kf)), (ba, .inl (dN, 8, .inl bf)), (oa, .inl (dN, 8, .inl (rc_oR z kf bf uf)))]) (va_A [(h0, .inr (1, [.ref ka, .ref ba, .ref oa])), (ka, .inl (dN, 32, .inl kf)), (ba, .inl (dN, 8, .inl bf)), (oa, .inl (dN, 8, .inl uf))] sz)) 2 30 (va_A [(h0, .inr (1, [.ref ka, .ref ba, .ref oa])), (ka, .inl (dN, 32, .inl kf)), (ba, .inl (dN, 8, .inl bf)), (oa, .inl (dN, 8, .inl uf))] sz) := by
  refine v_met (Qc := qV D (fun _ : Unit => [(h0, .inr (1, [.ref ka, .ref ba, .ref oa])), (ka, .inl (dN, 32, .inl kf)), (ba, .inl (dN, 8, .inl bf)), (oa, .inl (dN, 8, .inl (rc_oR z kf bf uf)))])) (by decide) (Nat.le_of_ble_eq_true rfl) ?_
  rintro p e s m args below meth c A ls Q ⟨hx, hb, hr, hlocks, hml, hown, hts, hin⟩ hP hK hD hX hA hS hl hQ
  have hl : lv_has ls 6 [(0, .ref h0), (1, .int z)] := hl
  have hown : s.vm.findClass RX1 = some m.cls := hown
  refine lv_aload_n hx hb dX1_run_0 rfl (lv_at hl 0 rfl) ?_
  refine v_callr (wr := []) (va_runV (As := []) (rest := []) ⟨hx, hb, hml, hown, hts⟩ (metX1_spread l D dB dN s.heap.size h0 ka ba oa kf bf uf) (cwV 0 hts (lw_V q273 q275 qs10 q13 q276) rfl rfl rfl (by decide +kernel) ⟨(Nat.le_of_ble_eq_true rfl), (Nat.le_of_ble_eq_true rfl)⟩) (v_preV (q0 := 0) (ci := 1) (q := (RX1, TX1, 3)) (fs := [.ref ka, .ref ba, .ref oa]) vT_mv trivial hP rfl rfl (hP.sub (ws' := [(h0, .inr (1, [.ref ka, .ref ba, .ref oa])), (ka, .inl (dN, 32, .inl kf)), (ba, .inl (dN, 8, .inl bf)), (oa, .inl (dN, 8, .inl uf))]) [0, 1, 2, 3] rfl) (hD.sub (ws' := [(h0, .inr (1, [.ref ka, .ref ba, .ref oa])), (ka, .inl (dN, 32, .inl kf)), (ba, .inl (dN, 8, .inl bf)), (oa, .inl (dN, 8, .inl uf))]) [0, 1, 2, 3] (by decide) rfl) hK) rfl rfl hl.1 rfl (lv_room (Nat.le_of_ble_eq_true rfl)) dX1_run_1 ⟨(Nat.le_of_ble_eq_true rfl), (Nat.le_of_ble_eq_true rfl)⟩) hP hD hS hA [0, 1, 2, 3] [] rfl rfl (by decide) (by decide) (fun _ sa H locs _ hP hD hS => ?_)
  have hP : va_P D vwCl [(h0, .inr (1, [.ref ka, .ref ba, .ref oa])), (ka, .inl (dN, 32, .inl kf)), (ba, .inl (dN, 8, .inl bf)), (oa, .inl (dN, 8, .inl uf)), (sa, .inl (dN, 26, .inl (rc_key kf)))] H := hP
  have hD : va_D A [(h0, .inr (1, [.ref ka, .ref ba, .ref oa])), (ka, .inl (dN, 32, .inl kf)), (ba, .inl (dN, 8, .inl bf)), (oa, .inl (dN, 8, .inl uf)), (sa, .inl (dN, 26, .inl (rc_key kf)))] := hD
  refine W.widen (k := 2) (n := 30) (Nat.le_of_ble_eq_true rfl) (Nat.le_of_ble_eq_true rfl) ?_
  refine lv_astore_n (lv' := [(2, .ref sa), (0, .ref h0), (1, .int z)]) hx hb dX1_run_4 rfl hl (by decide) rfl (fun ls hl => ?_)
  refine lv_aload_n hx hb dX1_run_5 rfl (lv_at hl 1 rfl) ?_
  refine va_get (D := D) (ci := 1) (v := .ref ba) (C := RX1) (T := TX1) (N := 3) hx hb hts in_X1 hown hK hP 0 rfl rfl 1 (by decide) (hts _ q245) (fun _ h9 => h9) rfl dX1_run_6 ?_
  refine lv_iconst (v := 0) hx hb dX1_run_9 (by decide) ?_
  refine vp_callSi (W.runS (As := [.ref ba, .int 0]) (rest := []) ⟨hx, hb, hml, hown, hts⟩ (metX1_low l D dB dN H.size ba bf 0 0 8 rfl (by decide) (Nat.le_of_ble_eq_true rfl)) (va_cwS 2 hts (lw_S q279 q280 q13 q281) rfl rfl rfl (by decide +kernel) ⟨(Nat.le_of_ble_eq_true rfl), (Nat.le_of_ble_eq_true rfl)⟩) (v_preS vT_mv trivial (hP.sub (ws' := [(ba, .inl (dN, 8, .inl bf))]) [2] rfl) (hD.sub (ws' := [(ba, .inl (dN, 8, .inl bf))]) [2] (by decide) rfl) hK) rfl rfl hl.1 rfl (lv_room (Nat.le_of_ble_eq_true rfl)) dX1_run_10 ⟨(Nat.le_of_ble_eq_true rfl), (Nat.le_of_ble_eq_true rfl)⟩) (fun l0 el0 => ?_)
  subst el0
  refine lv_istore_n (lv' := [(3, .int (rc_low bf 0)), (2, .ref sa), (0, .ref h0), (1, .int z)]) hx hb dX1_run_13 rfl hl (by decide) rfl (fun ls hl => ?_)
  refine lv_aload_n hx hb dX1_run_14 rfl (lv_at hl 2 rfl) ?_
  refine va_get (D := D) (ci := 1) (v := .ref ba) (C := RX1) (T := TX1) (N := 3) hx hb hts in_X1 hown hK hP 0 rfl rfl 1 (by decide) (hts _ q245) (fun _ h9 => h9) rfl dX1_run_15 ?_
  refine lv_iconst (v := 4) hx hb dX1_run_18 (by decide) ?_
  refine vp_callSi (W.runS (As := [.ref ba, .int 4]) (rest := []) ⟨hx, hb, hml, hown, hts⟩ (metX1_low l D dB dN H.size ba bf 4 4 8 rfl (by decide) (Nat.le_of_ble_eq_true rfl)) (va_cwS 2 hts (lw_S q279 q280 q13 q281) rfl rfl rfl (by decide +kernel) ⟨(Nat.le_of_ble_eq_true rfl), (Nat.le_of_ble_eq_true rfl)⟩) (v_preS vT_mv trivial (hP.sub (ws' := [(ba, .inl (dN, 8, .inl bf))]) [2] rfl) (hD.sub (ws' := [(ba, .inl (dN, 8, .inl bf))]) [2] (by decide) rfl) hK) rfl rfl hl.1 rfl (lv_room (Nat.le_of_ble_eq_true rfl)) dX1_run_19 ⟨(Nat.le_of_ble_eq_true rfl), (Nat.le_of_ble_eq_true rfl)⟩) (fun l1 el1 => ?_)
  subst el1
  refine lv_istore (lv' := [(4, .int (rc_low bf 4)), (3, .int (rc_low bf 0)), (2, .ref sa), (0, .ref h0), (1, .int z)]) hx hb dX1_run_22 hl (by decide) rfl (fun ls hl => ?_)
  refine lv_iload_n hx hb dX1_run_24 rfl (lv_at hl 4 rfl) ?_
  have fin : ∀ (a b : Int32) (H : Heap) (locs : List Loc) (ls : Array Slot), (a, b) = (rc_R z (rc_key kf) bf) → va_P D vwCl [(h0, .inr (1, [.ref ka, .ref ba, .ref oa])), (ka, .inl (dN, 32, .inl kf)), (ba, .inl (dN, 8, .inl bf)), (oa, .inl (dN, 8, .inl uf)), (sa, .inl (dN, 26, .inl (rc_key kf)))] H → va_D A [(h0, .inr (1, [.ref ka, .ref ba, .ref oa])), (ka, .inl (dN, 32, .inl kf)), (ba, .inl (dN, 8, .inl bf)), (oa, .inl (dN, 8, .inl uf)), (sa, .inl (dN, 26, .inl (rc_key kf)))] → va_S A s.heap H locs → lv_has ls 6 [(0, .ref h0), (3, .int a), (4, .int b)] → W p l e rmRM s m args below meth c H locs 2 30 Q (F0 m 165 ls []) := by
    intro a b H locs ls he hP hD hS hl
    refine lv_iconst (v := 0) hx hb dX1_run_165 (by decide) ?_
    refine lv_istore (lv' := [(5, .int 0), (0, .ref h0), (3, .int a), (4, .int b)]) hx hb dX1_run_166 hl (by decide) rfl (fun ls hl => ?_)
    have loopf : ∀ (n r : Nat) (H : Heap) (locs : List Loc) (ls : Array Slot), r + n = 4 → va_P D vwCl [(h0, .inr (1, [.ref ka, .ref ba, .ref oa])), (ka, .inl (dN, 32, .inl kf)), (ba, .inl (dN, 8, .inl bf)), (oa, .inl (dN, 8, .inl (rc_oM uf a b r))), (sa, .inl (dN, 26, .inl (rc_key kf)))] H → va_D A [(h0, .inr (1, [.ref ka, .ref ba, .ref oa])), (ka, .inl (dN, 32, .inl kf)), (ba, .inl (dN, 8, .inl bf)), (oa, .inl (dN, 8, .inl (rc_oM uf a b r))), (sa, .inl (dN, 26, .inl (rc_key kf)))] → va_S A s.heap H locs → lv_has ls 6 [(0, .ref h0), (3, .int a), (4, .int b), (5, .int (nI r))] → W p l e rmRM s m args below meth c H locs 2 30 Q (F0 m 168 ls []) := by
      intro n
      induction n with
      | zero =>
        intro r H locs ls hi hP hD hS hl
        obtain rfl : r = 4 := by omega
        refine lv_iload hx hb dX1_run_168 (lv_at hl 3 rfl) ?_
        refine lv_iconst (v := 4) hx hb dX1_run_170 (by decide) ?_
        refine lv_icmp_ge (tgt := 219) hx hb dX1_run_171 (by decide) (fun _ => ?_) (fun c => absurd ((v_le (a := 4) (b := 4) rfl rfl (by omega) (by omega)).mpr (by omega)) c)
        have eo : rc_oM uf a b 4 = rc_oR z kf bf uf := by unfold rc_oR; rw [← he]
        rw [eo] at hP hD
        have hP9 : va_P D vwCl [(h0, .inr (1, [.ref ka, .ref ba, .ref oa])), (ka, .inl (dN, 32, .inl kf)), (ba, .inl (dN, 8, .inl bf)), (oa, .inl (dN, 8, .inl (rc_oR z kf bf uf)))] H := hP.sub [0, 1, 2, 3] rfl
        have hD9 : va_D A [(h0, .inr (1, [.ref ka, .ref ba, .ref oa])), (ka, .inl (dN, 32, .inl kf)), (ba, .inl (dN, 8, .inl bf)), (oa, .inl (dN, 8, .inl (rc_oR z kf bf uf)))] := hD.sub [0, 1, 2, 3] (by decide) rfl
        subst hQ
        exact W.vret hx hb hr (fun t ht hW => ⟨⟨(), rfl, trivial, by rw [ht]; exact hP9, hD9⟩, hS.F ht⟩) hS.2.2 dX1_run_219 hlocks
      | succ n ih =>
        intro r H locs ls hi hP hD hS hl
        refine lv_iload hx hb dX1_run_168 (lv_at hl 3 rfl) ?_
        refine lv_iconst (v := 4) hx hb dX1_run_170 (by decide) ?_
        refine lv_icmp_ge (tgt := 219) hx hb dX1_run_171 (by decide) (fun c => absurd ((v_le (a := 4) (b := r) rfl rfl (by omega) (by omega)).mp c) (by omega)) (fun _ => ?_)
        refine lv_aload_n hx hb dX1_run_174 rfl (lv_at hl 0 rfl) ?_
        refine va_get (D := D) (ci := 1) (v := .ref oa) (C := RX1) (T := TX1) (N := 3) hx hb hts in_X1 hown hK hP 0 rfl rfl 2 (by decide) (hts _ q246) (fun _ h9 => h9) rfl dX1_run_175 ?_
        refine lv_iload hx hb dX1_run_178 (lv_at hl 3 rfl) ?_
        refine lv_iload_n hx hb dX1_run_180 rfl (lv_at hl 1 rfl) ?_
        refine lv_bipush (v := 8) hx hb dX1_run_181 (by decide) ?_
        refine lv_iload hx hb dX1_run_183 (lv_at hl 3 rfl) ?_
        refine lv_imul hx hb dX1_run_185 ?_
        refine lv_iushr hx hb dX1_run_186 rfl ?_
        refine lv_sipush (v := 255) hx hb dX1_run_187 (by decide) ?_
        refine lv_iand hx hb dX1_run_190 ?_
        refine v_iast hx hb hK hP hD hS 3 1 rfl rfl (k := r) rfl (by omega) (Nat.le_of_ble_eq_true rfl) dX1_run_191 (fun H locs hP hD hS => ?_)
        have hP : va_P D vwCl [(h0, .inr (1, [.ref ka, .ref ba, .ref oa])), (ka, .inl (dN, 32, .inl kf)), (ba, .inl (dN, 8, .inl bf)), (oa, .inl (dN, 8, .inl (upd (rc_oM uf a b r) r ((a.toUInt32 >>> ((8 * (nI r)).toUInt32 &&& Int32.toUInt32 31)).toInt32 &&& 255)))), (sa, .inl (dN, 26, .inl (rc_key kf)))] H := hP
        have hD : va_D A [(h0, .inr (1, [.ref ka, .ref ba, .ref oa])), (ka, .inl (dN, 32, .inl kf)), (ba, .inl (dN, 8, .inl bf)), (oa, .inl (dN, 8, .inl (upd (rc_oM uf a b r) r ((a.toUInt32 >>> ((8 * (nI r)).toUInt32 &&& Int32.toUInt32 31)).toInt32 &&& 255)))), (sa, .inl (dN, 26, .inl (rc_key kf)))] := hD
        refine lv_aload_n hx hb dX1_run_192 rfl (lv_at hl 0 rfl) ?_
        refine va_get (D := D) (ci := 1) (v := .ref oa) (C := RX1) (T := TX1) (N := 3) hx hb hts in_X1 hown hK hP 0 rfl rfl 2 (by decide) (hts _ q246) (fun _ h9 => h9) rfl dX1_run_193 ?_
        refine lv_iconst (v := 4) hx hb dX1_run_196 (by decide) ?_
        refine lv_iload hx hb dX1_run_197 (lv_at hl 3 rfl) ?_
        refine lv_iadd hx hb dX1_run_199 ?_
        refine lv_iload hx hb dX1_run_200 (lv_at hl 2 rfl) ?_
        refine lv_bipush (v := 8) hx hb dX1_run_202 (by decide) ?_
        refine lv_iload hx hb dX1_run_204 (lv_at hl 3 rfl) ?_
        refine lv_imul hx hb dX1_run_206 ?_
        refine lv_iushr hx hb dX1_run_207 rfl ?_
        refine lv_sipush (v := 255) hx hb dX1_run_208 (by decide) ?_
        refine lv_iand hx hb dX1_run_211 ?_
        refine v_iast hx hb hK hP hD hS 3 1 rfl rfl (k := (4 + r)) (v_add rfl rfl) (by omega) (Nat.le_of_ble_eq_true rfl) dX1_run_212 (fun H locs hP hD hS => ?_)
        have hP : va_P D vwCl [(h0, .inr (1, [.ref ka, .ref ba, .ref oa])), (ka, .inl (dN, 32, .inl kf)), (ba, .inl (dN, 8, .inl bf)), (oa, .inl (dN, 8, .inl (upd (upd (rc_oM uf a b r) r ((a.toUInt32 >>> ((8 * (nI r)).toUInt32 &&& Int32.toUInt32 31)).toInt32 &&& 255)) (4 + r) ((b.toUInt32 >>> ((8 * (nI r)).toUInt32 &&& Int32.toUInt32 31)).toInt32 &&& 255)))), (sa, .inl (dN, 26, .inl (rc_key kf)))] H := hP
        have hD : va_D A [(h0, .inr (1, [.ref ka, .ref ba, .ref oa])), (ka, .inl (dN, 32, .inl kf)), (ba, .inl (dN, 8, .inl bf)), (oa, .inl (dN, 8, .inl (upd (upd (rc_oM uf a b r) r ((a.toUInt32 >>> ((8 * (nI r)).toUInt32 &&& Int32.toUInt32 31)).toInt32 &&& 255)) (4 + r) ((b.toUInt32 >>> ((8 * (nI r)).toUInt32 &&& Int32.toUInt32 31)).toInt32 &&& 255)))), (sa, .inl (dN, 26, .inl (rc_key kf)))] := hD
        refine lv_iinc (v := (nI (r + 1))) (lv' := [(5, .int (nI (r + 1))), (0, .ref h0), (3, .int a), (4, .int b)]) hx hb dX1_run_213 hl (k := 3) rfl (v_add rfl (show (Int32.ofInt 1) = nI 1 from rfl)) (by decide) rfl (fun ls hl => ?_)
        refine lv_goto (tgt := 168) hx hb dX1_run_216 (by decide) ?_
        exact ih (r + 1) H locs ls (by omega) (hP.sub [0, 1, 2, 3, 4] rfl) (hD.sub [0, 1, 2, 3, 4] (by decide) rfl) hS (lv_sub hl [1, 2, 3, 0] rfl)
    exact loopf 4 0 _ _ _ rfl (hP.sub [0, 1, 2, 3, 4] rfl) (hD.sub [0, 1, 2, 3, 4] (by decide) rfl) hS (lv_sub hl [1, 2, 3, 0] rfl)
  refine lv_if_eq (tgt := 97) hx hb dX1_run_25 (by decide) (fun hz => ?_) (fun hz => ?_)
  · have eR : rc_R z (rc_key kf) bf = rc_D (rc_key kf) bf := if_pos hz
    refine lv_bipush (v := 12) hx hb dX1_run_97 (by decide) ?_
    refine lv_istore (lv' := [(5, .int 12), (4, .int (rc_low bf 4)), (3, .int (rc_low bf 0)), (2, .ref sa), (0, .ref h0), (1, .int z)]) hx hb dX1_run_99 hl (by decide) rfl (fun ls hl => ?_)
    have loopd : ∀ (n : Nat) (a b : Int32) (H : Heap) (locs : List Loc) (ls : Array Slot), n ≤ 12 → rc_dec (rc_key kf) n a b = (rc_dec (rc_key kf) 12 (rc_low bf 0) (rc_low bf 4)) → va_P D vwCl [(h0, .inr (1, [.ref ka, .ref ba, .ref oa])), (ka, .inl (dN, 32, .inl kf)), (ba, .inl (dN, 8, .inl bf)), (oa, .inl (dN, 8, .inl uf)), (sa, .inl (dN, 26, .inl (rc_key kf)))] H → va_D A [(h0, .inr (1, [.ref ka, .ref ba, .ref oa])), (ka, .inl (dN, 32, .inl kf)), (ba, .inl (dN, 8, .inl bf)), (oa, .inl (dN, 8, .inl uf)), (sa, .inl (dN, 26, .inl (rc_key kf)))] → va_S A s.heap H locs → lv_has ls 6 [(0, .ref h0), (1, .int z), (2, .ref sa), (3, .int a), (4, .int b), (5, .int (nI n))] → W p l e rmRM s m args below meth c H locs 2 30 Q (F0 m 101 ls []) := by
      intro n
      induction n with
      | zero =>
        intro a b H locs ls hi he hP hD hS hl
        have ea : a = (rc_dec (rc_key kf) 12 (rc_low bf 0) (rc_low bf 4)).1 := congrArg Prod.fst he
        have eb : b = (rc_dec (rc_key kf) 12 (rc_low bf 0) (rc_low bf 4)).2 := congrArg Prod.snd he
        clear he
        subst ea
        subst eb
        refine lv_iload hx hb dX1_run_101 (lv_at hl 5 rfl) ?_
        refine lv_iconst (v := 1) hx hb dX1_run_103 (by decide) ?_
        refine lv_icmp_lt (tgt := 151) hx hb dX1_run_104 (by decide) (fun _ => ?_) (fun c => absurd ((v_lt (a := 0) (b := 1) rfl rfl (by omega) (by omega)).mpr (by omega)) c)
        refine lv_iload hx hb dX1_run_151 (lv_at hl 4 rfl) ?_
        refine lv_aload_n hx hb dX1_run_153 rfl (lv_at hl 2 rfl) ?_
        refine lv_iconst (v := 1) hx hb dX1_run_154 (by decide) ?_
        refine v_iald hx hb hK hP 4 1 rfl rfl (k := 1) rfl (by omega) (Nat.le_of_ble_eq_true rfl) dX1_run_155 ?_
        refine lv_isub hx hb dX1_run_156 ?_
        refine lv_istore (lv' := [(4, .int ((rc_dec (rc_key kf) 12 (rc_low bf 0) (rc_low bf 4)).2 - ((rc_key kf) 1))), (0, .ref h0), (1, .int z), (2, .ref sa), (3, .int ((rc_dec (rc_key kf) 12 (rc_low bf 0) (rc_low bf 4)).1)), (5, .int (nI 0))]) hx hb dX1_run_157 hl (by decide) rfl (fun ls hl => ?_)
        refine lv_iload_n hx hb dX1_run_159 rfl (lv_at hl 4 rfl) ?_
        refine lv_aload_n hx hb dX1_run_160 rfl (lv_at hl 3 rfl) ?_
        refine lv_iconst (v := 0) hx hb dX1_run_161 (by decide) ?_
        refine v_iald hx hb hK hP 4 1 rfl rfl (k := 0) rfl (by omega) (Nat.le_of_ble_eq_true rfl) dX1_run_162 ?_
        refine lv_isub hx hb dX1_run_163 ?_
        refine lv_istore_n (lv' := [(3, .int ((rc_dec (rc_key kf) 12 (rc_low bf 0) (rc_low bf 4)).1 - ((rc_key kf) 0))), (4, .int ((rc_dec (rc_key kf) 12 (rc_low bf 0) (rc_low bf 4)).2 - ((rc_key kf) 1))), (0, .ref h0), (1, .int z), (2, .ref sa), (5, .int (nI 0))]) hx hb dX1_run_164 rfl hl (by decide) rfl (fun ls hl => ?_)
        exact fin _ _ H locs ls eR.symm (hP.sub [0, 1, 2, 3, 4] rfl) (hD.sub [0, 1, 2, 3, 4] (by decide) rfl) hS (lv_sub hl [2, 0, 1] rfl)
      | succ n ih =>
        intro a b H locs ls hi he hP hD hS hl
        refine lv_iload hx hb dX1_run_101 (lv_at hl 5 rfl) ?_
        refine lv_iconst (v := 1) hx hb dX1_run_103 (by decide) ?_
        refine lv_icmp_lt (tgt := 151) hx hb dX1_run_104 (by decide) (fun c => absurd ((v_lt (a := (n + 1)) (b := 1) rfl rfl (by omega) (by omega)).mp c) (by omega)) (fun _ => ?_)
        refine lv_iload hx hb dX1_run_107 (lv_at hl 4 rfl) ?_
        refine lv_aload_n hx hb dX1_run_109 rfl (lv_at hl 2 rfl) ?_
        refine lv_iconst (v := 2) hx hb dX1_run_110 (by decide) ?_
        refine lv_iload hx hb dX1_run_111 (lv_at hl 5 rfl) ?_
        refine lv_imul hx hb dX1_run_113 ?_
        refine lv_iconst (v := 1) hx hb dX1_run_114 (by decide) ?_
        refine lv_iadd hx hb dX1_run_115 ?_
        refine v_iald hx hb hK hP 4 1 rfl rfl (k := ((2 * (n + 1)) + 1)) (v_add (v_mul rfl rfl) rfl) (by omega) (Nat.le_of_ble_eq_true rfl) dX1_run_116 ?_
        refine lv_isub hx hb dX1_run_117 ?_
        refine lv_iload_n hx hb dX1_run_118 rfl (lv_at hl 3 rfl) ?_
        refine lv_ineg hx hb dX1_run_119 ?_
        refine vp_callSi (W.runS (As := [.int (b - ((rc_key kf) ((2 * (n + 1)) + 1))), .int (-a)]) (rest := []) ⟨hx, hb, hml, hown, hts⟩ (metX1_left l D dB dN H.size (b - ((rc_key kf) ((2 * (n + 1)) + 1))) (-a)) (va_cwS 2 hts (lw_S q282 q283 q13 q284) rfl rfl rfl (by decide +kernel) ⟨(Nat.le_of_ble_eq_true rfl), (Nat.le_of_ble_eq_true rfl)⟩) (v_preS vT_mv trivial (hP.sub (ws' := []) [] rfl) (hD.sub (ws' := []) [] (by decide) rfl) hK) rfl rfl hl.1 rfl (lv_room (Nat.le_of_ble_eq_true rfl)) dX1_run_120 ⟨(Nat.le_of_ble_eq_true rfl), (Nat.le_of_ble_eq_true rfl)⟩) (fun b1 eb1 => ?_)
        rw [rc_rlneg] at eb1
        subst eb1
        refine lv_iload_n hx hb dX1_run_123 rfl (lv_at hl 3 rfl) ?_
        refine lv_ixor hx hb dX1_run_124 ?_
        refine v_top (y := (rc_decB (rc_key kf) n a b)) rfl ?_
        refine lv_istore (lv' := [(4, .int (rc_decB (rc_key kf) n a b)), (0, .ref h0), (1, .int z), (2, .ref sa), (3, .int a), (5, .int (nI (n + 1)))]) hx hb dX1_run_125 hl (by decide) rfl (fun ls hl => ?_)
        refine lv_iload_n hx hb dX1_run_127 rfl (lv_at hl 4 rfl) ?_
        refine lv_aload_n hx hb dX1_run_128 rfl (lv_at hl 3 rfl) ?_
        refine lv_iconst (v := 2) hx hb dX1_run_129 (by decide) ?_
        refine lv_iload hx hb dX1_run_130 (lv_at hl 5 rfl) ?_
        refine lv_imul hx hb dX1_run_132 ?_
        refine v_iald hx hb hK hP 4 1 rfl rfl (k := (2 * (n + 1))) (v_mul rfl rfl) (by omega) (Nat.le_of_ble_eq_true rfl) dX1_run_133 ?_
        refine lv_isub hx hb dX1_run_134 ?_
        refine lv_iload hx hb dX1_run_135 (lv_at hl 0 rfl) ?_
        refine lv_ineg hx hb dX1_run_137 ?_
        refine vp_callSi (W.runS (As := [.int (a - ((rc_key kf) (2 * (n + 1)))), .int (-(rc_decB (rc_key kf) n a b))]) (rest := []) ⟨hx, hb, hml, hown, hts⟩ (metX1_left l D dB dN H.size (a - ((rc_key kf) (2 * (n + 1)))) (-(rc_decB (rc_key kf) n a b))) (va_cwS 2 hts (lw_S q282 q283 q13 q284) rfl rfl rfl (by decide +kernel) ⟨(Nat.le_of_ble_eq_true rfl), (Nat.le_of_ble_eq_true rfl)⟩) (v_preS vT_mv trivial (hP.sub (ws' := []) [] rfl) (hD.sub (ws' := []) [] (by decide) rfl) hK) rfl rfl hl.1 rfl (lv_room (Nat.le_of_ble_eq_true rfl)) dX1_run_138 ⟨(Nat.le_of_ble_eq_true rfl), (Nat.le_of_ble_eq_true rfl)⟩) (fun a1 ea1 => ?_)
        rw [rc_rlneg] at ea1
        subst ea1
        refine lv_iload hx hb dX1_run_141 (lv_at hl 0 rfl) ?_
        refine lv_ixor hx hb dX1_run_143 ?_
        refine v_top (y := (rc_decA (rc_key kf) n a b)) rfl ?_
        refine lv_istore_n (lv' := [(3, .int (rc_decA (rc_key kf) n a b)), (4, .int (rc_decB (rc_key kf) n a b)), (0, .ref h0), (1, .int z), (2, .ref sa), (5, .int (nI (n + 1)))]) hx hb dX1_run_144 rfl hl (by decide) rfl (fun ls hl => ?_)
        refine lv_iinc (v := (nI n)) (lv' := [(5, .int (nI n)), (3, .int (rc_decA (rc_key kf) n a b)), (4, .int (rc_decB (rc_key kf) n a b)), (0, .ref h0), (1, .int z), (2, .ref sa)]) hx hb dX1_run_145 hl (k := 5) rfl (pk_m1 n) (by decide) rfl (fun ls hl => ?_)
        refine lv_goto (tgt := 101) hx hb dX1_run_148 (by decide) ?_
        exact ih (rc_decA (rc_key kf) n a b) (rc_decB (rc_key kf) n a b) H locs ls (by omega) he (hP.sub [0, 1, 2, 3, 4] rfl) (hD.sub [0, 1, 2, 3, 4] (by decide) rfl) hS (lv_sub hl [3, 4, 5, 1, 2, 0] rfl)
    exact loopd 12 _ _ _ _ _ (Nat.le_refl 12) rfl (hP.sub [0, 1, 2, 3, 4] rfl) (hD.sub [0, 1, 2, 3, 4] (by decide) rfl) hS (lv_sub hl [4, 5, 3, 2, 1, 0] rfl)
  · have eR : rc_R z (rc_key kf) bf = rc_E (rc_key kf) bf := if_neg hz
    refine lv_iload_n hx hb dX1_run_28 rfl (lv_at hl 1 rfl) ?_
    refine lv_aload_n hx hb dX1_run_29 rfl (lv_at hl 2 rfl) ?_
    refine lv_iconst (v := 0) hx hb dX1_run_30 (by decide) ?_
    refine v_iald hx hb hK hP 4 1 rfl rfl (k := 0) rfl (by omega) (Nat.le_of_ble_eq_true rfl) dX1_run_31 ?_
    refine lv_iadd hx hb dX1_run_32 ?_
    refine lv_istore_n (lv' := [(3, .int ((rc_low bf 0) + ((rc_key kf) 0))), (4, .int (rc_low bf 4)), (2, .ref sa), (0, .ref h0), (1, .int z)]) hx hb dX1_run_33 rfl hl (by decide) rfl (fun ls hl => ?_)
    refine lv_iload hx hb dX1_run_34 (lv_at hl 1 rfl) ?_
    refine lv_aload_n hx hb dX1_run_36 rfl (lv_at hl 2 rfl) ?_
    refine lv_iconst (v := 1) hx hb dX1_run_37 (by decide) ?_
    refine v_iald hx hb hK hP 4 1 rfl rfl (k := 1) rfl (by omega) (Nat.le_of_ble_eq_true rfl) dX1_run_38 ?_
    refine lv_iadd hx hb dX1_run_39 ?_
    refine lv_istore (lv' := [(4, .int ((rc_low bf 4) + ((rc_key kf) 1))), (3, .int ((rc_low bf 0) + ((rc_key kf) 0))), (2, .ref sa), (0, .ref h0), (1, .int z)]) hx hb dX1_run_40 hl (by decide) rfl (fun ls hl => ?_)
    refine lv_iconst (v := 1) hx hb dX1_run_42 (by decide) ?_
    refine lv_istore (lv' := [(5, .int 1), (4, .int ((rc_low bf 4) + ((rc_key kf) 1))), (3, .int ((rc_low bf 0) + ((rc_key kf) 0))), (2, .ref sa), (0, .ref h0), (1, .int z)]) hx hb dX1_run_43 hl (by decide) rfl (fun ls hl => ?_)
    have loope : ∀ (n r : Nat) (H : Heap) (locs : List Loc) (ls : Array Slot), r + n = 12 → va_P D vwCl [(h0, .inr (1, [.ref ka, .ref ba, .ref oa])), (ka, .inl (dN, 32, .inl kf)), (ba, .inl (dN, 8, .inl bf)), (oa, .inl (dN, 8, .inl uf)), (sa, .inl (dN, 26, .inl (rc_key kf)))] H → va_D A [(h0, .inr (1, [.ref ka, .ref ba, .ref oa])), (ka, .inl (dN, 32, .inl kf)), (ba, .inl (dN, 8, .inl bf)), (oa, .inl (dN, 8, .inl uf)), (sa, .inl (dN, 26, .inl (rc_key kf)))] → va_S A s.heap H locs → lv_has ls 6 [(0, .ref h0), (1, .int z), (2, .ref sa), (3, .int ((rc_enc (rc_key kf) (rc_low bf 0 + rc_key kf 0) (rc_low bf 4 + rc_key kf 1) r).1)), (4, .int ((rc_enc (rc_key kf) (rc_low bf 0 + rc_key kf 0) (rc_low bf 4 + rc_key kf 1) r).2)), (5, .int (nI (r + 1)))] → W p l e rmRM s m args below meth c H locs 2 30 Q (F0 m 45 ls []) := by
      intro n
      induction n with
      | zero =>
        intro r H locs ls hi hP hD hS hl
        obtain rfl : r = 12 := by omega
        refine lv_iload hx hb dX1_run_45 (lv_at hl 5 rfl) ?_
        refine lv_bipush (v := 12) hx hb dX1_run_47 (by decide) ?_
        refine lv_icmp_gt (tgt := 94) hx hb dX1_run_49 (by decide) (fun _ => ?_) (fun c => absurd ((v_lt (a := 12) (b := (12 + 1)) rfl rfl (by omega) (by omega)).mpr (by omega)) c)
        refine lv_goto (tgt := 165) hx hb dX1_run_94 (by decide) ?_
        exact fin _ _ H locs ls eR.symm (hP.sub [0, 1, 2, 3, 4] rfl) (hD.sub [0, 1, 2, 3, 4] (by decide) rfl) hS (lv_sub hl [0, 3, 4] rfl)
      | succ n ih =>
        intro r H locs ls hi hP hD hS hl
        refine lv_iload hx hb dX1_run_45 (lv_at hl 5 rfl) ?_
        refine lv_bipush (v := 12) hx hb dX1_run_47 (by decide) ?_
        refine lv_icmp_gt (tgt := 94) hx hb dX1_run_49 (by decide) (fun c => absurd ((v_lt (a := 12) (b := (r + 1)) rfl rfl (by omega) (by omega)).mp c) (by omega)) (fun _ => ?_)
        refine lv_iload_n hx hb dX1_run_52 rfl (lv_at hl 3 rfl) ?_
        refine lv_iload hx hb dX1_run_53 (lv_at hl 4 rfl) ?_
        refine lv_ixor hx hb dX1_run_55 ?_
        refine lv_iload hx hb dX1_run_56 (lv_at hl 4 rfl) ?_
        refine vp_callSi (W.runS (As := [.int ((rc_enc (rc_key kf) (rc_low bf 0 + rc_key kf 0) (rc_low bf 4 + rc_key kf 1) r).1 ^^^ (rc_enc (rc_key kf) (rc_low bf 0 + rc_key kf 0) (rc_low bf 4 + rc_key kf 1) r).2), .int ((rc_enc (rc_key kf) (rc_low bf 0 + rc_key kf 0) (rc_low bf 4 + rc_key kf 1) r).2)]) (rest := []) ⟨hx, hb, hml, hown, hts⟩ (metX1_left l D dB dN H.size ((rc_enc (rc_key kf) (rc_low bf 0 + rc_key kf 0) (rc_low bf 4 + rc_key kf 1) r).1 ^^^ (rc_enc (rc_key kf) (rc_low bf 0 + rc_key kf 0) (rc_low bf 4 + rc_key kf 1) r).2) ((rc_enc (rc_key kf) (rc_low bf 0 + rc_key kf 0) (rc_low bf 4 + rc_key kf 1) r).2)) (va_cwS 2 hts (lw_S q282 q283 q13 q284) rfl rfl rfl (by decide +kernel) ⟨(Nat.le_of_ble_eq_true rfl), (Nat.le_of_ble_eq_true rfl)⟩) (v_preS vT_mv trivial (hP.sub (ws' := []) [] rfl) (hD.sub (ws' := []) [] (by decide) rfl) hK) rfl rfl hl.1 rfl (lv_room (Nat.le_of_ble_eq_true rfl)) dX1_run_58 ⟨(Nat.le_of_ble_eq_true rfl), (Nat.le_of_ble_eq_true rfl)⟩) (fun a1 ea1 => ?_)
        subst ea1
        refine lv_aload_n hx hb dX1_run_61 rfl (lv_at hl 2 rfl) ?_
        refine lv_iconst (v := 2) hx hb dX1_run_62 (by decide) ?_
        refine lv_iload hx hb dX1_run_63 (lv_at hl 5 rfl) ?_
        refine lv_imul hx hb dX1_run_65 ?_
        refine v_iald hx hb hK hP 4 1 rfl rfl (k := (2 * (r + 1))) (v_mul rfl rfl) (by omega) (Nat.le_of_ble_eq_true rfl) dX1_run_66 ?_
        refine lv_iadd hx hb dX1_run_67 ?_
        refine v_top (y := (rc_encA (rc_key kf) r (rc_enc (rc_key kf) (rc_low bf 0 + rc_key kf 0) (rc_low bf 4 + rc_key kf 1) r).1 (rc_enc (rc_key kf) (rc_low bf 0 + rc_key kf 0) (rc_low bf 4 + rc_key kf 1) r).2)) rfl ?_
        refine lv_istore_n (lv' := [(3, .int (rc_encA (rc_key kf) r (rc_enc (rc_key kf) (rc_low bf 0 + rc_key kf 0) (rc_low bf 4 + rc_key kf 1) r).1 (rc_enc (rc_key kf) (rc_low bf 0 + rc_key kf 0) (rc_low bf 4 + rc_key kf 1) r).2)), (0, .ref h0), (1, .int z), (2, .ref sa), (4, .int ((rc_enc (rc_key kf) (rc_low bf 0 + rc_key kf 0) (rc_low bf 4 + rc_key kf 1) r).2)), (5, .int (nI (r + 1)))]) hx hb dX1_run_68 rfl hl (by decide) rfl (fun ls hl => ?_)
        refine lv_iload hx hb dX1_run_69 (lv_at hl 4 rfl) ?_
        refine lv_iload_n hx hb dX1_run_71 rfl (lv_at hl 0 rfl) ?_
        refine lv_ixor hx hb dX1_run_72 ?_
        refine lv_iload_n hx hb dX1_run_73 rfl (lv_at hl 0 rfl) ?_
        refine vp_callSi (W.runS (As := [.int ((rc_enc (rc_key kf) (rc_low bf 0 + rc_key kf 0) (rc_low bf 4 + rc_key kf 1) r).2 ^^^ (rc_encA (rc_key kf) r (rc_enc (rc_key kf) (rc_low bf 0 + rc_key kf 0) (rc_low bf 4 + rc_key kf 1) r).1 (rc_enc (rc_key kf) (rc_low bf 0 + rc_key kf 0) (rc_low bf 4 + rc_key kf 1) r).2)), .int (rc_encA (rc_key kf) r (rc_enc (rc_key kf) (rc_low bf 0 + rc_key kf 0) (rc_low bf 4 + rc_key kf 1) r).1 (rc_enc (rc_key kf) (rc_low bf 0 + rc_key kf 0) (rc_low bf 4 + rc_key kf 1) r).2)]) (rest := []) ⟨hx, hb, hml, hown, hts⟩ (metX1_left l D dB dN H.size ((rc_enc (rc_key kf) (rc_low bf 0 + rc_key kf 0) (rc_low bf 4 + rc_key kf 1) r).2 ^^^ (rc_encA (rc_key kf) r (rc_enc (rc_key kf) (rc_low bf 0 + rc_key kf 0) (rc_low bf 4 + rc_key kf 1) r).1 (rc_enc (rc_key kf) (rc_low bf 0 + rc_key kf 0) (rc_low bf 4 + rc_key kf 1) r).2)) (rc_encA (rc_key kf) r (rc_enc (rc_key kf) (rc_low bf 0 + rc_key kf 0) (rc_low bf 4 + rc_key kf 1) r).1 (rc_enc (rc_key kf) (rc_low bf 0 + rc_key kf 0) (rc_low bf 4 + rc_key kf 1) r).2)) (va_cwS 2 hts (lw_S q282 q283 q13 q284) rfl rfl rfl (by decide +kernel) ⟨(Nat.le_of_ble_eq_true rfl), (Nat.le_of_ble_eq_true rfl)⟩) (v_preS vT_mv trivial (hP.sub (ws' := []) [] rfl) (hD.sub (ws' := []) [] (by decide) rfl) hK) rfl rfl hl.1 rfl (lv_room (Nat.le_of_ble_eq_true rfl)) dX1_run_74 ⟨(Nat.le_of_ble_eq_true rfl), (Nat.le_of_ble_eq_true rfl)⟩) (fun b1 eb1 => ?_)
        subst eb1
        refine lv_aload_n hx hb dX1_run_77 rfl (lv_at hl 3 rfl) ?_
        refine lv_iconst (v := 2) hx hb dX1_run_78 (by decide) ?_
        refine lv_iload hx hb dX1_run_79 (lv_at hl 5 rfl) ?_
        refine lv_imul hx hb dX1_run_81 ?_
        refine lv_iconst (v := 1) hx hb dX1_run_82 (by decide) ?_
        refine lv_iadd hx hb dX1_run_83 ?_
        refine v_iald hx hb hK hP 4 1 rfl rfl (k := ((2 * (r + 1)) + 1)) (v_add (v_mul rfl rfl) rfl) (by omega) (Nat.le_of_ble_eq_true rfl) dX1_run_84 ?_
        refine lv_iadd hx hb dX1_run_85 ?_
        refine v_top (y := (rc_encB (rc_key kf) r (rc_enc (rc_key kf) (rc_low bf 0 + rc_key kf 0) (rc_low bf 4 + rc_key kf 1) r).1 (rc_enc (rc_key kf) (rc_low bf 0 + rc_key kf 0) (rc_low bf 4 + rc_key kf 1) r).2)) rfl ?_
        refine lv_istore (lv' := [(4, .int (rc_encB (rc_key kf) r (rc_enc (rc_key kf) (rc_low bf 0 + rc_key kf 0) (rc_low bf 4 + rc_key kf 1) r).1 (rc_enc (rc_key kf) (rc_low bf 0 + rc_key kf 0) (rc_low bf 4 + rc_key kf 1) r).2)), (3, .int (rc_encA (rc_key kf) r (rc_enc (rc_key kf) (rc_low bf 0 + rc_key kf 0) (rc_low bf 4 + rc_key kf 1) r).1 (rc_enc (rc_key kf) (rc_low bf 0 + rc_key kf 0) (rc_low bf 4 + rc_key kf 1) r).2)), (0, .ref h0), (1, .int z), (2, .ref sa), (5, .int (nI (r + 1)))]) hx hb dX1_run_86 hl (by decide) rfl (fun ls hl => ?_)
        refine lv_iinc (v := (nI ((r + 1) + 1))) (lv' := [(5, .int (nI ((r + 1) + 1))), (4, .int (rc_encB (rc_key kf) r (rc_enc (rc_key kf) (rc_low bf 0 + rc_key kf 0) (rc_low bf 4 + rc_key kf 1) r).1 (rc_enc (rc_key kf) (rc_low bf 0 + rc_key kf 0) (rc_low bf 4 + rc_key kf 1) r).2)), (3, .int (rc_encA (rc_key kf) r (rc_enc (rc_key kf) (rc_low bf 0 + rc_key kf 0) (rc_low bf 4 + rc_key kf 1) r).1 (rc_enc (rc_key kf) (rc_low bf 0 + rc_key kf 0) (rc_low bf 4 + rc_key kf 1) r).2)), (0, .ref h0), (1, .int z), (2, .ref sa)]) hx hb dX1_run_88 hl (k := 5) rfl (v_add rfl (show (Int32.ofInt 1) = nI 1 from rfl)) (by decide) rfl (fun ls hl => ?_)
        refine lv_goto (tgt := 45) hx hb dX1_run_91 (by decide) ?_
        exact ih (r + 1) H locs ls (by omega) (hP.sub [0, 1, 2, 3, 4] rfl) (hD.sub [0, 1, 2, 3, 4] (by decide) rfl) hS (lv_sub hl [3, 4, 5, 2, 1, 0] rfl)
    exact loope 12 0 _ _ _ rfl (hP.sub [0, 1, 2, 3, 4] rfl) (hD.sub [0, 1, 2, 3, 4] (by decide) rfl) hS (lv_sub hl [4, 5, 3, 2, 1, 0] rfl)
set_option maxHeartbeats 4000000 in
set_option maxRecDepth 100000 in
theorem metX1_lock (l : Launch) (D : va_G) (dB dN : ClassId) (sz : Nat) (h0 ka ba oa : Nat) (kf bf uf : Nat → Int32) (kd : Int32) : Met l yX1_lock (ws_ yX1_lock cX1_lock 2 none) rmLM (va_Pc [.ref h0, .int kd] (vPre D dB dN vT sz [(h0, .inr (1, [.ref ka, .ref ba, .ref oa])), (ka, .inl (dN, 32, .inl kf)), (ba, .inl (dN, 8, .inl bf)), (oa, .inl (dN, 8, .inl uf))])) (qV D (fun _ : Unit => [(h0, .inr (1, [.ref ka, .ref ba, .ref oa])), (ka, .inl (dN, 32, .inl kf)), (ba, .inl (dN, 8, .inl bf)), (oa, .inl (dN, 8, .inl (rc_oR 1 kf bf uf)))]) (va_A [(h0, .inr (1, [.ref ka, .ref ba, .ref oa])), (ka, .inl (dN, 32, .inl kf)), (ba, .inl (dN, 8, .inl bf)), (oa, .inl (dN, 8, .inl uf))] sz)) 2 30 (va_A [(h0, .inr (1, [.ref ka, .ref ba, .ref oa])), (ka, .inl (dN, 32, .inl kf)), (ba, .inl (dN, 8, .inl bf)), (oa, .inl (dN, 8, .inl uf))] sz) := by
  refine v_met (Qc := qV D (fun _ : Unit => [(h0, .inr (1, [.ref ka, .ref ba, .ref oa])), (ka, .inl (dN, 32, .inl kf)), (ba, .inl (dN, 8, .inl bf)), (oa, .inl (dN, 8, .inl (rc_oR 1 kf bf uf)))])) (by decide) (Nat.le_of_ble_eq_true rfl) ?_
  rintro p e s m args below meth c A ls Q ⟨hx, hb, hr, hlocks, hml, hown, hts, hin⟩ hP hK hD hX hA hS hl hQ
  have hl : lv_has ls 2 [(0, .ref h0), (1, .int kd)] := hl
  have hown : s.vm.findClass RX1 = some m.cls := hown
  refine lv_aload_n hx hb dX1_lock_0 rfl (lv_at hl 0 rfl) ?_
  refine lv_iconst (v := 1) hx hb dX1_lock_1 (by decide) ?_
  refine v_callv (wr := []) (va_runV (As := [.int 1]) (rest := []) ⟨hx, hb, hml, hown, hts⟩ (metX1_run l D dB dN s.heap.size h0 ka ba oa kf bf uf 1) (cwV 1 hts (lw_V q269 q271 qs9 q13 q272) rfl rfl rfl (by decide +kernel) ⟨(Nat.le_of_ble_eq_true rfl), (Nat.le_of_ble_eq_true rfl)⟩) (v_preV (q0 := 0) (ci := 1) (q := (RX1, TX1, 3)) (fs := [.ref ka, .ref ba, .ref oa]) vT_mv trivial hP rfl rfl (hP.sub (ws' := [(h0, .inr (1, [.ref ka, .ref ba, .ref oa])), (ka, .inl (dN, 32, .inl kf)), (ba, .inl (dN, 8, .inl bf)), (oa, .inl (dN, 8, .inl uf))]) [0, 1, 2, 3] rfl) (hD.sub (ws' := [(h0, .inr (1, [.ref ka, .ref ba, .ref oa])), (ka, .inl (dN, 32, .inl kf)), (ba, .inl (dN, 8, .inl bf)), (oa, .inl (dN, 8, .inl uf))]) [0, 1, 2, 3] (by decide) rfl) hK) rfl rfl hl.1 rfl (lv_room (Nat.le_of_ble_eq_true rfl)) dX1_lock_2 ⟨(Nat.le_of_ble_eq_true rfl), (Nat.le_of_ble_eq_true rfl)⟩) hP hD hS hA [0, 1, 2, 3] [] rfl rfl (by decide) (by decide) (fun _ H locs _ hP hD hS => ?_)
  have hP : va_P D vwCl [(h0, .inr (1, [.ref ka, .ref ba, .ref oa])), (ka, .inl (dN, 32, .inl kf)), (ba, .inl (dN, 8, .inl bf)), (oa, .inl (dN, 8, .inl (rc_oR 1 kf bf uf)))] H := hP
  have hD : va_D A [(h0, .inr (1, [.ref ka, .ref ba, .ref oa])), (ka, .inl (dN, 32, .inl kf)), (ba, .inl (dN, 8, .inl bf)), (oa, .inl (dN, 8, .inl (rc_oR 1 kf bf uf)))] := hD
  refine W.widen (k := 2) (n := 30) (Nat.le_of_ble_eq_true rfl) (Nat.le_of_ble_eq_true rfl) ?_
  have hP9 : va_P D vwCl [(h0, .inr (1, [.ref ka, .ref ba, .ref oa])), (ka, .inl (dN, 32, .inl kf)), (ba, .inl (dN, 8, .inl bf)), (oa, .inl (dN, 8, .inl (rc_oR 1 kf bf uf)))] H := hP.sub [0, 1, 2, 3] rfl
  have hD9 : va_D A [(h0, .inr (1, [.ref ka, .ref ba, .ref oa])), (ka, .inl (dN, 32, .inl kf)), (ba, .inl (dN, 8, .inl bf)), (oa, .inl (dN, 8, .inl (rc_oR 1 kf bf uf)))] := hD.sub [0, 1, 2, 3] (by decide) rfl
  subst hQ
  exact W.vret hx hb hr (fun t ht hW => ⟨⟨(), rfl, trivial, by rw [ht]; exact hP9, hD9⟩, hS.F ht⟩) hS.2.2 dX1_lock_5 hlocks
set_option maxHeartbeats 4000000 in
set_option maxRecDepth 100000 in
theorem metX1_open (l : Launch) (D : va_G) (dB dN : ClassId) (sz : Nat) (h0 ka ba oa : Nat) (kf bf uf : Nat → Int32) (kd : Int32) : Met l yX1_open (ws_ yX1_open cX1_open 2 none) rmLM (va_Pc [.ref h0, .int kd] (vPre D dB dN vT sz [(h0, .inr (1, [.ref ka, .ref ba, .ref oa])), (ka, .inl (dN, 32, .inl kf)), (ba, .inl (dN, 8, .inl bf)), (oa, .inl (dN, 8, .inl uf))])) (qV D (fun _ : Unit => [(h0, .inr (1, [.ref ka, .ref ba, .ref oa])), (ka, .inl (dN, 32, .inl kf)), (ba, .inl (dN, 8, .inl bf)), (oa, .inl (dN, 8, .inl (rc_oR 0 kf bf uf)))]) (va_A [(h0, .inr (1, [.ref ka, .ref ba, .ref oa])), (ka, .inl (dN, 32, .inl kf)), (ba, .inl (dN, 8, .inl bf)), (oa, .inl (dN, 8, .inl uf))] sz)) 2 30 (va_A [(h0, .inr (1, [.ref ka, .ref ba, .ref oa])), (ka, .inl (dN, 32, .inl kf)), (ba, .inl (dN, 8, .inl bf)), (oa, .inl (dN, 8, .inl uf))] sz) := by
  refine v_met (Qc := qV D (fun _ : Unit => [(h0, .inr (1, [.ref ka, .ref ba, .ref oa])), (ka, .inl (dN, 32, .inl kf)), (ba, .inl (dN, 8, .inl bf)), (oa, .inl (dN, 8, .inl (rc_oR 0 kf bf uf)))])) (by decide) (Nat.le_of_ble_eq_true rfl) ?_
  rintro p e s m args below meth c A ls Q ⟨hx, hb, hr, hlocks, hml, hown, hts, hin⟩ hP hK hD hX hA hS hl hQ
  have hl : lv_has ls 2 [(0, .ref h0), (1, .int kd)] := hl
  have hown : s.vm.findClass RX1 = some m.cls := hown
  refine lv_aload_n hx hb dX1_open_0 rfl (lv_at hl 0 rfl) ?_
  refine lv_iconst (v := 0) hx hb dX1_open_1 (by decide) ?_
  refine v_callv (wr := []) (va_runV (As := [.int 0]) (rest := []) ⟨hx, hb, hml, hown, hts⟩ (metX1_run l D dB dN s.heap.size h0 ka ba oa kf bf uf 0) (cwV 1 hts (lw_V q269 q271 qs9 q13 q272) rfl rfl rfl (by decide +kernel) ⟨(Nat.le_of_ble_eq_true rfl), (Nat.le_of_ble_eq_true rfl)⟩) (v_preV (q0 := 0) (ci := 1) (q := (RX1, TX1, 3)) (fs := [.ref ka, .ref ba, .ref oa]) vT_mv trivial hP rfl rfl (hP.sub (ws' := [(h0, .inr (1, [.ref ka, .ref ba, .ref oa])), (ka, .inl (dN, 32, .inl kf)), (ba, .inl (dN, 8, .inl bf)), (oa, .inl (dN, 8, .inl uf))]) [0, 1, 2, 3] rfl) (hD.sub (ws' := [(h0, .inr (1, [.ref ka, .ref ba, .ref oa])), (ka, .inl (dN, 32, .inl kf)), (ba, .inl (dN, 8, .inl bf)), (oa, .inl (dN, 8, .inl uf))]) [0, 1, 2, 3] (by decide) rfl) hK) rfl rfl hl.1 rfl (lv_room (Nat.le_of_ble_eq_true rfl)) dX1_open_2 ⟨(Nat.le_of_ble_eq_true rfl), (Nat.le_of_ble_eq_true rfl)⟩) hP hD hS hA [0, 1, 2, 3] [] rfl rfl (by decide) (by decide) (fun _ H locs _ hP hD hS => ?_)
  have hP : va_P D vwCl [(h0, .inr (1, [.ref ka, .ref ba, .ref oa])), (ka, .inl (dN, 32, .inl kf)), (ba, .inl (dN, 8, .inl bf)), (oa, .inl (dN, 8, .inl (rc_oR 0 kf bf uf)))] H := hP
  have hD : va_D A [(h0, .inr (1, [.ref ka, .ref ba, .ref oa])), (ka, .inl (dN, 32, .inl kf)), (ba, .inl (dN, 8, .inl bf)), (oa, .inl (dN, 8, .inl (rc_oR 0 kf bf uf)))] := hD
  refine W.widen (k := 2) (n := 30) (Nat.le_of_ble_eq_true rfl) (Nat.le_of_ble_eq_true rfl) ?_
  have hP9 : va_P D vwCl [(h0, .inr (1, [.ref ka, .ref ba, .ref oa])), (ka, .inl (dN, 32, .inl kf)), (ba, .inl (dN, 8, .inl bf)), (oa, .inl (dN, 8, .inl (rc_oR 0 kf bf uf)))] H := hP.sub [0, 1, 2, 3] rfl
  have hD9 : va_D A [(h0, .inr (1, [.ref ka, .ref ba, .ref oa])), (ka, .inl (dN, 32, .inl kf)), (ba, .inl (dN, 8, .inl bf)), (oa, .inl (dN, 8, .inl (rc_oR 0 kf bf uf)))] := hD.sub [0, 1, 2, 3] (by decide) rfl
  subst hQ
  exact W.vret hx hb hr (fun t ht hW => ⟨⟨(), rfl, trivial, by rw [ht]; exact hP9, hD9⟩, hS.F ht⟩) hS.2.2 dX1_open_5 hlocks
end
section
/-! own: the law's base: the script by natural places, the classes at the start, the loop's bound -/
set_option maxRecDepth 100000
section VS
variable {p : Program} {l : Launch} {e : Env} {R : Room} {s : State} {m : MethodId} {args : Array Value} {below : List Frame} {meth : Method} {c : Code} {H : Heap} {locs : List Loc} {cells slots : Nat} {Q : State → Prop}
variable {cc : ByteArray} {pc : Nat} {ls : Array Slot} {rest : List Value} {A : Nat → Prop} {H0 : Heap}
theorem v_sld (hexec : p.tables.exec = Jvm.exec) (hb : c.code = cc) {b L : Nat} {xs : Nat → Int32} (hX : va_X b L xs s H0) (hbl : b < H0.size) (hbA : ¬ A b) (hS : va_S A H0 H locs) {i : Int32} {k : Nat} (hi : i = nI k) (hk : k < L) (hL : L < 2 ^ 31) (hdg : decode cc pc = .ok (.iaload, 1))
    (kk : W p l e R s m args below meth c H locs cells slots Q (F0 m (pc + 1) ls (.int (xs k) :: rest))) : W p l e R s m args below meth c H locs cells slots Q (F0 m pc ls (.int i :: .ref b :: rest)) := by
  subst hi
  refine va_sld hexec hb hX hbl hbA hS (vp_in_nI hk hL) hdg ?_
  rw [nI_clamp (Nat.lt_trans hk hL)]
  exact kk
theorem v_slen (hexec : p.tables.exec = Jvm.exec) (hb : c.code = cc) {b L : Nat} {xs : Nat → Int32} (hX : va_X b L xs s H0) (hbl : b < H0.size) (hbA : ¬ A b) (hS : va_S A H0 H locs) (hdg : decode cc pc = .ok (.arraylength, 1))
    (kk : W p l e R s m args below meth c H locs cells slots Q (F0 m (pc + 1) ls (.int (nI L) :: rest))) : W p l e R s m args below meth c H locs cells slots Q (F0 m pc ls (.ref b :: rest)) :=
  va_slen hexec hb hX hbl hbA hS hdg kk
end VS
theorem v_arr {args : Array Value} {s : State} {ty : FieldType} (h : (Cond.arrayClass ty).before args s = true) : ∃ cA : ClassId, ArrOfT s cA ty ∧ s.vm.findClass ("[" ++ ty.toString) = some cA := by
  obtain ⟨cA, kA, comp, h1, h2, h3⟩ := Cond.arrayClass_spec h
  exact ⟨cA, fun n z => ⟨fun k h => (by cases h), kA, h2, comp, h3⟩, h1⟩
/-- the classes, known at the law's start -/
theorem v_start {args : Array Value} {s : State} (ht : ∀ w ∈ lw_tbl, w.before args s = true) : ∃ (D : va_G) (dB dN : ClassId), va_K D vwCl (vTy dB dN) s := by
  obtain ⟨c0, i0, k0⟩ := u_known (C := RX0) (T := TX0) (N := 3) (n := 3) ht (fun w h => lw_all_tbl (in_X0 w h)) (ht _ (lw_all_tbl q22))
  obtain ⟨c1, i1, k1⟩ := u_known (C := RX1) (T := TX1) (N := 3) (n := 3) ht (fun w h => lw_all_tbl (in_X1 w h)) (ht _ (lw_all_tbl q239))
  obtain ⟨c2, i2, k2⟩ := u_known (C := RX2) (T := TX2) (N := 3) (n := 3) ht (fun w h => lw_all_tbl (in_X2 w h)) (ht _ (lw_all_tbl q63))
  obtain ⟨c3, i3, k3⟩ := u_known (C := RX3) (T := TX3) (N := 1) (n := 1) ht (fun w h => lw_all_tbl (in_X3 w h)) (ht _ (lw_all_tbl q79))
  obtain ⟨dB, b1, b2⟩ := v_arr (ht _ (lw_all_tbl q39))
  obtain ⟨dN, n1, n2⟩ := v_arr (ht _ (lw_all_tbl q196))
  refine ⟨(fun k => if k = 0 then c0 else if k = 1 then c1 else if k = 2 then c2 else c3, fun k => if k = 0 then i0 else if k = 1 then i1 else if k = 2 then i2 else i3), dB, dN, ?_, ?_⟩
  · intro k q hq
    match k, hq with
    | 0, hq => cases hq; exact k0
    | 1, hq => cases hq; exact k1
    | 2, hq => cases hq; exact k2
    | 3, hq => cases hq; exact k3
    | k + 4, hq => simp [vwCl] at hq
  · intro k q hq
    match k, hq with
    | 0, hq => cases hq; exact ⟨b1, b2⟩
    | 1, hq => cases hq; exact ⟨n1, n2⟩
    | k + 2, hq => simp [vTy] at hq
theorem v_xs {args : Array Value} {s : State} (ht : ∀ w ∈ lw_tbl, w.before args s = true) (hg : (Jvm.Cond.and given_1 narrow_1).before args s = true) : vX s :=
  ⟨va_Nc.of (flat_of_before _ hg _ (by decide +kernel)), va_Fw.of (ht _ q100) (ht _ q99) (ht _ q105) (ht _ q103) (ht _ q101), va_Fw.of (ht _ q200) (ht _ q199) (ht _ q204) (ht _ q202) (ht _ q101)⟩
theorem v_P0 {D : va_G} {H : Heap} : va_P D vwCl [] H := fun k q h => by simp at h
theorem v_D0 {A : Nat → Prop} : va_D A [] := ⟨fun i j p q h => by simp at h, fun k q h => by simp at h⟩
/-- the loop's bound: i <= length - 6 -/
theorem rc_lim {L k : Nat} (hL : L ≤ 288) (hk : k ≤ 1000) : (nI L - 6 < nI k) ↔ L < k + 6 := by
  have h1 : (nI L - nI 6).toInt = (L : Int) - (6 : Nat) := pk_sub_toInt (by omega) (by omega)
  have h2 : (nI k).toInt = (k : Int) := nI_toInt (by omega)
  show nI L - nI 6 < nI k ↔ _
  rw [Int32.lt_iff_toInt_lt, h1, h2]
  omega
end
section
/-! THE CLAIM OUT OF ONE WALK OF THE LAW'S BODY. Your part is whole_start (and what it stands on); all else here is the same for every law, but numbers. -/
def R_law : String := "RcFiveDeskLaw"
def lw_P (b : Addr) (xs : List Int32) (args : Array Value) (s : State) : Prop := args = #[.ref b] ∧ s.IntsAt b xs ∧ xs.length ≤ 288 ∧ (Jvm.Cond.and given_1 narrow_1).before args s = true
def lw_Q (_ : Array Value) (s : State) (o : Outcome) (t : State) : Prop := o = .returned (some (.int 1)) ∧ Framed s o t [] 600096 7301386
def lw_Z (below : List Frame) (a : Array Value) (s : State) : State → Prop := fun t => ∃ o, t.status = .running ∧ Ended t below o ∧ lw_Q a s o t
/-- the law's own end, with 1 on the stack, nothing written that was there before, its room as the claim has it -/
theorem lw_ret {p : Program} {l : Launch} {e : Env} {s : State} {m : MethodId} {below : List Frame} {meth : Method} {c : Code} {b : Nat} (hx : p.tables.exec = Jvm.exec) (hb : c.code = code) (hr : meth.sig.returnType = ret) (hlocks : meth.locks = false) {pc : Nat} {H : Heap} {ls : Array Slot} (hdg : decode code pc = .ok (.ireturn, 1)) : W p l e room_1 s m #[Value.ref b] below meth c H [] 600096 7301386 (lw_Z below #[Value.ref b] s) (F0 m pc ls [.int 1]) := by
  intro T hT X
  obtain ⟨fs, hret, hrun, hended, hW, hframe⟩ := X.leave (v := some (.int 1)) (hlocks := hlocks) (fun h => by rw [hr] at h; cases h)
  have hmeth' : T.vm.method? m = some meth := X.method'
  refine ⟨T.setFrames fs, ?_, .returned (some (.int 1)), hrun, hended, rfl, ⟨_, rfl⟩, hW, hframe⟩
  jvm_step X.here [X.here.top, hx, hb, hdg, hmeth', hr, ret, narrow_b1]
  (try refine ⟨rfl, ?_⟩); (try refine ⟨rfl, ?_⟩)
  first | (intro acts; rw [hret _ acts rfl rfl rfl]) | rw [hret _ _ rfl rfl rfl]
  exact Steps.refl _
/-- what holds at the law's entry: the machine, the code, the tables' words (any of lw_tbl by 'hts w (by decide +kernel)'), the script of L ints xs at the cell b, what the Statement gives of the start (any of its parts by flat_of_before) -/
def lw_At (p : Program) (s : State) (m : MethodId) (meth : Method) (c : Code) (b L : Nat) (xs : Nat → Int32) : Prop :=
  p.tables.exec = Jvm.exec ∧ c.code = code ∧ meth.sig.returnType = ret ∧ c.maxLocals = 4 ∧ s.vm.findClass R_law = some m.cls ∧ (∀ w ∈ lw_tbl, w.before #[Value.ref b] s = true) ∧ va_X b L xs s s.heap ∧ b < s.heap.size ∧ meth.locks = false ∧ (Jvm.Cond.and given_1 narrow_1).before #[Value.ref b] s = true
set_option maxHeartbeats 4000000 in
set_option maxRecDepth 100000 in
theorem whole_start {p : Program} {e : Env} {s : State} {m : MethodId} {below : List Frame} {meth : Method} {c : Code} (l : Launch) (hflags : l.flags = flags0) {b L : Nat} {xs : Nat → Int32} (hL : L ≤ 288) (C0 : lw_At p s m meth c b L xs) : W p l e room_1 s m #[Value.ref b] below meth c s.heap [] 0 0 (lw_Z below #[Value.ref b] s) (entryFrame m ([Value.ref b] : List Value).toArray 4) := by
  obtain ⟨hx, hb, hr, hml, hown, hts0, hXs, hbl, hlocks, hgv⟩ := C0
  have hts : ∀ w ∈ lw_all, w.before #[Value.ref b] s = true := fun w h => hts0 w (lw_all_tbl h)
  obtain ⟨D, dB, dN, hK⟩ := v_start hts0
  have hX : vX s := v_xs hts0 hgv
  obtain ⟨A, hAe⟩ : ∃ A : Nat → Prop, A = fun q => s.heap.size ≤ q := ⟨_, rfl⟩
  have hA : ∀ q : Nat, s.heap.size ≤ q → A q := fun q h => by rw [hAe]; exact h
  have hbA : ¬ A b := by rw [hAe]; exact Nat.not_le.mpr hbl
  have hS : va_S A s.heap s.heap [] := va_S.rf
  have hP : va_P D vwCl [] s.heap := v_P0
  have hD : va_D A [] := v_D0
  have hL31 : L < 2 ^ 31 := by omega
  have hl := lv_entry ([.ref b]) (n := 4) (Nat.le_of_ble_eq_true rfl)
  rw [lg_entry_eq]
  generalize (lg_sl ([.ref b]) ++ List.replicate (4 - (lg_sl ([.ref b])).length) Slot.unset).toArray = ls at hl ⊢
  have hl : lv_has ls 4 [(0, .ref b)] := hl
  generalize hQ : lw_Z below #[Value.ref b] s = Q
  refine va_new (ci := 0) (fs := [.null, .null, .null]) (C := RX0) (T := TX0) (N := 3) hx hb hts in_X0 tyX0 tyX0_ok hown (hts _ q21) (hts _ q22) (hts _ q12) hK hP hD hS hA rfl (fun j hj => by rcases (show j = 0 ∨ j = 1 ∨ j = 2 by omega) with rfl | rfl | rfl <;> rfl) (Nat.le_of_ble_eq_true rfl) (Nat.le_of_ble_eq_true rfl) dL_law_0 (fun q_1 H hP hD hS => ?_)
  have hP : va_P D vwCl [(q_1, .inr (0, [.null, .null, .null]))] H := hP
  have hD : va_D A [(q_1, .inr (0, [.null, .null, .null]))] := hD
  refine W.widen (k := 1) (n := 3) (Nat.le_of_ble_eq_true rfl) (Nat.le_of_ble_eq_true rfl) ?_
  refine lv_dup hx hb dL_law_3 rfl ?_
  refine v_callv (wr := []) (va_runI (As := []) (rest := [.ref q_1]) ⟨hx, hb, hml, hown, hts⟩ (metX0_init l D dB dN H.size q_1) (cwI 0 hts (lw_meth q25) rfl rfl rfl (hts _ q12) (hts _ q23) (hts _ q24) rfl (by decide +kernel) ⟨(Nat.le_of_ble_eq_true rfl), (Nat.le_of_ble_eq_true rfl)⟩) (v_preS vT_mv trivial (hP.sub (ws' := [(q_1, .inr (0, [.null, .null, .null]))]) [0] rfl) (hD.sub (ws' := [(q_1, .inr (0, [.null, .null, .null]))]) [0] (by decide) rfl) hK) rfl rfl hl.1 rfl (lv_room (Nat.le_of_ble_eq_true rfl)) dL_law_4 ⟨(Nat.le_of_ble_eq_true rfl), (Nat.le_of_ble_eq_true rfl)⟩) hP hD hS hA [0] [] rfl rfl (by decide) (by decide) (fun u_2 H locs _ hP hD hS => ?_)
  obtain ⟨xk, xb, xo⟩ := u_2
  have hP : va_P D vwCl [(q_1, .inr (0, [.ref xk, .ref xb, .ref xo])), (xk, .inl (dB, 32, .inl (fun _ => 0))), (xb, .inl (dB, 8, .inl (fun _ => 0))), (xo, .inl (dB, 8, .inl (fun _ => 0)))] H := hP
  have hD : va_D A [(q_1, .inr (0, [.ref xk, .ref xb, .ref xo])), (xk, .inl (dB, 32, .inl (fun _ => 0))), (xb, .inl (dB, 8, .inl (fun _ => 0))), (xo, .inl (dB, 8, .inl (fun _ => 0)))] := hD
  refine W.widen (k := 4) (n := 51) (Nat.le_of_ble_eq_true rfl) (Nat.le_of_ble_eq_true rfl) ?_
  refine lv_astore_n (lv' := [(1, .ref q_1), (0, .ref b)]) hx hb dL_law_7 rfl hl (by decide) rfl (fun ls hl => ?_)
  refine va_new (ci := 1) (fs := [.null, .null, .null]) (C := RX1) (T := TX1) (N := 3) hx hb hts in_X1 tyX1 tyX1_ok hown (hts _ q238) (hts _ q239) (hts _ q13) hK hP hD hS hA rfl (fun j hj => by rcases (show j = 0 ∨ j = 1 ∨ j = 2 by omega) with rfl | rfl | rfl <;> rfl) (Nat.le_of_ble_eq_true rfl) (Nat.le_of_ble_eq_true rfl) dL_law_8 (fun q_3 H hP hD hS => ?_)
  have hP : va_P D vwCl [(q_1, .inr (0, [.ref xk, .ref xb, .ref xo])), (xk, .inl (dB, 32, .inl (fun _ => 0))), (xb, .inl (dB, 8, .inl (fun _ => 0))), (xo, .inl (dB, 8, .inl (fun _ => 0))), (q_3, .inr (1, [.null, .null, .null]))] H := hP
  have hD : va_D A [(q_1, .inr (0, [.ref xk, .ref xb, .ref xo])), (xk, .inl (dB, 32, .inl (fun _ => 0))), (xb, .inl (dB, 8, .inl (fun _ => 0))), (xo, .inl (dB, 8, .inl (fun _ => 0))), (q_3, .inr (1, [.null, .null, .null]))] := hD
  refine W.widen (k := 5) (n := 54) (Nat.le_of_ble_eq_true rfl) (Nat.le_of_ble_eq_true rfl) ?_
  refine lv_dup hx hb dL_law_11 rfl ?_
  refine v_callv (wr := [(q_1, .inr (0, [.ref xk, .ref xb, .ref xo])), (xk, .inl (dB, 32, .inl (fun _ => 0))), (xb, .inl (dB, 8, .inl (fun _ => 0))), (xo, .inl (dB, 8, .inl (fun _ => 0)))]) (va_runI (As := []) (rest := [.ref q_3]) ⟨hx, hb, hml, hown, hts⟩ (metX1_init l D dB dN H.size q_3) (cwI 0 hts (lw_meth q242) rfl rfl rfl (hts _ q13) (hts _ q240) (hts _ q241) rfl (by decide +kernel) ⟨(Nat.le_of_ble_eq_true rfl), (Nat.le_of_ble_eq_true rfl)⟩) (v_preS vT_mv trivial (hP.sub (ws' := [(q_3, .inr (1, [.null, .null, .null]))]) [4] rfl) (hD.sub (ws' := [(q_3, .inr (1, [.null, .null, .null]))]) [4] (by decide) rfl) hK) rfl rfl hl.1 rfl (lv_room (Nat.le_of_ble_eq_true rfl)) dL_law_12 ⟨(Nat.le_of_ble_eq_true rfl), (Nat.le_of_ble_eq_true rfl)⟩) hP hD hS hA [4] [0, 1, 2, 3] rfl rfl (by decide) (by decide) (fun u_4 H locs _ hP hD hS => ?_)
  obtain ⟨mk, mb, mo⟩ := u_4
  have hP : va_P D vwCl [(q_1, .inr (0, [.ref xk, .ref xb, .ref xo])), (xk, .inl (dB, 32, .inl (fun _ => 0))), (xb, .inl (dB, 8, .inl (fun _ => 0))), (xo, .inl (dB, 8, .inl (fun _ => 0))), (q_3, .inr (1, [.ref mk, .ref mb, .ref mo])), (mk, .inl (dN, 32, .inl (fun _ => 0))), (mb, .inl (dN, 8, .inl (fun _ => 0))), (mo, .inl (dN, 8, .inl (fun _ => 0)))] H := hP
  have hD : va_D A [(q_1, .inr (0, [.ref xk, .ref xb, .ref xo])), (xk, .inl (dB, 32, .inl (fun _ => 0))), (xb, .inl (dB, 8, .inl (fun _ => 0))), (xo, .inl (dB, 8, .inl (fun _ => 0))), (q_3, .inr (1, [.ref mk, .ref mb, .ref mo])), (mk, .inl (dN, 32, .inl (fun _ => 0))), (mb, .inl (dN, 8, .inl (fun _ => 0))), (mo, .inl (dN, 8, .inl (fun _ => 0)))] := hD
  refine W.widen (k := 8) (n := 102) (Nat.le_of_ble_eq_true rfl) (Nat.le_of_ble_eq_true rfl) ?_
  refine lv_astore_n (lv' := [(2, .ref q_3), (1, .ref q_1), (0, .ref b)]) hx hb dL_law_15 rfl hl (by decide) rfl (fun ls hl => ?_)
  refine lv_iconst (v := 0) hx hb dL_law_16 (by decide) ?_
  refine lv_istore_n (lv' := [(3, .int 0), (2, .ref q_3), (1, .ref q_1), (0, .ref b)]) hx hb dL_law_17 rfl hl (by decide) rfl (fun ls hl => ?_)
  have loop1 : ∀ (n k : Nat) (kf bf uf kg bg ug : Nat → Int32) (H : Heap) (locs : List Loc) (ls : Array Slot), L + 1 ≤ k + n → k ≤ L → rc_rel 32 kf kg → rc_rel 8 bf bg → rc_rel 8 uf ug → va_P D vwCl [(q_1, .inr (0, [.ref xk, .ref xb, .ref xo])), (xk, .inl (dB, 32, .inl kf)), (xb, .inl (dB, 8, .inl bf)), (xo, .inl (dB, 8, .inl uf)), (q_3, .inr (1, [.ref mk, .ref mb, .ref mo])), (mk, .inl (dN, 32, .inl kg)), (mb, .inl (dN, 8, .inl bg)), (mo, .inl (dN, 8, .inl ug))] H → va_D A [(q_1, .inr (0, [.ref xk, .ref xb, .ref xo])), (xk, .inl (dB, 32, .inl kf)), (xb, .inl (dB, 8, .inl bf)), (xo, .inl (dB, 8, .inl uf)), (q_3, .inr (1, [.ref mk, .ref mb, .ref mo])), (mk, .inl (dN, 32, .inl kg)), (mb, .inl (dN, 8, .inl bg)), (mo, .inl (dN, 8, .inl ug))] → va_S A s.heap H locs → lv_has ls 4 [(0, .ref b), (1, .ref q_1), (2, .ref q_3), (3, .int (nI k))] → W p l e room_1 s m #[Value.ref b] below meth c H locs (8 + 2 * k) (102 + 16 * k) Q (F0 m 18 ls []) := by
    intro n
    induction n with
    | zero =>
      intro k kf bf uf kg bg ug H locs ls h1 h2
      exact absurd h1 (by omega)
    | succ n ih =>
      intro k kf bf uf kg bg ug H locs ls h1 h2 rk rb ru hP hD hS hl
      refine lv_iload_n hx hb dL_law_18 rfl (lv_at hl 3 rfl) ?_
      refine lv_aload_n hx hb dL_law_19 rfl (lv_at hl 0 rfl) ?_
      refine v_slen hx hb hXs hbl hbA hS dL_law_20 ?_
      refine lv_bipush (v := 6) hx hb dL_law_21 (by decide) ?_
      refine lv_isub hx hb dL_law_23 ?_
      refine lv_icmp_gt (tgt := 246) hx hb dL_law_24 (by decide) (fun c1 => ?_) (fun c1 => ?_)
      · refine va_forget (fun q hq => by have h9 := hS.2.2 q hq; rw [hAe] at h9; exact h9) ?_
        refine lv_iconst (v := 1) hx hb dL_law_246 (by decide) ?_
        refine W.widen (k := 600096) (n := 7301386) (by omega) (by omega) ?_
        subst hQ
        exact lw_ret hx hb hr hlocks dL_law_247
      · have h6 : k + 6 ≤ L := by
          have h7 : ¬ L < k + 6 := fun h => c1 ((rc_lim (L := L) (k := k) hL (by omega)).mpr h)
          omega
        have nxt : ∀ (kf bf uf kg bg ug : Nat → Int32) (H : Heap) (locs : List Loc) (ls : Array Slot), rc_rel 32 kf kg → rc_rel 8 bf bg → rc_rel 8 uf ug → va_P D vwCl [(q_1, .inr (0, [.ref xk, .ref xb, .ref xo])), (xk, .inl (dB, 32, .inl kf)), (xb, .inl (dB, 8, .inl bf)), (xo, .inl (dB, 8, .inl uf)), (q_3, .inr (1, [.ref mk, .ref mb, .ref mo])), (mk, .inl (dN, 32, .inl kg)), (mb, .inl (dN, 8, .inl bg)), (mo, .inl (dN, 8, .inl ug))] H → va_D A [(q_1, .inr (0, [.ref xk, .ref xb, .ref xo])), (xk, .inl (dB, 32, .inl kf)), (xb, .inl (dB, 8, .inl bf)), (xo, .inl (dB, 8, .inl uf)), (q_3, .inr (1, [.ref mk, .ref mb, .ref mo])), (mk, .inl (dN, 32, .inl kg)), (mb, .inl (dN, 8, .inl bg)), (mo, .inl (dN, 8, .inl ug))] → va_S A s.heap H locs → lv_has ls 4 [(0, .ref b), (1, .ref q_1), (2, .ref q_3), (3, .int (nI k))] → W p l e room_1 s m #[Value.ref b] below meth c H locs (8 + 2 * k + 8) (102 + 16 * k + 96) Q (F0 m 240 ls []) := by
          intro kf bf uf kg bg ug H locs ls rk rb ru hP hD hS hl
          refine lv_iinc (v := (nI (k + 6))) (lv' := [(3, .int (nI (k + 6))), (0, .ref b), (1, .ref q_1), (2, .ref q_3)]) hx hb dL_law_240 hl (k := 3) rfl (v_add rfl (show (Int32.ofInt 6) = nI 6 from rfl)) (by decide) rfl (fun ls hl => ?_)
          refine lv_goto (tgt := 18) hx hb dL_law_243 (by decide) ?_
          refine W.widen (k := 8 + 2 * (k + 6)) (n := 102 + 16 * (k + 6)) (by omega) (by omega) ?_
          exact ih (k + 6) kf bf uf kg bg ug H locs ls (by omega) (by omega) rk rb ru (hP.sub [0, 1, 2, 3, 4, 5, 6, 7] rfl) (hD.sub [0, 1, 2, 3, 4, 5, 6, 7] (by decide) rfl) hS (lv_sub hl [1, 2, 3, 0] rfl)
        refine lv_aload_n hx hb dL_law_27 rfl (lv_at hl 0 rfl) ?_
        refine lv_iload_n hx hb dL_law_28 rfl (lv_at hl 3 rfl) ?_
        refine v_sld hx hb hXs hbl hbA hS (k := k) rfl (by omega) hL31 dL_law_29 ?_
        refine lv_bipush (v := 7) hx hb dL_law_30 (by decide) ?_
        refine lv_iand hx hb dL_law_32 ?_
        obtain ⟨v, hv, ev⟩ := pk_andE (xs k) (m := 7) 3 rfl
        refine v_top (y := (nI v)) ev ?_
        have hv8 : v = 0 ∨ v = 1 ∨ v = 2 ∨ v = 3 ∨ v = 4 ∨ v = 5 ∨ v = 6 ∨ v = 7 := by omega
        clear ev hv
        rcases hv8 with rfl | rfl | rfl | rfl | rfl | rfl | rfl | rfl
        · refine lv_tableIn (tgt := 72) hx hb dL_law_33 (by decide) (by decide) (off := 39) (by decide) (by decide) ?_
          obtain ⟨h, hh, eh⟩ := pk_andE (xs (k + 1)) (m := 1) 1 rfl
          refine lv_aload_n hx hb dL_law_72 rfl (lv_at hl 1 rfl) ?_
          refine lv_aload_n hx hb dL_law_73 rfl (lv_at hl 0 rfl) ?_
          refine lv_iload_n hx hb dL_law_74 rfl (lv_at hl 3 rfl) ?_
          refine lv_iconst (v := 1) hx hb dL_law_75 (by decide) ?_
          refine lv_iadd hx hb dL_law_76 ?_
          refine v_sld hx hb hXs hbl hbA hS (k := (k + 1)) (v_add rfl rfl) (by omega) hL31 dL_law_77 ?_
          refine lv_aload_n hx hb dL_law_78 rfl (lv_at hl 0 rfl) ?_
          refine lv_iload_n hx hb dL_law_79 rfl (lv_at hl 3 rfl) ?_
          refine lv_iconst (v := 2) hx hb dL_law_80 (by decide) ?_
          refine lv_iadd hx hb dL_law_81 ?_
          refine v_sld hx hb hXs hbl hbA hS (k := (k + 2)) (v_add rfl rfl) (by omega) hL31 dL_law_82 ?_
          refine lv_aload_n hx hb dL_law_83 rfl (lv_at hl 0 rfl) ?_
          refine lv_iload_n hx hb dL_law_84 rfl (lv_at hl 3 rfl) ?_
          refine lv_iconst (v := 3) hx hb dL_law_85 (by decide) ?_
          refine lv_iadd hx hb dL_law_86 ?_
          refine v_sld hx hb hXs hbl hbA hS (k := (k + 3)) (v_add rfl rfl) (by omega) hL31 dL_law_87 ?_
          refine lv_aload_n hx hb dL_law_88 rfl (lv_at hl 0 rfl) ?_
          refine lv_iload_n hx hb dL_law_89 rfl (lv_at hl 3 rfl) ?_
          refine lv_iconst (v := 4) hx hb dL_law_90 (by decide) ?_
          refine lv_iadd hx hb dL_law_91 ?_
          refine v_sld hx hb hXs hbl hbA hS (k := (k + 4)) (v_add rfl rfl) (by omega) hL31 dL_law_92 ?_
          refine lv_aload_n hx hb dL_law_93 rfl (lv_at hl 0 rfl) ?_
          refine lv_iload_n hx hb dL_law_94 rfl (lv_at hl 3 rfl) ?_
          refine lv_iconst (v := 5) hx hb dL_law_95 (by decide) ?_
          refine lv_iadd hx hb dL_law_96 ?_
          refine v_sld hx hb hXs hbl hbA hS (k := (k + 5)) (v_add rfl rfl) (by omega) hL31 dL_law_97 ?_
          refine v_callv (wr := [(q_3, .inr (1, [.ref mk, .ref mb, .ref mo])), (mk, .inl (dN, 32, .inl kg)), (mb, .inl (dN, 8, .inl bg)), (mo, .inl (dN, 8, .inl ug))]) (va_runV (As := [.int (xs (k + 1)), .int (xs (k + 2)), .int (xs (k + 3)), .int (xs (k + 4)), .int (xs (k + 5))]) (rest := []) ⟨hx, hb, hml, hown, hts⟩ (metX0_key l D dB dN H.size q_1 xk xb xo kf bf uf (xs (k + 1)) (xs (k + 2)) (xs (k + 3)) (xs (k + 4)) (xs (k + 5)) h hh eh) (cwV 5 hts (lw_V q40 q41 q42 q12 q43) rfl rfl rfl (by decide +kernel) ⟨(Nat.le_of_ble_eq_true rfl), (Nat.le_of_ble_eq_true rfl)⟩) (v_preV (q0 := 0) (ci := 0) (q := (RX0, TX0, 3)) (fs := [.ref xk, .ref xb, .ref xo]) vT_mv trivial hP rfl rfl (hP.sub (ws' := [(q_1, .inr (0, [.ref xk, .ref xb, .ref xo])), (xk, .inl (dB, 32, .inl kf)), (xb, .inl (dB, 8, .inl bf)), (xo, .inl (dB, 8, .inl uf))]) [0, 1, 2, 3] rfl) (hD.sub (ws' := [(q_1, .inr (0, [.ref xk, .ref xb, .ref xo])), (xk, .inl (dB, 32, .inl kf)), (xb, .inl (dB, 8, .inl bf)), (xo, .inl (dB, 8, .inl uf))]) [0, 1, 2, 3] (by decide) rfl) hK) rfl rfl hl.1 rfl (lv_room (Nat.le_of_ble_eq_true rfl)) dL_law_98 ⟨by show _ ≤ 600096; omega, by show _ ≤ 7301386; omega⟩) hP hD hS hA [0, 1, 2, 3] [4, 5, 6, 7] rfl rfl (by decide) (by decide) (fun _ H locs _ hP hD hS => ?_)
          have hP : va_P D vwCl [(q_3, .inr (1, [.ref mk, .ref mb, .ref mo])), (mk, .inl (dN, 32, .inl kg)), (mb, .inl (dN, 8, .inl bg)), (mo, .inl (dN, 8, .inl ug)), (q_1, .inr (0, [.ref xk, .ref xb, .ref xo])), (xk, .inl (dB, 32, .inl (rc_wD (rc_wD (rc_wD (rc_wD kf (h * 16) (xs (k + 2))) (h * 16 + 4) (xs (k + 3))) (h * 16 + 8) (xs (k + 4))) (h * 16 + 12) (xs (k + 5))))), (xb, .inl (dB, 8, .inl bf)), (xo, .inl (dB, 8, .inl uf))] H := hP
          have hD : va_D A [(q_3, .inr (1, [.ref mk, .ref mb, .ref mo])), (mk, .inl (dN, 32, .inl kg)), (mb, .inl (dN, 8, .inl bg)), (mo, .inl (dN, 8, .inl ug)), (q_1, .inr (0, [.ref xk, .ref xb, .ref xo])), (xk, .inl (dB, 32, .inl (rc_wD (rc_wD (rc_wD (rc_wD kf (h * 16) (xs (k + 2))) (h * 16 + 4) (xs (k + 3))) (h * 16 + 8) (xs (k + 4))) (h * 16 + 12) (xs (k + 5))))), (xb, .inl (dB, 8, .inl bf)), (xo, .inl (dB, 8, .inl uf))] := hD
          refine lv_aload_n hx hb dL_law_101 rfl (lv_at hl 2 rfl) ?_
          refine lv_aload_n hx hb dL_law_102 rfl (lv_at hl 0 rfl) ?_
          refine lv_iload_n hx hb dL_law_103 rfl (lv_at hl 3 rfl) ?_
          refine lv_iconst (v := 1) hx hb dL_law_104 (by decide) ?_
          refine lv_iadd hx hb dL_law_105 ?_
          refine v_sld hx hb hXs hbl hbA hS (k := (k + 1)) (v_add rfl rfl) (by omega) hL31 dL_law_106 ?_
          refine lv_aload_n hx hb dL_law_107 rfl (lv_at hl 0 rfl) ?_
          refine lv_iload_n hx hb dL_law_108 rfl (lv_at hl 3 rfl) ?_
          refine lv_iconst (v := 2) hx hb dL_law_109 (by decide) ?_
          refine lv_iadd hx hb dL_law_110 ?_
          refine v_sld hx hb hXs hbl hbA hS (k := (k + 2)) (v_add rfl rfl) (by omega) hL31 dL_law_111 ?_
          refine lv_aload_n hx hb dL_law_112 rfl (lv_at hl 0 rfl) ?_
          refine lv_iload_n hx hb dL_law_113 rfl (lv_at hl 3 rfl) ?_
          refine lv_iconst (v := 3) hx hb dL_law_114 (by decide) ?_
          refine lv_iadd hx hb dL_law_115 ?_
          refine v_sld hx hb hXs hbl hbA hS (k := (k + 3)) (v_add rfl rfl) (by omega) hL31 dL_law_116 ?_
          refine lv_aload_n hx hb dL_law_117 rfl (lv_at hl 0 rfl) ?_
          refine lv_iload_n hx hb dL_law_118 rfl (lv_at hl 3 rfl) ?_
          refine lv_iconst (v := 4) hx hb dL_law_119 (by decide) ?_
          refine lv_iadd hx hb dL_law_120 ?_
          refine v_sld hx hb hXs hbl hbA hS (k := (k + 4)) (v_add rfl rfl) (by omega) hL31 dL_law_121 ?_
          refine lv_aload_n hx hb dL_law_122 rfl (lv_at hl 0 rfl) ?_
          refine lv_iload_n hx hb dL_law_123 rfl (lv_at hl 3 rfl) ?_
          refine lv_iconst (v := 5) hx hb dL_law_124 (by decide) ?_
          refine lv_iadd hx hb dL_law_125 ?_
          refine v_sld hx hb hXs hbl hbA hS (k := (k + 5)) (v_add rfl rfl) (by omega) hL31 dL_law_126 ?_
          refine v_callv (wr := [(q_1, .inr (0, [.ref xk, .ref xb, .ref xo])), (xk, .inl (dB, 32, .inl (rc_wD (rc_wD (rc_wD (rc_wD kf (h * 16) (xs (k + 2))) (h * 16 + 4) (xs (k + 3))) (h * 16 + 8) (xs (k + 4))) (h * 16 + 12) (xs (k + 5))))), (xb, .inl (dB, 8, .inl bf)), (xo, .inl (dB, 8, .inl uf))]) (va_runV (As := [.int (xs (k + 1)), .int (xs (k + 2)), .int (xs (k + 3)), .int (xs (k + 4)), .int (xs (k + 5))]) (rest := []) ⟨hx, hb, hml, hown, hts⟩ (metX1_key l D dB dN H.size q_3 mk mb mo kg bg ug (xs (k + 1)) (xs (k + 2)) (xs (k + 3)) (xs (k + 4)) (xs (k + 5)) h hh eh) (cwV 5 hts (lw_V q254 q255 q256 q13 q257) rfl rfl rfl (by decide +kernel) ⟨(Nat.le_of_ble_eq_true rfl), (Nat.le_of_ble_eq_true rfl)⟩) (v_preV (q0 := 0) (ci := 1) (q := (RX1, TX1, 3)) (fs := [.ref mk, .ref mb, .ref mo]) vT_mv trivial hP rfl rfl (hP.sub (ws' := [(q_3, .inr (1, [.ref mk, .ref mb, .ref mo])), (mk, .inl (dN, 32, .inl kg)), (mb, .inl (dN, 8, .inl bg)), (mo, .inl (dN, 8, .inl ug))]) [0, 1, 2, 3] rfl) (hD.sub (ws' := [(q_3, .inr (1, [.ref mk, .ref mb, .ref mo])), (mk, .inl (dN, 32, .inl kg)), (mb, .inl (dN, 8, .inl bg)), (mo, .inl (dN, 8, .inl ug))]) [0, 1, 2, 3] (by decide) rfl) hK) rfl rfl hl.1 rfl (lv_room (Nat.le_of_ble_eq_true rfl)) dL_law_127 ⟨by show _ ≤ 600096; omega, by show _ ≤ 7301386; omega⟩) hP hD hS hA [0, 1, 2, 3] [4, 5, 6, 7] rfl rfl (by decide) (by decide) (fun _ H locs _ hP hD hS => ?_)
          have hP : va_P D vwCl [(q_1, .inr (0, [.ref xk, .ref xb, .ref xo])), (xk, .inl (dB, 32, .inl (rc_wD (rc_wD (rc_wD (rc_wD kf (h * 16) (xs (k + 2))) (h * 16 + 4) (xs (k + 3))) (h * 16 + 8) (xs (k + 4))) (h * 16 + 12) (xs (k + 5))))), (xb, .inl (dB, 8, .inl bf)), (xo, .inl (dB, 8, .inl uf)), (q_3, .inr (1, [.ref mk, .ref mb, .ref mo])), (mk, .inl (dN, 32, .inl (rc_wM (rc_wM (rc_wM (rc_wM kg (h * 16) (xs (k + 2)) 4) (h * 16 + 4) (xs (k + 3)) 4) (h * 16 + 8) (xs (k + 4)) 4) (h * 16 + 12) (xs (k + 5)) 4))), (mb, .inl (dN, 8, .inl bg)), (mo, .inl (dN, 8, .inl ug))] H := hP
          have hD : va_D A [(q_1, .inr (0, [.ref xk, .ref xb, .ref xo])), (xk, .inl (dB, 32, .inl (rc_wD (rc_wD (rc_wD (rc_wD kf (h * 16) (xs (k + 2))) (h * 16 + 4) (xs (k + 3))) (h * 16 + 8) (xs (k + 4))) (h * 16 + 12) (xs (k + 5))))), (xb, .inl (dB, 8, .inl bf)), (xo, .inl (dB, 8, .inl uf)), (q_3, .inr (1, [.ref mk, .ref mb, .ref mo])), (mk, .inl (dN, 32, .inl (rc_wM (rc_wM (rc_wM (rc_wM kg (h * 16) (xs (k + 2)) 4) (h * 16 + 4) (xs (k + 3)) 4) (h * 16 + 8) (xs (k + 4)) 4) (h * 16 + 12) (xs (k + 5)) 4))), (mb, .inl (dN, 8, .inl bg)), (mo, .inl (dN, 8, .inl ug))] := hD
          refine lv_goto (tgt := 240) hx hb dL_law_130 (by decide) ?_
          refine W.widen (k := 8 + 2 * k + 8) (n := 102 + 16 * k + 96) (by omega) (by omega) ?_
          exact nxt (rc_wD (rc_wD (rc_wD (rc_wD kf (h * 16) (xs (k + 2))) (h * 16 + 4) (xs (k + 3))) (h * 16 + 8) (xs (k + 4))) (h * 16 + 12) (xs (k + 5))) bf uf (rc_wM (rc_wM (rc_wM (rc_wM kg (h * 16) (xs (k + 2)) 4) (h * 16 + 4) (xs (k + 3)) 4) (h * 16 + 8) (xs (k + 4)) 4) (h * 16 + 12) (xs (k + 5)) 4) bg ug H locs ls (rc_relW (rc_relW (rc_relW (rc_relW rk _ _) _ _) _ _) _ _) rb ru (hP.sub [0, 1, 2, 3, 4, 5, 6, 7] rfl) (hD.sub [0, 1, 2, 3, 4, 5, 6, 7] (by decide) rfl) hS (lv_sub hl [0, 1, 2, 3] rfl)
        · refine lv_tableIn (tgt := 133) hx hb dL_law_33 (by decide) (by decide) (off := 100) (by decide) (by decide) ?_
          refine lv_aload_n hx hb dL_law_133 rfl (lv_at hl 1 rfl) ?_
          refine lv_aload_n hx hb dL_law_134 rfl (lv_at hl 0 rfl) ?_
          refine lv_iload_n hx hb dL_law_135 rfl (lv_at hl 3 rfl) ?_
          refine lv_iconst (v := 1) hx hb dL_law_136 (by decide) ?_
          refine lv_iadd hx hb dL_law_137 ?_
          refine v_sld hx hb hXs hbl hbA hS (k := (k + 1)) (v_add rfl rfl) (by omega) hL31 dL_law_138 ?_
          refine lv_aload_n hx hb dL_law_139 rfl (lv_at hl 0 rfl) ?_
          refine lv_iload_n hx hb dL_law_140 rfl (lv_at hl 3 rfl) ?_
          refine lv_iconst (v := 2) hx hb dL_law_141 (by decide) ?_
          refine lv_iadd hx hb dL_law_142 ?_
          refine v_sld hx hb hXs hbl hbA hS (k := (k + 2)) (v_add rfl rfl) (by omega) hL31 dL_law_143 ?_
          refine v_callv (wr := [(q_3, .inr (1, [.ref mk, .ref mb, .ref mo])), (mk, .inl (dN, 32, .inl kg)), (mb, .inl (dN, 8, .inl bg)), (mo, .inl (dN, 8, .inl ug))]) (va_runV (As := [.int (xs (k + 1)), .int (xs (k + 2))]) (rest := []) ⟨hx, hb, hml, hown, hts⟩ (metX0_block l D dB dN H.size q_1 xk xb xo kf bf uf (xs (k + 1)) (xs (k + 2))) (cwV 2 hts (lw_V q47 q48 q49 q12 q50) rfl rfl rfl (by decide +kernel) ⟨(Nat.le_of_ble_eq_true rfl), (Nat.le_of_ble_eq_true rfl)⟩) (v_preV (q0 := 0) (ci := 0) (q := (RX0, TX0, 3)) (fs := [.ref xk, .ref xb, .ref xo]) vT_mv trivial hP rfl rfl (hP.sub (ws' := [(q_1, .inr (0, [.ref xk, .ref xb, .ref xo])), (xk, .inl (dB, 32, .inl kf)), (xb, .inl (dB, 8, .inl bf)), (xo, .inl (dB, 8, .inl uf))]) [0, 1, 2, 3] rfl) (hD.sub (ws' := [(q_1, .inr (0, [.ref xk, .ref xb, .ref xo])), (xk, .inl (dB, 32, .inl kf)), (xb, .inl (dB, 8, .inl bf)), (xo, .inl (dB, 8, .inl uf))]) [0, 1, 2, 3] (by decide) rfl) hK) rfl rfl hl.1 rfl (lv_room (Nat.le_of_ble_eq_true rfl)) dL_law_144 ⟨by show _ ≤ 600096; omega, by show _ ≤ 7301386; omega⟩) hP hD hS hA [0, 1, 2, 3] [4, 5, 6, 7] rfl rfl (by decide) (by decide) (fun _ H locs _ hP hD hS => ?_)
          have hP : va_P D vwCl [(q_3, .inr (1, [.ref mk, .ref mb, .ref mo])), (mk, .inl (dN, 32, .inl kg)), (mb, .inl (dN, 8, .inl bg)), (mo, .inl (dN, 8, .inl ug)), (q_1, .inr (0, [.ref xk, .ref xb, .ref xo])), (xk, .inl (dB, 32, .inl kf)), (xb, .inl (dB, 8, .inl (rc_wD (rc_wD bf 0 (xs (k + 1))) 4 (xs (k + 2))))), (xo, .inl (dB, 8, .inl uf))] H := hP
          have hD : va_D A [(q_3, .inr (1, [.ref mk, .ref mb, .ref mo])), (mk, .inl (dN, 32, .inl kg)), (mb, .inl (dN, 8, .inl bg)), (mo, .inl (dN, 8, .inl ug)), (q_1, .inr (0, [.ref xk, .ref xb, .ref xo])), (xk, .inl (dB, 32, .inl kf)), (xb, .inl (dB, 8, .inl (rc_wD (rc_wD bf 0 (xs (k + 1))) 4 (xs (k + 2))))), (xo, .inl (dB, 8, .inl uf))] := hD
          refine lv_aload_n hx hb dL_law_147 rfl (lv_at hl 2 rfl) ?_
          refine lv_aload_n hx hb dL_law_148 rfl (lv_at hl 0 rfl) ?_
          refine lv_iload_n hx hb dL_law_149 rfl (lv_at hl 3 rfl) ?_
          refine lv_iconst (v := 1) hx hb dL_law_150 (by decide) ?_
          refine lv_iadd hx hb dL_law_151 ?_
          refine v_sld hx hb hXs hbl hbA hS (k := (k + 1)) (v_add rfl rfl) (by omega) hL31 dL_law_152 ?_
          refine lv_aload_n hx hb dL_law_153 rfl (lv_at hl 0 rfl) ?_
          refine lv_iload_n hx hb dL_law_154 rfl (lv_at hl 3 rfl) ?_
          refine lv_iconst (v := 2) hx hb dL_law_155 (by decide) ?_
          refine lv_iadd hx hb dL_law_156 ?_
          refine v_sld hx hb hXs hbl hbA hS (k := (k + 2)) (v_add rfl rfl) (by omega) hL31 dL_law_157 ?_
          refine v_callv (wr := [(q_1, .inr (0, [.ref xk, .ref xb, .ref xo])), (xk, .inl (dB, 32, .inl kf)), (xb, .inl (dB, 8, .inl (rc_wD (rc_wD bf 0 (xs (k + 1))) 4 (xs (k + 2))))), (xo, .inl (dB, 8, .inl uf))]) (va_runV (As := [.int (xs (k + 1)), .int (xs (k + 2))]) (rest := []) ⟨hx, hb, hml, hown, hts⟩ (metX1_block l D dB dN H.size q_3 mk mb mo kg bg ug (xs (k + 1)) (xs (k + 2))) (cwV 2 hts (lw_V q261 q262 q263 q13 q264) rfl rfl rfl (by decide +kernel) ⟨(Nat.le_of_ble_eq_true rfl), (Nat.le_of_ble_eq_true rfl)⟩) (v_preV (q0 := 0) (ci := 1) (q := (RX1, TX1, 3)) (fs := [.ref mk, .ref mb, .ref mo]) vT_mv trivial hP rfl rfl (hP.sub (ws' := [(q_3, .inr (1, [.ref mk, .ref mb, .ref mo])), (mk, .inl (dN, 32, .inl kg)), (mb, .inl (dN, 8, .inl bg)), (mo, .inl (dN, 8, .inl ug))]) [0, 1, 2, 3] rfl) (hD.sub (ws' := [(q_3, .inr (1, [.ref mk, .ref mb, .ref mo])), (mk, .inl (dN, 32, .inl kg)), (mb, .inl (dN, 8, .inl bg)), (mo, .inl (dN, 8, .inl ug))]) [0, 1, 2, 3] (by decide) rfl) hK) rfl rfl hl.1 rfl (lv_room (Nat.le_of_ble_eq_true rfl)) dL_law_158 ⟨by show _ ≤ 600096; omega, by show _ ≤ 7301386; omega⟩) hP hD hS hA [0, 1, 2, 3] [4, 5, 6, 7] rfl rfl (by decide) (by decide) (fun _ H locs _ hP hD hS => ?_)
          have hP : va_P D vwCl [(q_1, .inr (0, [.ref xk, .ref xb, .ref xo])), (xk, .inl (dB, 32, .inl kf)), (xb, .inl (dB, 8, .inl (rc_wD (rc_wD bf 0 (xs (k + 1))) 4 (xs (k + 2))))), (xo, .inl (dB, 8, .inl uf)), (q_3, .inr (1, [.ref mk, .ref mb, .ref mo])), (mk, .inl (dN, 32, .inl kg)), (mb, .inl (dN, 8, .inl (rc_wM (rc_wM bg 0 (xs (k + 1)) 4) 4 (xs (k + 2)) 4))), (mo, .inl (dN, 8, .inl ug))] H := hP
          have hD : va_D A [(q_1, .inr (0, [.ref xk, .ref xb, .ref xo])), (xk, .inl (dB, 32, .inl kf)), (xb, .inl (dB, 8, .inl (rc_wD (rc_wD bf 0 (xs (k + 1))) 4 (xs (k + 2))))), (xo, .inl (dB, 8, .inl uf)), (q_3, .inr (1, [.ref mk, .ref mb, .ref mo])), (mk, .inl (dN, 32, .inl kg)), (mb, .inl (dN, 8, .inl (rc_wM (rc_wM bg 0 (xs (k + 1)) 4) 4 (xs (k + 2)) 4))), (mo, .inl (dN, 8, .inl ug))] := hD
          refine lv_goto (tgt := 240) hx hb dL_law_161 (by decide) ?_
          refine W.widen (k := 8 + 2 * k + 8) (n := 102 + 16 * k + 96) (by omega) (by omega) ?_
          exact nxt kf (rc_wD (rc_wD bf 0 (xs (k + 1))) 4 (xs (k + 2))) uf kg (rc_wM (rc_wM bg 0 (xs (k + 1)) 4) 4 (xs (k + 2)) 4) ug H locs ls rk (rc_relW (rc_relW rb _ _) _ _) ru (hP.sub [0, 1, 2, 3, 4, 5, 6, 7] rfl) (hD.sub [0, 1, 2, 3, 4, 5, 6, 7] (by decide) rfl) hS (lv_sub hl [0, 1, 2, 3] rfl)
        · refine lv_tableIn (tgt := 164) hx hb dL_law_33 (by decide) (by decide) (off := 131) (by decide) (by decide) ?_
          refine lv_aload_n hx hb dL_law_164 rfl (lv_at hl 1 rfl) ?_
          refine lv_aload_n hx hb dL_law_165 rfl (lv_at hl 0 rfl) ?_
          refine lv_iload_n hx hb dL_law_166 rfl (lv_at hl 3 rfl) ?_
          refine lv_iconst (v := 1) hx hb dL_law_167 (by decide) ?_
          refine lv_iadd hx hb dL_law_168 ?_
          refine v_sld hx hb hXs hbl hbA hS (k := (k + 1)) (v_add rfl rfl) (by omega) hL31 dL_law_169 ?_
          refine v_callv (wr := [(q_3, .inr (1, [.ref mk, .ref mb, .ref mo])), (mk, .inl (dN, 32, .inl kg)), (mb, .inl (dN, 8, .inl bg)), (mo, .inl (dN, 8, .inl ug))]) (va_runV (As := [.int (xs (k + 1))]) (rest := []) ⟨hx, hb, hml, hown, hts⟩ (metX0_lock l D dB dN H.size q_1 xk xb xo kf bf uf (xs (k + 1))) (cwV 1 hts (lw_V q51 q52 q53 q12 q54) rfl rfl rfl (by decide +kernel) ⟨(Nat.le_of_ble_eq_true rfl), (Nat.le_of_ble_eq_true rfl)⟩) (v_preV (q0 := 0) (ci := 0) (q := (RX0, TX0, 3)) (fs := [.ref xk, .ref xb, .ref xo]) vX_mv hX hP rfl rfl (hP.sub (ws' := [(q_1, .inr (0, [.ref xk, .ref xb, .ref xo])), (xk, .inl (dB, 32, .inl kf)), (xb, .inl (dB, 8, .inl bf)), (xo, .inl (dB, 8, .inl uf))]) [0, 1, 2, 3] rfl) (hD.sub (ws' := [(q_1, .inr (0, [.ref xk, .ref xb, .ref xo])), (xk, .inl (dB, 32, .inl kf)), (xb, .inl (dB, 8, .inl bf)), (xo, .inl (dB, 8, .inl uf))]) [0, 1, 2, 3] (by decide) rfl) hK) rfl rfl hl.1 rfl (lv_room (Nat.le_of_ble_eq_true rfl)) dL_law_170 ⟨by show _ ≤ 600096; omega, by show _ ≤ 7301386; omega⟩) hP hD hS hA [0, 1, 2, 3] [4, 5, 6, 7] rfl rfl (by decide) (by decide) (fun _ H locs _ hP hD hS => ?_)
          have hP : va_P D vwCl [(q_3, .inr (1, [.ref mk, .ref mb, .ref mo])), (mk, .inl (dN, 32, .inl kg)), (mb, .inl (dN, 8, .inl bg)), (mo, .inl (dN, 8, .inl ug)), (q_1, .inr (0, [.ref xk, .ref xb, .ref xo])), (xk, .inl (dB, 32, .inl kf)), (xb, .inl (dB, 8, .inl bf)), (xo, .inl (dB, 8, .inl (rc_oD 1 kf bf uf)))] H := hP
          have hD : va_D A [(q_3, .inr (1, [.ref mk, .ref mb, .ref mo])), (mk, .inl (dN, 32, .inl kg)), (mb, .inl (dN, 8, .inl bg)), (mo, .inl (dN, 8, .inl ug)), (q_1, .inr (0, [.ref xk, .ref xb, .ref xo])), (xk, .inl (dB, 32, .inl kf)), (xb, .inl (dB, 8, .inl bf)), (xo, .inl (dB, 8, .inl (rc_oD 1 kf bf uf)))] := hD
          refine lv_aload_n hx hb dL_law_173 rfl (lv_at hl 2 rfl) ?_
          refine lv_aload_n hx hb dL_law_174 rfl (lv_at hl 0 rfl) ?_
          refine lv_iload_n hx hb dL_law_175 rfl (lv_at hl 3 rfl) ?_
          refine lv_iconst (v := 1) hx hb dL_law_176 (by decide) ?_
          refine lv_iadd hx hb dL_law_177 ?_
          refine v_sld hx hb hXs hbl hbA hS (k := (k + 1)) (v_add rfl rfl) (by omega) hL31 dL_law_178 ?_
          refine v_callv (wr := [(q_1, .inr (0, [.ref xk, .ref xb, .ref xo])), (xk, .inl (dB, 32, .inl kf)), (xb, .inl (dB, 8, .inl bf)), (xo, .inl (dB, 8, .inl (rc_oD 1 kf bf uf)))]) (va_runV (As := [.int (xs (k + 1))]) (rest := []) ⟨hx, hb, hml, hown, hts⟩ (metX1_lock l D dB dN H.size q_3 mk mb mo kg bg ug (xs (k + 1))) (cwV 1 hts (lw_V q265 q266 q267 q13 q268) rfl rfl rfl (by decide +kernel) ⟨(Nat.le_of_ble_eq_true rfl), (Nat.le_of_ble_eq_true rfl)⟩) (v_preV (q0 := 0) (ci := 1) (q := (RX1, TX1, 3)) (fs := [.ref mk, .ref mb, .ref mo]) vT_mv trivial hP rfl rfl (hP.sub (ws' := [(q_3, .inr (1, [.ref mk, .ref mb, .ref mo])), (mk, .inl (dN, 32, .inl kg)), (mb, .inl (dN, 8, .inl bg)), (mo, .inl (dN, 8, .inl ug))]) [0, 1, 2, 3] rfl) (hD.sub (ws' := [(q_3, .inr (1, [.ref mk, .ref mb, .ref mo])), (mk, .inl (dN, 32, .inl kg)), (mb, .inl (dN, 8, .inl bg)), (mo, .inl (dN, 8, .inl ug))]) [0, 1, 2, 3] (by decide) rfl) hK) rfl rfl hl.1 rfl (lv_room (Nat.le_of_ble_eq_true rfl)) dL_law_179 ⟨by show _ ≤ 600096; omega, by show _ ≤ 7301386; omega⟩) hP hD hS hA [0, 1, 2, 3] [4, 5, 6, 7] rfl rfl (by decide) (by decide) (fun _ H locs _ hP hD hS => ?_)
          have hP : va_P D vwCl [(q_1, .inr (0, [.ref xk, .ref xb, .ref xo])), (xk, .inl (dB, 32, .inl kf)), (xb, .inl (dB, 8, .inl bf)), (xo, .inl (dB, 8, .inl (rc_oD 1 kf bf uf))), (q_3, .inr (1, [.ref mk, .ref mb, .ref mo])), (mk, .inl (dN, 32, .inl kg)), (mb, .inl (dN, 8, .inl bg)), (mo, .inl (dN, 8, .inl (rc_oR 1 kg bg ug)))] H := hP
          have hD : va_D A [(q_1, .inr (0, [.ref xk, .ref xb, .ref xo])), (xk, .inl (dB, 32, .inl kf)), (xb, .inl (dB, 8, .inl bf)), (xo, .inl (dB, 8, .inl (rc_oD 1 kf bf uf))), (q_3, .inr (1, [.ref mk, .ref mb, .ref mo])), (mk, .inl (dN, 32, .inl kg)), (mb, .inl (dN, 8, .inl bg)), (mo, .inl (dN, 8, .inl (rc_oR 1 kg bg ug)))] := hD
          refine lv_goto (tgt := 240) hx hb dL_law_182 (by decide) ?_
          refine W.widen (k := 8 + 2 * k + 8) (n := 102 + 16 * k + 96) (by omega) (by omega) ?_
          exact nxt kf bf (rc_oD 1 kf bf uf) kg bg (rc_oR 1 kg bg ug) H locs ls rk rb (rc_relRD rk rb 1 uf ug) (hP.sub [0, 1, 2, 3, 4, 5, 6, 7] rfl) (hD.sub [0, 1, 2, 3, 4, 5, 6, 7] (by decide) rfl) hS (lv_sub hl [0, 1, 2, 3] rfl)
        · refine lv_tableIn (tgt := 185) hx hb dL_law_33 (by decide) (by decide) (off := 152) (by decide) (by decide) ?_
          refine lv_aload_n hx hb dL_law_185 rfl (lv_at hl 1 rfl) ?_
          refine lv_aload_n hx hb dL_law_186 rfl (lv_at hl 0 rfl) ?_
          refine lv_iload_n hx hb dL_law_187 rfl (lv_at hl 3 rfl) ?_
          refine lv_iconst (v := 1) hx hb dL_law_188 (by decide) ?_
          refine lv_iadd hx hb dL_law_189 ?_
          refine v_sld hx hb hXs hbl hbA hS (k := (k + 1)) (v_add rfl rfl) (by omega) hL31 dL_law_190 ?_
          refine v_callv (wr := [(q_3, .inr (1, [.ref mk, .ref mb, .ref mo])), (mk, .inl (dN, 32, .inl kg)), (mb, .inl (dN, 8, .inl bg)), (mo, .inl (dN, 8, .inl ug))]) (va_runV (As := [.int (xs (k + 1))]) (rest := []) ⟨hx, hb, hml, hown, hts⟩ (metX0_open l D dB dN H.size q_1 xk xb xo kf bf uf (xs (k + 1))) (cwV 1 hts (lw_V q226 q227 q228 q12 q229) rfl rfl rfl (by decide +kernel) ⟨(Nat.le_of_ble_eq_true rfl), (Nat.le_of_ble_eq_true rfl)⟩) (v_preV (q0 := 0) (ci := 0) (q := (RX0, TX0, 3)) (fs := [.ref xk, .ref xb, .ref xo]) vX_mv hX hP rfl rfl (hP.sub (ws' := [(q_1, .inr (0, [.ref xk, .ref xb, .ref xo])), (xk, .inl (dB, 32, .inl kf)), (xb, .inl (dB, 8, .inl bf)), (xo, .inl (dB, 8, .inl uf))]) [0, 1, 2, 3] rfl) (hD.sub (ws' := [(q_1, .inr (0, [.ref xk, .ref xb, .ref xo])), (xk, .inl (dB, 32, .inl kf)), (xb, .inl (dB, 8, .inl bf)), (xo, .inl (dB, 8, .inl uf))]) [0, 1, 2, 3] (by decide) rfl) hK) rfl rfl hl.1 rfl (lv_room (Nat.le_of_ble_eq_true rfl)) dL_law_191 ⟨by show _ ≤ 600096; omega, by show _ ≤ 7301386; omega⟩) hP hD hS hA [0, 1, 2, 3] [4, 5, 6, 7] rfl rfl (by decide) (by decide) (fun _ H locs _ hP hD hS => ?_)
          have hP : va_P D vwCl [(q_3, .inr (1, [.ref mk, .ref mb, .ref mo])), (mk, .inl (dN, 32, .inl kg)), (mb, .inl (dN, 8, .inl bg)), (mo, .inl (dN, 8, .inl ug)), (q_1, .inr (0, [.ref xk, .ref xb, .ref xo])), (xk, .inl (dB, 32, .inl kf)), (xb, .inl (dB, 8, .inl bf)), (xo, .inl (dB, 8, .inl (rc_oD 0 kf bf uf)))] H := hP
          have hD : va_D A [(q_3, .inr (1, [.ref mk, .ref mb, .ref mo])), (mk, .inl (dN, 32, .inl kg)), (mb, .inl (dN, 8, .inl bg)), (mo, .inl (dN, 8, .inl ug)), (q_1, .inr (0, [.ref xk, .ref xb, .ref xo])), (xk, .inl (dB, 32, .inl kf)), (xb, .inl (dB, 8, .inl bf)), (xo, .inl (dB, 8, .inl (rc_oD 0 kf bf uf)))] := hD
          refine lv_aload_n hx hb dL_law_194 rfl (lv_at hl 2 rfl) ?_
          refine lv_aload_n hx hb dL_law_195 rfl (lv_at hl 0 rfl) ?_
          refine lv_iload_n hx hb dL_law_196 rfl (lv_at hl 3 rfl) ?_
          refine lv_iconst (v := 1) hx hb dL_law_197 (by decide) ?_
          refine lv_iadd hx hb dL_law_198 ?_
          refine v_sld hx hb hXs hbl hbA hS (k := (k + 1)) (v_add rfl rfl) (by omega) hL31 dL_law_199 ?_
          refine v_callv (wr := [(q_1, .inr (0, [.ref xk, .ref xb, .ref xo])), (xk, .inl (dB, 32, .inl kf)), (xb, .inl (dB, 8, .inl bf)), (xo, .inl (dB, 8, .inl (rc_oD 0 kf bf uf)))]) (va_runV (As := [.int (xs (k + 1))]) (rest := []) ⟨hx, hb, hml, hown, hts⟩ (metX1_open l D dB dN H.size q_3 mk mb mo kg bg ug (xs (k + 1))) (cwV 1 hts (lw_V q285 q286 q287 q13 q288) rfl rfl rfl (by decide +kernel) ⟨(Nat.le_of_ble_eq_true rfl), (Nat.le_of_ble_eq_true rfl)⟩) (v_preV (q0 := 0) (ci := 1) (q := (RX1, TX1, 3)) (fs := [.ref mk, .ref mb, .ref mo]) vT_mv trivial hP rfl rfl (hP.sub (ws' := [(q_3, .inr (1, [.ref mk, .ref mb, .ref mo])), (mk, .inl (dN, 32, .inl kg)), (mb, .inl (dN, 8, .inl bg)), (mo, .inl (dN, 8, .inl ug))]) [0, 1, 2, 3] rfl) (hD.sub (ws' := [(q_3, .inr (1, [.ref mk, .ref mb, .ref mo])), (mk, .inl (dN, 32, .inl kg)), (mb, .inl (dN, 8, .inl bg)), (mo, .inl (dN, 8, .inl ug))]) [0, 1, 2, 3] (by decide) rfl) hK) rfl rfl hl.1 rfl (lv_room (Nat.le_of_ble_eq_true rfl)) dL_law_200 ⟨by show _ ≤ 600096; omega, by show _ ≤ 7301386; omega⟩) hP hD hS hA [0, 1, 2, 3] [4, 5, 6, 7] rfl rfl (by decide) (by decide) (fun _ H locs _ hP hD hS => ?_)
          have hP : va_P D vwCl [(q_1, .inr (0, [.ref xk, .ref xb, .ref xo])), (xk, .inl (dB, 32, .inl kf)), (xb, .inl (dB, 8, .inl bf)), (xo, .inl (dB, 8, .inl (rc_oD 0 kf bf uf))), (q_3, .inr (1, [.ref mk, .ref mb, .ref mo])), (mk, .inl (dN, 32, .inl kg)), (mb, .inl (dN, 8, .inl bg)), (mo, .inl (dN, 8, .inl (rc_oR 0 kg bg ug)))] H := hP
          have hD : va_D A [(q_1, .inr (0, [.ref xk, .ref xb, .ref xo])), (xk, .inl (dB, 32, .inl kf)), (xb, .inl (dB, 8, .inl bf)), (xo, .inl (dB, 8, .inl (rc_oD 0 kf bf uf))), (q_3, .inr (1, [.ref mk, .ref mb, .ref mo])), (mk, .inl (dN, 32, .inl kg)), (mb, .inl (dN, 8, .inl bg)), (mo, .inl (dN, 8, .inl (rc_oR 0 kg bg ug)))] := hD
          refine lv_goto (tgt := 240) hx hb dL_law_203 (by decide) ?_
          refine W.widen (k := 8 + 2 * k + 8) (n := 102 + 16 * k + 96) (by omega) (by omega) ?_
          exact nxt kf bf (rc_oD 0 kf bf uf) kg bg (rc_oR 0 kg bg ug) H locs ls rk rb (rc_relRD rk rb 0 uf ug) (hP.sub [0, 1, 2, 3, 4, 5, 6, 7] rfl) (hD.sub [0, 1, 2, 3, 4, 5, 6, 7] (by decide) rfl) hS (lv_sub hl [0, 1, 2, 3] rfl)
        · refine lv_tableIn (tgt := 206) hx hb dL_law_33 (by decide) (by decide) (off := 173) (by decide) (by decide) ?_
          refine lv_aload_n hx hb dL_law_206 rfl (lv_at hl 1 rfl) ?_
          refine v_callv (wr := [(q_3, .inr (1, [.ref mk, .ref mb, .ref mo])), (mk, .inl (dN, 32, .inl kg)), (mb, .inl (dN, 8, .inl bg)), (mo, .inl (dN, 8, .inl ug))]) (va_runV (As := []) (rest := []) ⟨hx, hb, hml, hown, hts⟩ (metX0_again l D dB dN H.size q_1 xk xb xo kf bf uf) (cwV 0 hts (lw_V q230 q231 q232 q12 q233) rfl rfl rfl (by decide +kernel) ⟨(Nat.le_of_ble_eq_true rfl), (Nat.le_of_ble_eq_true rfl)⟩) (v_preV (q0 := 0) (ci := 0) (q := (RX0, TX0, 3)) (fs := [.ref xk, .ref xb, .ref xo]) vT_mv trivial hP rfl rfl (hP.sub (ws' := [(q_1, .inr (0, [.ref xk, .ref xb, .ref xo])), (xk, .inl (dB, 32, .inl kf)), (xb, .inl (dB, 8, .inl bf)), (xo, .inl (dB, 8, .inl uf))]) [0, 1, 2, 3] rfl) (hD.sub (ws' := [(q_1, .inr (0, [.ref xk, .ref xb, .ref xo])), (xk, .inl (dB, 32, .inl kf)), (xb, .inl (dB, 8, .inl bf)), (xo, .inl (dB, 8, .inl uf))]) [0, 1, 2, 3] (by decide) rfl) hK) rfl rfl hl.1 rfl (lv_room (Nat.le_of_ble_eq_true rfl)) dL_law_207 ⟨by show _ ≤ 600096; omega, by show _ ≤ 7301386; omega⟩) hP hD hS hA [0, 1, 2, 3] [4, 5, 6, 7] rfl rfl (by decide) (by decide) (fun _ H locs _ hP hD hS => ?_)
          have hP : va_P D vwCl [(q_3, .inr (1, [.ref mk, .ref mb, .ref mo])), (mk, .inl (dN, 32, .inl kg)), (mb, .inl (dN, 8, .inl bg)), (mo, .inl (dN, 8, .inl ug)), (q_1, .inr (0, [.ref xk, .ref xb, .ref xo])), (xk, .inl (dB, 32, .inl kf)), (xb, .inl (dB, 8, .inl (rc_cD bf uf 8))), (xo, .inl (dB, 8, .inl uf))] H := hP
          have hD : va_D A [(q_3, .inr (1, [.ref mk, .ref mb, .ref mo])), (mk, .inl (dN, 32, .inl kg)), (mb, .inl (dN, 8, .inl bg)), (mo, .inl (dN, 8, .inl ug)), (q_1, .inr (0, [.ref xk, .ref xb, .ref xo])), (xk, .inl (dB, 32, .inl kf)), (xb, .inl (dB, 8, .inl (rc_cD bf uf 8))), (xo, .inl (dB, 8, .inl uf))] := hD
          refine lv_aload_n hx hb dL_law_210 rfl (lv_at hl 2 rfl) ?_
          refine v_callv (wr := [(q_1, .inr (0, [.ref xk, .ref xb, .ref xo])), (xk, .inl (dB, 32, .inl kf)), (xb, .inl (dB, 8, .inl (rc_cD bf uf 8))), (xo, .inl (dB, 8, .inl uf))]) (va_runV (As := []) (rest := []) ⟨hx, hb, hml, hown, hts⟩ (metX1_again l D dB dN H.size q_3 mk mb mo kg bg ug) (cwV 0 hts (lw_V q289 q290 q291 q13 q292) rfl rfl rfl (by decide +kernel) ⟨(Nat.le_of_ble_eq_true rfl), (Nat.le_of_ble_eq_true rfl)⟩) (v_preV (q0 := 0) (ci := 1) (q := (RX1, TX1, 3)) (fs := [.ref mk, .ref mb, .ref mo]) vT_mv trivial hP rfl rfl (hP.sub (ws' := [(q_3, .inr (1, [.ref mk, .ref mb, .ref mo])), (mk, .inl (dN, 32, .inl kg)), (mb, .inl (dN, 8, .inl bg)), (mo, .inl (dN, 8, .inl ug))]) [0, 1, 2, 3] rfl) (hD.sub (ws' := [(q_3, .inr (1, [.ref mk, .ref mb, .ref mo])), (mk, .inl (dN, 32, .inl kg)), (mb, .inl (dN, 8, .inl bg)), (mo, .inl (dN, 8, .inl ug))]) [0, 1, 2, 3] (by decide) rfl) hK) rfl rfl hl.1 rfl (lv_room (Nat.le_of_ble_eq_true rfl)) dL_law_211 ⟨by show _ ≤ 600096; omega, by show _ ≤ 7301386; omega⟩) hP hD hS hA [0, 1, 2, 3] [4, 5, 6, 7] rfl rfl (by decide) (by decide) (fun _ H locs _ hP hD hS => ?_)
          have hP : va_P D vwCl [(q_1, .inr (0, [.ref xk, .ref xb, .ref xo])), (xk, .inl (dB, 32, .inl kf)), (xb, .inl (dB, 8, .inl (rc_cD bf uf 8))), (xo, .inl (dB, 8, .inl uf)), (q_3, .inr (1, [.ref mk, .ref mb, .ref mo])), (mk, .inl (dN, 32, .inl kg)), (mb, .inl (dN, 8, .inl (rc_cM bg ug 8))), (mo, .inl (dN, 8, .inl ug))] H := hP
          have hD : va_D A [(q_1, .inr (0, [.ref xk, .ref xb, .ref xo])), (xk, .inl (dB, 32, .inl kf)), (xb, .inl (dB, 8, .inl (rc_cD bf uf 8))), (xo, .inl (dB, 8, .inl uf)), (q_3, .inr (1, [.ref mk, .ref mb, .ref mo])), (mk, .inl (dN, 32, .inl kg)), (mb, .inl (dN, 8, .inl (rc_cM bg ug 8))), (mo, .inl (dN, 8, .inl ug))] := hD
          refine lv_goto (tgt := 240) hx hb dL_law_214 (by decide) ?_
          refine W.widen (k := 8 + 2 * k + 8) (n := 102 + 16 * k + 96) (by omega) (by omega) ?_
          exact nxt kf (rc_cD bf uf 8) uf kg (rc_cM bg ug 8) ug H locs ls rk (rc_relC ru bf bg) ru (hP.sub [0, 1, 2, 3, 4, 5, 6, 7] rfl) (hD.sub [0, 1, 2, 3, 4, 5, 6, 7] (by decide) rfl) hS (lv_sub hl [0, 1, 2, 3] rfl)
        · refine lv_tableIn (tgt := 217) hx hb dL_law_33 (by decide) (by decide) (off := 184) (by decide) (by decide) ?_
          obtain ⟨j, hj, ej⟩ := pk_andE (xs (k + 1)) (m := 7) 3 rfl
          refine lv_aload_n hx hb dL_law_217 rfl (lv_at hl 1 rfl) ?_
          refine lv_aload_n hx hb dL_law_218 rfl (lv_at hl 0 rfl) ?_
          refine lv_iload_n hx hb dL_law_219 rfl (lv_at hl 3 rfl) ?_
          refine lv_iconst (v := 1) hx hb dL_law_220 (by decide) ?_
          refine lv_iadd hx hb dL_law_221 ?_
          refine v_sld hx hb hXs hbl hbA hS (k := (k + 1)) (v_add rfl rfl) (by omega) hL31 dL_law_222 ?_
          refine vp_callSi (W.runV (As := [.int (xs (k + 1))]) (rest := []) ⟨hx, hb, hml, hown, hts⟩ (metX0_out l D dB dN H.size q_1 xk xb xo uf (xs (k + 1)) j hj ej) (cwV 1 hts (lw_V q234 q235 q236 q12 q237) rfl rfl rfl (by decide +kernel) ⟨(Nat.le_of_ble_eq_true rfl), (Nat.le_of_ble_eq_true rfl)⟩) (v_preV (q0 := 0) (ci := 0) (q := (RX0, TX0, 3)) (fs := [.ref xk, .ref xb, .ref xo]) vT_mv trivial hP rfl rfl (hP.sub (ws' := [(q_1, .inr (0, [.ref xk, .ref xb, .ref xo])), (xo, .inl (dB, 8, .inl uf))]) [0, 3] rfl) (hD.sub (ws' := [(q_1, .inr (0, [.ref xk, .ref xb, .ref xo])), (xo, .inl (dB, 8, .inl uf))]) [0, 3] (by decide) rfl) hK) rfl rfl hl.1 rfl (lv_room (Nat.le_of_ble_eq_true rfl)) dL_law_223 ⟨by show _ ≤ 600096; omega, by show _ ≤ 7301386; omega⟩) (fun r1 er1 => ?_)
          refine lv_aload_n hx hb dL_law_226 rfl (lv_at hl 2 rfl) ?_
          refine lv_aload_n hx hb dL_law_227 rfl (lv_at hl 0 rfl) ?_
          refine lv_iload_n hx hb dL_law_228 rfl (lv_at hl 3 rfl) ?_
          refine lv_iconst (v := 1) hx hb dL_law_229 (by decide) ?_
          refine lv_iadd hx hb dL_law_230 ?_
          refine v_sld hx hb hXs hbl hbA hS (k := (k + 1)) (v_add rfl rfl) (by omega) hL31 dL_law_231 ?_
          refine vp_callSi (W.runV (As := [.int (xs (k + 1))]) (rest := [.int r1]) ⟨hx, hb, hml, hown, hts⟩ (metX1_out l D dB dN H.size q_3 mk mb mo ug (xs (k + 1)) j hj ej) (cwV 1 hts (lw_V q293 q294 q295 q13 q296) rfl rfl rfl (by decide +kernel) ⟨(Nat.le_of_ble_eq_true rfl), (Nat.le_of_ble_eq_true rfl)⟩) (v_preV (q0 := 4) (ci := 1) (q := (RX1, TX1, 3)) (fs := [.ref mk, .ref mb, .ref mo]) vT_mv trivial hP rfl rfl (hP.sub (ws' := [(q_3, .inr (1, [.ref mk, .ref mb, .ref mo])), (mo, .inl (dN, 8, .inl ug))]) [4, 7] rfl) (hD.sub (ws' := [(q_3, .inr (1, [.ref mk, .ref mb, .ref mo])), (mo, .inl (dN, 8, .inl ug))]) [4, 7] (by decide) rfl) hK) rfl rfl hl.1 rfl (lv_room (Nat.le_of_ble_eq_true rfl)) dL_law_232 ⟨by show _ ≤ 600096; omega, by show _ ≤ 7301386; omega⟩) (fun r2 er2 => ?_)
          refine lv_icmp_eq (tgt := 240) hx hb dL_law_235 (by decide) (fun _ => ?_) (fun c2 => absurd (by rw [er1, er2]; exact (ru j hj).symm) c2)
          refine W.widen (k := 8 + 2 * k + 8) (n := 102 + 16 * k + 96) (by omega) (by omega) ?_
          exact nxt kf bf uf kg bg ug H locs ls rk rb ru (hP.sub [0, 1, 2, 3, 4, 5, 6, 7] rfl) (hD.sub [0, 1, 2, 3, 4, 5, 6, 7] (by decide) rfl) hS (lv_sub hl [0, 1, 2, 3] rfl)
        · refine lv_tableOut (tgt := 240) hx hb dL_law_33 (by decide) (by decide) ?_
          refine W.widen (k := 8 + 2 * k + 8) (n := 102 + 16 * k + 96) (by omega) (by omega) ?_
          exact nxt kf bf uf kg bg ug H locs ls rk rb ru (hP.sub [0, 1, 2, 3, 4, 5, 6, 7] rfl) (hD.sub [0, 1, 2, 3, 4, 5, 6, 7] (by decide) rfl) hS (lv_sub hl [0, 1, 2, 3] rfl)
        · refine lv_tableOut (tgt := 240) hx hb dL_law_33 (by decide) (by decide) ?_
          refine W.widen (k := 8 + 2 * k + 8) (n := 102 + 16 * k + 96) (by omega) (by omega) ?_
          exact nxt kf bf uf kg bg ug H locs ls rk rb ru (hP.sub [0, 1, 2, 3, 4, 5, 6, 7] rfl) (hD.sub [0, 1, 2, 3, 4, 5, 6, 7] (by decide) rfl) hS (lv_sub hl [0, 1, 2, 3] rfl)
  exact loop1 (L + 1) 0 (fun _ => 0) (fun _ => 0) (fun _ => 0) (fun _ => 0) (fun _ => 0) (fun _ => 0) _ _ _ (by omega) (Nat.zero_le L) (fun _ _ => (by decide : (0 : Int32) = 0 &&& 255)) (fun _ _ => (by decide : (0 : Int32) = 0 &&& 255)) (fun _ _ => (by decide : (0 : Int32) = 0 &&& 255)) (hP.sub [0, 1, 2, 3, 4, 5, 6, 7] rfl) (hD.sub [0, 1, 2, 3, 4, 5, 6, 7] (by decide) rfl) hS (lv_sub hl [3, 2, 1, 0] rfl)
set_option maxHeartbeats 4000000 in
theorem lw_walk (l : Launch) (hflags : l.flags = flags0) (b : Addr) (xs : List Int32) : MetFree l x (headSpec (Jvm.Cond.code x code maxLocals ret :: tables_1) room_1) (lw_P b xs) (fun _ _ _ _ _ => True) lw_Q := by
  refine MetFree.of_bodyS (code := code) (maxLocals := maxLocals) (ret := ret) (by decide) ?_ ?_
  · intro args s m h hn
    obtain ⟨meth, c, h1, h2, h3, h4, h5, h6, -, -⟩ := Cond.code_spec hn (atoms_spec (ws := Jvm.Cond.code x code maxLocals ret :: tables_1) h _ List.mem_cons_self)
    exact ⟨meth, c, h1, h2, h3, h4, h5, h6⟩
  · intro p e s m args below meth c s₁ B hml0 hP _
    obtain ⟨rfl, hx, hbd, hgv⟩ := hP
    obtain ⟨scr, harrAt, hlist, hof, hsmall⟩ := hx
    obtain ⟨hcb, hkn, -, -⟩ := State.arrayAt?_spec harrAt
    have hown : s.vm.findClass R_law = some m.cls := findClass_of_methodNamed B.named
    have hts0 : ∀ c ∈ (Jvm.Cond.code x code maxLocals ret :: tables_1), c.before #[Value.ref b] s = true := atoms_spec (ws := Jvm.Cond.code x code maxLocals ret :: tables_1) B.pre
    have hts : ∀ w ∈ lw_tbl, w.before #[Value.ref b] s = true := k2_hts_sels lw_privs (fun w hw => hts0 w (List.mem_cons_of_mem _ hw)) lw_privs_ok
    have hml : c.maxLocals = 4 := B.maxLocals_eq (hts0 _ List.mem_cons_self)
    have X₀ : Stand p l e room_1 s m #[Value.ref b] below meth c s₁ [] 0 0 := Stand.of_body B
    have hh0 : s₁.heap = s.heap := by rw [B.state]; rfl
    have hsz : scr.slots.size = xs.length := by rw [← Array.length_toList, hlist, List.length_map]
    have hval : ∀ j : Nat, j < xs.length → scr.slots[j]? = some (.int (xs.getD j 0)) := fun j hj => by
      rw [← Array.getElem?_toList, hlist]
      simp [hj]
    have hbl : b < s.heap.size := (Array.getElem?_eq_some_iff.mp hcb).1
    have hX : va_X b xs.length (fun j => xs.getD j 0) s s.heap := ⟨scr, hcb, hof, hkn, hsz, hval⟩
    have K : W p l e room_1 s m #[Value.ref b] below meth c s₁.heap [] 0 0 (lw_Z below #[Value.ref b] s) (entryFrame m ([Value.ref b] : List Value).toArray 4) := by
      rw [hh0]
      exact whole_start l hflags hbd ⟨B.exec, B.bytes, B.returns, hml, hown, hts, hX, hbl, B.notSynchronized, hgv⟩
    obtain ⟨t, a1, o, b1, b2, b3⟩ := K s₁ rfl X₀
    exact ⟨t, o, a1, b1, b2, b3⟩
theorem lw_pre_spec {args : Array Value} {s : State} (h : (Jvm.Cond.and given_1 narrow_1).before args s = true) (hr : rest_1_c.before args s = true) : ∃ (b : Addr) (xs : List Int32), lw_P b xs args s := by
  have hs := flat_of_before _ h
  have hq := flat_of_before _ hr
  have hc : (Cond.count 1).before args s = true := hs _ (by decide +kernel)
  have harr : (Cond.arrayOf (.arg 0) .int).before args s = true := hs _ (by decide +kernel)
  have hle : (Cond.le (.length (.arg 0)) (.int 288)).before args s = true := hs _ (by decide +kernel)
  have hlen : (Cond.isInt (.length (.arg 0))).before args s = true := hq _ (by decide +kernel)
  have hall : (Cond.all (.arg 0) (.isInt (.elem (.arg 0) (.index 0)))).before args s = true := hq _ (by decide +kernel)
  obtain ⟨b, xs, hb, hx⟩ := State.ints_of_pre rfl harr hlen hall
  have hsm : xs.length < 2 ^ 31 := hx.choose_spec.2.2.2
  have hev : (Term.length (.arg 0)).eval args s none [] s = some (.int xs.length.toInt32) := hx.length_eval hb
  have hv := Cond.le_ints hev (show (Term.int 288).eval args s none [] s = some (.int 288) from rfl)
  have hd : xs.length.toInt32 ≤ 288 := by
    simpa [Cond.before, Cond.holds, hv] using hle
  have hN : xs.length ≤ 288 := (Int32.ofNat_le_ofNat hsm (by decide)).mp (show Int32.ofNat xs.length ≤ Int32.ofNat 288 from hd)
  exact ⟨b, xs, Cond.one_arg hc (show args[0]? = some (.ref b) from hb), hx, hN, h⟩
theorem lw_comes (l : Launch) (hflags : l.flags = flags0) : Comes l x (Jvm.Cond.code x code maxLocals ret :: tables_1) room_1 (fun tb e args s => Calls_1 tb e args s ∧ rest_1 tb e args s ∧ Pre_1 tb e args s)
    (fun _ _ args s o t => lw_Q args s o t) := by
  intro p e ha hc hk s m args below hf hfit hheap happ hpre
  obtain ⟨b, xs, hP⟩ := lw_pre_spec hpre.2.2 hpre.2.1
  obtain ⟨k, o, h1, h2, h3, hQ⟩ := lw_walk l hflags b xs p e ha hc hk s m args below hf ((Spec.applies_iff_loose hf).mp happ).1 hP trivial
  exact ⟨k, o, h1, h2, h3, hQ⟩
theorem lw_frame {s t : State} {o : Outcome} {args : Array Value} (h : Framed s o t [] 600096 7301386) :
    Framed s o t (fieldLocs frame_1_writes args s ++ arrayLocs frame_1_arrays args s ++ staticLocs frame_1_statics s) 600096 7301386 := h
theorem lw_limb (L : Cond) (hL : ∀ (args : Array Value) (s t : State), L.after args s (.returned (some (.int 1))) t = true) :
    ArmFor flags0 classFile x code maxLocals ret World_1 tables_1 room_1 Calls_1 rest_1 Pre_1
      (fun tb e a s o t => postC L tb e a s o t ∧ Framed s o t (fieldLocs frame_1_writes a s ++ arrayLocs frame_1_arrays a s ++ staticLocs frame_1_statics s) 600096 7301386) := by
  intro l hflags _ _ p e ha hc hk s m args below hf hfit hheap happ hpre
  obtain ⟨k, o, h1, h2, h3, rfl, hF⟩ := lw_comes l hflags p e ha hc hk s m args below hf hfit hheap happ hpre
  exact ⟨k, _, h1, h2, h3, hL args s _, lw_frame hF⟩
theorem i_vc : Claimed_1_1 ∧ Claimed_1_2 := ⟨lw_limb limb_1_1 (fun args s t => by simp [limb_1_1, Cond.after, Cond.holds, Cond.value]), lw_limb limb_1_2 (fun args s t => Cond.after_iff.mpr (by
  first | (rw [show limb_1_2 = Cond.eq .result (.int 1) from rfl, Cond.eq_ints (x := 1) (y := 1) rfl rfl]; simp; done) | (simp [limb_1_2, Cond.value, Term.eval]; done)))⟩
end
