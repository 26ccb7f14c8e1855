section
-- ===== PART A: goes FIRST, ahead of the names: the tables' words, and 'selects' of the private methods out of them =====
/-- a private method of a class that the tables say can be made, by its rows of tables_1 -/
def lw_okq (q : MethodName × Nat) : Prop := (q.1.cls ≠ "java/lang/invoke/MethodHandle" ∧ q.1.cls ≠ "java/lang/invoke/VarHandle") ∧ Cond.instantiable q.1.cls q.2 ∈ tables_1 ∧ Cond.privateMethod q.1 ∈ tables_1 ∧ Cond.instanceMethod q.1 ∈ tables_1
set_option maxRecDepth 100000
theorem lw_t1 {w : Cond} (h : w ∈ tables_1_1) : w ∈ tables_1 := List.mem_append_left _ h
theorem lw_t2 {w : Cond} (h : w ∈ tables_1_2) : w ∈ tables_1 := List.mem_append_right _ h
theorem lw_p0 : lw_okq (⟨"RcWideDesk", "run", "(ZI)V"⟩, 3) := ⟨⟨by decide +kernel, by decide +kernel⟩, lw_t1 (List.mem_of_getElem? (i := 10) rfl), lw_t1 (List.mem_of_getElem? (i := 44) rfl), lw_t1 (List.mem_of_getElem? (i := 45) rfl)⟩
theorem lw_p1 : lw_okq (⟨"java/lang/Throwable", "fillInStackTrace", "(I)Ljava/lang/Throwable;"⟩, 6) := ⟨⟨by decide +kernel, by decide +kernel⟩, lw_t1 (List.mem_of_getElem? (i := 109) rfl), lw_t1 (List.mem_of_getElem? (i := 107) rfl), lw_t1 (List.mem_of_getElem? (i := 108) rfl)⟩
theorem lw_p2 : lw_okq (⟨"RC564Engine", "setKey", "([B)V"⟩, 3) := ⟨⟨by decide +kernel, by decide +kernel⟩, lw_t1 (List.mem_of_getElem? (i := 51) rfl), lw_t1 (List.mem_of_getElem? (i := 170) rfl), lw_t1 (List.mem_of_getElem? (i := 171) rfl)⟩
theorem lw_p3 : lw_okq (⟨"RC564Engine", "rotateLeft", "(JJ)J"⟩, 3) := ⟨⟨by decide +kernel, by decide +kernel⟩, lw_t1 (List.mem_of_getElem? (i := 51) rfl), lw_t1 (List.mem_of_getElem? (i := 177) rfl), lw_t1 (List.mem_of_getElem? (i := 178) rfl)⟩
theorem lw_p4 : lw_okq (⟨"RC564Engine", "encryptBlock", "([BI[BI)I"⟩, 3) := ⟨⟨by decide +kernel, by decide +kernel⟩, lw_t1 (List.mem_of_getElem? (i := 51) rfl), lw_t1 (List.mem_of_getElem? (i := 192) rfl), lw_t1 (List.mem_of_getElem? (i := 193) rfl)⟩
theorem lw_p5 : lw_okq (⟨"RC564Engine", "bytesToWord", "([BI)J"⟩, 3) := ⟨⟨by decide +kernel, by decide +kernel⟩, lw_t1 (List.mem_of_getElem? (i := 51) rfl), lw_t1 (List.mem_of_getElem? (i := 196) rfl), lw_t1 (List.mem_of_getElem? (i := 197) rfl)⟩
theorem lw_p6 : lw_okq (⟨"RC564Engine", "wordToBytes", "(J[BI)V"⟩, 3) := ⟨⟨by decide +kernel, by decide +kernel⟩, lw_t1 (List.mem_of_getElem? (i := 51) rfl), lw_t1 (List.mem_of_getElem? (i := 200) rfl), lw_t1 (List.mem_of_getElem? (i := 201) rfl)⟩
theorem lw_p7 : lw_okq (⟨"RC564Engine", "decryptBlock", "([BI[BI)I"⟩, 3) := ⟨⟨by decide +kernel, by decide +kernel⟩, lw_t1 (List.mem_of_getElem? (i := 51) rfl), lw_t1 (List.mem_of_getElem? (i := 204) rfl), lw_t1 (List.mem_of_getElem? (i := 205) rfl)⟩
theorem lw_p8 : lw_okq (⟨"RC564Engine", "rotateRight", "(JJ)J"⟩, 3) := ⟨⟨by decide +kernel, by decide +kernel⟩, lw_t1 (List.mem_of_getElem? (i := 51) rfl), lw_t1 (List.mem_of_getElem? (i := 208) rfl), lw_t1 (List.mem_of_getElem? (i := 209) rfl)⟩
def lw_privs_1 : List (MethodName × Nat) := [(⟨"RcWideDesk", "run", "(ZI)V"⟩, 3), (⟨"java/lang/Throwable", "fillInStackTrace", "(I)Ljava/lang/Throwable;"⟩, 6), (⟨"RC564Engine", "setKey", "([B)V"⟩, 3), (⟨"RC564Engine", "rotateLeft", "(JJ)J"⟩, 3), (⟨"RC564Engine", "encryptBlock", "([BI[BI)I"⟩, 3), (⟨"RC564Engine", "bytesToWord", "([BI)J"⟩, 3), (⟨"RC564Engine", "wordToBytes", "(J[BI)V"⟩, 3), (⟨"RC564Engine", "decryptBlock", "([BI[BI)I"⟩, 3), (⟨"RC564Engine", "rotateRight", "(JJ)J"⟩, 3)]
theorem lw_r1 : ∀ q ∈ lw_privs_1, lw_okq q := List.forall_mem_cons.mpr ⟨lw_p0, List.forall_mem_cons.mpr ⟨lw_p1, List.forall_mem_cons.mpr ⟨lw_p2, List.forall_mem_cons.mpr ⟨lw_p3, List.forall_mem_cons.mpr ⟨lw_p4, List.forall_mem_cons.mpr ⟨lw_p5, List.forall_mem_cons.mpr ⟨lw_p6, List.forall_mem_cons.mpr ⟨lw_p7, List.forall_mem_cons.mpr ⟨lw_p8, fun _ h => absurd h List.not_mem_nil⟩⟩⟩⟩⟩⟩⟩⟩⟩
def lw_privs : List (MethodName × Nat) := lw_privs_1
def lw_tbl : List Cond := k2_sels lw_privs ++ tables_1
theorem lw_privs_ok : ∀ q ∈ lw_privs, lw_okq q := lw_r1
-- ===== ONE list of words for every method: the tables' words that hold all through a run =====
def lw_all : List Cond := lw_tbl.filter goodWord
/-- a word of the tables by its place: claim/WORDS.tsv -/
theorem lw_w {w : Cond} (i : Nat) (h : lw_tbl[i]? = some w) (g : goodWord w = true) : w ∈ lw_all := List.mem_filter.mpr ⟨List.mem_of_getElem? h, g⟩
theorem lw_all_tbl {w : Cond} (h : w ∈ lw_all) : w ∈ lw_tbl := (List.mem_filter.mp h).1
theorem lw_self : GoodIn lw_all lw_all := fun w h => ⟨h, good_of_word (List.mem_filter.mp h).2⟩
/-- a class's field words, by their places -/
theorem lw_in (ws : List Cond) (ps : List Nat) (hp : ws = ps.filterMap (fun i => lw_tbl[i]?)) (hg : ws.all goodWord = true) : ∀ w ∈ ws, w ∈ lw_all := by
  intro w h
  have h1 := List.all_eq_true.mp hg w h
  rw [hp] at h
  obtain ⟨i, -, hi⟩ := List.mem_filterMap.mp h
  exact lw_w i hi h1
/-- the words of a contract for the method y with code b, L locals, answer r -/
abbrev ws_ (y : MethodName) (b : ByteArray) (L : Nat) (r : Option FieldType) : List Cond := Cond.code y b L r :: lw_all
theorem lw_meth {y : MethodName} {b : ByteArray} {L : Nat} {r : Option FieldType} (h : Cond.code y b L r ∈ lw_all) : GoodIn lw_all (ws_ y b L r) := by
  intro w hw
  rcases List.mem_cons.mp hw with e | e
  · rw [e]
    exact lw_self _ h
  · exact lw_self _ e
theorem lw_app {a c : List Cond} (ha : ∀ w ∈ a, w ∈ lw_all) (hc : GoodIn lw_all c) : GoodIn lw_all (a ++ c) := by
  intro w hw
  rcases List.mem_append.mp hw with e | e
  · exact lw_self w (ha w e)
  · exact hc w e
/-- what a call through an object asks: cwV n hts (lw_V ..) -/
theorem lw_V {own : String} {idx : Nat} {C : String} {y : MethodName} {b : ByteArray} {L : Nat} {r : Option FieldType} (h1 : Cond.methodLink own idx y ∈ lw_all) (h2 : Cond.instanceMethod y ∈ lw_all) (h3 : Cond.selects C y y ∈ lw_all) (h4 : Cond.initialized C ∈ lw_all) (h5 : Cond.code y b L r ∈ lw_all) : GoodIn lw_all (wsV own idx C y (ws_ y b L r)) := by
  refine lw_app ?_ (lw_meth h5)
  intro w hw
  simp only [List.mem_cons, List.not_mem_nil, or_false] at hw
  rcases hw with e | e | e | e
  · rw [e]; exact h1
  · rw [e]; exact h2
  · rw [e]; exact h3
  · rw [e]; exact h4
/-- what a static call asks: va_cwS n hts (lw_S ..) -/
theorem lw_S {own : String} {idx : Nat} {y : MethodName} {b : ByteArray} {L : Nat} {r : Option FieldType} (h1 : Cond.methodLink own idx y ∈ lw_all) (h2 : Cond.static y ∈ lw_all) (h3 : Cond.initialized y.cls ∈ lw_all) (h4 : Cond.code y b L r ∈ lw_all) : GoodIn lw_all (va_wsS own idx y (ws_ y b L r)) := by
  refine lw_app ?_ (lw_meth h4)
  intro w hw
  simp only [List.mem_cons, List.not_mem_nil, or_false] at hw
  rcases hw with e | e | e
  · rw [e]; exact h1
  · rw [e]; exact h2
  · rw [e]; exact h3
/-- the words of a contract for a method WITH HANDLERS (hh: its table) -/
abbrev wsW_ (y : MethodName) (b : ByteArray) (L : Nat) (r : Option FieldType) (hh : List (Nat × Nat × Nat × Nat)) : List Cond := Cond.codeWith y b L r hh :: lw_all
theorem lw_methW {y : MethodName} {b : ByteArray} {L : Nat} {r : Option FieldType} {hh : List (Nat × Nat × Nat × Nat)} (h : Cond.codeWith y b L r hh ∈ lw_all) : GoodIn lw_all (wsW_ y b L r hh) := by
  intro w hw
  rcases List.mem_cons.mp hw with e | e
  · rw [e]
    exact lw_self _ h
  · exact lw_self _ e
/-- any list of words by their places (lw_in), good -/
theorem lw_good {ws : List Cond} (h : ∀ w ∈ ws, w ∈ lw_all) : GoodIn lw_all ws := fun w hw => lw_self w (h w hw)
/-- what a call of a method with handlers asks: vx_cwVW n hts (lw_VW ..), vx_cwSW n hts (lw_SW ..) -/
theorem lw_VW {own : String} {idx : Nat} {C : String} {y : MethodName} {b : ByteArray} {L : Nat} {r : Option FieldType} {hh : List (Nat × Nat × Nat × Nat)} (h1 : Cond.methodLink own idx y ∈ lw_all) (h2 : Cond.instanceMethod y ∈ lw_all) (h3 : Cond.selects C y y ∈ lw_all) (h4 : Cond.initialized C ∈ lw_all) (h5 : Cond.codeWith y b L r hh ∈ lw_all) : GoodIn lw_all (wsV own idx C y (wsW_ y b L r hh)) := by
  refine lw_app ?_ (lw_methW h5)
  intro w hw
  simp only [List.mem_cons, List.not_mem_nil, or_false] at hw
  rcases hw with e | e | e | e
  · rw [e]; exact h1
  · rw [e]; exact h2
  · rw [e]; exact h3
  · rw [e]; exact h4
theorem lw_SW {own : String} {idx : Nat} {y : MethodName} {b : ByteArray} {L : Nat} {r : Option FieldType} {hh : List (Nat × Nat × Nat × Nat)} (h1 : Cond.methodLink own idx y ∈ lw_all) (h2 : Cond.static y ∈ lw_all) (h3 : Cond.initialized y.cls ∈ lw_all) (h4 : Cond.codeWith y b L r hh ∈ lw_all) : GoodIn lw_all (va_wsS own idx y (wsW_ y b L r hh)) := by
  refine lw_app ?_ (lw_methW h4)
  intro w hw
  simp only [List.mem_cons, List.not_mem_nil, or_false] at hw
  rcases hw with e | e | e
  · rw [e]; exact h1
  · rw [e]; exact h2
  · rw [e]; exact h3
/-- a word by its place in its run of the tables -/
theorem lw_at {r : List Cond} (hr : ∀ w ∈ r, w ∈ lw_tbl) {w : Cond} (i : Nat) (h : r[i]? = some w) : w ∈ lw_tbl := hr w (List.mem_of_getElem? h)
theorem lw_g {w : Cond} (h : w ∈ lw_tbl) (g : goodWord w = true) : w ∈ lw_all := List.mem_filter.mpr ⟨h, g⟩
theorem lw_ms : ∀ w ∈ k2_sels lw_privs, w ∈ lw_tbl := fun w h => show w ∈ k2_sels lw_privs ++ tables_1 from List.mem_append_left _ h
theorem lw_m1 : ∀ w ∈ tables_1_1, w ∈ lw_tbl := fun w h => show w ∈ k2_sels lw_privs ++ tables_1 from List.mem_append_right (k2_sels lw_privs) (show w ∈ tables_1 from List.mem_append_left _ h)
theorem lw_m2 : ∀ w ∈ tables_1_2, w ∈ lw_tbl := fun w h => show w ∈ k2_sels lw_privs ++ tables_1 from List.mem_append_right (k2_sels lw_privs) (show w ∈ tables_1 from List.mem_append_right _ h)
theorem qs0 : (Cond.selects "RcWideDesk" ⟨"RcWideDesk", "run", "(ZI)V"⟩ ⟨"RcWideDesk", "run", "(ZI)V"⟩) ∈ lw_all := lw_g (lw_at lw_ms 0 rfl) rfl
theorem qs1 : (Cond.selects "java/lang/Throwable" ⟨"java/lang/Throwable", "fillInStackTrace", "(I)Ljava/lang/Throwable;"⟩ ⟨"java/lang/Throwable", "fillInStackTrace", "(I)Ljava/lang/Throwable;"⟩) ∈ lw_all := lw_g (lw_at lw_ms 1 rfl) rfl
theorem qs2 : (Cond.selects "RC564Engine" ⟨"RC564Engine", "setKey", "([B)V"⟩ ⟨"RC564Engine", "setKey", "([B)V"⟩) ∈ lw_all := lw_g (lw_at lw_ms 2 rfl) rfl
theorem qs3 : (Cond.selects "RC564Engine" ⟨"RC564Engine", "rotateLeft", "(JJ)J"⟩ ⟨"RC564Engine", "rotateLeft", "(JJ)J"⟩) ∈ lw_all := lw_g (lw_at lw_ms 3 rfl) rfl
theorem qs4 : (Cond.selects "RC564Engine" ⟨"RC564Engine", "encryptBlock", "([BI[BI)I"⟩ ⟨"RC564Engine", "encryptBlock", "([BI[BI)I"⟩) ∈ lw_all := lw_g (lw_at lw_ms 4 rfl) rfl
theorem qs5 : (Cond.selects "RC564Engine" ⟨"RC564Engine", "bytesToWord", "([BI)J"⟩ ⟨"RC564Engine", "bytesToWord", "([BI)J"⟩) ∈ lw_all := lw_g (lw_at lw_ms 5 rfl) rfl
theorem qs6 : (Cond.selects "RC564Engine" ⟨"RC564Engine", "wordToBytes", "(J[BI)V"⟩ ⟨"RC564Engine", "wordToBytes", "(J[BI)V"⟩) ∈ lw_all := lw_g (lw_at lw_ms 6 rfl) rfl
theorem qs7 : (Cond.selects "RC564Engine" ⟨"RC564Engine", "decryptBlock", "([BI[BI)I"⟩ ⟨"RC564Engine", "decryptBlock", "([BI[BI)I"⟩) ∈ lw_all := lw_g (lw_at lw_ms 7 rfl) rfl
theorem qs8 : (Cond.selects "RC564Engine" ⟨"RC564Engine", "rotateRight", "(JJ)J"⟩ ⟨"RC564Engine", "rotateRight", "(JJ)J"⟩) ∈ lw_all := lw_g (lw_at lw_ms 8 rfl) rfl
end
section
/-! DECODE ROWS BY BYTES: one lemma an opcode; a method's code is cut into short pieces once, and a row reads its own piece alone. -/
set_option maxRecDepth 100000
/-- the code has just these bytes from pc on -/
def DkAt (code : ByteArray) (pc : Nat) (bs : List UInt8) : Prop := ∀ (j : Nat) (b : UInt8), bs[j]? = some b → code.data.toList[pc + j]? = some b
/-- the piece W has the bytes bs from its place j on -/
def dkIn (W : List UInt8) (j : Nat) (bs : List UInt8) : Bool := decide ((W.drop j).take bs.length = bs)
theorem dk_seg {l W T : List UInt8} {o o2 : Nat} (h : l.drop o = W ++ T) (n : Nat) (hn : W.length = n) (ho : o + n = o2) : l.drop o2 = T := by
  subst ho
  rw [← List.drop_drop, h, List.drop_left' hn]
theorem dk_at {code : ByteArray} {W T bs : List UInt8} {o pc : Nat} (h : code.data.toList.drop o = W ++ T) (j : Nat) (hp : o + j = pc) (hw : dkIn W j bs = true) : DkAt code pc bs := by
  subst hp
  intro i b e
  have h1 := of_decide_eq_true hw
  have h2 : i < bs.length := (List.getElem?_eq_some_iff.mp e).1
  have h3 : W[j + i]? = some b := by
    rw [← h1, List.getElem?_take, if_pos h2, List.getElem?_drop] at e
    exact e
  have h4 : j + i < W.length := (List.getElem?_eq_some_iff.mp h3).1
  have h5 : (code.data.toList.drop o)[j + i]? = some b := by
    rw [h, List.getElem?_append_left h4]
    exact h3
  rw [List.getElem?_drop, ← Nat.add_assoc] at h5
  exact h5
theorem dk_u1 {A : ByteArray} {p : Nat} {b : UInt8} (h : A.data.toList[p]? = some b) : (Reader.u1 : Reader DecodeError Nat) A p = .ok (b.toNat, p + 1) := by
  obtain ⟨h1, h2⟩ := List.getElem?_eq_some_iff.mp h
  have h3 : p < A.size := by simpa using h1
  have h4 : A[p]'h3 = b := h2
  have e : (Reader.u1 : Reader DecodeError Nat) A p = (if h : p < A.size then .ok (A[p].toNat, p + 1) else .error (HasTruncated.truncated p)) := by
    show (do if h : p < A.size then do set (p + 1); Pure.pure A[p].toNat else MonadExcept.throw (HasTruncated.truncated p) : Reader DecodeError Nat) A p = _
    by_cases hi : p < A.size
    · rw [dif_pos hi, dif_pos hi]; rfl
    · rw [dif_neg hi, dif_neg hi]; rfl
  rw [e, dif_pos h3, h4]
theorem dk_bind {α β : Type} {r : Reader DecodeError α} {f : α → Reader DecodeError β} {A : ByteArray} {p s : Nat} {a : α} (h : r A p = .ok (a, s)) : (r >>= f) A p = f a A s := by
  show (do let (a, s) ← r A p; f a A s : Except DecodeError (β × Nat)) = _
  rw [h]
  rfl
theorem dk_map {α β : Type} {r : Reader DecodeError α} {g : α → β} {A : ByteArray} {p s : Nat} {a : α} (h : r A p = .ok (a, s)) : (g <$> r) A p = .ok (g a, s) := by
  show (do let (a, s) ← r A p; .ok (g a, s) : Except DecodeError (β × Nat)) = _
  rw [h]
  rfl
theorem dk_u2 {A : ByteArray} {p : Nat} {a b : UInt8} (h : A.data.toList[p]? = some a) (h2 : A.data.toList[p + 1]? = some b) : (Reader.u2 : Reader DecodeError Nat) A p = .ok (a.toNat * 256 + b.toNat, p + 2) := by
  show (Reader.u1 >>= fun hi => Reader.u1 >>= fun lo => Pure.pure (hi * 256 + lo) : Reader DecodeError Nat) A p = _
  rw [dk_bind (dk_u1 h), dk_bind (dk_u1 h2)]
  rfl
theorem dk_of {code : ByteArray} {pc n : Nat} {i : Instr} (h : Decoder.instr pc code pc = .ok (i, pc + n)) : decode code pc = .ok (i, n) := by
  have e : decode code pc = (match Decoder.instr pc code pc with | .error x => .error x | .ok (j, s) => .ok (j, s - pc)) := by
    show (do let (j, s) ← Decoder.instr pc code pc; Pure.pure (j, s - pc) : Except DecodeError (Instr × Nat)) = _
    cases Decoder.instr pc code pc <;> rfl
  rw [e, h]
  show Except.ok (i, pc + n - pc) = _
  rw [Nat.add_sub_cancel_left]
theorem dk_1 {code : ByteArray} {pc : Nat} (h : DkAt code pc [1]) : decode code pc = .ok (.aconst_null, 1) := dk_of ((dk_bind (dk_u1 (h 0 _ rfl))).trans rfl)
theorem dk_2 {code : ByteArray} {pc : Nat} (h : DkAt code pc [2]) : decode code pc = .ok (.iconst (-1), 1) := dk_of ((dk_bind (dk_u1 (h 0 _ rfl))).trans rfl)
theorem dk_3 {code : ByteArray} {pc : Nat} (h : DkAt code pc [3]) : decode code pc = .ok (.iconst 0, 1) := dk_of ((dk_bind (dk_u1 (h 0 _ rfl))).trans rfl)
theorem dk_4 {code : ByteArray} {pc : Nat} (h : DkAt code pc [4]) : decode code pc = .ok (.iconst 1, 1) := dk_of ((dk_bind (dk_u1 (h 0 _ rfl))).trans rfl)
theorem dk_5 {code : ByteArray} {pc : Nat} (h : DkAt code pc [5]) : decode code pc = .ok (.iconst 2, 1) := dk_of ((dk_bind (dk_u1 (h 0 _ rfl))).trans rfl)
theorem dk_6 {code : ByteArray} {pc : Nat} (h : DkAt code pc [6]) : decode code pc = .ok (.iconst 3, 1) := dk_of ((dk_bind (dk_u1 (h 0 _ rfl))).trans rfl)
theorem dk_7 {code : ByteArray} {pc : Nat} (h : DkAt code pc [7]) : decode code pc = .ok (.iconst 4, 1) := dk_of ((dk_bind (dk_u1 (h 0 _ rfl))).trans rfl)
theorem dk_8 {code : ByteArray} {pc : Nat} (h : DkAt code pc [8]) : decode code pc = .ok (.iconst 5, 1) := dk_of ((dk_bind (dk_u1 (h 0 _ rfl))).trans rfl)
theorem dk_9 {code : ByteArray} {pc : Nat} (h : DkAt code pc [9]) : decode code pc = .ok (.lconst 0, 1) := dk_of ((dk_bind (dk_u1 (h 0 _ rfl))).trans rfl)
theorem dk_16 {code : ByteArray} {pc : Nat} (a : UInt8) (h : DkAt code pc [16, a]) : decode code pc = .ok (.bipush (Reader.signed 8 a.toNat), 2) := dk_of ((dk_bind (dk_u1 (h 0 _ rfl))).trans ((dk_bind (dk_map (dk_u1 (h 1 _ rfl)))).trans rfl))
theorem dk_17 {code : ByteArray} {pc : Nat} (a b : UInt8) (h : DkAt code pc [17, a, b]) : decode code pc = .ok (.sipush (Reader.signed 16 (a.toNat * 256 + b.toNat)), 3) := dk_of ((dk_bind (dk_u1 (h 0 _ rfl))).trans ((dk_bind (dk_map (dk_u2 (h 1 _ rfl) (h 2 _ rfl)))).trans rfl))
theorem dk_18 {code : ByteArray} {pc : Nat} (a : UInt8) (h : DkAt code pc [18, a]) : decode code pc = .ok (.ldc a.toNat, 2) := dk_of ((dk_bind (dk_u1 (h 0 _ rfl))).trans ((dk_bind (dk_u1 (h 1 _ rfl))).trans rfl))
theorem dk_20 {code : ByteArray} {pc : Nat} (a b : UInt8) (h : DkAt code pc [20, a, b]) : decode code pc = .ok (.ldc2_w (a.toNat * 256 + b.toNat), 3) := dk_of ((dk_bind (dk_u1 (h 0 _ rfl))).trans ((dk_bind (dk_u2 (h 1 _ rfl) (h 2 _ rfl))).trans rfl))
theorem dk_21 {code : ByteArray} {pc : Nat} (a : UInt8) (h : DkAt code pc [21, a]) : decode code pc = .ok (.iload a.toNat, 2) := dk_of ((dk_bind (dk_u1 (h 0 _ rfl))).trans ((dk_bind (dk_u1 (h 1 _ rfl))).trans rfl))
theorem dk_22 {code : ByteArray} {pc : Nat} (a : UInt8) (h : DkAt code pc [22, a]) : decode code pc = .ok (.lload a.toNat, 2) := dk_of ((dk_bind (dk_u1 (h 0 _ rfl))).trans ((dk_bind (dk_u1 (h 1 _ rfl))).trans rfl))
theorem dk_25 {code : ByteArray} {pc : Nat} (a : UInt8) (h : DkAt code pc [25, a]) : decode code pc = .ok (.aload a.toNat, 2) := dk_of ((dk_bind (dk_u1 (h 0 _ rfl))).trans ((dk_bind (dk_u1 (h 1 _ rfl))).trans rfl))
theorem dk_26 {code : ByteArray} {pc : Nat} (h : DkAt code pc [26]) : decode code pc = .ok (.iload_n 0, 1) := dk_of ((dk_bind (dk_u1 (h 0 _ rfl))).trans rfl)
theorem dk_27 {code : ByteArray} {pc : Nat} (h : DkAt code pc [27]) : decode code pc = .ok (.iload_n 1, 1) := dk_of ((dk_bind (dk_u1 (h 0 _ rfl))).trans rfl)
theorem dk_28 {code : ByteArray} {pc : Nat} (h : DkAt code pc [28]) : decode code pc = .ok (.iload_n 2, 1) := dk_of ((dk_bind (dk_u1 (h 0 _ rfl))).trans rfl)
theorem dk_29 {code : ByteArray} {pc : Nat} (h : DkAt code pc [29]) : decode code pc = .ok (.iload_n 3, 1) := dk_of ((dk_bind (dk_u1 (h 0 _ rfl))).trans rfl)
theorem dk_30 {code : ByteArray} {pc : Nat} (h : DkAt code pc [30]) : decode code pc = .ok (.lload_n 0, 1) := dk_of ((dk_bind (dk_u1 (h 0 _ rfl))).trans rfl)
theorem dk_31 {code : ByteArray} {pc : Nat} (h : DkAt code pc [31]) : decode code pc = .ok (.lload_n 1, 1) := dk_of ((dk_bind (dk_u1 (h 0 _ rfl))).trans rfl)
theorem dk_32 {code : ByteArray} {pc : Nat} (h : DkAt code pc [32]) : decode code pc = .ok (.lload_n 2, 1) := dk_of ((dk_bind (dk_u1 (h 0 _ rfl))).trans rfl)
theorem dk_33 {code : ByteArray} {pc : Nat} (h : DkAt code pc [33]) : decode code pc = .ok (.lload_n 3, 1) := dk_of ((dk_bind (dk_u1 (h 0 _ rfl))).trans rfl)
theorem dk_42 {code : ByteArray} {pc : Nat} (h : DkAt code pc [42]) : decode code pc = .ok (.aload_n 0, 1) := dk_of ((dk_bind (dk_u1 (h 0 _ rfl))).trans rfl)
theorem dk_43 {code : ByteArray} {pc : Nat} (h : DkAt code pc [43]) : decode code pc = .ok (.aload_n 1, 1) := dk_of ((dk_bind (dk_u1 (h 0 _ rfl))).trans rfl)
theorem dk_44 {code : ByteArray} {pc : Nat} (h : DkAt code pc [44]) : decode code pc = .ok (.aload_n 2, 1) := dk_of ((dk_bind (dk_u1 (h 0 _ rfl))).trans rfl)
theorem dk_45 {code : ByteArray} {pc : Nat} (h : DkAt code pc [45]) : decode code pc = .ok (.aload_n 3, 1) := dk_of ((dk_bind (dk_u1 (h 0 _ rfl))).trans rfl)
theorem dk_46 {code : ByteArray} {pc : Nat} (h : DkAt code pc [46]) : decode code pc = .ok (.iaload, 1) := dk_of ((dk_bind (dk_u1 (h 0 _ rfl))).trans rfl)
theorem dk_47 {code : ByteArray} {pc : Nat} (h : DkAt code pc [47]) : decode code pc = .ok (.laload, 1) := dk_of ((dk_bind (dk_u1 (h 0 _ rfl))).trans rfl)
theorem dk_51 {code : ByteArray} {pc : Nat} (h : DkAt code pc [51]) : decode code pc = .ok (.baload, 1) := dk_of ((dk_bind (dk_u1 (h 0 _ rfl))).trans rfl)
theorem dk_54 {code : ByteArray} {pc : Nat} (a : UInt8) (h : DkAt code pc [54, a]) : decode code pc = .ok (.istore a.toNat, 2) := dk_of ((dk_bind (dk_u1 (h 0 _ rfl))).trans ((dk_bind (dk_u1 (h 1 _ rfl))).trans rfl))
theorem dk_55 {code : ByteArray} {pc : Nat} (a : UInt8) (h : DkAt code pc [55, a]) : decode code pc = .ok (.lstore a.toNat, 2) := dk_of ((dk_bind (dk_u1 (h 0 _ rfl))).trans ((dk_bind (dk_u1 (h 1 _ rfl))).trans rfl))
theorem dk_58 {code : ByteArray} {pc : Nat} (a : UInt8) (h : DkAt code pc [58, a]) : decode code pc = .ok (.astore a.toNat, 2) := dk_of ((dk_bind (dk_u1 (h 0 _ rfl))).trans ((dk_bind (dk_u1 (h 1 _ rfl))).trans rfl))
theorem dk_60 {code : ByteArray} {pc : Nat} (h : DkAt code pc [60]) : decode code pc = .ok (.istore_n 1, 1) := dk_of ((dk_bind (dk_u1 (h 0 _ rfl))).trans rfl)
theorem dk_61 {code : ByteArray} {pc : Nat} (h : DkAt code pc [61]) : decode code pc = .ok (.istore_n 2, 1) := dk_of ((dk_bind (dk_u1 (h 0 _ rfl))).trans rfl)
theorem dk_62 {code : ByteArray} {pc : Nat} (h : DkAt code pc [62]) : decode code pc = .ok (.istore_n 3, 1) := dk_of ((dk_bind (dk_u1 (h 0 _ rfl))).trans rfl)
theorem dk_64 {code : ByteArray} {pc : Nat} (h : DkAt code pc [64]) : decode code pc = .ok (.lstore_n 1, 1) := dk_of ((dk_bind (dk_u1 (h 0 _ rfl))).trans rfl)
theorem dk_65 {code : ByteArray} {pc : Nat} (h : DkAt code pc [65]) : decode code pc = .ok (.lstore_n 2, 1) := dk_of ((dk_bind (dk_u1 (h 0 _ rfl))).trans rfl)
theorem dk_66 {code : ByteArray} {pc : Nat} (h : DkAt code pc [66]) : decode code pc = .ok (.lstore_n 3, 1) := dk_of ((dk_bind (dk_u1 (h 0 _ rfl))).trans rfl)
theorem dk_76 {code : ByteArray} {pc : Nat} (h : DkAt code pc [76]) : decode code pc = .ok (.astore_n 1, 1) := dk_of ((dk_bind (dk_u1 (h 0 _ rfl))).trans rfl)
theorem dk_77 {code : ByteArray} {pc : Nat} (h : DkAt code pc [77]) : decode code pc = .ok (.astore_n 2, 1) := dk_of ((dk_bind (dk_u1 (h 0 _ rfl))).trans rfl)
theorem dk_78 {code : ByteArray} {pc : Nat} (h : DkAt code pc [78]) : decode code pc = .ok (.astore_n 3, 1) := dk_of ((dk_bind (dk_u1 (h 0 _ rfl))).trans rfl)
theorem dk_80 {code : ByteArray} {pc : Nat} (h : DkAt code pc [80]) : decode code pc = .ok (.lastore, 1) := dk_of ((dk_bind (dk_u1 (h 0 _ rfl))).trans rfl)
theorem dk_84 {code : ByteArray} {pc : Nat} (h : DkAt code pc [84]) : decode code pc = .ok (.bastore, 1) := dk_of ((dk_bind (dk_u1 (h 0 _ rfl))).trans rfl)
theorem dk_87 {code : ByteArray} {pc : Nat} (h : DkAt code pc [87]) : decode code pc = .ok (.pop, 1) := dk_of ((dk_bind (dk_u1 (h 0 _ rfl))).trans rfl)
theorem dk_89 {code : ByteArray} {pc : Nat} (h : DkAt code pc [89]) : decode code pc = .ok (.dup, 1) := dk_of ((dk_bind (dk_u1 (h 0 _ rfl))).trans rfl)
theorem dk_92 {code : ByteArray} {pc : Nat} (h : DkAt code pc [92]) : decode code pc = .ok (.dup2, 1) := dk_of ((dk_bind (dk_u1 (h 0 _ rfl))).trans rfl)
theorem dk_94 {code : ByteArray} {pc : Nat} (h : DkAt code pc [94]) : decode code pc = .ok (.dup2_x2, 1) := dk_of ((dk_bind (dk_u1 (h 0 _ rfl))).trans rfl)
theorem dk_96 {code : ByteArray} {pc : Nat} (h : DkAt code pc [96]) : decode code pc = .ok (.iadd, 1) := dk_of ((dk_bind (dk_u1 (h 0 _ rfl))).trans rfl)
theorem dk_97 {code : ByteArray} {pc : Nat} (h : DkAt code pc [97]) : decode code pc = .ok (.ladd, 1) := dk_of ((dk_bind (dk_u1 (h 0 _ rfl))).trans rfl)
theorem dk_100 {code : ByteArray} {pc : Nat} (h : DkAt code pc [100]) : decode code pc = .ok (.isub, 1) := dk_of ((dk_bind (dk_u1 (h 0 _ rfl))).trans rfl)
theorem dk_101 {code : ByteArray} {pc : Nat} (h : DkAt code pc [101]) : decode code pc = .ok (.lsub, 1) := dk_of ((dk_bind (dk_u1 (h 0 _ rfl))).trans rfl)
theorem dk_104 {code : ByteArray} {pc : Nat} (h : DkAt code pc [104]) : decode code pc = .ok (.imul, 1) := dk_of ((dk_bind (dk_u1 (h 0 _ rfl))).trans rfl)
theorem dk_108 {code : ByteArray} {pc : Nat} (h : DkAt code pc [108]) : decode code pc = .ok (.idiv, 1) := dk_of ((dk_bind (dk_u1 (h 0 _ rfl))).trans rfl)
theorem dk_112 {code : ByteArray} {pc : Nat} (h : DkAt code pc [112]) : decode code pc = .ok (.irem, 1) := dk_of ((dk_bind (dk_u1 (h 0 _ rfl))).trans rfl)
theorem dk_117 {code : ByteArray} {pc : Nat} (h : DkAt code pc [117]) : decode code pc = .ok (.lneg, 1) := dk_of ((dk_bind (dk_u1 (h 0 _ rfl))).trans rfl)
theorem dk_120 {code : ByteArray} {pc : Nat} (h : DkAt code pc [120]) : decode code pc = .ok (.ishl, 1) := dk_of ((dk_bind (dk_u1 (h 0 _ rfl))).trans rfl)
theorem dk_121 {code : ByteArray} {pc : Nat} (h : DkAt code pc [121]) : decode code pc = .ok (.lshl, 1) := dk_of ((dk_bind (dk_u1 (h 0 _ rfl))).trans rfl)
theorem dk_122 {code : ByteArray} {pc : Nat} (h : DkAt code pc [122]) : decode code pc = .ok (.ishr, 1) := dk_of ((dk_bind (dk_u1 (h 0 _ rfl))).trans rfl)
theorem dk_125 {code : ByteArray} {pc : Nat} (h : DkAt code pc [125]) : decode code pc = .ok (.lushr, 1) := dk_of ((dk_bind (dk_u1 (h 0 _ rfl))).trans rfl)
theorem dk_126 {code : ByteArray} {pc : Nat} (h : DkAt code pc [126]) : decode code pc = .ok (.iand, 1) := dk_of ((dk_bind (dk_u1 (h 0 _ rfl))).trans rfl)
theorem dk_127 {code : ByteArray} {pc : Nat} (h : DkAt code pc [127]) : decode code pc = .ok (.land, 1) := dk_of ((dk_bind (dk_u1 (h 0 _ rfl))).trans rfl)
theorem dk_129 {code : ByteArray} {pc : Nat} (h : DkAt code pc [129]) : decode code pc = .ok (.lor, 1) := dk_of ((dk_bind (dk_u1 (h 0 _ rfl))).trans rfl)
theorem dk_130 {code : ByteArray} {pc : Nat} (h : DkAt code pc [130]) : decode code pc = .ok (.ixor, 1) := dk_of ((dk_bind (dk_u1 (h 0 _ rfl))).trans rfl)
theorem dk_131 {code : ByteArray} {pc : Nat} (h : DkAt code pc [131]) : decode code pc = .ok (.lxor, 1) := dk_of ((dk_bind (dk_u1 (h 0 _ rfl))).trans rfl)
theorem dk_132 {code : ByteArray} {pc : Nat} (a b : UInt8) (h : DkAt code pc [132, a, b]) : decode code pc = .ok (.iinc a.toNat (Reader.signed 8 b.toNat), 3) := dk_of ((dk_bind (dk_u1 (h 0 _ rfl))).trans ((dk_bind (dk_u1 (h 1 _ rfl))).trans ((dk_bind (dk_map (dk_u1 (h 2 _ rfl)))).trans rfl)))
theorem dk_133 {code : ByteArray} {pc : Nat} (h : DkAt code pc [133]) : decode code pc = .ok (.i2l, 1) := dk_of ((dk_bind (dk_u1 (h 0 _ rfl))).trans rfl)
theorem dk_136 {code : ByteArray} {pc : Nat} (h : DkAt code pc [136]) : decode code pc = .ok (.l2i, 1) := dk_of ((dk_bind (dk_u1 (h 0 _ rfl))).trans rfl)
theorem dk_145 {code : ByteArray} {pc : Nat} (h : DkAt code pc [145]) : decode code pc = .ok (.i2b, 1) := dk_of ((dk_bind (dk_u1 (h 0 _ rfl))).trans rfl)
theorem dk_153 {code : ByteArray} {pc : Nat} (a b : UInt8) (h : DkAt code pc [153, a, b]) : decode code pc = .ok (.ifCond .eq (Reader.signed 16 (a.toNat * 256 + b.toNat)), 3) := dk_of ((dk_bind (dk_u1 (h 0 _ rfl))).trans ((dk_bind (dk_map (dk_u2 (h 1 _ rfl) (h 2 _ rfl)))).trans rfl))
theorem dk_154 {code : ByteArray} {pc : Nat} (a b : UInt8) (h : DkAt code pc [154, a, b]) : decode code pc = .ok (.ifCond .ne (Reader.signed 16 (a.toNat * 256 + b.toNat)), 3) := dk_of ((dk_bind (dk_u1 (h 0 _ rfl))).trans ((dk_bind (dk_map (dk_u2 (h 1 _ rfl) (h 2 _ rfl)))).trans rfl))
theorem dk_155 {code : ByteArray} {pc : Nat} (a b : UInt8) (h : DkAt code pc [155, a, b]) : decode code pc = .ok (.ifCond .lt (Reader.signed 16 (a.toNat * 256 + b.toNat)), 3) := dk_of ((dk_bind (dk_u1 (h 0 _ rfl))).trans ((dk_bind (dk_map (dk_u2 (h 1 _ rfl) (h 2 _ rfl)))).trans rfl))
theorem dk_158 {code : ByteArray} {pc : Nat} (a b : UInt8) (h : DkAt code pc [158, a, b]) : decode code pc = .ok (.ifCond .le (Reader.signed 16 (a.toNat * 256 + b.toNat)), 3) := dk_of ((dk_bind (dk_u1 (h 0 _ rfl))).trans ((dk_bind (dk_map (dk_u2 (h 1 _ rfl) (h 2 _ rfl)))).trans rfl))
theorem dk_159 {code : ByteArray} {pc : Nat} (a b : UInt8) (h : DkAt code pc [159, a, b]) : decode code pc = .ok (.if_icmp .eq (Reader.signed 16 (a.toNat * 256 + b.toNat)), 3) := dk_of ((dk_bind (dk_u1 (h 0 _ rfl))).trans ((dk_bind (dk_map (dk_u2 (h 1 _ rfl) (h 2 _ rfl)))).trans rfl))
theorem dk_160 {code : ByteArray} {pc : Nat} (a b : UInt8) (h : DkAt code pc [160, a, b]) : decode code pc = .ok (.if_icmp .ne (Reader.signed 16 (a.toNat * 256 + b.toNat)), 3) := dk_of ((dk_bind (dk_u1 (h 0 _ rfl))).trans ((dk_bind (dk_map (dk_u2 (h 1 _ rfl) (h 2 _ rfl)))).trans rfl))
theorem dk_161 {code : ByteArray} {pc : Nat} (a b : UInt8) (h : DkAt code pc [161, a, b]) : decode code pc = .ok (.if_icmp .lt (Reader.signed 16 (a.toNat * 256 + b.toNat)), 3) := dk_of ((dk_bind (dk_u1 (h 0 _ rfl))).trans ((dk_bind (dk_map (dk_u2 (h 1 _ rfl) (h 2 _ rfl)))).trans rfl))
theorem dk_162 {code : ByteArray} {pc : Nat} (a b : UInt8) (h : DkAt code pc [162, a, b]) : decode code pc = .ok (.if_icmp .ge (Reader.signed 16 (a.toNat * 256 + b.toNat)), 3) := dk_of ((dk_bind (dk_u1 (h 0 _ rfl))).trans ((dk_bind (dk_map (dk_u2 (h 1 _ rfl) (h 2 _ rfl)))).trans rfl))
theorem dk_163 {code : ByteArray} {pc : Nat} (a b : UInt8) (h : DkAt code pc [163, a, b]) : decode code pc = .ok (.if_icmp .gt (Reader.signed 16 (a.toNat * 256 + b.toNat)), 3) := dk_of ((dk_bind (dk_u1 (h 0 _ rfl))).trans ((dk_bind (dk_map (dk_u2 (h 1 _ rfl) (h 2 _ rfl)))).trans rfl))
theorem dk_164 {code : ByteArray} {pc : Nat} (a b : UInt8) (h : DkAt code pc [164, a, b]) : decode code pc = .ok (.if_icmp .le (Reader.signed 16 (a.toNat * 256 + b.toNat)), 3) := dk_of ((dk_bind (dk_u1 (h 0 _ rfl))).trans ((dk_bind (dk_map (dk_u2 (h 1 _ rfl) (h 2 _ rfl)))).trans rfl))
theorem dk_167 {code : ByteArray} {pc : Nat} (a b : UInt8) (h : DkAt code pc [167, a, b]) : decode code pc = .ok (.goto (Reader.signed 16 (a.toNat * 256 + b.toNat)), 3) := dk_of ((dk_bind (dk_u1 (h 0 _ rfl))).trans ((dk_bind (dk_map (dk_u2 (h 1 _ rfl) (h 2 _ rfl)))).trans rfl))
theorem dk_172 {code : ByteArray} {pc : Nat} (h : DkAt code pc [172]) : decode code pc = .ok (.ireturn, 1) := dk_of ((dk_bind (dk_u1 (h 0 _ rfl))).trans rfl)
theorem dk_173 {code : ByteArray} {pc : Nat} (h : DkAt code pc [173]) : decode code pc = .ok (.lreturn, 1) := dk_of ((dk_bind (dk_u1 (h 0 _ rfl))).trans rfl)
theorem dk_176 {code : ByteArray} {pc : Nat} (h : DkAt code pc [176]) : decode code pc = .ok (.areturn, 1) := dk_of ((dk_bind (dk_u1 (h 0 _ rfl))).trans rfl)
theorem dk_177 {code : ByteArray} {pc : Nat} (h : DkAt code pc [177]) : decode code pc = .ok (.return_, 1) := dk_of ((dk_bind (dk_u1 (h 0 _ rfl))).trans rfl)
theorem dk_178 {code : ByteArray} {pc : Nat} (a b : UInt8) (h : DkAt code pc [178, a, b]) : decode code pc = .ok (.getstatic (a.toNat * 256 + b.toNat), 3) := dk_of ((dk_bind (dk_u1 (h 0 _ rfl))).trans ((dk_bind (dk_u2 (h 1 _ rfl) (h 2 _ rfl))).trans rfl))
theorem dk_180 {code : ByteArray} {pc : Nat} (a b : UInt8) (h : DkAt code pc [180, a, b]) : decode code pc = .ok (.getfield (a.toNat * 256 + b.toNat), 3) := dk_of ((dk_bind (dk_u1 (h 0 _ rfl))).trans ((dk_bind (dk_u2 (h 1 _ rfl) (h 2 _ rfl))).trans rfl))
theorem dk_181 {code : ByteArray} {pc : Nat} (a b : UInt8) (h : DkAt code pc [181, a, b]) : decode code pc = .ok (.putfield (a.toNat * 256 + b.toNat), 3) := dk_of ((dk_bind (dk_u1 (h 0 _ rfl))).trans ((dk_bind (dk_u2 (h 1 _ rfl) (h 2 _ rfl))).trans rfl))
theorem dk_182 {code : ByteArray} {pc : Nat} (a b : UInt8) (h : DkAt code pc [182, a, b]) : decode code pc = .ok (.invokevirtual (a.toNat * 256 + b.toNat), 3) := dk_of ((dk_bind (dk_u1 (h 0 _ rfl))).trans ((dk_bind (dk_u2 (h 1 _ rfl) (h 2 _ rfl))).trans rfl))
theorem dk_183 {code : ByteArray} {pc : Nat} (a b : UInt8) (h : DkAt code pc [183, a, b]) : decode code pc = .ok (.invokespecial (a.toNat * 256 + b.toNat), 3) := dk_of ((dk_bind (dk_u1 (h 0 _ rfl))).trans ((dk_bind (dk_u2 (h 1 _ rfl) (h 2 _ rfl))).trans rfl))
theorem dk_184 {code : ByteArray} {pc : Nat} (a b : UInt8) (h : DkAt code pc [184, a, b]) : decode code pc = .ok (.invokestatic (a.toNat * 256 + b.toNat), 3) := dk_of ((dk_bind (dk_u1 (h 0 _ rfl))).trans ((dk_bind (dk_u2 (h 1 _ rfl) (h 2 _ rfl))).trans rfl))
theorem dk_187 {code : ByteArray} {pc : Nat} (a b : UInt8) (h : DkAt code pc [187, a, b]) : decode code pc = .ok (.new (a.toNat * 256 + b.toNat), 3) := dk_of ((dk_bind (dk_u1 (h 0 _ rfl))).trans ((dk_bind (dk_u2 (h 1 _ rfl) (h 2 _ rfl))).trans rfl))
theorem dk_188_8 {code : ByteArray} {pc : Nat} (h : DkAt code pc [188, 8]) : decode code pc = .ok (.newarray .byte, 2) := dk_of ((dk_bind (dk_u1 (h 0 _ rfl))).trans ((dk_bind (dk_u1 (h 1 _ rfl))).trans rfl))
theorem dk_188_11 {code : ByteArray} {pc : Nat} (h : DkAt code pc [188, 11]) : decode code pc = .ok (.newarray .long, 2) := dk_of ((dk_bind (dk_u1 (h 0 _ rfl))).trans ((dk_bind (dk_u1 (h 1 _ rfl))).trans rfl))
theorem dk_190 {code : ByteArray} {pc : Nat} (h : DkAt code pc [190]) : decode code pc = .ok (.arraylength, 1) := dk_of ((dk_bind (dk_u1 (h 0 _ rfl))).trans rfl)
theorem dk_191 {code : ByteArray} {pc : Nat} (h : DkAt code pc [191]) : decode code pc = .ok (.athrow, 1) := dk_of ((dk_bind (dk_u1 (h 0 _ rfl))).trans rfl)
theorem dk_192 {code : ByteArray} {pc : Nat} (a b : UInt8) (h : DkAt code pc [192, a, b]) : decode code pc = .ok (.checkcast (a.toNat * 256 + b.toNat), 3) := dk_of ((dk_bind (dk_u1 (h 0 _ rfl))).trans ((dk_bind (dk_u2 (h 1 _ rfl) (h 2 _ rfl))).trans rfl))
theorem dk_193 {code : ByteArray} {pc : Nat} (a b : UInt8) (h : DkAt code pc [193, a, b]) : decode code pc = .ok (.instanceof (a.toNat * 256 + b.toNat), 3) := dk_of ((dk_bind (dk_u1 (h 0 _ rfl))).trans ((dk_bind (dk_u2 (h 1 _ rfl) (h 2 _ rfl))).trans rfl))
/-! java/lang/Object -/
set_option maxRecDepth 100000
def RJ4 : String := "java/lang/Object"
abbrev cJ4_init : ByteArray := object_method_1_code
def yJ4_init : MethodName := ⟨RJ4, "<init>", "()V"⟩
theorem dJ4_init_0 : decode cJ4_init 0 = .ok (.return_, 1) := by decide +kernel
theorem q24 : (Jvm.Cond.instanceMethod ({ cls := "java/lang/Object", name := "<init>", desc := "()V" } : Jvm.MethodName)) ∈ lw_all := lw_g (lw_at lw_m1 15 rfl) rfl
theorem q25 : (Jvm.Cond.code ({ cls := "java/lang/Object", name := "<init>", desc := "()V" } : Jvm.MethodName) object_method_1_code (1 : Nat) (Option.none : Option Jvm.ClassFile.FieldType)) ∈ lw_all := lw_g (lw_at lw_m1 16 rfl) rfl
theorem q36 : (Jvm.Cond.arrayClass Jvm.ClassFile.FieldType.byte) ∈ lw_all := lw_g (lw_at lw_m1 27 rfl) rfl
set_option maxRecDepth 100000
theorem q220 : (Jvm.Cond.arrayClass Jvm.ClassFile.FieldType.long) ∈ lw_all := lw_g (lw_at lw_m1 211 rfl) rfl
theorem q17 : (Jvm.Cond.initialized "java/lang/System") ∈ lw_all := lw_g (lw_at lw_m1 8 rfl) rfl
set_option maxRecDepth 100000
theorem q147 : (Jvm.Cond.static ({ cls := "java/lang/System", name := "arraycopy", desc := "(Ljava/lang/Object;ILjava/lang/Object;II)V" } : Jvm.MethodName)) ∈ lw_all := lw_g (lw_at lw_m1 138 rfl) rfl
theorem q148 : (Jvm.Cond.native ({ cls := "java/lang/System", name := "arraycopy", desc := "(Ljava/lang/Object;ILjava/lang/Object;II)V" } : Jvm.MethodName)) ∈ lw_all := lw_g (lw_at lw_m1 139 rfl) rfl
theorem q158 : (Jvm.Cond.interfaceMethod "BlockCipher" "BlockCipher" "init" "(ZLCipherParameters;)V") ∈ lw_tbl := lw_at lw_m1 149 rfl
set_option maxRecDepth 100000
theorem q159 : (Jvm.Cond.declares ({ cls := "BlockCipher", name := "init", desc := "(ZLCipherParameters;)V" } : Jvm.MethodName)) ∈ lw_tbl := lw_at lw_m1 150 rfl
theorem q193 : (Jvm.Cond.interfaceMethod "BlockCipher" "BlockCipher" "processBlock" "([BI[BI)I") ∈ lw_tbl := lw_at lw_m1 184 rfl
theorem q194 : (Jvm.Cond.declares ({ cls := "BlockCipher", name := "processBlock", desc := "([BI[BI)I" } : Jvm.MethodName)) ∈ lw_tbl := lw_at lw_m1 185 rfl
/-! RC5Parameters -/
set_option maxRecDepth 100000
def RX3 : String := "RC5Parameters"
def TX3 : u_T := fun k => match k with
  | 0 => ("RC5Parameters", "key", "[B", false)
  | _ => ("RC5Parameters", "rounds", "I", false)
def tyX3 : Nat → FieldType := fun k => match k with
  | 0 => .array .byte
  | _ => .int
abbrev wsX30 : List Cond := u_ws RX3 TX3 2
theorem nmX3 : ∀ a, a < 2 → ∀ b, b < 2 → a ≠ b → (TX3 a).2.1 ≠ (TX3 b).2.1 := by decide +kernel
theorem tyX3_ok : ∀ k, k < 2 → parseFieldDescriptor (TX3 k).2.2.1 = some (tyX3 k) := by decide +kernel
abbrev cX3_init : ByteArray := prog_5_method_1_code
def yX3_init : MethodName := ⟨RX3, "<init>", "([BI)V"⟩
def dkwX3_init_1 : List UInt8 := [190, 188, 8, 181, 0, 14, 42, 28, 181, 0, 20, 43, 3, 42, 180, 0, 14, 3, 43, 190, 184, 0, 24, 177]
abbrev dktX3_init_1 : List UInt8 := dkwX3_init_1 ++ []
def dkwX3_init_0 : List UInt8 := [42, 183, 0, 1, 43, 190, 17, 0, 255, 164, 0, 13, 187, 0, 7, 89, 18, 9, 183, 0, 11, 191, 42, 43]
abbrev dktX3_init_0 : List UInt8 := dkwX3_init_0 ++ dktX3_init_1
theorem dksX3_init_0 : cX3_init.data.toList.drop 0 = dktX3_init_0 := by decide +kernel
theorem dksX3_init_1 : cX3_init.data.toList.drop 24 = dktX3_init_1 := dk_seg dksX3_init_0 24 rfl rfl
theorem dX3_init_0 : decode cX3_init 0 = .ok (.aload_n 0, 1) := dk_42 (dk_at dksX3_init_0 0 rfl rfl)
theorem dX3_init_1 : decode cX3_init 1 = .ok (.invokespecial 1, 3) := dk_183 0 1 (dk_at dksX3_init_0 1 rfl rfl)
theorem dX3_init_4 : decode cX3_init 4 = .ok (.aload_n 1, 1) := dk_43 (dk_at dksX3_init_0 4 rfl rfl)
theorem dX3_init_5 : decode cX3_init 5 = .ok (.arraylength, 1) := dk_190 (dk_at dksX3_init_0 5 rfl rfl)
theorem dX3_init_6 : decode cX3_init 6 = .ok (.sipush 255, 3) := dk_17 0 255 (dk_at dksX3_init_0 6 rfl rfl)
theorem dX3_init_9 : decode cX3_init 9 = .ok (.if_icmp .le 13, 3) := dk_164 0 13 (dk_at dksX3_init_0 9 rfl rfl)
theorem dX3_init_12 : decode cX3_init 12 = .ok (.new 7, 3) := dk_187 0 7 (dk_at dksX3_init_0 12 rfl rfl)
theorem dX3_init_15 : decode cX3_init 15 = .ok (.dup, 1) := dk_89 (dk_at dksX3_init_0 15 rfl rfl)
theorem dX3_init_16 : decode cX3_init 16 = .ok (.ldc 9, 2) := dk_18 9 (dk_at dksX3_init_0 16 rfl rfl)
theorem dX3_init_18 : decode cX3_init 18 = .ok (.invokespecial 11, 3) := dk_183 0 11 (dk_at dksX3_init_0 18 rfl rfl)
theorem dX3_init_21 : decode cX3_init 21 = .ok (.athrow, 1) := dk_191 (dk_at dksX3_init_0 21 rfl rfl)
theorem dX3_init_22 : decode cX3_init 22 = .ok (.aload_n 0, 1) := dk_42 (dk_at dksX3_init_0 22 rfl rfl)
theorem dX3_init_23 : decode cX3_init 23 = .ok (.aload_n 1, 1) := dk_43 (dk_at dksX3_init_0 23 rfl rfl)
theorem dX3_init_24 : decode cX3_init 24 = .ok (.arraylength, 1) := dk_190 (dk_at dksX3_init_1 0 rfl rfl)
theorem dX3_init_25 : decode cX3_init 25 = .ok (.newarray .byte, 2) := dk_188_8 (dk_at dksX3_init_1 1 rfl rfl)
theorem dX3_init_27 : decode cX3_init 27 = .ok (.putfield 14, 3) := dk_181 0 14 (dk_at dksX3_init_1 3 rfl rfl)
theorem dX3_init_30 : decode cX3_init 30 = .ok (.aload_n 0, 1) := dk_42 (dk_at dksX3_init_1 6 rfl rfl)
theorem dX3_init_31 : decode cX3_init 31 = .ok (.iload_n 2, 1) := dk_28 (dk_at dksX3_init_1 7 rfl rfl)
theorem dX3_init_32 : decode cX3_init 32 = .ok (.putfield 20, 3) := dk_181 0 20 (dk_at dksX3_init_1 8 rfl rfl)
theorem dX3_init_35 : decode cX3_init 35 = .ok (.aload_n 1, 1) := dk_43 (dk_at dksX3_init_1 11 rfl rfl)
theorem dX3_init_36 : decode cX3_init 36 = .ok (.iconst 0, 1) := dk_3 (dk_at dksX3_init_1 12 rfl rfl)
theorem dX3_init_37 : decode cX3_init 37 = .ok (.aload_n 0, 1) := dk_42 (dk_at dksX3_init_1 13 rfl rfl)
theorem dX3_init_38 : decode cX3_init 38 = .ok (.getfield 14, 3) := dk_180 0 14 (dk_at dksX3_init_1 14 rfl rfl)
theorem dX3_init_41 : decode cX3_init 41 = .ok (.iconst 0, 1) := dk_3 (dk_at dksX3_init_1 17 rfl rfl)
theorem dX3_init_42 : decode cX3_init 42 = .ok (.aload_n 1, 1) := dk_43 (dk_at dksX3_init_1 18 rfl rfl)
theorem dX3_init_43 : decode cX3_init 43 = .ok (.arraylength, 1) := dk_190 (dk_at dksX3_init_1 19 rfl rfl)
theorem dX3_init_44 : decode cX3_init 44 = .ok (.invokestatic 24, 3) := dk_184 0 24 (dk_at dksX3_init_1 20 rfl rfl)
theorem dX3_init_47 : decode cX3_init 47 = .ok (.return_, 1) := dk_177 (dk_at dksX3_init_1 23 rfl rfl)
abbrev cX3_getRounds : ByteArray := prog_5_method_3_code
def yX3_getRounds : MethodName := ⟨RX3, "getRounds", "()I"⟩
theorem dX3_getRounds_0 : decode cX3_getRounds 0 = .ok (.aload_n 0, 1) := by decide +kernel
theorem dX3_getRounds_1 : decode cX3_getRounds 1 = .ok (.getfield 20, 3) := by decide +kernel
theorem dX3_getRounds_4 : decode cX3_getRounds 4 = .ok (.ireturn, 1) := by decide +kernel
abbrev cX3_getKey : ByteArray := prog_5_method_2_code
def yX3_getKey : MethodName := ⟨RX3, "getKey", "()[B"⟩
theorem dX3_getKey_0 : decode cX3_getKey 0 = .ok (.aload_n 0, 1) := by decide +kernel
theorem dX3_getKey_1 : decode cX3_getKey 1 = .ok (.getfield 14, 3) := by decide +kernel
theorem dX3_getKey_4 : decode cX3_getKey 4 = .ok (.areturn, 1) := by decide +kernel
theorem q12 : (Jvm.Cond.initialized "RC5Parameters") ∈ lw_all := lw_g (lw_at lw_m1 3 rfl) rfl
theorem q76 : (Jvm.Cond.instantiable "RC5Parameters" (2 : Nat)) ∈ lw_all := lw_g (lw_at lw_m1 67 rfl) rfl
theorem q78 : (Jvm.Cond.instanceMethod ({ cls := "RC5Parameters", name := "<init>", desc := "([BI)V" } : Jvm.MethodName)) ∈ lw_all := lw_g (lw_at lw_m1 69 rfl) rfl
theorem q79 : (Jvm.Cond.code ({ cls := "RC5Parameters", name := "<init>", desc := "([BI)V" } : Jvm.MethodName) prog_5_method_1_code (3 : Nat) (Option.none : Option Jvm.ClassFile.FieldType)) ∈ lw_all := lw_g (lw_at lw_m1 70 rfl) rfl
theorem q80 : (Jvm.Cond.methodLink "RC5Parameters" (1 : Nat) ({ cls := "java/lang/Object", name := "<init>", desc := "()V" } : Jvm.MethodName)) ∈ lw_all := lw_g (lw_at lw_m1 71 rfl) rfl
theorem q81 : (Jvm.Cond.classLink "RC5Parameters" (7 : Nat) "java/lang/IllegalArgumentException") ∈ lw_all := lw_g (lw_at lw_m1 72 rfl) rfl
theorem q120 : (Jvm.Cond.stringRef "RC5Parameters" (9 : Nat) "RC5 key length can be no greater than 255") ∈ lw_tbl := lw_at lw_m1 111 rfl
theorem q121 : (Jvm.Cond.methodLink "RC5Parameters" (11 : Nat) ({ cls := "java/lang/IllegalArgumentException", name := "<init>", desc := "(Ljava/lang/String;)V" } : Jvm.MethodName)) ∈ lw_all := lw_g (lw_at lw_m1 112 rfl) rfl
theorem q146 : (Jvm.Cond.methodLink "RC5Parameters" (24 : Nat) ({ cls := "java/lang/System", name := "arraycopy", desc := "(Ljava/lang/Object;ILjava/lang/Object;II)V" } : Jvm.MethodName)) ∈ lw_all := lw_g (lw_at lw_m1 137 rfl) rfl
theorem q149 : (Jvm.Cond.fieldLink "RC5Parameters" (14 : Nat) "RC5Parameters" "key" "[B") ∈ lw_all := lw_g (lw_at lw_m1 140 rfl) rfl
theorem q150 : (Jvm.Cond.fieldLink "RC5Parameters" (20 : Nat) "RC5Parameters" "rounds" "I") ∈ lw_all := lw_g (lw_at lw_m1 141 rfl) rfl
theorem q151 : (Jvm.Cond.lays "RC5Parameters" "RC5Parameters" "key" "[B") ∈ lw_all := lw_g (lw_at lw_m1 142 rfl) rfl
theorem q152 : (Jvm.Cond.soleField "RC5Parameters" "key") ∈ lw_all := lw_g (lw_at lw_m1 143 rfl) rfl
theorem q153 : (Jvm.Cond.lays "RC5Parameters" "RC5Parameters" "rounds" "I") ∈ lw_all := lw_g (lw_at lw_m1 144 rfl) rfl
theorem q154 : (Jvm.Cond.soleField "RC5Parameters" "rounds") ∈ lw_all := lw_g (lw_at lw_m1 145 rfl) rfl
theorem q155 : (Jvm.Cond.superclass "RC5Parameters" "java/lang/Object") ∈ lw_all := lw_g (lw_at lw_m1 146 rfl) rfl
theorem q171 : (Jvm.Cond.instanceMethod ({ cls := "RC5Parameters", name := "getRounds", desc := "()I" } : Jvm.MethodName)) ∈ lw_all := lw_g (lw_at lw_m1 162 rfl) rfl
theorem q172 : (Jvm.Cond.selects "RC5Parameters" ({ cls := "RC5Parameters", name := "getRounds", desc := "()I" } : Jvm.MethodName) ({ cls := "RC5Parameters", name := "getRounds", desc := "()I" } : Jvm.MethodName)) ∈ lw_all := lw_g (lw_at lw_m1 163 rfl) rfl
theorem q173 : (Jvm.Cond.code ({ cls := "RC5Parameters", name := "getRounds", desc := "()I" } : Jvm.MethodName) prog_5_method_3_code (1 : Nat) (Option.some Jvm.ClassFile.FieldType.int)) ∈ lw_all := lw_g (lw_at lw_m1 164 rfl) rfl
theorem q175 : (Jvm.Cond.instanceMethod ({ cls := "RC5Parameters", name := "getKey", desc := "()[B" } : Jvm.MethodName)) ∈ lw_all := lw_g (lw_at lw_m1 166 rfl) rfl
theorem q176 : (Jvm.Cond.selects "RC5Parameters" ({ cls := "RC5Parameters", name := "getKey", desc := "()[B" } : Jvm.MethodName) ({ cls := "RC5Parameters", name := "getKey", desc := "()[B" } : Jvm.MethodName)) ∈ lw_all := lw_g (lw_at lw_m1 167 rfl) rfl
theorem q177 : (Jvm.Cond.code ({ cls := "RC5Parameters", name := "getKey", desc := "()[B" } : Jvm.MethodName) prog_5_method_2_code (1 : Nat) (Option.some (Jvm.ClassFile.FieldType.array Jvm.ClassFile.FieldType.byte))) ∈ lw_all := lw_g (lw_at lw_m1 168 rfl) rfl
theorem in_X3 : ∀ w ∈ wsX30, w ∈ lw_all := lw_in wsX30 [151, 153] (by decide +kernel) (by decide +kernel)
/-! RC564Engine -/
set_option maxRecDepth 100000
def RX2 : String := "RC564Engine"
def TX2 : u_T := fun k => match k with
  | 0 => ("RC564Engine", "_noRounds", "I", false)
  | 1 => ("RC564Engine", "_S", "[J", false)
  | _ => ("RC564Engine", "forEncryption", "Z", false)
def tyX2 : Nat → FieldType := fun k => match k with
  | 0 => .int
  | 1 => .array .long
  | _ => .boolean
abbrev wsX20 : List Cond := u_ws RX2 TX2 3
theorem nmX2 : ∀ a, a < 3 → ∀ b, b < 3 → a ≠ b → (TX2 a).2.1 ≠ (TX2 b).2.1 := by decide +kernel
theorem tyX2_ok : ∀ k, k < 3 → parseFieldDescriptor (TX2 k).2.2.1 = some (tyX2 k) := by decide +kernel
abbrev cX2_init : ByteArray := prog_4_method_1_code
def yX2_init : MethodName := ⟨RX2, "<init>", "()V"⟩
def dkwX2_init_0 : List UInt8 := [42, 183, 0, 3, 42, 16, 12, 181, 0, 9, 42, 1, 181, 0, 13, 177]
abbrev dktX2_init_0 : List UInt8 := dkwX2_init_0 ++ []
theorem dksX2_init_0 : cX2_init.data.toList.drop 0 = dktX2_init_0 := by decide +kernel
theorem dX2_init_0 : decode cX2_init 0 = .ok (.aload_n 0, 1) := dk_42 (dk_at dksX2_init_0 0 rfl rfl)
theorem dX2_init_1 : decode cX2_init 1 = .ok (.invokespecial 3, 3) := dk_183 0 3 (dk_at dksX2_init_0 1 rfl rfl)
theorem dX2_init_4 : decode cX2_init 4 = .ok (.aload_n 0, 1) := dk_42 (dk_at dksX2_init_0 4 rfl rfl)
theorem dX2_init_5 : decode cX2_init 5 = .ok (.bipush 12, 2) := dk_16 12 (dk_at dksX2_init_0 5 rfl rfl)
theorem dX2_init_7 : decode cX2_init 7 = .ok (.putfield 9, 3) := dk_181 0 9 (dk_at dksX2_init_0 7 rfl rfl)
theorem dX2_init_10 : decode cX2_init 10 = .ok (.aload_n 0, 1) := dk_42 (dk_at dksX2_init_0 10 rfl rfl)
theorem dX2_init_11 : decode cX2_init 11 = .ok (.aconst_null, 1) := dk_1 (dk_at dksX2_init_0 11 rfl rfl)
theorem dX2_init_12 : decode cX2_init 12 = .ok (.putfield 13, 3) := dk_181 0 13 (dk_at dksX2_init_0 12 rfl rfl)
theorem dX2_init_15 : decode cX2_init 15 = .ok (.return_, 1) := dk_177 (dk_at dksX2_init_0 15 rfl rfl)
abbrev cX2_init_2 : ByteArray := prog_4_method_2_code
def yX2_init_2 : MethodName := ⟨RX2, "init", "(ZLCipherParameters;)V"⟩
def dkwX2_init_2_1 : List UInt8 := [181, 0, 26, 42, 45, 182, 0, 30, 181, 0, 9, 45, 182, 0, 34, 58, 4, 42, 25, 4, 182, 0, 38, 177]
abbrev dktX2_init_2_1 : List UInt8 := dkwX2_init_2_1 ++ []
def dkwX2_init_2_0 : List UInt8 := [44, 193, 0, 17, 154, 0, 13, 187, 0, 19, 89, 18, 21, 183, 0, 23, 191, 44, 192, 0, 17, 78, 42, 27]
abbrev dktX2_init_2_0 : List UInt8 := dkwX2_init_2_0 ++ dktX2_init_2_1
theorem dksX2_init_2_0 : cX2_init_2.data.toList.drop 0 = dktX2_init_2_0 := by decide +kernel
theorem dksX2_init_2_1 : cX2_init_2.data.toList.drop 24 = dktX2_init_2_1 := dk_seg dksX2_init_2_0 24 rfl rfl
theorem dX2_init_2_0 : decode cX2_init_2 0 = .ok (.aload_n 2, 1) := dk_44 (dk_at dksX2_init_2_0 0 rfl rfl)
theorem dX2_init_2_1 : decode cX2_init_2 1 = .ok (.instanceof 17, 3) := dk_193 0 17 (dk_at dksX2_init_2_0 1 rfl rfl)
theorem dX2_init_2_4 : decode cX2_init_2 4 = .ok (.ifCond .ne 13, 3) := dk_154 0 13 (dk_at dksX2_init_2_0 4 rfl rfl)
theorem dX2_init_2_7 : decode cX2_init_2 7 = .ok (.new 19, 3) := dk_187 0 19 (dk_at dksX2_init_2_0 7 rfl rfl)
theorem dX2_init_2_10 : decode cX2_init_2 10 = .ok (.dup, 1) := dk_89 (dk_at dksX2_init_2_0 10 rfl rfl)
theorem dX2_init_2_11 : decode cX2_init_2 11 = .ok (.ldc 21, 2) := dk_18 21 (dk_at dksX2_init_2_0 11 rfl rfl)
theorem dX2_init_2_13 : decode cX2_init_2 13 = .ok (.invokespecial 23, 3) := dk_183 0 23 (dk_at dksX2_init_2_0 13 rfl rfl)
theorem dX2_init_2_16 : decode cX2_init_2 16 = .ok (.athrow, 1) := dk_191 (dk_at dksX2_init_2_0 16 rfl rfl)
theorem dX2_init_2_17 : decode cX2_init_2 17 = .ok (.aload_n 2, 1) := dk_44 (dk_at dksX2_init_2_0 17 rfl rfl)
theorem dX2_init_2_18 : decode cX2_init_2 18 = .ok (.checkcast 17, 3) := dk_192 0 17 (dk_at dksX2_init_2_0 18 rfl rfl)
theorem dX2_init_2_21 : decode cX2_init_2 21 = .ok (.astore_n 3, 1) := dk_78 (dk_at dksX2_init_2_0 21 rfl rfl)
theorem dX2_init_2_22 : decode cX2_init_2 22 = .ok (.aload_n 0, 1) := dk_42 (dk_at dksX2_init_2_0 22 rfl rfl)
theorem dX2_init_2_23 : decode cX2_init_2 23 = .ok (.iload_n 1, 1) := dk_27 (dk_at dksX2_init_2_0 23 rfl rfl)
theorem dX2_init_2_24 : decode cX2_init_2 24 = .ok (.putfield 26, 3) := dk_181 0 26 (dk_at dksX2_init_2_1 0 rfl rfl)
theorem dX2_init_2_27 : decode cX2_init_2 27 = .ok (.aload_n 0, 1) := dk_42 (dk_at dksX2_init_2_1 3 rfl rfl)
theorem dX2_init_2_28 : decode cX2_init_2 28 = .ok (.aload_n 3, 1) := dk_45 (dk_at dksX2_init_2_1 4 rfl rfl)
theorem dX2_init_2_29 : decode cX2_init_2 29 = .ok (.invokevirtual 30, 3) := dk_182 0 30 (dk_at dksX2_init_2_1 5 rfl rfl)
theorem dX2_init_2_32 : decode cX2_init_2 32 = .ok (.putfield 9, 3) := dk_181 0 9 (dk_at dksX2_init_2_1 8 rfl rfl)
theorem dX2_init_2_35 : decode cX2_init_2 35 = .ok (.aload_n 3, 1) := dk_45 (dk_at dksX2_init_2_1 11 rfl rfl)
theorem dX2_init_2_36 : decode cX2_init_2 36 = .ok (.invokevirtual 34, 3) := dk_182 0 34 (dk_at dksX2_init_2_1 12 rfl rfl)
theorem dX2_init_2_39 : decode cX2_init_2 39 = .ok (.astore 4, 2) := dk_58 4 (dk_at dksX2_init_2_1 15 rfl rfl)
theorem dX2_init_2_41 : decode cX2_init_2 41 = .ok (.aload_n 0, 1) := dk_42 (dk_at dksX2_init_2_1 17 rfl rfl)
theorem dX2_init_2_42 : decode cX2_init_2 42 = .ok (.aload 4, 2) := dk_25 4 (dk_at dksX2_init_2_1 18 rfl rfl)
theorem dX2_init_2_44 : decode cX2_init_2 44 = .ok (.invokevirtual 38, 3) := dk_182 0 38 (dk_at dksX2_init_2_1 20 rfl rfl)
theorem dX2_init_2_47 : decode cX2_init_2 47 = .ok (.return_, 1) := dk_177 (dk_at dksX2_init_2_1 23 rfl rfl)
abbrev cX2_setKey : ByteArray := prog_4_method_4_code
def yX2_setKey : MethodName := ⟨RX2, "setKey", "([B)V"⟩
def dkwX2_setKey_10 : List UInt8 := [132, 10, 1, 167, 255, 170, 177]
abbrev dktX2_setKey_10 : List UInt8 := dkwX2_setKey_10 ++ []
def dkwX2_setKey_9 : List UInt8 := [55, 6, 21, 8, 4, 96, 42, 180, 0, 13, 190, 112, 54, 8, 21, 9, 4, 96, 44, 190, 112, 54, 9]
abbrev dktX2_setKey_9 : List UInt8 := dkwX2_setKey_9 ++ dktX2_setKey_10
def dkwX2_setKey_8 : List UInt8 := [21, 9, 42, 44, 21, 9, 47, 22, 4, 97, 22, 6, 97, 22, 4, 22, 6, 97, 182, 0, 55, 94, 80]
abbrev dktX2_setKey_8 : List UInt8 := dkwX2_setKey_8 ++ dktX2_setKey_9
def dkwX2_setKey_7 : List UInt8 := [42, 180, 0, 13, 21, 8, 47, 22, 4, 97, 22, 6, 97, 20, 0, 53, 182, 0, 55, 94, 80, 55, 4, 44]
abbrev dktX2_setKey_7 : List UInt8 := dkwX2_setKey_7 ++ dktX2_setKey_8
def dkwX2_setKey_6 : List UInt8 := [55, 6, 3, 54, 8, 3, 54, 9, 3, 54, 10, 21, 10, 29, 162, 0, 86, 42, 180, 0, 13, 21, 8, 42]
abbrev dktX2_setKey_6 : List UInt8 := dkwX2_setKey_6 ++ dktX2_setKey_7
def dkwX2_setKey_5 : List UInt8 := [164, 0, 11, 6, 44, 190, 104, 62, 167, 0, 11, 6, 42, 180, 0, 13, 190, 104, 62, 9, 55, 4, 9]
abbrev dktX2_setKey_5 : List UInt8 := dkwX2_setKey_5 ++ dktX2_setKey_6
def dkwX2_setKey_4 : List UInt8 := [29, 4, 100, 47, 20, 0, 51, 97, 80, 132, 3, 1, 167, 255, 226, 44, 190, 42, 180, 0, 13, 190]
abbrev dktX2_setKey_4 : List UInt8 := dkwX2_setKey_4 ++ dktX2_setKey_5
def dkwX2_setKey_3 : List UInt8 := [20, 0, 49, 80, 4, 62, 29, 42, 180, 0, 13, 190, 162, 0, 27, 42, 180, 0, 13, 29, 42, 180, 0, 13]
abbrev dktX2_setKey_3 : List UInt8 := dkwX2_setKey_3 ++ dktX2_setKey_4
def dkwX2_setKey_2 : List UInt8 := [167, 255, 222, 42, 5, 42, 180, 0, 9, 4, 96, 104, 188, 11, 181, 0, 13, 42, 180, 0, 13, 3]
abbrev dktX2_setKey_2 : List UInt8 := dkwX2_setKey_2 ++ dktX2_setKey_3
def dkwX2_setKey_1 : List UInt8 := [92, 47, 43, 29, 51, 17, 0, 255, 126, 133, 16, 8, 29, 16, 8, 112, 104, 121, 97, 80, 132, 3, 1]
abbrev dktX2_setKey_1 : List UInt8 := dkwX2_setKey_1 ++ dktX2_setKey_2
def dkwX2_setKey_0 : List UInt8 := [43, 190, 16, 7, 96, 16, 8, 108, 188, 11, 77, 3, 62, 29, 43, 190, 159, 0, 34, 44, 29, 16, 8, 108]
abbrev dktX2_setKey_0 : List UInt8 := dkwX2_setKey_0 ++ dktX2_setKey_1
theorem dksX2_setKey_0 : cX2_setKey.data.toList.drop 0 = dktX2_setKey_0 := by decide +kernel
theorem dksX2_setKey_1 : cX2_setKey.data.toList.drop 24 = dktX2_setKey_1 := dk_seg dksX2_setKey_0 24 rfl rfl
theorem dksX2_setKey_2 : cX2_setKey.data.toList.drop 47 = dktX2_setKey_2 := dk_seg dksX2_setKey_1 23 rfl rfl
theorem dksX2_setKey_3 : cX2_setKey.data.toList.drop 69 = dktX2_setKey_3 := dk_seg dksX2_setKey_2 22 rfl rfl
theorem dksX2_setKey_4 : cX2_setKey.data.toList.drop 93 = dktX2_setKey_4 := dk_seg dksX2_setKey_3 24 rfl rfl
theorem dksX2_setKey_5 : cX2_setKey.data.toList.drop 115 = dktX2_setKey_5 := dk_seg dksX2_setKey_4 22 rfl rfl
theorem dksX2_setKey_6 : cX2_setKey.data.toList.drop 138 = dktX2_setKey_6 := dk_seg dksX2_setKey_5 23 rfl rfl
theorem dksX2_setKey_7 : cX2_setKey.data.toList.drop 162 = dktX2_setKey_7 := dk_seg dksX2_setKey_6 24 rfl rfl
theorem dksX2_setKey_8 : cX2_setKey.data.toList.drop 186 = dktX2_setKey_8 := dk_seg dksX2_setKey_7 24 rfl rfl
theorem dksX2_setKey_9 : cX2_setKey.data.toList.drop 209 = dktX2_setKey_9 := dk_seg dksX2_setKey_8 23 rfl rfl
theorem dksX2_setKey_10 : cX2_setKey.data.toList.drop 232 = dktX2_setKey_10 := dk_seg dksX2_setKey_9 23 rfl rfl
theorem dX2_setKey_0 : decode cX2_setKey 0 = .ok (.aload_n 1, 1) := dk_43 (dk_at dksX2_setKey_0 0 rfl rfl)
theorem dX2_setKey_1 : decode cX2_setKey 1 = .ok (.arraylength, 1) := dk_190 (dk_at dksX2_setKey_0 1 rfl rfl)
theorem dX2_setKey_2 : decode cX2_setKey 2 = .ok (.bipush 7, 2) := dk_16 7 (dk_at dksX2_setKey_0 2 rfl rfl)
theorem dX2_setKey_4 : decode cX2_setKey 4 = .ok (.iadd, 1) := dk_96 (dk_at dksX2_setKey_0 4 rfl rfl)
theorem dX2_setKey_5 : decode cX2_setKey 5 = .ok (.bipush 8, 2) := dk_16 8 (dk_at dksX2_setKey_0 5 rfl rfl)
theorem dX2_setKey_7 : decode cX2_setKey 7 = .ok (.idiv, 1) := dk_108 (dk_at dksX2_setKey_0 7 rfl rfl)
theorem dX2_setKey_8 : decode cX2_setKey 8 = .ok (.newarray .long, 2) := dk_188_11 (dk_at dksX2_setKey_0 8 rfl rfl)
theorem dX2_setKey_10 : decode cX2_setKey 10 = .ok (.astore_n 2, 1) := dk_77 (dk_at dksX2_setKey_0 10 rfl rfl)
theorem dX2_setKey_11 : decode cX2_setKey 11 = .ok (.iconst 0, 1) := dk_3 (dk_at dksX2_setKey_0 11 rfl rfl)
theorem dX2_setKey_12 : decode cX2_setKey 12 = .ok (.istore_n 3, 1) := dk_62 (dk_at dksX2_setKey_0 12 rfl rfl)
theorem dX2_setKey_13 : decode cX2_setKey 13 = .ok (.iload_n 3, 1) := dk_29 (dk_at dksX2_setKey_0 13 rfl rfl)
theorem dX2_setKey_14 : decode cX2_setKey 14 = .ok (.aload_n 1, 1) := dk_43 (dk_at dksX2_setKey_0 14 rfl rfl)
theorem dX2_setKey_15 : decode cX2_setKey 15 = .ok (.arraylength, 1) := dk_190 (dk_at dksX2_setKey_0 15 rfl rfl)
theorem dX2_setKey_16 : decode cX2_setKey 16 = .ok (.if_icmp .eq 34, 3) := dk_159 0 34 (dk_at dksX2_setKey_0 16 rfl rfl)
theorem dX2_setKey_19 : decode cX2_setKey 19 = .ok (.aload_n 2, 1) := dk_44 (dk_at dksX2_setKey_0 19 rfl rfl)
theorem dX2_setKey_20 : decode cX2_setKey 20 = .ok (.iload_n 3, 1) := dk_29 (dk_at dksX2_setKey_0 20 rfl rfl)
theorem dX2_setKey_21 : decode cX2_setKey 21 = .ok (.bipush 8, 2) := dk_16 8 (dk_at dksX2_setKey_0 21 rfl rfl)
theorem dX2_setKey_23 : decode cX2_setKey 23 = .ok (.idiv, 1) := dk_108 (dk_at dksX2_setKey_0 23 rfl rfl)
theorem dX2_setKey_24 : decode cX2_setKey 24 = .ok (.dup2, 1) := dk_92 (dk_at dksX2_setKey_1 0 rfl rfl)
theorem dX2_setKey_25 : decode cX2_setKey 25 = .ok (.laload, 1) := dk_47 (dk_at dksX2_setKey_1 1 rfl rfl)
theorem dX2_setKey_26 : decode cX2_setKey 26 = .ok (.aload_n 1, 1) := dk_43 (dk_at dksX2_setKey_1 2 rfl rfl)
theorem dX2_setKey_27 : decode cX2_setKey 27 = .ok (.iload_n 3, 1) := dk_29 (dk_at dksX2_setKey_1 3 rfl rfl)
theorem dX2_setKey_28 : decode cX2_setKey 28 = .ok (.baload, 1) := dk_51 (dk_at dksX2_setKey_1 4 rfl rfl)
theorem dX2_setKey_29 : decode cX2_setKey 29 = .ok (.sipush 255, 3) := dk_17 0 255 (dk_at dksX2_setKey_1 5 rfl rfl)
theorem dX2_setKey_32 : decode cX2_setKey 32 = .ok (.iand, 1) := dk_126 (dk_at dksX2_setKey_1 8 rfl rfl)
theorem dX2_setKey_33 : decode cX2_setKey 33 = .ok (.i2l, 1) := dk_133 (dk_at dksX2_setKey_1 9 rfl rfl)
theorem dX2_setKey_34 : decode cX2_setKey 34 = .ok (.bipush 8, 2) := dk_16 8 (dk_at dksX2_setKey_1 10 rfl rfl)
theorem dX2_setKey_36 : decode cX2_setKey 36 = .ok (.iload_n 3, 1) := dk_29 (dk_at dksX2_setKey_1 12 rfl rfl)
theorem dX2_setKey_37 : decode cX2_setKey 37 = .ok (.bipush 8, 2) := dk_16 8 (dk_at dksX2_setKey_1 13 rfl rfl)
theorem dX2_setKey_39 : decode cX2_setKey 39 = .ok (.irem, 1) := dk_112 (dk_at dksX2_setKey_1 15 rfl rfl)
theorem dX2_setKey_40 : decode cX2_setKey 40 = .ok (.imul, 1) := dk_104 (dk_at dksX2_setKey_1 16 rfl rfl)
theorem dX2_setKey_41 : decode cX2_setKey 41 = .ok (.lshl, 1) := dk_121 (dk_at dksX2_setKey_1 17 rfl rfl)
theorem dX2_setKey_42 : decode cX2_setKey 42 = .ok (.ladd, 1) := dk_97 (dk_at dksX2_setKey_1 18 rfl rfl)
theorem dX2_setKey_43 : decode cX2_setKey 43 = .ok (.lastore, 1) := dk_80 (dk_at dksX2_setKey_1 19 rfl rfl)
theorem dX2_setKey_44 : decode cX2_setKey 44 = .ok (.iinc 3 1, 3) := dk_132 3 1 (dk_at dksX2_setKey_1 20 rfl rfl)
theorem dX2_setKey_47 : decode cX2_setKey 47 = .ok (.goto (-34), 3) := dk_167 255 222 (dk_at dksX2_setKey_2 0 rfl rfl)
theorem dX2_setKey_50 : decode cX2_setKey 50 = .ok (.aload_n 0, 1) := dk_42 (dk_at dksX2_setKey_2 3 rfl rfl)
theorem dX2_setKey_51 : decode cX2_setKey 51 = .ok (.iconst 2, 1) := dk_5 (dk_at dksX2_setKey_2 4 rfl rfl)
theorem dX2_setKey_52 : decode cX2_setKey 52 = .ok (.aload_n 0, 1) := dk_42 (dk_at dksX2_setKey_2 5 rfl rfl)
theorem dX2_setKey_53 : decode cX2_setKey 53 = .ok (.getfield 9, 3) := dk_180 0 9 (dk_at dksX2_setKey_2 6 rfl rfl)
theorem dX2_setKey_56 : decode cX2_setKey 56 = .ok (.iconst 1, 1) := dk_4 (dk_at dksX2_setKey_2 9 rfl rfl)
theorem dX2_setKey_57 : decode cX2_setKey 57 = .ok (.iadd, 1) := dk_96 (dk_at dksX2_setKey_2 10 rfl rfl)
theorem dX2_setKey_58 : decode cX2_setKey 58 = .ok (.imul, 1) := dk_104 (dk_at dksX2_setKey_2 11 rfl rfl)
theorem dX2_setKey_59 : decode cX2_setKey 59 = .ok (.newarray .long, 2) := dk_188_11 (dk_at dksX2_setKey_2 12 rfl rfl)
theorem dX2_setKey_61 : decode cX2_setKey 61 = .ok (.putfield 13, 3) := dk_181 0 13 (dk_at dksX2_setKey_2 14 rfl rfl)
theorem dX2_setKey_64 : decode cX2_setKey 64 = .ok (.aload_n 0, 1) := dk_42 (dk_at dksX2_setKey_2 17 rfl rfl)
theorem dX2_setKey_65 : decode cX2_setKey 65 = .ok (.getfield 13, 3) := dk_180 0 13 (dk_at dksX2_setKey_2 18 rfl rfl)
theorem dX2_setKey_68 : decode cX2_setKey 68 = .ok (.iconst 0, 1) := dk_3 (dk_at dksX2_setKey_2 21 rfl rfl)
theorem dX2_setKey_69 : decode cX2_setKey 69 = .ok (.ldc2_w 49, 3) := dk_20 0 49 (dk_at dksX2_setKey_3 0 rfl rfl)
theorem dX2_setKey_72 : decode cX2_setKey 72 = .ok (.lastore, 1) := dk_80 (dk_at dksX2_setKey_3 3 rfl rfl)
theorem dX2_setKey_73 : decode cX2_setKey 73 = .ok (.iconst 1, 1) := dk_4 (dk_at dksX2_setKey_3 4 rfl rfl)
theorem dX2_setKey_74 : decode cX2_setKey 74 = .ok (.istore_n 3, 1) := dk_62 (dk_at dksX2_setKey_3 5 rfl rfl)
theorem dX2_setKey_75 : decode cX2_setKey 75 = .ok (.iload_n 3, 1) := dk_29 (dk_at dksX2_setKey_3 6 rfl rfl)
theorem dX2_setKey_76 : decode cX2_setKey 76 = .ok (.aload_n 0, 1) := dk_42 (dk_at dksX2_setKey_3 7 rfl rfl)
theorem dX2_setKey_77 : decode cX2_setKey 77 = .ok (.getfield 13, 3) := dk_180 0 13 (dk_at dksX2_setKey_3 8 rfl rfl)
theorem dX2_setKey_80 : decode cX2_setKey 80 = .ok (.arraylength, 1) := dk_190 (dk_at dksX2_setKey_3 11 rfl rfl)
theorem dX2_setKey_81 : decode cX2_setKey 81 = .ok (.if_icmp .ge 27, 3) := dk_162 0 27 (dk_at dksX2_setKey_3 12 rfl rfl)
theorem dX2_setKey_84 : decode cX2_setKey 84 = .ok (.aload_n 0, 1) := dk_42 (dk_at dksX2_setKey_3 15 rfl rfl)
theorem dX2_setKey_85 : decode cX2_setKey 85 = .ok (.getfield 13, 3) := dk_180 0 13 (dk_at dksX2_setKey_3 16 rfl rfl)
theorem dX2_setKey_88 : decode cX2_setKey 88 = .ok (.iload_n 3, 1) := dk_29 (dk_at dksX2_setKey_3 19 rfl rfl)
theorem dX2_setKey_89 : decode cX2_setKey 89 = .ok (.aload_n 0, 1) := dk_42 (dk_at dksX2_setKey_3 20 rfl rfl)
theorem dX2_setKey_90 : decode cX2_setKey 90 = .ok (.getfield 13, 3) := dk_180 0 13 (dk_at dksX2_setKey_3 21 rfl rfl)
theorem dX2_setKey_93 : decode cX2_setKey 93 = .ok (.iload_n 3, 1) := dk_29 (dk_at dksX2_setKey_4 0 rfl rfl)
theorem dX2_setKey_94 : decode cX2_setKey 94 = .ok (.iconst 1, 1) := dk_4 (dk_at dksX2_setKey_4 1 rfl rfl)
theorem dX2_setKey_95 : decode cX2_setKey 95 = .ok (.isub, 1) := dk_100 (dk_at dksX2_setKey_4 2 rfl rfl)
theorem dX2_setKey_96 : decode cX2_setKey 96 = .ok (.laload, 1) := dk_47 (dk_at dksX2_setKey_4 3 rfl rfl)
theorem dX2_setKey_97 : decode cX2_setKey 97 = .ok (.ldc2_w 51, 3) := dk_20 0 51 (dk_at dksX2_setKey_4 4 rfl rfl)
theorem dX2_setKey_100 : decode cX2_setKey 100 = .ok (.ladd, 1) := dk_97 (dk_at dksX2_setKey_4 7 rfl rfl)
theorem dX2_setKey_101 : decode cX2_setKey 101 = .ok (.lastore, 1) := dk_80 (dk_at dksX2_setKey_4 8 rfl rfl)
theorem dX2_setKey_102 : decode cX2_setKey 102 = .ok (.iinc 3 1, 3) := dk_132 3 1 (dk_at dksX2_setKey_4 9 rfl rfl)
theorem dX2_setKey_105 : decode cX2_setKey 105 = .ok (.goto (-30), 3) := dk_167 255 226 (dk_at dksX2_setKey_4 12 rfl rfl)
theorem dX2_setKey_108 : decode cX2_setKey 108 = .ok (.aload_n 2, 1) := dk_44 (dk_at dksX2_setKey_4 15 rfl rfl)
theorem dX2_setKey_109 : decode cX2_setKey 109 = .ok (.arraylength, 1) := dk_190 (dk_at dksX2_setKey_4 16 rfl rfl)
theorem dX2_setKey_110 : decode cX2_setKey 110 = .ok (.aload_n 0, 1) := dk_42 (dk_at dksX2_setKey_4 17 rfl rfl)
theorem dX2_setKey_111 : decode cX2_setKey 111 = .ok (.getfield 13, 3) := dk_180 0 13 (dk_at dksX2_setKey_4 18 rfl rfl)
theorem dX2_setKey_114 : decode cX2_setKey 114 = .ok (.arraylength, 1) := dk_190 (dk_at dksX2_setKey_4 21 rfl rfl)
theorem dX2_setKey_115 : decode cX2_setKey 115 = .ok (.if_icmp .le 11, 3) := dk_164 0 11 (dk_at dksX2_setKey_5 0 rfl rfl)
theorem dX2_setKey_118 : decode cX2_setKey 118 = .ok (.iconst 3, 1) := dk_6 (dk_at dksX2_setKey_5 3 rfl rfl)
theorem dX2_setKey_119 : decode cX2_setKey 119 = .ok (.aload_n 2, 1) := dk_44 (dk_at dksX2_setKey_5 4 rfl rfl)
theorem dX2_setKey_120 : decode cX2_setKey 120 = .ok (.arraylength, 1) := dk_190 (dk_at dksX2_setKey_5 5 rfl rfl)
theorem dX2_setKey_121 : decode cX2_setKey 121 = .ok (.imul, 1) := dk_104 (dk_at dksX2_setKey_5 6 rfl rfl)
theorem dX2_setKey_122 : decode cX2_setKey 122 = .ok (.istore_n 3, 1) := dk_62 (dk_at dksX2_setKey_5 7 rfl rfl)
theorem dX2_setKey_123 : decode cX2_setKey 123 = .ok (.goto 11, 3) := dk_167 0 11 (dk_at dksX2_setKey_5 8 rfl rfl)
theorem dX2_setKey_126 : decode cX2_setKey 126 = .ok (.iconst 3, 1) := dk_6 (dk_at dksX2_setKey_5 11 rfl rfl)
theorem dX2_setKey_127 : decode cX2_setKey 127 = .ok (.aload_n 0, 1) := dk_42 (dk_at dksX2_setKey_5 12 rfl rfl)
theorem dX2_setKey_128 : decode cX2_setKey 128 = .ok (.getfield 13, 3) := dk_180 0 13 (dk_at dksX2_setKey_5 13 rfl rfl)
theorem dX2_setKey_131 : decode cX2_setKey 131 = .ok (.arraylength, 1) := dk_190 (dk_at dksX2_setKey_5 16 rfl rfl)
theorem dX2_setKey_132 : decode cX2_setKey 132 = .ok (.imul, 1) := dk_104 (dk_at dksX2_setKey_5 17 rfl rfl)
theorem dX2_setKey_133 : decode cX2_setKey 133 = .ok (.istore_n 3, 1) := dk_62 (dk_at dksX2_setKey_5 18 rfl rfl)
theorem dX2_setKey_134 : decode cX2_setKey 134 = .ok (.lconst 0, 1) := dk_9 (dk_at dksX2_setKey_5 19 rfl rfl)
theorem dX2_setKey_135 : decode cX2_setKey 135 = .ok (.lstore 4, 2) := dk_55 4 (dk_at dksX2_setKey_5 20 rfl rfl)
theorem dX2_setKey_137 : decode cX2_setKey 137 = .ok (.lconst 0, 1) := dk_9 (dk_at dksX2_setKey_5 22 rfl rfl)
theorem dX2_setKey_138 : decode cX2_setKey 138 = .ok (.lstore 6, 2) := dk_55 6 (dk_at dksX2_setKey_6 0 rfl rfl)
theorem dX2_setKey_140 : decode cX2_setKey 140 = .ok (.iconst 0, 1) := dk_3 (dk_at dksX2_setKey_6 2 rfl rfl)
theorem dX2_setKey_141 : decode cX2_setKey 141 = .ok (.istore 8, 2) := dk_54 8 (dk_at dksX2_setKey_6 3 rfl rfl)
theorem dX2_setKey_143 : decode cX2_setKey 143 = .ok (.iconst 0, 1) := dk_3 (dk_at dksX2_setKey_6 5 rfl rfl)
theorem dX2_setKey_144 : decode cX2_setKey 144 = .ok (.istore 9, 2) := dk_54 9 (dk_at dksX2_setKey_6 6 rfl rfl)
theorem dX2_setKey_146 : decode cX2_setKey 146 = .ok (.iconst 0, 1) := dk_3 (dk_at dksX2_setKey_6 8 rfl rfl)
theorem dX2_setKey_147 : decode cX2_setKey 147 = .ok (.istore 10, 2) := dk_54 10 (dk_at dksX2_setKey_6 9 rfl rfl)
theorem dX2_setKey_149 : decode cX2_setKey 149 = .ok (.iload 10, 2) := dk_21 10 (dk_at dksX2_setKey_6 11 rfl rfl)
theorem dX2_setKey_151 : decode cX2_setKey 151 = .ok (.iload_n 3, 1) := dk_29 (dk_at dksX2_setKey_6 13 rfl rfl)
theorem dX2_setKey_152 : decode cX2_setKey 152 = .ok (.if_icmp .ge 86, 3) := dk_162 0 86 (dk_at dksX2_setKey_6 14 rfl rfl)
theorem dX2_setKey_155 : decode cX2_setKey 155 = .ok (.aload_n 0, 1) := dk_42 (dk_at dksX2_setKey_6 17 rfl rfl)
theorem dX2_setKey_156 : decode cX2_setKey 156 = .ok (.getfield 13, 3) := dk_180 0 13 (dk_at dksX2_setKey_6 18 rfl rfl)
theorem dX2_setKey_159 : decode cX2_setKey 159 = .ok (.iload 8, 2) := dk_21 8 (dk_at dksX2_setKey_6 21 rfl rfl)
theorem dX2_setKey_161 : decode cX2_setKey 161 = .ok (.aload_n 0, 1) := dk_42 (dk_at dksX2_setKey_6 23 rfl rfl)
theorem dX2_setKey_162 : decode cX2_setKey 162 = .ok (.aload_n 0, 1) := dk_42 (dk_at dksX2_setKey_7 0 rfl rfl)
theorem dX2_setKey_163 : decode cX2_setKey 163 = .ok (.getfield 13, 3) := dk_180 0 13 (dk_at dksX2_setKey_7 1 rfl rfl)
theorem dX2_setKey_166 : decode cX2_setKey 166 = .ok (.iload 8, 2) := dk_21 8 (dk_at dksX2_setKey_7 4 rfl rfl)
theorem dX2_setKey_168 : decode cX2_setKey 168 = .ok (.laload, 1) := dk_47 (dk_at dksX2_setKey_7 6 rfl rfl)
theorem dX2_setKey_169 : decode cX2_setKey 169 = .ok (.lload 4, 2) := dk_22 4 (dk_at dksX2_setKey_7 7 rfl rfl)
theorem dX2_setKey_171 : decode cX2_setKey 171 = .ok (.ladd, 1) := dk_97 (dk_at dksX2_setKey_7 9 rfl rfl)
theorem dX2_setKey_172 : decode cX2_setKey 172 = .ok (.lload 6, 2) := dk_22 6 (dk_at dksX2_setKey_7 10 rfl rfl)
theorem dX2_setKey_174 : decode cX2_setKey 174 = .ok (.ladd, 1) := dk_97 (dk_at dksX2_setKey_7 12 rfl rfl)
theorem dX2_setKey_175 : decode cX2_setKey 175 = .ok (.ldc2_w 53, 3) := dk_20 0 53 (dk_at dksX2_setKey_7 13 rfl rfl)
theorem dX2_setKey_178 : decode cX2_setKey 178 = .ok (.invokevirtual 55, 3) := dk_182 0 55 (dk_at dksX2_setKey_7 16 rfl rfl)
theorem dX2_setKey_181 : decode cX2_setKey 181 = .ok (.dup2_x2, 1) := dk_94 (dk_at dksX2_setKey_7 19 rfl rfl)
theorem dX2_setKey_182 : decode cX2_setKey 182 = .ok (.lastore, 1) := dk_80 (dk_at dksX2_setKey_7 20 rfl rfl)
theorem dX2_setKey_183 : decode cX2_setKey 183 = .ok (.lstore 4, 2) := dk_55 4 (dk_at dksX2_setKey_7 21 rfl rfl)
theorem dX2_setKey_185 : decode cX2_setKey 185 = .ok (.aload_n 2, 1) := dk_44 (dk_at dksX2_setKey_7 23 rfl rfl)
theorem dX2_setKey_186 : decode cX2_setKey 186 = .ok (.iload 9, 2) := dk_21 9 (dk_at dksX2_setKey_8 0 rfl rfl)
theorem dX2_setKey_188 : decode cX2_setKey 188 = .ok (.aload_n 0, 1) := dk_42 (dk_at dksX2_setKey_8 2 rfl rfl)
theorem dX2_setKey_189 : decode cX2_setKey 189 = .ok (.aload_n 2, 1) := dk_44 (dk_at dksX2_setKey_8 3 rfl rfl)
theorem dX2_setKey_190 : decode cX2_setKey 190 = .ok (.iload 9, 2) := dk_21 9 (dk_at dksX2_setKey_8 4 rfl rfl)
theorem dX2_setKey_192 : decode cX2_setKey 192 = .ok (.laload, 1) := dk_47 (dk_at dksX2_setKey_8 6 rfl rfl)
theorem dX2_setKey_193 : decode cX2_setKey 193 = .ok (.lload 4, 2) := dk_22 4 (dk_at dksX2_setKey_8 7 rfl rfl)
theorem dX2_setKey_195 : decode cX2_setKey 195 = .ok (.ladd, 1) := dk_97 (dk_at dksX2_setKey_8 9 rfl rfl)
theorem dX2_setKey_196 : decode cX2_setKey 196 = .ok (.lload 6, 2) := dk_22 6 (dk_at dksX2_setKey_8 10 rfl rfl)
theorem dX2_setKey_198 : decode cX2_setKey 198 = .ok (.ladd, 1) := dk_97 (dk_at dksX2_setKey_8 12 rfl rfl)
theorem dX2_setKey_199 : decode cX2_setKey 199 = .ok (.lload 4, 2) := dk_22 4 (dk_at dksX2_setKey_8 13 rfl rfl)
theorem dX2_setKey_201 : decode cX2_setKey 201 = .ok (.lload 6, 2) := dk_22 6 (dk_at dksX2_setKey_8 15 rfl rfl)
theorem dX2_setKey_203 : decode cX2_setKey 203 = .ok (.ladd, 1) := dk_97 (dk_at dksX2_setKey_8 17 rfl rfl)
theorem dX2_setKey_204 : decode cX2_setKey 204 = .ok (.invokevirtual 55, 3) := dk_182 0 55 (dk_at dksX2_setKey_8 18 rfl rfl)
theorem dX2_setKey_207 : decode cX2_setKey 207 = .ok (.dup2_x2, 1) := dk_94 (dk_at dksX2_setKey_8 21 rfl rfl)
theorem dX2_setKey_208 : decode cX2_setKey 208 = .ok (.lastore, 1) := dk_80 (dk_at dksX2_setKey_8 22 rfl rfl)
theorem dX2_setKey_209 : decode cX2_setKey 209 = .ok (.lstore 6, 2) := dk_55 6 (dk_at dksX2_setKey_9 0 rfl rfl)
theorem dX2_setKey_211 : decode cX2_setKey 211 = .ok (.iload 8, 2) := dk_21 8 (dk_at dksX2_setKey_9 2 rfl rfl)
theorem dX2_setKey_213 : decode cX2_setKey 213 = .ok (.iconst 1, 1) := dk_4 (dk_at dksX2_setKey_9 4 rfl rfl)
theorem dX2_setKey_214 : decode cX2_setKey 214 = .ok (.iadd, 1) := dk_96 (dk_at dksX2_setKey_9 5 rfl rfl)
theorem dX2_setKey_215 : decode cX2_setKey 215 = .ok (.aload_n 0, 1) := dk_42 (dk_at dksX2_setKey_9 6 rfl rfl)
theorem dX2_setKey_216 : decode cX2_setKey 216 = .ok (.getfield 13, 3) := dk_180 0 13 (dk_at dksX2_setKey_9 7 rfl rfl)
theorem dX2_setKey_219 : decode cX2_setKey 219 = .ok (.arraylength, 1) := dk_190 (dk_at dksX2_setKey_9 10 rfl rfl)
theorem dX2_setKey_220 : decode cX2_setKey 220 = .ok (.irem, 1) := dk_112 (dk_at dksX2_setKey_9 11 rfl rfl)
theorem dX2_setKey_221 : decode cX2_setKey 221 = .ok (.istore 8, 2) := dk_54 8 (dk_at dksX2_setKey_9 12 rfl rfl)
theorem dX2_setKey_223 : decode cX2_setKey 223 = .ok (.iload 9, 2) := dk_21 9 (dk_at dksX2_setKey_9 14 rfl rfl)
theorem dX2_setKey_225 : decode cX2_setKey 225 = .ok (.iconst 1, 1) := dk_4 (dk_at dksX2_setKey_9 16 rfl rfl)
theorem dX2_setKey_226 : decode cX2_setKey 226 = .ok (.iadd, 1) := dk_96 (dk_at dksX2_setKey_9 17 rfl rfl)
theorem dX2_setKey_227 : decode cX2_setKey 227 = .ok (.aload_n 2, 1) := dk_44 (dk_at dksX2_setKey_9 18 rfl rfl)
theorem dX2_setKey_228 : decode cX2_setKey 228 = .ok (.arraylength, 1) := dk_190 (dk_at dksX2_setKey_9 19 rfl rfl)
theorem dX2_setKey_229 : decode cX2_setKey 229 = .ok (.irem, 1) := dk_112 (dk_at dksX2_setKey_9 20 rfl rfl)
theorem dX2_setKey_230 : decode cX2_setKey 230 = .ok (.istore 9, 2) := dk_54 9 (dk_at dksX2_setKey_9 21 rfl rfl)
theorem dX2_setKey_232 : decode cX2_setKey 232 = .ok (.iinc 10 1, 3) := dk_132 10 1 (dk_at dksX2_setKey_10 0 rfl rfl)
theorem dX2_setKey_235 : decode cX2_setKey 235 = .ok (.goto (-86), 3) := dk_167 255 170 (dk_at dksX2_setKey_10 3 rfl rfl)
theorem dX2_setKey_238 : decode cX2_setKey 238 = .ok (.return_, 1) := dk_177 (dk_at dksX2_setKey_10 6 rfl rfl)
abbrev cX2_rotateLeft : ByteArray := prog_4_method_7_code
def yX2_rotateLeft : MethodName := ⟨RX2, "rotateLeft", "(JJ)J"⟩
def dkwX2_rotateLeft_0 : List UInt8 := [31, 33, 20, 0, 70, 127, 136, 121, 31, 20, 0, 72, 33, 20, 0, 70, 127, 101, 136, 125, 129, 173]
abbrev dktX2_rotateLeft_0 : List UInt8 := dkwX2_rotateLeft_0 ++ []
theorem dksX2_rotateLeft_0 : cX2_rotateLeft.data.toList.drop 0 = dktX2_rotateLeft_0 := by decide +kernel
theorem dX2_rotateLeft_0 : decode cX2_rotateLeft 0 = .ok (.lload_n 1, 1) := dk_31 (dk_at dksX2_rotateLeft_0 0 rfl rfl)
theorem dX2_rotateLeft_1 : decode cX2_rotateLeft 1 = .ok (.lload_n 3, 1) := dk_33 (dk_at dksX2_rotateLeft_0 1 rfl rfl)
theorem dX2_rotateLeft_2 : decode cX2_rotateLeft 2 = .ok (.ldc2_w 70, 3) := dk_20 0 70 (dk_at dksX2_rotateLeft_0 2 rfl rfl)
theorem dX2_rotateLeft_5 : decode cX2_rotateLeft 5 = .ok (.land, 1) := dk_127 (dk_at dksX2_rotateLeft_0 5 rfl rfl)
theorem dX2_rotateLeft_6 : decode cX2_rotateLeft 6 = .ok (.l2i, 1) := dk_136 (dk_at dksX2_rotateLeft_0 6 rfl rfl)
theorem dX2_rotateLeft_7 : decode cX2_rotateLeft 7 = .ok (.lshl, 1) := dk_121 (dk_at dksX2_rotateLeft_0 7 rfl rfl)
theorem dX2_rotateLeft_8 : decode cX2_rotateLeft 8 = .ok (.lload_n 1, 1) := dk_31 (dk_at dksX2_rotateLeft_0 8 rfl rfl)
theorem dX2_rotateLeft_9 : decode cX2_rotateLeft 9 = .ok (.ldc2_w 72, 3) := dk_20 0 72 (dk_at dksX2_rotateLeft_0 9 rfl rfl)
theorem dX2_rotateLeft_12 : decode cX2_rotateLeft 12 = .ok (.lload_n 3, 1) := dk_33 (dk_at dksX2_rotateLeft_0 12 rfl rfl)
theorem dX2_rotateLeft_13 : decode cX2_rotateLeft 13 = .ok (.ldc2_w 70, 3) := dk_20 0 70 (dk_at dksX2_rotateLeft_0 13 rfl rfl)
theorem dX2_rotateLeft_16 : decode cX2_rotateLeft 16 = .ok (.land, 1) := dk_127 (dk_at dksX2_rotateLeft_0 16 rfl rfl)
theorem dX2_rotateLeft_17 : decode cX2_rotateLeft 17 = .ok (.lsub, 1) := dk_101 (dk_at dksX2_rotateLeft_0 17 rfl rfl)
theorem dX2_rotateLeft_18 : decode cX2_rotateLeft 18 = .ok (.l2i, 1) := dk_136 (dk_at dksX2_rotateLeft_0 18 rfl rfl)
theorem dX2_rotateLeft_19 : decode cX2_rotateLeft 19 = .ok (.lushr, 1) := dk_125 (dk_at dksX2_rotateLeft_0 19 rfl rfl)
theorem dX2_rotateLeft_20 : decode cX2_rotateLeft 20 = .ok (.lor, 1) := dk_129 (dk_at dksX2_rotateLeft_0 20 rfl rfl)
theorem dX2_rotateLeft_21 : decode cX2_rotateLeft 21 = .ok (.lreturn, 1) := dk_173 (dk_at dksX2_rotateLeft_0 21 rfl rfl)
abbrev cX2_processBlock : ByteArray := prog_4_method_3_code
def yX2_processBlock : MethodName := ⟨RX2, "processBlock", "([BI[BI)I"⟩
def dkwX2_processBlock_1 : List UInt8 := [21, 4, 182, 0, 46, 172]
abbrev dktX2_processBlock_1 : List UInt8 := dkwX2_processBlock_1 ++ []
def dkwX2_processBlock_0 : List UInt8 := [42, 180, 0, 26, 153, 0, 15, 42, 43, 28, 45, 21, 4, 182, 0, 42, 167, 0, 12, 42, 43, 28, 45]
abbrev dktX2_processBlock_0 : List UInt8 := dkwX2_processBlock_0 ++ dktX2_processBlock_1
theorem dksX2_processBlock_0 : cX2_processBlock.data.toList.drop 0 = dktX2_processBlock_0 := by decide +kernel
theorem dksX2_processBlock_1 : cX2_processBlock.data.toList.drop 23 = dktX2_processBlock_1 := dk_seg dksX2_processBlock_0 23 rfl rfl
theorem dX2_processBlock_0 : decode cX2_processBlock 0 = .ok (.aload_n 0, 1) := dk_42 (dk_at dksX2_processBlock_0 0 rfl rfl)
theorem dX2_processBlock_1 : decode cX2_processBlock 1 = .ok (.getfield 26, 3) := dk_180 0 26 (dk_at dksX2_processBlock_0 1 rfl rfl)
theorem dX2_processBlock_4 : decode cX2_processBlock 4 = .ok (.ifCond .eq 15, 3) := dk_153 0 15 (dk_at dksX2_processBlock_0 4 rfl rfl)
theorem dX2_processBlock_7 : decode cX2_processBlock 7 = .ok (.aload_n 0, 1) := dk_42 (dk_at dksX2_processBlock_0 7 rfl rfl)
theorem dX2_processBlock_8 : decode cX2_processBlock 8 = .ok (.aload_n 1, 1) := dk_43 (dk_at dksX2_processBlock_0 8 rfl rfl)
theorem dX2_processBlock_9 : decode cX2_processBlock 9 = .ok (.iload_n 2, 1) := dk_28 (dk_at dksX2_processBlock_0 9 rfl rfl)
theorem dX2_processBlock_10 : decode cX2_processBlock 10 = .ok (.aload_n 3, 1) := dk_45 (dk_at dksX2_processBlock_0 10 rfl rfl)
theorem dX2_processBlock_11 : decode cX2_processBlock 11 = .ok (.iload 4, 2) := dk_21 4 (dk_at dksX2_processBlock_0 11 rfl rfl)
theorem dX2_processBlock_13 : decode cX2_processBlock 13 = .ok (.invokevirtual 42, 3) := dk_182 0 42 (dk_at dksX2_processBlock_0 13 rfl rfl)
theorem dX2_processBlock_16 : decode cX2_processBlock 16 = .ok (.goto 12, 3) := dk_167 0 12 (dk_at dksX2_processBlock_0 16 rfl rfl)
theorem dX2_processBlock_19 : decode cX2_processBlock 19 = .ok (.aload_n 0, 1) := dk_42 (dk_at dksX2_processBlock_0 19 rfl rfl)
theorem dX2_processBlock_20 : decode cX2_processBlock 20 = .ok (.aload_n 1, 1) := dk_43 (dk_at dksX2_processBlock_0 20 rfl rfl)
theorem dX2_processBlock_21 : decode cX2_processBlock 21 = .ok (.iload_n 2, 1) := dk_28 (dk_at dksX2_processBlock_0 21 rfl rfl)
theorem dX2_processBlock_22 : decode cX2_processBlock 22 = .ok (.aload_n 3, 1) := dk_45 (dk_at dksX2_processBlock_0 22 rfl rfl)
theorem dX2_processBlock_23 : decode cX2_processBlock 23 = .ok (.iload 4, 2) := dk_21 4 (dk_at dksX2_processBlock_1 0 rfl rfl)
theorem dX2_processBlock_25 : decode cX2_processBlock 25 = .ok (.invokevirtual 46, 3) := dk_182 0 46 (dk_at dksX2_processBlock_1 2 rfl rfl)
theorem dX2_processBlock_28 : decode cX2_processBlock 28 = .ok (.ireturn, 1) := dk_172 (dk_at dksX2_processBlock_1 5 rfl rfl)
abbrev cX2_encryptBlock : ByteArray := prog_4_method_5_code
def yX2_encryptBlock : MethodName := ⟨RX2, "encryptBlock", "([BI[BI)I"⟩
def dkwX2_encryptBlock_5 : List UInt8 := [182, 0, 63, 16, 16, 172]
abbrev dktX2_encryptBlock_5 : List UInt8 := dkwX2_encryptBlock_5 ++ []
def dkwX2_encryptBlock_4 : List UInt8 := [132, 9, 1, 167, 255, 196, 42, 22, 5, 45, 21, 4, 182, 0, 63, 42, 22, 7, 45, 21, 4, 16, 8, 96]
abbrev dktX2_encryptBlock_4 : List UInt8 := dkwX2_encryptBlock_4 ++ dktX2_encryptBlock_5
def dkwX2_encryptBlock_3 : List UInt8 := [22, 5, 131, 22, 5, 182, 0, 55, 42, 180, 0, 13, 5, 21, 9, 104, 4, 96, 47, 97, 55, 7]
abbrev dktX2_encryptBlock_3 : List UInt8 := dkwX2_encryptBlock_3 ++ dktX2_encryptBlock_4
def dkwX2_encryptBlock_2 : List UInt8 := [22, 7, 131, 22, 7, 182, 0, 55, 42, 180, 0, 13, 5, 21, 9, 104, 47, 97, 55, 5, 42, 22, 7]
abbrev dktX2_encryptBlock_2 : List UInt8 := dkwX2_encryptBlock_2 ++ dktX2_encryptBlock_3
def dkwX2_encryptBlock_1 : List UInt8 := [42, 180, 0, 13, 4, 47, 97, 55, 7, 4, 54, 9, 21, 9, 42, 180, 0, 9, 163, 0, 57, 42, 22, 5]
abbrev dktX2_encryptBlock_1 : List UInt8 := dkwX2_encryptBlock_1 ++ dktX2_encryptBlock_2
def dkwX2_encryptBlock_0 : List UInt8 := [42, 43, 28, 182, 0, 59, 42, 180, 0, 13, 3, 47, 97, 55, 5, 42, 43, 28, 16, 8, 96, 182, 0, 59]
abbrev dktX2_encryptBlock_0 : List UInt8 := dkwX2_encryptBlock_0 ++ dktX2_encryptBlock_1
theorem dksX2_encryptBlock_0 : cX2_encryptBlock.data.toList.drop 0 = dktX2_encryptBlock_0 := by decide +kernel
theorem dksX2_encryptBlock_1 : cX2_encryptBlock.data.toList.drop 24 = dktX2_encryptBlock_1 := dk_seg dksX2_encryptBlock_0 24 rfl rfl
theorem dksX2_encryptBlock_2 : cX2_encryptBlock.data.toList.drop 48 = dktX2_encryptBlock_2 := dk_seg dksX2_encryptBlock_1 24 rfl rfl
theorem dksX2_encryptBlock_3 : cX2_encryptBlock.data.toList.drop 71 = dktX2_encryptBlock_3 := dk_seg dksX2_encryptBlock_2 23 rfl rfl
theorem dksX2_encryptBlock_4 : cX2_encryptBlock.data.toList.drop 93 = dktX2_encryptBlock_4 := dk_seg dksX2_encryptBlock_3 22 rfl rfl
theorem dksX2_encryptBlock_5 : cX2_encryptBlock.data.toList.drop 117 = dktX2_encryptBlock_5 := dk_seg dksX2_encryptBlock_4 24 rfl rfl
theorem dX2_encryptBlock_0 : decode cX2_encryptBlock 0 = .ok (.aload_n 0, 1) := dk_42 (dk_at dksX2_encryptBlock_0 0 rfl rfl)
theorem dX2_encryptBlock_1 : decode cX2_encryptBlock 1 = .ok (.aload_n 1, 1) := dk_43 (dk_at dksX2_encryptBlock_0 1 rfl rfl)
theorem dX2_encryptBlock_2 : decode cX2_encryptBlock 2 = .ok (.iload_n 2, 1) := dk_28 (dk_at dksX2_encryptBlock_0 2 rfl rfl)
theorem dX2_encryptBlock_3 : decode cX2_encryptBlock 3 = .ok (.invokevirtual 59, 3) := dk_182 0 59 (dk_at dksX2_encryptBlock_0 3 rfl rfl)
theorem dX2_encryptBlock_6 : decode cX2_encryptBlock 6 = .ok (.aload_n 0, 1) := dk_42 (dk_at dksX2_encryptBlock_0 6 rfl rfl)
theorem dX2_encryptBlock_7 : decode cX2_encryptBlock 7 = .ok (.getfield 13, 3) := dk_180 0 13 (dk_at dksX2_encryptBlock_0 7 rfl rfl)
theorem dX2_encryptBlock_10 : decode cX2_encryptBlock 10 = .ok (.iconst 0, 1) := dk_3 (dk_at dksX2_encryptBlock_0 10 rfl rfl)
theorem dX2_encryptBlock_11 : decode cX2_encryptBlock 11 = .ok (.laload, 1) := dk_47 (dk_at dksX2_encryptBlock_0 11 rfl rfl)
theorem dX2_encryptBlock_12 : decode cX2_encryptBlock 12 = .ok (.ladd, 1) := dk_97 (dk_at dksX2_encryptBlock_0 12 rfl rfl)
theorem dX2_encryptBlock_13 : decode cX2_encryptBlock 13 = .ok (.lstore 5, 2) := dk_55 5 (dk_at dksX2_encryptBlock_0 13 rfl rfl)
theorem dX2_encryptBlock_15 : decode cX2_encryptBlock 15 = .ok (.aload_n 0, 1) := dk_42 (dk_at dksX2_encryptBlock_0 15 rfl rfl)
theorem dX2_encryptBlock_16 : decode cX2_encryptBlock 16 = .ok (.aload_n 1, 1) := dk_43 (dk_at dksX2_encryptBlock_0 16 rfl rfl)
theorem dX2_encryptBlock_17 : decode cX2_encryptBlock 17 = .ok (.iload_n 2, 1) := dk_28 (dk_at dksX2_encryptBlock_0 17 rfl rfl)
theorem dX2_encryptBlock_18 : decode cX2_encryptBlock 18 = .ok (.bipush 8, 2) := dk_16 8 (dk_at dksX2_encryptBlock_0 18 rfl rfl)
theorem dX2_encryptBlock_20 : decode cX2_encryptBlock 20 = .ok (.iadd, 1) := dk_96 (dk_at dksX2_encryptBlock_0 20 rfl rfl)
theorem dX2_encryptBlock_21 : decode cX2_encryptBlock 21 = .ok (.invokevirtual 59, 3) := dk_182 0 59 (dk_at dksX2_encryptBlock_0 21 rfl rfl)
theorem dX2_encryptBlock_24 : decode cX2_encryptBlock 24 = .ok (.aload_n 0, 1) := dk_42 (dk_at dksX2_encryptBlock_1 0 rfl rfl)
theorem dX2_encryptBlock_25 : decode cX2_encryptBlock 25 = .ok (.getfield 13, 3) := dk_180 0 13 (dk_at dksX2_encryptBlock_1 1 rfl rfl)
theorem dX2_encryptBlock_28 : decode cX2_encryptBlock 28 = .ok (.iconst 1, 1) := dk_4 (dk_at dksX2_encryptBlock_1 4 rfl rfl)
theorem dX2_encryptBlock_29 : decode cX2_encryptBlock 29 = .ok (.laload, 1) := dk_47 (dk_at dksX2_encryptBlock_1 5 rfl rfl)
theorem dX2_encryptBlock_30 : decode cX2_encryptBlock 30 = .ok (.ladd, 1) := dk_97 (dk_at dksX2_encryptBlock_1 6 rfl rfl)
theorem dX2_encryptBlock_31 : decode cX2_encryptBlock 31 = .ok (.lstore 7, 2) := dk_55 7 (dk_at dksX2_encryptBlock_1 7 rfl rfl)
theorem dX2_encryptBlock_33 : decode cX2_encryptBlock 33 = .ok (.iconst 1, 1) := dk_4 (dk_at dksX2_encryptBlock_1 9 rfl rfl)
theorem dX2_encryptBlock_34 : decode cX2_encryptBlock 34 = .ok (.istore 9, 2) := dk_54 9 (dk_at dksX2_encryptBlock_1 10 rfl rfl)
theorem dX2_encryptBlock_36 : decode cX2_encryptBlock 36 = .ok (.iload 9, 2) := dk_21 9 (dk_at dksX2_encryptBlock_1 12 rfl rfl)
theorem dX2_encryptBlock_38 : decode cX2_encryptBlock 38 = .ok (.aload_n 0, 1) := dk_42 (dk_at dksX2_encryptBlock_1 14 rfl rfl)
theorem dX2_encryptBlock_39 : decode cX2_encryptBlock 39 = .ok (.getfield 9, 3) := dk_180 0 9 (dk_at dksX2_encryptBlock_1 15 rfl rfl)
theorem dX2_encryptBlock_42 : decode cX2_encryptBlock 42 = .ok (.if_icmp .gt 57, 3) := dk_163 0 57 (dk_at dksX2_encryptBlock_1 18 rfl rfl)
theorem dX2_encryptBlock_45 : decode cX2_encryptBlock 45 = .ok (.aload_n 0, 1) := dk_42 (dk_at dksX2_encryptBlock_1 21 rfl rfl)
theorem dX2_encryptBlock_46 : decode cX2_encryptBlock 46 = .ok (.lload 5, 2) := dk_22 5 (dk_at dksX2_encryptBlock_1 22 rfl rfl)
theorem dX2_encryptBlock_48 : decode cX2_encryptBlock 48 = .ok (.lload 7, 2) := dk_22 7 (dk_at dksX2_encryptBlock_2 0 rfl rfl)
theorem dX2_encryptBlock_50 : decode cX2_encryptBlock 50 = .ok (.lxor, 1) := dk_131 (dk_at dksX2_encryptBlock_2 2 rfl rfl)
theorem dX2_encryptBlock_51 : decode cX2_encryptBlock 51 = .ok (.lload 7, 2) := dk_22 7 (dk_at dksX2_encryptBlock_2 3 rfl rfl)
theorem dX2_encryptBlock_53 : decode cX2_encryptBlock 53 = .ok (.invokevirtual 55, 3) := dk_182 0 55 (dk_at dksX2_encryptBlock_2 5 rfl rfl)
theorem dX2_encryptBlock_56 : decode cX2_encryptBlock 56 = .ok (.aload_n 0, 1) := dk_42 (dk_at dksX2_encryptBlock_2 8 rfl rfl)
theorem dX2_encryptBlock_57 : decode cX2_encryptBlock 57 = .ok (.getfield 13, 3) := dk_180 0 13 (dk_at dksX2_encryptBlock_2 9 rfl rfl)
theorem dX2_encryptBlock_60 : decode cX2_encryptBlock 60 = .ok (.iconst 2, 1) := dk_5 (dk_at dksX2_encryptBlock_2 12 rfl rfl)
theorem dX2_encryptBlock_61 : decode cX2_encryptBlock 61 = .ok (.iload 9, 2) := dk_21 9 (dk_at dksX2_encryptBlock_2 13 rfl rfl)
theorem dX2_encryptBlock_63 : decode cX2_encryptBlock 63 = .ok (.imul, 1) := dk_104 (dk_at dksX2_encryptBlock_2 15 rfl rfl)
theorem dX2_encryptBlock_64 : decode cX2_encryptBlock 64 = .ok (.laload, 1) := dk_47 (dk_at dksX2_encryptBlock_2 16 rfl rfl)
theorem dX2_encryptBlock_65 : decode cX2_encryptBlock 65 = .ok (.ladd, 1) := dk_97 (dk_at dksX2_encryptBlock_2 17 rfl rfl)
theorem dX2_encryptBlock_66 : decode cX2_encryptBlock 66 = .ok (.lstore 5, 2) := dk_55 5 (dk_at dksX2_encryptBlock_2 18 rfl rfl)
theorem dX2_encryptBlock_68 : decode cX2_encryptBlock 68 = .ok (.aload_n 0, 1) := dk_42 (dk_at dksX2_encryptBlock_2 20 rfl rfl)
theorem dX2_encryptBlock_69 : decode cX2_encryptBlock 69 = .ok (.lload 7, 2) := dk_22 7 (dk_at dksX2_encryptBlock_2 21 rfl rfl)
theorem dX2_encryptBlock_71 : decode cX2_encryptBlock 71 = .ok (.lload 5, 2) := dk_22 5 (dk_at dksX2_encryptBlock_3 0 rfl rfl)
theorem dX2_encryptBlock_73 : decode cX2_encryptBlock 73 = .ok (.lxor, 1) := dk_131 (dk_at dksX2_encryptBlock_3 2 rfl rfl)
theorem dX2_encryptBlock_74 : decode cX2_encryptBlock 74 = .ok (.lload 5, 2) := dk_22 5 (dk_at dksX2_encryptBlock_3 3 rfl rfl)
theorem dX2_encryptBlock_76 : decode cX2_encryptBlock 76 = .ok (.invokevirtual 55, 3) := dk_182 0 55 (dk_at dksX2_encryptBlock_3 5 rfl rfl)
theorem dX2_encryptBlock_79 : decode cX2_encryptBlock 79 = .ok (.aload_n 0, 1) := dk_42 (dk_at dksX2_encryptBlock_3 8 rfl rfl)
theorem dX2_encryptBlock_80 : decode cX2_encryptBlock 80 = .ok (.getfield 13, 3) := dk_180 0 13 (dk_at dksX2_encryptBlock_3 9 rfl rfl)
theorem dX2_encryptBlock_83 : decode cX2_encryptBlock 83 = .ok (.iconst 2, 1) := dk_5 (dk_at dksX2_encryptBlock_3 12 rfl rfl)
theorem dX2_encryptBlock_84 : decode cX2_encryptBlock 84 = .ok (.iload 9, 2) := dk_21 9 (dk_at dksX2_encryptBlock_3 13 rfl rfl)
theorem dX2_encryptBlock_86 : decode cX2_encryptBlock 86 = .ok (.imul, 1) := dk_104 (dk_at dksX2_encryptBlock_3 15 rfl rfl)
theorem dX2_encryptBlock_87 : decode cX2_encryptBlock 87 = .ok (.iconst 1, 1) := dk_4 (dk_at dksX2_encryptBlock_3 16 rfl rfl)
theorem dX2_encryptBlock_88 : decode cX2_encryptBlock 88 = .ok (.iadd, 1) := dk_96 (dk_at dksX2_encryptBlock_3 17 rfl rfl)
theorem dX2_encryptBlock_89 : decode cX2_encryptBlock 89 = .ok (.laload, 1) := dk_47 (dk_at dksX2_encryptBlock_3 18 rfl rfl)
theorem dX2_encryptBlock_90 : decode cX2_encryptBlock 90 = .ok (.ladd, 1) := dk_97 (dk_at dksX2_encryptBlock_3 19 rfl rfl)
theorem dX2_encryptBlock_91 : decode cX2_encryptBlock 91 = .ok (.lstore 7, 2) := dk_55 7 (dk_at dksX2_encryptBlock_3 20 rfl rfl)
theorem dX2_encryptBlock_93 : decode cX2_encryptBlock 93 = .ok (.iinc 9 1, 3) := dk_132 9 1 (dk_at dksX2_encryptBlock_4 0 rfl rfl)
theorem dX2_encryptBlock_96 : decode cX2_encryptBlock 96 = .ok (.goto (-60), 3) := dk_167 255 196 (dk_at dksX2_encryptBlock_4 3 rfl rfl)
theorem dX2_encryptBlock_99 : decode cX2_encryptBlock 99 = .ok (.aload_n 0, 1) := dk_42 (dk_at dksX2_encryptBlock_4 6 rfl rfl)
theorem dX2_encryptBlock_100 : decode cX2_encryptBlock 100 = .ok (.lload 5, 2) := dk_22 5 (dk_at dksX2_encryptBlock_4 7 rfl rfl)
theorem dX2_encryptBlock_102 : decode cX2_encryptBlock 102 = .ok (.aload_n 3, 1) := dk_45 (dk_at dksX2_encryptBlock_4 9 rfl rfl)
theorem dX2_encryptBlock_103 : decode cX2_encryptBlock 103 = .ok (.iload 4, 2) := dk_21 4 (dk_at dksX2_encryptBlock_4 10 rfl rfl)
theorem dX2_encryptBlock_105 : decode cX2_encryptBlock 105 = .ok (.invokevirtual 63, 3) := dk_182 0 63 (dk_at dksX2_encryptBlock_4 12 rfl rfl)
theorem dX2_encryptBlock_108 : decode cX2_encryptBlock 108 = .ok (.aload_n 0, 1) := dk_42 (dk_at dksX2_encryptBlock_4 15 rfl rfl)
theorem dX2_encryptBlock_109 : decode cX2_encryptBlock 109 = .ok (.lload 7, 2) := dk_22 7 (dk_at dksX2_encryptBlock_4 16 rfl rfl)
theorem dX2_encryptBlock_111 : decode cX2_encryptBlock 111 = .ok (.aload_n 3, 1) := dk_45 (dk_at dksX2_encryptBlock_4 18 rfl rfl)
theorem dX2_encryptBlock_112 : decode cX2_encryptBlock 112 = .ok (.iload 4, 2) := dk_21 4 (dk_at dksX2_encryptBlock_4 19 rfl rfl)
theorem dX2_encryptBlock_114 : decode cX2_encryptBlock 114 = .ok (.bipush 8, 2) := dk_16 8 (dk_at dksX2_encryptBlock_4 21 rfl rfl)
theorem dX2_encryptBlock_116 : decode cX2_encryptBlock 116 = .ok (.iadd, 1) := dk_96 (dk_at dksX2_encryptBlock_4 23 rfl rfl)
theorem dX2_encryptBlock_117 : decode cX2_encryptBlock 117 = .ok (.invokevirtual 63, 3) := dk_182 0 63 (dk_at dksX2_encryptBlock_5 0 rfl rfl)
theorem dX2_encryptBlock_120 : decode cX2_encryptBlock 120 = .ok (.bipush 16, 2) := dk_16 16 (dk_at dksX2_encryptBlock_5 3 rfl rfl)
theorem dX2_encryptBlock_122 : decode cX2_encryptBlock 122 = .ok (.ireturn, 1) := dk_172 (dk_at dksX2_encryptBlock_5 5 rfl rfl)
abbrev cX2_bytesToWord : ByteArray := prog_4_method_9_code
def yX2_bytesToWord : MethodName := ⟨RX2, "bytesToWord", "([BI)J"⟩
def dkwX2_bytesToWord_1 : List UInt8 := [126, 133, 97, 66, 132, 5, 255, 167, 255, 231, 33, 173]
abbrev dktX2_bytesToWord_1 : List UInt8 := dkwX2_bytesToWord_1 ++ []
def dkwX2_bytesToWord_0 : List UInt8 := [9, 66, 16, 7, 54, 5, 21, 5, 155, 0, 26, 33, 16, 8, 121, 43, 21, 5, 28, 96, 51, 17, 0, 255]
abbrev dktX2_bytesToWord_0 : List UInt8 := dkwX2_bytesToWord_0 ++ dktX2_bytesToWord_1
theorem dksX2_bytesToWord_0 : cX2_bytesToWord.data.toList.drop 0 = dktX2_bytesToWord_0 := by decide +kernel
theorem dksX2_bytesToWord_1 : cX2_bytesToWord.data.toList.drop 24 = dktX2_bytesToWord_1 := dk_seg dksX2_bytesToWord_0 24 rfl rfl
theorem dX2_bytesToWord_0 : decode cX2_bytesToWord 0 = .ok (.lconst 0, 1) := dk_9 (dk_at dksX2_bytesToWord_0 0 rfl rfl)
theorem dX2_bytesToWord_1 : decode cX2_bytesToWord 1 = .ok (.lstore_n 3, 1) := dk_66 (dk_at dksX2_bytesToWord_0 1 rfl rfl)
theorem dX2_bytesToWord_2 : decode cX2_bytesToWord 2 = .ok (.bipush 7, 2) := dk_16 7 (dk_at dksX2_bytesToWord_0 2 rfl rfl)
theorem dX2_bytesToWord_4 : decode cX2_bytesToWord 4 = .ok (.istore 5, 2) := dk_54 5 (dk_at dksX2_bytesToWord_0 4 rfl rfl)
theorem dX2_bytesToWord_6 : decode cX2_bytesToWord 6 = .ok (.iload 5, 2) := dk_21 5 (dk_at dksX2_bytesToWord_0 6 rfl rfl)
theorem dX2_bytesToWord_8 : decode cX2_bytesToWord 8 = .ok (.ifCond .lt 26, 3) := dk_155 0 26 (dk_at dksX2_bytesToWord_0 8 rfl rfl)
theorem dX2_bytesToWord_11 : decode cX2_bytesToWord 11 = .ok (.lload_n 3, 1) := dk_33 (dk_at dksX2_bytesToWord_0 11 rfl rfl)
theorem dX2_bytesToWord_12 : decode cX2_bytesToWord 12 = .ok (.bipush 8, 2) := dk_16 8 (dk_at dksX2_bytesToWord_0 12 rfl rfl)
theorem dX2_bytesToWord_14 : decode cX2_bytesToWord 14 = .ok (.lshl, 1) := dk_121 (dk_at dksX2_bytesToWord_0 14 rfl rfl)
theorem dX2_bytesToWord_15 : decode cX2_bytesToWord 15 = .ok (.aload_n 1, 1) := dk_43 (dk_at dksX2_bytesToWord_0 15 rfl rfl)
theorem dX2_bytesToWord_16 : decode cX2_bytesToWord 16 = .ok (.iload 5, 2) := dk_21 5 (dk_at dksX2_bytesToWord_0 16 rfl rfl)
theorem dX2_bytesToWord_18 : decode cX2_bytesToWord 18 = .ok (.iload_n 2, 1) := dk_28 (dk_at dksX2_bytesToWord_0 18 rfl rfl)
theorem dX2_bytesToWord_19 : decode cX2_bytesToWord 19 = .ok (.iadd, 1) := dk_96 (dk_at dksX2_bytesToWord_0 19 rfl rfl)
theorem dX2_bytesToWord_20 : decode cX2_bytesToWord 20 = .ok (.baload, 1) := dk_51 (dk_at dksX2_bytesToWord_0 20 rfl rfl)
theorem dX2_bytesToWord_21 : decode cX2_bytesToWord 21 = .ok (.sipush 255, 3) := dk_17 0 255 (dk_at dksX2_bytesToWord_0 21 rfl rfl)
theorem dX2_bytesToWord_24 : decode cX2_bytesToWord 24 = .ok (.iand, 1) := dk_126 (dk_at dksX2_bytesToWord_1 0 rfl rfl)
theorem dX2_bytesToWord_25 : decode cX2_bytesToWord 25 = .ok (.i2l, 1) := dk_133 (dk_at dksX2_bytesToWord_1 1 rfl rfl)
theorem dX2_bytesToWord_26 : decode cX2_bytesToWord 26 = .ok (.ladd, 1) := dk_97 (dk_at dksX2_bytesToWord_1 2 rfl rfl)
theorem dX2_bytesToWord_27 : decode cX2_bytesToWord 27 = .ok (.lstore_n 3, 1) := dk_66 (dk_at dksX2_bytesToWord_1 3 rfl rfl)
theorem dX2_bytesToWord_28 : decode cX2_bytesToWord 28 = .ok (.iinc 5 (-1), 3) := dk_132 5 255 (dk_at dksX2_bytesToWord_1 4 rfl rfl)
theorem dX2_bytesToWord_31 : decode cX2_bytesToWord 31 = .ok (.goto (-25), 3) := dk_167 255 231 (dk_at dksX2_bytesToWord_1 7 rfl rfl)
theorem dX2_bytesToWord_34 : decode cX2_bytesToWord 34 = .ok (.lload_n 3, 1) := dk_33 (dk_at dksX2_bytesToWord_1 10 rfl rfl)
theorem dX2_bytesToWord_35 : decode cX2_bytesToWord 35 = .ok (.lreturn, 1) := dk_173 (dk_at dksX2_bytesToWord_1 11 rfl rfl)
abbrev cX2_wordToBytes : ByteArray := prog_4_method_10_code
def yX2_wordToBytes : MethodName := ⟨RX2, "wordToBytes", "(J[BI)V"⟩
def dkwX2_wordToBytes_1 : List UInt8 := [64, 132, 5, 1, 167, 255, 231, 177]
abbrev dktX2_wordToBytes_1 : List UInt8 := dkwX2_wordToBytes_1 ++ []
def dkwX2_wordToBytes_0 : List UInt8 := [3, 54, 5, 21, 5, 16, 8, 162, 0, 24, 45, 21, 5, 21, 4, 96, 31, 136, 145, 84, 31, 16, 8, 125]
abbrev dktX2_wordToBytes_0 : List UInt8 := dkwX2_wordToBytes_0 ++ dktX2_wordToBytes_1
theorem dksX2_wordToBytes_0 : cX2_wordToBytes.data.toList.drop 0 = dktX2_wordToBytes_0 := by decide +kernel
theorem dksX2_wordToBytes_1 : cX2_wordToBytes.data.toList.drop 24 = dktX2_wordToBytes_1 := dk_seg dksX2_wordToBytes_0 24 rfl rfl
theorem dX2_wordToBytes_0 : decode cX2_wordToBytes 0 = .ok (.iconst 0, 1) := dk_3 (dk_at dksX2_wordToBytes_0 0 rfl rfl)
theorem dX2_wordToBytes_1 : decode cX2_wordToBytes 1 = .ok (.istore 5, 2) := dk_54 5 (dk_at dksX2_wordToBytes_0 1 rfl rfl)
theorem dX2_wordToBytes_3 : decode cX2_wordToBytes 3 = .ok (.iload 5, 2) := dk_21 5 (dk_at dksX2_wordToBytes_0 3 rfl rfl)
theorem dX2_wordToBytes_5 : decode cX2_wordToBytes 5 = .ok (.bipush 8, 2) := dk_16 8 (dk_at dksX2_wordToBytes_0 5 rfl rfl)
theorem dX2_wordToBytes_7 : decode cX2_wordToBytes 7 = .ok (.if_icmp .ge 24, 3) := dk_162 0 24 (dk_at dksX2_wordToBytes_0 7 rfl rfl)
theorem dX2_wordToBytes_10 : decode cX2_wordToBytes 10 = .ok (.aload_n 3, 1) := dk_45 (dk_at dksX2_wordToBytes_0 10 rfl rfl)
theorem dX2_wordToBytes_11 : decode cX2_wordToBytes 11 = .ok (.iload 5, 2) := dk_21 5 (dk_at dksX2_wordToBytes_0 11 rfl rfl)
theorem dX2_wordToBytes_13 : decode cX2_wordToBytes 13 = .ok (.iload 4, 2) := dk_21 4 (dk_at dksX2_wordToBytes_0 13 rfl rfl)
theorem dX2_wordToBytes_15 : decode cX2_wordToBytes 15 = .ok (.iadd, 1) := dk_96 (dk_at dksX2_wordToBytes_0 15 rfl rfl)
theorem dX2_wordToBytes_16 : decode cX2_wordToBytes 16 = .ok (.lload_n 1, 1) := dk_31 (dk_at dksX2_wordToBytes_0 16 rfl rfl)
theorem dX2_wordToBytes_17 : decode cX2_wordToBytes 17 = .ok (.l2i, 1) := dk_136 (dk_at dksX2_wordToBytes_0 17 rfl rfl)
theorem dX2_wordToBytes_18 : decode cX2_wordToBytes 18 = .ok (.i2b, 1) := dk_145 (dk_at dksX2_wordToBytes_0 18 rfl rfl)
theorem dX2_wordToBytes_19 : decode cX2_wordToBytes 19 = .ok (.bastore, 1) := dk_84 (dk_at dksX2_wordToBytes_0 19 rfl rfl)
theorem dX2_wordToBytes_20 : decode cX2_wordToBytes 20 = .ok (.lload_n 1, 1) := dk_31 (dk_at dksX2_wordToBytes_0 20 rfl rfl)
theorem dX2_wordToBytes_21 : decode cX2_wordToBytes 21 = .ok (.bipush 8, 2) := dk_16 8 (dk_at dksX2_wordToBytes_0 21 rfl rfl)
theorem dX2_wordToBytes_23 : decode cX2_wordToBytes 23 = .ok (.lushr, 1) := dk_125 (dk_at dksX2_wordToBytes_0 23 rfl rfl)
theorem dX2_wordToBytes_24 : decode cX2_wordToBytes 24 = .ok (.lstore_n 1, 1) := dk_64 (dk_at dksX2_wordToBytes_1 0 rfl rfl)
theorem dX2_wordToBytes_25 : decode cX2_wordToBytes 25 = .ok (.iinc 5 1, 3) := dk_132 5 1 (dk_at dksX2_wordToBytes_1 1 rfl rfl)
theorem dX2_wordToBytes_28 : decode cX2_wordToBytes 28 = .ok (.goto (-25), 3) := dk_167 255 231 (dk_at dksX2_wordToBytes_1 4 rfl rfl)
theorem dX2_wordToBytes_31 : decode cX2_wordToBytes 31 = .ok (.return_, 1) := dk_177 (dk_at dksX2_wordToBytes_1 7 rfl rfl)
abbrev cX2_decryptBlock : ByteArray := prog_4_method_6_code
def yX2_decryptBlock : MethodName := ⟨RX2, "decryptBlock", "([BI[BI)I"⟩
def dkwX2_decryptBlock_5 : List UInt8 := [182, 0, 63, 16, 16, 172]
abbrev dktX2_decryptBlock_5 : List UInt8 := dkwX2_decryptBlock_5 ++ []
def dkwX2_decryptBlock_4 : List UInt8 := [47, 101, 45, 21, 4, 182, 0, 63, 42, 22, 7, 42, 180, 0, 13, 4, 47, 101, 45, 21, 4, 16, 8, 96]
abbrev dktX2_decryptBlock_4 : List UInt8 := dkwX2_decryptBlock_4 ++ dktX2_decryptBlock_5
def dkwX2_decryptBlock_3 : List UInt8 := [22, 7, 182, 0, 67, 22, 7, 131, 55, 5, 132, 9, 255, 167, 255, 199, 42, 22, 5, 42, 180, 0, 13, 3]
abbrev dktX2_decryptBlock_3 : List UInt8 := dkwX2_decryptBlock_3 ++ dktX2_decryptBlock_4
def dkwX2_decryptBlock_2 : List UInt8 := [22, 5, 182, 0, 67, 22, 5, 131, 55, 7, 42, 22, 5, 42, 180, 0, 13, 5, 21, 9, 104, 47, 101]
abbrev dktX2_decryptBlock_2 : List UInt8 := dkwX2_decryptBlock_2 ++ dktX2_decryptBlock_3
def dkwX2_decryptBlock_1 : List UInt8 := [54, 9, 21, 9, 4, 161, 0, 57, 42, 22, 7, 42, 180, 0, 13, 5, 21, 9, 104, 4, 96, 47, 101]
abbrev dktX2_decryptBlock_1 : List UInt8 := dkwX2_decryptBlock_1 ++ dktX2_decryptBlock_2
def dkwX2_decryptBlock_0 : List UInt8 := [42, 43, 28, 182, 0, 59, 55, 5, 42, 43, 28, 16, 8, 96, 182, 0, 59, 55, 7, 42, 180, 0, 9]
abbrev dktX2_decryptBlock_0 : List UInt8 := dkwX2_decryptBlock_0 ++ dktX2_decryptBlock_1
theorem dksX2_decryptBlock_0 : cX2_decryptBlock.data.toList.drop 0 = dktX2_decryptBlock_0 := by decide +kernel
theorem dksX2_decryptBlock_1 : cX2_decryptBlock.data.toList.drop 23 = dktX2_decryptBlock_1 := dk_seg dksX2_decryptBlock_0 23 rfl rfl
theorem dksX2_decryptBlock_2 : cX2_decryptBlock.data.toList.drop 46 = dktX2_decryptBlock_2 := dk_seg dksX2_decryptBlock_1 23 rfl rfl
theorem dksX2_decryptBlock_3 : cX2_decryptBlock.data.toList.drop 69 = dktX2_decryptBlock_3 := dk_seg dksX2_decryptBlock_2 23 rfl rfl
theorem dksX2_decryptBlock_4 : cX2_decryptBlock.data.toList.drop 93 = dktX2_decryptBlock_4 := dk_seg dksX2_decryptBlock_3 24 rfl rfl
theorem dksX2_decryptBlock_5 : cX2_decryptBlock.data.toList.drop 117 = dktX2_decryptBlock_5 := dk_seg dksX2_decryptBlock_4 24 rfl rfl
theorem dX2_decryptBlock_0 : decode cX2_decryptBlock 0 = .ok (.aload_n 0, 1) := dk_42 (dk_at dksX2_decryptBlock_0 0 rfl rfl)
theorem dX2_decryptBlock_1 : decode cX2_decryptBlock 1 = .ok (.aload_n 1, 1) := dk_43 (dk_at dksX2_decryptBlock_0 1 rfl rfl)
theorem dX2_decryptBlock_2 : decode cX2_decryptBlock 2 = .ok (.iload_n 2, 1) := dk_28 (dk_at dksX2_decryptBlock_0 2 rfl rfl)
theorem dX2_decryptBlock_3 : decode cX2_decryptBlock 3 = .ok (.invokevirtual 59, 3) := dk_182 0 59 (dk_at dksX2_decryptBlock_0 3 rfl rfl)
theorem dX2_decryptBlock_6 : decode cX2_decryptBlock 6 = .ok (.lstore 5, 2) := dk_55 5 (dk_at dksX2_decryptBlock_0 6 rfl rfl)
theorem dX2_decryptBlock_8 : decode cX2_decryptBlock 8 = .ok (.aload_n 0, 1) := dk_42 (dk_at dksX2_decryptBlock_0 8 rfl rfl)
theorem dX2_decryptBlock_9 : decode cX2_decryptBlock 9 = .ok (.aload_n 1, 1) := dk_43 (dk_at dksX2_decryptBlock_0 9 rfl rfl)
theorem dX2_decryptBlock_10 : decode cX2_decryptBlock 10 = .ok (.iload_n 2, 1) := dk_28 (dk_at dksX2_decryptBlock_0 10 rfl rfl)
theorem dX2_decryptBlock_11 : decode cX2_decryptBlock 11 = .ok (.bipush 8, 2) := dk_16 8 (dk_at dksX2_decryptBlock_0 11 rfl rfl)
theorem dX2_decryptBlock_13 : decode cX2_decryptBlock 13 = .ok (.iadd, 1) := dk_96 (dk_at dksX2_decryptBlock_0 13 rfl rfl)
theorem dX2_decryptBlock_14 : decode cX2_decryptBlock 14 = .ok (.invokevirtual 59, 3) := dk_182 0 59 (dk_at dksX2_decryptBlock_0 14 rfl rfl)
theorem dX2_decryptBlock_17 : decode cX2_decryptBlock 17 = .ok (.lstore 7, 2) := dk_55 7 (dk_at dksX2_decryptBlock_0 17 rfl rfl)
theorem dX2_decryptBlock_19 : decode cX2_decryptBlock 19 = .ok (.aload_n 0, 1) := dk_42 (dk_at dksX2_decryptBlock_0 19 rfl rfl)
theorem dX2_decryptBlock_20 : decode cX2_decryptBlock 20 = .ok (.getfield 9, 3) := dk_180 0 9 (dk_at dksX2_decryptBlock_0 20 rfl rfl)
theorem dX2_decryptBlock_23 : decode cX2_decryptBlock 23 = .ok (.istore 9, 2) := dk_54 9 (dk_at dksX2_decryptBlock_1 0 rfl rfl)
theorem dX2_decryptBlock_25 : decode cX2_decryptBlock 25 = .ok (.iload 9, 2) := dk_21 9 (dk_at dksX2_decryptBlock_1 2 rfl rfl)
theorem dX2_decryptBlock_27 : decode cX2_decryptBlock 27 = .ok (.iconst 1, 1) := dk_4 (dk_at dksX2_decryptBlock_1 4 rfl rfl)
theorem dX2_decryptBlock_28 : decode cX2_decryptBlock 28 = .ok (.if_icmp .lt 57, 3) := dk_161 0 57 (dk_at dksX2_decryptBlock_1 5 rfl rfl)
theorem dX2_decryptBlock_31 : decode cX2_decryptBlock 31 = .ok (.aload_n 0, 1) := dk_42 (dk_at dksX2_decryptBlock_1 8 rfl rfl)
theorem dX2_decryptBlock_32 : decode cX2_decryptBlock 32 = .ok (.lload 7, 2) := dk_22 7 (dk_at dksX2_decryptBlock_1 9 rfl rfl)
theorem dX2_decryptBlock_34 : decode cX2_decryptBlock 34 = .ok (.aload_n 0, 1) := dk_42 (dk_at dksX2_decryptBlock_1 11 rfl rfl)
theorem dX2_decryptBlock_35 : decode cX2_decryptBlock 35 = .ok (.getfield 13, 3) := dk_180 0 13 (dk_at dksX2_decryptBlock_1 12 rfl rfl)
theorem dX2_decryptBlock_38 : decode cX2_decryptBlock 38 = .ok (.iconst 2, 1) := dk_5 (dk_at dksX2_decryptBlock_1 15 rfl rfl)
theorem dX2_decryptBlock_39 : decode cX2_decryptBlock 39 = .ok (.iload 9, 2) := dk_21 9 (dk_at dksX2_decryptBlock_1 16 rfl rfl)
theorem dX2_decryptBlock_41 : decode cX2_decryptBlock 41 = .ok (.imul, 1) := dk_104 (dk_at dksX2_decryptBlock_1 18 rfl rfl)
theorem dX2_decryptBlock_42 : decode cX2_decryptBlock 42 = .ok (.iconst 1, 1) := dk_4 (dk_at dksX2_decryptBlock_1 19 rfl rfl)
theorem dX2_decryptBlock_43 : decode cX2_decryptBlock 43 = .ok (.iadd, 1) := dk_96 (dk_at dksX2_decryptBlock_1 20 rfl rfl)
theorem dX2_decryptBlock_44 : decode cX2_decryptBlock 44 = .ok (.laload, 1) := dk_47 (dk_at dksX2_decryptBlock_1 21 rfl rfl)
theorem dX2_decryptBlock_45 : decode cX2_decryptBlock 45 = .ok (.lsub, 1) := dk_101 (dk_at dksX2_decryptBlock_1 22 rfl rfl)
theorem dX2_decryptBlock_46 : decode cX2_decryptBlock 46 = .ok (.lload 5, 2) := dk_22 5 (dk_at dksX2_decryptBlock_2 0 rfl rfl)
theorem dX2_decryptBlock_48 : decode cX2_decryptBlock 48 = .ok (.invokevirtual 67, 3) := dk_182 0 67 (dk_at dksX2_decryptBlock_2 2 rfl rfl)
theorem dX2_decryptBlock_51 : decode cX2_decryptBlock 51 = .ok (.lload 5, 2) := dk_22 5 (dk_at dksX2_decryptBlock_2 5 rfl rfl)
theorem dX2_decryptBlock_53 : decode cX2_decryptBlock 53 = .ok (.lxor, 1) := dk_131 (dk_at dksX2_decryptBlock_2 7 rfl rfl)
theorem dX2_decryptBlock_54 : decode cX2_decryptBlock 54 = .ok (.lstore 7, 2) := dk_55 7 (dk_at dksX2_decryptBlock_2 8 rfl rfl)
theorem dX2_decryptBlock_56 : decode cX2_decryptBlock 56 = .ok (.aload_n 0, 1) := dk_42 (dk_at dksX2_decryptBlock_2 10 rfl rfl)
theorem dX2_decryptBlock_57 : decode cX2_decryptBlock 57 = .ok (.lload 5, 2) := dk_22 5 (dk_at dksX2_decryptBlock_2 11 rfl rfl)
theorem dX2_decryptBlock_59 : decode cX2_decryptBlock 59 = .ok (.aload_n 0, 1) := dk_42 (dk_at dksX2_decryptBlock_2 13 rfl rfl)
theorem dX2_decryptBlock_60 : decode cX2_decryptBlock 60 = .ok (.getfield 13, 3) := dk_180 0 13 (dk_at dksX2_decryptBlock_2 14 rfl rfl)
theorem dX2_decryptBlock_63 : decode cX2_decryptBlock 63 = .ok (.iconst 2, 1) := dk_5 (dk_at dksX2_decryptBlock_2 17 rfl rfl)
theorem dX2_decryptBlock_64 : decode cX2_decryptBlock 64 = .ok (.iload 9, 2) := dk_21 9 (dk_at dksX2_decryptBlock_2 18 rfl rfl)
theorem dX2_decryptBlock_66 : decode cX2_decryptBlock 66 = .ok (.imul, 1) := dk_104 (dk_at dksX2_decryptBlock_2 20 rfl rfl)
theorem dX2_decryptBlock_67 : decode cX2_decryptBlock 67 = .ok (.laload, 1) := dk_47 (dk_at dksX2_decryptBlock_2 21 rfl rfl)
theorem dX2_decryptBlock_68 : decode cX2_decryptBlock 68 = .ok (.lsub, 1) := dk_101 (dk_at dksX2_decryptBlock_2 22 rfl rfl)
theorem dX2_decryptBlock_69 : decode cX2_decryptBlock 69 = .ok (.lload 7, 2) := dk_22 7 (dk_at dksX2_decryptBlock_3 0 rfl rfl)
theorem dX2_decryptBlock_71 : decode cX2_decryptBlock 71 = .ok (.invokevirtual 67, 3) := dk_182 0 67 (dk_at dksX2_decryptBlock_3 2 rfl rfl)
theorem dX2_decryptBlock_74 : decode cX2_decryptBlock 74 = .ok (.lload 7, 2) := dk_22 7 (dk_at dksX2_decryptBlock_3 5 rfl rfl)
theorem dX2_decryptBlock_76 : decode cX2_decryptBlock 76 = .ok (.lxor, 1) := dk_131 (dk_at dksX2_decryptBlock_3 7 rfl rfl)
theorem dX2_decryptBlock_77 : decode cX2_decryptBlock 77 = .ok (.lstore 5, 2) := dk_55 5 (dk_at dksX2_decryptBlock_3 8 rfl rfl)
theorem dX2_decryptBlock_79 : decode cX2_decryptBlock 79 = .ok (.iinc 9 (-1), 3) := dk_132 9 255 (dk_at dksX2_decryptBlock_3 10 rfl rfl)
theorem dX2_decryptBlock_82 : decode cX2_decryptBlock 82 = .ok (.goto (-57), 3) := dk_167 255 199 (dk_at dksX2_decryptBlock_3 13 rfl rfl)
theorem dX2_decryptBlock_85 : decode cX2_decryptBlock 85 = .ok (.aload_n 0, 1) := dk_42 (dk_at dksX2_decryptBlock_3 16 rfl rfl)
theorem dX2_decryptBlock_86 : decode cX2_decryptBlock 86 = .ok (.lload 5, 2) := dk_22 5 (dk_at dksX2_decryptBlock_3 17 rfl rfl)
theorem dX2_decryptBlock_88 : decode cX2_decryptBlock 88 = .ok (.aload_n 0, 1) := dk_42 (dk_at dksX2_decryptBlock_3 19 rfl rfl)
theorem dX2_decryptBlock_89 : decode cX2_decryptBlock 89 = .ok (.getfield 13, 3) := dk_180 0 13 (dk_at dksX2_decryptBlock_3 20 rfl rfl)
theorem dX2_decryptBlock_92 : decode cX2_decryptBlock 92 = .ok (.iconst 0, 1) := dk_3 (dk_at dksX2_decryptBlock_3 23 rfl rfl)
theorem dX2_decryptBlock_93 : decode cX2_decryptBlock 93 = .ok (.laload, 1) := dk_47 (dk_at dksX2_decryptBlock_4 0 rfl rfl)
theorem dX2_decryptBlock_94 : decode cX2_decryptBlock 94 = .ok (.lsub, 1) := dk_101 (dk_at dksX2_decryptBlock_4 1 rfl rfl)
theorem dX2_decryptBlock_95 : decode cX2_decryptBlock 95 = .ok (.aload_n 3, 1) := dk_45 (dk_at dksX2_decryptBlock_4 2 rfl rfl)
theorem dX2_decryptBlock_96 : decode cX2_decryptBlock 96 = .ok (.iload 4, 2) := dk_21 4 (dk_at dksX2_decryptBlock_4 3 rfl rfl)
theorem dX2_decryptBlock_98 : decode cX2_decryptBlock 98 = .ok (.invokevirtual 63, 3) := dk_182 0 63 (dk_at dksX2_decryptBlock_4 5 rfl rfl)
theorem dX2_decryptBlock_101 : decode cX2_decryptBlock 101 = .ok (.aload_n 0, 1) := dk_42 (dk_at dksX2_decryptBlock_4 8 rfl rfl)
theorem dX2_decryptBlock_102 : decode cX2_decryptBlock 102 = .ok (.lload 7, 2) := dk_22 7 (dk_at dksX2_decryptBlock_4 9 rfl rfl)
theorem dX2_decryptBlock_104 : decode cX2_decryptBlock 104 = .ok (.aload_n 0, 1) := dk_42 (dk_at dksX2_decryptBlock_4 11 rfl rfl)
theorem dX2_decryptBlock_105 : decode cX2_decryptBlock 105 = .ok (.getfield 13, 3) := dk_180 0 13 (dk_at dksX2_decryptBlock_4 12 rfl rfl)
theorem dX2_decryptBlock_108 : decode cX2_decryptBlock 108 = .ok (.iconst 1, 1) := dk_4 (dk_at dksX2_decryptBlock_4 15 rfl rfl)
theorem dX2_decryptBlock_109 : decode cX2_decryptBlock 109 = .ok (.laload, 1) := dk_47 (dk_at dksX2_decryptBlock_4 16 rfl rfl)
theorem dX2_decryptBlock_110 : decode cX2_decryptBlock 110 = .ok (.lsub, 1) := dk_101 (dk_at dksX2_decryptBlock_4 17 rfl rfl)
theorem dX2_decryptBlock_111 : decode cX2_decryptBlock 111 = .ok (.aload_n 3, 1) := dk_45 (dk_at dksX2_decryptBlock_4 18 rfl rfl)
theorem dX2_decryptBlock_112 : decode cX2_decryptBlock 112 = .ok (.iload 4, 2) := dk_21 4 (dk_at dksX2_decryptBlock_4 19 rfl rfl)
theorem dX2_decryptBlock_114 : decode cX2_decryptBlock 114 = .ok (.bipush 8, 2) := dk_16 8 (dk_at dksX2_decryptBlock_4 21 rfl rfl)
theorem dX2_decryptBlock_116 : decode cX2_decryptBlock 116 = .ok (.iadd, 1) := dk_96 (dk_at dksX2_decryptBlock_4 23 rfl rfl)
theorem dX2_decryptBlock_117 : decode cX2_decryptBlock 117 = .ok (.invokevirtual 63, 3) := dk_182 0 63 (dk_at dksX2_decryptBlock_5 0 rfl rfl)
theorem dX2_decryptBlock_120 : decode cX2_decryptBlock 120 = .ok (.bipush 16, 2) := dk_16 16 (dk_at dksX2_decryptBlock_5 3 rfl rfl)
theorem dX2_decryptBlock_122 : decode cX2_decryptBlock 122 = .ok (.ireturn, 1) := dk_172 (dk_at dksX2_decryptBlock_5 5 rfl rfl)
abbrev cX2_rotateRight : ByteArray := prog_4_method_8_code
def yX2_rotateRight : MethodName := ⟨RX2, "rotateRight", "(JJ)J"⟩
def dkwX2_rotateRight_0 : List UInt8 := [31, 33, 20, 0, 70, 127, 136, 125, 31, 20, 0, 72, 33, 20, 0, 70, 127, 101, 136, 121, 129, 173]
abbrev dktX2_rotateRight_0 : List UInt8 := dkwX2_rotateRight_0 ++ []
theorem dksX2_rotateRight_0 : cX2_rotateRight.data.toList.drop 0 = dktX2_rotateRight_0 := by decide +kernel
theorem dX2_rotateRight_0 : decode cX2_rotateRight 0 = .ok (.lload_n 1, 1) := dk_31 (dk_at dksX2_rotateRight_0 0 rfl rfl)
theorem dX2_rotateRight_1 : decode cX2_rotateRight 1 = .ok (.lload_n 3, 1) := dk_33 (dk_at dksX2_rotateRight_0 1 rfl rfl)
theorem dX2_rotateRight_2 : decode cX2_rotateRight 2 = .ok (.ldc2_w 70, 3) := dk_20 0 70 (dk_at dksX2_rotateRight_0 2 rfl rfl)
theorem dX2_rotateRight_5 : decode cX2_rotateRight 5 = .ok (.land, 1) := dk_127 (dk_at dksX2_rotateRight_0 5 rfl rfl)
theorem dX2_rotateRight_6 : decode cX2_rotateRight 6 = .ok (.l2i, 1) := dk_136 (dk_at dksX2_rotateRight_0 6 rfl rfl)
theorem dX2_rotateRight_7 : decode cX2_rotateRight 7 = .ok (.lushr, 1) := dk_125 (dk_at dksX2_rotateRight_0 7 rfl rfl)
theorem dX2_rotateRight_8 : decode cX2_rotateRight 8 = .ok (.lload_n 1, 1) := dk_31 (dk_at dksX2_rotateRight_0 8 rfl rfl)
theorem dX2_rotateRight_9 : decode cX2_rotateRight 9 = .ok (.ldc2_w 72, 3) := dk_20 0 72 (dk_at dksX2_rotateRight_0 9 rfl rfl)
theorem dX2_rotateRight_12 : decode cX2_rotateRight 12 = .ok (.lload_n 3, 1) := dk_33 (dk_at dksX2_rotateRight_0 12 rfl rfl)
theorem dX2_rotateRight_13 : decode cX2_rotateRight 13 = .ok (.ldc2_w 70, 3) := dk_20 0 70 (dk_at dksX2_rotateRight_0 13 rfl rfl)
theorem dX2_rotateRight_16 : decode cX2_rotateRight 16 = .ok (.land, 1) := dk_127 (dk_at dksX2_rotateRight_0 16 rfl rfl)
theorem dX2_rotateRight_17 : decode cX2_rotateRight 17 = .ok (.lsub, 1) := dk_101 (dk_at dksX2_rotateRight_0 17 rfl rfl)
theorem dX2_rotateRight_18 : decode cX2_rotateRight 18 = .ok (.l2i, 1) := dk_136 (dk_at dksX2_rotateRight_0 18 rfl rfl)
theorem dX2_rotateRight_19 : decode cX2_rotateRight 19 = .ok (.lshl, 1) := dk_121 (dk_at dksX2_rotateRight_0 19 rfl rfl)
theorem dX2_rotateRight_20 : decode cX2_rotateRight 20 = .ok (.lor, 1) := dk_129 (dk_at dksX2_rotateRight_0 20 rfl rfl)
theorem dX2_rotateRight_21 : decode cX2_rotateRight 21 = .ok (.lreturn, 1) := dk_173 (dk_at dksX2_rotateRight_0 21 rfl rfl)
theorem q11 : (Jvm.Cond.initialized "RC564Engine") ∈ lw_all := lw_g (lw_at lw_m1 2 rfl) rfl
theorem q60 : (Jvm.Cond.instantiable "RC564Engine" (3 : Nat)) ∈ lw_all := lw_g (lw_at lw_m1 51 rfl) rfl
theorem q62 : (Jvm.Cond.instanceMethod ({ cls := "RC564Engine", name := "<init>", desc := "()V" } : Jvm.MethodName)) ∈ lw_all := lw_g (lw_at lw_m1 53 rfl) rfl
theorem q63 : (Jvm.Cond.code ({ cls := "RC564Engine", name := "<init>", desc := "()V" } : Jvm.MethodName) prog_4_method_1_code (1 : Nat) (Option.none : Option Jvm.ClassFile.FieldType)) ∈ lw_all := lw_g (lw_at lw_m1 54 rfl) rfl
theorem q64 : (Jvm.Cond.methodLink "RC564Engine" (3 : Nat) ({ cls := "java/lang/Object", name := "<init>", desc := "()V" } : Jvm.MethodName)) ∈ lw_all := lw_g (lw_at lw_m1 55 rfl) rfl
theorem q65 : (Jvm.Cond.fieldLink "RC564Engine" (9 : Nat) "RC564Engine" "_noRounds" "I") ∈ lw_all := lw_g (lw_at lw_m1 56 rfl) rfl
theorem q66 : (Jvm.Cond.fieldLink "RC564Engine" (13 : Nat) "RC564Engine" "_S" "[J") ∈ lw_all := lw_g (lw_at lw_m1 57 rfl) rfl
theorem q67 : (Jvm.Cond.fieldLink "RC564Engine" (26 : Nat) "RC564Engine" "forEncryption" "Z") ∈ lw_all := lw_g (lw_at lw_m1 58 rfl) rfl
theorem q68 : (Jvm.Cond.lays "RC564Engine" "RC564Engine" "_noRounds" "I") ∈ lw_all := lw_g (lw_at lw_m1 59 rfl) rfl
theorem q69 : (Jvm.Cond.soleField "RC564Engine" "_noRounds") ∈ lw_all := lw_g (lw_at lw_m1 60 rfl) rfl
theorem q70 : (Jvm.Cond.lays "RC564Engine" "RC564Engine" "_S" "[J") ∈ lw_all := lw_g (lw_at lw_m1 61 rfl) rfl
theorem q71 : (Jvm.Cond.soleField "RC564Engine" "_S") ∈ lw_all := lw_g (lw_at lw_m1 62 rfl) rfl
theorem q72 : (Jvm.Cond.lays "RC564Engine" "RC564Engine" "forEncryption" "Z") ∈ lw_all := lw_g (lw_at lw_m1 63 rfl) rfl
theorem q73 : (Jvm.Cond.soleField "RC564Engine" "forEncryption") ∈ lw_all := lw_g (lw_at lw_m1 64 rfl) rfl
theorem q74 : (Jvm.Cond.superclass "RC564Engine" "java/lang/Object") ∈ lw_all := lw_g (lw_at lw_m1 65 rfl) rfl
theorem q160 : (Jvm.Cond.castable "RC564Engine" "BlockCipher") ∈ lw_tbl := lw_at lw_m1 151 rfl
theorem q161 : (Jvm.Cond.selects "RC564Engine" ({ cls := "BlockCipher", name := "init", desc := "(ZLCipherParameters;)V" } : Jvm.MethodName) ({ cls := "RC564Engine", name := "init", desc := "(ZLCipherParameters;)V" } : Jvm.MethodName)) ∈ lw_all := lw_g (lw_at lw_m1 152 rfl) rfl
theorem q162 : (Jvm.Cond.unhidden "RC564Engine" "init" "(ZLCipherParameters;)V") ∈ lw_tbl := lw_at lw_m1 153 rfl
theorem q163 : (Jvm.Cond.instanceMethod ({ cls := "RC564Engine", name := "init", desc := "(ZLCipherParameters;)V" } : Jvm.MethodName)) ∈ lw_all := lw_g (lw_at lw_m1 154 rfl) rfl
theorem q164 : (Jvm.Cond.publicMethod ({ cls := "RC564Engine", name := "init", desc := "(ZLCipherParameters;)V" } : Jvm.MethodName)) ∈ lw_tbl := lw_at lw_m1 155 rfl
theorem q165 : (Jvm.Cond.code ({ cls := "RC564Engine", name := "init", desc := "(ZLCipherParameters;)V" } : Jvm.MethodName) prog_4_method_2_code (5 : Nat) (Option.none : Option Jvm.ClassFile.FieldType)) ∈ lw_all := lw_g (lw_at lw_m1 156 rfl) rfl
theorem q166 : (Jvm.Cond.classLink "RC564Engine" (17 : Nat) "RC5Parameters") ∈ lw_all := lw_g (lw_at lw_m1 157 rfl) rfl
theorem q167 : (Jvm.Cond.classLink "RC564Engine" (19 : Nat) "java/lang/IllegalArgumentException") ∈ lw_all := lw_g (lw_at lw_m1 158 rfl) rfl
theorem q168 : (Jvm.Cond.stringRef "RC564Engine" (21 : Nat) "left out") ∈ lw_tbl := lw_at lw_m1 159 rfl
theorem q169 : (Jvm.Cond.methodLink "RC564Engine" (23 : Nat) ({ cls := "java/lang/IllegalArgumentException", name := "<init>", desc := "(Ljava/lang/String;)V" } : Jvm.MethodName)) ∈ lw_all := lw_g (lw_at lw_m1 160 rfl) rfl
theorem q170 : (Jvm.Cond.methodLink "RC564Engine" (30 : Nat) ({ cls := "RC5Parameters", name := "getRounds", desc := "()I" } : Jvm.MethodName)) ∈ lw_all := lw_g (lw_at lw_m1 161 rfl) rfl
theorem q174 : (Jvm.Cond.methodLink "RC564Engine" (34 : Nat) ({ cls := "RC5Parameters", name := "getKey", desc := "()[B" } : Jvm.MethodName)) ∈ lw_all := lw_g (lw_at lw_m1 165 rfl) rfl
theorem q178 : (Jvm.Cond.methodLink "RC564Engine" (38 : Nat) ({ cls := "RC564Engine", name := "setKey", desc := "([B)V" } : Jvm.MethodName)) ∈ lw_all := lw_g (lw_at lw_m1 169 rfl) rfl
theorem q179 : (Jvm.Cond.privateMethod ({ cls := "RC564Engine", name := "setKey", desc := "([B)V" } : Jvm.MethodName)) ∈ lw_tbl := lw_at lw_m1 170 rfl
theorem q180 : (Jvm.Cond.instanceMethod ({ cls := "RC564Engine", name := "setKey", desc := "([B)V" } : Jvm.MethodName)) ∈ lw_all := lw_g (lw_at lw_m1 171 rfl) rfl
theorem q181 : (Jvm.Cond.code ({ cls := "RC564Engine", name := "setKey", desc := "([B)V" } : Jvm.MethodName) prog_4_method_4_code (11 : Nat) (Option.none : Option Jvm.ClassFile.FieldType)) ∈ lw_all := lw_g (lw_at lw_m1 172 rfl) rfl
theorem q182 : (Jvm.Cond.constantLong "RC564Engine" (49 : Nat) (-5196783011329398165 : Int64)) ∈ lw_all := lw_g (lw_at lw_m1 173 rfl) rfl
theorem q183 : (Jvm.Cond.constantLong "RC564Engine" (51 : Nat) (-7046029254386353131 : Int64)) ∈ lw_all := lw_g (lw_at lw_m1 174 rfl) rfl
theorem q184 : (Jvm.Cond.constantLong "RC564Engine" (53 : Nat) (3 : Int64)) ∈ lw_all := lw_g (lw_at lw_m1 175 rfl) rfl
theorem q185 : (Jvm.Cond.methodLink "RC564Engine" (55 : Nat) ({ cls := "RC564Engine", name := "rotateLeft", desc := "(JJ)J" } : Jvm.MethodName)) ∈ lw_all := lw_g (lw_at lw_m1 176 rfl) rfl
theorem q186 : (Jvm.Cond.privateMethod ({ cls := "RC564Engine", name := "rotateLeft", desc := "(JJ)J" } : Jvm.MethodName)) ∈ lw_tbl := lw_at lw_m1 177 rfl
theorem q187 : (Jvm.Cond.instanceMethod ({ cls := "RC564Engine", name := "rotateLeft", desc := "(JJ)J" } : Jvm.MethodName)) ∈ lw_all := lw_g (lw_at lw_m1 178 rfl) rfl
theorem q188 : (Jvm.Cond.code ({ cls := "RC564Engine", name := "rotateLeft", desc := "(JJ)J" } : Jvm.MethodName) prog_4_method_7_code (5 : Nat) (Option.some Jvm.ClassFile.FieldType.long)) ∈ lw_all := lw_g (lw_at lw_m1 179 rfl) rfl
theorem q189 : (Jvm.Cond.constantLong "RC564Engine" (70 : Nat) (63 : Int64)) ∈ lw_all := lw_g (lw_at lw_m1 180 rfl) rfl
theorem q190 : (Jvm.Cond.constantLong "RC564Engine" (72 : Nat) (64 : Int64)) ∈ lw_all := lw_g (lw_at lw_m1 181 rfl) rfl
theorem q195 : (Jvm.Cond.selects "RC564Engine" ({ cls := "BlockCipher", name := "processBlock", desc := "([BI[BI)I" } : Jvm.MethodName) ({ cls := "RC564Engine", name := "processBlock", desc := "([BI[BI)I" } : Jvm.MethodName)) ∈ lw_all := lw_g (lw_at lw_m1 186 rfl) rfl
theorem q196 : (Jvm.Cond.unhidden "RC564Engine" "processBlock" "([BI[BI)I") ∈ lw_tbl := lw_at lw_m1 187 rfl
theorem q197 : (Jvm.Cond.instanceMethod ({ cls := "RC564Engine", name := "processBlock", desc := "([BI[BI)I" } : Jvm.MethodName)) ∈ lw_all := lw_g (lw_at lw_m1 188 rfl) rfl
theorem q198 : (Jvm.Cond.publicMethod ({ cls := "RC564Engine", name := "processBlock", desc := "([BI[BI)I" } : Jvm.MethodName)) ∈ lw_tbl := lw_at lw_m1 189 rfl
theorem q199 : (Jvm.Cond.code ({ cls := "RC564Engine", name := "processBlock", desc := "([BI[BI)I" } : Jvm.MethodName) prog_4_method_3_code (5 : Nat) (Option.some Jvm.ClassFile.FieldType.int)) ∈ lw_all := lw_g (lw_at lw_m1 190 rfl) rfl
theorem q200 : (Jvm.Cond.methodLink "RC564Engine" (42 : Nat) ({ cls := "RC564Engine", name := "encryptBlock", desc := "([BI[BI)I" } : Jvm.MethodName)) ∈ lw_all := lw_g (lw_at lw_m1 191 rfl) rfl
theorem q201 : (Jvm.Cond.privateMethod ({ cls := "RC564Engine", name := "encryptBlock", desc := "([BI[BI)I" } : Jvm.MethodName)) ∈ lw_tbl := lw_at lw_m1 192 rfl
theorem q202 : (Jvm.Cond.instanceMethod ({ cls := "RC564Engine", name := "encryptBlock", desc := "([BI[BI)I" } : Jvm.MethodName)) ∈ lw_all := lw_g (lw_at lw_m1 193 rfl) rfl
theorem q203 : (Jvm.Cond.code ({ cls := "RC564Engine", name := "encryptBlock", desc := "([BI[BI)I" } : Jvm.MethodName) prog_4_method_5_code (10 : Nat) (Option.some Jvm.ClassFile.FieldType.int)) ∈ lw_all := lw_g (lw_at lw_m1 194 rfl) rfl
theorem q204 : (Jvm.Cond.methodLink "RC564Engine" (59 : Nat) ({ cls := "RC564Engine", name := "bytesToWord", desc := "([BI)J" } : Jvm.MethodName)) ∈ lw_all := lw_g (lw_at lw_m1 195 rfl) rfl
theorem q205 : (Jvm.Cond.privateMethod ({ cls := "RC564Engine", name := "bytesToWord", desc := "([BI)J" } : Jvm.MethodName)) ∈ lw_tbl := lw_at lw_m1 196 rfl
theorem q206 : (Jvm.Cond.instanceMethod ({ cls := "RC564Engine", name := "bytesToWord", desc := "([BI)J" } : Jvm.MethodName)) ∈ lw_all := lw_g (lw_at lw_m1 197 rfl) rfl
theorem q207 : (Jvm.Cond.code ({ cls := "RC564Engine", name := "bytesToWord", desc := "([BI)J" } : Jvm.MethodName) prog_4_method_9_code (6 : Nat) (Option.some Jvm.ClassFile.FieldType.long)) ∈ lw_all := lw_g (lw_at lw_m1 198 rfl) rfl
theorem q208 : (Jvm.Cond.methodLink "RC564Engine" (63 : Nat) ({ cls := "RC564Engine", name := "wordToBytes", desc := "(J[BI)V" } : Jvm.MethodName)) ∈ lw_all := lw_g (lw_at lw_m1 199 rfl) rfl
theorem q209 : (Jvm.Cond.privateMethod ({ cls := "RC564Engine", name := "wordToBytes", desc := "(J[BI)V" } : Jvm.MethodName)) ∈ lw_tbl := lw_at lw_m1 200 rfl
theorem q210 : (Jvm.Cond.instanceMethod ({ cls := "RC564Engine", name := "wordToBytes", desc := "(J[BI)V" } : Jvm.MethodName)) ∈ lw_all := lw_g (lw_at lw_m1 201 rfl) rfl
theorem q211 : (Jvm.Cond.code ({ cls := "RC564Engine", name := "wordToBytes", desc := "(J[BI)V" } : Jvm.MethodName) prog_4_method_10_code (6 : Nat) (Option.none : Option Jvm.ClassFile.FieldType)) ∈ lw_all := lw_g (lw_at lw_m1 202 rfl) rfl
theorem q212 : (Jvm.Cond.methodLink "RC564Engine" (46 : Nat) ({ cls := "RC564Engine", name := "decryptBlock", desc := "([BI[BI)I" } : Jvm.MethodName)) ∈ lw_all := lw_g (lw_at lw_m1 203 rfl) rfl
theorem q213 : (Jvm.Cond.privateMethod ({ cls := "RC564Engine", name := "decryptBlock", desc := "([BI[BI)I" } : Jvm.MethodName)) ∈ lw_tbl := lw_at lw_m1 204 rfl
theorem q214 : (Jvm.Cond.instanceMethod ({ cls := "RC564Engine", name := "decryptBlock", desc := "([BI[BI)I" } : Jvm.MethodName)) ∈ lw_all := lw_g (lw_at lw_m1 205 rfl) rfl
theorem q215 : (Jvm.Cond.code ({ cls := "RC564Engine", name := "decryptBlock", desc := "([BI[BI)I" } : Jvm.MethodName) prog_4_method_6_code (10 : Nat) (Option.some Jvm.ClassFile.FieldType.int)) ∈ lw_all := lw_g (lw_at lw_m1 206 rfl) rfl
theorem q216 : (Jvm.Cond.methodLink "RC564Engine" (67 : Nat) ({ cls := "RC564Engine", name := "rotateRight", desc := "(JJ)J" } : Jvm.MethodName)) ∈ lw_all := lw_g (lw_at lw_m1 207 rfl) rfl
theorem q217 : (Jvm.Cond.privateMethod ({ cls := "RC564Engine", name := "rotateRight", desc := "(JJ)J" } : Jvm.MethodName)) ∈ lw_tbl := lw_at lw_m1 208 rfl
theorem q218 : (Jvm.Cond.instanceMethod ({ cls := "RC564Engine", name := "rotateRight", desc := "(JJ)J" } : Jvm.MethodName)) ∈ lw_all := lw_g (lw_at lw_m1 209 rfl) rfl
theorem q219 : (Jvm.Cond.code ({ cls := "RC564Engine", name := "rotateRight", desc := "(JJ)J" } : Jvm.MethodName) prog_4_method_8_code (5 : Nat) (Option.some Jvm.ClassFile.FieldType.long)) ∈ lw_all := lw_g (lw_at lw_m1 210 rfl) rfl
theorem in_X2 : ∀ w ∈ wsX20, w ∈ lw_all := lw_in wsX20 [68, 70, 72] (by decide +kernel) (by decide +kernel)
end
section
/-! RcWideDesk -/
set_option maxRecDepth 100000
def RX1 : String := "RcWideDesk"
def TX1 : u_T := fun k => match k with
  | 0 => ("RcWideDesk", "key", "[B", true)
  | 1 => ("RcWideDesk", "block", "[B", true)
  | _ => ("RcWideDesk", "out", "[B", true)
def tyX1 : Nat → FieldType := fun k => match k with
  | 0 => .array .byte
  | 1 => .array .byte
  | _ => .array .byte
abbrev wsX10 : List Cond := u_ws RX1 TX1 3
theorem nmX1 : ∀ a, a < 3 → ∀ b, b < 3 → a ≠ b → (TX1 a).2.1 ≠ (TX1 b).2.1 := by decide +kernel
theorem tyX1_ok : ∀ k, k < 3 → parseFieldDescriptor (TX1 k).2.2.1 = some (tyX1 k) := by decide +kernel
abbrev cX1_init : ByteArray := prog_6_method_1_code
def yX1_init : MethodName := ⟨RX1, "<init>", "()V"⟩
def dkwX1_init_1 : List UInt8 := [188, 8, 181, 0, 16, 177]
abbrev dktX1_init_1 : List UInt8 := dkwX1_init_1 ++ []
def dkwX1_init_0 : List UInt8 := [42, 183, 0, 1, 42, 16, 32, 188, 8, 181, 0, 7, 42, 16, 16, 188, 8, 181, 0, 13, 42, 16, 16]
abbrev dktX1_init_0 : List UInt8 := dkwX1_init_0 ++ dktX1_init_1
theorem dksX1_init_0 : cX1_init.data.toList.drop 0 = dktX1_init_0 := by decide +kernel
theorem dksX1_init_1 : cX1_init.data.toList.drop 23 = dktX1_init_1 := dk_seg dksX1_init_0 23 rfl rfl
theorem dX1_init_0 : decode cX1_init 0 = .ok (.aload_n 0, 1) := dk_42 (dk_at dksX1_init_0 0 rfl rfl)
theorem dX1_init_1 : decode cX1_init 1 = .ok (.invokespecial 1, 3) := dk_183 0 1 (dk_at dksX1_init_0 1 rfl rfl)
theorem dX1_init_4 : decode cX1_init 4 = .ok (.aload_n 0, 1) := dk_42 (dk_at dksX1_init_0 4 rfl rfl)
theorem dX1_init_5 : decode cX1_init 5 = .ok (.bipush 32, 2) := dk_16 32 (dk_at dksX1_init_0 5 rfl rfl)
theorem dX1_init_7 : decode cX1_init 7 = .ok (.newarray .byte, 2) := dk_188_8 (dk_at dksX1_init_0 7 rfl rfl)
theorem dX1_init_9 : decode cX1_init 9 = .ok (.putfield 7, 3) := dk_181 0 7 (dk_at dksX1_init_0 9 rfl rfl)
theorem dX1_init_12 : decode cX1_init 12 = .ok (.aload_n 0, 1) := dk_42 (dk_at dksX1_init_0 12 rfl rfl)
theorem dX1_init_13 : decode cX1_init 13 = .ok (.bipush 16, 2) := dk_16 16 (dk_at dksX1_init_0 13 rfl rfl)
theorem dX1_init_15 : decode cX1_init 15 = .ok (.newarray .byte, 2) := dk_188_8 (dk_at dksX1_init_0 15 rfl rfl)
theorem dX1_init_17 : decode cX1_init 17 = .ok (.putfield 13, 3) := dk_181 0 13 (dk_at dksX1_init_0 17 rfl rfl)
theorem dX1_init_20 : decode cX1_init 20 = .ok (.aload_n 0, 1) := dk_42 (dk_at dksX1_init_0 20 rfl rfl)
theorem dX1_init_21 : decode cX1_init 21 = .ok (.bipush 16, 2) := dk_16 16 (dk_at dksX1_init_0 21 rfl rfl)
theorem dX1_init_23 : decode cX1_init 23 = .ok (.newarray .byte, 2) := dk_188_8 (dk_at dksX1_init_1 0 rfl rfl)
theorem dX1_init_25 : decode cX1_init 25 = .ok (.putfield 16, 3) := dk_181 0 16 (dk_at dksX1_init_1 2 rfl rfl)
theorem dX1_init_28 : decode cX1_init 28 = .ok (.return_, 1) := dk_177 (dk_at dksX1_init_1 5 rfl rfl)
abbrev cX1_key : ByteArray := prog_6_method_3_code
def yX1_key : MethodName := ⟨RX1, "key", "(IIIII)V"⟩
def dkwX1_key_2 : List UInt8 := [21, 6, 16, 12, 96, 21, 5, 184, 0, 19, 177]
abbrev dktX1_key_2 : List UInt8 := dkwX1_key_2 ++ []
def dkwX1_key_1 : List UInt8 := [96, 29, 184, 0, 19, 42, 180, 0, 7, 21, 6, 16, 8, 96, 21, 4, 184, 0, 19, 42, 180, 0, 7]
abbrev dktX1_key_1 : List UInt8 := dkwX1_key_1 ++ dktX1_key_2
def dkwX1_key_0 : List UInt8 := [27, 4, 126, 7, 120, 54, 6, 42, 180, 0, 7, 21, 6, 28, 184, 0, 19, 42, 180, 0, 7, 21, 6, 7]
abbrev dktX1_key_0 : List UInt8 := dkwX1_key_0 ++ dktX1_key_1
theorem dksX1_key_0 : cX1_key.data.toList.drop 0 = dktX1_key_0 := by decide +kernel
theorem dksX1_key_1 : cX1_key.data.toList.drop 24 = dktX1_key_1 := dk_seg dksX1_key_0 24 rfl rfl
theorem dksX1_key_2 : cX1_key.data.toList.drop 47 = dktX1_key_2 := dk_seg dksX1_key_1 23 rfl rfl
theorem dX1_key_0 : decode cX1_key 0 = .ok (.iload_n 1, 1) := dk_27 (dk_at dksX1_key_0 0 rfl rfl)
theorem dX1_key_1 : decode cX1_key 1 = .ok (.iconst 1, 1) := dk_4 (dk_at dksX1_key_0 1 rfl rfl)
theorem dX1_key_2 : decode cX1_key 2 = .ok (.iand, 1) := dk_126 (dk_at dksX1_key_0 2 rfl rfl)
theorem dX1_key_3 : decode cX1_key 3 = .ok (.iconst 4, 1) := dk_7 (dk_at dksX1_key_0 3 rfl rfl)
theorem dX1_key_4 : decode cX1_key 4 = .ok (.ishl, 1) := dk_120 (dk_at dksX1_key_0 4 rfl rfl)
theorem dX1_key_5 : decode cX1_key 5 = .ok (.istore 6, 2) := dk_54 6 (dk_at dksX1_key_0 5 rfl rfl)
theorem dX1_key_7 : decode cX1_key 7 = .ok (.aload_n 0, 1) := dk_42 (dk_at dksX1_key_0 7 rfl rfl)
theorem dX1_key_8 : decode cX1_key 8 = .ok (.getfield 7, 3) := dk_180 0 7 (dk_at dksX1_key_0 8 rfl rfl)
theorem dX1_key_11 : decode cX1_key 11 = .ok (.iload 6, 2) := dk_21 6 (dk_at dksX1_key_0 11 rfl rfl)
theorem dX1_key_13 : decode cX1_key 13 = .ok (.iload_n 2, 1) := dk_28 (dk_at dksX1_key_0 13 rfl rfl)
theorem dX1_key_14 : decode cX1_key 14 = .ok (.invokestatic 19, 3) := dk_184 0 19 (dk_at dksX1_key_0 14 rfl rfl)
theorem dX1_key_17 : decode cX1_key 17 = .ok (.aload_n 0, 1) := dk_42 (dk_at dksX1_key_0 17 rfl rfl)
theorem dX1_key_18 : decode cX1_key 18 = .ok (.getfield 7, 3) := dk_180 0 7 (dk_at dksX1_key_0 18 rfl rfl)
theorem dX1_key_21 : decode cX1_key 21 = .ok (.iload 6, 2) := dk_21 6 (dk_at dksX1_key_0 21 rfl rfl)
theorem dX1_key_23 : decode cX1_key 23 = .ok (.iconst 4, 1) := dk_7 (dk_at dksX1_key_0 23 rfl rfl)
theorem dX1_key_24 : decode cX1_key 24 = .ok (.iadd, 1) := dk_96 (dk_at dksX1_key_1 0 rfl rfl)
theorem dX1_key_25 : decode cX1_key 25 = .ok (.iload_n 3, 1) := dk_29 (dk_at dksX1_key_1 1 rfl rfl)
theorem dX1_key_26 : decode cX1_key 26 = .ok (.invokestatic 19, 3) := dk_184 0 19 (dk_at dksX1_key_1 2 rfl rfl)
theorem dX1_key_29 : decode cX1_key 29 = .ok (.aload_n 0, 1) := dk_42 (dk_at dksX1_key_1 5 rfl rfl)
theorem dX1_key_30 : decode cX1_key 30 = .ok (.getfield 7, 3) := dk_180 0 7 (dk_at dksX1_key_1 6 rfl rfl)
theorem dX1_key_33 : decode cX1_key 33 = .ok (.iload 6, 2) := dk_21 6 (dk_at dksX1_key_1 9 rfl rfl)
theorem dX1_key_35 : decode cX1_key 35 = .ok (.bipush 8, 2) := dk_16 8 (dk_at dksX1_key_1 11 rfl rfl)
theorem dX1_key_37 : decode cX1_key 37 = .ok (.iadd, 1) := dk_96 (dk_at dksX1_key_1 13 rfl rfl)
theorem dX1_key_38 : decode cX1_key 38 = .ok (.iload 4, 2) := dk_21 4 (dk_at dksX1_key_1 14 rfl rfl)
theorem dX1_key_40 : decode cX1_key 40 = .ok (.invokestatic 19, 3) := dk_184 0 19 (dk_at dksX1_key_1 16 rfl rfl)
theorem dX1_key_43 : decode cX1_key 43 = .ok (.aload_n 0, 1) := dk_42 (dk_at dksX1_key_1 19 rfl rfl)
theorem dX1_key_44 : decode cX1_key 44 = .ok (.getfield 7, 3) := dk_180 0 7 (dk_at dksX1_key_1 20 rfl rfl)
theorem dX1_key_47 : decode cX1_key 47 = .ok (.iload 6, 2) := dk_21 6 (dk_at dksX1_key_2 0 rfl rfl)
theorem dX1_key_49 : decode cX1_key 49 = .ok (.bipush 12, 2) := dk_16 12 (dk_at dksX1_key_2 2 rfl rfl)
theorem dX1_key_51 : decode cX1_key 51 = .ok (.iadd, 1) := dk_96 (dk_at dksX1_key_2 4 rfl rfl)
theorem dX1_key_52 : decode cX1_key 52 = .ok (.iload 5, 2) := dk_21 5 (dk_at dksX1_key_2 5 rfl rfl)
theorem dX1_key_54 : decode cX1_key 54 = .ok (.invokestatic 19, 3) := dk_184 0 19 (dk_at dksX1_key_2 7 rfl rfl)
theorem dX1_key_57 : decode cX1_key 57 = .ok (.return_, 1) := dk_177 (dk_at dksX1_key_2 10 rfl rfl)
abbrev cX1_word : ByteArray := prog_6_method_2_code
def yX1_word : MethodName := ⟨RX1, "word", "([BII)V"⟩
def dkwX1_word_1 : List UInt8 := [16, 8, 122, 145, 84, 42, 27, 6, 96, 28, 145, 84, 177]
abbrev dktX1_word_1 : List UInt8 := dkwX1_word_1 ++ []
def dkwX1_word_0 : List UInt8 := [42, 27, 28, 16, 24, 122, 145, 84, 42, 27, 4, 96, 28, 16, 16, 122, 145, 84, 42, 27, 5, 96, 28]
abbrev dktX1_word_0 : List UInt8 := dkwX1_word_0 ++ dktX1_word_1
theorem dksX1_word_0 : cX1_word.data.toList.drop 0 = dktX1_word_0 := by decide +kernel
theorem dksX1_word_1 : cX1_word.data.toList.drop 23 = dktX1_word_1 := dk_seg dksX1_word_0 23 rfl rfl
theorem dX1_word_0 : decode cX1_word 0 = .ok (.aload_n 0, 1) := dk_42 (dk_at dksX1_word_0 0 rfl rfl)
theorem dX1_word_1 : decode cX1_word 1 = .ok (.iload_n 1, 1) := dk_27 (dk_at dksX1_word_0 1 rfl rfl)
theorem dX1_word_2 : decode cX1_word 2 = .ok (.iload_n 2, 1) := dk_28 (dk_at dksX1_word_0 2 rfl rfl)
theorem dX1_word_3 : decode cX1_word 3 = .ok (.bipush 24, 2) := dk_16 24 (dk_at dksX1_word_0 3 rfl rfl)
theorem dX1_word_5 : decode cX1_word 5 = .ok (.ishr, 1) := dk_122 (dk_at dksX1_word_0 5 rfl rfl)
theorem dX1_word_6 : decode cX1_word 6 = .ok (.i2b, 1) := dk_145 (dk_at dksX1_word_0 6 rfl rfl)
theorem dX1_word_7 : decode cX1_word 7 = .ok (.bastore, 1) := dk_84 (dk_at dksX1_word_0 7 rfl rfl)
theorem dX1_word_8 : decode cX1_word 8 = .ok (.aload_n 0, 1) := dk_42 (dk_at dksX1_word_0 8 rfl rfl)
theorem dX1_word_9 : decode cX1_word 9 = .ok (.iload_n 1, 1) := dk_27 (dk_at dksX1_word_0 9 rfl rfl)
theorem dX1_word_10 : decode cX1_word 10 = .ok (.iconst 1, 1) := dk_4 (dk_at dksX1_word_0 10 rfl rfl)
theorem dX1_word_11 : decode cX1_word 11 = .ok (.iadd, 1) := dk_96 (dk_at dksX1_word_0 11 rfl rfl)
theorem dX1_word_12 : decode cX1_word 12 = .ok (.iload_n 2, 1) := dk_28 (dk_at dksX1_word_0 12 rfl rfl)
theorem dX1_word_13 : decode cX1_word 13 = .ok (.bipush 16, 2) := dk_16 16 (dk_at dksX1_word_0 13 rfl rfl)
theorem dX1_word_15 : decode cX1_word 15 = .ok (.ishr, 1) := dk_122 (dk_at dksX1_word_0 15 rfl rfl)
theorem dX1_word_16 : decode cX1_word 16 = .ok (.i2b, 1) := dk_145 (dk_at dksX1_word_0 16 rfl rfl)
theorem dX1_word_17 : decode cX1_word 17 = .ok (.bastore, 1) := dk_84 (dk_at dksX1_word_0 17 rfl rfl)
theorem dX1_word_18 : decode cX1_word 18 = .ok (.aload_n 0, 1) := dk_42 (dk_at dksX1_word_0 18 rfl rfl)
theorem dX1_word_19 : decode cX1_word 19 = .ok (.iload_n 1, 1) := dk_27 (dk_at dksX1_word_0 19 rfl rfl)
theorem dX1_word_20 : decode cX1_word 20 = .ok (.iconst 2, 1) := dk_5 (dk_at dksX1_word_0 20 rfl rfl)
theorem dX1_word_21 : decode cX1_word 21 = .ok (.iadd, 1) := dk_96 (dk_at dksX1_word_0 21 rfl rfl)
theorem dX1_word_22 : decode cX1_word 22 = .ok (.iload_n 2, 1) := dk_28 (dk_at dksX1_word_0 22 rfl rfl)
theorem dX1_word_23 : decode cX1_word 23 = .ok (.bipush 8, 2) := dk_16 8 (dk_at dksX1_word_1 0 rfl rfl)
theorem dX1_word_25 : decode cX1_word 25 = .ok (.ishr, 1) := dk_122 (dk_at dksX1_word_1 2 rfl rfl)
theorem dX1_word_26 : decode cX1_word 26 = .ok (.i2b, 1) := dk_145 (dk_at dksX1_word_1 3 rfl rfl)
theorem dX1_word_27 : decode cX1_word 27 = .ok (.bastore, 1) := dk_84 (dk_at dksX1_word_1 4 rfl rfl)
theorem dX1_word_28 : decode cX1_word 28 = .ok (.aload_n 0, 1) := dk_42 (dk_at dksX1_word_1 5 rfl rfl)
theorem dX1_word_29 : decode cX1_word 29 = .ok (.iload_n 1, 1) := dk_27 (dk_at dksX1_word_1 6 rfl rfl)
theorem dX1_word_30 : decode cX1_word 30 = .ok (.iconst 3, 1) := dk_6 (dk_at dksX1_word_1 7 rfl rfl)
theorem dX1_word_31 : decode cX1_word 31 = .ok (.iadd, 1) := dk_96 (dk_at dksX1_word_1 8 rfl rfl)
theorem dX1_word_32 : decode cX1_word 32 = .ok (.iload_n 2, 1) := dk_28 (dk_at dksX1_word_1 9 rfl rfl)
theorem dX1_word_33 : decode cX1_word 33 = .ok (.i2b, 1) := dk_145 (dk_at dksX1_word_1 10 rfl rfl)
theorem dX1_word_34 : decode cX1_word 34 = .ok (.bastore, 1) := dk_84 (dk_at dksX1_word_1 11 rfl rfl)
theorem dX1_word_35 : decode cX1_word 35 = .ok (.return_, 1) := dk_177 (dk_at dksX1_word_1 12 rfl rfl)
abbrev cX1_block : ByteArray := prog_6_method_4_code
def yX1_block : MethodName := ⟨RX1, "block", "(IIII)V"⟩
def dkwX1_block_1 : List UInt8 := [29, 184, 0, 19, 42, 180, 0, 13, 16, 12, 21, 4, 184, 0, 19, 177]
abbrev dktX1_block_1 : List UInt8 := dkwX1_block_1 ++ []
def dkwX1_block_0 : List UInt8 := [42, 180, 0, 13, 3, 27, 184, 0, 19, 42, 180, 0, 13, 7, 28, 184, 0, 19, 42, 180, 0, 13, 16, 8]
abbrev dktX1_block_0 : List UInt8 := dkwX1_block_0 ++ dktX1_block_1
theorem dksX1_block_0 : cX1_block.data.toList.drop 0 = dktX1_block_0 := by decide +kernel
theorem dksX1_block_1 : cX1_block.data.toList.drop 24 = dktX1_block_1 := dk_seg dksX1_block_0 24 rfl rfl
theorem dX1_block_0 : decode cX1_block 0 = .ok (.aload_n 0, 1) := dk_42 (dk_at dksX1_block_0 0 rfl rfl)
theorem dX1_block_1 : decode cX1_block 1 = .ok (.getfield 13, 3) := dk_180 0 13 (dk_at dksX1_block_0 1 rfl rfl)
theorem dX1_block_4 : decode cX1_block 4 = .ok (.iconst 0, 1) := dk_3 (dk_at dksX1_block_0 4 rfl rfl)
theorem dX1_block_5 : decode cX1_block 5 = .ok (.iload_n 1, 1) := dk_27 (dk_at dksX1_block_0 5 rfl rfl)
theorem dX1_block_6 : decode cX1_block 6 = .ok (.invokestatic 19, 3) := dk_184 0 19 (dk_at dksX1_block_0 6 rfl rfl)
theorem dX1_block_9 : decode cX1_block 9 = .ok (.aload_n 0, 1) := dk_42 (dk_at dksX1_block_0 9 rfl rfl)
theorem dX1_block_10 : decode cX1_block 10 = .ok (.getfield 13, 3) := dk_180 0 13 (dk_at dksX1_block_0 10 rfl rfl)
theorem dX1_block_13 : decode cX1_block 13 = .ok (.iconst 4, 1) := dk_7 (dk_at dksX1_block_0 13 rfl rfl)
theorem dX1_block_14 : decode cX1_block 14 = .ok (.iload_n 2, 1) := dk_28 (dk_at dksX1_block_0 14 rfl rfl)
theorem dX1_block_15 : decode cX1_block 15 = .ok (.invokestatic 19, 3) := dk_184 0 19 (dk_at dksX1_block_0 15 rfl rfl)
theorem dX1_block_18 : decode cX1_block 18 = .ok (.aload_n 0, 1) := dk_42 (dk_at dksX1_block_0 18 rfl rfl)
theorem dX1_block_19 : decode cX1_block 19 = .ok (.getfield 13, 3) := dk_180 0 13 (dk_at dksX1_block_0 19 rfl rfl)
theorem dX1_block_22 : decode cX1_block 22 = .ok (.bipush 8, 2) := dk_16 8 (dk_at dksX1_block_0 22 rfl rfl)
theorem dX1_block_24 : decode cX1_block 24 = .ok (.iload_n 3, 1) := dk_29 (dk_at dksX1_block_1 0 rfl rfl)
theorem dX1_block_25 : decode cX1_block 25 = .ok (.invokestatic 19, 3) := dk_184 0 19 (dk_at dksX1_block_1 1 rfl rfl)
theorem dX1_block_28 : decode cX1_block 28 = .ok (.aload_n 0, 1) := dk_42 (dk_at dksX1_block_1 4 rfl rfl)
theorem dX1_block_29 : decode cX1_block 29 = .ok (.getfield 13, 3) := dk_180 0 13 (dk_at dksX1_block_1 5 rfl rfl)
theorem dX1_block_32 : decode cX1_block 32 = .ok (.bipush 12, 2) := dk_16 12 (dk_at dksX1_block_1 8 rfl rfl)
theorem dX1_block_34 : decode cX1_block 34 = .ok (.iload 4, 2) := dk_21 4 (dk_at dksX1_block_1 10 rfl rfl)
theorem dX1_block_36 : decode cX1_block 36 = .ok (.invokestatic 19, 3) := dk_184 0 19 (dk_at dksX1_block_1 12 rfl rfl)
theorem dX1_block_39 : decode cX1_block 39 = .ok (.return_, 1) := dk_177 (dk_at dksX1_block_1 15 rfl rfl)
abbrev cX1_lock : ByteArray := prog_6_method_7_code
def yX1_lock : MethodName := ⟨RX1, "lock", "(I)V"⟩
def dkwX1_lock_0 : List UInt8 := [42, 4, 27, 182, 0, 45, 177]
abbrev dktX1_lock_0 : List UInt8 := dkwX1_lock_0 ++ []
theorem dksX1_lock_0 : cX1_lock.data.toList.drop 0 = dktX1_lock_0 := by decide +kernel
theorem dX1_lock_0 : decode cX1_lock 0 = .ok (.aload_n 0, 1) := dk_42 (dk_at dksX1_lock_0 0 rfl rfl)
theorem dX1_lock_1 : decode cX1_lock 1 = .ok (.iconst 1, 1) := dk_4 (dk_at dksX1_lock_0 1 rfl rfl)
theorem dX1_lock_2 : decode cX1_lock 2 = .ok (.iload_n 1, 1) := dk_27 (dk_at dksX1_lock_0 2 rfl rfl)
theorem dX1_lock_3 : decode cX1_lock 3 = .ok (.invokevirtual 45, 3) := dk_182 0 45 (dk_at dksX1_lock_0 3 rfl rfl)
theorem dX1_lock_6 : decode cX1_lock 6 = .ok (.return_, 1) := dk_177 (dk_at dksX1_lock_0 6 rfl rfl)
abbrev cX1_run : ByteArray := prog_6_method_5_code
def yX1_run : MethodName := ⟨RX1, "run", "(ZI)V"⟩
def dkwX1_run_3 : List UInt8 := [180, 0, 13, 3, 42, 180, 0, 16, 3, 185, 0, 41, 5, 0, 87, 177]
abbrev dktX1_run_3 : List UInt8 := dkwX1_run_3 ++ []
def dkwX1_run_2 : List UInt8 := [58, 5, 25, 5, 27, 187, 0, 30, 89, 25, 4, 16, 12, 183, 0, 32, 185, 0, 35, 3, 0, 25, 5, 42]
abbrev dktX1_run_2 : List UInt8 := dkwX1_run_2 ++ dktX1_run_3
def dkwX1_run_1 : List UInt8 := [21, 5, 42, 180, 0, 7, 21, 5, 51, 84, 132, 5, 1, 167, 255, 235, 187, 0, 27, 89, 183, 0, 29]
abbrev dktX1_run_1 : List UInt8 := dkwX1_run_1 ++ dktX1_run_2
def dkwX1_run_0 : List UInt8 := [28, 6, 126, 184, 0, 23, 62, 29, 188, 8, 58, 4, 3, 54, 5, 21, 5, 29, 162, 0, 21, 25, 4]
abbrev dktX1_run_0 : List UInt8 := dkwX1_run_0 ++ dktX1_run_1
theorem dksX1_run_0 : cX1_run.data.toList.drop 0 = dktX1_run_0 := by decide +kernel
theorem dksX1_run_1 : cX1_run.data.toList.drop 23 = dktX1_run_1 := dk_seg dksX1_run_0 23 rfl rfl
theorem dksX1_run_2 : cX1_run.data.toList.drop 46 = dktX1_run_2 := dk_seg dksX1_run_1 23 rfl rfl
theorem dksX1_run_3 : cX1_run.data.toList.drop 70 = dktX1_run_3 := dk_seg dksX1_run_2 24 rfl rfl
theorem dX1_run_0 : decode cX1_run 0 = .ok (.iload_n 2, 1) := dk_28 (dk_at dksX1_run_0 0 rfl rfl)
theorem dX1_run_1 : decode cX1_run 1 = .ok (.iconst 3, 1) := dk_6 (dk_at dksX1_run_0 1 rfl rfl)
theorem dX1_run_2 : decode cX1_run 2 = .ok (.iand, 1) := dk_126 (dk_at dksX1_run_0 2 rfl rfl)
theorem dX1_run_3 : decode cX1_run 3 = .ok (.invokestatic 23, 3) := dk_184 0 23 (dk_at dksX1_run_0 3 rfl rfl)
theorem dX1_run_6 : decode cX1_run 6 = .ok (.istore_n 3, 1) := dk_62 (dk_at dksX1_run_0 6 rfl rfl)
theorem dX1_run_7 : decode cX1_run 7 = .ok (.iload_n 3, 1) := dk_29 (dk_at dksX1_run_0 7 rfl rfl)
theorem dX1_run_8 : decode cX1_run 8 = .ok (.newarray .byte, 2) := dk_188_8 (dk_at dksX1_run_0 8 rfl rfl)
theorem dX1_run_10 : decode cX1_run 10 = .ok (.astore 4, 2) := dk_58 4 (dk_at dksX1_run_0 10 rfl rfl)
theorem dX1_run_12 : decode cX1_run 12 = .ok (.iconst 0, 1) := dk_3 (dk_at dksX1_run_0 12 rfl rfl)
theorem dX1_run_13 : decode cX1_run 13 = .ok (.istore 5, 2) := dk_54 5 (dk_at dksX1_run_0 13 rfl rfl)
theorem dX1_run_15 : decode cX1_run 15 = .ok (.iload 5, 2) := dk_21 5 (dk_at dksX1_run_0 15 rfl rfl)
theorem dX1_run_17 : decode cX1_run 17 = .ok (.iload_n 3, 1) := dk_29 (dk_at dksX1_run_0 17 rfl rfl)
theorem dX1_run_18 : decode cX1_run 18 = .ok (.if_icmp .ge 21, 3) := dk_162 0 21 (dk_at dksX1_run_0 18 rfl rfl)
theorem dX1_run_21 : decode cX1_run 21 = .ok (.aload 4, 2) := dk_25 4 (dk_at dksX1_run_0 21 rfl rfl)
theorem dX1_run_23 : decode cX1_run 23 = .ok (.iload 5, 2) := dk_21 5 (dk_at dksX1_run_1 0 rfl rfl)
theorem dX1_run_25 : decode cX1_run 25 = .ok (.aload_n 0, 1) := dk_42 (dk_at dksX1_run_1 2 rfl rfl)
theorem dX1_run_26 : decode cX1_run 26 = .ok (.getfield 7, 3) := dk_180 0 7 (dk_at dksX1_run_1 3 rfl rfl)
theorem dX1_run_29 : decode cX1_run 29 = .ok (.iload 5, 2) := dk_21 5 (dk_at dksX1_run_1 6 rfl rfl)
theorem dX1_run_31 : decode cX1_run 31 = .ok (.baload, 1) := dk_51 (dk_at dksX1_run_1 8 rfl rfl)
theorem dX1_run_32 : decode cX1_run 32 = .ok (.bastore, 1) := dk_84 (dk_at dksX1_run_1 9 rfl rfl)
theorem dX1_run_33 : decode cX1_run 33 = .ok (.iinc 5 1, 3) := dk_132 5 1 (dk_at dksX1_run_1 10 rfl rfl)
theorem dX1_run_36 : decode cX1_run 36 = .ok (.goto (-21), 3) := dk_167 255 235 (dk_at dksX1_run_1 13 rfl rfl)
theorem dX1_run_39 : decode cX1_run 39 = .ok (.new 27, 3) := dk_187 0 27 (dk_at dksX1_run_1 16 rfl rfl)
theorem dX1_run_42 : decode cX1_run 42 = .ok (.dup, 1) := dk_89 (dk_at dksX1_run_1 19 rfl rfl)
theorem dX1_run_43 : decode cX1_run 43 = .ok (.invokespecial 29, 3) := dk_183 0 29 (dk_at dksX1_run_1 20 rfl rfl)
theorem dX1_run_46 : decode cX1_run 46 = .ok (.astore 5, 2) := dk_58 5 (dk_at dksX1_run_2 0 rfl rfl)
theorem dX1_run_48 : decode cX1_run 48 = .ok (.aload 5, 2) := dk_25 5 (dk_at dksX1_run_2 2 rfl rfl)
theorem dX1_run_50 : decode cX1_run 50 = .ok (.iload_n 1, 1) := dk_27 (dk_at dksX1_run_2 4 rfl rfl)
theorem dX1_run_51 : decode cX1_run 51 = .ok (.new 30, 3) := dk_187 0 30 (dk_at dksX1_run_2 5 rfl rfl)
theorem dX1_run_54 : decode cX1_run 54 = .ok (.dup, 1) := dk_89 (dk_at dksX1_run_2 8 rfl rfl)
theorem dX1_run_55 : decode cX1_run 55 = .ok (.aload 4, 2) := dk_25 4 (dk_at dksX1_run_2 9 rfl rfl)
theorem dX1_run_57 : decode cX1_run 57 = .ok (.bipush 12, 2) := dk_16 12 (dk_at dksX1_run_2 11 rfl rfl)
theorem dX1_run_59 : decode cX1_run 59 = .ok (.invokespecial 32, 3) := dk_183 0 32 (dk_at dksX1_run_2 13 rfl rfl)
theorem dX1_run_62 : decode cX1_run 62 = .ok (.invokeinterface 35 3, 5) := by decide +kernel
theorem dX1_run_67 : decode cX1_run 67 = .ok (.aload 5, 2) := dk_25 5 (dk_at dksX1_run_2 21 rfl rfl)
theorem dX1_run_69 : decode cX1_run 69 = .ok (.aload_n 0, 1) := dk_42 (dk_at dksX1_run_2 23 rfl rfl)
theorem dX1_run_70 : decode cX1_run 70 = .ok (.getfield 13, 3) := dk_180 0 13 (dk_at dksX1_run_3 0 rfl rfl)
theorem dX1_run_73 : decode cX1_run 73 = .ok (.iconst 0, 1) := dk_3 (dk_at dksX1_run_3 3 rfl rfl)
theorem dX1_run_74 : decode cX1_run 74 = .ok (.aload_n 0, 1) := dk_42 (dk_at dksX1_run_3 4 rfl rfl)
theorem dX1_run_75 : decode cX1_run 75 = .ok (.getfield 16, 3) := dk_180 0 16 (dk_at dksX1_run_3 5 rfl rfl)
theorem dX1_run_78 : decode cX1_run 78 = .ok (.iconst 0, 1) := dk_3 (dk_at dksX1_run_3 8 rfl rfl)
theorem dX1_run_79 : decode cX1_run 79 = .ok (.invokeinterface 41 5, 5) := by decide +kernel
theorem dX1_run_84 : decode cX1_run 84 = .ok (.pop, 1) := dk_87 (dk_at dksX1_run_3 14 rfl rfl)
theorem dX1_run_85 : decode cX1_run 85 = .ok (.return_, 1) := dk_177 (dk_at dksX1_run_3 15 rfl rfl)
abbrev cX1_size : ByteArray := prog_6_method_6_code
def yX1_size : MethodName := ⟨RX1, "size", "(I)I"⟩
theorem dX1_size_0 : decode cX1_size 0 = .ok (.bipush 16, 2) := by decide +kernel
theorem dX1_size_2 : decode cX1_size 2 = .ok (.ireturn, 1) := by decide +kernel
abbrev cX1_open : ByteArray := prog_6_method_8_code
def yX1_open : MethodName := ⟨RX1, "open", "(I)V"⟩
def dkwX1_open_0 : List UInt8 := [42, 3, 27, 182, 0, 45, 177]
abbrev dktX1_open_0 : List UInt8 := dkwX1_open_0 ++ []
theorem dksX1_open_0 : cX1_open.data.toList.drop 0 = dktX1_open_0 := by decide +kernel
theorem dX1_open_0 : decode cX1_open 0 = .ok (.aload_n 0, 1) := dk_42 (dk_at dksX1_open_0 0 rfl rfl)
theorem dX1_open_1 : decode cX1_open 1 = .ok (.iconst 0, 1) := dk_3 (dk_at dksX1_open_0 1 rfl rfl)
theorem dX1_open_2 : decode cX1_open 2 = .ok (.iload_n 1, 1) := dk_27 (dk_at dksX1_open_0 2 rfl rfl)
theorem dX1_open_3 : decode cX1_open 3 = .ok (.invokevirtual 45, 3) := dk_182 0 45 (dk_at dksX1_open_0 3 rfl rfl)
theorem dX1_open_6 : decode cX1_open 6 = .ok (.return_, 1) := dk_177 (dk_at dksX1_open_0 6 rfl rfl)
abbrev cX1_again : ByteArray := prog_6_method_9_code
def yX1_again : MethodName := ⟨RX1, "again", "()V"⟩
def dkwX1_again_1 : List UInt8 := [167, 255, 235, 177]
abbrev dktX1_again_1 : List UInt8 := dkwX1_again_1 ++ []
def dkwX1_again_0 : List UInt8 := [3, 60, 27, 16, 16, 162, 0, 21, 42, 180, 0, 13, 27, 42, 180, 0, 16, 27, 51, 84, 132, 1, 1]
abbrev dktX1_again_0 : List UInt8 := dkwX1_again_0 ++ dktX1_again_1
theorem dksX1_again_0 : cX1_again.data.toList.drop 0 = dktX1_again_0 := by decide +kernel
theorem dksX1_again_1 : cX1_again.data.toList.drop 23 = dktX1_again_1 := dk_seg dksX1_again_0 23 rfl rfl
theorem dX1_again_0 : decode cX1_again 0 = .ok (.iconst 0, 1) := dk_3 (dk_at dksX1_again_0 0 rfl rfl)
theorem dX1_again_1 : decode cX1_again 1 = .ok (.istore_n 1, 1) := dk_60 (dk_at dksX1_again_0 1 rfl rfl)
theorem dX1_again_2 : decode cX1_again 2 = .ok (.iload_n 1, 1) := dk_27 (dk_at dksX1_again_0 2 rfl rfl)
theorem dX1_again_3 : decode cX1_again 3 = .ok (.bipush 16, 2) := dk_16 16 (dk_at dksX1_again_0 3 rfl rfl)
theorem dX1_again_5 : decode cX1_again 5 = .ok (.if_icmp .ge 21, 3) := dk_162 0 21 (dk_at dksX1_again_0 5 rfl rfl)
theorem dX1_again_8 : decode cX1_again 8 = .ok (.aload_n 0, 1) := dk_42 (dk_at dksX1_again_0 8 rfl rfl)
theorem dX1_again_9 : decode cX1_again 9 = .ok (.getfield 13, 3) := dk_180 0 13 (dk_at dksX1_again_0 9 rfl rfl)
theorem dX1_again_12 : decode cX1_again 12 = .ok (.iload_n 1, 1) := dk_27 (dk_at dksX1_again_0 12 rfl rfl)
theorem dX1_again_13 : decode cX1_again 13 = .ok (.aload_n 0, 1) := dk_42 (dk_at dksX1_again_0 13 rfl rfl)
theorem dX1_again_14 : decode cX1_again 14 = .ok (.getfield 16, 3) := dk_180 0 16 (dk_at dksX1_again_0 14 rfl rfl)
theorem dX1_again_17 : decode cX1_again 17 = .ok (.iload_n 1, 1) := dk_27 (dk_at dksX1_again_0 17 rfl rfl)
theorem dX1_again_18 : decode cX1_again 18 = .ok (.baload, 1) := dk_51 (dk_at dksX1_again_0 18 rfl rfl)
theorem dX1_again_19 : decode cX1_again 19 = .ok (.bastore, 1) := dk_84 (dk_at dksX1_again_0 19 rfl rfl)
theorem dX1_again_20 : decode cX1_again 20 = .ok (.iinc 1 1, 3) := dk_132 1 1 (dk_at dksX1_again_0 20 rfl rfl)
theorem dX1_again_23 : decode cX1_again 23 = .ok (.goto (-21), 3) := dk_167 255 235 (dk_at dksX1_again_1 0 rfl rfl)
theorem dX1_again_26 : decode cX1_again 26 = .ok (.return_, 1) := dk_177 (dk_at dksX1_again_1 3 rfl rfl)
abbrev cX1_out : ByteArray := prog_6_method_10_code
def yX1_out : MethodName := ⟨RX1, "out", "(I)I"⟩
def dkwX1_out_0 : List UInt8 := [42, 180, 0, 16, 27, 16, 15, 126, 51, 17, 0, 255, 126, 172]
abbrev dktX1_out_0 : List UInt8 := dkwX1_out_0 ++ []
theorem dksX1_out_0 : cX1_out.data.toList.drop 0 = dktX1_out_0 := by decide +kernel
theorem dX1_out_0 : decode cX1_out 0 = .ok (.aload_n 0, 1) := dk_42 (dk_at dksX1_out_0 0 rfl rfl)
theorem dX1_out_1 : decode cX1_out 1 = .ok (.getfield 16, 3) := dk_180 0 16 (dk_at dksX1_out_0 1 rfl rfl)
theorem dX1_out_4 : decode cX1_out 4 = .ok (.iload_n 1, 1) := dk_27 (dk_at dksX1_out_0 4 rfl rfl)
theorem dX1_out_5 : decode cX1_out 5 = .ok (.bipush 15, 2) := dk_16 15 (dk_at dksX1_out_0 5 rfl rfl)
theorem dX1_out_7 : decode cX1_out 7 = .ok (.iand, 1) := dk_126 (dk_at dksX1_out_0 7 rfl rfl)
theorem dX1_out_8 : decode cX1_out 8 = .ok (.baload, 1) := dk_51 (dk_at dksX1_out_0 8 rfl rfl)
theorem dX1_out_9 : decode cX1_out 9 = .ok (.sipush 255, 3) := dk_17 0 255 (dk_at dksX1_out_0 9 rfl rfl)
theorem dX1_out_12 : decode cX1_out 12 = .ok (.iand, 1) := dk_126 (dk_at dksX1_out_0 12 rfl rfl)
theorem dX1_out_13 : decode cX1_out 13 = .ok (.ireturn, 1) := dk_172 (dk_at dksX1_out_0 13 rfl rfl)
theorem q10 : (Jvm.Cond.initialized "RcWideDesk") ∈ lw_all := lw_g (lw_at lw_m1 1 rfl) rfl
theorem q19 : (Jvm.Cond.instantiable "RcWideDesk" (3 : Nat)) ∈ lw_all := lw_g (lw_at lw_m1 10 rfl) rfl
theorem q21 : (Jvm.Cond.instanceMethod ({ cls := "RcWideDesk", name := "<init>", desc := "()V" } : Jvm.MethodName)) ∈ lw_all := lw_g (lw_at lw_m1 12 rfl) rfl
theorem q22 : (Jvm.Cond.code ({ cls := "RcWideDesk", name := "<init>", desc := "()V" } : Jvm.MethodName) prog_6_method_1_code (1 : Nat) (Option.none : Option Jvm.ClassFile.FieldType)) ∈ lw_all := lw_g (lw_at lw_m1 13 rfl) rfl
theorem q23 : (Jvm.Cond.methodLink "RcWideDesk" (1 : Nat) ({ cls := "java/lang/Object", name := "<init>", desc := "()V" } : Jvm.MethodName)) ∈ lw_all := lw_g (lw_at lw_m1 14 rfl) rfl
theorem q26 : (Jvm.Cond.fieldLink "RcWideDesk" (7 : Nat) "RcWideDesk" "key" "[B") ∈ lw_all := lw_g (lw_at lw_m1 17 rfl) rfl
theorem q27 : (Jvm.Cond.fieldLink "RcWideDesk" (13 : Nat) "RcWideDesk" "block" "[B") ∈ lw_all := lw_g (lw_at lw_m1 18 rfl) rfl
theorem q28 : (Jvm.Cond.fieldLink "RcWideDesk" (16 : Nat) "RcWideDesk" "out" "[B") ∈ lw_all := lw_g (lw_at lw_m1 19 rfl) rfl
theorem q29 : (Jvm.Cond.laysFinal "RcWideDesk" "RcWideDesk" "key" "[B") ∈ lw_all := lw_g (lw_at lw_m1 20 rfl) rfl
theorem q30 : (Jvm.Cond.soleField "RcWideDesk" "key") ∈ lw_all := lw_g (lw_at lw_m1 21 rfl) rfl
theorem q31 : (Jvm.Cond.laysFinal "RcWideDesk" "RcWideDesk" "block" "[B") ∈ lw_all := lw_g (lw_at lw_m1 22 rfl) rfl
theorem q32 : (Jvm.Cond.soleField "RcWideDesk" "block") ∈ lw_all := lw_g (lw_at lw_m1 23 rfl) rfl
theorem q33 : (Jvm.Cond.laysFinal "RcWideDesk" "RcWideDesk" "out" "[B") ∈ lw_all := lw_g (lw_at lw_m1 24 rfl) rfl
theorem q34 : (Jvm.Cond.soleField "RcWideDesk" "out") ∈ lw_all := lw_g (lw_at lw_m1 25 rfl) rfl
theorem q35 : (Jvm.Cond.superclass "RcWideDesk" "java/lang/Object") ∈ lw_all := lw_g (lw_at lw_m1 26 rfl) rfl
theorem q38 : (Jvm.Cond.instanceMethod ({ cls := "RcWideDesk", name := "key", desc := "(IIIII)V" } : Jvm.MethodName)) ∈ lw_all := lw_g (lw_at lw_m1 29 rfl) rfl
theorem q39 : (Jvm.Cond.selects "RcWideDesk" ({ cls := "RcWideDesk", name := "key", desc := "(IIIII)V" } : Jvm.MethodName) ({ cls := "RcWideDesk", name := "key", desc := "(IIIII)V" } : Jvm.MethodName)) ∈ lw_all := lw_g (lw_at lw_m1 30 rfl) rfl
theorem q40 : (Jvm.Cond.code ({ cls := "RcWideDesk", name := "key", desc := "(IIIII)V" } : Jvm.MethodName) prog_6_method_3_code (7 : Nat) (Option.none : Option Jvm.ClassFile.FieldType)) ∈ lw_all := lw_g (lw_at lw_m1 31 rfl) rfl
theorem q41 : (Jvm.Cond.methodLink "RcWideDesk" (19 : Nat) ({ cls := "RcWideDesk", name := "word", desc := "([BII)V" } : Jvm.MethodName)) ∈ lw_all := lw_g (lw_at lw_m1 32 rfl) rfl
theorem q42 : (Jvm.Cond.static ({ cls := "RcWideDesk", name := "word", desc := "([BII)V" } : Jvm.MethodName)) ∈ lw_all := lw_g (lw_at lw_m1 33 rfl) rfl
theorem q43 : (Jvm.Cond.code ({ cls := "RcWideDesk", name := "word", desc := "([BII)V" } : Jvm.MethodName) prog_6_method_2_code (3 : Nat) (Option.none : Option Jvm.ClassFile.FieldType)) ∈ lw_all := lw_g (lw_at lw_m1 34 rfl) rfl
theorem q45 : (Jvm.Cond.instanceMethod ({ cls := "RcWideDesk", name := "block", desc := "(IIII)V" } : Jvm.MethodName)) ∈ lw_all := lw_g (lw_at lw_m1 36 rfl) rfl
theorem q46 : (Jvm.Cond.selects "RcWideDesk" ({ cls := "RcWideDesk", name := "block", desc := "(IIII)V" } : Jvm.MethodName) ({ cls := "RcWideDesk", name := "block", desc := "(IIII)V" } : Jvm.MethodName)) ∈ lw_all := lw_g (lw_at lw_m1 37 rfl) rfl
theorem q47 : (Jvm.Cond.code ({ cls := "RcWideDesk", name := "block", desc := "(IIII)V" } : Jvm.MethodName) prog_6_method_4_code (5 : Nat) (Option.none : Option Jvm.ClassFile.FieldType)) ∈ lw_all := lw_g (lw_at lw_m1 38 rfl) rfl
theorem q49 : (Jvm.Cond.instanceMethod ({ cls := "RcWideDesk", name := "lock", desc := "(I)V" } : Jvm.MethodName)) ∈ lw_all := lw_g (lw_at lw_m1 40 rfl) rfl
theorem q50 : (Jvm.Cond.selects "RcWideDesk" ({ cls := "RcWideDesk", name := "lock", desc := "(I)V" } : Jvm.MethodName) ({ cls := "RcWideDesk", name := "lock", desc := "(I)V" } : Jvm.MethodName)) ∈ lw_all := lw_g (lw_at lw_m1 41 rfl) rfl
theorem q51 : (Jvm.Cond.code ({ cls := "RcWideDesk", name := "lock", desc := "(I)V" } : Jvm.MethodName) prog_6_method_7_code (2 : Nat) (Option.none : Option Jvm.ClassFile.FieldType)) ∈ lw_all := lw_g (lw_at lw_m1 42 rfl) rfl
theorem q52 : (Jvm.Cond.methodLink "RcWideDesk" (45 : Nat) ({ cls := "RcWideDesk", name := "run", desc := "(ZI)V" } : Jvm.MethodName)) ∈ lw_all := lw_g (lw_at lw_m1 43 rfl) rfl
theorem q53 : (Jvm.Cond.privateMethod ({ cls := "RcWideDesk", name := "run", desc := "(ZI)V" } : Jvm.MethodName)) ∈ lw_tbl := lw_at lw_m1 44 rfl
theorem q54 : (Jvm.Cond.instanceMethod ({ cls := "RcWideDesk", name := "run", desc := "(ZI)V" } : Jvm.MethodName)) ∈ lw_all := lw_g (lw_at lw_m1 45 rfl) rfl
theorem q55 : (Jvm.Cond.code ({ cls := "RcWideDesk", name := "run", desc := "(ZI)V" } : Jvm.MethodName) prog_6_method_5_code (6 : Nat) (Option.none : Option Jvm.ClassFile.FieldType)) ∈ lw_all := lw_g (lw_at lw_m1 46 rfl) rfl
theorem q56 : (Jvm.Cond.methodLink "RcWideDesk" (23 : Nat) ({ cls := "RcWideDesk", name := "size", desc := "(I)I" } : Jvm.MethodName)) ∈ lw_all := lw_g (lw_at lw_m1 47 rfl) rfl
theorem q57 : (Jvm.Cond.static ({ cls := "RcWideDesk", name := "size", desc := "(I)I" } : Jvm.MethodName)) ∈ lw_all := lw_g (lw_at lw_m1 48 rfl) rfl
theorem q58 : (Jvm.Cond.code ({ cls := "RcWideDesk", name := "size", desc := "(I)I" } : Jvm.MethodName) prog_6_method_6_code (1 : Nat) (Option.some Jvm.ClassFile.FieldType.int)) ∈ lw_all := lw_g (lw_at lw_m1 49 rfl) rfl
theorem q59 : (Jvm.Cond.classLink "RcWideDesk" (27 : Nat) "RC564Engine") ∈ lw_all := lw_g (lw_at lw_m1 50 rfl) rfl
theorem q61 : (Jvm.Cond.methodLink "RcWideDesk" (29 : Nat) ({ cls := "RC564Engine", name := "<init>", desc := "()V" } : Jvm.MethodName)) ∈ lw_all := lw_g (lw_at lw_m1 52 rfl) rfl
theorem q75 : (Jvm.Cond.classLink "RcWideDesk" (30 : Nat) "RC5Parameters") ∈ lw_all := lw_g (lw_at lw_m1 66 rfl) rfl
theorem q77 : (Jvm.Cond.methodLink "RcWideDesk" (32 : Nat) ({ cls := "RC5Parameters", name := "<init>", desc := "([BI)V" } : Jvm.MethodName)) ∈ lw_all := lw_g (lw_at lw_m1 68 rfl) rfl
theorem q156 : (Jvm.Cond.interfaceEntry "RcWideDesk" (35 : Nat)) ∈ lw_tbl := lw_at lw_m1 147 rfl
theorem q157 : (Jvm.Cond.methodLink "RcWideDesk" (35 : Nat) ({ cls := "BlockCipher", name := "init", desc := "(ZLCipherParameters;)V" } : Jvm.MethodName)) ∈ lw_all := lw_g (lw_at lw_m1 148 rfl) rfl
theorem q191 : (Jvm.Cond.interfaceEntry "RcWideDesk" (41 : Nat)) ∈ lw_tbl := lw_at lw_m1 182 rfl
theorem q192 : (Jvm.Cond.methodLink "RcWideDesk" (41 : Nat) ({ cls := "BlockCipher", name := "processBlock", desc := "([BI[BI)I" } : Jvm.MethodName)) ∈ lw_all := lw_g (lw_at lw_m1 183 rfl) rfl
theorem q222 : (Jvm.Cond.instanceMethod ({ cls := "RcWideDesk", name := "open", desc := "(I)V" } : Jvm.MethodName)) ∈ lw_all := lw_g (lw_at lw_m1 213 rfl) rfl
theorem q223 : (Jvm.Cond.selects "RcWideDesk" ({ cls := "RcWideDesk", name := "open", desc := "(I)V" } : Jvm.MethodName) ({ cls := "RcWideDesk", name := "open", desc := "(I)V" } : Jvm.MethodName)) ∈ lw_all := lw_g (lw_at lw_m1 214 rfl) rfl
theorem q224 : (Jvm.Cond.code ({ cls := "RcWideDesk", name := "open", desc := "(I)V" } : Jvm.MethodName) prog_6_method_8_code (2 : Nat) (Option.none : Option Jvm.ClassFile.FieldType)) ∈ lw_all := lw_g (lw_at lw_m1 215 rfl) rfl
theorem q226 : (Jvm.Cond.instanceMethod ({ cls := "RcWideDesk", name := "again", desc := "()V" } : Jvm.MethodName)) ∈ lw_all := lw_g (lw_at lw_m1 217 rfl) rfl
theorem q227 : (Jvm.Cond.selects "RcWideDesk" ({ cls := "RcWideDesk", name := "again", desc := "()V" } : Jvm.MethodName) ({ cls := "RcWideDesk", name := "again", desc := "()V" } : Jvm.MethodName)) ∈ lw_all := lw_g (lw_at lw_m1 218 rfl) rfl
theorem q228 : (Jvm.Cond.code ({ cls := "RcWideDesk", name := "again", desc := "()V" } : Jvm.MethodName) prog_6_method_9_code (2 : Nat) (Option.none : Option Jvm.ClassFile.FieldType)) ∈ lw_all := lw_g (lw_at lw_m1 219 rfl) rfl
theorem q267 : (Jvm.Cond.instanceMethod ({ cls := "RcWideDesk", name := "out", desc := "(I)I" } : Jvm.MethodName)) ∈ lw_all := lw_g (lw_at lw_m2 18 rfl) rfl
theorem q268 : (Jvm.Cond.selects "RcWideDesk" ({ cls := "RcWideDesk", name := "out", desc := "(I)I" } : Jvm.MethodName) ({ cls := "RcWideDesk", name := "out", desc := "(I)I" } : Jvm.MethodName)) ∈ lw_all := lw_g (lw_at lw_m2 19 rfl) rfl
theorem q269 : (Jvm.Cond.code ({ cls := "RcWideDesk", name := "out", desc := "(I)I" } : Jvm.MethodName) prog_6_method_10_code (2 : Nat) (Option.some Jvm.ClassFile.FieldType.int)) ∈ lw_all := lw_g (lw_at lw_m2 20 rfl) rfl
theorem in_X1 : ∀ w ∈ wsX10, w ∈ lw_all := lw_in wsX10 [29, 31, 33] (by decide +kernel) (by decide +kernel)
/-! RcWideDeskLaw -/
set_option maxRecDepth 100000
def RX0 : String := "RcWideDeskLaw"
abbrev cX0_cell : ByteArray := method_2_code
def yX0_cell : MethodName := ⟨RX0, "cell", "([II)I"⟩
def dkwX0_cell_0 : List UInt8 := [27, 42, 190, 162, 0, 9, 42, 27, 46, 167, 0, 4, 3, 172]
abbrev dktX0_cell_0 : List UInt8 := dkwX0_cell_0 ++ []
theorem dksX0_cell_0 : cX0_cell.data.toList.drop 0 = dktX0_cell_0 := by decide +kernel
theorem dX0_cell_0 : decode cX0_cell 0 = .ok (.iload_n 1, 1) := dk_27 (dk_at dksX0_cell_0 0 rfl rfl)
theorem dX0_cell_1 : decode cX0_cell 1 = .ok (.aload_n 0, 1) := dk_42 (dk_at dksX0_cell_0 1 rfl rfl)
theorem dX0_cell_2 : decode cX0_cell 2 = .ok (.arraylength, 1) := dk_190 (dk_at dksX0_cell_0 2 rfl rfl)
theorem dX0_cell_3 : decode cX0_cell 3 = .ok (.if_icmp .ge 9, 3) := dk_162 0 9 (dk_at dksX0_cell_0 3 rfl rfl)
theorem dX0_cell_6 : decode cX0_cell 6 = .ok (.aload_n 0, 1) := dk_42 (dk_at dksX0_cell_0 6 rfl rfl)
theorem dX0_cell_7 : decode cX0_cell 7 = .ok (.iload_n 1, 1) := dk_27 (dk_at dksX0_cell_0 7 rfl rfl)
theorem dX0_cell_8 : decode cX0_cell 8 = .ok (.iaload, 1) := dk_46 (dk_at dksX0_cell_0 8 rfl rfl)
theorem dX0_cell_9 : decode cX0_cell 9 = .ok (.goto 4, 3) := dk_167 0 4 (dk_at dksX0_cell_0 9 rfl rfl)
theorem dX0_cell_12 : decode cX0_cell 12 = .ok (.iconst 0, 1) := dk_3 (dk_at dksX0_cell_0 12 rfl rfl)
theorem dX0_cell_13 : decode cX0_cell 13 = .ok (.ireturn, 1) := dk_172 (dk_at dksX0_cell_0 13 rfl rfl)
abbrev cX0_some : ByteArray := method_3_code
def yX0_some : MethodName := ⟨RX0, "some", "(II)I"⟩
def dkwX0_some_0 : List UInt8 := [26, 18, 7, 126, 27, 112, 172]
abbrev dktX0_some_0 : List UInt8 := dkwX0_some_0 ++ []
theorem dksX0_some_0 : cX0_some.data.toList.drop 0 = dktX0_some_0 := by decide +kernel
theorem dX0_some_0 : decode cX0_some 0 = .ok (.iload_n 0, 1) := dk_26 (dk_at dksX0_some_0 0 rfl rfl)
theorem dX0_some_1 : decode cX0_some 1 = .ok (.ldc 7, 2) := dk_18 7 (dk_at dksX0_some_0 1 rfl rfl)
theorem dX0_some_3 : decode cX0_some 3 = .ok (.iand, 1) := dk_126 (dk_at dksX0_some_0 3 rfl rfl)
theorem dX0_some_4 : decode cX0_some 4 = .ok (.iload_n 1, 1) := dk_27 (dk_at dksX0_some_0 4 rfl rfl)
theorem dX0_some_5 : decode cX0_some 5 = .ok (.irem, 1) := dk_112 (dk_at dksX0_some_0 5 rfl rfl)
theorem dX0_some_6 : decode cX0_some 6 = .ok (.ireturn, 1) := dk_172 (dk_at dksX0_some_0 6 rfl rfl)
abbrev cX0_lay : ByteArray := method_4_code
def yX0_lay : MethodName := ⟨RX0, "lay", "([BII)V"⟩
def dkwX0_lay_1 : List UInt8 := [16, 8, 122, 145, 84, 42, 27, 6, 96, 28, 145, 84, 177]
abbrev dktX0_lay_1 : List UInt8 := dkwX0_lay_1 ++ []
def dkwX0_lay_0 : List UInt8 := [42, 27, 28, 16, 24, 122, 145, 84, 42, 27, 4, 96, 28, 16, 16, 122, 145, 84, 42, 27, 5, 96, 28]
abbrev dktX0_lay_0 : List UInt8 := dkwX0_lay_0 ++ dktX0_lay_1
theorem dksX0_lay_0 : cX0_lay.data.toList.drop 0 = dktX0_lay_0 := by decide +kernel
theorem dksX0_lay_1 : cX0_lay.data.toList.drop 23 = dktX0_lay_1 := dk_seg dksX0_lay_0 23 rfl rfl
theorem dX0_lay_0 : decode cX0_lay 0 = .ok (.aload_n 0, 1) := dk_42 (dk_at dksX0_lay_0 0 rfl rfl)
theorem dX0_lay_1 : decode cX0_lay 1 = .ok (.iload_n 1, 1) := dk_27 (dk_at dksX0_lay_0 1 rfl rfl)
theorem dX0_lay_2 : decode cX0_lay 2 = .ok (.iload_n 2, 1) := dk_28 (dk_at dksX0_lay_0 2 rfl rfl)
theorem dX0_lay_3 : decode cX0_lay 3 = .ok (.bipush 24, 2) := dk_16 24 (dk_at dksX0_lay_0 3 rfl rfl)
theorem dX0_lay_5 : decode cX0_lay 5 = .ok (.ishr, 1) := dk_122 (dk_at dksX0_lay_0 5 rfl rfl)
theorem dX0_lay_6 : decode cX0_lay 6 = .ok (.i2b, 1) := dk_145 (dk_at dksX0_lay_0 6 rfl rfl)
theorem dX0_lay_7 : decode cX0_lay 7 = .ok (.bastore, 1) := dk_84 (dk_at dksX0_lay_0 7 rfl rfl)
theorem dX0_lay_8 : decode cX0_lay 8 = .ok (.aload_n 0, 1) := dk_42 (dk_at dksX0_lay_0 8 rfl rfl)
theorem dX0_lay_9 : decode cX0_lay 9 = .ok (.iload_n 1, 1) := dk_27 (dk_at dksX0_lay_0 9 rfl rfl)
theorem dX0_lay_10 : decode cX0_lay 10 = .ok (.iconst 1, 1) := dk_4 (dk_at dksX0_lay_0 10 rfl rfl)
theorem dX0_lay_11 : decode cX0_lay 11 = .ok (.iadd, 1) := dk_96 (dk_at dksX0_lay_0 11 rfl rfl)
theorem dX0_lay_12 : decode cX0_lay 12 = .ok (.iload_n 2, 1) := dk_28 (dk_at dksX0_lay_0 12 rfl rfl)
theorem dX0_lay_13 : decode cX0_lay 13 = .ok (.bipush 16, 2) := dk_16 16 (dk_at dksX0_lay_0 13 rfl rfl)
theorem dX0_lay_15 : decode cX0_lay 15 = .ok (.ishr, 1) := dk_122 (dk_at dksX0_lay_0 15 rfl rfl)
theorem dX0_lay_16 : decode cX0_lay 16 = .ok (.i2b, 1) := dk_145 (dk_at dksX0_lay_0 16 rfl rfl)
theorem dX0_lay_17 : decode cX0_lay 17 = .ok (.bastore, 1) := dk_84 (dk_at dksX0_lay_0 17 rfl rfl)
theorem dX0_lay_18 : decode cX0_lay 18 = .ok (.aload_n 0, 1) := dk_42 (dk_at dksX0_lay_0 18 rfl rfl)
theorem dX0_lay_19 : decode cX0_lay 19 = .ok (.iload_n 1, 1) := dk_27 (dk_at dksX0_lay_0 19 rfl rfl)
theorem dX0_lay_20 : decode cX0_lay 20 = .ok (.iconst 2, 1) := dk_5 (dk_at dksX0_lay_0 20 rfl rfl)
theorem dX0_lay_21 : decode cX0_lay 21 = .ok (.iadd, 1) := dk_96 (dk_at dksX0_lay_0 21 rfl rfl)
theorem dX0_lay_22 : decode cX0_lay 22 = .ok (.iload_n 2, 1) := dk_28 (dk_at dksX0_lay_0 22 rfl rfl)
theorem dX0_lay_23 : decode cX0_lay 23 = .ok (.bipush 8, 2) := dk_16 8 (dk_at dksX0_lay_1 0 rfl rfl)
theorem dX0_lay_25 : decode cX0_lay 25 = .ok (.ishr, 1) := dk_122 (dk_at dksX0_lay_1 2 rfl rfl)
theorem dX0_lay_26 : decode cX0_lay 26 = .ok (.i2b, 1) := dk_145 (dk_at dksX0_lay_1 3 rfl rfl)
theorem dX0_lay_27 : decode cX0_lay 27 = .ok (.bastore, 1) := dk_84 (dk_at dksX0_lay_1 4 rfl rfl)
theorem dX0_lay_28 : decode cX0_lay 28 = .ok (.aload_n 0, 1) := dk_42 (dk_at dksX0_lay_1 5 rfl rfl)
theorem dX0_lay_29 : decode cX0_lay 29 = .ok (.iload_n 1, 1) := dk_27 (dk_at dksX0_lay_1 6 rfl rfl)
theorem dX0_lay_30 : decode cX0_lay 30 = .ok (.iconst 3, 1) := dk_6 (dk_at dksX0_lay_1 7 rfl rfl)
theorem dX0_lay_31 : decode cX0_lay 31 = .ok (.iadd, 1) := dk_96 (dk_at dksX0_lay_1 8 rfl rfl)
theorem dX0_lay_32 : decode cX0_lay 32 = .ok (.iload_n 2, 1) := dk_28 (dk_at dksX0_lay_1 9 rfl rfl)
theorem dX0_lay_33 : decode cX0_lay 33 = .ok (.i2b, 1) := dk_145 (dk_at dksX0_lay_1 10 rfl rfl)
theorem dX0_lay_34 : decode cX0_lay 34 = .ok (.bastore, 1) := dk_84 (dk_at dksX0_lay_1 11 rfl rfl)
theorem dX0_lay_35 : decode cX0_lay 35 = .ok (.return_, 1) := dk_177 (dk_at dksX0_lay_1 12 rfl rfl)
abbrev cX0_locked : ByteArray := method_9_code
def yX0_locked : MethodName := ⟨RX0, "locked", "([B[B)[B"⟩
def dkwX0_locked_4 : List UInt8 := [45, 16, 8, 22, 6, 184, 0, 34, 45, 176]
abbrev dktX0_locked_4 : List UInt8 := dkwX0_locked_4 ++ []
def dkwX0_locked_3 : List UInt8 := [44, 5, 21, 8, 104, 4, 96, 47, 97, 55, 6, 132, 8, 1, 167, 255, 206, 45, 3, 22, 4, 184, 0, 34]
abbrev dktX0_locked_3 : List UInt8 := dkwX0_locked_3 ++ dktX0_locked_4
def dkwX0_locked_2 : List UInt8 := [22, 6, 184, 0, 26, 44, 5, 21, 8, 104, 47, 97, 55, 4, 22, 6, 22, 4, 131, 22, 4, 184, 0, 26]
abbrev dktX0_locked_2 : List UInt8 := dkwX0_locked_2 ++ dktX0_locked_3
def dkwX0_locked_1 : List UInt8 := [184, 0, 14, 44, 4, 47, 97, 55, 6, 4, 54, 8, 21, 8, 16, 13, 162, 0, 49, 22, 4, 22, 6, 131]
abbrev dktX0_locked_1 : List UInt8 := dkwX0_locked_1 ++ dktX0_locked_2
def dkwX0_locked_0 : List UInt8 := [42, 184, 0, 30, 77, 16, 16, 188, 8, 78, 43, 3, 184, 0, 14, 44, 3, 47, 97, 55, 4, 43, 16, 8]
abbrev dktX0_locked_0 : List UInt8 := dkwX0_locked_0 ++ dktX0_locked_1
theorem dksX0_locked_0 : cX0_locked.data.toList.drop 0 = dktX0_locked_0 := by decide +kernel
theorem dksX0_locked_1 : cX0_locked.data.toList.drop 24 = dktX0_locked_1 := dk_seg dksX0_locked_0 24 rfl rfl
theorem dksX0_locked_2 : cX0_locked.data.toList.drop 48 = dktX0_locked_2 := dk_seg dksX0_locked_1 24 rfl rfl
theorem dksX0_locked_3 : cX0_locked.data.toList.drop 72 = dktX0_locked_3 := dk_seg dksX0_locked_2 24 rfl rfl
theorem dksX0_locked_4 : cX0_locked.data.toList.drop 96 = dktX0_locked_4 := dk_seg dksX0_locked_3 24 rfl rfl
theorem dX0_locked_0 : decode cX0_locked 0 = .ok (.aload_n 0, 1) := dk_42 (dk_at dksX0_locked_0 0 rfl rfl)
theorem dX0_locked_1 : decode cX0_locked 1 = .ok (.invokestatic 30, 3) := dk_184 0 30 (dk_at dksX0_locked_0 1 rfl rfl)
theorem dX0_locked_4 : decode cX0_locked 4 = .ok (.astore_n 2, 1) := dk_77 (dk_at dksX0_locked_0 4 rfl rfl)
theorem dX0_locked_5 : decode cX0_locked 5 = .ok (.bipush 16, 2) := dk_16 16 (dk_at dksX0_locked_0 5 rfl rfl)
theorem dX0_locked_7 : decode cX0_locked 7 = .ok (.newarray .byte, 2) := dk_188_8 (dk_at dksX0_locked_0 7 rfl rfl)
theorem dX0_locked_9 : decode cX0_locked 9 = .ok (.astore_n 3, 1) := dk_78 (dk_at dksX0_locked_0 9 rfl rfl)
theorem dX0_locked_10 : decode cX0_locked 10 = .ok (.aload_n 1, 1) := dk_43 (dk_at dksX0_locked_0 10 rfl rfl)
theorem dX0_locked_11 : decode cX0_locked 11 = .ok (.iconst 0, 1) := dk_3 (dk_at dksX0_locked_0 11 rfl rfl)
theorem dX0_locked_12 : decode cX0_locked 12 = .ok (.invokestatic 14, 3) := dk_184 0 14 (dk_at dksX0_locked_0 12 rfl rfl)
theorem dX0_locked_15 : decode cX0_locked 15 = .ok (.aload_n 2, 1) := dk_44 (dk_at dksX0_locked_0 15 rfl rfl)
theorem dX0_locked_16 : decode cX0_locked 16 = .ok (.iconst 0, 1) := dk_3 (dk_at dksX0_locked_0 16 rfl rfl)
theorem dX0_locked_17 : decode cX0_locked 17 = .ok (.laload, 1) := dk_47 (dk_at dksX0_locked_0 17 rfl rfl)
theorem dX0_locked_18 : decode cX0_locked 18 = .ok (.ladd, 1) := dk_97 (dk_at dksX0_locked_0 18 rfl rfl)
theorem dX0_locked_19 : decode cX0_locked 19 = .ok (.lstore 4, 2) := dk_55 4 (dk_at dksX0_locked_0 19 rfl rfl)
theorem dX0_locked_21 : decode cX0_locked 21 = .ok (.aload_n 1, 1) := dk_43 (dk_at dksX0_locked_0 21 rfl rfl)
theorem dX0_locked_22 : decode cX0_locked 22 = .ok (.bipush 8, 2) := dk_16 8 (dk_at dksX0_locked_0 22 rfl rfl)
theorem dX0_locked_24 : decode cX0_locked 24 = .ok (.invokestatic 14, 3) := dk_184 0 14 (dk_at dksX0_locked_1 0 rfl rfl)
theorem dX0_locked_27 : decode cX0_locked 27 = .ok (.aload_n 2, 1) := dk_44 (dk_at dksX0_locked_1 3 rfl rfl)
theorem dX0_locked_28 : decode cX0_locked 28 = .ok (.iconst 1, 1) := dk_4 (dk_at dksX0_locked_1 4 rfl rfl)
theorem dX0_locked_29 : decode cX0_locked 29 = .ok (.laload, 1) := dk_47 (dk_at dksX0_locked_1 5 rfl rfl)
theorem dX0_locked_30 : decode cX0_locked 30 = .ok (.ladd, 1) := dk_97 (dk_at dksX0_locked_1 6 rfl rfl)
theorem dX0_locked_31 : decode cX0_locked 31 = .ok (.lstore 6, 2) := dk_55 6 (dk_at dksX0_locked_1 7 rfl rfl)
theorem dX0_locked_33 : decode cX0_locked 33 = .ok (.iconst 1, 1) := dk_4 (dk_at dksX0_locked_1 9 rfl rfl)
theorem dX0_locked_34 : decode cX0_locked 34 = .ok (.istore 8, 2) := dk_54 8 (dk_at dksX0_locked_1 10 rfl rfl)
theorem dX0_locked_36 : decode cX0_locked 36 = .ok (.iload 8, 2) := dk_21 8 (dk_at dksX0_locked_1 12 rfl rfl)
theorem dX0_locked_38 : decode cX0_locked 38 = .ok (.bipush 13, 2) := dk_16 13 (dk_at dksX0_locked_1 14 rfl rfl)
theorem dX0_locked_40 : decode cX0_locked 40 = .ok (.if_icmp .ge 49, 3) := dk_162 0 49 (dk_at dksX0_locked_1 16 rfl rfl)
theorem dX0_locked_43 : decode cX0_locked 43 = .ok (.lload 4, 2) := dk_22 4 (dk_at dksX0_locked_1 19 rfl rfl)
theorem dX0_locked_45 : decode cX0_locked 45 = .ok (.lload 6, 2) := dk_22 6 (dk_at dksX0_locked_1 21 rfl rfl)
theorem dX0_locked_47 : decode cX0_locked 47 = .ok (.lxor, 1) := dk_131 (dk_at dksX0_locked_1 23 rfl rfl)
theorem dX0_locked_48 : decode cX0_locked 48 = .ok (.lload 6, 2) := dk_22 6 (dk_at dksX0_locked_2 0 rfl rfl)
theorem dX0_locked_50 : decode cX0_locked 50 = .ok (.invokestatic 26, 3) := dk_184 0 26 (dk_at dksX0_locked_2 2 rfl rfl)
theorem dX0_locked_53 : decode cX0_locked 53 = .ok (.aload_n 2, 1) := dk_44 (dk_at dksX0_locked_2 5 rfl rfl)
theorem dX0_locked_54 : decode cX0_locked 54 = .ok (.iconst 2, 1) := dk_5 (dk_at dksX0_locked_2 6 rfl rfl)
theorem dX0_locked_55 : decode cX0_locked 55 = .ok (.iload 8, 2) := dk_21 8 (dk_at dksX0_locked_2 7 rfl rfl)
theorem dX0_locked_57 : decode cX0_locked 57 = .ok (.imul, 1) := dk_104 (dk_at dksX0_locked_2 9 rfl rfl)
theorem dX0_locked_58 : decode cX0_locked 58 = .ok (.laload, 1) := dk_47 (dk_at dksX0_locked_2 10 rfl rfl)
theorem dX0_locked_59 : decode cX0_locked 59 = .ok (.ladd, 1) := dk_97 (dk_at dksX0_locked_2 11 rfl rfl)
theorem dX0_locked_60 : decode cX0_locked 60 = .ok (.lstore 4, 2) := dk_55 4 (dk_at dksX0_locked_2 12 rfl rfl)
theorem dX0_locked_62 : decode cX0_locked 62 = .ok (.lload 6, 2) := dk_22 6 (dk_at dksX0_locked_2 14 rfl rfl)
theorem dX0_locked_64 : decode cX0_locked 64 = .ok (.lload 4, 2) := dk_22 4 (dk_at dksX0_locked_2 16 rfl rfl)
theorem dX0_locked_66 : decode cX0_locked 66 = .ok (.lxor, 1) := dk_131 (dk_at dksX0_locked_2 18 rfl rfl)
theorem dX0_locked_67 : decode cX0_locked 67 = .ok (.lload 4, 2) := dk_22 4 (dk_at dksX0_locked_2 19 rfl rfl)
theorem dX0_locked_69 : decode cX0_locked 69 = .ok (.invokestatic 26, 3) := dk_184 0 26 (dk_at dksX0_locked_2 21 rfl rfl)
theorem dX0_locked_72 : decode cX0_locked 72 = .ok (.aload_n 2, 1) := dk_44 (dk_at dksX0_locked_3 0 rfl rfl)
theorem dX0_locked_73 : decode cX0_locked 73 = .ok (.iconst 2, 1) := dk_5 (dk_at dksX0_locked_3 1 rfl rfl)
theorem dX0_locked_74 : decode cX0_locked 74 = .ok (.iload 8, 2) := dk_21 8 (dk_at dksX0_locked_3 2 rfl rfl)
theorem dX0_locked_76 : decode cX0_locked 76 = .ok (.imul, 1) := dk_104 (dk_at dksX0_locked_3 4 rfl rfl)
theorem dX0_locked_77 : decode cX0_locked 77 = .ok (.iconst 1, 1) := dk_4 (dk_at dksX0_locked_3 5 rfl rfl)
theorem dX0_locked_78 : decode cX0_locked 78 = .ok (.iadd, 1) := dk_96 (dk_at dksX0_locked_3 6 rfl rfl)
theorem dX0_locked_79 : decode cX0_locked 79 = .ok (.laload, 1) := dk_47 (dk_at dksX0_locked_3 7 rfl rfl)
theorem dX0_locked_80 : decode cX0_locked 80 = .ok (.ladd, 1) := dk_97 (dk_at dksX0_locked_3 8 rfl rfl)
theorem dX0_locked_81 : decode cX0_locked 81 = .ok (.lstore 6, 2) := dk_55 6 (dk_at dksX0_locked_3 9 rfl rfl)
theorem dX0_locked_83 : decode cX0_locked 83 = .ok (.iinc 8 1, 3) := dk_132 8 1 (dk_at dksX0_locked_3 11 rfl rfl)
theorem dX0_locked_86 : decode cX0_locked 86 = .ok (.goto (-50), 3) := dk_167 255 206 (dk_at dksX0_locked_3 14 rfl rfl)
theorem dX0_locked_89 : decode cX0_locked 89 = .ok (.aload_n 3, 1) := dk_45 (dk_at dksX0_locked_3 17 rfl rfl)
theorem dX0_locked_90 : decode cX0_locked 90 = .ok (.iconst 0, 1) := dk_3 (dk_at dksX0_locked_3 18 rfl rfl)
theorem dX0_locked_91 : decode cX0_locked 91 = .ok (.lload 4, 2) := dk_22 4 (dk_at dksX0_locked_3 19 rfl rfl)
theorem dX0_locked_93 : decode cX0_locked 93 = .ok (.invokestatic 34, 3) := dk_184 0 34 (dk_at dksX0_locked_3 21 rfl rfl)
theorem dX0_locked_96 : decode cX0_locked 96 = .ok (.aload_n 3, 1) := dk_45 (dk_at dksX0_locked_4 0 rfl rfl)
theorem dX0_locked_97 : decode cX0_locked 97 = .ok (.bipush 8, 2) := dk_16 8 (dk_at dksX0_locked_4 1 rfl rfl)
theorem dX0_locked_99 : decode cX0_locked 99 = .ok (.lload 6, 2) := dk_22 6 (dk_at dksX0_locked_4 3 rfl rfl)
theorem dX0_locked_101 : decode cX0_locked 101 = .ok (.invokestatic 34, 3) := dk_184 0 34 (dk_at dksX0_locked_4 5 rfl rfl)
theorem dX0_locked_104 : decode cX0_locked 104 = .ok (.aload_n 3, 1) := dk_45 (dk_at dksX0_locked_4 8 rfl rfl)
theorem dX0_locked_105 : decode cX0_locked 105 = .ok (.areturn, 1) := dk_176 (dk_at dksX0_locked_4 9 rfl rfl)
abbrev cX0_keys : ByteArray := method_8_code
def yX0_keys : MethodName := ⟨RX0, "keys", "([B)[J"⟩
def dkwX0_keys_5 : List UInt8 := [184, 0, 26, 55, 5, 44, 21, 7, 5, 112, 22, 5, 80, 132, 7, 1, 167, 255, 191, 43, 176]
abbrev dktX0_keys_5 : List UInt8 := dkwX0_keys_5 ++ []
def dkwX0_keys_4 : List UInt8 := [43, 21, 7, 16, 26, 112, 33, 80, 44, 21, 7, 5, 112, 47, 33, 97, 22, 5, 97, 33, 22, 5, 97]
abbrev dktX0_keys_4 : List UInt8 := dkwX0_keys_4 ++ dktX0_keys_5
def dkwX0_keys_3 : List UInt8 := [16, 78, 162, 0, 64, 43, 21, 7, 16, 26, 112, 47, 33, 97, 22, 5, 97, 20, 0, 24, 184, 0, 26, 66]
abbrev dktX0_keys_3 : List UInt8 := dkwX0_keys_3 ++ dktX0_keys_4
def dkwX0_keys_2 : List UInt8 := [21, 7, 43, 21, 7, 4, 100, 47, 20, 0, 22, 97, 80, 132, 7, 1, 167, 255, 232, 3, 54, 7, 21, 7]
abbrev dktX0_keys_2 : List UInt8 := dkwX0_keys_2 ++ dktX0_keys_3
def dkwX0_keys_1 : List UInt8 := [80, 77, 9, 66, 9, 55, 5, 43, 3, 20, 0, 20, 80, 4, 54, 7, 21, 7, 16, 26, 162, 0, 23, 43]
abbrev dktX0_keys_1 : List UInt8 := dkwX0_keys_1 ++ dktX0_keys_2
def dkwX0_keys_0 : List UInt8 := [16, 26, 188, 11, 76, 5, 188, 11, 89, 3, 42, 3, 184, 0, 14, 80, 89, 4, 42, 16, 8, 184, 0, 14]
abbrev dktX0_keys_0 : List UInt8 := dkwX0_keys_0 ++ dktX0_keys_1
theorem dksX0_keys_0 : cX0_keys.data.toList.drop 0 = dktX0_keys_0 := by decide +kernel
theorem dksX0_keys_1 : cX0_keys.data.toList.drop 24 = dktX0_keys_1 := dk_seg dksX0_keys_0 24 rfl rfl
theorem dksX0_keys_2 : cX0_keys.data.toList.drop 48 = dktX0_keys_2 := dk_seg dksX0_keys_1 24 rfl rfl
theorem dksX0_keys_3 : cX0_keys.data.toList.drop 72 = dktX0_keys_3 := dk_seg dksX0_keys_2 24 rfl rfl
theorem dksX0_keys_4 : cX0_keys.data.toList.drop 96 = dktX0_keys_4 := dk_seg dksX0_keys_3 24 rfl rfl
theorem dksX0_keys_5 : cX0_keys.data.toList.drop 119 = dktX0_keys_5 := dk_seg dksX0_keys_4 23 rfl rfl
theorem dX0_keys_0 : decode cX0_keys 0 = .ok (.bipush 26, 2) := dk_16 26 (dk_at dksX0_keys_0 0 rfl rfl)
theorem dX0_keys_2 : decode cX0_keys 2 = .ok (.newarray .long, 2) := dk_188_11 (dk_at dksX0_keys_0 2 rfl rfl)
theorem dX0_keys_4 : decode cX0_keys 4 = .ok (.astore_n 1, 1) := dk_76 (dk_at dksX0_keys_0 4 rfl rfl)
theorem dX0_keys_5 : decode cX0_keys 5 = .ok (.iconst 2, 1) := dk_5 (dk_at dksX0_keys_0 5 rfl rfl)
theorem dX0_keys_6 : decode cX0_keys 6 = .ok (.newarray .long, 2) := dk_188_11 (dk_at dksX0_keys_0 6 rfl rfl)
theorem dX0_keys_8 : decode cX0_keys 8 = .ok (.dup, 1) := dk_89 (dk_at dksX0_keys_0 8 rfl rfl)
theorem dX0_keys_9 : decode cX0_keys 9 = .ok (.iconst 0, 1) := dk_3 (dk_at dksX0_keys_0 9 rfl rfl)
theorem dX0_keys_10 : decode cX0_keys 10 = .ok (.aload_n 0, 1) := dk_42 (dk_at dksX0_keys_0 10 rfl rfl)
theorem dX0_keys_11 : decode cX0_keys 11 = .ok (.iconst 0, 1) := dk_3 (dk_at dksX0_keys_0 11 rfl rfl)
theorem dX0_keys_12 : decode cX0_keys 12 = .ok (.invokestatic 14, 3) := dk_184 0 14 (dk_at dksX0_keys_0 12 rfl rfl)
theorem dX0_keys_15 : decode cX0_keys 15 = .ok (.lastore, 1) := dk_80 (dk_at dksX0_keys_0 15 rfl rfl)
theorem dX0_keys_16 : decode cX0_keys 16 = .ok (.dup, 1) := dk_89 (dk_at dksX0_keys_0 16 rfl rfl)
theorem dX0_keys_17 : decode cX0_keys 17 = .ok (.iconst 1, 1) := dk_4 (dk_at dksX0_keys_0 17 rfl rfl)
theorem dX0_keys_18 : decode cX0_keys 18 = .ok (.aload_n 0, 1) := dk_42 (dk_at dksX0_keys_0 18 rfl rfl)
theorem dX0_keys_19 : decode cX0_keys 19 = .ok (.bipush 8, 2) := dk_16 8 (dk_at dksX0_keys_0 19 rfl rfl)
theorem dX0_keys_21 : decode cX0_keys 21 = .ok (.invokestatic 14, 3) := dk_184 0 14 (dk_at dksX0_keys_0 21 rfl rfl)
theorem dX0_keys_24 : decode cX0_keys 24 = .ok (.lastore, 1) := dk_80 (dk_at dksX0_keys_1 0 rfl rfl)
theorem dX0_keys_25 : decode cX0_keys 25 = .ok (.astore_n 2, 1) := dk_77 (dk_at dksX0_keys_1 1 rfl rfl)
theorem dX0_keys_26 : decode cX0_keys 26 = .ok (.lconst 0, 1) := dk_9 (dk_at dksX0_keys_1 2 rfl rfl)
theorem dX0_keys_27 : decode cX0_keys 27 = .ok (.lstore_n 3, 1) := dk_66 (dk_at dksX0_keys_1 3 rfl rfl)
theorem dX0_keys_28 : decode cX0_keys 28 = .ok (.lconst 0, 1) := dk_9 (dk_at dksX0_keys_1 4 rfl rfl)
theorem dX0_keys_29 : decode cX0_keys 29 = .ok (.lstore 5, 2) := dk_55 5 (dk_at dksX0_keys_1 5 rfl rfl)
theorem dX0_keys_31 : decode cX0_keys 31 = .ok (.aload_n 1, 1) := dk_43 (dk_at dksX0_keys_1 7 rfl rfl)
theorem dX0_keys_32 : decode cX0_keys 32 = .ok (.iconst 0, 1) := dk_3 (dk_at dksX0_keys_1 8 rfl rfl)
theorem dX0_keys_33 : decode cX0_keys 33 = .ok (.ldc2_w 20, 3) := dk_20 0 20 (dk_at dksX0_keys_1 9 rfl rfl)
theorem dX0_keys_36 : decode cX0_keys 36 = .ok (.lastore, 1) := dk_80 (dk_at dksX0_keys_1 12 rfl rfl)
theorem dX0_keys_37 : decode cX0_keys 37 = .ok (.iconst 1, 1) := dk_4 (dk_at dksX0_keys_1 13 rfl rfl)
theorem dX0_keys_38 : decode cX0_keys 38 = .ok (.istore 7, 2) := dk_54 7 (dk_at dksX0_keys_1 14 rfl rfl)
theorem dX0_keys_40 : decode cX0_keys 40 = .ok (.iload 7, 2) := dk_21 7 (dk_at dksX0_keys_1 16 rfl rfl)
theorem dX0_keys_42 : decode cX0_keys 42 = .ok (.bipush 26, 2) := dk_16 26 (dk_at dksX0_keys_1 18 rfl rfl)
theorem dX0_keys_44 : decode cX0_keys 44 = .ok (.if_icmp .ge 23, 3) := dk_162 0 23 (dk_at dksX0_keys_1 20 rfl rfl)
theorem dX0_keys_47 : decode cX0_keys 47 = .ok (.aload_n 1, 1) := dk_43 (dk_at dksX0_keys_1 23 rfl rfl)
theorem dX0_keys_48 : decode cX0_keys 48 = .ok (.iload 7, 2) := dk_21 7 (dk_at dksX0_keys_2 0 rfl rfl)
theorem dX0_keys_50 : decode cX0_keys 50 = .ok (.aload_n 1, 1) := dk_43 (dk_at dksX0_keys_2 2 rfl rfl)
theorem dX0_keys_51 : decode cX0_keys 51 = .ok (.iload 7, 2) := dk_21 7 (dk_at dksX0_keys_2 3 rfl rfl)
theorem dX0_keys_53 : decode cX0_keys 53 = .ok (.iconst 1, 1) := dk_4 (dk_at dksX0_keys_2 5 rfl rfl)
theorem dX0_keys_54 : decode cX0_keys 54 = .ok (.isub, 1) := dk_100 (dk_at dksX0_keys_2 6 rfl rfl)
theorem dX0_keys_55 : decode cX0_keys 55 = .ok (.laload, 1) := dk_47 (dk_at dksX0_keys_2 7 rfl rfl)
theorem dX0_keys_56 : decode cX0_keys 56 = .ok (.ldc2_w 22, 3) := dk_20 0 22 (dk_at dksX0_keys_2 8 rfl rfl)
theorem dX0_keys_59 : decode cX0_keys 59 = .ok (.ladd, 1) := dk_97 (dk_at dksX0_keys_2 11 rfl rfl)
theorem dX0_keys_60 : decode cX0_keys 60 = .ok (.lastore, 1) := dk_80 (dk_at dksX0_keys_2 12 rfl rfl)
theorem dX0_keys_61 : decode cX0_keys 61 = .ok (.iinc 7 1, 3) := dk_132 7 1 (dk_at dksX0_keys_2 13 rfl rfl)
theorem dX0_keys_64 : decode cX0_keys 64 = .ok (.goto (-24), 3) := dk_167 255 232 (dk_at dksX0_keys_2 16 rfl rfl)
theorem dX0_keys_67 : decode cX0_keys 67 = .ok (.iconst 0, 1) := dk_3 (dk_at dksX0_keys_2 19 rfl rfl)
theorem dX0_keys_68 : decode cX0_keys 68 = .ok (.istore 7, 2) := dk_54 7 (dk_at dksX0_keys_2 20 rfl rfl)
theorem dX0_keys_70 : decode cX0_keys 70 = .ok (.iload 7, 2) := dk_21 7 (dk_at dksX0_keys_2 22 rfl rfl)
theorem dX0_keys_72 : decode cX0_keys 72 = .ok (.bipush 78, 2) := dk_16 78 (dk_at dksX0_keys_3 0 rfl rfl)
theorem dX0_keys_74 : decode cX0_keys 74 = .ok (.if_icmp .ge 64, 3) := dk_162 0 64 (dk_at dksX0_keys_3 2 rfl rfl)
theorem dX0_keys_77 : decode cX0_keys 77 = .ok (.aload_n 1, 1) := dk_43 (dk_at dksX0_keys_3 5 rfl rfl)
theorem dX0_keys_78 : decode cX0_keys 78 = .ok (.iload 7, 2) := dk_21 7 (dk_at dksX0_keys_3 6 rfl rfl)
theorem dX0_keys_80 : decode cX0_keys 80 = .ok (.bipush 26, 2) := dk_16 26 (dk_at dksX0_keys_3 8 rfl rfl)
theorem dX0_keys_82 : decode cX0_keys 82 = .ok (.irem, 1) := dk_112 (dk_at dksX0_keys_3 10 rfl rfl)
theorem dX0_keys_83 : decode cX0_keys 83 = .ok (.laload, 1) := dk_47 (dk_at dksX0_keys_3 11 rfl rfl)
theorem dX0_keys_84 : decode cX0_keys 84 = .ok (.lload_n 3, 1) := dk_33 (dk_at dksX0_keys_3 12 rfl rfl)
theorem dX0_keys_85 : decode cX0_keys 85 = .ok (.ladd, 1) := dk_97 (dk_at dksX0_keys_3 13 rfl rfl)
theorem dX0_keys_86 : decode cX0_keys 86 = .ok (.lload 5, 2) := dk_22 5 (dk_at dksX0_keys_3 14 rfl rfl)
theorem dX0_keys_88 : decode cX0_keys 88 = .ok (.ladd, 1) := dk_97 (dk_at dksX0_keys_3 16 rfl rfl)
theorem dX0_keys_89 : decode cX0_keys 89 = .ok (.ldc2_w 24, 3) := dk_20 0 24 (dk_at dksX0_keys_3 17 rfl rfl)
theorem dX0_keys_92 : decode cX0_keys 92 = .ok (.invokestatic 26, 3) := dk_184 0 26 (dk_at dksX0_keys_3 20 rfl rfl)
theorem dX0_keys_95 : decode cX0_keys 95 = .ok (.lstore_n 3, 1) := dk_66 (dk_at dksX0_keys_3 23 rfl rfl)
theorem dX0_keys_96 : decode cX0_keys 96 = .ok (.aload_n 1, 1) := dk_43 (dk_at dksX0_keys_4 0 rfl rfl)
theorem dX0_keys_97 : decode cX0_keys 97 = .ok (.iload 7, 2) := dk_21 7 (dk_at dksX0_keys_4 1 rfl rfl)
theorem dX0_keys_99 : decode cX0_keys 99 = .ok (.bipush 26, 2) := dk_16 26 (dk_at dksX0_keys_4 3 rfl rfl)
theorem dX0_keys_101 : decode cX0_keys 101 = .ok (.irem, 1) := dk_112 (dk_at dksX0_keys_4 5 rfl rfl)
theorem dX0_keys_102 : decode cX0_keys 102 = .ok (.lload_n 3, 1) := dk_33 (dk_at dksX0_keys_4 6 rfl rfl)
theorem dX0_keys_103 : decode cX0_keys 103 = .ok (.lastore, 1) := dk_80 (dk_at dksX0_keys_4 7 rfl rfl)
theorem dX0_keys_104 : decode cX0_keys 104 = .ok (.aload_n 2, 1) := dk_44 (dk_at dksX0_keys_4 8 rfl rfl)
theorem dX0_keys_105 : decode cX0_keys 105 = .ok (.iload 7, 2) := dk_21 7 (dk_at dksX0_keys_4 9 rfl rfl)
theorem dX0_keys_107 : decode cX0_keys 107 = .ok (.iconst 2, 1) := dk_5 (dk_at dksX0_keys_4 11 rfl rfl)
theorem dX0_keys_108 : decode cX0_keys 108 = .ok (.irem, 1) := dk_112 (dk_at dksX0_keys_4 12 rfl rfl)
theorem dX0_keys_109 : decode cX0_keys 109 = .ok (.laload, 1) := dk_47 (dk_at dksX0_keys_4 13 rfl rfl)
theorem dX0_keys_110 : decode cX0_keys 110 = .ok (.lload_n 3, 1) := dk_33 (dk_at dksX0_keys_4 14 rfl rfl)
theorem dX0_keys_111 : decode cX0_keys 111 = .ok (.ladd, 1) := dk_97 (dk_at dksX0_keys_4 15 rfl rfl)
theorem dX0_keys_112 : decode cX0_keys 112 = .ok (.lload 5, 2) := dk_22 5 (dk_at dksX0_keys_4 16 rfl rfl)
theorem dX0_keys_114 : decode cX0_keys 114 = .ok (.ladd, 1) := dk_97 (dk_at dksX0_keys_4 18 rfl rfl)
theorem dX0_keys_115 : decode cX0_keys 115 = .ok (.lload_n 3, 1) := dk_33 (dk_at dksX0_keys_4 19 rfl rfl)
theorem dX0_keys_116 : decode cX0_keys 116 = .ok (.lload 5, 2) := dk_22 5 (dk_at dksX0_keys_4 20 rfl rfl)
theorem dX0_keys_118 : decode cX0_keys 118 = .ok (.ladd, 1) := dk_97 (dk_at dksX0_keys_4 22 rfl rfl)
theorem dX0_keys_119 : decode cX0_keys 119 = .ok (.invokestatic 26, 3) := dk_184 0 26 (dk_at dksX0_keys_5 0 rfl rfl)
theorem dX0_keys_122 : decode cX0_keys 122 = .ok (.lstore 5, 2) := dk_55 5 (dk_at dksX0_keys_5 3 rfl rfl)
theorem dX0_keys_124 : decode cX0_keys 124 = .ok (.aload_n 2, 1) := dk_44 (dk_at dksX0_keys_5 5 rfl rfl)
theorem dX0_keys_125 : decode cX0_keys 125 = .ok (.iload 7, 2) := dk_21 7 (dk_at dksX0_keys_5 6 rfl rfl)
theorem dX0_keys_127 : decode cX0_keys 127 = .ok (.iconst 2, 1) := dk_5 (dk_at dksX0_keys_5 8 rfl rfl)
theorem dX0_keys_128 : decode cX0_keys 128 = .ok (.irem, 1) := dk_112 (dk_at dksX0_keys_5 9 rfl rfl)
theorem dX0_keys_129 : decode cX0_keys 129 = .ok (.lload 5, 2) := dk_22 5 (dk_at dksX0_keys_5 10 rfl rfl)
theorem dX0_keys_131 : decode cX0_keys 131 = .ok (.lastore, 1) := dk_80 (dk_at dksX0_keys_5 12 rfl rfl)
theorem dX0_keys_132 : decode cX0_keys 132 = .ok (.iinc 7 1, 3) := dk_132 7 1 (dk_at dksX0_keys_5 13 rfl rfl)
theorem dX0_keys_135 : decode cX0_keys 135 = .ok (.goto (-65), 3) := dk_167 255 191 (dk_at dksX0_keys_5 16 rfl rfl)
theorem dX0_keys_138 : decode cX0_keys 138 = .ok (.aload_n 1, 1) := dk_43 (dk_at dksX0_keys_5 19 rfl rfl)
theorem dX0_keys_139 : decode cX0_keys 139 = .ok (.areturn, 1) := dk_176 (dk_at dksX0_keys_5 20 rfl rfl)
abbrev cX0_word : ByteArray := method_5_code
def yX0_word : MethodName := ⟨RX0, "word", "([BI)J"⟩
def dkwX0_word_1 : List UInt8 := [16, 8, 21, 4, 104, 121, 129, 65, 132, 4, 1, 167, 255, 226, 32, 173]
abbrev dktX0_word_1 : List UInt8 := dkwX0_word_1 ++ []
def dkwX0_word_0 : List UInt8 := [9, 65, 3, 54, 4, 21, 4, 16, 8, 162, 0, 29, 32, 42, 27, 21, 4, 96, 51, 133, 20, 0, 8, 127]
abbrev dktX0_word_0 : List UInt8 := dkwX0_word_0 ++ dktX0_word_1
theorem dksX0_word_0 : cX0_word.data.toList.drop 0 = dktX0_word_0 := by decide +kernel
theorem dksX0_word_1 : cX0_word.data.toList.drop 24 = dktX0_word_1 := dk_seg dksX0_word_0 24 rfl rfl
theorem dX0_word_0 : decode cX0_word 0 = .ok (.lconst 0, 1) := dk_9 (dk_at dksX0_word_0 0 rfl rfl)
theorem dX0_word_1 : decode cX0_word 1 = .ok (.lstore_n 2, 1) := dk_65 (dk_at dksX0_word_0 1 rfl rfl)
theorem dX0_word_2 : decode cX0_word 2 = .ok (.iconst 0, 1) := dk_3 (dk_at dksX0_word_0 2 rfl rfl)
theorem dX0_word_3 : decode cX0_word 3 = .ok (.istore 4, 2) := dk_54 4 (dk_at dksX0_word_0 3 rfl rfl)
theorem dX0_word_5 : decode cX0_word 5 = .ok (.iload 4, 2) := dk_21 4 (dk_at dksX0_word_0 5 rfl rfl)
theorem dX0_word_7 : decode cX0_word 7 = .ok (.bipush 8, 2) := dk_16 8 (dk_at dksX0_word_0 7 rfl rfl)
theorem dX0_word_9 : decode cX0_word 9 = .ok (.if_icmp .ge 29, 3) := dk_162 0 29 (dk_at dksX0_word_0 9 rfl rfl)
theorem dX0_word_12 : decode cX0_word 12 = .ok (.lload_n 2, 1) := dk_32 (dk_at dksX0_word_0 12 rfl rfl)
theorem dX0_word_13 : decode cX0_word 13 = .ok (.aload_n 0, 1) := dk_42 (dk_at dksX0_word_0 13 rfl rfl)
theorem dX0_word_14 : decode cX0_word 14 = .ok (.iload_n 1, 1) := dk_27 (dk_at dksX0_word_0 14 rfl rfl)
theorem dX0_word_15 : decode cX0_word 15 = .ok (.iload 4, 2) := dk_21 4 (dk_at dksX0_word_0 15 rfl rfl)
theorem dX0_word_17 : decode cX0_word 17 = .ok (.iadd, 1) := dk_96 (dk_at dksX0_word_0 17 rfl rfl)
theorem dX0_word_18 : decode cX0_word 18 = .ok (.baload, 1) := dk_51 (dk_at dksX0_word_0 18 rfl rfl)
theorem dX0_word_19 : decode cX0_word 19 = .ok (.i2l, 1) := dk_133 (dk_at dksX0_word_0 19 rfl rfl)
theorem dX0_word_20 : decode cX0_word 20 = .ok (.ldc2_w 8, 3) := dk_20 0 8 (dk_at dksX0_word_0 20 rfl rfl)
theorem dX0_word_23 : decode cX0_word 23 = .ok (.land, 1) := dk_127 (dk_at dksX0_word_0 23 rfl rfl)
theorem dX0_word_24 : decode cX0_word 24 = .ok (.bipush 8, 2) := dk_16 8 (dk_at dksX0_word_1 0 rfl rfl)
theorem dX0_word_26 : decode cX0_word 26 = .ok (.iload 4, 2) := dk_21 4 (dk_at dksX0_word_1 2 rfl rfl)
theorem dX0_word_28 : decode cX0_word 28 = .ok (.imul, 1) := dk_104 (dk_at dksX0_word_1 4 rfl rfl)
theorem dX0_word_29 : decode cX0_word 29 = .ok (.lshl, 1) := dk_121 (dk_at dksX0_word_1 5 rfl rfl)
theorem dX0_word_30 : decode cX0_word 30 = .ok (.lor, 1) := dk_129 (dk_at dksX0_word_1 6 rfl rfl)
theorem dX0_word_31 : decode cX0_word 31 = .ok (.lstore_n 2, 1) := dk_65 (dk_at dksX0_word_1 7 rfl rfl)
theorem dX0_word_32 : decode cX0_word 32 = .ok (.iinc 4 1, 3) := dk_132 4 1 (dk_at dksX0_word_1 8 rfl rfl)
theorem dX0_word_35 : decode cX0_word 35 = .ok (.goto (-30), 3) := dk_167 255 226 (dk_at dksX0_word_1 11 rfl rfl)
theorem dX0_word_38 : decode cX0_word 38 = .ok (.lload_n 2, 1) := dk_32 (dk_at dksX0_word_1 14 rfl rfl)
theorem dX0_word_39 : decode cX0_word 39 = .ok (.lreturn, 1) := dk_173 (dk_at dksX0_word_1 15 rfl rfl)
abbrev cX0_left : ByteArray := method_7_code
def yX0_left : MethodName := ⟨RX0, "left", "(JJ)J"⟩
def dkwX0_left_0 : List UInt8 := [30, 32, 20, 0, 10, 127, 136, 121, 30, 20, 0, 12, 32, 101, 20, 0, 10, 127, 136, 125, 129, 173]
abbrev dktX0_left_0 : List UInt8 := dkwX0_left_0 ++ []
theorem dksX0_left_0 : cX0_left.data.toList.drop 0 = dktX0_left_0 := by decide +kernel
theorem dX0_left_0 : decode cX0_left 0 = .ok (.lload_n 0, 1) := dk_30 (dk_at dksX0_left_0 0 rfl rfl)
theorem dX0_left_1 : decode cX0_left 1 = .ok (.lload_n 2, 1) := dk_32 (dk_at dksX0_left_0 1 rfl rfl)
theorem dX0_left_2 : decode cX0_left 2 = .ok (.ldc2_w 10, 3) := dk_20 0 10 (dk_at dksX0_left_0 2 rfl rfl)
theorem dX0_left_5 : decode cX0_left 5 = .ok (.land, 1) := dk_127 (dk_at dksX0_left_0 5 rfl rfl)
theorem dX0_left_6 : decode cX0_left 6 = .ok (.l2i, 1) := dk_136 (dk_at dksX0_left_0 6 rfl rfl)
theorem dX0_left_7 : decode cX0_left 7 = .ok (.lshl, 1) := dk_121 (dk_at dksX0_left_0 7 rfl rfl)
theorem dX0_left_8 : decode cX0_left 8 = .ok (.lload_n 0, 1) := dk_30 (dk_at dksX0_left_0 8 rfl rfl)
theorem dX0_left_9 : decode cX0_left 9 = .ok (.ldc2_w 12, 3) := dk_20 0 12 (dk_at dksX0_left_0 9 rfl rfl)
theorem dX0_left_12 : decode cX0_left 12 = .ok (.lload_n 2, 1) := dk_32 (dk_at dksX0_left_0 12 rfl rfl)
theorem dX0_left_13 : decode cX0_left 13 = .ok (.lsub, 1) := dk_101 (dk_at dksX0_left_0 13 rfl rfl)
theorem dX0_left_14 : decode cX0_left 14 = .ok (.ldc2_w 10, 3) := dk_20 0 10 (dk_at dksX0_left_0 14 rfl rfl)
theorem dX0_left_17 : decode cX0_left 17 = .ok (.land, 1) := dk_127 (dk_at dksX0_left_0 17 rfl rfl)
theorem dX0_left_18 : decode cX0_left 18 = .ok (.l2i, 1) := dk_136 (dk_at dksX0_left_0 18 rfl rfl)
theorem dX0_left_19 : decode cX0_left 19 = .ok (.lushr, 1) := dk_125 (dk_at dksX0_left_0 19 rfl rfl)
theorem dX0_left_20 : decode cX0_left 20 = .ok (.lor, 1) := dk_129 (dk_at dksX0_left_0 20 rfl rfl)
theorem dX0_left_21 : decode cX0_left 21 = .ok (.lreturn, 1) := dk_173 (dk_at dksX0_left_0 21 rfl rfl)
abbrev cX0_put : ByteArray := method_6_code
def yX0_put : MethodName := ⟨RX0, "put", "([BIJ)V"⟩
def dkwX0_put_1 : List UInt8 := [84, 132, 4, 1, 167, 255, 231, 177]
abbrev dktX0_put_1 : List UInt8 := dkwX0_put_1 ++ []
def dkwX0_put_0 : List UInt8 := [3, 54, 4, 21, 4, 16, 8, 162, 0, 24, 42, 27, 21, 4, 96, 32, 16, 8, 21, 4, 104, 125, 136, 145]
abbrev dktX0_put_0 : List UInt8 := dkwX0_put_0 ++ dktX0_put_1
theorem dksX0_put_0 : cX0_put.data.toList.drop 0 = dktX0_put_0 := by decide +kernel
theorem dksX0_put_1 : cX0_put.data.toList.drop 24 = dktX0_put_1 := dk_seg dksX0_put_0 24 rfl rfl
theorem dX0_put_0 : decode cX0_put 0 = .ok (.iconst 0, 1) := dk_3 (dk_at dksX0_put_0 0 rfl rfl)
theorem dX0_put_1 : decode cX0_put 1 = .ok (.istore 4, 2) := dk_54 4 (dk_at dksX0_put_0 1 rfl rfl)
theorem dX0_put_3 : decode cX0_put 3 = .ok (.iload 4, 2) := dk_21 4 (dk_at dksX0_put_0 3 rfl rfl)
theorem dX0_put_5 : decode cX0_put 5 = .ok (.bipush 8, 2) := dk_16 8 (dk_at dksX0_put_0 5 rfl rfl)
theorem dX0_put_7 : decode cX0_put 7 = .ok (.if_icmp .ge 24, 3) := dk_162 0 24 (dk_at dksX0_put_0 7 rfl rfl)
theorem dX0_put_10 : decode cX0_put 10 = .ok (.aload_n 0, 1) := dk_42 (dk_at dksX0_put_0 10 rfl rfl)
theorem dX0_put_11 : decode cX0_put 11 = .ok (.iload_n 1, 1) := dk_27 (dk_at dksX0_put_0 11 rfl rfl)
theorem dX0_put_12 : decode cX0_put 12 = .ok (.iload 4, 2) := dk_21 4 (dk_at dksX0_put_0 12 rfl rfl)
theorem dX0_put_14 : decode cX0_put 14 = .ok (.iadd, 1) := dk_96 (dk_at dksX0_put_0 14 rfl rfl)
theorem dX0_put_15 : decode cX0_put 15 = .ok (.lload_n 2, 1) := dk_32 (dk_at dksX0_put_0 15 rfl rfl)
theorem dX0_put_16 : decode cX0_put 16 = .ok (.bipush 8, 2) := dk_16 8 (dk_at dksX0_put_0 16 rfl rfl)
theorem dX0_put_18 : decode cX0_put 18 = .ok (.iload 4, 2) := dk_21 4 (dk_at dksX0_put_0 18 rfl rfl)
theorem dX0_put_20 : decode cX0_put 20 = .ok (.imul, 1) := dk_104 (dk_at dksX0_put_0 20 rfl rfl)
theorem dX0_put_21 : decode cX0_put 21 = .ok (.lushr, 1) := dk_125 (dk_at dksX0_put_0 21 rfl rfl)
theorem dX0_put_22 : decode cX0_put 22 = .ok (.l2i, 1) := dk_136 (dk_at dksX0_put_0 22 rfl rfl)
theorem dX0_put_23 : decode cX0_put 23 = .ok (.i2b, 1) := dk_145 (dk_at dksX0_put_0 23 rfl rfl)
theorem dX0_put_24 : decode cX0_put 24 = .ok (.bastore, 1) := dk_84 (dk_at dksX0_put_1 0 rfl rfl)
theorem dX0_put_25 : decode cX0_put 25 = .ok (.iinc 4 1, 3) := dk_132 4 1 (dk_at dksX0_put_1 1 rfl rfl)
theorem dX0_put_28 : decode cX0_put 28 = .ok (.goto (-25), 3) := dk_167 255 231 (dk_at dksX0_put_1 4 rfl rfl)
theorem dX0_put_31 : decode cX0_put 31 = .ok (.return_, 1) := dk_177 (dk_at dksX0_put_1 7 rfl rfl)
abbrev cX0_opened : ByteArray := method_10_code
def yX0_opened : MethodName := ⟨RX0, "opened", "([B[B)[B"⟩
def dkwX0_opened_4 : List UInt8 := [16, 8, 22, 6, 44, 4, 47, 101, 184, 0, 34, 45, 176]
abbrev dktX0_opened_4 : List UInt8 := dkwX0_opened_4 ++ []
def dkwX0_opened_3 : List UInt8 := [22, 6, 131, 55, 4, 132, 8, 255, 167, 255, 206, 45, 3, 22, 4, 44, 3, 47, 101, 184, 0, 34, 45]
abbrev dktX0_opened_3 : List UInt8 := dkwX0_opened_3 ++ dktX0_opened_4
def dkwX0_opened_2 : List UInt8 := [117, 184, 0, 26, 22, 4, 131, 55, 6, 22, 4, 44, 5, 21, 8, 104, 47, 101, 22, 6, 117, 184, 0, 26]
abbrev dktX0_opened_2 : List UInt8 := dkwX0_opened_2 ++ dktX0_opened_3
def dkwX0_opened_1 : List UInt8 := [55, 6, 16, 12, 54, 8, 21, 8, 158, 0, 51, 22, 6, 44, 5, 21, 8, 104, 4, 96, 47, 101, 22, 4]
abbrev dktX0_opened_1 : List UInt8 := dkwX0_opened_1 ++ dktX0_opened_2
def dkwX0_opened_0 : List UInt8 := [42, 184, 0, 30, 77, 16, 16, 188, 8, 78, 43, 3, 184, 0, 14, 55, 4, 43, 16, 8, 184, 0, 14]
abbrev dktX0_opened_0 : List UInt8 := dkwX0_opened_0 ++ dktX0_opened_1
theorem dksX0_opened_0 : cX0_opened.data.toList.drop 0 = dktX0_opened_0 := by decide +kernel
theorem dksX0_opened_1 : cX0_opened.data.toList.drop 23 = dktX0_opened_1 := dk_seg dksX0_opened_0 23 rfl rfl
theorem dksX0_opened_2 : cX0_opened.data.toList.drop 47 = dktX0_opened_2 := dk_seg dksX0_opened_1 24 rfl rfl
theorem dksX0_opened_3 : cX0_opened.data.toList.drop 71 = dktX0_opened_3 := dk_seg dksX0_opened_2 24 rfl rfl
theorem dksX0_opened_4 : cX0_opened.data.toList.drop 94 = dktX0_opened_4 := dk_seg dksX0_opened_3 23 rfl rfl
theorem dX0_opened_0 : decode cX0_opened 0 = .ok (.aload_n 0, 1) := dk_42 (dk_at dksX0_opened_0 0 rfl rfl)
theorem dX0_opened_1 : decode cX0_opened 1 = .ok (.invokestatic 30, 3) := dk_184 0 30 (dk_at dksX0_opened_0 1 rfl rfl)
theorem dX0_opened_4 : decode cX0_opened 4 = .ok (.astore_n 2, 1) := dk_77 (dk_at dksX0_opened_0 4 rfl rfl)
theorem dX0_opened_5 : decode cX0_opened 5 = .ok (.bipush 16, 2) := dk_16 16 (dk_at dksX0_opened_0 5 rfl rfl)
theorem dX0_opened_7 : decode cX0_opened 7 = .ok (.newarray .byte, 2) := dk_188_8 (dk_at dksX0_opened_0 7 rfl rfl)
theorem dX0_opened_9 : decode cX0_opened 9 = .ok (.astore_n 3, 1) := dk_78 (dk_at dksX0_opened_0 9 rfl rfl)
theorem dX0_opened_10 : decode cX0_opened 10 = .ok (.aload_n 1, 1) := dk_43 (dk_at dksX0_opened_0 10 rfl rfl)
theorem dX0_opened_11 : decode cX0_opened 11 = .ok (.iconst 0, 1) := dk_3 (dk_at dksX0_opened_0 11 rfl rfl)
theorem dX0_opened_12 : decode cX0_opened 12 = .ok (.invokestatic 14, 3) := dk_184 0 14 (dk_at dksX0_opened_0 12 rfl rfl)
theorem dX0_opened_15 : decode cX0_opened 15 = .ok (.lstore 4, 2) := dk_55 4 (dk_at dksX0_opened_0 15 rfl rfl)
theorem dX0_opened_17 : decode cX0_opened 17 = .ok (.aload_n 1, 1) := dk_43 (dk_at dksX0_opened_0 17 rfl rfl)
theorem dX0_opened_18 : decode cX0_opened 18 = .ok (.bipush 8, 2) := dk_16 8 (dk_at dksX0_opened_0 18 rfl rfl)
theorem dX0_opened_20 : decode cX0_opened 20 = .ok (.invokestatic 14, 3) := dk_184 0 14 (dk_at dksX0_opened_0 20 rfl rfl)
theorem dX0_opened_23 : decode cX0_opened 23 = .ok (.lstore 6, 2) := dk_55 6 (dk_at dksX0_opened_1 0 rfl rfl)
theorem dX0_opened_25 : decode cX0_opened 25 = .ok (.bipush 12, 2) := dk_16 12 (dk_at dksX0_opened_1 2 rfl rfl)
theorem dX0_opened_27 : decode cX0_opened 27 = .ok (.istore 8, 2) := dk_54 8 (dk_at dksX0_opened_1 4 rfl rfl)
theorem dX0_opened_29 : decode cX0_opened 29 = .ok (.iload 8, 2) := dk_21 8 (dk_at dksX0_opened_1 6 rfl rfl)
theorem dX0_opened_31 : decode cX0_opened 31 = .ok (.ifCond .le 51, 3) := dk_158 0 51 (dk_at dksX0_opened_1 8 rfl rfl)
theorem dX0_opened_34 : decode cX0_opened 34 = .ok (.lload 6, 2) := dk_22 6 (dk_at dksX0_opened_1 11 rfl rfl)
theorem dX0_opened_36 : decode cX0_opened 36 = .ok (.aload_n 2, 1) := dk_44 (dk_at dksX0_opened_1 13 rfl rfl)
theorem dX0_opened_37 : decode cX0_opened 37 = .ok (.iconst 2, 1) := dk_5 (dk_at dksX0_opened_1 14 rfl rfl)
theorem dX0_opened_38 : decode cX0_opened 38 = .ok (.iload 8, 2) := dk_21 8 (dk_at dksX0_opened_1 15 rfl rfl)
theorem dX0_opened_40 : decode cX0_opened 40 = .ok (.imul, 1) := dk_104 (dk_at dksX0_opened_1 17 rfl rfl)
theorem dX0_opened_41 : decode cX0_opened 41 = .ok (.iconst 1, 1) := dk_4 (dk_at dksX0_opened_1 18 rfl rfl)
theorem dX0_opened_42 : decode cX0_opened 42 = .ok (.iadd, 1) := dk_96 (dk_at dksX0_opened_1 19 rfl rfl)
theorem dX0_opened_43 : decode cX0_opened 43 = .ok (.laload, 1) := dk_47 (dk_at dksX0_opened_1 20 rfl rfl)
theorem dX0_opened_44 : decode cX0_opened 44 = .ok (.lsub, 1) := dk_101 (dk_at dksX0_opened_1 21 rfl rfl)
theorem dX0_opened_45 : decode cX0_opened 45 = .ok (.lload 4, 2) := dk_22 4 (dk_at dksX0_opened_1 22 rfl rfl)
theorem dX0_opened_47 : decode cX0_opened 47 = .ok (.lneg, 1) := dk_117 (dk_at dksX0_opened_2 0 rfl rfl)
theorem dX0_opened_48 : decode cX0_opened 48 = .ok (.invokestatic 26, 3) := dk_184 0 26 (dk_at dksX0_opened_2 1 rfl rfl)
theorem dX0_opened_51 : decode cX0_opened 51 = .ok (.lload 4, 2) := dk_22 4 (dk_at dksX0_opened_2 4 rfl rfl)
theorem dX0_opened_53 : decode cX0_opened 53 = .ok (.lxor, 1) := dk_131 (dk_at dksX0_opened_2 6 rfl rfl)
theorem dX0_opened_54 : decode cX0_opened 54 = .ok (.lstore 6, 2) := dk_55 6 (dk_at dksX0_opened_2 7 rfl rfl)
theorem dX0_opened_56 : decode cX0_opened 56 = .ok (.lload 4, 2) := dk_22 4 (dk_at dksX0_opened_2 9 rfl rfl)
theorem dX0_opened_58 : decode cX0_opened 58 = .ok (.aload_n 2, 1) := dk_44 (dk_at dksX0_opened_2 11 rfl rfl)
theorem dX0_opened_59 : decode cX0_opened 59 = .ok (.iconst 2, 1) := dk_5 (dk_at dksX0_opened_2 12 rfl rfl)
theorem dX0_opened_60 : decode cX0_opened 60 = .ok (.iload 8, 2) := dk_21 8 (dk_at dksX0_opened_2 13 rfl rfl)
theorem dX0_opened_62 : decode cX0_opened 62 = .ok (.imul, 1) := dk_104 (dk_at dksX0_opened_2 15 rfl rfl)
theorem dX0_opened_63 : decode cX0_opened 63 = .ok (.laload, 1) := dk_47 (dk_at dksX0_opened_2 16 rfl rfl)
theorem dX0_opened_64 : decode cX0_opened 64 = .ok (.lsub, 1) := dk_101 (dk_at dksX0_opened_2 17 rfl rfl)
theorem dX0_opened_65 : decode cX0_opened 65 = .ok (.lload 6, 2) := dk_22 6 (dk_at dksX0_opened_2 18 rfl rfl)
theorem dX0_opened_67 : decode cX0_opened 67 = .ok (.lneg, 1) := dk_117 (dk_at dksX0_opened_2 20 rfl rfl)
theorem dX0_opened_68 : decode cX0_opened 68 = .ok (.invokestatic 26, 3) := dk_184 0 26 (dk_at dksX0_opened_2 21 rfl rfl)
theorem dX0_opened_71 : decode cX0_opened 71 = .ok (.lload 6, 2) := dk_22 6 (dk_at dksX0_opened_3 0 rfl rfl)
theorem dX0_opened_73 : decode cX0_opened 73 = .ok (.lxor, 1) := dk_131 (dk_at dksX0_opened_3 2 rfl rfl)
theorem dX0_opened_74 : decode cX0_opened 74 = .ok (.lstore 4, 2) := dk_55 4 (dk_at dksX0_opened_3 3 rfl rfl)
theorem dX0_opened_76 : decode cX0_opened 76 = .ok (.iinc 8 (-1), 3) := dk_132 8 255 (dk_at dksX0_opened_3 5 rfl rfl)
theorem dX0_opened_79 : decode cX0_opened 79 = .ok (.goto (-50), 3) := dk_167 255 206 (dk_at dksX0_opened_3 8 rfl rfl)
theorem dX0_opened_82 : decode cX0_opened 82 = .ok (.aload_n 3, 1) := dk_45 (dk_at dksX0_opened_3 11 rfl rfl)
theorem dX0_opened_83 : decode cX0_opened 83 = .ok (.iconst 0, 1) := dk_3 (dk_at dksX0_opened_3 12 rfl rfl)
theorem dX0_opened_84 : decode cX0_opened 84 = .ok (.lload 4, 2) := dk_22 4 (dk_at dksX0_opened_3 13 rfl rfl)
theorem dX0_opened_86 : decode cX0_opened 86 = .ok (.aload_n 2, 1) := dk_44 (dk_at dksX0_opened_3 15 rfl rfl)
theorem dX0_opened_87 : decode cX0_opened 87 = .ok (.iconst 0, 1) := dk_3 (dk_at dksX0_opened_3 16 rfl rfl)
theorem dX0_opened_88 : decode cX0_opened 88 = .ok (.laload, 1) := dk_47 (dk_at dksX0_opened_3 17 rfl rfl)
theorem dX0_opened_89 : decode cX0_opened 89 = .ok (.lsub, 1) := dk_101 (dk_at dksX0_opened_3 18 rfl rfl)
theorem dX0_opened_90 : decode cX0_opened 90 = .ok (.invokestatic 34, 3) := dk_184 0 34 (dk_at dksX0_opened_3 19 rfl rfl)
theorem dX0_opened_93 : decode cX0_opened 93 = .ok (.aload_n 3, 1) := dk_45 (dk_at dksX0_opened_3 22 rfl rfl)
theorem dX0_opened_94 : decode cX0_opened 94 = .ok (.bipush 8, 2) := dk_16 8 (dk_at dksX0_opened_4 0 rfl rfl)
theorem dX0_opened_96 : decode cX0_opened 96 = .ok (.lload 6, 2) := dk_22 6 (dk_at dksX0_opened_4 2 rfl rfl)
theorem dX0_opened_98 : decode cX0_opened 98 = .ok (.aload_n 2, 1) := dk_44 (dk_at dksX0_opened_4 4 rfl rfl)
theorem dX0_opened_99 : decode cX0_opened 99 = .ok (.iconst 1, 1) := dk_4 (dk_at dksX0_opened_4 5 rfl rfl)
theorem dX0_opened_100 : decode cX0_opened 100 = .ok (.laload, 1) := dk_47 (dk_at dksX0_opened_4 6 rfl rfl)
theorem dX0_opened_101 : decode cX0_opened 101 = .ok (.lsub, 1) := dk_101 (dk_at dksX0_opened_4 7 rfl rfl)
theorem dX0_opened_102 : decode cX0_opened 102 = .ok (.invokestatic 34, 3) := dk_184 0 34 (dk_at dksX0_opened_4 8 rfl rfl)
theorem dX0_opened_105 : decode cX0_opened 105 = .ok (.aload_n 3, 1) := dk_45 (dk_at dksX0_opened_4 11 rfl rfl)
theorem dX0_opened_106 : decode cX0_opened 106 = .ok (.areturn, 1) := dk_176 (dk_at dksX0_opened_4 12 rfl rfl)
abbrev cX0_isOut : ByteArray := method_11_code
def yX0_isOut : MethodName := ⟨RX0, "isOut", "(LRcWideDesk;[BI)Z"⟩
def dkwX0_isOut_2 : List UInt8 := [17, 0, 255, 126, 160, 0, 7, 4, 167, 0, 4, 3, 62, 132, 4, 1, 167, 255, 219, 29, 172]
abbrev dktX0_isOut_2 : List UInt8 := dkwX0_isOut_2 ++ []
def dkwX0_isOut_1 : List UInt8 := [3, 54, 4, 21, 4, 16, 16, 162, 0, 36, 29, 153, 0, 24, 42, 21, 4, 182, 0, 38, 43, 21, 4, 51]
abbrev dktX0_isOut_1 : List UInt8 := dkwX0_isOut_1 ++ dktX0_isOut_2
def dkwX0_isOut_0 : List UInt8 := [42, 28, 182, 0, 38, 43, 28, 16, 15, 126, 51, 17, 0, 255, 126, 160, 0, 7, 4, 167, 0, 4, 3, 62]
abbrev dktX0_isOut_0 : List UInt8 := dkwX0_isOut_0 ++ dktX0_isOut_1
theorem dksX0_isOut_0 : cX0_isOut.data.toList.drop 0 = dktX0_isOut_0 := by decide +kernel
theorem dksX0_isOut_1 : cX0_isOut.data.toList.drop 24 = dktX0_isOut_1 := dk_seg dksX0_isOut_0 24 rfl rfl
theorem dksX0_isOut_2 : cX0_isOut.data.toList.drop 48 = dktX0_isOut_2 := dk_seg dksX0_isOut_1 24 rfl rfl
theorem dX0_isOut_0 : decode cX0_isOut 0 = .ok (.aload_n 0, 1) := dk_42 (dk_at dksX0_isOut_0 0 rfl rfl)
theorem dX0_isOut_1 : decode cX0_isOut 1 = .ok (.iload_n 2, 1) := dk_28 (dk_at dksX0_isOut_0 1 rfl rfl)
theorem dX0_isOut_2 : decode cX0_isOut 2 = .ok (.invokevirtual 38, 3) := dk_182 0 38 (dk_at dksX0_isOut_0 2 rfl rfl)
theorem dX0_isOut_5 : decode cX0_isOut 5 = .ok (.aload_n 1, 1) := dk_43 (dk_at dksX0_isOut_0 5 rfl rfl)
theorem dX0_isOut_6 : decode cX0_isOut 6 = .ok (.iload_n 2, 1) := dk_28 (dk_at dksX0_isOut_0 6 rfl rfl)
theorem dX0_isOut_7 : decode cX0_isOut 7 = .ok (.bipush 15, 2) := dk_16 15 (dk_at dksX0_isOut_0 7 rfl rfl)
theorem dX0_isOut_9 : decode cX0_isOut 9 = .ok (.iand, 1) := dk_126 (dk_at dksX0_isOut_0 9 rfl rfl)
theorem dX0_isOut_10 : decode cX0_isOut 10 = .ok (.baload, 1) := dk_51 (dk_at dksX0_isOut_0 10 rfl rfl)
theorem dX0_isOut_11 : decode cX0_isOut 11 = .ok (.sipush 255, 3) := dk_17 0 255 (dk_at dksX0_isOut_0 11 rfl rfl)
theorem dX0_isOut_14 : decode cX0_isOut 14 = .ok (.iand, 1) := dk_126 (dk_at dksX0_isOut_0 14 rfl rfl)
theorem dX0_isOut_15 : decode cX0_isOut 15 = .ok (.if_icmp .ne 7, 3) := dk_160 0 7 (dk_at dksX0_isOut_0 15 rfl rfl)
theorem dX0_isOut_18 : decode cX0_isOut 18 = .ok (.iconst 1, 1) := dk_4 (dk_at dksX0_isOut_0 18 rfl rfl)
theorem dX0_isOut_19 : decode cX0_isOut 19 = .ok (.goto 4, 3) := dk_167 0 4 (dk_at dksX0_isOut_0 19 rfl rfl)
theorem dX0_isOut_22 : decode cX0_isOut 22 = .ok (.iconst 0, 1) := dk_3 (dk_at dksX0_isOut_0 22 rfl rfl)
theorem dX0_isOut_23 : decode cX0_isOut 23 = .ok (.istore_n 3, 1) := dk_62 (dk_at dksX0_isOut_0 23 rfl rfl)
theorem dX0_isOut_24 : decode cX0_isOut 24 = .ok (.iconst 0, 1) := dk_3 (dk_at dksX0_isOut_1 0 rfl rfl)
theorem dX0_isOut_25 : decode cX0_isOut 25 = .ok (.istore 4, 2) := dk_54 4 (dk_at dksX0_isOut_1 1 rfl rfl)
theorem dX0_isOut_27 : decode cX0_isOut 27 = .ok (.iload 4, 2) := dk_21 4 (dk_at dksX0_isOut_1 3 rfl rfl)
theorem dX0_isOut_29 : decode cX0_isOut 29 = .ok (.bipush 16, 2) := dk_16 16 (dk_at dksX0_isOut_1 5 rfl rfl)
theorem dX0_isOut_31 : decode cX0_isOut 31 = .ok (.if_icmp .ge 36, 3) := dk_162 0 36 (dk_at dksX0_isOut_1 7 rfl rfl)
theorem dX0_isOut_34 : decode cX0_isOut 34 = .ok (.iload_n 3, 1) := dk_29 (dk_at dksX0_isOut_1 10 rfl rfl)
theorem dX0_isOut_35 : decode cX0_isOut 35 = .ok (.ifCond .eq 24, 3) := dk_153 0 24 (dk_at dksX0_isOut_1 11 rfl rfl)
theorem dX0_isOut_38 : decode cX0_isOut 38 = .ok (.aload_n 0, 1) := dk_42 (dk_at dksX0_isOut_1 14 rfl rfl)
theorem dX0_isOut_39 : decode cX0_isOut 39 = .ok (.iload 4, 2) := dk_21 4 (dk_at dksX0_isOut_1 15 rfl rfl)
theorem dX0_isOut_41 : decode cX0_isOut 41 = .ok (.invokevirtual 38, 3) := dk_182 0 38 (dk_at dksX0_isOut_1 17 rfl rfl)
theorem dX0_isOut_44 : decode cX0_isOut 44 = .ok (.aload_n 1, 1) := dk_43 (dk_at dksX0_isOut_1 20 rfl rfl)
theorem dX0_isOut_45 : decode cX0_isOut 45 = .ok (.iload 4, 2) := dk_21 4 (dk_at dksX0_isOut_1 21 rfl rfl)
theorem dX0_isOut_47 : decode cX0_isOut 47 = .ok (.baload, 1) := dk_51 (dk_at dksX0_isOut_1 23 rfl rfl)
theorem dX0_isOut_48 : decode cX0_isOut 48 = .ok (.sipush 255, 3) := dk_17 0 255 (dk_at dksX0_isOut_2 0 rfl rfl)
theorem dX0_isOut_51 : decode cX0_isOut 51 = .ok (.iand, 1) := dk_126 (dk_at dksX0_isOut_2 3 rfl rfl)
theorem dX0_isOut_52 : decode cX0_isOut 52 = .ok (.if_icmp .ne 7, 3) := dk_160 0 7 (dk_at dksX0_isOut_2 4 rfl rfl)
theorem dX0_isOut_55 : decode cX0_isOut 55 = .ok (.iconst 1, 1) := dk_4 (dk_at dksX0_isOut_2 7 rfl rfl)
theorem dX0_isOut_56 : decode cX0_isOut 56 = .ok (.goto 4, 3) := dk_167 0 4 (dk_at dksX0_isOut_2 8 rfl rfl)
theorem dX0_isOut_59 : decode cX0_isOut 59 = .ok (.iconst 0, 1) := dk_3 (dk_at dksX0_isOut_2 11 rfl rfl)
theorem dX0_isOut_60 : decode cX0_isOut 60 = .ok (.istore_n 3, 1) := dk_62 (dk_at dksX0_isOut_2 12 rfl rfl)
theorem dX0_isOut_61 : decode cX0_isOut 61 = .ok (.iinc 4 1, 3) := dk_132 4 1 (dk_at dksX0_isOut_2 13 rfl rfl)
theorem dX0_isOut_64 : decode cX0_isOut 64 = .ok (.goto (-37), 3) := dk_167 255 219 (dk_at dksX0_isOut_2 16 rfl rfl)
theorem dX0_isOut_67 : decode cX0_isOut 67 = .ok (.iload_n 3, 1) := dk_29 (dk_at dksX0_isOut_2 19 rfl rfl)
theorem dX0_isOut_68 : decode cX0_isOut 68 = .ok (.ireturn, 1) := dk_172 (dk_at dksX0_isOut_2 20 rfl rfl)
abbrev cX0_areSame : ByteArray := method_12_code
def yX0_areSame : MethodName := ⟨RX0, "areSame", "([B[B)Z"⟩
def dkwX0_areSame_1 : List UInt8 := [167, 0, 4, 3, 61, 132, 3, 1, 167, 255, 228, 28, 172]
abbrev dktX0_areSame_1 : List UInt8 := dkwX0_areSame_1 ++ []
def dkwX0_areSame_0 : List UInt8 := [4, 61, 3, 62, 29, 16, 16, 162, 0, 28, 28, 153, 0, 16, 42, 29, 51, 43, 29, 51, 160, 0, 7, 4]
abbrev dktX0_areSame_0 : List UInt8 := dkwX0_areSame_0 ++ dktX0_areSame_1
theorem dksX0_areSame_0 : cX0_areSame.data.toList.drop 0 = dktX0_areSame_0 := by decide +kernel
theorem dksX0_areSame_1 : cX0_areSame.data.toList.drop 24 = dktX0_areSame_1 := dk_seg dksX0_areSame_0 24 rfl rfl
theorem dX0_areSame_0 : decode cX0_areSame 0 = .ok (.iconst 1, 1) := dk_4 (dk_at dksX0_areSame_0 0 rfl rfl)
theorem dX0_areSame_1 : decode cX0_areSame 1 = .ok (.istore_n 2, 1) := dk_61 (dk_at dksX0_areSame_0 1 rfl rfl)
theorem dX0_areSame_2 : decode cX0_areSame 2 = .ok (.iconst 0, 1) := dk_3 (dk_at dksX0_areSame_0 2 rfl rfl)
theorem dX0_areSame_3 : decode cX0_areSame 3 = .ok (.istore_n 3, 1) := dk_62 (dk_at dksX0_areSame_0 3 rfl rfl)
theorem dX0_areSame_4 : decode cX0_areSame 4 = .ok (.iload_n 3, 1) := dk_29 (dk_at dksX0_areSame_0 4 rfl rfl)
theorem dX0_areSame_5 : decode cX0_areSame 5 = .ok (.bipush 16, 2) := dk_16 16 (dk_at dksX0_areSame_0 5 rfl rfl)
theorem dX0_areSame_7 : decode cX0_areSame 7 = .ok (.if_icmp .ge 28, 3) := dk_162 0 28 (dk_at dksX0_areSame_0 7 rfl rfl)
theorem dX0_areSame_10 : decode cX0_areSame 10 = .ok (.iload_n 2, 1) := dk_28 (dk_at dksX0_areSame_0 10 rfl rfl)
theorem dX0_areSame_11 : decode cX0_areSame 11 = .ok (.ifCond .eq 16, 3) := dk_153 0 16 (dk_at dksX0_areSame_0 11 rfl rfl)
theorem dX0_areSame_14 : decode cX0_areSame 14 = .ok (.aload_n 0, 1) := dk_42 (dk_at dksX0_areSame_0 14 rfl rfl)
theorem dX0_areSame_15 : decode cX0_areSame 15 = .ok (.iload_n 3, 1) := dk_29 (dk_at dksX0_areSame_0 15 rfl rfl)
theorem dX0_areSame_16 : decode cX0_areSame 16 = .ok (.baload, 1) := dk_51 (dk_at dksX0_areSame_0 16 rfl rfl)
theorem dX0_areSame_17 : decode cX0_areSame 17 = .ok (.aload_n 1, 1) := dk_43 (dk_at dksX0_areSame_0 17 rfl rfl)
theorem dX0_areSame_18 : decode cX0_areSame 18 = .ok (.iload_n 3, 1) := dk_29 (dk_at dksX0_areSame_0 18 rfl rfl)
theorem dX0_areSame_19 : decode cX0_areSame 19 = .ok (.baload, 1) := dk_51 (dk_at dksX0_areSame_0 19 rfl rfl)
theorem dX0_areSame_20 : decode cX0_areSame 20 = .ok (.if_icmp .ne 7, 3) := dk_160 0 7 (dk_at dksX0_areSame_0 20 rfl rfl)
theorem dX0_areSame_23 : decode cX0_areSame 23 = .ok (.iconst 1, 1) := dk_4 (dk_at dksX0_areSame_0 23 rfl rfl)
theorem dX0_areSame_24 : decode cX0_areSame 24 = .ok (.goto 4, 3) := dk_167 0 4 (dk_at dksX0_areSame_1 0 rfl rfl)
theorem dX0_areSame_27 : decode cX0_areSame 27 = .ok (.iconst 0, 1) := dk_3 (dk_at dksX0_areSame_1 3 rfl rfl)
theorem dX0_areSame_28 : decode cX0_areSame 28 = .ok (.istore_n 2, 1) := dk_61 (dk_at dksX0_areSame_1 4 rfl rfl)
theorem dX0_areSame_29 : decode cX0_areSame 29 = .ok (.iinc 3 1, 3) := dk_132 3 1 (dk_at dksX0_areSame_1 5 rfl rfl)
theorem dX0_areSame_32 : decode cX0_areSame 32 = .ok (.goto (-28), 3) := dk_167 255 228 (dk_at dksX0_areSame_1 8 rfl rfl)
theorem dX0_areSame_35 : decode cX0_areSame 35 = .ok (.iload_n 2, 1) := dk_28 (dk_at dksX0_areSame_1 11 rfl rfl)
theorem dX0_areSame_36 : decode cX0_areSame 36 = .ok (.ireturn, 1) := dk_172 (dk_at dksX0_areSame_1 12 rfl rfl)
theorem q9 : (Jvm.Cond.initialized "RcWideDeskLaw") ∈ lw_all := lw_g (lw_at lw_m1 0 rfl) rfl
theorem q18 : (Jvm.Cond.classLink "RcWideDeskLaw" (39 : Nat) "RcWideDesk") ∈ lw_all := lw_g (lw_at lw_m1 9 rfl) rfl
theorem q20 : (Jvm.Cond.methodLink "RcWideDeskLaw" (44 : Nat) ({ cls := "RcWideDesk", name := "<init>", desc := "()V" } : Jvm.MethodName)) ∈ lw_all := lw_g (lw_at lw_m1 11 rfl) rfl
theorem q37 : (Jvm.Cond.methodLink "RcWideDeskLaw" (57 : Nat) ({ cls := "RcWideDesk", name := "key", desc := "(IIIII)V" } : Jvm.MethodName)) ∈ lw_all := lw_g (lw_at lw_m1 28 rfl) rfl
theorem q44 : (Jvm.Cond.methodLink "RcWideDeskLaw" (65 : Nat) ({ cls := "RcWideDesk", name := "block", desc := "(IIII)V" } : Jvm.MethodName)) ∈ lw_all := lw_g (lw_at lw_m1 35 rfl) rfl
theorem q48 : (Jvm.Cond.methodLink "RcWideDeskLaw" (69 : Nat) ({ cls := "RcWideDesk", name := "lock", desc := "(I)V" } : Jvm.MethodName)) ∈ lw_all := lw_g (lw_at lw_m1 39 rfl) rfl
theorem q221 : (Jvm.Cond.methodLink "RcWideDeskLaw" (73 : Nat) ({ cls := "RcWideDesk", name := "open", desc := "(I)V" } : Jvm.MethodName)) ∈ lw_all := lw_g (lw_at lw_m1 212 rfl) rfl
theorem q225 : (Jvm.Cond.methodLink "RcWideDeskLaw" (83 : Nat) ({ cls := "RcWideDesk", name := "again", desc := "()V" } : Jvm.MethodName)) ∈ lw_all := lw_g (lw_at lw_m1 216 rfl) rfl
theorem q229 : (Jvm.Cond.methodLink "RcWideDeskLaw" (45 : Nat) ({ cls := "RcWideDeskLaw", name := "cell", desc := "([II)I" } : Jvm.MethodName)) ∈ lw_all := lw_g (lw_at lw_m1 220 rfl) rfl
theorem q230 : (Jvm.Cond.static ({ cls := "RcWideDeskLaw", name := "cell", desc := "([II)I" } : Jvm.MethodName)) ∈ lw_all := lw_g (lw_at lw_m1 221 rfl) rfl
theorem q231 : (Jvm.Cond.code ({ cls := "RcWideDeskLaw", name := "cell", desc := "([II)I" } : Jvm.MethodName) method_2_code (2 : Nat) (Option.some Jvm.ClassFile.FieldType.int)) ∈ lw_all := lw_g (lw_at lw_m1 222 rfl) rfl
theorem q232 : (Jvm.Cond.methodLink "RcWideDeskLaw" (53 : Nat) ({ cls := "RcWideDeskLaw", name := "some", desc := "(II)I" } : Jvm.MethodName)) ∈ lw_all := lw_g (lw_at lw_m1 223 rfl) rfl
theorem q233 : (Jvm.Cond.static ({ cls := "RcWideDeskLaw", name := "some", desc := "(II)I" } : Jvm.MethodName)) ∈ lw_all := lw_g (lw_at lw_m1 224 rfl) rfl
theorem q234 : (Jvm.Cond.code ({ cls := "RcWideDeskLaw", name := "some", desc := "(II)I" } : Jvm.MethodName) method_3_code (2 : Nat) (Option.some Jvm.ClassFile.FieldType.int)) ∈ lw_all := lw_g (lw_at lw_m1 225 rfl) rfl
theorem q235 : (Jvm.Cond.constant "RcWideDeskLaw" (7 : Nat) (2147483647 : Int32)) ∈ lw_all := lw_g (lw_at lw_m1 226 rfl) rfl
theorem q236 : (Jvm.Cond.methodLink "RcWideDeskLaw" (61 : Nat) ({ cls := "RcWideDeskLaw", name := "lay", desc := "([BII)V" } : Jvm.MethodName)) ∈ lw_all := lw_g (lw_at lw_m1 227 rfl) rfl
theorem q237 : (Jvm.Cond.static ({ cls := "RcWideDeskLaw", name := "lay", desc := "([BII)V" } : Jvm.MethodName)) ∈ lw_all := lw_g (lw_at lw_m1 228 rfl) rfl
theorem q238 : (Jvm.Cond.code ({ cls := "RcWideDeskLaw", name := "lay", desc := "([BII)V" } : Jvm.MethodName) method_4_code (3 : Nat) (Option.none : Option Jvm.ClassFile.FieldType)) ∈ lw_all := lw_g (lw_at lw_m1 229 rfl) rfl
theorem q239 : (Jvm.Cond.methodLink "RcWideDeskLaw" (76 : Nat) ({ cls := "RcWideDeskLaw", name := "locked", desc := "([B[B)[B" } : Jvm.MethodName)) ∈ lw_all := lw_g (lw_at lw_m1 230 rfl) rfl
theorem q240 : (Jvm.Cond.static ({ cls := "RcWideDeskLaw", name := "locked", desc := "([B[B)[B" } : Jvm.MethodName)) ∈ lw_all := lw_g (lw_at lw_m1 231 rfl) rfl
theorem q241 : (Jvm.Cond.code ({ cls := "RcWideDeskLaw", name := "locked", desc := "([B[B)[B" } : Jvm.MethodName) method_9_code (9 : Nat) (Option.some (Jvm.ClassFile.FieldType.array Jvm.ClassFile.FieldType.byte))) ∈ lw_all := lw_g (lw_at lw_m1 232 rfl) rfl
theorem q242 : (Jvm.Cond.methodLink "RcWideDeskLaw" (30 : Nat) ({ cls := "RcWideDeskLaw", name := "keys", desc := "([B)[J" } : Jvm.MethodName)) ∈ lw_all := lw_g (lw_at lw_m1 233 rfl) rfl
theorem q243 : (Jvm.Cond.static ({ cls := "RcWideDeskLaw", name := "keys", desc := "([B)[J" } : Jvm.MethodName)) ∈ lw_all := lw_g (lw_at lw_m1 234 rfl) rfl
theorem q244 : (Jvm.Cond.code ({ cls := "RcWideDeskLaw", name := "keys", desc := "([B)[J" } : Jvm.MethodName) method_8_code (8 : Nat) (Option.some (Jvm.ClassFile.FieldType.array Jvm.ClassFile.FieldType.long))) ∈ lw_all := lw_g (lw_at lw_m1 235 rfl) rfl
theorem q245 : (Jvm.Cond.methodLink "RcWideDeskLaw" (14 : Nat) ({ cls := "RcWideDeskLaw", name := "word", desc := "([BI)J" } : Jvm.MethodName)) ∈ lw_all := lw_g (lw_at lw_m1 236 rfl) rfl
theorem q246 : (Jvm.Cond.static ({ cls := "RcWideDeskLaw", name := "word", desc := "([BI)J" } : Jvm.MethodName)) ∈ lw_all := lw_g (lw_at lw_m1 237 rfl) rfl
theorem q247 : (Jvm.Cond.code ({ cls := "RcWideDeskLaw", name := "word", desc := "([BI)J" } : Jvm.MethodName) method_5_code (5 : Nat) (Option.some Jvm.ClassFile.FieldType.long)) ∈ lw_all := lw_g (lw_at lw_m1 238 rfl) rfl
theorem q248 : (Jvm.Cond.constantLong "RcWideDeskLaw" (8 : Nat) (255 : Int64)) ∈ lw_all := lw_g (lw_at lw_m1 239 rfl) rfl
theorem q249 : (Jvm.Cond.constantLong "RcWideDeskLaw" (20 : Nat) (-5196783011329398165 : Int64)) ∈ lw_all := lw_g (lw_at lw_m2 0 rfl) rfl
theorem q250 : (Jvm.Cond.constantLong "RcWideDeskLaw" (22 : Nat) (-7046029254386353131 : Int64)) ∈ lw_all := lw_g (lw_at lw_m2 1 rfl) rfl
theorem q251 : (Jvm.Cond.constantLong "RcWideDeskLaw" (24 : Nat) (3 : Int64)) ∈ lw_all := lw_g (lw_at lw_m2 2 rfl) rfl
theorem q252 : (Jvm.Cond.methodLink "RcWideDeskLaw" (26 : Nat) ({ cls := "RcWideDeskLaw", name := "left", desc := "(JJ)J" } : Jvm.MethodName)) ∈ lw_all := lw_g (lw_at lw_m2 3 rfl) rfl
theorem q253 : (Jvm.Cond.static ({ cls := "RcWideDeskLaw", name := "left", desc := "(JJ)J" } : Jvm.MethodName)) ∈ lw_all := lw_g (lw_at lw_m2 4 rfl) rfl
theorem q254 : (Jvm.Cond.code ({ cls := "RcWideDeskLaw", name := "left", desc := "(JJ)J" } : Jvm.MethodName) method_7_code (4 : Nat) (Option.some Jvm.ClassFile.FieldType.long)) ∈ lw_all := lw_g (lw_at lw_m2 5 rfl) rfl
theorem q255 : (Jvm.Cond.constantLong "RcWideDeskLaw" (10 : Nat) (63 : Int64)) ∈ lw_all := lw_g (lw_at lw_m2 6 rfl) rfl
theorem q256 : (Jvm.Cond.constantLong "RcWideDeskLaw" (12 : Nat) (64 : Int64)) ∈ lw_all := lw_g (lw_at lw_m2 7 rfl) rfl
theorem q257 : (Jvm.Cond.methodLink "RcWideDeskLaw" (34 : Nat) ({ cls := "RcWideDeskLaw", name := "put", desc := "([BIJ)V" } : Jvm.MethodName)) ∈ lw_all := lw_g (lw_at lw_m2 8 rfl) rfl
theorem q258 : (Jvm.Cond.static ({ cls := "RcWideDeskLaw", name := "put", desc := "([BIJ)V" } : Jvm.MethodName)) ∈ lw_all := lw_g (lw_at lw_m2 9 rfl) rfl
theorem q259 : (Jvm.Cond.code ({ cls := "RcWideDeskLaw", name := "put", desc := "([BIJ)V" } : Jvm.MethodName) method_6_code (5 : Nat) (Option.none : Option Jvm.ClassFile.FieldType)) ∈ lw_all := lw_g (lw_at lw_m2 10 rfl) rfl
theorem q260 : (Jvm.Cond.methodLink "RcWideDeskLaw" (80 : Nat) ({ cls := "RcWideDeskLaw", name := "opened", desc := "([B[B)[B" } : Jvm.MethodName)) ∈ lw_all := lw_g (lw_at lw_m2 11 rfl) rfl
theorem q261 : (Jvm.Cond.static ({ cls := "RcWideDeskLaw", name := "opened", desc := "([B[B)[B" } : Jvm.MethodName)) ∈ lw_all := lw_g (lw_at lw_m2 12 rfl) rfl
theorem q262 : (Jvm.Cond.code ({ cls := "RcWideDeskLaw", name := "opened", desc := "([B[B)[B" } : Jvm.MethodName) method_10_code (9 : Nat) (Option.some (Jvm.ClassFile.FieldType.array Jvm.ClassFile.FieldType.byte))) ∈ lw_all := lw_g (lw_at lw_m2 13 rfl) rfl
theorem q263 : (Jvm.Cond.methodLink "RcWideDeskLaw" (49 : Nat) ({ cls := "RcWideDeskLaw", name := "isOut", desc := "(LRcWideDesk;[BI)Z" } : Jvm.MethodName)) ∈ lw_all := lw_g (lw_at lw_m2 14 rfl) rfl
theorem q264 : (Jvm.Cond.static ({ cls := "RcWideDeskLaw", name := "isOut", desc := "(LRcWideDesk;[BI)Z" } : Jvm.MethodName)) ∈ lw_all := lw_g (lw_at lw_m2 15 rfl) rfl
theorem q265 : (Jvm.Cond.code ({ cls := "RcWideDeskLaw", name := "isOut", desc := "(LRcWideDesk;[BI)Z" } : Jvm.MethodName) method_11_code (5 : Nat) (Option.some Jvm.ClassFile.FieldType.boolean)) ∈ lw_all := lw_g (lw_at lw_m2 16 rfl) rfl
theorem q266 : (Jvm.Cond.methodLink "RcWideDeskLaw" (38 : Nat) ({ cls := "RcWideDesk", name := "out", desc := "(I)I" } : Jvm.MethodName)) ∈ lw_all := lw_g (lw_at lw_m2 17 rfl) rfl
theorem q270 : (Jvm.Cond.methodLink "RcWideDeskLaw" (86 : Nat) ({ cls := "RcWideDeskLaw", name := "areSame", desc := "([B[B)Z" } : Jvm.MethodName)) ∈ lw_all := lw_g (lw_at lw_m2 21 rfl) rfl
theorem q271 : (Jvm.Cond.static ({ cls := "RcWideDeskLaw", name := "areSame", desc := "([B[B)Z" } : Jvm.MethodName)) ∈ lw_all := lw_g (lw_at lw_m2 22 rfl) rfl
theorem q272 : (Jvm.Cond.code ({ cls := "RcWideDeskLaw", name := "areSame", desc := "([B[B)Z" } : Jvm.MethodName) method_12_code (4 : Nat) (Option.some Jvm.ClassFile.FieldType.boolean)) ∈ lw_all := lw_g (lw_at lw_m2 23 rfl) rfl
/-! the law's own entry -/
set_option maxRecDepth 100000
abbrev cL_law : ByteArray := code
def dkwL_law_19 : List UInt8 := [16, 7, 184, 0, 49, 154, 0, 5, 3, 172, 132, 5, 1, 167, 254, 96, 4, 172]
abbrev dktL_law_19 : List UInt8 := dkwL_law_19 ++ []
def dkwL_law_18 : List UInt8 := [167, 0, 8, 44, 45, 184, 0, 76, 58, 4, 25, 4, 25, 10, 184, 0, 86, 153, 0, 14, 43, 25, 10]
abbrev dktL_law_18 : List UInt8 := dkwL_law_18 ++ dktL_law_19
def dkwL_law_17 : List UInt8 := [182, 0, 73, 167, 0, 9, 43, 21, 6, 182, 0, 69, 21, 9, 153, 0, 11, 44, 45, 184, 0, 80]
abbrev dktL_law_17 : List UInt8 := dkwL_law_17 ++ dktL_law_18
def dkwL_law_16 : List UInt8 := [167, 255, 237, 43, 25, 4, 21, 6, 184, 0, 49, 154, 0, 5, 3, 172, 21, 9, 153, 0, 12, 43, 21, 6]
abbrev dktL_law_16 : List UInt8 := dkwL_law_16 ++ dktL_law_17
def dkwL_law_15 : List UInt8 := [3, 54, 11, 21, 11, 16, 16, 162, 0, 18, 45, 21, 11, 25, 4, 21, 11, 51, 84, 132, 11, 1]
abbrev dktL_law_15 : List UInt8 := dkwL_law_15 ++ dktL_law_16
def dkwL_law_14 : List UInt8 := [25, 4, 21, 7, 184, 0, 49, 154, 0, 5, 3, 172, 45, 58, 10, 43, 182, 0, 83, 16, 16, 188, 8, 78]
abbrev dktL_law_14 : List UInt8 := dkwL_law_14 ++ dktL_law_15
def dkwL_law_13 : List UInt8 := [182, 0, 73, 21, 9, 153, 0, 11, 44, 45, 184, 0, 76, 167, 0, 8, 44, 45, 184, 0, 80, 58, 4, 43]
abbrev dktL_law_13 : List UInt8 := dkwL_law_13 ++ dktL_law_14
def dkwL_law_12 : List UInt8 := [167, 0, 4, 3, 54, 9, 21, 9, 153, 0, 12, 43, 21, 7, 182, 0, 69, 167, 0, 9, 43, 21, 7]
abbrev dktL_law_12 : List UInt8 := dkwL_law_12 ++ dktL_law_13
def dkwL_law_11 : List UInt8 := [16, 6, 21, 5, 104, 4, 96, 184, 0, 45, 184, 0, 61, 21, 6, 16, 10, 122, 4, 126, 154, 0, 7, 4]
abbrev dktL_law_11 : List UInt8 := dkwL_law_11 ++ dktL_law_12
def dkwL_law_10 : List UInt8 := [184, 0, 61, 45, 7, 21, 6, 184, 0, 61, 45, 16, 8, 21, 7, 2, 130, 184, 0, 61, 45, 16, 12, 42]
abbrev dktL_law_10 : List UInt8 := dkwL_law_10 ++ dktL_law_11
def dkwL_law_9 : List UInt8 := [21, 6, 21, 7, 2, 130, 42, 16, 6, 21, 5, 104, 4, 96, 184, 0, 45, 182, 0, 65, 45, 3, 21, 7]
abbrev dktL_law_9 : List UInt8 := dkwL_law_9 ++ dktL_law_10
def dkwL_law_8 : List UInt8 := [184, 0, 61, 132, 9, 1, 167, 255, 217, 21, 6, 16, 7, 122, 7, 184, 0, 53, 158, 0, 67, 43, 21, 7]
abbrev dktL_law_8 : List UInt8 := dkwL_law_8 ++ dktL_law_9
def dkwL_law_7 : List UInt8 := [21, 8, 4, 126, 104, 7, 21, 9, 104, 96, 42, 16, 6, 21, 5, 104, 4, 96, 21, 9, 96, 184, 0, 45]
abbrev dktL_law_7 : List UInt8 := dkwL_law_7 ++ dktL_law_8
def dkwL_law_6 : List UInt8 := [21, 5, 104, 7, 96, 184, 0, 45, 182, 0, 57, 3, 54, 9, 21, 9, 7, 162, 0, 39, 44, 16, 16]
abbrev dktL_law_6 : List UInt8 := dkwL_law_6 ++ dktL_law_7
def dkwL_law_5 : List UInt8 := [16, 6, 21, 5, 104, 5, 96, 184, 0, 45, 42, 16, 6, 21, 5, 104, 6, 96, 184, 0, 45, 42, 16, 6]
abbrev dktL_law_5 : List UInt8 := dkwL_law_5 ++ dktL_law_6
def dkwL_law_4 : List UInt8 := [7, 122, 7, 184, 0, 53, 158, 0, 98, 43, 21, 8, 42, 16, 6, 21, 5, 104, 4, 96, 184, 0, 45, 42]
abbrev dktL_law_4 : List UInt8 := dkwL_law_4 ++ dktL_law_5
def dkwL_law_3 : List UInt8 := [184, 0, 45, 54, 7, 21, 6, 6, 184, 0, 53, 154, 0, 8, 21, 6, 167, 0, 4, 3, 54, 8, 21, 6]
abbrev dktL_law_3 : List UInt8 := dkwL_law_3 ++ dktL_law_4
def dkwL_law_2 : List UInt8 := [162, 1, 159, 42, 16, 6, 21, 5, 104, 184, 0, 45, 54, 6, 42, 16, 6, 21, 5, 104, 8, 96]
abbrev dktL_law_2 : List UInt8 := dkwL_law_2 ++ dktL_law_3
def dkwL_law_1 : List UInt8 := [43, 25, 4, 42, 3, 184, 0, 45, 184, 0, 49, 154, 0, 5, 3, 172, 3, 54, 5, 21, 5, 16, 10]
abbrev dktL_law_1 : List UInt8 := dkwL_law_1 ++ dktL_law_2
def dkwL_law_0 : List UInt8 := [187, 0, 39, 89, 183, 0, 44, 76, 16, 32, 188, 8, 77, 16, 16, 188, 8, 78, 16, 16, 188, 8, 58, 4]
abbrev dktL_law_0 : List UInt8 := dkwL_law_0 ++ dktL_law_1
theorem dksL_law_0 : cL_law.data.toList.drop 0 = dktL_law_0 := by decide +kernel
theorem dksL_law_1 : cL_law.data.toList.drop 24 = dktL_law_1 := dk_seg dksL_law_0 24 rfl rfl
theorem dksL_law_2 : cL_law.data.toList.drop 47 = dktL_law_2 := dk_seg dksL_law_1 23 rfl rfl
theorem dksL_law_3 : cL_law.data.toList.drop 69 = dktL_law_3 := dk_seg dksL_law_2 22 rfl rfl
theorem dksL_law_4 : cL_law.data.toList.drop 93 = dktL_law_4 := dk_seg dksL_law_3 24 rfl rfl
theorem dksL_law_5 : cL_law.data.toList.drop 117 = dktL_law_5 := dk_seg dksL_law_4 24 rfl rfl
theorem dksL_law_6 : cL_law.data.toList.drop 141 = dktL_law_6 := dk_seg dksL_law_5 24 rfl rfl
theorem dksL_law_7 : cL_law.data.toList.drop 164 = dktL_law_7 := dk_seg dksL_law_6 23 rfl rfl
theorem dksL_law_8 : cL_law.data.toList.drop 188 = dktL_law_8 := dk_seg dksL_law_7 24 rfl rfl
theorem dksL_law_9 : cL_law.data.toList.drop 212 = dktL_law_9 := dk_seg dksL_law_8 24 rfl rfl
theorem dksL_law_10 : cL_law.data.toList.drop 236 = dktL_law_10 := dk_seg dksL_law_9 24 rfl rfl
theorem dksL_law_11 : cL_law.data.toList.drop 260 = dktL_law_11 := dk_seg dksL_law_10 24 rfl rfl
theorem dksL_law_12 : cL_law.data.toList.drop 284 = dktL_law_12 := dk_seg dksL_law_11 24 rfl rfl
theorem dksL_law_13 : cL_law.data.toList.drop 307 = dktL_law_13 := dk_seg dksL_law_12 23 rfl rfl
theorem dksL_law_14 : cL_law.data.toList.drop 331 = dktL_law_14 := dk_seg dksL_law_13 24 rfl rfl
theorem dksL_law_15 : cL_law.data.toList.drop 355 = dktL_law_15 := dk_seg dksL_law_14 24 rfl rfl
theorem dksL_law_16 : cL_law.data.toList.drop 377 = dktL_law_16 := dk_seg dksL_law_15 22 rfl rfl
theorem dksL_law_17 : cL_law.data.toList.drop 401 = dktL_law_17 := dk_seg dksL_law_16 24 rfl rfl
theorem dksL_law_18 : cL_law.data.toList.drop 423 = dktL_law_18 := dk_seg dksL_law_17 22 rfl rfl
theorem dksL_law_19 : cL_law.data.toList.drop 446 = dktL_law_19 := dk_seg dksL_law_18 23 rfl rfl
theorem dL_law_0 : decode cL_law 0 = .ok (.new 39, 3) := dk_187 0 39 (dk_at dksL_law_0 0 rfl rfl)
theorem dL_law_3 : decode cL_law 3 = .ok (.dup, 1) := dk_89 (dk_at dksL_law_0 3 rfl rfl)
theorem dL_law_4 : decode cL_law 4 = .ok (.invokespecial 44, 3) := dk_183 0 44 (dk_at dksL_law_0 4 rfl rfl)
theorem dL_law_7 : decode cL_law 7 = .ok (.astore_n 1, 1) := dk_76 (dk_at dksL_law_0 7 rfl rfl)
theorem dL_law_8 : decode cL_law 8 = .ok (.bipush 32, 2) := dk_16 32 (dk_at dksL_law_0 8 rfl rfl)
theorem dL_law_10 : decode cL_law 10 = .ok (.newarray .byte, 2) := dk_188_8 (dk_at dksL_law_0 10 rfl rfl)
theorem dL_law_12 : decode cL_law 12 = .ok (.astore_n 2, 1) := dk_77 (dk_at dksL_law_0 12 rfl rfl)
theorem dL_law_13 : decode cL_law 13 = .ok (.bipush 16, 2) := dk_16 16 (dk_at dksL_law_0 13 rfl rfl)
theorem dL_law_15 : decode cL_law 15 = .ok (.newarray .byte, 2) := dk_188_8 (dk_at dksL_law_0 15 rfl rfl)
theorem dL_law_17 : decode cL_law 17 = .ok (.astore_n 3, 1) := dk_78 (dk_at dksL_law_0 17 rfl rfl)
theorem dL_law_18 : decode cL_law 18 = .ok (.bipush 16, 2) := dk_16 16 (dk_at dksL_law_0 18 rfl rfl)
theorem dL_law_20 : decode cL_law 20 = .ok (.newarray .byte, 2) := dk_188_8 (dk_at dksL_law_0 20 rfl rfl)
theorem dL_law_22 : decode cL_law 22 = .ok (.astore 4, 2) := dk_58 4 (dk_at dksL_law_0 22 rfl rfl)
theorem dL_law_24 : decode cL_law 24 = .ok (.aload_n 1, 1) := dk_43 (dk_at dksL_law_1 0 rfl rfl)
theorem dL_law_25 : decode cL_law 25 = .ok (.aload 4, 2) := dk_25 4 (dk_at dksL_law_1 1 rfl rfl)
theorem dL_law_27 : decode cL_law 27 = .ok (.aload_n 0, 1) := dk_42 (dk_at dksL_law_1 3 rfl rfl)
theorem dL_law_28 : decode cL_law 28 = .ok (.iconst 0, 1) := dk_3 (dk_at dksL_law_1 4 rfl rfl)
theorem dL_law_29 : decode cL_law 29 = .ok (.invokestatic 45, 3) := dk_184 0 45 (dk_at dksL_law_1 5 rfl rfl)
theorem dL_law_32 : decode cL_law 32 = .ok (.invokestatic 49, 3) := dk_184 0 49 (dk_at dksL_law_1 8 rfl rfl)
theorem dL_law_35 : decode cL_law 35 = .ok (.ifCond .ne 5, 3) := dk_154 0 5 (dk_at dksL_law_1 11 rfl rfl)
theorem dL_law_38 : decode cL_law 38 = .ok (.iconst 0, 1) := dk_3 (dk_at dksL_law_1 14 rfl rfl)
theorem dL_law_39 : decode cL_law 39 = .ok (.ireturn, 1) := dk_172 (dk_at dksL_law_1 15 rfl rfl)
theorem dL_law_40 : decode cL_law 40 = .ok (.iconst 0, 1) := dk_3 (dk_at dksL_law_1 16 rfl rfl)
theorem dL_law_41 : decode cL_law 41 = .ok (.istore 5, 2) := dk_54 5 (dk_at dksL_law_1 17 rfl rfl)
theorem dL_law_43 : decode cL_law 43 = .ok (.iload 5, 2) := dk_21 5 (dk_at dksL_law_1 19 rfl rfl)
theorem dL_law_45 : decode cL_law 45 = .ok (.bipush 10, 2) := dk_16 10 (dk_at dksL_law_1 21 rfl rfl)
theorem dL_law_47 : decode cL_law 47 = .ok (.if_icmp .ge 415, 3) := dk_162 1 159 (dk_at dksL_law_2 0 rfl rfl)
theorem dL_law_50 : decode cL_law 50 = .ok (.aload_n 0, 1) := dk_42 (dk_at dksL_law_2 3 rfl rfl)
theorem dL_law_51 : decode cL_law 51 = .ok (.bipush 6, 2) := dk_16 6 (dk_at dksL_law_2 4 rfl rfl)
theorem dL_law_53 : decode cL_law 53 = .ok (.iload 5, 2) := dk_21 5 (dk_at dksL_law_2 6 rfl rfl)
theorem dL_law_55 : decode cL_law 55 = .ok (.imul, 1) := dk_104 (dk_at dksL_law_2 8 rfl rfl)
theorem dL_law_56 : decode cL_law 56 = .ok (.invokestatic 45, 3) := dk_184 0 45 (dk_at dksL_law_2 9 rfl rfl)
theorem dL_law_59 : decode cL_law 59 = .ok (.istore 6, 2) := dk_54 6 (dk_at dksL_law_2 12 rfl rfl)
theorem dL_law_61 : decode cL_law 61 = .ok (.aload_n 0, 1) := dk_42 (dk_at dksL_law_2 14 rfl rfl)
theorem dL_law_62 : decode cL_law 62 = .ok (.bipush 6, 2) := dk_16 6 (dk_at dksL_law_2 15 rfl rfl)
theorem dL_law_64 : decode cL_law 64 = .ok (.iload 5, 2) := dk_21 5 (dk_at dksL_law_2 17 rfl rfl)
theorem dL_law_66 : decode cL_law 66 = .ok (.imul, 1) := dk_104 (dk_at dksL_law_2 19 rfl rfl)
theorem dL_law_67 : decode cL_law 67 = .ok (.iconst 5, 1) := dk_8 (dk_at dksL_law_2 20 rfl rfl)
theorem dL_law_68 : decode cL_law 68 = .ok (.iadd, 1) := dk_96 (dk_at dksL_law_2 21 rfl rfl)
theorem dL_law_69 : decode cL_law 69 = .ok (.invokestatic 45, 3) := dk_184 0 45 (dk_at dksL_law_3 0 rfl rfl)
theorem dL_law_72 : decode cL_law 72 = .ok (.istore 7, 2) := dk_54 7 (dk_at dksL_law_3 3 rfl rfl)
theorem dL_law_74 : decode cL_law 74 = .ok (.iload 6, 2) := dk_21 6 (dk_at dksL_law_3 5 rfl rfl)
theorem dL_law_76 : decode cL_law 76 = .ok (.iconst 3, 1) := dk_6 (dk_at dksL_law_3 7 rfl rfl)
theorem dL_law_77 : decode cL_law 77 = .ok (.invokestatic 53, 3) := dk_184 0 53 (dk_at dksL_law_3 8 rfl rfl)
theorem dL_law_80 : decode cL_law 80 = .ok (.ifCond .ne 8, 3) := dk_154 0 8 (dk_at dksL_law_3 11 rfl rfl)
theorem dL_law_83 : decode cL_law 83 = .ok (.iload 6, 2) := dk_21 6 (dk_at dksL_law_3 14 rfl rfl)
theorem dL_law_85 : decode cL_law 85 = .ok (.goto 4, 3) := dk_167 0 4 (dk_at dksL_law_3 16 rfl rfl)
theorem dL_law_88 : decode cL_law 88 = .ok (.iconst 0, 1) := dk_3 (dk_at dksL_law_3 19 rfl rfl)
theorem dL_law_89 : decode cL_law 89 = .ok (.istore 8, 2) := dk_54 8 (dk_at dksL_law_3 20 rfl rfl)
theorem dL_law_91 : decode cL_law 91 = .ok (.iload 6, 2) := dk_21 6 (dk_at dksL_law_3 22 rfl rfl)
theorem dL_law_93 : decode cL_law 93 = .ok (.iconst 4, 1) := dk_7 (dk_at dksL_law_4 0 rfl rfl)
theorem dL_law_94 : decode cL_law 94 = .ok (.ishr, 1) := dk_122 (dk_at dksL_law_4 1 rfl rfl)
theorem dL_law_95 : decode cL_law 95 = .ok (.iconst 4, 1) := dk_7 (dk_at dksL_law_4 2 rfl rfl)
theorem dL_law_96 : decode cL_law 96 = .ok (.invokestatic 53, 3) := dk_184 0 53 (dk_at dksL_law_4 3 rfl rfl)
theorem dL_law_99 : decode cL_law 99 = .ok (.ifCond .le 98, 3) := dk_158 0 98 (dk_at dksL_law_4 6 rfl rfl)
theorem dL_law_102 : decode cL_law 102 = .ok (.aload_n 1, 1) := dk_43 (dk_at dksL_law_4 9 rfl rfl)
theorem dL_law_103 : decode cL_law 103 = .ok (.iload 8, 2) := dk_21 8 (dk_at dksL_law_4 10 rfl rfl)
theorem dL_law_105 : decode cL_law 105 = .ok (.aload_n 0, 1) := dk_42 (dk_at dksL_law_4 12 rfl rfl)
theorem dL_law_106 : decode cL_law 106 = .ok (.bipush 6, 2) := dk_16 6 (dk_at dksL_law_4 13 rfl rfl)
theorem dL_law_108 : decode cL_law 108 = .ok (.iload 5, 2) := dk_21 5 (dk_at dksL_law_4 15 rfl rfl)
theorem dL_law_110 : decode cL_law 110 = .ok (.imul, 1) := dk_104 (dk_at dksL_law_4 17 rfl rfl)
theorem dL_law_111 : decode cL_law 111 = .ok (.iconst 1, 1) := dk_4 (dk_at dksL_law_4 18 rfl rfl)
theorem dL_law_112 : decode cL_law 112 = .ok (.iadd, 1) := dk_96 (dk_at dksL_law_4 19 rfl rfl)
theorem dL_law_113 : decode cL_law 113 = .ok (.invokestatic 45, 3) := dk_184 0 45 (dk_at dksL_law_4 20 rfl rfl)
theorem dL_law_116 : decode cL_law 116 = .ok (.aload_n 0, 1) := dk_42 (dk_at dksL_law_4 23 rfl rfl)
theorem dL_law_117 : decode cL_law 117 = .ok (.bipush 6, 2) := dk_16 6 (dk_at dksL_law_5 0 rfl rfl)
theorem dL_law_119 : decode cL_law 119 = .ok (.iload 5, 2) := dk_21 5 (dk_at dksL_law_5 2 rfl rfl)
theorem dL_law_121 : decode cL_law 121 = .ok (.imul, 1) := dk_104 (dk_at dksL_law_5 4 rfl rfl)
theorem dL_law_122 : decode cL_law 122 = .ok (.iconst 2, 1) := dk_5 (dk_at dksL_law_5 5 rfl rfl)
theorem dL_law_123 : decode cL_law 123 = .ok (.iadd, 1) := dk_96 (dk_at dksL_law_5 6 rfl rfl)
theorem dL_law_124 : decode cL_law 124 = .ok (.invokestatic 45, 3) := dk_184 0 45 (dk_at dksL_law_5 7 rfl rfl)
theorem dL_law_127 : decode cL_law 127 = .ok (.aload_n 0, 1) := dk_42 (dk_at dksL_law_5 10 rfl rfl)
theorem dL_law_128 : decode cL_law 128 = .ok (.bipush 6, 2) := dk_16 6 (dk_at dksL_law_5 11 rfl rfl)
theorem dL_law_130 : decode cL_law 130 = .ok (.iload 5, 2) := dk_21 5 (dk_at dksL_law_5 13 rfl rfl)
theorem dL_law_132 : decode cL_law 132 = .ok (.imul, 1) := dk_104 (dk_at dksL_law_5 15 rfl rfl)
theorem dL_law_133 : decode cL_law 133 = .ok (.iconst 3, 1) := dk_6 (dk_at dksL_law_5 16 rfl rfl)
theorem dL_law_134 : decode cL_law 134 = .ok (.iadd, 1) := dk_96 (dk_at dksL_law_5 17 rfl rfl)
theorem dL_law_135 : decode cL_law 135 = .ok (.invokestatic 45, 3) := dk_184 0 45 (dk_at dksL_law_5 18 rfl rfl)
theorem dL_law_138 : decode cL_law 138 = .ok (.aload_n 0, 1) := dk_42 (dk_at dksL_law_5 21 rfl rfl)
theorem dL_law_139 : decode cL_law 139 = .ok (.bipush 6, 2) := dk_16 6 (dk_at dksL_law_5 22 rfl rfl)
theorem dL_law_141 : decode cL_law 141 = .ok (.iload 5, 2) := dk_21 5 (dk_at dksL_law_6 0 rfl rfl)
theorem dL_law_143 : decode cL_law 143 = .ok (.imul, 1) := dk_104 (dk_at dksL_law_6 2 rfl rfl)
theorem dL_law_144 : decode cL_law 144 = .ok (.iconst 4, 1) := dk_7 (dk_at dksL_law_6 3 rfl rfl)
theorem dL_law_145 : decode cL_law 145 = .ok (.iadd, 1) := dk_96 (dk_at dksL_law_6 4 rfl rfl)
theorem dL_law_146 : decode cL_law 146 = .ok (.invokestatic 45, 3) := dk_184 0 45 (dk_at dksL_law_6 5 rfl rfl)
theorem dL_law_149 : decode cL_law 149 = .ok (.invokevirtual 57, 3) := dk_182 0 57 (dk_at dksL_law_6 8 rfl rfl)
theorem dL_law_152 : decode cL_law 152 = .ok (.iconst 0, 1) := dk_3 (dk_at dksL_law_6 11 rfl rfl)
theorem dL_law_153 : decode cL_law 153 = .ok (.istore 9, 2) := dk_54 9 (dk_at dksL_law_6 12 rfl rfl)
theorem dL_law_155 : decode cL_law 155 = .ok (.iload 9, 2) := dk_21 9 (dk_at dksL_law_6 14 rfl rfl)
theorem dL_law_157 : decode cL_law 157 = .ok (.iconst 4, 1) := dk_7 (dk_at dksL_law_6 16 rfl rfl)
theorem dL_law_158 : decode cL_law 158 = .ok (.if_icmp .ge 39, 3) := dk_162 0 39 (dk_at dksL_law_6 17 rfl rfl)
theorem dL_law_161 : decode cL_law 161 = .ok (.aload_n 2, 1) := dk_44 (dk_at dksL_law_6 20 rfl rfl)
theorem dL_law_162 : decode cL_law 162 = .ok (.bipush 16, 2) := dk_16 16 (dk_at dksL_law_6 21 rfl rfl)
theorem dL_law_164 : decode cL_law 164 = .ok (.iload 8, 2) := dk_21 8 (dk_at dksL_law_7 0 rfl rfl)
theorem dL_law_166 : decode cL_law 166 = .ok (.iconst 1, 1) := dk_4 (dk_at dksL_law_7 2 rfl rfl)
theorem dL_law_167 : decode cL_law 167 = .ok (.iand, 1) := dk_126 (dk_at dksL_law_7 3 rfl rfl)
theorem dL_law_168 : decode cL_law 168 = .ok (.imul, 1) := dk_104 (dk_at dksL_law_7 4 rfl rfl)
theorem dL_law_169 : decode cL_law 169 = .ok (.iconst 4, 1) := dk_7 (dk_at dksL_law_7 5 rfl rfl)
theorem dL_law_170 : decode cL_law 170 = .ok (.iload 9, 2) := dk_21 9 (dk_at dksL_law_7 6 rfl rfl)
theorem dL_law_172 : decode cL_law 172 = .ok (.imul, 1) := dk_104 (dk_at dksL_law_7 8 rfl rfl)
theorem dL_law_173 : decode cL_law 173 = .ok (.iadd, 1) := dk_96 (dk_at dksL_law_7 9 rfl rfl)
theorem dL_law_174 : decode cL_law 174 = .ok (.aload_n 0, 1) := dk_42 (dk_at dksL_law_7 10 rfl rfl)
theorem dL_law_175 : decode cL_law 175 = .ok (.bipush 6, 2) := dk_16 6 (dk_at dksL_law_7 11 rfl rfl)
theorem dL_law_177 : decode cL_law 177 = .ok (.iload 5, 2) := dk_21 5 (dk_at dksL_law_7 13 rfl rfl)
theorem dL_law_179 : decode cL_law 179 = .ok (.imul, 1) := dk_104 (dk_at dksL_law_7 15 rfl rfl)
theorem dL_law_180 : decode cL_law 180 = .ok (.iconst 1, 1) := dk_4 (dk_at dksL_law_7 16 rfl rfl)
theorem dL_law_181 : decode cL_law 181 = .ok (.iadd, 1) := dk_96 (dk_at dksL_law_7 17 rfl rfl)
theorem dL_law_182 : decode cL_law 182 = .ok (.iload 9, 2) := dk_21 9 (dk_at dksL_law_7 18 rfl rfl)
theorem dL_law_184 : decode cL_law 184 = .ok (.iadd, 1) := dk_96 (dk_at dksL_law_7 20 rfl rfl)
theorem dL_law_185 : decode cL_law 185 = .ok (.invokestatic 45, 3) := dk_184 0 45 (dk_at dksL_law_7 21 rfl rfl)
theorem dL_law_188 : decode cL_law 188 = .ok (.invokestatic 61, 3) := dk_184 0 61 (dk_at dksL_law_8 0 rfl rfl)
theorem dL_law_191 : decode cL_law 191 = .ok (.iinc 9 1, 3) := dk_132 9 1 (dk_at dksL_law_8 3 rfl rfl)
theorem dL_law_194 : decode cL_law 194 = .ok (.goto (-39), 3) := dk_167 255 217 (dk_at dksL_law_8 6 rfl rfl)
theorem dL_law_197 : decode cL_law 197 = .ok (.iload 6, 2) := dk_21 6 (dk_at dksL_law_8 9 rfl rfl)
theorem dL_law_199 : decode cL_law 199 = .ok (.bipush 7, 2) := dk_16 7 (dk_at dksL_law_8 11 rfl rfl)
theorem dL_law_201 : decode cL_law 201 = .ok (.ishr, 1) := dk_122 (dk_at dksL_law_8 13 rfl rfl)
theorem dL_law_202 : decode cL_law 202 = .ok (.iconst 4, 1) := dk_7 (dk_at dksL_law_8 14 rfl rfl)
theorem dL_law_203 : decode cL_law 203 = .ok (.invokestatic 53, 3) := dk_184 0 53 (dk_at dksL_law_8 15 rfl rfl)
theorem dL_law_206 : decode cL_law 206 = .ok (.ifCond .le 67, 3) := dk_158 0 67 (dk_at dksL_law_8 18 rfl rfl)
theorem dL_law_209 : decode cL_law 209 = .ok (.aload_n 1, 1) := dk_43 (dk_at dksL_law_8 21 rfl rfl)
theorem dL_law_210 : decode cL_law 210 = .ok (.iload 7, 2) := dk_21 7 (dk_at dksL_law_8 22 rfl rfl)
theorem dL_law_212 : decode cL_law 212 = .ok (.iload 6, 2) := dk_21 6 (dk_at dksL_law_9 0 rfl rfl)
theorem dL_law_214 : decode cL_law 214 = .ok (.iload 7, 2) := dk_21 7 (dk_at dksL_law_9 2 rfl rfl)
theorem dL_law_216 : decode cL_law 216 = .ok (.iconst (-1), 1) := dk_2 (dk_at dksL_law_9 4 rfl rfl)
theorem dL_law_217 : decode cL_law 217 = .ok (.ixor, 1) := dk_130 (dk_at dksL_law_9 5 rfl rfl)
theorem dL_law_218 : decode cL_law 218 = .ok (.aload_n 0, 1) := dk_42 (dk_at dksL_law_9 6 rfl rfl)
theorem dL_law_219 : decode cL_law 219 = .ok (.bipush 6, 2) := dk_16 6 (dk_at dksL_law_9 7 rfl rfl)
theorem dL_law_221 : decode cL_law 221 = .ok (.iload 5, 2) := dk_21 5 (dk_at dksL_law_9 9 rfl rfl)
theorem dL_law_223 : decode cL_law 223 = .ok (.imul, 1) := dk_104 (dk_at dksL_law_9 11 rfl rfl)
theorem dL_law_224 : decode cL_law 224 = .ok (.iconst 1, 1) := dk_4 (dk_at dksL_law_9 12 rfl rfl)
theorem dL_law_225 : decode cL_law 225 = .ok (.iadd, 1) := dk_96 (dk_at dksL_law_9 13 rfl rfl)
theorem dL_law_226 : decode cL_law 226 = .ok (.invokestatic 45, 3) := dk_184 0 45 (dk_at dksL_law_9 14 rfl rfl)
theorem dL_law_229 : decode cL_law 229 = .ok (.invokevirtual 65, 3) := dk_182 0 65 (dk_at dksL_law_9 17 rfl rfl)
theorem dL_law_232 : decode cL_law 232 = .ok (.aload_n 3, 1) := dk_45 (dk_at dksL_law_9 20 rfl rfl)
theorem dL_law_233 : decode cL_law 233 = .ok (.iconst 0, 1) := dk_3 (dk_at dksL_law_9 21 rfl rfl)
theorem dL_law_234 : decode cL_law 234 = .ok (.iload 7, 2) := dk_21 7 (dk_at dksL_law_9 22 rfl rfl)
theorem dL_law_236 : decode cL_law 236 = .ok (.invokestatic 61, 3) := dk_184 0 61 (dk_at dksL_law_10 0 rfl rfl)
theorem dL_law_239 : decode cL_law 239 = .ok (.aload_n 3, 1) := dk_45 (dk_at dksL_law_10 3 rfl rfl)
theorem dL_law_240 : decode cL_law 240 = .ok (.iconst 4, 1) := dk_7 (dk_at dksL_law_10 4 rfl rfl)
theorem dL_law_241 : decode cL_law 241 = .ok (.iload 6, 2) := dk_21 6 (dk_at dksL_law_10 5 rfl rfl)
theorem dL_law_243 : decode cL_law 243 = .ok (.invokestatic 61, 3) := dk_184 0 61 (dk_at dksL_law_10 7 rfl rfl)
theorem dL_law_246 : decode cL_law 246 = .ok (.aload_n 3, 1) := dk_45 (dk_at dksL_law_10 10 rfl rfl)
theorem dL_law_247 : decode cL_law 247 = .ok (.bipush 8, 2) := dk_16 8 (dk_at dksL_law_10 11 rfl rfl)
theorem dL_law_249 : decode cL_law 249 = .ok (.iload 7, 2) := dk_21 7 (dk_at dksL_law_10 13 rfl rfl)
theorem dL_law_251 : decode cL_law 251 = .ok (.iconst (-1), 1) := dk_2 (dk_at dksL_law_10 15 rfl rfl)
theorem dL_law_252 : decode cL_law 252 = .ok (.ixor, 1) := dk_130 (dk_at dksL_law_10 16 rfl rfl)
theorem dL_law_253 : decode cL_law 253 = .ok (.invokestatic 61, 3) := dk_184 0 61 (dk_at dksL_law_10 17 rfl rfl)
theorem dL_law_256 : decode cL_law 256 = .ok (.aload_n 3, 1) := dk_45 (dk_at dksL_law_10 20 rfl rfl)
theorem dL_law_257 : decode cL_law 257 = .ok (.bipush 12, 2) := dk_16 12 (dk_at dksL_law_10 21 rfl rfl)
theorem dL_law_259 : decode cL_law 259 = .ok (.aload_n 0, 1) := dk_42 (dk_at dksL_law_10 23 rfl rfl)
theorem dL_law_260 : decode cL_law 260 = .ok (.bipush 6, 2) := dk_16 6 (dk_at dksL_law_11 0 rfl rfl)
theorem dL_law_262 : decode cL_law 262 = .ok (.iload 5, 2) := dk_21 5 (dk_at dksL_law_11 2 rfl rfl)
theorem dL_law_264 : decode cL_law 264 = .ok (.imul, 1) := dk_104 (dk_at dksL_law_11 4 rfl rfl)
theorem dL_law_265 : decode cL_law 265 = .ok (.iconst 1, 1) := dk_4 (dk_at dksL_law_11 5 rfl rfl)
theorem dL_law_266 : decode cL_law 266 = .ok (.iadd, 1) := dk_96 (dk_at dksL_law_11 6 rfl rfl)
theorem dL_law_267 : decode cL_law 267 = .ok (.invokestatic 45, 3) := dk_184 0 45 (dk_at dksL_law_11 7 rfl rfl)
theorem dL_law_270 : decode cL_law 270 = .ok (.invokestatic 61, 3) := dk_184 0 61 (dk_at dksL_law_11 10 rfl rfl)
theorem dL_law_273 : decode cL_law 273 = .ok (.iload 6, 2) := dk_21 6 (dk_at dksL_law_11 13 rfl rfl)
theorem dL_law_275 : decode cL_law 275 = .ok (.bipush 10, 2) := dk_16 10 (dk_at dksL_law_11 15 rfl rfl)
theorem dL_law_277 : decode cL_law 277 = .ok (.ishr, 1) := dk_122 (dk_at dksL_law_11 17 rfl rfl)
theorem dL_law_278 : decode cL_law 278 = .ok (.iconst 1, 1) := dk_4 (dk_at dksL_law_11 18 rfl rfl)
theorem dL_law_279 : decode cL_law 279 = .ok (.iand, 1) := dk_126 (dk_at dksL_law_11 19 rfl rfl)
theorem dL_law_280 : decode cL_law 280 = .ok (.ifCond .ne 7, 3) := dk_154 0 7 (dk_at dksL_law_11 20 rfl rfl)
theorem dL_law_283 : decode cL_law 283 = .ok (.iconst 1, 1) := dk_4 (dk_at dksL_law_11 23 rfl rfl)
theorem dL_law_284 : decode cL_law 284 = .ok (.goto 4, 3) := dk_167 0 4 (dk_at dksL_law_12 0 rfl rfl)
theorem dL_law_287 : decode cL_law 287 = .ok (.iconst 0, 1) := dk_3 (dk_at dksL_law_12 3 rfl rfl)
theorem dL_law_288 : decode cL_law 288 = .ok (.istore 9, 2) := dk_54 9 (dk_at dksL_law_12 4 rfl rfl)
theorem dL_law_290 : decode cL_law 290 = .ok (.iload 9, 2) := dk_21 9 (dk_at dksL_law_12 6 rfl rfl)
theorem dL_law_292 : decode cL_law 292 = .ok (.ifCond .eq 12, 3) := dk_153 0 12 (dk_at dksL_law_12 8 rfl rfl)
theorem dL_law_295 : decode cL_law 295 = .ok (.aload_n 1, 1) := dk_43 (dk_at dksL_law_12 11 rfl rfl)
theorem dL_law_296 : decode cL_law 296 = .ok (.iload 7, 2) := dk_21 7 (dk_at dksL_law_12 12 rfl rfl)
theorem dL_law_298 : decode cL_law 298 = .ok (.invokevirtual 69, 3) := dk_182 0 69 (dk_at dksL_law_12 14 rfl rfl)
theorem dL_law_301 : decode cL_law 301 = .ok (.goto 9, 3) := dk_167 0 9 (dk_at dksL_law_12 17 rfl rfl)
theorem dL_law_304 : decode cL_law 304 = .ok (.aload_n 1, 1) := dk_43 (dk_at dksL_law_12 20 rfl rfl)
theorem dL_law_305 : decode cL_law 305 = .ok (.iload 7, 2) := dk_21 7 (dk_at dksL_law_12 21 rfl rfl)
theorem dL_law_307 : decode cL_law 307 = .ok (.invokevirtual 73, 3) := dk_182 0 73 (dk_at dksL_law_13 0 rfl rfl)
theorem dL_law_310 : decode cL_law 310 = .ok (.iload 9, 2) := dk_21 9 (dk_at dksL_law_13 3 rfl rfl)
theorem dL_law_312 : decode cL_law 312 = .ok (.ifCond .eq 11, 3) := dk_153 0 11 (dk_at dksL_law_13 5 rfl rfl)
theorem dL_law_315 : decode cL_law 315 = .ok (.aload_n 2, 1) := dk_44 (dk_at dksL_law_13 8 rfl rfl)
theorem dL_law_316 : decode cL_law 316 = .ok (.aload_n 3, 1) := dk_45 (dk_at dksL_law_13 9 rfl rfl)
theorem dL_law_317 : decode cL_law 317 = .ok (.invokestatic 76, 3) := dk_184 0 76 (dk_at dksL_law_13 10 rfl rfl)
theorem dL_law_320 : decode cL_law 320 = .ok (.goto 8, 3) := dk_167 0 8 (dk_at dksL_law_13 13 rfl rfl)
theorem dL_law_323 : decode cL_law 323 = .ok (.aload_n 2, 1) := dk_44 (dk_at dksL_law_13 16 rfl rfl)
theorem dL_law_324 : decode cL_law 324 = .ok (.aload_n 3, 1) := dk_45 (dk_at dksL_law_13 17 rfl rfl)
theorem dL_law_325 : decode cL_law 325 = .ok (.invokestatic 80, 3) := dk_184 0 80 (dk_at dksL_law_13 18 rfl rfl)
theorem dL_law_328 : decode cL_law 328 = .ok (.astore 4, 2) := dk_58 4 (dk_at dksL_law_13 21 rfl rfl)
theorem dL_law_330 : decode cL_law 330 = .ok (.aload_n 1, 1) := dk_43 (dk_at dksL_law_13 23 rfl rfl)
theorem dL_law_331 : decode cL_law 331 = .ok (.aload 4, 2) := dk_25 4 (dk_at dksL_law_14 0 rfl rfl)
theorem dL_law_333 : decode cL_law 333 = .ok (.iload 7, 2) := dk_21 7 (dk_at dksL_law_14 2 rfl rfl)
theorem dL_law_335 : decode cL_law 335 = .ok (.invokestatic 49, 3) := dk_184 0 49 (dk_at dksL_law_14 4 rfl rfl)
theorem dL_law_338 : decode cL_law 338 = .ok (.ifCond .ne 5, 3) := dk_154 0 5 (dk_at dksL_law_14 7 rfl rfl)
theorem dL_law_341 : decode cL_law 341 = .ok (.iconst 0, 1) := dk_3 (dk_at dksL_law_14 10 rfl rfl)
theorem dL_law_342 : decode cL_law 342 = .ok (.ireturn, 1) := dk_172 (dk_at dksL_law_14 11 rfl rfl)
theorem dL_law_343 : decode cL_law 343 = .ok (.aload_n 3, 1) := dk_45 (dk_at dksL_law_14 12 rfl rfl)
theorem dL_law_344 : decode cL_law 344 = .ok (.astore 10, 2) := dk_58 10 (dk_at dksL_law_14 13 rfl rfl)
theorem dL_law_346 : decode cL_law 346 = .ok (.aload_n 1, 1) := dk_43 (dk_at dksL_law_14 15 rfl rfl)
theorem dL_law_347 : decode cL_law 347 = .ok (.invokevirtual 83, 3) := dk_182 0 83 (dk_at dksL_law_14 16 rfl rfl)
theorem dL_law_350 : decode cL_law 350 = .ok (.bipush 16, 2) := dk_16 16 (dk_at dksL_law_14 19 rfl rfl)
theorem dL_law_352 : decode cL_law 352 = .ok (.newarray .byte, 2) := dk_188_8 (dk_at dksL_law_14 21 rfl rfl)
theorem dL_law_354 : decode cL_law 354 = .ok (.astore_n 3, 1) := dk_78 (dk_at dksL_law_14 23 rfl rfl)
theorem dL_law_355 : decode cL_law 355 = .ok (.iconst 0, 1) := dk_3 (dk_at dksL_law_15 0 rfl rfl)
theorem dL_law_356 : decode cL_law 356 = .ok (.istore 11, 2) := dk_54 11 (dk_at dksL_law_15 1 rfl rfl)
theorem dL_law_358 : decode cL_law 358 = .ok (.iload 11, 2) := dk_21 11 (dk_at dksL_law_15 3 rfl rfl)
theorem dL_law_360 : decode cL_law 360 = .ok (.bipush 16, 2) := dk_16 16 (dk_at dksL_law_15 5 rfl rfl)
theorem dL_law_362 : decode cL_law 362 = .ok (.if_icmp .ge 18, 3) := dk_162 0 18 (dk_at dksL_law_15 7 rfl rfl)
theorem dL_law_365 : decode cL_law 365 = .ok (.aload_n 3, 1) := dk_45 (dk_at dksL_law_15 10 rfl rfl)
theorem dL_law_366 : decode cL_law 366 = .ok (.iload 11, 2) := dk_21 11 (dk_at dksL_law_15 11 rfl rfl)
theorem dL_law_368 : decode cL_law 368 = .ok (.aload 4, 2) := dk_25 4 (dk_at dksL_law_15 13 rfl rfl)
theorem dL_law_370 : decode cL_law 370 = .ok (.iload 11, 2) := dk_21 11 (dk_at dksL_law_15 15 rfl rfl)
theorem dL_law_372 : decode cL_law 372 = .ok (.baload, 1) := dk_51 (dk_at dksL_law_15 17 rfl rfl)
theorem dL_law_373 : decode cL_law 373 = .ok (.bastore, 1) := dk_84 (dk_at dksL_law_15 18 rfl rfl)
theorem dL_law_374 : decode cL_law 374 = .ok (.iinc 11 1, 3) := dk_132 11 1 (dk_at dksL_law_15 19 rfl rfl)
theorem dL_law_377 : decode cL_law 377 = .ok (.goto (-19), 3) := dk_167 255 237 (dk_at dksL_law_16 0 rfl rfl)
theorem dL_law_380 : decode cL_law 380 = .ok (.aload_n 1, 1) := dk_43 (dk_at dksL_law_16 3 rfl rfl)
theorem dL_law_381 : decode cL_law 381 = .ok (.aload 4, 2) := dk_25 4 (dk_at dksL_law_16 4 rfl rfl)
theorem dL_law_383 : decode cL_law 383 = .ok (.iload 6, 2) := dk_21 6 (dk_at dksL_law_16 6 rfl rfl)
theorem dL_law_385 : decode cL_law 385 = .ok (.invokestatic 49, 3) := dk_184 0 49 (dk_at dksL_law_16 8 rfl rfl)
theorem dL_law_388 : decode cL_law 388 = .ok (.ifCond .ne 5, 3) := dk_154 0 5 (dk_at dksL_law_16 11 rfl rfl)
theorem dL_law_391 : decode cL_law 391 = .ok (.iconst 0, 1) := dk_3 (dk_at dksL_law_16 14 rfl rfl)
theorem dL_law_392 : decode cL_law 392 = .ok (.ireturn, 1) := dk_172 (dk_at dksL_law_16 15 rfl rfl)
theorem dL_law_393 : decode cL_law 393 = .ok (.iload 9, 2) := dk_21 9 (dk_at dksL_law_16 16 rfl rfl)
theorem dL_law_395 : decode cL_law 395 = .ok (.ifCond .eq 12, 3) := dk_153 0 12 (dk_at dksL_law_16 18 rfl rfl)
theorem dL_law_398 : decode cL_law 398 = .ok (.aload_n 1, 1) := dk_43 (dk_at dksL_law_16 21 rfl rfl)
theorem dL_law_399 : decode cL_law 399 = .ok (.iload 6, 2) := dk_21 6 (dk_at dksL_law_16 22 rfl rfl)
theorem dL_law_401 : decode cL_law 401 = .ok (.invokevirtual 73, 3) := dk_182 0 73 (dk_at dksL_law_17 0 rfl rfl)
theorem dL_law_404 : decode cL_law 404 = .ok (.goto 9, 3) := dk_167 0 9 (dk_at dksL_law_17 3 rfl rfl)
theorem dL_law_407 : decode cL_law 407 = .ok (.aload_n 1, 1) := dk_43 (dk_at dksL_law_17 6 rfl rfl)
theorem dL_law_408 : decode cL_law 408 = .ok (.iload 6, 2) := dk_21 6 (dk_at dksL_law_17 7 rfl rfl)
theorem dL_law_410 : decode cL_law 410 = .ok (.invokevirtual 69, 3) := dk_182 0 69 (dk_at dksL_law_17 9 rfl rfl)
theorem dL_law_413 : decode cL_law 413 = .ok (.iload 9, 2) := dk_21 9 (dk_at dksL_law_17 12 rfl rfl)
theorem dL_law_415 : decode cL_law 415 = .ok (.ifCond .eq 11, 3) := dk_153 0 11 (dk_at dksL_law_17 14 rfl rfl)
theorem dL_law_418 : decode cL_law 418 = .ok (.aload_n 2, 1) := dk_44 (dk_at dksL_law_17 17 rfl rfl)
theorem dL_law_419 : decode cL_law 419 = .ok (.aload_n 3, 1) := dk_45 (dk_at dksL_law_17 18 rfl rfl)
theorem dL_law_420 : decode cL_law 420 = .ok (.invokestatic 80, 3) := dk_184 0 80 (dk_at dksL_law_17 19 rfl rfl)
theorem dL_law_423 : decode cL_law 423 = .ok (.goto 8, 3) := dk_167 0 8 (dk_at dksL_law_18 0 rfl rfl)
theorem dL_law_426 : decode cL_law 426 = .ok (.aload_n 2, 1) := dk_44 (dk_at dksL_law_18 3 rfl rfl)
theorem dL_law_427 : decode cL_law 427 = .ok (.aload_n 3, 1) := dk_45 (dk_at dksL_law_18 4 rfl rfl)
theorem dL_law_428 : decode cL_law 428 = .ok (.invokestatic 76, 3) := dk_184 0 76 (dk_at dksL_law_18 5 rfl rfl)
theorem dL_law_431 : decode cL_law 431 = .ok (.astore 4, 2) := dk_58 4 (dk_at dksL_law_18 8 rfl rfl)
theorem dL_law_433 : decode cL_law 433 = .ok (.aload 4, 2) := dk_25 4 (dk_at dksL_law_18 10 rfl rfl)
theorem dL_law_435 : decode cL_law 435 = .ok (.aload 10, 2) := dk_25 10 (dk_at dksL_law_18 12 rfl rfl)
theorem dL_law_437 : decode cL_law 437 = .ok (.invokestatic 86, 3) := dk_184 0 86 (dk_at dksL_law_18 14 rfl rfl)
theorem dL_law_440 : decode cL_law 440 = .ok (.ifCond .eq 14, 3) := dk_153 0 14 (dk_at dksL_law_18 17 rfl rfl)
theorem dL_law_443 : decode cL_law 443 = .ok (.aload_n 1, 1) := dk_43 (dk_at dksL_law_18 20 rfl rfl)
theorem dL_law_444 : decode cL_law 444 = .ok (.aload 10, 2) := dk_25 10 (dk_at dksL_law_18 21 rfl rfl)
theorem dL_law_446 : decode cL_law 446 = .ok (.bipush 7, 2) := dk_16 7 (dk_at dksL_law_19 0 rfl rfl)
theorem dL_law_448 : decode cL_law 448 = .ok (.invokestatic 49, 3) := dk_184 0 49 (dk_at dksL_law_19 2 rfl rfl)
theorem dL_law_451 : decode cL_law 451 = .ok (.ifCond .ne 5, 3) := dk_154 0 5 (dk_at dksL_law_19 5 rfl rfl)
theorem dL_law_454 : decode cL_law 454 = .ok (.iconst 0, 1) := dk_3 (dk_at dksL_law_19 8 rfl rfl)
theorem dL_law_455 : decode cL_law 455 = .ok (.ireturn, 1) := dk_172 (dk_at dksL_law_19 9 rfl rfl)
theorem dL_law_456 : decode cL_law 456 = .ok (.iinc 5 1, 3) := dk_132 5 1 (dk_at dksL_law_19 10 rfl rfl)
theorem dL_law_459 : decode cL_law 459 = .ok (.goto (-416), 3) := dk_167 254 96 (dk_at dksL_law_19 13 rfl rfl)
theorem dL_law_462 : decode cL_law 462 = .ok (.iconst 1, 1) := dk_4 (dk_at dksL_law_19 16 rfl rfl)
theorem dL_law_463 : decode cL_law 463 = .ok (.ireturn, 1) := dk_172 (dk_at dksL_law_19 17 rfl rfl)
end
section
/-! ===== the plain law: RC5 with words of 64 bits, no program in sight. The rows up to uN_inj are of BITS.to-paste ===== -/
theorem wb_tb (n : Nat) : (lN n).toBitVec = BitVec.ofNat 64 n := rfl
theorem wb_inj {a b : Int64} (h : a.toBitVec = b.toBitVec) : a = b := Int64.toBitVec_inj.mp h
theorem wb_tn {n : Nat} (h : n < 2 ^ 64) : (lN n).toBitVec.toNat = n := by rw [wb_tb, BitVec.toNat_ofNat, Nat.mod_eq_of_lt h]
theorem wb_of (x : Int64) : ∃ n, n < 2 ^ 64 ∧ x = lN n := ⟨x.toBitVec.toNat, x.toBitVec.isLt, wb_inj (by rw [wb_tb]; simp)⟩
theorem wb_c : ∀ k, k < 64 → ((nI k).toInt64 &&& 63) = lN k := by decide +kernel
theorem wb_cu : ∀ k, k < 64 → ((nI k).toInt64.toUInt64 &&& Int64.toUInt64 63) = UInt64.ofNat k := by decide +kernel
theorem wb_sm : ∀ k, k < 64 → (BitVec.ofNat 64 k).smod 64 = BitVec.ofNat 64 k := by decide +kernel
theorem wb_lt2 {a b : Nat} (h : a < b) : 2 ^ a < 2 ^ b := Nat.pow_lt_pow_right (by decide) h
theorem wb_shr {n k : Nat} (hn : n < 2 ^ 64) (hk : k < 64) : ((lN n).toUInt64 >>> ((nI k).toInt64.toUInt64 &&& Int64.toUInt64 63)).toInt64 = lN (n / 2 ^ k) := by
  rw [wb_cu k hk]
  apply wb_inj
  apply BitVec.eq_of_toNat_eq
  show ((lN n).toUInt64 >>> UInt64.ofNat k).toNat = (BitVec.ofNat 64 _).toNat
  have h1 : (UInt64.ofNat k).toNat = k := by
    show (BitVec.ofNat 64 k).toNat = k
    rw [BitVec.toNat_ofNat, Nat.mod_eq_of_lt (by omega)]
  have h2 : (lN n).toUInt64.toNat = n := wb_tn hn
  rw [UInt64.toNat_shiftRight, h1, h2, Nat.mod_eq_of_lt hk, Nat.shiftRight_eq_div_pow, BitVec.toNat_ofNat, Nat.mod_eq_of_lt (Nat.lt_of_le_of_lt (Nat.div_le_self _ _) hn)]
theorem wb_shl (n : Nat) {k : Nat} (hk : k < 64) : lN n <<< ((nI k).toInt64 &&& 63) = lN (n * 2 ^ k) := by
  rw [wb_c k hk]
  apply wb_inj
  rw [Int64.toBitVec_shiftLeft, wb_tb, wb_tb, wb_tb, wb_sm k hk]
  apply BitVec.eq_of_toNat_eq
  rw [BitVec.shiftLeft_eq', BitVec.toNat_shiftLeft, BitVec.toNat_ofNat, BitVec.toNat_ofNat, BitVec.toNat_ofNat, Nat.mod_eq_of_lt (show k < 2 ^ 64 by omega), Nat.shiftLeft_eq, Nat.mul_mod, Nat.mod_mod, ← Nat.mul_mod]
theorem wb_and {a b : Nat} (ha : a < 2 ^ 64) (hb : b < 2 ^ 64) : lN a &&& lN b = lN (a &&& b) := by
  apply wb_inj
  rw [Int64.toBitVec_and, wb_tb, wb_tb, wb_tb]
  apply BitVec.eq_of_toNat_eq
  rw [BitVec.toNat_and, BitVec.toNat_ofNat, BitVec.toNat_ofNat, BitVec.toNat_ofNat, Nat.mod_eq_of_lt ha, Nat.mod_eq_of_lt hb, Nat.mod_eq_of_lt (Nat.and_lt_two_pow _ hb)]
theorem wb_mask {n k : Nat} (hn : n < 2 ^ 64) (hk : k < 64) : lN n &&& lN (2 ^ k - 1) = lN (n % 2 ^ k) := by
  rw [wb_and hn (by have := wb_lt2 hk; omega), Nat.and_two_pow_sub_one_eq_mod]
theorem u_tn {n : Nat} (h : n < 2 ^ 64) : (UInt64.ofNat n).toNat = n := Nat.mod_eq_of_lt h
theorem g_or {k p a b : Nat} (hp : 2 ^ k = p) (ha : a < p) (h : b * p + a < 2 ^ 64) : lN (b * p) ||| lN a = lN (b * p + a) := by
  subst hp
  have h1 : b * 2 ^ k ||| a = b * 2 ^ k + a := by rw [← Nat.shiftLeft_eq, Nat.shiftLeft_add_eq_or_of_lt ha]
  have h3 : UInt64.ofNat (b * 2 ^ k) ||| UInt64.ofNat a = UInt64.ofNat (b * 2 ^ k + a) := UInt64.toNat_inj.mp (by rw [UInt64.toNat_or, u_tn (by omega), u_tn (by omega), u_tn h, h1])
  have h2 := congrArg UInt64.toInt64 h3
  exact h2
theorem g_or' {k p a b : Nat} (hp : 2 ^ k = p) (ha : a < p) (h : a + b * p < 2 ^ 64) : lN a ||| lN (b * p) = lN (a + b * p) := by
  rw [Int64.or_comm, g_or hp ha (by omega), Nat.add_comm]
/-! rotations -/
def rc_rt (x : Int64) (n : Nat) : Int64 := (x <<< lN n) ||| (x.toUInt64 >>> UInt64.ofNat ((64 - n) % 64)).toInt64
/-- rotation to the left by a long -/
def rc_ro (x y : Int64) : Int64 := rc_rt x (y.toBitVec.toNat % 64)
theorem rc_63 (y : Int64) : y &&& 63 = lN (y.toBitVec.toNat % 64) := by
  obtain ⟨n, hn, rfl⟩ := wb_of y
  rw [wb_tn hn]
  exact wb_mask (k := 6) hn (by decide)
theorem rc_c1 : ∀ n, n < 64 → ((lN n).toInt32.toInt64 &&& 63) = lN n := by decide +kernel
theorem rc_c2 : ∀ n, n < 64 → ((64 - lN n).toInt32.toInt64.toUInt64 &&& Int64.toUInt64 63) = UInt64.ofNat ((64 - n) % 64) := by decide +kernel
theorem rc_c3 : ∀ n, n < 64 → ((64 - lN n).toInt32.toInt64 &&& 63) = lN ((64 - n) % 64) := by decide +kernel
theorem rc_c4 : ∀ n, n < 64 → ((lN n).toInt32.toInt64.toUInt64 &&& Int64.toUInt64 63) = UInt64.ofNat n := by decide +kernel
theorem rc_neg (y : Int64) : (-y).toBitVec.toNat % 64 = (64 - y.toBitVec.toNat % 64) % 64 := by
  have h := y.toBitVec.isLt
  rw [Int64.toBitVec_neg, BitVec.toNat_neg]
  omega
theorem rc_sub64 (y : Int64) : ((64 : Int64) - y).toBitVec.toNat % 64 = (64 - y.toBitVec.toNat % 64) % 64 := by
  have h := y.toBitVec.isLt
  have e : (64 : Int64).toBitVec.toNat = 64 := by decide
  rw [Int64.toBitVec_sub, BitVec.toNat_sub, e]
  omega
theorem rc_eL (x y : Int64) : (x <<< ((y &&& 63).toInt32.toInt64 &&& 63)) ||| (x.toUInt64 >>> ((64 - (y &&& 63)).toInt32.toInt64.toUInt64 &&& Int64.toUInt64 63)).toInt64 = rc_ro x y := by
  have h := Nat.mod_lt y.toBitVec.toNat (show 0 < 64 by decide)
  rw [rc_63 y, rc_c1 _ h, rc_c2 _ h]
  rfl
theorem rc_eR (x y : Int64) : (x.toUInt64 >>> ((y &&& 63).toInt32.toInt64.toUInt64 &&& Int64.toUInt64 63)).toInt64 ||| (x <<< ((64 - (y &&& 63)).toInt32.toInt64 &&& 63)) = rc_ro x (-y) := by
  have h := Nat.mod_lt y.toBitVec.toNat (show 0 < 64 by decide)
  rw [rc_63 y, rc_c4 _ h, rc_c3 _ h, Int64.or_comm]
  show _ = rc_rt x _
  rw [rc_neg]
  unfold rc_rt
  rw [show (64 - (64 - y.toBitVec.toNat % 64) % 64) % 64 = y.toBitVec.toNat % 64 from by omega]
theorem rc_lL (x y : Int64) : (x <<< ((y &&& 63).toInt32.toInt64 &&& 63)) ||| (x.toUInt64 >>> (((64 - y) &&& 63).toInt32.toInt64.toUInt64 &&& Int64.toUInt64 63)).toInt64 = rc_ro x y := by
  have h := Nat.mod_lt y.toBitVec.toNat (show 0 < 64 by decide)
  rw [rc_63 y, rc_c1 _ h, rc_63 (64 - y), rc_sub64, rc_c4 _ (Nat.mod_lt _ (by decide))]
  rfl
theorem rc_rt_bit (x : Int64) (n : Nat) (hn : n < 64) (i : Nat) (hi : i < 64) : (rc_rt x n).toBitVec.getLsbD i = x.toBitVec.getLsbD ((i + (64 - n)) % 64) := by
  have e1 : (x <<< lN n).toBitVec = x.toBitVec <<< n := by
    rw [Int64.toBitVec_shiftLeft, wb_tb, wb_sm n hn, BitVec.shiftLeft_eq', BitVec.toNat_ofNat, Nat.mod_eq_of_lt (by omega)]
  have hm : (64 - n) % 64 < 64 := Nat.mod_lt _ (by decide)
  have e2 : ((x.toUInt64 >>> UInt64.ofNat ((64 - n) % 64)).toInt64).toBitVec = x.toBitVec >>> ((64 - n) % 64) := by
    apply BitVec.eq_of_toNat_eq
    show (x.toUInt64 >>> UInt64.ofNat ((64 - n) % 64)).toNat = _
    rw [UInt64.toNat_shiftRight, u_tn (by omega), Nat.mod_eq_of_lt hm, BitVec.toNat_ushiftRight]
    rfl
  unfold rc_rt
  rw [Int64.toBitVec_or, e1, e2, BitVec.getLsbD_or, BitVec.getLsbD_shiftLeft, BitVec.getLsbD_ushiftRight]
  rcases Nat.lt_or_ge i n with h | h
  · rw [show (64 - n) % 64 + i = (i + (64 - n)) % 64 from by omega]
    simp [h]
  · rw [show (i + (64 - n)) % 64 = i - n from by omega]
    by_cases h0 : n = 0
    · subst h0
      simp [hi]
    · rw [BitVec.getLsbD_of_ge x.toBitVec _ (show 64 ≤ (64 - n) % 64 + i by omega)]
      simp [hi, Nat.not_lt.mpr h]
theorem rc_rt_inv (x : Int64) (n : Nat) (hn : n < 64) : rc_rt (rc_rt x n) ((64 - n) % 64) = x := by
  apply wb_inj
  apply BitVec.eq_of_getLsbD_eq
  intro i hi
  rw [rc_rt_bit _ _ (Nat.mod_lt _ (by decide)) i hi, rc_rt_bit x n hn _ (Nat.mod_lt _ (by decide))]
  rw [show ((i + (64 - (64 - n) % 64)) % 64 + (64 - n)) % 64 = i from by omega]
theorem rc_ro_neg (x y : Int64) : rc_ro (rc_ro x y) (-y) = x := by
  unfold rc_ro
  rw [rc_neg]
  exact rc_rt_inv x _ (Nat.mod_lt _ (by decide))
theorem rc_neg_ro (x y : Int64) : rc_ro (rc_ro x (-y)) y = x := by
  have h := rc_ro_neg x (-y)
  rwa [Int64.neg_neg] at h
/-! bytes of a word -/
def rc_b (x : Int32) : Nat := x.toBitVec.toNat % 256
theorem rc_b_lt (x : Int32) : rc_b x < 256 := Nat.mod_lt _ (by decide)
theorem rc_b255 (x : Int32) : x &&& 255 = nI (rc_b x) := pk_and x 8 (by decide)
theorem rc_bE (x : Int32) : (x &&& 255).toInt64 = lN (rc_b x) := by
  have h := rc_b_lt x
  rw [rc_b255, nI_l (by omega)]
theorem rc_bL (x : Int32) : x.toInt64 &&& 255 = lN (rc_b x) := by
  obtain ⟨m, hm, e⟩ := wb_of x.toInt64
  have h1 : x.toInt64.toBitVec.toInt = x.toBitVec.toInt := Int32.toInt_toInt64 x
  rw [BitVec.toInt_eq_toNat_cond, BitVec.toInt_eq_toNat_cond, e, wb_tn hm] at h1
  rw [e]
  have h2 : m % 256 = rc_b x := by
    unfold rc_b
    have := x.toBitVec.isLt
    split at h1 <;> split at h1 <;> omega
  rw [← h2]
  exact wb_mask (k := 8) hm (by decide)
def rc_w (f : Nat → Int32) (o : Nat) : Nat → Nat
  | 0 => 0
  | k + 1 => rc_w f o k + rc_b (f (o + k)) * 256 ^ k
theorem rc_w_lt (f : Nat → Int32) (o : Nat) : ∀ k, rc_w f o k < 256 ^ k
  | 0 => by simp [rc_w]
  | k + 1 => by
    have h1 := rc_w_lt f o k
    have h2 : rc_b (f (o + k)) * 256 ^ k ≤ 255 * 256 ^ k := Nat.mul_le_mul_right _ (by have := rc_b_lt (f (o + k)); omega)
    rw [rc_w, Nat.pow_succ]
    omega
/-- eight bytes from o on, the lowest first -/
def rc_wd (f : Nat → Int32) (o : Nat) : Int64 := lN (rc_w f o 8)
theorem rc_28 (k : Nat) : (2 : Nat) ^ (8 * k) = 256 ^ k := by
  rw [show (256 : Nat) = 2 ^ 8 from rfl, ← Nat.pow_mul]
theorem rc_p8 {k : Nat} (h : k ≤ 8) : (256 : Nat) ^ k ≤ 2 ^ 64 := by
  have := Nat.pow_le_pow_right (n := 256) (by decide) h
  exact Nat.le_trans this (by decide)
theorem rc_wl {f : Nat → Int32} {o k : Nat} (hk : k < 8) : lN (rc_w f o k) ||| (lN (rc_b (f (o + k))) <<< ((nI (8 * k)).toInt64 &&& 63)) = lN (rc_w f o (k + 1)) := by
  have h1 := rc_w_lt f o (k + 1)
  have h2 := rc_p8 (show k + 1 ≤ 8 by omega)
  rw [rc_w] at h1
  rw [wb_shl _ (show 8 * k < 64 by omega), rc_28, rc_w]
  exact g_or' (rc_28 k) (rc_w_lt f o k) (by omega)
def rc_T (f : Nat → Int32) (o : Nat) : Nat → Nat
  | 0 => 0
  | c + 1 => rc_T f o c * 256 + rc_b (f (o + (7 - c)))
theorem rc_T_s (f : Nat → Int32) (o c : Nat) : (lN (rc_T f o c) <<< ((nI 8).toInt64 &&& 63)) + lN (rc_b (f (o + (7 - c)))) = lN (rc_T f o (c + 1)) := by
  rw [wb_shl _ (by decide), lN_add, rc_T]
theorem rc_T8 (f : Nat → Int32) (o : Nat) : lN (rc_T f o 8) = rc_wd f o := by
  unfold rc_wd
  congr 1
  simp [rc_T, rc_w]
  omega
/-- the bytes of a word -/
def rc_bo (v : Int64) (k : Nat) : Int32 := (lN (v.toBitVec.toNat / 256 ^ k)).toInt32.toInt8.toInt32
theorem rc_pl (v : Int64) {k : Nat} (hk : k < 8) : (v.toUInt64 >>> ((nI (8 * k)).toInt64.toUInt64 &&& Int64.toUInt64 63)).toInt64 = lN (v.toBitVec.toNat / 256 ^ k) := by
  obtain ⟨n, hn, rfl⟩ := wb_of v
  rw [wb_tn hn, wb_shr hn (by omega), rc_28]
theorem rc_pe (v : Int64) (k : Nat) : ((lN (v.toBitVec.toNat / 256 ^ k)).toUInt64 >>> ((nI 8).toInt64.toUInt64 &&& Int64.toUInt64 63)).toInt64 = lN (v.toBitVec.toNat / 256 ^ (k + 1)) := by
  have e : (256 : Nat) ^ k * 2 ^ 8 = 256 ^ (k + 1) := rfl
  rw [wb_shr (Nat.lt_of_le_of_lt (Nat.div_le_self _ _) v.toBitVec.isLt) (by decide), Nat.div_div_eq_div_mul, e]
theorem rc_p0 (v : Int64) : v = lN (v.toBitVec.toNat / 256 ^ 0) := by
  obtain ⟨n, hn, rfl⟩ := wb_of v
  rw [wb_tn hn]
  simp
def rc_pf (f : Nat → Int32) (o : Nat) (v : Int64) (k : Nat) : Nat → Int32 := fun j => if o ≤ j ∧ j < o + k then rc_bo v (j - o) else f j
theorem rc_pf_0 (f : Nat → Int32) (o : Nat) (v : Int64) : rc_pf f o v 0 = f := by
  funext j
  exact if_neg (by omega)
theorem rc_pf_s (f : Nat → Int32) (o : Nat) (v : Int64) (k : Nat) : upd (rc_pf f o v k) (o + k) (rc_bo v k) = rc_pf f o v (k + 1) := by
  funext j
  unfold upd rc_pf
  by_cases h : j = o + k
  · subst h
    rw [if_pos rfl, if_pos (by omega), Nat.add_sub_cancel_left]
  · rw [if_neg h]
    by_cases h2 : o ≤ j ∧ j < o + k
    · rw [if_pos h2, if_pos (by omega)]
    · rw [if_neg h2, if_neg (by omega)]
/-- a byte's value -/
def rc_B (x : Int32) : Prop := x.toInt8.toInt32 = x
theorem rc_B_i8 (z : Int32) : rc_B z.toInt8.toInt32 := pk_vb z
theorem rc_B_0 : rc_B 0 := by
  unfold rc_B
  decide
theorem rc_B_bo (v : Int64) (k : Nat) : rc_B (rc_bo v k) := rc_B_i8 _
theorem rc_nar {x : Int32} (h : rc_B x) : vp_nar .byte x = x := h
theorem rc_fits {x : Int32} (h : rc_B x) : fits .byte (.int x) = true := by
  have e := pk_fb x
  rw [show x.toInt8.toInt32 = x from h] at e
  exact e
def rc_oF (p : Int64 × Int64) : Nat → Int32 := fun j => if j < 8 then rc_bo p.1 j else rc_bo p.2 (j - 8)
theorem rc_B_oF (p : Int64 × Int64) (j : Nat) : rc_B (rc_oF p j) := by
  unfold rc_oF
  split
  · exact rc_B_bo _ _
  · exact rc_B_bo _ _
theorem rc_oF_pf (f : Nat → Int32) (a b : Int64) {j : Nat} (hj : j < 16) : rc_pf (rc_pf f 0 a 8) 8 b 8 j = rc_oF (a, b) j := by
  unfold rc_pf rc_oF
  by_cases h : j < 8
  · rw [if_neg (by omega), if_pos (by omega), if_pos h, Nat.sub_zero]
  · rw [if_pos (by omega), if_neg h]
/-! a laid int -/
def rc_by (w : Int32) (s : Nat) : Int32 := (w >>> (nI s &&& 31)).toInt8.toInt32
def rc_lay (f : Nat → Int32) (o : Nat) (w : Int32) : Nat → Int32 := upd (upd (upd (upd f o (rc_by w 24)) (o + 1) (rc_by w 16)) (o + 2) (rc_by w 8)) (o + 3) w.toInt8.toInt32
theorem rc_B_upd {f : Nat → Int32} (h : ∀ j, rc_B (f j)) (k : Nat) {x : Int32} (hx : rc_B x) : ∀ j, rc_B (upd f k x j) := by
  intro j
  unfold upd
  split
  · exact hx
  · exact h j
theorem rc_B_lay {f : Nat → Int32} (h : ∀ j, rc_B (f j)) (o : Nat) (w : Int32) : ∀ j, rc_B (rc_lay f o w j) :=
  rc_B_upd (rc_B_upd (rc_B_upd (rc_B_upd h _ (rc_B_i8 _)) _ (rc_B_i8 _)) _ (rc_B_i8 _)) _ (rc_B_i8 _)
def rc_lay4 (f : Nat → Int32) (o : Nat) (a b c d : Int32) : Nat → Int32 := rc_lay (rc_lay (rc_lay (rc_lay f o a) (o + 4) b) (o + 8) c) (o + 12) d
theorem rc_B_lay4 {f : Nat → Int32} (h : ∀ j, rc_B (f j)) (o : Nat) (a b c d : Int32) : ∀ j, rc_B (rc_lay4 f o a b c d j) :=
  rc_B_lay (rc_B_lay (rc_B_lay (rc_B_lay h _ _) _ _) _ _) _ _
/-! the keys -/
def rc_s : Nat → Int64
  | 0 => -5196783011329398165
  | k + 1 => rc_s k + (-7046029254386353131)
def rc_s0 (n : Nat) : Nat → Int64 := fun j => if j < n then rc_s j else 0
theorem rc_s0_0 : (fun _ => 0) = rc_s0 0 := by
  funext j
  exact (if_neg (by omega)).symm
theorem rc_s0_s (n : Nat) : vp_updL (rc_s0 n) n (rc_s n) = rc_s0 (n + 1) := by
  funext j
  unfold vp_updL rc_s0
  by_cases h : j = n
  · subst h
    rw [if_pos rfl, if_pos (by omega)]
  · rw [if_neg h]
    by_cases h2 : j < n
    · rw [if_pos h2, if_pos (by omega)]
    · rw [if_neg h2, if_neg (by omega)]
theorem rc_s0_at {n j : Nat} (h : j < n) : rc_s0 n j = rc_s j := if_pos h
def rc_l (f : Nat → Int32) (i : Nat) : Nat → Int64 := fun j => if j = 0 then lN (rc_w f 0 (min i 8)) else if j = 1 then lN (rc_w f 8 (i - 8)) else 0
theorem rc_l_0 (f : Nat → Int32) : (fun _ => 0) = rc_l f 0 := by
  funext j
  unfold rc_l
  by_cases h0 : j = 0
  · rw [if_pos h0]; rfl
  · rw [if_neg h0]
    by_cases h1 : j = 1
    · rw [if_pos h1]; rfl
    · rw [if_neg h1]
theorem rc_l_s (f : Nat → Int32) {i : Nat} (hi : i < 16) : vp_updL (rc_l f i) (i / 8) (rc_l f i (i / 8) + (lN (rc_b (f i)) <<< ((nI (8 * (i % 8))).toInt64 &&& 63))) = rc_l f (i + 1) := by
  rw [wb_shl _ (show 8 * (i % 8) < 64 by omega), rc_28]
  funext j
  unfold vp_updL
  by_cases h : j = i / 8
  · rw [if_pos h]
    subst h
    unfold rc_l
    rcases Nat.lt_or_ge i 8 with h8 | h8
    · rw [show i / 8 = 0 from by omega, if_pos rfl, if_pos rfl, lN_add, show min i 8 = i from by omega, show min (i + 1) 8 = i + 1 from by omega, show i % 8 = i from by omega, rc_w, Nat.zero_add]
    · rw [show i / 8 = 1 from by omega, if_neg (by decide), if_pos rfl, if_neg (by decide), if_pos rfl, lN_add, show i + 1 - 8 = (i - 8) + 1 from by omega, rc_w, show i % 8 = i - 8 from by omega, show 8 + (i - 8) = i from by omega]
  · rw [if_neg h]
    unfold rc_l
    by_cases h0 : j = 0
    · rw [if_pos h0, if_pos h0, show min i 8 = min (i + 1) 8 from by omega]
    · rw [if_neg h0, if_neg h0]
      by_cases h1 : j = 1
      · rw [if_pos h1, if_pos h1, show i - 8 = i + 1 - 8 from by omega]
      · rw [if_neg h1, if_neg h1]
theorem rc_l_16 (f : Nat → Int32) : vp_updL (vp_updL (fun _ => 0) 0 (rc_wd f 0)) 1 (rc_wd f 8) = rc_l f 16 := by
  funext j
  unfold vp_updL rc_l rc_wd
  rw [show min 16 8 = 8 from by decide, show 16 - 8 = 8 from by decide]
  by_cases h1 : j = 1
  · rw [if_pos h1, if_neg (by omega), if_pos h1]
  · rw [if_neg h1, if_neg h1]
def rc_k (f : Nat → Int32) : Nat → (Nat → Int64) × (Nat → Int64) × Int64 × Int64
  | 0 => (rc_s0 26, rc_l f 16, 0, 0)
  | k + 1 => (vp_updL (rc_k f k).1 (k % 26) (rc_ro ((rc_k f k).1 (k % 26) + (rc_k f k).2.2.1 + (rc_k f k).2.2.2) 3),
    vp_updL (rc_k f k).2.1 (k % 2) (rc_ro ((rc_k f k).2.1 (k % 2) + rc_ro ((rc_k f k).1 (k % 26) + (rc_k f k).2.2.1 + (rc_k f k).2.2.2) 3 + (rc_k f k).2.2.2) (rc_ro ((rc_k f k).1 (k % 26) + (rc_k f k).2.2.1 + (rc_k f k).2.2.2) 3 + (rc_k f k).2.2.2)),
    rc_ro ((rc_k f k).1 (k % 26) + (rc_k f k).2.2.1 + (rc_k f k).2.2.2) 3,
    rc_ro ((rc_k f k).2.1 (k % 2) + rc_ro ((rc_k f k).1 (k % 26) + (rc_k f k).2.2.1 + (rc_k f k).2.2.2) 3 + (rc_k f k).2.2.2) (rc_ro ((rc_k f k).1 (k % 26) + (rc_k f k).2.2.1 + (rc_k f k).2.2.2) 3 + (rc_k f k).2.2.2))
theorem rc_k_s {f : Nat → Int32} {k : Nat} {S L : Nat → Int64} {a b a' b' : Int64} (h : rc_k f k = (S, L, a, b)) (ea : a' = rc_ro (S (k % 26) + a + b) 3) (eb : b' = rc_ro (L (k % 2) + a' + b) (a' + b)) : rc_k f (k + 1) = (vp_updL S (k % 26) a', vp_updL L (k % 2) b', a', b') := by
  subst ea
  subst eb
  rw [rc_k, h]
/-- the expanded key of the bytes f -/
def rc_K (f : Nat → Int32) : Nat → Int64 := (rc_k f 78).1
theorem rc_K_of {f : Nat → Int32} {S L : Nat → Int64} {a b : Int64} (h : rc_k f 78 = (S, L, a, b)) : S = rc_K f := by
  unfold rc_K
  rw [h]
/-! the rounds -/
def rc_er (S : Nat → Int64) (r : Nat) (p : Int64 × Int64) : Int64 × Int64 := (rc_ro (p.1 ^^^ p.2) p.2 + S (2 * r), rc_ro (p.2 ^^^ (rc_ro (p.1 ^^^ p.2) p.2 + S (2 * r))) (rc_ro (p.1 ^^^ p.2) p.2 + S (2 * r)) + S (2 * r + 1))
def rc_dr (S : Nat → Int64) (r : Nat) (p : Int64 × Int64) : Int64 × Int64 := (rc_ro (p.1 - S (2 * r)) (-(rc_ro (p.2 - S (2 * r + 1)) (-p.1) ^^^ p.1)) ^^^ (rc_ro (p.2 - S (2 * r + 1)) (-p.1) ^^^ p.1), rc_ro (p.2 - S (2 * r + 1)) (-p.1) ^^^ p.1)
def rc_e (S : Nat → Int64) : Nat → Int64 × Int64 → Int64 × Int64
  | 0, p => p
  | r + 1, p => rc_er S (r + 1) (rc_e S r p)
def rc_d (S : Nat → Int64) : Nat → Int64 × Int64 → Int64 × Int64
  | 0, p => p
  | r + 1, p => rc_d S r (rc_dr S (r + 1) p)
theorem rc_e_s {S : Nat → Int64} {r : Nat} {p : Int64 × Int64} {a b a' b' : Int64} (h : rc_e S r p = (a, b)) (ea : a' = rc_ro (a ^^^ b) b + S (2 * (r + 1))) (eb : b' = rc_ro (b ^^^ a') a' + S (2 * (r + 1) + 1)) : rc_e S (r + 1) p = (a', b') := by
  subst ea
  subst eb
  rw [rc_e, h]
  rfl
theorem rc_d_s {S : Nat → Int64} {r : Nat} {a b a' b' : Int64} (eb : b' = rc_ro (b - S (2 * (r + 1) + 1)) (-a) ^^^ a) (ea : a' = rc_ro (a - S (2 * (r + 1))) (-b') ^^^ b') : rc_d S (r + 1) (a, b) = rc_d S r (a', b') := by
  subst ea
  subst eb
  rfl
theorem rc_xx (a b : Int64) : (a ^^^ b) ^^^ b = a := by rw [Int64.xor_assoc, Int64.xor_self, Int64.xor_zero]
theorem rc_de (S : Nat → Int64) (r : Nat) (p : Int64 × Int64) : rc_dr S r (rc_er S r p) = p := by
  obtain ⟨a, b⟩ := p
  unfold rc_dr rc_er
  simp only [Int64.add_sub_cancel, rc_ro_neg, rc_xx]
theorem rc_ed (S : Nat → Int64) (r : Nat) (p : Int64 × Int64) : rc_er S r (rc_dr S r p) = p := by
  obtain ⟨a, b⟩ := p
  unfold rc_dr rc_er
  simp only [Int64.sub_add_cancel, rc_neg_ro, rc_xx]
theorem rc_d_e (S : Nat → Int64) : ∀ (r : Nat) (p : Int64 × Int64), rc_d S r (rc_e S r p) = p
  | 0, _ => rfl
  | r + 1, p => by rw [rc_e, rc_d, rc_de, rc_d_e S r p]
theorem rc_e_d (S : Nat → Int64) : ∀ (r : Nat) (p : Int64 × Int64), rc_e S r (rc_d S r p) = p
  | 0, _ => rfl
  | r + 1, p => by rw [rc_d, rc_e, rc_e_d S r, rc_ed]
def rc_En (S : Nat → Int64) (g : Nat → Int32) : Nat → Int32 := rc_oF (rc_e S 12 (rc_wd g 0 + S 0, rc_wd g 8 + S 1))
def rc_De (S : Nat → Int64) (g : Nat → Int32) : Nat → Int32 := rc_oF ((rc_d S 12 (rc_wd g 0, rc_wd g 8)).1 - S 0, (rc_d S 12 (rc_wd g 0, rc_wd g 8)).2 - S 1)
/-- what is told of a block g locked under the key f -/
def rc_E (f g : Nat → Int32) : Nat → Int32 := rc_En (rc_K f) g
/-- what is told of a block g opened under the key f -/
def rc_D (f g : Nat → Int32) : Nat → Int32 := rc_De (rc_K f) g
theorem rc_B_E (f g : Nat → Int32) (j : Nat) : rc_B (rc_E f g j) := rc_B_oF _ j
theorem rc_B_D (f g : Nat → Int32) (j : Nat) : rc_B (rc_D f g j) := rc_B_oF _ j
/-! words and bytes, there and back -/
theorem rc_i8 (m : Nat) : (lN m).toInt32.toInt8.toInt32 = (nI (m % 256)).toInt8.toInt32 := by
  rw [lN_i]
  congr 1
  apply Int8.toBitVec_inj.mp
  apply BitVec.eq_of_toNat_eq
  show ((BitVec.ofNat 32 m).signExtend 8).toNat = ((BitVec.ofNat 32 (m % 256)).signExtend 8).toNat
  rw [BitVec.signExtend_eq_setWidth_of_le _ (by decide), BitVec.signExtend_eq_setWidth_of_le _ (by decide), BitVec.toNat_setWidth, BitVec.toNat_setWidth, BitVec.toNat_ofNat, BitVec.toNat_ofNat]
  omega
theorem rc_bb : ∀ n, n < 256 → rc_b (nI n).toInt8.toInt32 = n := by
  unfold rc_b
  decide +kernel
theorem rc_b_bo (v : Int64) (k : Nat) : rc_b (rc_bo v k) = v.toBitVec.toNat / 256 ^ k % 256 := by
  unfold rc_bo
  rw [rc_i8, rc_bb _ (Nat.mod_lt _ (by decide))]
theorem rc_w_bo {g : Nat → Int32} {o : Nat} {v : Int64} : ∀ k, (∀ j, j < k → g (o + j) = rc_bo v j) → rc_w g o k = v.toBitVec.toNat % 256 ^ k
  | 0, _ => by simp [rc_w, Nat.mod_one]
  | k + 1, h => by
    rw [rc_w, rc_w_bo k (fun j hj => h j (by omega)), h k (by omega), rc_b_bo, Nat.mod_pow_succ, Nat.mul_comm]
theorem rc_wd_bo {g : Nat → Int32} {o : Nat} {v : Int64} (h : ∀ j, j < 8 → g (o + j) = rc_bo v j) : rc_wd g o = v := by
  unfold rc_wd
  rw [rc_w_bo 8 h]
  obtain ⟨n, hn, rfl⟩ := wb_of v
  rw [wb_tn hn, Nat.mod_eq_of_lt (show n < 256 ^ 8 from hn)]
theorem rc_wd_oF0 (p : Int64 × Int64) : rc_wd (rc_oF p) 0 = p.1 := rc_wd_bo (fun j hj => by
  unfold rc_oF
  rw [Nat.zero_add, if_pos hj])
theorem rc_wd_oF8 (p : Int64 × Int64) : rc_wd (rc_oF p) 8 = p.2 := rc_wd_bo (fun j hj => by
  unfold rc_oF
  rw [if_neg (by omega), Nat.add_sub_cancel_left])
theorem rc_w_at (f : Nat → Int32) (o k : Nat) : ∀ m, ∃ R, rc_w f o (k + 1 + m) = rc_w f o k + 256 ^ k * (rc_b (f (o + k)) + 256 * R)
  | 0 => ⟨0, by
    show rc_w f o (k + 1) = _
    rw [rc_w, Nat.mul_zero, Nat.add_zero, Nat.mul_comm]⟩
  | m + 1 => by
    obtain ⟨R, h⟩ := rc_w_at f o k m
    refine ⟨R + rc_b (f (o + (k + 1 + m))) * 256 ^ m, ?_⟩
    show rc_w f o (k + 1 + m + 1) = _
    rw [rc_w, h, Nat.pow_add, Nat.pow_succ]
    simp only [Nat.mul_add, Nat.add_assoc, Nat.mul_assoc, Nat.mul_left_comm, Nat.mul_comm]
theorem rc_w_dig (f : Nat → Int32) (o : Nat) {k : Nat} (hk : k < 8) : rc_w f o 8 / 256 ^ k % 256 = rc_b (f (o + k)) := by
  obtain ⟨R, h⟩ := rc_w_at f o k (7 - k)
  rw [show k + 1 + (7 - k) = 8 from by omega] at h
  rw [h, Nat.add_mul_div_left _ _ (Nat.pow_pos (by decide)), Nat.div_eq_of_lt (rc_w_lt f o k), Nat.zero_add, Nat.add_mul_mod_self_left]
  exact Nat.mod_eq_of_lt (rc_b_lt _)
theorem rc_b8 {x : Int32} (h : rc_B x) : (nI (rc_b x)).toInt8.toInt32 = x := by
  have e : (nI (rc_b x)).toInt8.toInt32 = x.toInt8.toInt32 := by
    congr 1
    apply Int8.toBitVec_inj.mp
    apply BitVec.eq_of_toNat_eq
    show ((BitVec.ofNat 32 (rc_b x)).signExtend 8).toNat = (x.toBitVec.signExtend 8).toNat
    rw [BitVec.signExtend_eq_setWidth_of_le _ (by decide), BitVec.signExtend_eq_setWidth_of_le _ (by decide), BitVec.toNat_setWidth, BitVec.toNat_setWidth, BitVec.toNat_ofNat]
    unfold rc_b
    omega
  rw [e]
  exact h
theorem rc_bo_wd {f : Nat → Int32} {o k : Nat} (hk : k < 8) (h : rc_B (f (o + k))) : rc_bo (rc_wd f o) k = f (o + k) := by
  unfold rc_bo rc_wd
  rw [rc_i8, wb_tn (show rc_w f o 8 < 2 ^ 64 from rc_w_lt f o 8), rc_w_dig f o hk, rc_b8 h]
theorem rc_oF_wd {g : Nat → Int32} (h : ∀ j, rc_B (g j)) {j : Nat} (hj : j < 16) : rc_oF (rc_wd g 0, rc_wd g 8) j = g j := by
  unfold rc_oF
  by_cases h8 : j < 8
  · rw [if_pos h8]
    have e := rc_bo_wd (f := g) (o := 0) h8 (h _)
    rw [Nat.zero_add] at e
    exact e
  · rw [if_neg h8]
    have e := rc_bo_wd (f := g) (o := 8) (show j - 8 < 8 by omega) (h _)
    rw [show 8 + (j - 8) = j from by omega] at e
    exact e
/-- opening undoes locking -/
theorem rc_DE (f g : Nat → Int32) (h : ∀ j, rc_B (g j)) {j : Nat} (hj : j < 16) : rc_D f (rc_E f g) j = g j := by
  unfold rc_D rc_E rc_De rc_En
  rw [rc_wd_oF0, rc_wd_oF8, rc_d_e, Int64.add_sub_cancel, Int64.add_sub_cancel]
  exact rc_oF_wd h hj
/-- locking undoes opening -/
theorem rc_ED (f g : Nat → Int32) (h : ∀ j, rc_B (g j)) {j : Nat} (hj : j < 16) : rc_E f (rc_D f g) j = g j := by
  unfold rc_E rc_D rc_En rc_De
  rw [rc_wd_oF0, rc_wd_oF8, Int64.sub_add_cancel, Int64.sub_add_cancel, rc_e_d]
  exact rc_oF_wd h hj
/-! copies -/
def rc_cp (f g : Nat → Int32) (i : Nat) : Nat → Int32 := fun j => if j < i then f j else g j
theorem rc_cp_0 (f g : Nat → Int32) : g = rc_cp f g 0 := by
  funext j
  exact (if_neg (by omega)).symm
theorem rc_cp_s (f g : Nat → Int32) (i : Nat) : upd (rc_cp f g i) i (f i) = rc_cp f g (i + 1) := by
  funext j
  unfold upd rc_cp
  by_cases h : j = i
  · subst h
    rw [if_pos rfl, if_pos (by omega)]
  · rw [if_neg h]
    by_cases h2 : j < i
    · rw [if_pos h2, if_pos (by omega)]
    · rw [if_neg h2, if_neg (by omega)]
theorem rc_cp_at (f g : Nat → Int32) {i j : Nat} (h : j < i) : rc_cp f g i j = f j := if_pos h
/-! the half of the key's row; a script's int -/
def rc_ho (h : Int32) : Nat := h.toBitVec.toNat % 2 * 16
theorem rc_ho_le (h : Int32) : rc_ho h ≤ 16 := by
  unfold rc_ho
  omega
theorem rc_ho_1 (h : Int32) : (h &&& 1) <<< (nI 4 &&& 31) = nI (rc_ho h) := by
  rw [pk_and h 1 (by decide)]
  exact pk_shlN (nI 4 &&& 31) 4 (by decide) (by omega)
theorem rc_ho_2 (h : Int32) (k : Nat) : nI 16 * (h &&& 1) + nI 4 * nI k = nI (rc_ho h + 4 * k) := by
  rw [pk_and h 1 (by decide), pk_mul, pk_mul, nI_add]
  unfold rc_ho
  congr 2
  omega
def rc_cx (L : Nat) (xs : Nat → Int32) (k : Nat) : Int32 := if k < L then xs k else 0
end
section
/-! ===== rows of ours over the kit's: a place named by a Nat, one kind of byte arrays and one of long arrays for all, contracts in one form ===== -/
theorem rc_dec (x : Int32) : x + Int32.ofInt (-1) = x - 1 := by
  rw [Int32.sub_eq_add_neg]
  rfl
theorem rc_md (k : Nat) {d : Nat} (h0 : 0 < d) (hd : d < 2 ^ 30) : nI (k % d) + nI 1 - (nI (k % d) + nI 1) / nI d * nI d = nI ((k + 1) % d) := by
  have h := Nat.mod_lt k h0
  rw [nI_add, pk_rem (by omega) h0 (by omega), Nat.mod_add_mod]
section RCW
variable {p : Program} {l : Launch} {e : Env} {R : Room} {s : State} {m : MethodId} {args : Array Value} {below : List Frame} {meth : Method} {c : Code} {H : Heap} {locs : List Loc} {cells slots : Nat} {Q : State → Prop}
variable {cc : ByteArray} {pc : Nat} {ls : Array Slot} {rest : List Value} {D : va_G} {cl : List vw_C} {A : Nat → Prop} {a : Nat} {tys : List (ClassId × FieldType)} {ws : va_W} {H0 : Heap}
theorem rc_ti {x : Int32} (y : Int32) (h : x = y) (k : W p l e R s m args below meth c H locs cells slots Q (F0 m pc ls (.int y :: rest))) : W p l e R s m args below meth c H locs cells slots Q (F0 m pc ls (.int x :: rest)) := by
  rw [h]
  exact k
theorem rc_tl {x : Int64} (y : Int64) (h : x = y) (k : W p l e R s m args below meth c H locs cells slots Q (F0 m pc ls (.long y :: rest))) : W p l e R s m args below meth c H locs cells slots Q (F0 m pc ls (.long x :: rest)) := by
  rw [h]
  exact k
theorem rc_bald (hexec : p.tables.exec = Jvm.exec) (hb : c.code = cc) (hK : va_K D cl tys s) (hP : va_P D cl ws H) (q0 t0 : Nat) {cA : ClassId} {n : Nat} {f : Nat → Int32} (ha : ws[q0]? = some (a, .inl (cA, n, .inl f))) (ht : tys[t0]? = some (cA, .byte)) (i : Nat) {x : Int32} (ex : x = nI i) (hi : i < n) (hn : n < 2 ^ 31) (hdg : decode cc pc = .ok (.baload, 1))
    (kk : W p l e R s m args below meth c H locs cells slots Q (F0 m (pc + 1) ls (.int (f i) :: rest))) : W p l e R s m args below meth c H locs cells slots Q (F0 m pc ls (.int x :: .ref a :: rest)) := by
  subst ex
  refine va_bald hexec hb hK hP q0 t0 ha ht (vp_in_nI hi hn) hdg ?_
  rw [nI_clamp (Nat.lt_trans hi hn)]
  exact kk
theorem rc_bast (hexec : p.tables.exec = Jvm.exec) (hb : c.code = cc) (hK : va_K D cl tys s) (hP : va_P D cl ws H) (hD : va_D A ws) (hS : va_S A H0 H locs) (q0 t0 : Nat) {cA : ClassId} {n : Nat} {f : Nat → Int32} (ha : ws[q0]? = some (a, .inl (cA, n, .inl f))) (ht : tys[t0]? = some (cA, .byte)) (i : Nat) {x y : Int32} (ex : x = nI i) (hi : i < n) (hn : n < 2 ^ 31) (g : Nat → Int32) (hg : upd f i (vp_nar .byte y) = g) (hdg : decode cc pc = .ok (.bastore, 1))
    (kk : ∀ (H1 : Heap) (locs1 : List Loc), va_P D cl (ws.set q0 (a, .inl (cA, n, .inl g))) H1 → va_D A (ws.set q0 (a, .inl (cA, n, .inl g))) → va_S A H0 H1 locs1 → W p l e R s m args below meth c H1 locs1 cells slots Q (F0 m (pc + 1) ls rest)) : W p l e R s m args below meth c H locs cells slots Q (F0 m pc ls (.int y :: .int x :: .ref a :: rest)) := by
  subst ex
  subst hg
  refine va_bast hexec hb hK hP hD hS q0 t0 ha ht (vp_in_nI hi hn) hdg (fun H1 locs1 h1 h2 h3 => ?_)
  rw [nI_clamp (Nat.lt_trans hi hn)] at h1 h2
  exact kk H1 locs1 h1 h2 h3
theorem rc_lald (hexec : p.tables.exec = Jvm.exec) (hb : c.code = cc) (hK : va_K D cl tys s) (hP : va_P D cl ws H) (q0 t0 : Nat) {cA : ClassId} {n : Nat} {f : Nat → Int64} (ha : ws[q0]? = some (a, .inl (cA, n, .inr (.inl f)))) (ht : tys[t0]? = some (cA, .long)) (i : Nat) {x : Int32} (ex : x = nI i) (hi : i < n) (hn : n < 2 ^ 31) (hdg : decode cc pc = .ok (.laload, 1))
    (kk : W p l e R s m args below meth c H locs cells slots Q (F0 m (pc + 1) ls (.long (f i) :: rest))) : W p l e R s m args below meth c H locs cells slots Q (F0 m pc ls (.int x :: .ref a :: rest)) := by
  subst ex
  refine va_lald hexec hb hK hP q0 t0 ha ht (vp_in_nI hi hn) hdg ?_
  rw [nI_clamp (Nat.lt_trans hi hn)]
  exact kk
theorem rc_last (hexec : p.tables.exec = Jvm.exec) (hb : c.code = cc) (hK : va_K D cl tys s) (hP : va_P D cl ws H) (hD : va_D A ws) (hS : va_S A H0 H locs) (q0 t0 : Nat) {cA : ClassId} {n : Nat} {f : Nat → Int64} (ha : ws[q0]? = some (a, .inl (cA, n, .inr (.inl f)))) (ht : tys[t0]? = some (cA, .long)) (i : Nat) {x : Int32} {y : Int64} (ex : x = nI i) (hi : i < n) (hn : n < 2 ^ 31) (g : Nat → Int64) (hg : vp_updL f i y = g) (hdg : decode cc pc = .ok (.lastore, 1))
    (kk : ∀ (H1 : Heap) (locs1 : List Loc), va_P D cl (ws.set q0 (a, .inl (cA, n, .inr (.inl g)))) H1 → va_D A (ws.set q0 (a, .inl (cA, n, .inr (.inl g)))) → va_S A H0 H1 locs1 → W p l e R s m args below meth c H1 locs1 cells slots Q (F0 m (pc + 1) ls rest)) : W p l e R s m args below meth c H locs cells slots Q (F0 m pc ls (.long y :: .int x :: .ref a :: rest)) := by
  subst ex
  subst hg
  refine va_last hexec hb hK hP hD hS q0 t0 ha ht (vp_in_nI hi hn) hdg (fun H1 locs1 h1 h2 h3 => ?_)
  rw [nI_clamp (Nat.lt_trans hi hn)] at h1 h2
  exact kk H1 locs1 h1 h2 h3
/-- only the places below the length count -/
theorem rc_ext (hP : va_P D cl ws H) (hD : va_D A ws) (q0 : Nat) {cA : ClassId} {n : Nat} {f : Nat → Int32} (ha : ws[q0]? = some (a, .inl (cA, n, .inl f))) (g : Nat → Int32) (hg : ∀ j, j < n → f j = g j) : va_P D cl (ws.set q0 (a, .inl (cA, n, .inl g))) H ∧ va_D A (ws.set q0 (a, .inl (cA, n, .inl g))) := by
  have e : vp_cell cA (n, .inl f) = vp_cell cA (n, .inl g) := by
    rw [vp_cell_i, vp_cell_i]
    unfold arrV
    congr 2
    funext j
    exact congrArg Value.int (hg j.val j.isLt)
  have h1 : H[a]? = some (vp_cell cA (n, .inl f)) := hP q0 _ ha
  refine ⟨hP.set hD ha (show H[a]? = some (vp_cell cA (n, .inl g)) from ?_) (fun _ _ => rfl), hD.set ha⟩
  rw [← e]
  exact h1
theorem rc_cls {t : FieldType} {c1 c2 : ClassId} (h1 : s.vm.findClass ("[" ++ t.toString) = some c1) (h2 : s.vm.findClass ("[" ++ t.toString) = some c2) : c1 = c2 := Option.some.inj (h1.symm.trans h2)
/-- a new array of bytes: of the one kind -/
theorem rc_newB (hexec : p.tables.exec = Jvm.exec) (hb : c.code = cc) {cB cL : ClassId} (harr : (Cond.arrayClass .byte).before args s = true) (hK : va_K D cl [(cB, .byte), (cL, .long)] s) (hP : va_P D cl ws H) (hD : va_D A ws) (hS : va_S A H0 H locs) (hA : ∀ q, H0.size ≤ q → A q) (N : Nat) {x : Int32} (ex : x = nI N) (hN : N < 1000) (hcells : cells + 1 ≤ R.cells) (hslots : slots + N ≤ R.slots) (hdg : decode cc pc = .ok (.newarray .byte, 2))
    (kk : ∀ (q : Nat) (H1 : Heap), va_P D cl (ws ++ [(q, .inl (cB, N, .inl (fun _ => 0)))]) H1 → va_D A (ws ++ [(q, .inl (cB, N, .inl (fun _ => 0)))]) → va_S A H0 H1 locs → W p l e R s m args below meth c H1 locs (cells + 1) (slots + N) Q (F0 m (pc + 2) ls (.ref q :: rest))) : W p l e R s m args below meth c H locs cells slots Q (F0 m pc ls (.int x :: rest)) := by
  subst ex
  refine va_newa (atype := .byte) (ty := .byte) (a0 := (N, .inl (fun _ => 0))) hexec hb harr rfl hK hP hD hS hA (fun cA => rfl) (nI_pos (by omega)) (nI_clamp (by omega)) (Nat.le_trans (Nat.mul_le_mul_left N (show componentBytes .byte ≤ 8 by decide)) (by omega)) hcells hslots hdg (fun q cA H1 hK1 hP1 hD1 hS1 => ?_)
  have e : cA = cB := rc_cls (t := .byte) (hK1.2 2 (cA, .byte) rfl).2 (hK1.2 0 (cB, .byte) rfl).2
  subst e
  exact kk q H1 hP1 hD1 hS1
/-- a new array of longs: of the one kind -/
theorem rc_newL (hexec : p.tables.exec = Jvm.exec) (hb : c.code = cc) {cB cL : ClassId} (harr : (Cond.arrayClass .long).before args s = true) (hK : va_K D cl [(cB, .byte), (cL, .long)] s) (hP : va_P D cl ws H) (hD : va_D A ws) (hS : va_S A H0 H locs) (hA : ∀ q, H0.size ≤ q → A q) (N : Nat) {x : Int32} (ex : x = nI N) (hN : N < 1000) (hcells : cells + 1 ≤ R.cells) (hslots : slots + N ≤ R.slots) (hdg : decode cc pc = .ok (.newarray .long, 2))
    (kk : ∀ (q : Nat) (H1 : Heap), va_P D cl (ws ++ [(q, .inl (cL, N, .inr (.inl (fun _ => 0))))]) H1 → va_D A (ws ++ [(q, .inl (cL, N, .inr (.inl (fun _ => 0))))]) → va_S A H0 H1 locs → W p l e R s m args below meth c H1 locs (cells + 1) (slots + N) Q (F0 m (pc + 2) ls (.ref q :: rest))) : W p l e R s m args below meth c H locs cells slots Q (F0 m pc ls (.int x :: rest)) := by
  subst ex
  refine va_newa (atype := .long) (ty := .long) (a0 := (N, .inr (.inl (fun _ => 0)))) hexec hb harr rfl hK hP hD hS hA (fun cA => rfl) (nI_pos (by omega)) (nI_clamp (by omega)) (Nat.le_trans (Nat.mul_le_mul_left N (show componentBytes .long ≤ 8 by decide)) (by omega)) hcells hslots hdg (fun q cA H1 hK1 hP1 hD1 hS1 => ?_)
  have e : cA = cL := rc_cls (t := .long) (hK1.2 2 (cA, .long) rfl).2 (hK1.2 1 (cL, .long) rfl).2
  subst e
  exact kk q H1 hP1 hD1 hS1
/-! a contract's start -/
/-- what a method that only reads finds -/
abbrev rc_Rd (D : va_G) (cl : List vw_C) (ws : va_W) (tys : List (ClassId × FieldType)) : State → Prop := fun U => va_P D cl ws U.heap ∧ va_K D cl tys U
/-- what a method that writes finds -/
abbrev rc_Wr (D : va_G) (cl : List vw_C) (ws : va_W) (tys : List (ClassId × FieldType)) (sz : Nat) : State → Prop := fun U => U.heap.size = sz ∧ va_P D cl ws U.heap ∧ va_K D cl tys U ∧ va_D (fun _ => True) ws
theorem rc_RdB {av : List Value} : FrameBlind (va_Pc av (rc_Rd D cl ws tys)) := fun a U g mk q => by
  obtain ⟨q0, qP, qK⟩ := q
  exact ⟨q0, qP, va_K.moved (u := U) (U := U.calling g mk a) (Vm.Alike.refl U.vm) qK⟩
theorem rc_RdS (hP : va_P D cl ws H) (hK : va_K D cl tys s) (As : List Value) : PreS s H (va_Pc As (rc_Rd D cl ws tys)) As :=
  ⟨rc_RdB, fun U hU hW => ⟨rfl, by rw [hU]; exact hP, va_K.moved hW.alike hK⟩⟩
theorem rc_RdV {C : String} {b : Addr} (hr : ∃ cell : Cell, H[b]? = some cell ∧ cell.vm.isStatics = false ∧ s.vm.findClass C = some cell.cls) (hP : va_P D cl ws H) (hK : va_K D cl tys s) (As : List Value) : PreV s H C b (va_Pc (.ref b :: As) (rc_Rd D cl ws tys)) As :=
  ⟨rc_RdB, hr, fun U hU hW => ⟨rfl, by rw [hU]; exact hP, va_K.moved hW.alike hK⟩⟩
theorem rc_WrB {av : List Value} {sz : Nat} : FrameBlind (va_Pc av (rc_Wr D cl ws tys sz)) := fun a U g mk q => by
  obtain ⟨q0, q1, qP, qK, qD⟩ := q
  exact ⟨q0, q1, qP, va_K.moved (u := U) (U := U.calling g mk a) (Vm.Alike.refl U.vm) qK, qD⟩
theorem rc_WrS (hP : va_P D cl ws H) (hK : va_K D cl tys s) (hD : va_D A ws) (As : List Value) : PreS s H (va_Pc As (rc_Wr D cl ws tys H.size)) As :=
  ⟨rc_WrB, fun U hU hW => ⟨rfl, by rw [hU], by rw [hU]; exact hP, va_K.moved hW.alike hK, hD.weaken (fun _ _ _ _ => trivial)⟩⟩
theorem rc_WrV {C : String} {b : Addr} (hr : ∃ cell : Cell, H[b]? = some cell ∧ cell.vm.isStatics = false ∧ s.vm.findClass C = some cell.cls) (hP : va_P D cl ws H) (hK : va_K D cl tys s) (hD : va_D A ws) (As : List Value) : PreV s H C b (va_Pc (.ref b :: As) (rc_Wr D cl ws tys H.size)) As :=
  ⟨rc_WrB, hr, fun U hU hW => ⟨rfl, by rw [hU], by rw [hU]; exact hP, va_K.moved hW.alike hK, hD.weaken (fun _ _ _ _ => trivial)⟩⟩
theorem rc_prep {sz : Nat} (h : rc_Wr D cl ws tys sz s) : sz = s.heap.size ∧ va_P D cl ws s.heap ∧ va_K D cl tys s ∧ ∃ A : Nat → Prop, va_A ws s.heap.size = A ∧ va_D A ws ∧ (∀ q : Nat, s.heap.size ≤ q → A q) ∧ va_S A s.heap s.heap [] :=
  ⟨h.1.symm, h.2.1, h.2.2.1, va_A ws s.heap.size, rfl, h.2.2.2.self, fun q h => Or.inr h, va_S.rf⟩
/-- a method's start: all that its walk needs, each thing a variable -/
theorem rc_start {y : MethodName} {cc : ByteArray} {maxL : Nat} {ret : Option FieldType} {rm : Room} {av : List Value} {B : State → Prop} {Qc : Array Value → State → Outcome → State → Prop} {mc ms : Nat} {free : Addr → Prop} (hy : plainName y.cls = true) (hav : (lg_sl av).length ≤ maxL)
    (body : ∀ (p : Program) (e : Env) (s : State) (m : MethodId) (args : Array Value) (below : List Frame) (meth : Method) (c : Code) (Q : State → Prop), p.tables.exec = Jvm.exec → c.code = cc → meth.sig.returnType = ret → c.maxLocals = maxL → s.vm.findClass y.cls = some m.cls → meth.name = y.name → meth.locks = false → (∀ w ∈ lw_all, w.before args s = true) → B s → MQ below Qc args s mc ms free = Q → ∀ ls : Array Slot, lv_has ls maxL (lv_args 0 av) → W p l e rm s m args below meth c s.heap [] 0 0 Q (F0 m 0 ls [])) :
    Met l y (ws_ y cc maxL ret) rm (va_Pc av B) Qc mc ms free := by
  refine Met.ofW (cc := cc) (maxL := maxL) (ret := ret) hy rfl ?_
  intro p e s m args below meth c s₁ B hml hv
  obtain ⟨rfl, hv⟩ := hv
  have hts := atoms_spec (ws := ws_ y cc maxL ret) B.pre
  rw [lg_entry_eq]
  exact body p e s m _ below meth c _ B.exec B.bytes B.returns hml (findClass_of_methodNamed B.named) (name_of_methodNamed B.named B.method).1 B.notSynchronized (fun w h => hts w (List.mem_cons_of_mem _ h)) hv rfl _ (lv_entry av hav)
/-! a contract's end -/
def rc_Qv (D : va_G) (cl : List vw_C) (wc : va_W) (sz : Nat) (Z : va_W → Prop) : Array Value → State → Outcome → State → Prop := va_Qv (fun _ : Unit => True) (fun _ t => ∃ w1, Z w1 ∧ va_P D cl w1 t.heap ∧ va_D (va_A wc sz) w1) (va_A wc sz)
def rc_Qi (D : va_G) (cl : List vw_C) (wc : va_W) (sz : Nat) (Z : va_W → Prop) : Array Value → State → Outcome → State → Prop := va_Qi (fun (_ : Int32) (_ : Unit) => True) (fun _ t => ∃ w1, Z w1 ∧ va_P D cl w1 t.heap ∧ va_D (va_A wc sz) w1) (va_A wc sz)
def rc_Qr (D : va_G) (cl : List vw_C) (wc : va_W) (sz : Nat) (Z : Nat → va_W → Prop) : Array Value → State → Outcome → State → Prop := va_Qr (fun _ : Unit => True) (fun _ r t => ∃ w1, Z r w1 ∧ va_P D cl w1 t.heap ∧ va_D (va_A wc sz) w1) (va_A wc sz)
theorem rc_vret {wc : va_W} {Z : va_W → Prop} {mc ms : Nat} (hexec : p.tables.exec = Jvm.exec) (hb : c.code = cc) (hr : meth.sig.returnType = none) (hlocks : meth.locks = false) (hQ : MQ below (rc_Qv D cl wc s.heap.size Z) args s mc ms (va_A wc s.heap.size) = Q) (hAe : va_A wc s.heap.size = A) (w1 : va_W) (hZ : Z w1) (hP : va_P D cl w1 H) (hD : va_D A w1) (hS : va_S A s.heap H locs) (hc : cells ≤ mc) (hs : slots ≤ ms) (hdg : decode cc pc = .ok (.return_, 1)) : W p l e R s m args below meth c H locs cells slots Q (F0 m pc ls []) := by
  subst hAe
  subst hQ
  refine W.widen hc hs ?_
  exact W.vret hexec hb hr (fun t ht hW => ⟨⟨(), rfl, trivial, w1, hZ, by rw [ht]; exact hP, hD⟩, hS.F ht⟩) hS.2.2 hdg hlocks
theorem rc_iret {wc : va_W} {Z : va_W → Prop} {mc ms : Nat} {v : Int32} (hexec : p.tables.exec = Jvm.exec) (hb : c.code = cc) (hr : meth.sig.returnType = some .int) (hlocks : meth.locks = false) (hQ : MQ below (rc_Qi D cl wc s.heap.size Z) args s mc ms (va_A wc s.heap.size) = Q) (hAe : va_A wc s.heap.size = A) (w1 : va_W) (hZ : Z w1) (hP : va_P D cl w1 H) (hD : va_D A w1) (hS : va_S A s.heap H locs) (hc : cells ≤ mc) (hs : slots ≤ ms) (hdg : decode cc pc = .ok (.ireturn, 1)) : W p l e R s m args below meth c H locs cells slots Q (F0 m pc ls [.int v]) := by
  subst hAe
  subst hQ
  refine W.widen hc hs ?_
  exact W.iret hexec hb hr (fun t ht hW => ⟨⟨v, (), rfl, trivial, w1, hZ, by rw [ht]; exact hP, hD⟩, hS.F ht⟩) hS.2.2 hdg hlocks
theorem rc_aret {wc : va_W} {Z : Nat → va_W → Prop} {mc ms : Nat} {r : Nat} {rt : FieldType} (hexec : p.tables.exec = Jvm.exec) (hb : c.code = cc) (hr : meth.sig.returnType = some (.array rt)) (hlocks : meth.locks = false) (hQ : MQ below (rc_Qr D cl wc s.heap.size Z) args s mc ms (va_A wc s.heap.size) = Q) (hAe : va_A wc s.heap.size = A) (w1 : va_W) (hZ : Z r w1) (hP : va_P D cl w1 H) (hD : va_D A w1) (hS : va_S A s.heap H locs) (hc : cells ≤ mc) (hs : slots ≤ ms) (hdg : decode cc pc = .ok (.areturn, 1)) : W p l e R s m args below meth c H locs cells slots Q (F0 m pc ls [.ref r]) := by
  subst hAe
  subst hQ
  refine W.widen hc hs ?_
  exact W.aret (v := .ref r) hexec hb hr (Or.inr ⟨_, rfl⟩) (Or.inr ⟨_, rfl⟩) (fun t ht hW => ⟨⟨(), r, rfl, trivial, w1, hZ, by rw [ht]; exact hP, hD⟩, hS.F ht⟩) hS.2.2 hdg hlocks
theorem rc_slret {post : Int64 → Prop} {v : Int64} (hexec : p.tables.exec = Jvm.exec) (hb : c.code = cc) (hr : meth.sig.returnType = some .long) (hlocks : meth.locks = false) (hQ : MQ below (vp_Sl post) args s 0 0 (fun _ => False) = Q) (hp : post v) (hdg : decode cc pc = .ok (.lreturn, 1)) : W p l e R s m args below meth c s.heap [] 0 0 Q (F0 m pc ls [.long v]) := by
  subst hQ
  exact W.lret hexec hb hr (fun t ht hW => ⟨v, rfl, hp, ht⟩) (fun q h => (by cases h)) hdg hlocks
theorem rc_siret {post : Int32 → Prop} {v : Int32} (hexec : p.tables.exec = Jvm.exec) (hb : c.code = cc) (hr : meth.sig.returnType = some .int) (hlocks : meth.locks = false) (hQ : MQ below (vp_Si post) args s 0 0 (fun _ => False) = Q) (hp : post v) (hdg : decode cc pc = .ok (.ireturn, 1)) : W p l e R s m args below meth c s.heap [] 0 0 Q (F0 m pc ls [.int v]) := by
  subst hQ
  exact W.iret hexec hb hr (fun t ht hW => ⟨v, rfl, hp, ht⟩) (fun q h => (by cases h)) hdg hlocks
theorem rc_szret {post : Int32 → Prop} {v : Int32} (hexec : p.tables.exec = Jvm.exec) (hb : c.code = cc) (hr : meth.sig.returnType = some .boolean) (hn : narrow .boolean (.int v) = .int v) (hlocks : meth.locks = false) (hQ : MQ below (vp_Si post) args s 0 0 (fun _ => False) = Q) (hp : post v) (hdg : decode cc pc = .ok (.ireturn, 1)) : W p l e R s m args below meth c s.heap [] 0 0 Q (F0 m pc ls [.int v]) := by
  subst hQ
  exact W.zret hexec hb hr hn (fun t ht hW => ⟨v, rfl, hp, ht⟩) (fun q h => (by cases h)) hdg hlocks
theorem rc_saret {post : Nat → Prop} {r : Nat} {rt : FieldType} (hexec : p.tables.exec = Jvm.exec) (hb : c.code = cc) (hr : meth.sig.returnType = some (.array rt)) (hlocks : meth.locks = false) (hQ : MQ below (va_Sr post Value.ref) args s 0 0 (fun _ => False) = Q) (hp : post r) (hdg : decode cc pc = .ok (.areturn, 1)) : W p l e R s m args below meth c s.heap [] 0 0 Q (F0 m pc ls [.ref r]) := by
  subst hQ
  exact W.aret (v := .ref r) hexec hb hr (Or.inr ⟨_, rfl⟩) (Or.inr ⟨_, rfl⟩) (fun t ht hW => ⟨r, rfl, hp, ht⟩) (fun q h => (by cases h)) hdg hlocks
/-! behind a call -/
variable {st0 : List Value} {av : Array Value} {mc ms : Nat} {wc : va_W}
theorem rc_callv {Z : va_W → Prop} (hr : va_Run p l e R s m args below meth c H locs cells slots mc ms (F0 m pc ls st0) rest (rc_Qv D cl wc H.size Z av) (va_A wc H.size)) (hP : va_P D cl ws H) (hD : va_D A ws) (hS : va_S A H0 H locs) (hA : ∀ q, H0.size ≤ q → A q) (isC isR : List Nat) {wr : va_W} (hC : isC.map (fun i => ws[i]?) = wc.map some) (hR : isR.map (fun i => ws[i]?) = wr.map some) (hn : va_nd isR = true) (hdis : ∀ i ∈ isR, i ∉ isC)
    (kk : ∀ (w1 : va_W) (_ : Z w1) (H1 : Heap) (locs1 : List Loc), va_P D cl (wr ++ w1) H1 → va_D A (wr ++ w1) → va_S A H0 H1 locs1 → W p l e R s m args below meth c H1 locs1 (cells + mc) (slots + ms) Q (F0 m (pc + 3) ls rest)) : W p l e R s m args below meth c H locs cells slots Q (F0 m pc ls st0) := by
  have hF := va_free hD hS hA isC hC
  refine va_callv hr hS (fun q _ h => hF q h) hF (fun u t H1 locs1 ht hvm hw hB hz hk hS1 => ?_)
  obtain ⟨w1, hZ, hP1, hD1⟩ := hB
  rw [ht] at hP1
  obtain ⟨h1, h2⟩ := va_join hP hD isC isR hC hR hn hdis hk hF hP1 hD1
  exact kk w1 hZ H1 locs1 h1 h2 hS1
theorem rc_calli {Z : va_W → Prop} (hr : va_Run p l e R s m args below meth c H locs cells slots mc ms (F0 m pc ls st0) rest (rc_Qi D cl wc H.size Z av) (va_A wc H.size)) (hP : va_P D cl ws H) (hD : va_D A ws) (hS : va_S A H0 H locs) (hA : ∀ q, H0.size ≤ q → A q) (isC isR : List Nat) {wr : va_W} (hC : isC.map (fun i => ws[i]?) = wc.map some) (hR : isR.map (fun i => ws[i]?) = wr.map some) (hn : va_nd isR = true) (hdis : ∀ i ∈ isR, i ∉ isC)
    (kk : ∀ (r : Int32) (w1 : va_W) (_ : Z w1) (H1 : Heap) (locs1 : List Loc), va_P D cl (wr ++ w1) H1 → va_D A (wr ++ w1) → va_S A H0 H1 locs1 → W p l e R s m args below meth c H1 locs1 (cells + mc) (slots + ms) Q (F0 m (pc + 3) ls (.int r :: rest))) : W p l e R s m args below meth c H locs cells slots Q (F0 m pc ls st0) := by
  have hF := va_free hD hS hA isC hC
  refine va_calli hr hS (fun q _ h => hF q h) hF (fun r u t H1 locs1 ht hvm hw hB hz hk hS1 => ?_)
  obtain ⟨w1, hZ, hP1, hD1⟩ := hB
  rw [ht] at hP1
  obtain ⟨h1, h2⟩ := va_join hP hD isC isR hC hR hn hdis hk hF hP1 hD1
  exact kk r w1 hZ H1 locs1 h1 h2 hS1
theorem rc_callr {Z : Nat → va_W → Prop} (hr : va_Run p l e R s m args below meth c H locs cells slots mc ms (F0 m pc ls st0) rest (rc_Qr D cl wc H.size Z av) (va_A wc H.size)) (hP : va_P D cl ws H) (hD : va_D A ws) (hS : va_S A H0 H locs) (hA : ∀ q, H0.size ≤ q → A q) (isC isR : List Nat) {wr : va_W} (hC : isC.map (fun i => ws[i]?) = wc.map some) (hR : isR.map (fun i => ws[i]?) = wr.map some) (hn : va_nd isR = true) (hdis : ∀ i ∈ isR, i ∉ isC)
    (kk : ∀ (r : Nat) (w1 : va_W) (_ : Z r w1) (H1 : Heap) (locs1 : List Loc), va_P D cl (wr ++ w1) H1 → va_D A (wr ++ w1) → va_S A H0 H1 locs1 → W p l e R s m args below meth c H1 locs1 (cells + mc) (slots + ms) Q (F0 m (pc + 3) ls (.ref r :: rest))) : W p l e R s m args below meth c H locs cells slots Q (F0 m pc ls st0) := by
  have hF := va_free hD hS hA isC hC
  refine va_callr hr hS (fun q _ h => hF q h) hF (fun u r t H1 locs1 ht hvm hw hB hz hk hS1 => ?_)
  obtain ⟨w1, hZ, hP1, hD1⟩ := hB
  rw [ht] at hP1
  obtain ⟨h1, h2⟩ := va_join hP hD isC isR hC hR hn hdis hk hF hP1 hD1
  exact kk r w1 hZ H1 locs1 h1 h2 hS1
theorem rc_callFv {Z : va_W → Prop} (hr : va_Run5 p l e R s m args below meth c H locs cells slots mc ms (F0 m pc ls st0) rest (rc_Qv D cl wc H.size Z av) (va_A wc H.size)) (hP : va_P D cl ws H) (hD : va_D A ws) (hS : va_S A H0 H locs) (hA : ∀ q, H0.size ≤ q → A q) (isC isR : List Nat) {wr : va_W} (hC : isC.map (fun i => ws[i]?) = wc.map some) (hR : isR.map (fun i => ws[i]?) = wr.map some) (hn : va_nd isR = true) (hdis : ∀ i ∈ isR, i ∉ isC)
    (kk : ∀ (w1 : va_W) (_ : Z w1) (H1 : Heap) (locs1 : List Loc), va_P D cl (wr ++ w1) H1 → va_D A (wr ++ w1) → va_S A H0 H1 locs1 → W p l e R s m args below meth c H1 locs1 (cells + mc) (slots + ms) Q (F0 m (pc + 5) ls rest)) : W p l e R s m args below meth c H locs cells slots Q (F0 m pc ls st0) := by
  have hF := va_free hD hS hA isC hC
  refine va_callFv hr hS (fun q _ h => hF q h) hF (fun u t H1 locs1 ht hvm hw hB hz hk hS1 => ?_)
  obtain ⟨w1, hZ, hP1, hD1⟩ := hB
  rw [ht] at hP1
  obtain ⟨h1, h2⟩ := va_join hP hD isC isR hC hR hn hdis hk hF hP1 hD1
  exact kk w1 hZ H1 locs1 h1 h2 hS1
theorem rc_callFi {Z : va_W → Prop} (hr : va_Run5 p l e R s m args below meth c H locs cells slots mc ms (F0 m pc ls st0) rest (rc_Qi D cl wc H.size Z av) (va_A wc H.size)) (hP : va_P D cl ws H) (hD : va_D A ws) (hS : va_S A H0 H locs) (hA : ∀ q, H0.size ≤ q → A q) (isC isR : List Nat) {wr : va_W} (hC : isC.map (fun i => ws[i]?) = wc.map some) (hR : isR.map (fun i => ws[i]?) = wr.map some) (hn : va_nd isR = true) (hdis : ∀ i ∈ isR, i ∉ isC)
    (kk : ∀ (r : Int32) (w1 : va_W) (_ : Z w1) (H1 : Heap) (locs1 : List Loc), va_P D cl (wr ++ w1) H1 → va_D A (wr ++ w1) → va_S A H0 H1 locs1 → W p l e R s m args below meth c H1 locs1 (cells + mc) (slots + ms) Q (F0 m (pc + 5) ls (.int r :: rest))) : W p l e R s m args below meth c H locs cells slots Q (F0 m pc ls st0) := by
  have hF := va_free hD hS hA isC hC
  refine va_callFi hr hS (fun q _ h => hF q h) hF (fun r u t H1 locs1 ht hvm hw hB hz hk hS1 => ?_)
  obtain ⟨w1, hZ, hP1, hD1⟩ := hB
  rw [ht] at hP1
  obtain ⟨h1, h2⟩ := va_join hP hD isC isR hC hR hn hdis hk hF hP1 hD1
  exact kk r w1 hZ H1 locs1 h1 h2 hS1
end RCW
/-- what a call through an interface asks of the one list of words -/
theorem rc_F {own : String} {idx : Nat} {C : String} {x y : MethodName} {b : ByteArray} {L : Nat} {r : Option FieldType} (h1 : Cond.methodLink own idx x ∈ lw_all) (h2 : Cond.selects C x y ∈ lw_all) (h3 : Cond.instanceMethod y ∈ lw_all) (h4 : Cond.initialized y.cls ∈ lw_all) (h5 : Cond.code y b L r ∈ lw_all) : GoodIn lw_all (va_wsF own idx C x y (ws_ y b L r)) := by
  refine lw_app ?_ (lw_meth h5)
  intro w hw
  simp only [List.mem_cons, List.not_mem_nil, or_false] at hw
  rcases hw with e | e | e | e
  · rw [e]; exact h1
  · rw [e]; exact h2
  · rw [e]; exact h3
  · rw [e]; exact h4
/-- the classes whose objects the worlds hold -/
abbrev vwCl : List vw_C := [(RX1, TX1, 3), (RX2, TX2, 3), (RX3, TX3, 2)]
/-! the interface's words ride along -/
def xBI : MethodName := ⟨"BlockCipher", "init", "(ZLCipherParameters;)V"⟩
def xBP : MethodName := ⟨"BlockCipher", "processBlock", "([BI[BI)I"⟩
def rc_Fw (U : State) : Prop := va_Fw RX2 xBI yX2_init_2 U ∧ va_Fw RX2 xBP yX2_processBlock U
theorem rc_Fw_moved {u U : State} (hvm : u.vm.Alike U.vm) (h : rc_Fw u) : rc_Fw U := ⟨va_Fw.moved ⟨by decide, by decide⟩ hvm h.1, va_Fw.moved ⟨by decide, by decide⟩ hvm h.2⟩
abbrev rc_Wx (D : va_G) (cl : List vw_C) (ws : va_W) (tys : List (ClassId × FieldType)) (sz : Nat) : State → Prop := fun U => rc_Fw U ∧ rc_Wr D cl ws tys sz U
section RCX
variable {s : State} {H : Heap} {D : va_G} {cl : List vw_C} {tys : List (ClassId × FieldType)} {ws : va_W} {A : Nat → Prop}
theorem rc_WxB {av : List Value} {sz : Nat} : FrameBlind (va_Pc av (rc_Wx D cl ws tys sz)) := fun a U g mk q => by
  obtain ⟨q0, qF, q1, qP, qK, qD⟩ := q
  exact ⟨q0, rc_Fw_moved (u := U) (U := U.calling g mk a) (Vm.Alike.refl U.vm) qF, q1, qP, va_K.moved (u := U) (U := U.calling g mk a) (Vm.Alike.refl U.vm) qK, qD⟩
theorem rc_WxV (hF : rc_Fw s) {C : String} {b : Addr} (hr : ∃ cell : Cell, H[b]? = some cell ∧ cell.vm.isStatics = false ∧ s.vm.findClass C = some cell.cls) (hP : va_P D cl ws H) (hK : va_K D cl tys s) (hD : va_D A ws) (As : List Value) : PreV s H C b (va_Pc (.ref b :: As) (rc_Wx D cl ws tys H.size)) As :=
  ⟨rc_WxB, hr, fun U hU hW => ⟨rfl, rc_Fw_moved hW.alike hF, by rw [hU], by rw [hU]; exact hP, va_K.moved hW.alike hK, hD.weaken (fun _ _ _ _ => trivial)⟩⟩
/-- the script, read by a method -/
abbrev rc_Rx (b L : Nat) (xs : Nat → Int32) : State → Prop := fun U => va_X b L xs U U.heap
theorem rc_RxS {b L : Nat} {xs : Nat → Int32} {locs : List Loc} (hX : va_X b L xs s s.heap) (hbl : b < s.heap.size) (hbA : ¬ A b) (hS : va_S A s.heap H locs) (As : List Value) : PreS s H (va_Pc As (rc_Rx b L xs)) As :=
  ⟨fun a U g mk q => ⟨q.1, va_X.moved (u := U) (U := U.calling g mk a) (Vm.Alike.refl U.vm) q.2⟩, fun U hU hW => ⟨rfl, by show va_X b L xs U U.heap; rw [hU]; exact (hX.kept (hS.2.1 b hbl hbA)).moved hW.alike⟩⟩
theorem rc_Xlt {b L : Nat} {xs : Nat → Int32} (hX : va_X b L xs s H) : b < H.size := by
  obtain ⟨scr, h, -⟩ := hX
  exact (Array.getElem?_eq_some_iff.mp h).1
end RCX
end
section
abbrev rmX3_init : Room := { frames := 1, cells := 1, slots := 16, locals := 60 }
set_option maxHeartbeats 4000000 in
set_option maxRecDepth 100000 in
/-- RC5Parameters(key, 12): a copy of the key -/
theorem metX3_init (l : Launch) (G : va_G) (cB cL : ClassId) (sz : Nat) (h0 hk : Nat) (f : Nat → Int32) (hf : ∀ j, rc_B (f j)) : Met l yX3_init (ws_ yX3_init cX3_init 3 none) rmX3_init (va_Pc [.ref h0, .ref hk, .int (nI 12)] (rc_Wr G vwCl [(h0, .inr (2, [.null, .int 0])), (hk, .inl (cB, 16, .inl f))] [(cB, .byte), (cL, .long)] sz)) (rc_Qv G vwCl [(h0, .inr (2, [.null, .int 0])), (hk, .inl (cB, 16, .inl f))] sz (fun w => ∃ q, w = [(h0, .inr (2, [.ref q, .int (nI 12)])), (hk, .inl (cB, 16, .inl f)), (q, .inl (cB, 16, .inl f))])) 1 16 (va_A [(h0, .inr (2, [.null, .int 0])), (hk, .inl (cB, 16, .inl f))] sz) := by
  refine rc_start (by decide) (Nat.le_of_ble_eq_true rfl) ?_
  intro p e s m args below meth cD Q hx hb hr hml hown hnm hlocks hts hv hQ ls hl
  obtain ⟨rfl, hP, hK, A, hAe, hD, hA, hS⟩ := rc_prep hv
  have hown : s.vm.findClass RX3 = some m.cls := hown
  have hl : lv_has ls 3 [(0, .ref h0), (1, .ref hk), (2, .int (nI 12))] := hl
  refine lv_aload_n hx hb dX3_init_0 rfl (lv_at hl 0 rfl) ?_
  refine W.objInit hx hb hown (hts _ q80) (hts _ q24) (hts _ q25) rfl (by rw [hml]; exact hl.1) rfl dX3_init_1 (Nat.le_of_ble_eq_true rfl) (Nat.le_of_ble_eq_true rfl) ?_
  refine W.eq (g2 := F0 m 4 ls []) rfl ?_
  refine lv_aload_n hx hb dX3_init_4 rfl (lv_at hl 1 rfl) ?_
  refine va_alen (v := nI 16) hx hb hK hP 1 0 rfl rfl rfl dX3_init_5 ?_
  refine lv_sipush (v := nI 255) hx hb dX3_init_6 (by decide) ?_
  refine lv_icmp_le (tgt := 22) hx hb dX3_init_9 (by decide) (fun hc => ?_) (fun hc => ?_)
  · refine lv_aload_n hx hb dX3_init_22 rfl (lv_at hl 0 rfl) ?_
    refine lv_aload_n hx hb dX3_init_23 rfl (lv_at hl 1 rfl) ?_
    refine va_alen (v := nI 16) hx hb hK hP 1 0 rfl rfl rfl dX3_init_24 ?_
    refine rc_newB hx hb (hts _ q36) hK hP hD hS hA 16 rfl (by decide) (Nat.le_of_ble_eq_true rfl) (Nat.le_of_ble_eq_true rfl) dX3_init_25 (fun q H hP hD hS => ?_)
    have hP : va_P G vwCl [(h0, .inr (2, [.null, .int 0])), (hk, .inl (cB, 16, .inl f)), (q, .inl (cB, 16, .inl (fun _ => 0)))] H := hP
    have hD : va_D A [(h0, .inr (2, [.null, .int 0])), (hk, .inl (cB, 16, .inl f)), (q, .inl (cB, 16, .inl (fun _ => 0)))] := hD
    refine va_put (D := G) (ci := 2) (v := .ref q) (ty := .array .byte) (C := RX3) (T := TX3) (N := 2) hx hb hts in_X3 tyX3 tyX3_ok nmX3 hown hK hP hD hS 0 rfl rfl 0 (by decide) (hts _ q149) (fun _ h9 => h9) rfl (by decide +kernel) rfl rfl (Nat.le_of_ble_eq_true rfl) dX3_init_27 (fun H locs hP hD hS => ?_)
    have hP : va_P G vwCl [(h0, .inr (2, [.ref q, .int 0])), (hk, .inl (cB, 16, .inl f)), (q, .inl (cB, 16, .inl (fun _ => 0)))] H := hP
    have hD : va_D A [(h0, .inr (2, [.ref q, .int 0])), (hk, .inl (cB, 16, .inl f)), (q, .inl (cB, 16, .inl (fun _ => 0)))] := hD
    refine lv_aload_n hx hb dX3_init_30 rfl (lv_at hl 0 rfl) ?_
    refine lv_iload_n hx hb dX3_init_31 rfl (lv_at hl 2 rfl) ?_
    refine va_put (D := G) (ci := 2) (v := .int (nI 12)) (ty := .int) (C := RX3) (T := TX3) (N := 2) hx hb hts in_X3 tyX3 tyX3_ok nmX3 hown hK hP hD hS 0 rfl rfl 1 (by decide) (hts _ q150) (fun _ h9 => h9) rfl (by decide +kernel) rfl rfl (Nat.le_of_ble_eq_true rfl) dX3_init_32 (fun H locs hP hD hS => ?_)
    have hP : va_P G vwCl [(h0, .inr (2, [.ref q, .int (nI 12)])), (hk, .inl (cB, 16, .inl f)), (q, .inl (cB, 16, .inl (fun _ => 0)))] H := hP
    have hD : va_D A [(h0, .inr (2, [.ref q, .int (nI 12)])), (hk, .inl (cB, 16, .inl f)), (q, .inl (cB, 16, .inl (fun _ => 0)))] := hD
    refine lv_aload_n hx hb dX3_init_35 rfl (lv_at hl 1 rfl) ?_
    refine lv_iconst (v := nI 0) hx hb dX3_init_36 (by decide) ?_
    refine lv_aload_n hx hb dX3_init_37 rfl (lv_at hl 0 rfl) ?_
    refine va_get (D := G) (ci := 2) (v := .ref q) (C := RX3) (T := TX3) (N := 2) hx hb hts in_X3 hown hK hP 0 rfl rfl 0 (by decide) (hts _ q149) (fun _ h9 => h9) rfl dX3_init_38 ?_
    refine lv_iconst (v := nI 0) hx hb dX3_init_41 (by decide) ?_
    refine lv_aload_n hx hb dX3_init_42 rfl (lv_at hl 1 rfl) ?_
    refine va_alen (v := nI 16) hx hb hK hP 1 0 rfl rfl rfl dX3_init_43 ?_
    refine va_copyi hx hb (hml.trans hl.1.symm) hown (hts _ q146) (hts _ q148) (hts _ q147) (hts _ q17) hK hP hD hS 1 2 0 0 rfl rfl rfl rfl rfl (by decide) (by decide) (by decide) (by decide) (by decide) (fun i _ => rc_fits (hf _)) (Nat.le_of_ble_eq_true rfl) (Nat.le_of_ble_eq_true rfl) dX3_init_44 (fun H locs hP hD hS => ?_)
    have hP : va_P G vwCl [(h0, .inr (2, [.ref q, .int (nI 12)])), (hk, .inl (cB, 16, .inl f)), (q, .inl (cB, 16, .inl (va_cpy f (fun _ => 0) (nI 0).toNatClampNeg (nI 0).toNatClampNeg (nI 16).toNatClampNeg)))] H := hP
    have hD : va_D A [(h0, .inr (2, [.ref q, .int (nI 12)])), (hk, .inl (cB, 16, .inl f)), (q, .inl (cB, 16, .inl (va_cpy f (fun _ => 0) (nI 0).toNatClampNeg (nI 0).toNatClampNeg (nI 16).toNatClampNeg)))] := hD
    obtain ⟨hP, hD⟩ := rc_ext hP hD 2 rfl f (fun j hj => sb_cpy0 (n := 16) hj)
    have hP : va_P G vwCl [(h0, .inr (2, [.ref q, .int (nI 12)])), (hk, .inl (cB, 16, .inl f)), (q, .inl (cB, 16, .inl f))] H := hP
    have hD : va_D A [(h0, .inr (2, [.ref q, .int (nI 12)])), (hk, .inl (cB, 16, .inl f)), (q, .inl (cB, 16, .inl f))] := hD
    exact rc_vret hx hb hr hlocks hQ hAe [(h0, .inr (2, [.ref q, .int (nI 12)])), (hk, .inl (cB, 16, .inl f)), (q, .inl (cB, 16, .inl f))] (⟨q, rfl⟩) (hP.sub [0, 1, 2] rfl) (hD.sub [0, 1, 2] (by decide) rfl) hS (Nat.le_of_ble_eq_true rfl) (Nat.le_of_ble_eq_true rfl) dX3_init_47
  · exact absurd (by decide) hc
abbrev rmX3_getKey : Room := { frames := 0, cells := 0, slots := 0, locals := 0 }
set_option maxHeartbeats 4000000 in
set_option maxRecDepth 100000 in
theorem metX3_getKey (l : Launch) (G : va_G) (cB cL : ClassId) (h0 q : Nat) (n : Int32) : Met l yX3_getKey (ws_ yX3_getKey cX3_getKey 1 (some (.array .byte))) rmX3_getKey (va_Pc [.ref h0] (rc_Rd G vwCl [(h0, .inr (2, [.ref q, .int n]))] [(cB, .byte), (cL, .long)])) (va_Sr (fun k => k = q) Value.ref) 0 0 (fun _ => False) := by
  refine rc_start (by decide) (Nat.le_of_ble_eq_true rfl) ?_
  intro p e s m args below meth cD Q hx hb hr hml hown hnm hlocks hts hv hQ ls hl
  obtain ⟨hP, hK⟩ := hv
  have hown : s.vm.findClass RX3 = some m.cls := hown
  have hl : lv_has ls 1 [(0, .ref h0)] := hl
  refine lv_aload_n hx hb dX3_getKey_0 rfl (lv_at hl 0 rfl) ?_
  refine va_get (D := G) (ci := 2) (v := .ref q) (C := RX3) (T := TX3) (N := 2) hx hb hts in_X3 hown hK hP 0 rfl rfl 0 (by decide) (hts _ q149) (fun _ h9 => h9) rfl dX3_getKey_1 ?_
  exact rc_saret hx hb hr hlocks hQ (rfl) dX3_getKey_4
abbrev rmX3_getRounds : Room := { frames := 0, cells := 0, slots := 0, locals := 0 }
set_option maxHeartbeats 4000000 in
set_option maxRecDepth 100000 in
theorem metX3_getRounds (l : Launch) (G : va_G) (cB cL : ClassId) (h0 q : Nat) (n : Int32) : Met l yX3_getRounds (ws_ yX3_getRounds cX3_getRounds 1 (some .int)) rmX3_getRounds (va_Pc [.ref h0] (rc_Rd G vwCl [(h0, .inr (2, [.ref q, .int n]))] [(cB, .byte), (cL, .long)])) (vp_Si (fun k => k = n)) 0 0 (fun _ => False) := by
  refine rc_start (by decide) (Nat.le_of_ble_eq_true rfl) ?_
  intro p e s m args below meth cD Q hx hb hr hml hown hnm hlocks hts hv hQ ls hl
  obtain ⟨hP, hK⟩ := hv
  have hown : s.vm.findClass RX3 = some m.cls := hown
  have hl : lv_has ls 1 [(0, .ref h0)] := hl
  refine lv_aload_n hx hb dX3_getRounds_0 rfl (lv_at hl 0 rfl) ?_
  refine va_get (D := G) (ci := 2) (v := .int n) (C := RX3) (T := TX3) (N := 2) hx hb hts in_X3 hown hK hP 0 rfl rfl 1 (by decide) (hts _ q150) (fun _ h9 => h9) rfl dX3_getRounds_1 ?_
  exact rc_siret hx hb hr hlocks hQ (rfl) dX3_getRounds_4
end
section
abbrev rmX2_rotateLeft : Room := { frames := 0, cells := 0, slots := 0, locals := 0 }
set_option maxHeartbeats 4000000 in
set_option maxRecDepth 100000 in
theorem metX2_rotateLeft (l : Launch) (G : va_G) (cB cL : ClassId) (h0 : Nat) (x y : Int64) : Met l yX2_rotateLeft (ws_ yX2_rotateLeft cX2_rotateLeft 5 (some .long)) rmX2_rotateLeft (va_Pc [.ref h0, .long x, .long y] (rc_Rd G vwCl [] [(cB, .byte), (cL, .long)])) (vp_Sl (fun r => r = rc_ro x y)) 0 0 (fun _ => False) := by
  refine rc_start (by decide) (Nat.le_of_ble_eq_true rfl) ?_
  intro p e s m args below meth cD Q hx hb hr hml hown hnm hlocks hts hv hQ ls hl
  obtain ⟨hP, hK⟩ := hv
  have hown : s.vm.findClass RX2 = some m.cls := hown
  have hl : lv_has ls 5 [(0, .ref h0), (1, .long x), (3, .long y)] := hl
  refine lv_lload_n hx hb dX2_rotateLeft_0 rfl (lv_at hl 1 rfl) ?_
  refine lv_lload_n hx hb dX2_rotateLeft_1 rfl (lv_at hl 2 rfl) ?_
  refine lv_ldc2 hx hb hown (hts _ q189) dX2_rotateLeft_2 ?_
  refine lv_land hx hb dX2_rotateLeft_5 ?_
  refine lv_l2i (v := ((y &&& 63)).toInt32) hx hb dX2_rotateLeft_6 rfl ?_
  refine lv_lshl (v := (x <<< (((((y &&& 63)).toInt32)).toInt64 &&& 63))) hx hb dX2_rotateLeft_7 rfl ?_
  refine lv_lload_n hx hb dX2_rotateLeft_8 rfl (lv_at hl 1 rfl) ?_
  refine lv_ldc2 hx hb hown (hts _ q190) dX2_rotateLeft_9 ?_
  refine lv_lload_n hx hb dX2_rotateLeft_12 rfl (lv_at hl 2 rfl) ?_
  refine lv_ldc2 hx hb hown (hts _ q189) dX2_rotateLeft_13 ?_
  refine lv_land hx hb dX2_rotateLeft_16 ?_
  refine lv_lsub hx hb dX2_rotateLeft_17 ?_
  refine lv_l2i (v := ((64 - (y &&& 63))).toInt32) hx hb dX2_rotateLeft_18 rfl ?_
  refine lv_lushr (v := ((x).toUInt64 >>> (((((64 - (y &&& 63))).toInt32)).toInt64.toUInt64 &&& Int64.toUInt64 63)).toInt64) hx hb dX2_rotateLeft_19 rfl ?_
  refine lv_lor hx hb dX2_rotateLeft_20 ?_
  exact rc_slret hx hb hr hlocks hQ (rc_eL x y) dX2_rotateLeft_21
abbrev rmX2_rotateRight : Room := { frames := 0, cells := 0, slots := 0, locals := 0 }
set_option maxHeartbeats 4000000 in
set_option maxRecDepth 100000 in
theorem metX2_rotateRight (l : Launch) (G : va_G) (cB cL : ClassId) (h0 : Nat) (x y : Int64) : Met l yX2_rotateRight (ws_ yX2_rotateRight cX2_rotateRight 5 (some .long)) rmX2_rotateRight (va_Pc [.ref h0, .long x, .long y] (rc_Rd G vwCl [] [(cB, .byte), (cL, .long)])) (vp_Sl (fun r => r = rc_ro x (-y))) 0 0 (fun _ => False) := by
  refine rc_start (by decide) (Nat.le_of_ble_eq_true rfl) ?_
  intro p e s m args below meth cD Q hx hb hr hml hown hnm hlocks hts hv hQ ls hl
  obtain ⟨hP, hK⟩ := hv
  have hown : s.vm.findClass RX2 = some m.cls := hown
  have hl : lv_has ls 5 [(0, .ref h0), (1, .long x), (3, .long y)] := hl
  refine lv_lload_n hx hb dX2_rotateRight_0 rfl (lv_at hl 1 rfl) ?_
  refine lv_lload_n hx hb dX2_rotateRight_1 rfl (lv_at hl 2 rfl) ?_
  refine lv_ldc2 hx hb hown (hts _ q189) dX2_rotateRight_2 ?_
  refine lv_land hx hb dX2_rotateRight_5 ?_
  refine lv_l2i (v := ((y &&& 63)).toInt32) hx hb dX2_rotateRight_6 rfl ?_
  refine lv_lushr (v := ((x).toUInt64 >>> (((((y &&& 63)).toInt32)).toInt64.toUInt64 &&& Int64.toUInt64 63)).toInt64) hx hb dX2_rotateRight_7 rfl ?_
  refine lv_lload_n hx hb dX2_rotateRight_8 rfl (lv_at hl 1 rfl) ?_
  refine lv_ldc2 hx hb hown (hts _ q190) dX2_rotateRight_9 ?_
  refine lv_lload_n hx hb dX2_rotateRight_12 rfl (lv_at hl 2 rfl) ?_
  refine lv_ldc2 hx hb hown (hts _ q189) dX2_rotateRight_13 ?_
  refine lv_land hx hb dX2_rotateRight_16 ?_
  refine lv_lsub hx hb dX2_rotateRight_17 ?_
  refine lv_l2i (v := ((64 - (y &&& 63))).toInt32) hx hb dX2_rotateRight_18 rfl ?_
  refine lv_lshl (v := (x <<< (((((64 - (y &&& 63))).toInt32)).toInt64 &&& 63))) hx hb dX2_rotateRight_19 rfl ?_
  refine lv_lor hx hb dX2_rotateRight_20 ?_
  exact rc_slret hx hb hr hlocks hQ (rc_eR x y) dX2_rotateRight_21
abbrev rmX2_init : Room := { frames := 1, cells := 0, slots := 0, locals := 12 }
set_option maxHeartbeats 4000000 in
set_option maxRecDepth 100000 in
/-- RC564Engine() -/
theorem metX2_init (l : Launch) (G : va_G) (cB cL : ClassId) (sz : Nat) (h0 : Nat) : Met l yX2_init (ws_ yX2_init cX2_init 1 none) rmX2_init (va_Pc [.ref h0] (rc_Wr G vwCl [(h0, .inr (1, [.int 0, .null, .int 0]))] [(cB, .byte), (cL, .long)] sz)) (rc_Qv G vwCl [(h0, .inr (1, [.int 0, .null, .int 0]))] sz (fun w => w = [(h0, .inr (1, [.int (nI 12), .null, .int 0]))])) 0 0 (va_A [(h0, .inr (1, [.int 0, .null, .int 0]))] sz) := by
  refine rc_start (by decide) (Nat.le_of_ble_eq_true rfl) ?_
  intro p e s m args below meth cD Q hx hb hr hml hown hnm hlocks hts hv hQ ls hl
  obtain ⟨rfl, hP, hK, A, hAe, hD, hA, hS⟩ := rc_prep hv
  have hown : s.vm.findClass RX2 = some m.cls := hown
  have hl : lv_has ls 1 [(0, .ref h0)] := hl
  refine lv_aload_n hx hb dX2_init_0 rfl (lv_at hl 0 rfl) ?_
  refine W.objInit hx hb hown (hts _ q64) (hts _ q24) (hts _ q25) rfl (by rw [hml]; exact hl.1) rfl dX2_init_1 (Nat.le_of_ble_eq_true rfl) (Nat.le_of_ble_eq_true rfl) ?_
  refine W.eq (g2 := F0 m 4 ls []) rfl ?_
  refine lv_aload_n hx hb dX2_init_4 rfl (lv_at hl 0 rfl) ?_
  refine lv_bipush (v := nI 12) hx hb dX2_init_5 (by decide) ?_
  refine va_put (D := G) (ci := 1) (v := .int (nI 12)) (ty := .int) (C := RX2) (T := TX2) (N := 3) hx hb hts in_X2 tyX2 tyX2_ok nmX2 hown hK hP hD hS 0 rfl rfl 0 (by decide) (hts _ q65) (fun _ h9 => h9) rfl (by decide +kernel) rfl rfl (Nat.le_of_ble_eq_true rfl) dX2_init_7 (fun H locs hP hD hS => ?_)
  have hP : va_P G vwCl [(h0, .inr (1, [.int (nI 12), .null, .int 0]))] H := hP
  have hD : va_D A [(h0, .inr (1, [.int (nI 12), .null, .int 0]))] := hD
  refine lv_aload_n hx hb dX2_init_10 rfl (lv_at hl 0 rfl) ?_
  refine lv_null hx hb dX2_init_11 ?_
  refine va_put (D := G) (ci := 1) (v := .null) (ty := .array .long) (C := RX2) (T := TX2) (N := 3) hx hb hts in_X2 tyX2 tyX2_ok nmX2 hown hK hP hD hS 0 rfl rfl 1 (by decide) (hts _ q66) (fun _ h9 => h9) rfl (by decide +kernel) rfl rfl (Nat.le_of_ble_eq_true rfl) dX2_init_12 (fun H locs hP hD hS => ?_)
  have hP : va_P G vwCl [(h0, .inr (1, [.int (nI 12), .null, .int 0]))] H := hP
  have hD : va_D A [(h0, .inr (1, [.int (nI 12), .null, .int 0]))] := hD
  exact rc_vret hx hb hr hlocks hQ hAe [(h0, .inr (1, [.int (nI 12), .null, .int 0]))] (rfl) (hP.sub [0] rfl) (hD.sub [0] (by decide) rfl) hS (Nat.le_of_ble_eq_true rfl) (Nat.le_of_ble_eq_true rfl) dX2_init_15
abbrev rmX2_bytesToWord : Room := { frames := 0, cells := 0, slots := 0, locals := 0 }
set_option maxHeartbeats 4000000 in
set_option maxRecDepth 100000 in
theorem metX2_bytesToWord (l : Launch) (G : va_G) (cB cL : ClassId) (h0 ha : Nat) (f : Nat → Int32) (o : Nat) (ho : o + 8 ≤ 16) : Met l yX2_bytesToWord (ws_ yX2_bytesToWord cX2_bytesToWord 6 (some .long)) rmX2_bytesToWord (va_Pc [.ref h0, .ref ha, .int (nI o)] (rc_Rd G vwCl [(ha, .inl (cB, 16, .inl f))] [(cB, .byte), (cL, .long)])) (vp_Sl (fun r => r = rc_wd f o)) 0 0 (fun _ => False) := by
  refine rc_start (by decide) (Nat.le_of_ble_eq_true rfl) ?_
  intro p e s m args below meth cD Q hx hb hr hml hown hnm hlocks hts hv hQ ls hl
  obtain ⟨hP, hK⟩ := hv
  have hown : s.vm.findClass RX2 = some m.cls := hown
  have hl : lv_has ls 6 [(0, .ref h0), (1, .ref ha), (2, .int (nI o))] := hl
  refine lv_lconst (v := 0) hx hb dX2_bytesToWord_0 (by decide) ?_
  refine lv_lstore_n (lv' := [(3, .long 0), (0, .ref h0), (1, .ref ha), (2, .int (nI o))]) hx hb dX2_bytesToWord_1 rfl hl (by decide) rfl (fun ls hl => ?_)
  refine lv_bipush (v := nI 7) hx hb dX2_bytesToWord_2 (by decide) ?_
  refine lv_istore (lv' := [(5, .int (nI 7)), (3, .long 0), (0, .ref h0), (1, .ref ha), (2, .int (nI o))]) hx hb dX2_bytesToWord_4 hl (by decide) rfl (fun ls hl => ?_)
  have loop : ∀ (n cc : Nat), cc + n = 8 → ∀ ls : Array Slot, lv_has ls 6 [(0, .ref h0), (1, .ref ha), (2, .int (nI o)), (3, .long (lN (rc_T f o cc))), (5, .int (nI n - 1))] → W p l e rmX2_bytesToWord s m args below meth cD s.heap [] 0 0 Q (F0 m 6 ls []) := by
    intro n
    induction n with
    | zero =>
      intro cc hn ls hl
      obtain rfl : cc = 8 := by omega
      refine lv_iload hx hb dX2_bytesToWord_6 (lv_at hl 4 rfl) ?_
      refine lv_if_lt (tgt := 34) hx hb dX2_bytesToWord_8 (by decide) (fun hc => ?_) (fun hc => ?_)
      · refine lv_lload_n hx hb dX2_bytesToWord_34 rfl (lv_at hl 3 rfl) ?_
        exact rc_slret hx hb hr hlocks hQ (rc_T8 f o) dX2_bytesToWord_35
      · exact absurd (by decide) hc
    | succ k ih =>
      intro cc hn ls hl
      rw [nI_pred] at hl
      refine lv_iload hx hb dX2_bytesToWord_6 (lv_at hl 4 rfl) ?_
      refine lv_if_lt (tgt := 34) hx hb dX2_bytesToWord_8 (by decide) (fun hc => ?_) (fun hc => ?_)
      · exact absurd hc (nI_pos (by omega))
      · refine lv_lload_n hx hb dX2_bytesToWord_11 rfl (lv_at hl 3 rfl) ?_
        refine lv_bipush (v := nI 8) hx hb dX2_bytesToWord_12 (by decide) ?_
        refine lv_lshl (v := ((lN (rc_T f o cc)) <<< (((nI 8)).toInt64 &&& 63))) hx hb dX2_bytesToWord_14 rfl ?_
        refine lv_aload_n hx hb dX2_bytesToWord_15 rfl (lv_at hl 1 rfl) ?_
        refine lv_iload hx hb dX2_bytesToWord_16 (lv_at hl 4 rfl) ?_
        refine lv_iload_n hx hb dX2_bytesToWord_18 rfl (lv_at hl 2 rfl) ?_
        refine lv_iadd hx hb dX2_bytesToWord_19 ?_
        refine rc_bald hx hb hK hP 0 0 rfl rfl (o + (7 - cc)) (by rw [nI_add, show k + o = o + (7 - cc) from by omega]) (by omega) (by decide) dX2_bytesToWord_20 ?_
        refine lv_sipush (v := 255) hx hb dX2_bytesToWord_21 (by decide) ?_
        refine lv_iand hx hb dX2_bytesToWord_24 ?_
        refine lv_i2l (v := (((f (o + (7 - cc))) &&& 255)).toInt64) hx hb dX2_bytesToWord_25 rfl ?_
        refine rc_tl (lN (rc_b (f (o + (7 - cc))))) (rc_bE _) ?_
        refine lv_ladd hx hb dX2_bytesToWord_26 ?_
        refine rc_tl (lN (rc_T f o (cc + 1))) (rc_T_s f o cc) ?_
        refine lv_lstore_n (lv' := [(3, .long (lN (rc_T f o (cc + 1)))), (0, .ref h0), (1, .ref ha), (2, .int (nI o)), (5, .int (nI k))]) hx hb dX2_bytesToWord_27 rfl hl (by decide) rfl (fun ls hl => ?_)
        refine lv_iinc (v := (nI k - 1)) (lv' := [(5, .int (nI k - 1)), (3, .long (lN (rc_T f o (cc + 1)))), (0, .ref h0), (1, .ref ha), (2, .int (nI o))]) hx hb dX2_bytesToWord_28 hl (k := 4) rfl (rc_dec _) (by decide) rfl (fun ls hl => ?_)
        refine lv_goto (tgt := 6) hx hb dX2_bytesToWord_31 (by decide) ?_
        exact ih (cc + 1) (by omega) ls (lv_sub hl [2, 3, 4, 1, 0] rfl)
  exact loop 8 0 rfl ls (lv_sub hl [2, 3, 4, 1, 0] rfl)
abbrev rmX2_wordToBytes : Room := { frames := 0, cells := 0, slots := 0, locals := 0 }
set_option maxHeartbeats 4000000 in
set_option maxRecDepth 100000 in
theorem metX2_wordToBytes (l : Launch) (G : va_G) (cB cL : ClassId) (sz : Nat) (h0 ha : Nat) (f : Nat → Int32) (o : Nat) (v : Int64) (ho : o + 8 ≤ 16) : Met l yX2_wordToBytes (ws_ yX2_wordToBytes cX2_wordToBytes 6 none) rmX2_wordToBytes (va_Pc [.ref h0, .long v, .ref ha, .int (nI o)] (rc_Wr G vwCl [(ha, .inl (cB, 16, .inl f))] [(cB, .byte), (cL, .long)] sz)) (rc_Qv G vwCl [(ha, .inl (cB, 16, .inl f))] sz (fun w => w = [(ha, .inl (cB, 16, .inl (rc_pf f o v 8)))])) 0 0 (va_A [(ha, .inl (cB, 16, .inl f))] sz) := by
  refine rc_start (by decide) (Nat.le_of_ble_eq_true rfl) ?_
  intro p e s m args below meth cD Q hx hb hr hml hown hnm hlocks hts hv hQ ls hl
  obtain ⟨rfl, hP, hK, A, hAe, hD, hA, hS⟩ := rc_prep hv
  have hown : s.vm.findClass RX2 = some m.cls := hown
  have hl : lv_has ls 6 [(0, .ref h0), (1, .long v), (3, .ref ha), (4, .int (nI o))] := hl
  refine lv_iconst (v := nI 0) hx hb dX2_wordToBytes_0 (by decide) ?_
  refine lv_istore (lv' := [(5, .int (nI 0)), (0, .ref h0), (1, .long v), (3, .ref ha), (4, .int (nI o))]) hx hb dX2_wordToBytes_1 hl (by decide) rfl (fun ls hl => ?_)
  have loop : ∀ (n k : Nat), k + n = 8 → ∀ (H : Heap) (locs : List Loc) (ls : Array Slot), va_P G vwCl [(ha, .inl (cB, 16, .inl (rc_pf f o v k)))] H → va_D A [(ha, .inl (cB, 16, .inl (rc_pf f o v k)))] → va_S A s.heap H locs → lv_has ls 6 [(0, .ref h0), (1, .long (lN (v.toBitVec.toNat / 256 ^ k))), (3, .ref ha), (4, .int (nI o)), (5, .int (nI k))] → W p l e rmX2_wordToBytes s m args below meth cD H locs 0 0 Q (F0 m 3 ls []) := by
    intro n
    induction n with
    | zero =>
      intro k hn H locs ls hP hD hS hl
      obtain rfl : k = 8 := by omega
      refine lv_iload hx hb dX2_wordToBytes_3 (lv_at hl 4 rfl) ?_
      refine lv_bipush (v := nI 8) hx hb dX2_wordToBytes_5 (by decide) ?_
      refine lv_icmp_ge (tgt := 31) hx hb dX2_wordToBytes_7 (by decide) (fun hc => ?_) (fun hc => ?_)
      · exact rc_vret hx hb hr hlocks hQ hAe [(ha, .inl (cB, 16, .inl (rc_pf f o v 8)))] (rfl) (hP.sub [0] rfl) (hD.sub [0] (by decide) rfl) hS (Nat.le_of_ble_eq_true rfl) (Nat.le_of_ble_eq_true rfl) dX2_wordToBytes_31
      · exact absurd (by decide) hc
    | succ n ih =>
      intro k hn H locs ls hP hD hS hl
      refine lv_iload hx hb dX2_wordToBytes_3 (lv_at hl 4 rfl) ?_
      refine lv_bipush (v := nI 8) hx hb dX2_wordToBytes_5 (by decide) ?_
      refine lv_icmp_ge (tgt := 31) hx hb dX2_wordToBytes_7 (by decide) (fun hc => ?_) (fun hc => ?_)
      · exact absurd hc (nI_ge (b := 8) (by omega) (by decide))
      · refine lv_aload_n hx hb dX2_wordToBytes_10 rfl (lv_at hl 2 rfl) ?_
        refine lv_iload hx hb dX2_wordToBytes_11 (lv_at hl 4 rfl) ?_
        refine lv_iload hx hb dX2_wordToBytes_13 (lv_at hl 3 rfl) ?_
        refine lv_iadd hx hb dX2_wordToBytes_15 ?_
        refine lv_lload_n hx hb dX2_wordToBytes_16 rfl (lv_at hl 1 rfl) ?_
        refine lv_l2i (v := ((lN (v.toBitVec.toNat / 256 ^ k))).toInt32) hx hb dX2_wordToBytes_17 rfl ?_
        refine lv_i2b (v := ((((lN (v.toBitVec.toNat / 256 ^ k))).toInt32)).toInt8.toInt32) hx hb dX2_wordToBytes_18 rfl ?_
        refine rc_bast hx hb hK hP hD hS 0 0 rfl rfl (o + k) (by rw [nI_add, Nat.add_comm]) (by omega) (by decide) (rc_pf f o v (k + 1)) ((congrArg (upd _ _) (rc_nar (rc_B_bo v k))).trans (rc_pf_s f o v k)) dX2_wordToBytes_19 (fun H locs hP hD hS => ?_)
        have hP : va_P G vwCl [(ha, .inl (cB, 16, .inl (rc_pf f o v (k + 1))))] H := hP
        have hD : va_D A [(ha, .inl (cB, 16, .inl (rc_pf f o v (k + 1))))] := hD
        refine lv_lload_n hx hb dX2_wordToBytes_20 rfl (lv_at hl 1 rfl) ?_
        refine lv_bipush (v := nI 8) hx hb dX2_wordToBytes_21 (by decide) ?_
        refine lv_lushr (v := (((lN (v.toBitVec.toNat / 256 ^ k))).toUInt64 >>> (((nI 8)).toInt64.toUInt64 &&& Int64.toUInt64 63)).toInt64) hx hb dX2_wordToBytes_23 rfl ?_
        refine rc_tl (lN (v.toBitVec.toNat / 256 ^ (k + 1))) (rc_pe v k) ?_
        refine lv_lstore_n (lv' := [(1, .long (lN (v.toBitVec.toNat / 256 ^ (k + 1)))), (0, .ref h0), (3, .ref ha), (4, .int (nI o)), (5, .int (nI k))]) hx hb dX2_wordToBytes_24 rfl hl (by decide) rfl (fun ls hl => ?_)
        refine lv_iinc (v := nI (k + 1)) (lv' := [(5, .int (nI (k + 1))), (1, .long (lN (v.toBitVec.toNat / 256 ^ (k + 1)))), (0, .ref h0), (3, .ref ha), (4, .int (nI o))]) hx hb dX2_wordToBytes_25 hl (k := 4) rfl (nI_1 k) (by decide) rfl (fun ls hl => ?_)
        refine lv_goto (tgt := 3) hx hb dX2_wordToBytes_28 (by decide) ?_
        exact ih (k + 1) (by omega) H locs ls hP hD hS (lv_sub hl [2, 1, 3, 4, 0] rfl)
  have hl := lv_sub hl [1, 2, 3, 4, 0] rfl
  have hl : lv_has ls 6 [(0, .ref h0), (1, .long (lN (v.toBitVec.toNat / 256 ^ 0))), (3, .ref ha), (4, .int (nI o)), (5, .int (nI 0))] := by
    rw [← rc_p0 v]
    exact hl
  rw [← rc_pf_0 f o v] at hP hD
  exact loop 8 0 rfl s.heap [] ls hP hD hS hl
end
section
abbrev rmX2_setKey : Room := { frames := 1, cells := 2, slots := 28, locals := 24 }
set_option maxHeartbeats 4000000 in
set_option maxRecDepth 100000 in
/-- setKey: the expanded key -/
theorem metX2_setKey (l : Launch) (G : va_G) (cB cL : ClassId) (sz : Nat) (h0 hk : Nat) (f : Nat → Int32) (z : Int32) : Met l yX2_setKey (ws_ yX2_setKey cX2_setKey 11 none) rmX2_setKey (va_Pc [.ref h0, .ref hk] (rc_Wr G vwCl [(h0, .inr (1, [.int (nI 12), .null, .int z])), (hk, .inl (cB, 16, .inl f))] [(cB, .byte), (cL, .long)] sz)) (rc_Qv G vwCl [(h0, .inr (1, [.int (nI 12), .null, .int z])), (hk, .inl (cB, 16, .inl f))] sz (fun w => ∃ q, w = [(h0, .inr (1, [.int (nI 12), .ref q, .int z])), (hk, .inl (cB, 16, .inl f)), (q, .inl (cL, 26, .inr (.inl (rc_K f))))])) 2 28 (va_A [(h0, .inr (1, [.int (nI 12), .null, .int z])), (hk, .inl (cB, 16, .inl f))] sz) := by
  refine rc_start (by decide) (Nat.le_of_ble_eq_true rfl) ?_
  intro p e s m args below meth cD Q hx hb hr hml hown hnm hlocks hts hv hQ ls hl
  obtain ⟨rfl, hP, hK, A, hAe, hD, hA, hS⟩ := rc_prep hv
  have hown : s.vm.findClass RX2 = some m.cls := hown
  have hl : lv_has ls 11 [(0, .ref h0), (1, .ref hk)] := hl
  have loop3 : ∀ (qL qS n k : Nat), k + n = 78 → ∀ (S Lf : Nat → Int64) (a b : Int64), rc_k f k = (S, Lf, a, b) → ∀ (H : Heap) (locs : List Loc) (ls : Array Slot), va_P G vwCl [(h0, .inr (1, [.int (nI 12), .ref qS, .int z])), (hk, .inl (cB, 16, .inl f)), (qL, .inl (cL, 2, .inr (.inl Lf))), (qS, .inl (cL, 26, .inr (.inl S)))] H → va_D A [(h0, .inr (1, [.int (nI 12), .ref qS, .int z])), (hk, .inl (cB, 16, .inl f)), (qL, .inl (cL, 2, .inr (.inl Lf))), (qS, .inl (cL, 26, .inr (.inl S)))] → va_S A s.heap H locs → lv_has ls 11 [(0, .ref h0), (2, .ref qL), (3, .int (nI 78)), (4, .long a), (6, .long b), (8, .int (nI (k % 26))), (9, .int (nI (k % 2))), (10, .int (nI k))] → W p l e rmX2_setKey s m args below meth cD H locs 2 28 Q (F0 m 149 ls []) := by
    intro qL qS n
    induction n with
    | zero =>
      intro k hn S Lf a b hst H locs ls hP hD hS hl
      obtain rfl : k = 78 := by omega
      obtain rfl := rc_K_of hst
      refine lv_iload hx hb dX2_setKey_149 (lv_at hl 7 rfl) ?_
      refine lv_iload_n hx hb dX2_setKey_151 rfl (lv_at hl 2 rfl) ?_
      refine lv_icmp_ge (tgt := 238) hx hb dX2_setKey_152 (by decide) (fun hc => ?_) (fun hc => ?_)
      · exact rc_vret hx hb hr hlocks hQ hAe [(h0, .inr (1, [.int (nI 12), .ref qS, .int z])), (hk, .inl (cB, 16, .inl f)), (qS, .inl (cL, 26, .inr (.inl (rc_K f))))] (⟨qS, rfl⟩) (hP.sub [0, 1, 3] rfl) (hD.sub [0, 1, 3] (by decide) rfl) hS (Nat.le_of_ble_eq_true rfl) (Nat.le_of_ble_eq_true rfl) dX2_setKey_238
      · exact absurd (by decide) hc
    | succ n ih =>
      intro k hn S Lf a b hst H locs ls hP hD hS hl
      have h26 : k % 26 < 26 := Nat.mod_lt _ (by decide)
      have h2 : k % 2 < 2 := Nat.mod_lt _ (by decide)
      refine lv_iload hx hb dX2_setKey_149 (lv_at hl 7 rfl) ?_
      refine lv_iload_n hx hb dX2_setKey_151 rfl (lv_at hl 2 rfl) ?_
      refine lv_icmp_ge (tgt := 238) hx hb dX2_setKey_152 (by decide) (fun hc => ?_) (fun hc => ?_)
      · exact absurd hc (nI_ge (b := 78) (by omega) (by decide))
      · refine lv_aload_n hx hb dX2_setKey_155 rfl (lv_at hl 0 rfl) ?_
        refine va_get (D := G) (ci := 1) (v := .ref qS) (C := RX2) (T := TX2) (N := 3) hx hb hts in_X2 hown hK hP 0 rfl rfl 1 (by decide) (hts _ q66) (fun _ h9 => h9) rfl dX2_setKey_156 ?_
        refine lv_iload hx hb dX2_setKey_159 (lv_at hl 5 rfl) ?_
        refine lv_aload_n hx hb dX2_setKey_161 rfl (lv_at hl 0 rfl) ?_
        refine lv_aload_n hx hb dX2_setKey_162 rfl (lv_at hl 0 rfl) ?_
        refine va_get (D := G) (ci := 1) (v := .ref qS) (C := RX2) (T := TX2) (N := 3) hx hb hts in_X2 hown hK hP 0 rfl rfl 1 (by decide) (hts _ q66) (fun _ h9 => h9) rfl dX2_setKey_163 ?_
        refine lv_iload hx hb dX2_setKey_166 (lv_at hl 5 rfl) ?_
        refine rc_lald hx hb hK hP 3 1 rfl rfl (k % 26) rfl h26 (by decide) dX2_setKey_168 ?_
        refine lv_lload hx hb dX2_setKey_169 (lv_at hl 3 rfl) ?_
        refine lv_ladd hx hb dX2_setKey_171 ?_
        refine lv_lload hx hb dX2_setKey_172 (lv_at hl 4 rfl) ?_
        refine lv_ladd hx hb dX2_setKey_174 ?_
        refine lv_ldc2 hx hb hown (hts _ q184) dX2_setKey_175 ?_
        refine vp_callSl (W.runV (As := [.long (((S (k % 26)) + a) + b), .long 3]) (rest := [.int (nI (k % 26)), .ref qS]) ⟨hx, hb, hml, hown, hts⟩ (metX2_rotateLeft l G cB cL h0 (S (k % 26) + a + b) 3) (cwV 2 hts (lw_V q185 q187 qs3 q11 q188) rfl rfl rfl (by decide +kernel) ⟨Nat.le_of_ble_eq_true rfl, Nat.le_of_ble_eq_true rfl⟩) (rc_RdV (va_recv hK hP (ci := 1) (q0 := 0) rfl rfl) (hP.sub (ws' := []) [] rfl) hK [.long (((S (k % 26)) + a) + b), .long 3]) rfl rfl hl.1 rfl (lv_room (Nat.le_of_ble_eq_true rfl)) dX2_setKey_178 ⟨(Nat.le_of_ble_eq_true rfl), (Nat.le_of_ble_eq_true rfl)⟩) (fun a1 ha1 => ?_)
        refine lv_dup2_x2_2 hx hb dX2_setKey_181 rfl rfl rfl ?_
        refine rc_last hx hb hK hP hD hS 3 1 rfl rfl (k % 26) rfl h26 (by decide) (vp_updL S (k % 26) a1) rfl dX2_setKey_182 (fun H locs hP hD hS => ?_)
        have hP : va_P G vwCl [(h0, .inr (1, [.int (nI 12), .ref qS, .int z])), (hk, .inl (cB, 16, .inl f)), (qL, .inl (cL, 2, .inr (.inl Lf))), (qS, .inl (cL, 26, .inr (.inl (vp_updL S (k % 26) a1))))] H := hP
        have hD : va_D A [(h0, .inr (1, [.int (nI 12), .ref qS, .int z])), (hk, .inl (cB, 16, .inl f)), (qL, .inl (cL, 2, .inr (.inl Lf))), (qS, .inl (cL, 26, .inr (.inl (vp_updL S (k % 26) a1))))] := hD
        refine lv_lstore (lv' := [(4, .long a1), (0, .ref h0), (2, .ref qL), (3, .int (nI 78)), (6, .long b), (8, .int (nI (k % 26))), (9, .int (nI (k % 2))), (10, .int (nI k))]) hx hb dX2_setKey_183 hl (by decide) rfl (fun ls hl => ?_)
        refine lv_aload_n hx hb dX2_setKey_185 rfl (lv_at hl 2 rfl) ?_
        refine lv_iload hx hb dX2_setKey_186 (lv_at hl 6 rfl) ?_
        refine lv_aload_n hx hb dX2_setKey_188 rfl (lv_at hl 1 rfl) ?_
        refine lv_aload_n hx hb dX2_setKey_189 rfl (lv_at hl 2 rfl) ?_
        refine lv_iload hx hb dX2_setKey_190 (lv_at hl 6 rfl) ?_
        refine rc_lald hx hb hK hP 2 1 rfl rfl (k % 2) rfl h2 (by decide) dX2_setKey_192 ?_
        refine lv_lload hx hb dX2_setKey_193 (lv_at hl 0 rfl) ?_
        refine lv_ladd hx hb dX2_setKey_195 ?_
        refine lv_lload hx hb dX2_setKey_196 (lv_at hl 4 rfl) ?_
        refine lv_ladd hx hb dX2_setKey_198 ?_
        refine lv_lload hx hb dX2_setKey_199 (lv_at hl 0 rfl) ?_
        refine lv_lload hx hb dX2_setKey_201 (lv_at hl 4 rfl) ?_
        refine lv_ladd hx hb dX2_setKey_203 ?_
        refine vp_callSl (W.runV (As := [.long (((Lf (k % 2)) + a1) + b), .long (a1 + b)]) (rest := [.int (nI (k % 2)), .ref qL]) ⟨hx, hb, hml, hown, hts⟩ (metX2_rotateLeft l G cB cL h0 (Lf (k % 2) + a1 + b) (a1 + b)) (cwV 2 hts (lw_V q185 q187 qs3 q11 q188) rfl rfl rfl (by decide +kernel) ⟨Nat.le_of_ble_eq_true rfl, Nat.le_of_ble_eq_true rfl⟩) (rc_RdV (va_recv hK hP (ci := 1) (q0 := 0) rfl rfl) (hP.sub (ws' := []) [] rfl) hK [.long (((Lf (k % 2)) + a1) + b), .long (a1 + b)]) rfl rfl hl.1 rfl (lv_room (Nat.le_of_ble_eq_true rfl)) dX2_setKey_204 ⟨(Nat.le_of_ble_eq_true rfl), (Nat.le_of_ble_eq_true rfl)⟩) (fun b1 hb1 => ?_)
        refine lv_dup2_x2_2 hx hb dX2_setKey_207 rfl rfl rfl ?_
        refine rc_last hx hb hK hP hD hS 2 1 rfl rfl (k % 2) rfl h2 (by decide) (vp_updL Lf (k % 2) b1) rfl dX2_setKey_208 (fun H locs hP hD hS => ?_)
        have hP : va_P G vwCl [(h0, .inr (1, [.int (nI 12), .ref qS, .int z])), (hk, .inl (cB, 16, .inl f)), (qL, .inl (cL, 2, .inr (.inl (vp_updL Lf (k % 2) b1)))), (qS, .inl (cL, 26, .inr (.inl (vp_updL S (k % 26) a1))))] H := hP
        have hD : va_D A [(h0, .inr (1, [.int (nI 12), .ref qS, .int z])), (hk, .inl (cB, 16, .inl f)), (qL, .inl (cL, 2, .inr (.inl (vp_updL Lf (k % 2) b1)))), (qS, .inl (cL, 26, .inr (.inl (vp_updL S (k % 26) a1))))] := hD
        refine lv_lstore (lv' := [(6, .long b1), (4, .long a1), (0, .ref h0), (2, .ref qL), (3, .int (nI 78)), (8, .int (nI (k % 26))), (9, .int (nI (k % 2))), (10, .int (nI k))]) hx hb dX2_setKey_209 hl (by decide) rfl (fun ls hl => ?_)
        refine lv_iload hx hb dX2_setKey_211 (lv_at hl 5 rfl) ?_
        refine lv_iconst (v := nI 1) hx hb dX2_setKey_213 (by decide) ?_
        refine lv_iadd hx hb dX2_setKey_214 ?_
        refine lv_aload_n hx hb dX2_setKey_215 rfl (lv_at hl 2 rfl) ?_
        refine va_get (D := G) (ci := 1) (v := .ref qS) (C := RX2) (T := TX2) (N := 3) hx hb hts in_X2 hown hK hP 0 rfl rfl 1 (by decide) (hts _ q66) (fun _ h9 => h9) rfl dX2_setKey_216 ?_
        refine va_alen (v := nI 26) hx hb hK hP 3 1 rfl rfl rfl dX2_setKey_219 ?_
        refine lv_irem hx hb dX2_setKey_220 (by decide) ?_
        refine rc_ti (nI ((k + 1) % 26)) (rc_md k (by decide) (by decide)) ?_
        refine lv_istore (lv' := [(8, .int (nI ((k + 1) % 26))), (6, .long b1), (4, .long a1), (0, .ref h0), (2, .ref qL), (3, .int (nI 78)), (9, .int (nI (k % 2))), (10, .int (nI k))]) hx hb dX2_setKey_221 hl (by decide) rfl (fun ls hl => ?_)
        refine lv_iload hx hb dX2_setKey_223 (lv_at hl 6 rfl) ?_
        refine lv_iconst (v := nI 1) hx hb dX2_setKey_225 (by decide) ?_
        refine lv_iadd hx hb dX2_setKey_226 ?_
        refine lv_aload_n hx hb dX2_setKey_227 rfl (lv_at hl 4 rfl) ?_
        refine va_alen (v := nI 2) hx hb hK hP 2 1 rfl rfl rfl dX2_setKey_228 ?_
        refine lv_irem hx hb dX2_setKey_229 (by decide) ?_
        refine rc_ti (nI ((k + 1) % 2)) (rc_md k (by decide) (by decide)) ?_
        refine lv_istore (lv' := [(9, .int (nI ((k + 1) % 2))), (8, .int (nI ((k + 1) % 26))), (6, .long b1), (4, .long a1), (0, .ref h0), (2, .ref qL), (3, .int (nI 78)), (10, .int (nI k))]) hx hb dX2_setKey_230 hl (by decide) rfl (fun ls hl => ?_)
        refine lv_iinc (v := nI (k + 1)) (lv' := [(10, .int (nI (k + 1))), (9, .int (nI ((k + 1) % 2))), (8, .int (nI ((k + 1) % 26))), (6, .long b1), (4, .long a1), (0, .ref h0), (2, .ref qL), (3, .int (nI 78))]) hx hb dX2_setKey_232 hl (k := 7) rfl (nI_1 k) (by decide) rfl (fun ls hl => ?_)
        refine lv_goto (tgt := 149) hx hb dX2_setKey_235 (by decide) ?_
        exact ih (k + 1) (by omega) _ _ a1 b1 (rc_k_s hst ha1 hb1) H locs ls hP hD hS (lv_sub hl [5, 6, 7, 4, 3, 2, 1, 0] rfl)
  have loop2 : ∀ (qL qS n k : Nat), k + 1 + n = 26 → ∀ (H : Heap) (locs : List Loc) (ls : Array Slot), va_P G vwCl [(h0, .inr (1, [.int (nI 12), .ref qS, .int z])), (hk, .inl (cB, 16, .inl f)), (qL, .inl (cL, 2, .inr (.inl (rc_l f 16)))), (qS, .inl (cL, 26, .inr (.inl (rc_s0 (k + 1)))))] H → va_D A [(h0, .inr (1, [.int (nI 12), .ref qS, .int z])), (hk, .inl (cB, 16, .inl f)), (qL, .inl (cL, 2, .inr (.inl (rc_l f 16)))), (qS, .inl (cL, 26, .inr (.inl (rc_s0 (k + 1)))))] → va_S A s.heap H locs → lv_has ls 11 [(0, .ref h0), (2, .ref qL), (3, .int (nI (k + 1)))] → W p l e rmX2_setKey s m args below meth cD H locs 2 28 Q (F0 m 75 ls []) := by
    intro qL qS n
    induction n with
    | zero =>
      intro k hn H locs ls hP hD hS hl
      obtain rfl : k = 25 := by omega
      refine lv_iload_n hx hb dX2_setKey_75 rfl (lv_at hl 2 rfl) ?_
      refine lv_aload_n hx hb dX2_setKey_76 rfl (lv_at hl 0 rfl) ?_
      refine va_get (D := G) (ci := 1) (v := .ref qS) (C := RX2) (T := TX2) (N := 3) hx hb hts in_X2 hown hK hP 0 rfl rfl 1 (by decide) (hts _ q66) (fun _ h9 => h9) rfl dX2_setKey_77 ?_
      refine va_alen (v := nI 26) hx hb hK hP 3 1 rfl rfl rfl dX2_setKey_80 ?_
      refine lv_icmp_ge (tgt := 108) hx hb dX2_setKey_81 (by decide) (fun hc => ?_) (fun hc => ?_)
      · refine lv_aload_n hx hb dX2_setKey_108 rfl (lv_at hl 1 rfl) ?_
        refine va_alen (v := nI 2) hx hb hK hP 2 1 rfl rfl rfl dX2_setKey_109 ?_
        refine lv_aload_n hx hb dX2_setKey_110 rfl (lv_at hl 0 rfl) ?_
        refine va_get (D := G) (ci := 1) (v := .ref qS) (C := RX2) (T := TX2) (N := 3) hx hb hts in_X2 hown hK hP 0 rfl rfl 1 (by decide) (hts _ q66) (fun _ h9 => h9) rfl dX2_setKey_111 ?_
        refine va_alen (v := nI 26) hx hb hK hP 3 1 rfl rfl rfl dX2_setKey_114 ?_
        refine lv_icmp_le (tgt := 126) hx hb dX2_setKey_115 (by decide) (fun hc => ?_) (fun hc => ?_)
        · refine lv_iconst (v := nI 3) hx hb dX2_setKey_126 (by decide) ?_
          refine lv_aload_n hx hb dX2_setKey_127 rfl (lv_at hl 0 rfl) ?_
          refine va_get (D := G) (ci := 1) (v := .ref qS) (C := RX2) (T := TX2) (N := 3) hx hb hts in_X2 hown hK hP 0 rfl rfl 1 (by decide) (hts _ q66) (fun _ h9 => h9) rfl dX2_setKey_128 ?_
          refine va_alen (v := nI 26) hx hb hK hP 3 1 rfl rfl rfl dX2_setKey_131 ?_
          refine lv_imul hx hb dX2_setKey_132 ?_
          refine rc_ti (nI 78) (by decide) ?_
          refine lv_istore_n (lv' := [(3, .int (nI 78)), (0, .ref h0), (2, .ref qL)]) hx hb dX2_setKey_133 rfl hl (by decide) rfl (fun ls hl => ?_)
          refine lv_lconst (v := 0) hx hb dX2_setKey_134 (by decide) ?_
          refine lv_lstore (lv' := [(4, .long 0), (3, .int (nI 78)), (0, .ref h0), (2, .ref qL)]) hx hb dX2_setKey_135 hl (by decide) rfl (fun ls hl => ?_)
          refine lv_lconst (v := 0) hx hb dX2_setKey_137 (by decide) ?_
          refine lv_lstore (lv' := [(6, .long 0), (4, .long 0), (3, .int (nI 78)), (0, .ref h0), (2, .ref qL)]) hx hb dX2_setKey_138 hl (by decide) rfl (fun ls hl => ?_)
          refine lv_iconst (v := nI 0) hx hb dX2_setKey_140 (by decide) ?_
          refine lv_istore (lv' := [(8, .int (nI 0)), (6, .long 0), (4, .long 0), (3, .int (nI 78)), (0, .ref h0), (2, .ref qL)]) hx hb dX2_setKey_141 hl (by decide) rfl (fun ls hl => ?_)
          refine lv_iconst (v := nI 0) hx hb dX2_setKey_143 (by decide) ?_
          refine lv_istore (lv' := [(9, .int (nI 0)), (8, .int (nI 0)), (6, .long 0), (4, .long 0), (3, .int (nI 78)), (0, .ref h0), (2, .ref qL)]) hx hb dX2_setKey_144 hl (by decide) rfl (fun ls hl => ?_)
          refine lv_iconst (v := nI 0) hx hb dX2_setKey_146 (by decide) ?_
          refine lv_istore (lv' := [(10, .int (nI 0)), (9, .int (nI 0)), (8, .int (nI 0)), (6, .long 0), (4, .long 0), (3, .int (nI 78)), (0, .ref h0), (2, .ref qL)]) hx hb dX2_setKey_147 hl (by decide) rfl (fun ls hl => ?_)
          exact loop3 qL qS 78 0 rfl (rc_s0 26) (rc_l f 16) 0 0 rfl H locs ls hP hD hS (lv_sub hl [6, 7, 5, 4, 3, 2, 1, 0] rfl)
        · exact absurd (by decide) hc
      · exact absurd (by decide) hc
    | succ n ih =>
      intro k hn H locs ls hP hD hS hl
      refine lv_iload_n hx hb dX2_setKey_75 rfl (lv_at hl 2 rfl) ?_
      refine lv_aload_n hx hb dX2_setKey_76 rfl (lv_at hl 0 rfl) ?_
      refine va_get (D := G) (ci := 1) (v := .ref qS) (C := RX2) (T := TX2) (N := 3) hx hb hts in_X2 hown hK hP 0 rfl rfl 1 (by decide) (hts _ q66) (fun _ h9 => h9) rfl dX2_setKey_77 ?_
      refine va_alen (v := nI 26) hx hb hK hP 3 1 rfl rfl rfl dX2_setKey_80 ?_
      refine lv_icmp_ge (tgt := 108) hx hb dX2_setKey_81 (by decide) (fun hc => ?_) (fun hc => ?_)
      · exact absurd hc (nI_ge (b := 26) (by omega) (by decide))
      · refine lv_aload_n hx hb dX2_setKey_84 rfl (lv_at hl 0 rfl) ?_
        refine va_get (D := G) (ci := 1) (v := .ref qS) (C := RX2) (T := TX2) (N := 3) hx hb hts in_X2 hown hK hP 0 rfl rfl 1 (by decide) (hts _ q66) (fun _ h9 => h9) rfl dX2_setKey_85 ?_
        refine lv_iload_n hx hb dX2_setKey_88 rfl (lv_at hl 2 rfl) ?_
        refine lv_aload_n hx hb dX2_setKey_89 rfl (lv_at hl 0 rfl) ?_
        refine va_get (D := G) (ci := 1) (v := .ref qS) (C := RX2) (T := TX2) (N := 3) hx hb hts in_X2 hown hK hP 0 rfl rfl 1 (by decide) (hts _ q66) (fun _ h9 => h9) rfl dX2_setKey_90 ?_
        refine lv_iload_n hx hb dX2_setKey_93 rfl (lv_at hl 2 rfl) ?_
        refine lv_iconst (v := nI 1) hx hb dX2_setKey_94 (by decide) ?_
        refine lv_isub hx hb dX2_setKey_95 ?_
        refine rc_lald hx hb hK hP 3 1 rfl rfl k (nI_pred k) (by omega) (by decide) dX2_setKey_96 ?_
        refine rc_tl (rc_s k) (rc_s0_at (by omega)) ?_
        refine lv_ldc2 hx hb hown (hts _ q183) dX2_setKey_97 ?_
        refine lv_ladd hx hb dX2_setKey_100 ?_
        refine rc_tl (rc_s (k + 1)) (rfl) ?_
        refine rc_last hx hb hK hP hD hS 3 1 rfl rfl (k + 1) rfl (by omega) (by decide) (rc_s0 (k + 1 + 1)) (rc_s0_s (k + 1)) dX2_setKey_101 (fun H locs hP hD hS => ?_)
        have hP : va_P G vwCl [(h0, .inr (1, [.int (nI 12), .ref qS, .int z])), (hk, .inl (cB, 16, .inl f)), (qL, .inl (cL, 2, .inr (.inl (rc_l f 16)))), (qS, .inl (cL, 26, .inr (.inl (rc_s0 (k + 1 + 1)))))] H := hP
        have hD : va_D A [(h0, .inr (1, [.int (nI 12), .ref qS, .int z])), (hk, .inl (cB, 16, .inl f)), (qL, .inl (cL, 2, .inr (.inl (rc_l f 16)))), (qS, .inl (cL, 26, .inr (.inl (rc_s0 (k + 1 + 1)))))] := hD
        refine lv_iinc (v := nI (k + 1 + 1)) (lv' := [(3, .int (nI (k + 1 + 1))), (0, .ref h0), (2, .ref qL)]) hx hb dX2_setKey_102 hl (k := 2) rfl (nI_1 (k + 1)) (by decide) rfl (fun ls hl => ?_)
        refine lv_goto (tgt := 75) hx hb dX2_setKey_105 (by decide) ?_
        exact ih (k + 1) (by omega) H locs ls hP hD hS (lv_sub hl [1, 2, 0] rfl)
  have loop1 : ∀ (qL n i : Nat), i + n = 16 → ∀ (H : Heap) (locs : List Loc) (ls : Array Slot), va_P G vwCl [(h0, .inr (1, [.int (nI 12), .null, .int z])), (hk, .inl (cB, 16, .inl f)), (qL, .inl (cL, 2, .inr (.inl (rc_l f i))))] H → va_D A [(h0, .inr (1, [.int (nI 12), .null, .int z])), (hk, .inl (cB, 16, .inl f)), (qL, .inl (cL, 2, .inr (.inl (rc_l f i))))] → va_S A s.heap H locs → lv_has ls 11 [(0, .ref h0), (1, .ref hk), (2, .ref qL), (3, .int (nI i))] → W p l e rmX2_setKey s m args below meth cD H locs 1 2 Q (F0 m 13 ls []) := by
    intro qL n
    induction n with
    | zero =>
      intro i hn H locs ls hP hD hS hl
      obtain rfl : i = 16 := by omega
      refine lv_iload_n hx hb dX2_setKey_13 rfl (lv_at hl 3 rfl) ?_
      refine lv_aload_n hx hb dX2_setKey_14 rfl (lv_at hl 1 rfl) ?_
      refine va_alen (v := nI 16) hx hb hK hP 1 0 rfl rfl rfl dX2_setKey_15 ?_
      refine lv_icmp_eq (tgt := 50) hx hb dX2_setKey_16 (by decide) (fun hc => ?_) (fun hc => ?_)
      · refine lv_aload_n hx hb dX2_setKey_50 rfl (lv_at hl 0 rfl) ?_
        refine lv_iconst (v := nI 2) hx hb dX2_setKey_51 (by decide) ?_
        refine lv_aload_n hx hb dX2_setKey_52 rfl (lv_at hl 0 rfl) ?_
        refine va_get (D := G) (ci := 1) (v := .int (nI 12)) (C := RX2) (T := TX2) (N := 3) hx hb hts in_X2 hown hK hP 0 rfl rfl 0 (by decide) (hts _ q65) (fun _ h9 => h9) rfl dX2_setKey_53 ?_
        refine lv_iconst (v := nI 1) hx hb dX2_setKey_56 (by decide) ?_
        refine lv_iadd hx hb dX2_setKey_57 ?_
        refine lv_imul hx hb dX2_setKey_58 ?_
        refine rc_ti (nI 26) (by decide) ?_
        refine rc_newL hx hb (hts _ q220) hK hP hD hS hA 26 rfl (by decide) (Nat.le_of_ble_eq_true rfl) (Nat.le_of_ble_eq_true rfl) dX2_setKey_59 (fun qS H hP hD hS => ?_)
        have hP : va_P G vwCl [(h0, .inr (1, [.int (nI 12), .null, .int z])), (hk, .inl (cB, 16, .inl f)), (qL, .inl (cL, 2, .inr (.inl (rc_l f 16)))), (qS, .inl (cL, 26, .inr (.inl (fun _ => 0))))] H := hP
        have hD : va_D A [(h0, .inr (1, [.int (nI 12), .null, .int z])), (hk, .inl (cB, 16, .inl f)), (qL, .inl (cL, 2, .inr (.inl (rc_l f 16)))), (qS, .inl (cL, 26, .inr (.inl (fun _ => 0))))] := hD
        refine va_put (D := G) (ci := 1) (v := .ref qS) (ty := .array .long) (C := RX2) (T := TX2) (N := 3) hx hb hts in_X2 tyX2 tyX2_ok nmX2 hown hK hP hD hS 0 rfl rfl 1 (by decide) (hts _ q66) (fun _ h9 => h9) rfl (by decide +kernel) rfl rfl (Nat.le_of_ble_eq_true rfl) dX2_setKey_61 (fun H locs hP hD hS => ?_)
        have hP : va_P G vwCl [(h0, .inr (1, [.int (nI 12), .ref qS, .int z])), (hk, .inl (cB, 16, .inl f)), (qL, .inl (cL, 2, .inr (.inl (rc_l f 16)))), (qS, .inl (cL, 26, .inr (.inl (fun _ => 0))))] H := hP
        have hD : va_D A [(h0, .inr (1, [.int (nI 12), .ref qS, .int z])), (hk, .inl (cB, 16, .inl f)), (qL, .inl (cL, 2, .inr (.inl (rc_l f 16)))), (qS, .inl (cL, 26, .inr (.inl (fun _ => 0))))] := hD
        refine lv_aload_n hx hb dX2_setKey_64 rfl (lv_at hl 0 rfl) ?_
        refine va_get (D := G) (ci := 1) (v := .ref qS) (C := RX2) (T := TX2) (N := 3) hx hb hts in_X2 hown hK hP 0 rfl rfl 1 (by decide) (hts _ q66) (fun _ h9 => h9) rfl dX2_setKey_65 ?_
        refine lv_iconst (v := nI 0) hx hb dX2_setKey_68 (by decide) ?_
        refine lv_ldc2 hx hb hown (hts _ q182) dX2_setKey_69 ?_
        refine rc_last hx hb hK hP hD hS 3 1 rfl rfl 0 rfl (by decide) (by decide) (rc_s0 1) (by rw [rc_s0_0]; exact rc_s0_s 0) dX2_setKey_72 (fun H locs hP hD hS => ?_)
        have hP : va_P G vwCl [(h0, .inr (1, [.int (nI 12), .ref qS, .int z])), (hk, .inl (cB, 16, .inl f)), (qL, .inl (cL, 2, .inr (.inl (rc_l f 16)))), (qS, .inl (cL, 26, .inr (.inl (rc_s0 1))))] H := hP
        have hD : va_D A [(h0, .inr (1, [.int (nI 12), .ref qS, .int z])), (hk, .inl (cB, 16, .inl f)), (qL, .inl (cL, 2, .inr (.inl (rc_l f 16)))), (qS, .inl (cL, 26, .inr (.inl (rc_s0 1))))] := hD
        refine lv_iconst (v := nI 1) hx hb dX2_setKey_73 (by decide) ?_
        refine lv_istore_n (lv' := [(3, .int (nI 1)), (0, .ref h0), (1, .ref hk), (2, .ref qL)]) hx hb dX2_setKey_74 rfl hl (by decide) rfl (fun ls hl => ?_)
        exact loop2 qL qS 25 0 rfl H locs ls hP hD hS (lv_sub hl [1, 3, 0] rfl)
      · exact absurd rfl hc
    | succ n ih =>
      intro i hn H locs ls hP hD hS hl
      have h8 : i / 8 < 2 := by omega
      refine lv_iload_n hx hb dX2_setKey_13 rfl (lv_at hl 3 rfl) ?_
      refine lv_aload_n hx hb dX2_setKey_14 rfl (lv_at hl 1 rfl) ?_
      refine va_alen (v := nI 16) hx hb hK hP 1 0 rfl rfl rfl dX2_setKey_15 ?_
      refine lv_icmp_eq (tgt := 50) hx hb dX2_setKey_16 (by decide) (fun hc => ?_) (fun hc => ?_)
      · exact absurd ((nI_eq (b := 16) (by omega) (by decide)).mp hc) (by omega)
      · refine lv_aload_n hx hb dX2_setKey_19 rfl (lv_at hl 2 rfl) ?_
        refine lv_iload_n hx hb dX2_setKey_20 rfl (lv_at hl 3 rfl) ?_
        refine lv_bipush (v := nI 8) hx hb dX2_setKey_21 (by decide) ?_
        refine lv_idiv hx hb dX2_setKey_23 (by decide) ?_
        refine rc_ti (nI (i / 8)) (pk_div (by omega) (by decide) (by decide)) ?_
        refine lv_dup2_11 hx hb dX2_setKey_24 rfl rfl ?_
        refine rc_lald hx hb hK hP 2 1 rfl rfl (i / 8) rfl h8 (by decide) dX2_setKey_25 ?_
        refine lv_aload_n hx hb dX2_setKey_26 rfl (lv_at hl 1 rfl) ?_
        refine lv_iload_n hx hb dX2_setKey_27 rfl (lv_at hl 3 rfl) ?_
        refine rc_bald hx hb hK hP 1 0 rfl rfl i rfl (by omega) (by decide) dX2_setKey_28 ?_
        refine lv_sipush (v := 255) hx hb dX2_setKey_29 (by decide) ?_
        refine lv_iand hx hb dX2_setKey_32 ?_
        refine lv_i2l (v := (((f i) &&& 255)).toInt64) hx hb dX2_setKey_33 rfl ?_
        refine rc_tl (lN (rc_b (f i))) (rc_bE _) ?_
        refine lv_bipush (v := nI 8) hx hb dX2_setKey_34 (by decide) ?_
        refine lv_iload_n hx hb dX2_setKey_36 rfl (lv_at hl 3 rfl) ?_
        refine lv_bipush (v := nI 8) hx hb dX2_setKey_37 (by decide) ?_
        refine lv_irem hx hb dX2_setKey_39 (by decide) ?_
        refine rc_ti (nI (i % 8)) (pk_rem (by omega) (by decide) (by decide)) ?_
        refine lv_imul hx hb dX2_setKey_40 ?_
        refine rc_ti (nI (8 * (i % 8))) (pk_mul _ _) ?_
        refine lv_lshl (v := ((lN (rc_b (f i))) <<< (((nI (8 * (i % 8)))).toInt64 &&& 63))) hx hb dX2_setKey_41 rfl ?_
        refine lv_ladd hx hb dX2_setKey_42 ?_
        refine rc_last hx hb hK hP hD hS 2 1 rfl rfl (i / 8) rfl h8 (by decide) (rc_l f (i + 1)) (rc_l_s f (by omega)) dX2_setKey_43 (fun H locs hP hD hS => ?_)
        have hP : va_P G vwCl [(h0, .inr (1, [.int (nI 12), .null, .int z])), (hk, .inl (cB, 16, .inl f)), (qL, .inl (cL, 2, .inr (.inl (rc_l f (i + 1)))))] H := hP
        have hD : va_D A [(h0, .inr (1, [.int (nI 12), .null, .int z])), (hk, .inl (cB, 16, .inl f)), (qL, .inl (cL, 2, .inr (.inl (rc_l f (i + 1)))))] := hD
        refine lv_iinc (v := nI (i + 1)) (lv' := [(3, .int (nI (i + 1))), (0, .ref h0), (1, .ref hk), (2, .ref qL)]) hx hb dX2_setKey_44 hl (k := 3) rfl (nI_1 i) (by decide) rfl (fun ls hl => ?_)
        refine lv_goto (tgt := 13) hx hb dX2_setKey_47 (by decide) ?_
        exact ih (i + 1) (by omega) H locs ls hP hD hS (lv_sub hl [1, 2, 3, 0] rfl)
  refine lv_aload_n hx hb dX2_setKey_0 rfl (lv_at hl 1 rfl) ?_
  refine va_alen (v := nI 16) hx hb hK hP 1 0 rfl rfl rfl dX2_setKey_1 ?_
  refine lv_bipush (v := nI 7) hx hb dX2_setKey_2 (by decide) ?_
  refine lv_iadd hx hb dX2_setKey_4 ?_
  refine lv_bipush (v := nI 8) hx hb dX2_setKey_5 (by decide) ?_
  refine lv_idiv hx hb dX2_setKey_7 (by decide) ?_
  refine rc_ti (nI 2) (by decide) ?_
  refine rc_newL hx hb (hts _ q220) hK hP hD hS hA 2 rfl (by decide) (Nat.le_of_ble_eq_true rfl) (Nat.le_of_ble_eq_true rfl) dX2_setKey_8 (fun qL H hP hD hS => ?_)
  have hP : va_P G vwCl [(h0, .inr (1, [.int (nI 12), .null, .int z])), (hk, .inl (cB, 16, .inl f)), (qL, .inl (cL, 2, .inr (.inl (fun _ => 0))))] H := hP
  have hD : va_D A [(h0, .inr (1, [.int (nI 12), .null, .int z])), (hk, .inl (cB, 16, .inl f)), (qL, .inl (cL, 2, .inr (.inl (fun _ => 0))))] := hD
  refine lv_astore_n (lv' := [(2, .ref qL), (0, .ref h0), (1, .ref hk)]) hx hb dX2_setKey_10 rfl hl (by decide) rfl (fun ls hl => ?_)
  refine lv_iconst (v := nI 0) hx hb dX2_setKey_11 (by decide) ?_
  refine lv_istore_n (lv' := [(3, .int (nI 0)), (2, .ref qL), (0, .ref h0), (1, .ref hk)]) hx hb dX2_setKey_12 rfl hl (by decide) rfl (fun ls hl => ?_)
  rw [rc_l_0 f] at hP hD
  exact loop1 qL 16 0 rfl H [] ls hP hD hS (lv_sub hl [2, 3, 1, 0] rfl)
end
section
abbrev rmX2_encryptBlock : Room := { frames := 1, cells := 0, slots := 0, locals := 25 }
set_option maxHeartbeats 4000000 in
set_option maxRecDepth 100000 in
/-- encryptBlock -/
theorem metX2_encryptBlock (l : Launch) (G : va_G) (cB cL : ClassId) (sz : Nat) (h0 q hi ho : Nat) (S : Nat → Int64) (g fo : Nat → Int32) (z : Int32) : Met l yX2_encryptBlock (ws_ yX2_encryptBlock cX2_encryptBlock 10 (some .int)) rmX2_encryptBlock (va_Pc [.ref h0, .ref hi, .int (nI 0), .ref ho, .int (nI 0)] (rc_Wr G vwCl [(h0, .inr (1, [.int (nI 12), .ref q, .int z])), (q, .inl (cL, 26, .inr (.inl S))), (hi, .inl (cB, 16, .inl g)), (ho, .inl (cB, 16, .inl fo))] [(cB, .byte), (cL, .long)] sz)) (rc_Qi G vwCl [(h0, .inr (1, [.int (nI 12), .ref q, .int z])), (q, .inl (cL, 26, .inr (.inl S))), (hi, .inl (cB, 16, .inl g)), (ho, .inl (cB, 16, .inl fo))] sz (fun w => w = [(h0, .inr (1, [.int (nI 12), .ref q, .int z])), (q, .inl (cL, 26, .inr (.inl S))), (hi, .inl (cB, 16, .inl g)), (ho, .inl (cB, 16, .inl (rc_En S g)))])) 0 0 (va_A [(h0, .inr (1, [.int (nI 12), .ref q, .int z])), (q, .inl (cL, 26, .inr (.inl S))), (hi, .inl (cB, 16, .inl g)), (ho, .inl (cB, 16, .inl fo))] sz) := by
  refine rc_start (by decide) (Nat.le_of_ble_eq_true rfl) ?_
  intro p e s m args below meth cD Q hx hb hr hml hown hnm hlocks hts hv hQ ls hl
  obtain ⟨rfl, hP, hK, A, hAe, hD, hA, hS⟩ := rc_prep hv
  have hown : s.vm.findClass RX2 = some m.cls := hown
  have hl : lv_has ls 10 [(0, .ref h0), (1, .ref hi), (2, .int (nI 0)), (3, .ref ho), (4, .int (nI 0))] := hl
  have loop : ∀ (n r : Nat), r + n = 12 → ∀ a b : Int64, rc_e S r (rc_wd g 0 + S 0, rc_wd g 8 + S 1) = (a, b) → ∀ ls : Array Slot, lv_has ls 10 [(0, .ref h0), (3, .ref ho), (4, .int (nI 0)), (5, .long a), (7, .long b), (9, .int (nI (r + 1)))] → W p l e rmX2_encryptBlock s m args below meth cD s.heap [] 0 0 Q (F0 m 36 ls []) := by
    intro n
    induction n with
    | zero =>
      intro r hn a b hst ls hl
      obtain rfl : r = 12 := by omega
      refine lv_iload hx hb dX2_encryptBlock_36 (lv_at hl 5 rfl) ?_
      refine lv_aload_n hx hb dX2_encryptBlock_38 rfl (lv_at hl 0 rfl) ?_
      refine va_get (D := G) (ci := 1) (v := .int (nI 12)) (C := RX2) (T := TX2) (N := 3) hx hb hts in_X2 hown hK hP 0 rfl rfl 0 (by decide) (hts _ q65) (fun _ h9 => h9) rfl dX2_encryptBlock_39 ?_
      refine lv_icmp_gt (tgt := 99) hx hb dX2_encryptBlock_42 (by decide) (fun hc => ?_) (fun hc => ?_)
      · refine lv_aload_n hx hb dX2_encryptBlock_99 rfl (lv_at hl 0 rfl) ?_
        refine lv_lload hx hb dX2_encryptBlock_100 (lv_at hl 3 rfl) ?_
        refine lv_aload_n hx hb dX2_encryptBlock_102 rfl (lv_at hl 1 rfl) ?_
        refine lv_iload hx hb dX2_encryptBlock_103 (lv_at hl 2 rfl) ?_
        refine rc_callv (va_runV (As := [.long a, .ref ho, .int (nI 0)]) (rest := []) ⟨hx, hb, hml, hown, hts⟩ (metX2_wordToBytes l G cB cL s.heap.size h0 ho fo 0 a (by decide)) (cwV 3 hts (lw_V q208 q210 qs6 q11 q211) rfl rfl rfl (by decide +kernel) ⟨Nat.le_of_ble_eq_true rfl, Nat.le_of_ble_eq_true rfl⟩) (rc_WrV (va_recv hK hP (ci := 1) (q0 := 0) rfl rfl) (hP.sub (ws' := [(ho, .inl (cB, 16, .inl fo))]) [3] rfl) hK (hD.sub (ws' := [(ho, .inl (cB, 16, .inl fo))]) [3] (by decide) rfl) [.long a, .ref ho, .int (nI 0)]) rfl rfl hl.1 rfl (lv_room (Nat.le_of_ble_eq_true rfl)) dX2_encryptBlock_105 ⟨(Nat.le_of_ble_eq_true rfl), (Nat.le_of_ble_eq_true rfl)⟩) hP hD hS hA [3] [0, 1, 2] (wr := [(h0, .inr (1, [.int (nI 12), .ref q, .int z])), (q, .inl (cL, 26, .inr (.inl S))), (hi, .inl (cB, 16, .inl g))]) rfl rfl (by decide) (by decide) (fun w1 hw H locs hP hD hS => ?_)
        obtain rfl := hw
        have hP : va_P G vwCl [(h0, .inr (1, [.int (nI 12), .ref q, .int z])), (q, .inl (cL, 26, .inr (.inl S))), (hi, .inl (cB, 16, .inl g)), (ho, .inl (cB, 16, .inl (rc_pf fo 0 a 8)))] H := hP
        have hD : va_D A [(h0, .inr (1, [.int (nI 12), .ref q, .int z])), (q, .inl (cL, 26, .inr (.inl S))), (hi, .inl (cB, 16, .inl g)), (ho, .inl (cB, 16, .inl (rc_pf fo 0 a 8)))] := hD
        refine lv_aload_n hx hb dX2_encryptBlock_108 rfl (lv_at hl 0 rfl) ?_
        refine lv_lload hx hb dX2_encryptBlock_109 (lv_at hl 4 rfl) ?_
        refine lv_aload_n hx hb dX2_encryptBlock_111 rfl (lv_at hl 1 rfl) ?_
        refine lv_iload hx hb dX2_encryptBlock_112 (lv_at hl 2 rfl) ?_
        refine lv_bipush (v := nI 8) hx hb dX2_encryptBlock_114 (by decide) ?_
        refine lv_iadd hx hb dX2_encryptBlock_116 ?_
        refine rc_ti (nI 8) (by decide) ?_
        refine rc_callv (va_runV (As := [.long b, .ref ho, .int (nI 8)]) (rest := []) ⟨hx, hb, hml, hown, hts⟩ (metX2_wordToBytes l G cB cL H.size h0 ho (rc_pf fo 0 a 8) 8 b (by decide)) (cwV 3 hts (lw_V q208 q210 qs6 q11 q211) rfl rfl rfl (by decide +kernel) ⟨Nat.le_of_ble_eq_true rfl, Nat.le_of_ble_eq_true rfl⟩) (rc_WrV (va_recv hK hP (ci := 1) (q0 := 0) rfl rfl) (hP.sub (ws' := [(ho, .inl (cB, 16, .inl (rc_pf fo 0 a 8)))]) [3] rfl) hK (hD.sub (ws' := [(ho, .inl (cB, 16, .inl (rc_pf fo 0 a 8)))]) [3] (by decide) rfl) [.long b, .ref ho, .int (nI 8)]) rfl rfl hl.1 rfl (lv_room (Nat.le_of_ble_eq_true rfl)) dX2_encryptBlock_117 ⟨(Nat.le_of_ble_eq_true rfl), (Nat.le_of_ble_eq_true rfl)⟩) hP hD hS hA [3] [0, 1, 2] (wr := [(h0, .inr (1, [.int (nI 12), .ref q, .int z])), (q, .inl (cL, 26, .inr (.inl S))), (hi, .inl (cB, 16, .inl g))]) rfl rfl (by decide) (by decide) (fun w1 hw H locs hP hD hS => ?_)
        obtain rfl := hw
        have hP : va_P G vwCl [(h0, .inr (1, [.int (nI 12), .ref q, .int z])), (q, .inl (cL, 26, .inr (.inl S))), (hi, .inl (cB, 16, .inl g)), (ho, .inl (cB, 16, .inl (rc_pf (rc_pf fo 0 a 8) 8 b 8)))] H := hP
        have hD : va_D A [(h0, .inr (1, [.int (nI 12), .ref q, .int z])), (q, .inl (cL, 26, .inr (.inl S))), (hi, .inl (cB, 16, .inl g)), (ho, .inl (cB, 16, .inl (rc_pf (rc_pf fo 0 a 8) 8 b 8)))] := hD
        obtain ⟨hP, hD⟩ := rc_ext hP hD 3 rfl (rc_oF (a, b)) (fun j hj => rc_oF_pf fo a b hj)
        have hP : va_P G vwCl [(h0, .inr (1, [.int (nI 12), .ref q, .int z])), (q, .inl (cL, 26, .inr (.inl S))), (hi, .inl (cB, 16, .inl g)), (ho, .inl (cB, 16, .inl (rc_oF (a, b))))] H := hP
        have hD : va_D A [(h0, .inr (1, [.int (nI 12), .ref q, .int z])), (q, .inl (cL, 26, .inr (.inl S))), (hi, .inl (cB, 16, .inl g)), (ho, .inl (cB, 16, .inl (rc_oF (a, b))))] := hD
        refine lv_bipush (v := nI 16) hx hb dX2_encryptBlock_120 (by decide) ?_
        exact rc_iret hx hb hr hlocks hQ hAe [(h0, .inr (1, [.int (nI 12), .ref q, .int z])), (q, .inl (cL, 26, .inr (.inl S))), (hi, .inl (cB, 16, .inl g)), (ho, .inl (cB, 16, .inl (rc_oF (a, b))))] (by show _ = _; unfold rc_En; rw [hst]) (hP.sub [0, 1, 2, 3] rfl) (hD.sub [0, 1, 2, 3] (by decide) rfl) hS (Nat.le_of_ble_eq_true rfl) (Nat.le_of_ble_eq_true rfl) dX2_encryptBlock_122
      · exact absurd (by decide) hc
    | succ n ih =>
      intro r hn a b hst ls hl
      refine lv_iload hx hb dX2_encryptBlock_36 (lv_at hl 5 rfl) ?_
      refine lv_aload_n hx hb dX2_encryptBlock_38 rfl (lv_at hl 0 rfl) ?_
      refine va_get (D := G) (ci := 1) (v := .int (nI 12)) (C := RX2) (T := TX2) (N := 3) hx hb hts in_X2 hown hK hP 0 rfl rfl 0 (by decide) (hts _ q65) (fun _ h9 => h9) rfl dX2_encryptBlock_39 ?_
      refine lv_icmp_gt (tgt := 99) hx hb dX2_encryptBlock_42 (by decide) (fun hc => ?_) (fun hc => ?_)
      · exact absurd hc (nI_nlt (a := 12) (by omega) (by decide))
      · refine lv_aload_n hx hb dX2_encryptBlock_45 rfl (lv_at hl 0 rfl) ?_
        refine lv_lload hx hb dX2_encryptBlock_46 (lv_at hl 3 rfl) ?_
        refine lv_lload hx hb dX2_encryptBlock_48 (lv_at hl 4 rfl) ?_
        refine lv_lxor hx hb dX2_encryptBlock_50 ?_
        refine lv_lload hx hb dX2_encryptBlock_51 (lv_at hl 4 rfl) ?_
        refine vp_callSl (W.runV (As := [.long (a ^^^ b), .long b]) (rest := []) ⟨hx, hb, hml, hown, hts⟩ (metX2_rotateLeft l G cB cL h0 (a ^^^ b) b) (cwV 2 hts (lw_V q185 q187 qs3 q11 q188) rfl rfl rfl (by decide +kernel) ⟨Nat.le_of_ble_eq_true rfl, Nat.le_of_ble_eq_true rfl⟩) (rc_RdV (va_recv hK hP (ci := 1) (q0 := 0) rfl rfl) (hP.sub (ws' := []) [] rfl) hK [.long (a ^^^ b), .long b]) rfl rfl hl.1 rfl (lv_room (Nat.le_of_ble_eq_true rfl)) dX2_encryptBlock_53 ⟨(Nat.le_of_ble_eq_true rfl), (Nat.le_of_ble_eq_true rfl)⟩) (fun t1 ht1 => ?_)
        refine lv_aload_n hx hb dX2_encryptBlock_56 rfl (lv_at hl 0 rfl) ?_
        refine va_get (D := G) (ci := 1) (v := .ref q) (C := RX2) (T := TX2) (N := 3) hx hb hts in_X2 hown hK hP 0 rfl rfl 1 (by decide) (hts _ q66) (fun _ h9 => h9) rfl dX2_encryptBlock_57 ?_
        refine lv_iconst (v := nI 2) hx hb dX2_encryptBlock_60 (by decide) ?_
        refine lv_iload hx hb dX2_encryptBlock_61 (lv_at hl 5 rfl) ?_
        refine lv_imul hx hb dX2_encryptBlock_63 ?_
        refine rc_lald hx hb hK hP 1 1 rfl rfl (2 * (r + 1)) (pk_mul _ _) (by omega) (by decide) dX2_encryptBlock_64 ?_
        refine lv_ladd hx hb dX2_encryptBlock_65 ?_
        refine lv_topl (fun a1 ea1 => ?_)
        refine lv_lstore (lv' := [(5, .long a1), (0, .ref h0), (3, .ref ho), (4, .int (nI 0)), (7, .long b), (9, .int (nI (r + 1)))]) hx hb dX2_encryptBlock_66 hl (by decide) rfl (fun ls hl => ?_)
        refine lv_aload_n hx hb dX2_encryptBlock_68 rfl (lv_at hl 1 rfl) ?_
        refine lv_lload hx hb dX2_encryptBlock_69 (lv_at hl 4 rfl) ?_
        refine lv_lload hx hb dX2_encryptBlock_71 (lv_at hl 0 rfl) ?_
        refine lv_lxor hx hb dX2_encryptBlock_73 ?_
        refine lv_lload hx hb dX2_encryptBlock_74 (lv_at hl 0 rfl) ?_
        refine vp_callSl (W.runV (As := [.long (b ^^^ a1), .long a1]) (rest := []) ⟨hx, hb, hml, hown, hts⟩ (metX2_rotateLeft l G cB cL h0 (b ^^^ a1) a1) (cwV 2 hts (lw_V q185 q187 qs3 q11 q188) rfl rfl rfl (by decide +kernel) ⟨Nat.le_of_ble_eq_true rfl, Nat.le_of_ble_eq_true rfl⟩) (rc_RdV (va_recv hK hP (ci := 1) (q0 := 0) rfl rfl) (hP.sub (ws' := []) [] rfl) hK [.long (b ^^^ a1), .long a1]) rfl rfl hl.1 rfl (lv_room (Nat.le_of_ble_eq_true rfl)) dX2_encryptBlock_76 ⟨(Nat.le_of_ble_eq_true rfl), (Nat.le_of_ble_eq_true rfl)⟩) (fun t2 ht2 => ?_)
        refine lv_aload_n hx hb dX2_encryptBlock_79 rfl (lv_at hl 1 rfl) ?_
        refine va_get (D := G) (ci := 1) (v := .ref q) (C := RX2) (T := TX2) (N := 3) hx hb hts in_X2 hown hK hP 0 rfl rfl 1 (by decide) (hts _ q66) (fun _ h9 => h9) rfl dX2_encryptBlock_80 ?_
        refine lv_iconst (v := nI 2) hx hb dX2_encryptBlock_83 (by decide) ?_
        refine lv_iload hx hb dX2_encryptBlock_84 (lv_at hl 5 rfl) ?_
        refine lv_imul hx hb dX2_encryptBlock_86 ?_
        refine lv_iconst (v := nI 1) hx hb dX2_encryptBlock_87 (by decide) ?_
        refine lv_iadd hx hb dX2_encryptBlock_88 ?_
        refine rc_lald hx hb hK hP 1 1 rfl rfl (2 * (r + 1) + 1) (by rw [pk_mul, nI_add]) (by omega) (by decide) dX2_encryptBlock_89 ?_
        refine lv_ladd hx hb dX2_encryptBlock_90 ?_
        refine lv_topl (fun b1 eb1 => ?_)
        refine lv_lstore (lv' := [(7, .long b1), (5, .long a1), (0, .ref h0), (3, .ref ho), (4, .int (nI 0)), (9, .int (nI (r + 1)))]) hx hb dX2_encryptBlock_91 hl (by decide) rfl (fun ls hl => ?_)
        refine lv_iinc (v := nI (r + 1 + 1)) (lv' := [(9, .int (nI (r + 1 + 1))), (7, .long b1), (5, .long a1), (0, .ref h0), (3, .ref ho), (4, .int (nI 0))]) hx hb dX2_encryptBlock_93 hl (k := 5) rfl (nI_1 (r + 1)) (by decide) rfl (fun ls hl => ?_)
        refine lv_goto (tgt := 36) hx hb dX2_encryptBlock_96 (by decide) ?_
        exact ih (r + 1) (by omega) a1 b1 (rc_e_s hst (by rw [ea1, ht1]) (by rw [eb1, ht2])) ls (lv_sub hl [3, 4, 5, 2, 1, 0] rfl)
  refine lv_aload_n hx hb dX2_encryptBlock_0 rfl (lv_at hl 0 rfl) ?_
  refine lv_aload_n hx hb dX2_encryptBlock_1 rfl (lv_at hl 1 rfl) ?_
  refine lv_iload_n hx hb dX2_encryptBlock_2 rfl (lv_at hl 2 rfl) ?_
  refine vp_callSl (W.runV (As := [.ref hi, .int (nI 0)]) (rest := []) ⟨hx, hb, hml, hown, hts⟩ (metX2_bytesToWord l G cB cL h0 hi g 0 (by decide)) (cwV 2 hts (lw_V q204 q206 qs5 q11 q207) rfl rfl rfl (by decide +kernel) ⟨Nat.le_of_ble_eq_true rfl, Nat.le_of_ble_eq_true rfl⟩) (rc_RdV (va_recv hK hP (ci := 1) (q0 := 0) rfl rfl) (hP.sub (ws' := [(hi, .inl (cB, 16, .inl g))]) [2] rfl) hK [.ref hi, .int (nI 0)]) rfl rfl hl.1 rfl (lv_room (Nat.le_of_ble_eq_true rfl)) dX2_encryptBlock_3 ⟨(Nat.le_of_ble_eq_true rfl), (Nat.le_of_ble_eq_true rfl)⟩) (fun w0 hw0 => ?_)
  subst hw0
  refine lv_aload_n hx hb dX2_encryptBlock_6 rfl (lv_at hl 0 rfl) ?_
  refine va_get (D := G) (ci := 1) (v := .ref q) (C := RX2) (T := TX2) (N := 3) hx hb hts in_X2 hown hK hP 0 rfl rfl 1 (by decide) (hts _ q66) (fun _ h9 => h9) rfl dX2_encryptBlock_7 ?_
  refine lv_iconst (v := nI 0) hx hb dX2_encryptBlock_10 (by decide) ?_
  refine rc_lald hx hb hK hP 1 1 rfl rfl 0 rfl (by decide) (by decide) dX2_encryptBlock_11 ?_
  refine lv_ladd hx hb dX2_encryptBlock_12 ?_
  refine lv_lstore (lv' := [(5, .long ((rc_wd g 0) + (S 0))), (0, .ref h0), (1, .ref hi), (2, .int (nI 0)), (3, .ref ho), (4, .int (nI 0))]) hx hb dX2_encryptBlock_13 hl (by decide) rfl (fun ls hl => ?_)
  refine lv_aload_n hx hb dX2_encryptBlock_15 rfl (lv_at hl 1 rfl) ?_
  refine lv_aload_n hx hb dX2_encryptBlock_16 rfl (lv_at hl 2 rfl) ?_
  refine lv_iload_n hx hb dX2_encryptBlock_17 rfl (lv_at hl 3 rfl) ?_
  refine lv_bipush (v := nI 8) hx hb dX2_encryptBlock_18 (by decide) ?_
  refine rc_ti (nI 8) (by decide) ?_
  refine lv_iadd hx hb dX2_encryptBlock_20 ?_
  refine vp_callSl (W.runV (As := [.ref hi, .int ((nI 0) + (nI 8))]) (rest := []) ⟨hx, hb, hml, hown, hts⟩ (metX2_bytesToWord l G cB cL h0 hi g 8 (by decide)) (cwV 2 hts (lw_V q204 q206 qs5 q11 q207) rfl rfl rfl (by decide +kernel) ⟨Nat.le_of_ble_eq_true rfl, Nat.le_of_ble_eq_true rfl⟩) (rc_RdV (va_recv hK hP (ci := 1) (q0 := 0) rfl rfl) (hP.sub (ws' := [(hi, .inl (cB, 16, .inl g))]) [2] rfl) hK [.ref hi, .int ((nI 0) + (nI 8))]) rfl rfl hl.1 rfl (lv_room (Nat.le_of_ble_eq_true rfl)) dX2_encryptBlock_21 ⟨(Nat.le_of_ble_eq_true rfl), (Nat.le_of_ble_eq_true rfl)⟩) (fun w8 hw8 => ?_)
  subst hw8
  refine lv_aload_n hx hb dX2_encryptBlock_24 rfl (lv_at hl 1 rfl) ?_
  refine va_get (D := G) (ci := 1) (v := .ref q) (C := RX2) (T := TX2) (N := 3) hx hb hts in_X2 hown hK hP 0 rfl rfl 1 (by decide) (hts _ q66) (fun _ h9 => h9) rfl dX2_encryptBlock_25 ?_
  refine lv_iconst (v := nI 1) hx hb dX2_encryptBlock_28 (by decide) ?_
  refine rc_lald hx hb hK hP 1 1 rfl rfl 1 rfl (by decide) (by decide) dX2_encryptBlock_29 ?_
  refine lv_ladd hx hb dX2_encryptBlock_30 ?_
  refine lv_lstore (lv' := [(7, .long ((rc_wd g 8) + (S 1))), (5, .long ((rc_wd g 0) + (S 0))), (0, .ref h0), (1, .ref hi), (2, .int (nI 0)), (3, .ref ho), (4, .int (nI 0))]) hx hb dX2_encryptBlock_31 hl (by decide) rfl (fun ls hl => ?_)
  refine lv_iconst (v := nI 1) hx hb dX2_encryptBlock_33 (by decide) ?_
  refine lv_istore (lv' := [(9, .int (nI 1)), (7, .long ((rc_wd g 8) + (S 1))), (5, .long ((rc_wd g 0) + (S 0))), (0, .ref h0), (1, .ref hi), (2, .int (nI 0)), (3, .ref ho), (4, .int (nI 0))]) hx hb dX2_encryptBlock_34 hl (by decide) rfl (fun ls hl => ?_)
  exact loop 12 0 rfl _ _ rfl ls (lv_sub hl [3, 6, 7, 2, 1, 0] rfl)
abbrev rmX2_decryptBlock : Room := { frames := 1, cells := 0, slots := 0, locals := 25 }
set_option maxHeartbeats 4000000 in
set_option maxRecDepth 100000 in
/-- decryptBlock -/
theorem metX2_decryptBlock (l : Launch) (G : va_G) (cB cL : ClassId) (sz : Nat) (h0 q hi ho : Nat) (S : Nat → Int64) (g fo : Nat → Int32) (z : Int32) : Met l yX2_decryptBlock (ws_ yX2_decryptBlock cX2_decryptBlock 10 (some .int)) rmX2_decryptBlock (va_Pc [.ref h0, .ref hi, .int (nI 0), .ref ho, .int (nI 0)] (rc_Wr G vwCl [(h0, .inr (1, [.int (nI 12), .ref q, .int z])), (q, .inl (cL, 26, .inr (.inl S))), (hi, .inl (cB, 16, .inl g)), (ho, .inl (cB, 16, .inl fo))] [(cB, .byte), (cL, .long)] sz)) (rc_Qi G vwCl [(h0, .inr (1, [.int (nI 12), .ref q, .int z])), (q, .inl (cL, 26, .inr (.inl S))), (hi, .inl (cB, 16, .inl g)), (ho, .inl (cB, 16, .inl fo))] sz (fun w => w = [(h0, .inr (1, [.int (nI 12), .ref q, .int z])), (q, .inl (cL, 26, .inr (.inl S))), (hi, .inl (cB, 16, .inl g)), (ho, .inl (cB, 16, .inl (rc_De S g)))])) 0 0 (va_A [(h0, .inr (1, [.int (nI 12), .ref q, .int z])), (q, .inl (cL, 26, .inr (.inl S))), (hi, .inl (cB, 16, .inl g)), (ho, .inl (cB, 16, .inl fo))] sz) := by
  refine rc_start (by decide) (Nat.le_of_ble_eq_true rfl) ?_
  intro p e s m args below meth cD Q hx hb hr hml hown hnm hlocks hts hv hQ ls hl
  obtain ⟨rfl, hP, hK, A, hAe, hD, hA, hS⟩ := rc_prep hv
  have hown : s.vm.findClass RX2 = some m.cls := hown
  have hl : lv_has ls 10 [(0, .ref h0), (1, .ref hi), (2, .int (nI 0)), (3, .ref ho), (4, .int (nI 0))] := hl
  have loop : ∀ r : Nat, r ≤ 12 → ∀ a b : Int64, rc_d S r (a, b) = rc_d S 12 (rc_wd g 0, rc_wd g 8) → ∀ ls : Array Slot, lv_has ls 10 [(0, .ref h0), (3, .ref ho), (4, .int (nI 0)), (5, .long a), (7, .long b), (9, .int (nI r))] → W p l e rmX2_decryptBlock s m args below meth cD s.heap [] 0 0 Q (F0 m 25 ls []) := by
    intro r
    induction r with
    | zero =>
      intro hr12 a b hst ls hl
      refine lv_iload hx hb dX2_decryptBlock_25 (lv_at hl 5 rfl) ?_
      refine lv_iconst (v := nI 1) hx hb dX2_decryptBlock_27 (by decide) ?_
      refine lv_icmp_lt (tgt := 85) hx hb dX2_decryptBlock_28 (by decide) (fun hc => ?_) (fun hc => ?_)
      · refine lv_aload_n hx hb dX2_decryptBlock_85 rfl (lv_at hl 0 rfl) ?_
        refine lv_lload hx hb dX2_decryptBlock_86 (lv_at hl 3 rfl) ?_
        refine lv_aload_n hx hb dX2_decryptBlock_88 rfl (lv_at hl 0 rfl) ?_
        refine va_get (D := G) (ci := 1) (v := .ref q) (C := RX2) (T := TX2) (N := 3) hx hb hts in_X2 hown hK hP 0 rfl rfl 1 (by decide) (hts _ q66) (fun _ h9 => h9) rfl dX2_decryptBlock_89 ?_
        refine lv_iconst (v := nI 0) hx hb dX2_decryptBlock_92 (by decide) ?_
        refine rc_lald hx hb hK hP 1 1 rfl rfl 0 rfl (by decide) (by decide) dX2_decryptBlock_93 ?_
        refine lv_lsub hx hb dX2_decryptBlock_94 ?_
        refine lv_aload_n hx hb dX2_decryptBlock_95 rfl (lv_at hl 1 rfl) ?_
        refine lv_iload hx hb dX2_decryptBlock_96 (lv_at hl 2 rfl) ?_
        refine rc_callv (va_runV (As := [.long (a - (S 0)), .ref ho, .int (nI 0)]) (rest := []) ⟨hx, hb, hml, hown, hts⟩ (metX2_wordToBytes l G cB cL s.heap.size h0 ho fo 0 (a - S 0) (by decide)) (cwV 3 hts (lw_V q208 q210 qs6 q11 q211) rfl rfl rfl (by decide +kernel) ⟨Nat.le_of_ble_eq_true rfl, Nat.le_of_ble_eq_true rfl⟩) (rc_WrV (va_recv hK hP (ci := 1) (q0 := 0) rfl rfl) (hP.sub (ws' := [(ho, .inl (cB, 16, .inl fo))]) [3] rfl) hK (hD.sub (ws' := [(ho, .inl (cB, 16, .inl fo))]) [3] (by decide) rfl) [.long (a - (S 0)), .ref ho, .int (nI 0)]) rfl rfl hl.1 rfl (lv_room (Nat.le_of_ble_eq_true rfl)) dX2_decryptBlock_98 ⟨(Nat.le_of_ble_eq_true rfl), (Nat.le_of_ble_eq_true rfl)⟩) hP hD hS hA [3] [0, 1, 2] (wr := [(h0, .inr (1, [.int (nI 12), .ref q, .int z])), (q, .inl (cL, 26, .inr (.inl S))), (hi, .inl (cB, 16, .inl g))]) rfl rfl (by decide) (by decide) (fun w1 hw H locs hP hD hS => ?_)
        obtain rfl := hw
        have hP : va_P G vwCl [(h0, .inr (1, [.int (nI 12), .ref q, .int z])), (q, .inl (cL, 26, .inr (.inl S))), (hi, .inl (cB, 16, .inl g)), (ho, .inl (cB, 16, .inl (rc_pf fo 0 (a - S 0) 8)))] H := hP
        have hD : va_D A [(h0, .inr (1, [.int (nI 12), .ref q, .int z])), (q, .inl (cL, 26, .inr (.inl S))), (hi, .inl (cB, 16, .inl g)), (ho, .inl (cB, 16, .inl (rc_pf fo 0 (a - S 0) 8)))] := hD
        refine lv_aload_n hx hb dX2_decryptBlock_101 rfl (lv_at hl 0 rfl) ?_
        refine lv_lload hx hb dX2_decryptBlock_102 (lv_at hl 4 rfl) ?_
        refine lv_aload_n hx hb dX2_decryptBlock_104 rfl (lv_at hl 0 rfl) ?_
        refine va_get (D := G) (ci := 1) (v := .ref q) (C := RX2) (T := TX2) (N := 3) hx hb hts in_X2 hown hK hP 0 rfl rfl 1 (by decide) (hts _ q66) (fun _ h9 => h9) rfl dX2_decryptBlock_105 ?_
        refine lv_iconst (v := nI 1) hx hb dX2_decryptBlock_108 (by decide) ?_
        refine rc_lald hx hb hK hP 1 1 rfl rfl 1 rfl (by decide) (by decide) dX2_decryptBlock_109 ?_
        refine lv_lsub hx hb dX2_decryptBlock_110 ?_
        refine lv_aload_n hx hb dX2_decryptBlock_111 rfl (lv_at hl 1 rfl) ?_
        refine lv_iload hx hb dX2_decryptBlock_112 (lv_at hl 2 rfl) ?_
        refine lv_bipush (v := nI 8) hx hb dX2_decryptBlock_114 (by decide) ?_
        refine lv_iadd hx hb dX2_decryptBlock_116 ?_
        refine rc_ti (nI 8) (by decide) ?_
        refine rc_callv (va_runV (As := [.long (b - (S 1)), .ref ho, .int (nI 8)]) (rest := []) ⟨hx, hb, hml, hown, hts⟩ (metX2_wordToBytes l G cB cL H.size h0 ho (rc_pf fo 0 (a - S 0) 8) 8 (b - S 1) (by decide)) (cwV 3 hts (lw_V q208 q210 qs6 q11 q211) rfl rfl rfl (by decide +kernel) ⟨Nat.le_of_ble_eq_true rfl, Nat.le_of_ble_eq_true rfl⟩) (rc_WrV (va_recv hK hP (ci := 1) (q0 := 0) rfl rfl) (hP.sub (ws' := [(ho, .inl (cB, 16, .inl (rc_pf fo 0 (a - S 0) 8)))]) [3] rfl) hK (hD.sub (ws' := [(ho, .inl (cB, 16, .inl (rc_pf fo 0 (a - S 0) 8)))]) [3] (by decide) rfl) [.long (b - (S 1)), .ref ho, .int (nI 8)]) rfl rfl hl.1 rfl (lv_room (Nat.le_of_ble_eq_true rfl)) dX2_decryptBlock_117 ⟨(Nat.le_of_ble_eq_true rfl), (Nat.le_of_ble_eq_true rfl)⟩) hP hD hS hA [3] [0, 1, 2] (wr := [(h0, .inr (1, [.int (nI 12), .ref q, .int z])), (q, .inl (cL, 26, .inr (.inl S))), (hi, .inl (cB, 16, .inl g))]) rfl rfl (by decide) (by decide) (fun w1 hw H locs hP hD hS => ?_)
        obtain rfl := hw
        have hP : va_P G vwCl [(h0, .inr (1, [.int (nI 12), .ref q, .int z])), (q, .inl (cL, 26, .inr (.inl S))), (hi, .inl (cB, 16, .inl g)), (ho, .inl (cB, 16, .inl (rc_pf (rc_pf fo 0 (a - S 0) 8) 8 (b - S 1) 8)))] H := hP
        have hD : va_D A [(h0, .inr (1, [.int (nI 12), .ref q, .int z])), (q, .inl (cL, 26, .inr (.inl S))), (hi, .inl (cB, 16, .inl g)), (ho, .inl (cB, 16, .inl (rc_pf (rc_pf fo 0 (a - S 0) 8) 8 (b - S 1) 8)))] := hD
        obtain ⟨hP, hD⟩ := rc_ext hP hD 3 rfl (rc_oF (a - S 0, b - S 1)) (fun j hj => rc_oF_pf fo _ _ hj)
        have hP : va_P G vwCl [(h0, .inr (1, [.int (nI 12), .ref q, .int z])), (q, .inl (cL, 26, .inr (.inl S))), (hi, .inl (cB, 16, .inl g)), (ho, .inl (cB, 16, .inl (rc_oF (a - S 0, b - S 1))))] H := hP
        have hD : va_D A [(h0, .inr (1, [.int (nI 12), .ref q, .int z])), (q, .inl (cL, 26, .inr (.inl S))), (hi, .inl (cB, 16, .inl g)), (ho, .inl (cB, 16, .inl (rc_oF (a - S 0, b - S 1))))] := hD
        refine lv_bipush (v := nI 16) hx hb dX2_decryptBlock_120 (by decide) ?_
        exact rc_iret hx hb hr hlocks hQ hAe [(h0, .inr (1, [.int (nI 12), .ref q, .int z])), (q, .inl (cL, 26, .inr (.inl S))), (hi, .inl (cB, 16, .inl g)), (ho, .inl (cB, 16, .inl (rc_oF (a - S 0, b - S 1))))] (by show _ = _; unfold rc_De; rw [← hst]; rfl) (hP.sub [0, 1, 2, 3] rfl) (hD.sub [0, 1, 2, 3] (by decide) rfl) hS (Nat.le_of_ble_eq_true rfl) (Nat.le_of_ble_eq_true rfl) dX2_decryptBlock_122
      · exact absurd (by decide) hc
    | succ r ih =>
      intro hr12 a b hst ls hl
      refine lv_iload hx hb dX2_decryptBlock_25 (lv_at hl 5 rfl) ?_
      refine lv_iconst (v := nI 1) hx hb dX2_decryptBlock_27 (by decide) ?_
      refine lv_icmp_lt (tgt := 85) hx hb dX2_decryptBlock_28 (by decide) (fun hc => ?_) (fun hc => ?_)
      · exact absurd hc (nI_nlt (b := 1) (by omega) (by omega))
      · refine lv_aload_n hx hb dX2_decryptBlock_31 rfl (lv_at hl 0 rfl) ?_
        refine lv_lload hx hb dX2_decryptBlock_32 (lv_at hl 4 rfl) ?_
        refine lv_aload_n hx hb dX2_decryptBlock_34 rfl (lv_at hl 0 rfl) ?_
        refine va_get (D := G) (ci := 1) (v := .ref q) (C := RX2) (T := TX2) (N := 3) hx hb hts in_X2 hown hK hP 0 rfl rfl 1 (by decide) (hts _ q66) (fun _ h9 => h9) rfl dX2_decryptBlock_35 ?_
        refine lv_iconst (v := nI 2) hx hb dX2_decryptBlock_38 (by decide) ?_
        refine lv_iload hx hb dX2_decryptBlock_39 (lv_at hl 5 rfl) ?_
        refine lv_imul hx hb dX2_decryptBlock_41 ?_
        refine lv_iconst (v := nI 1) hx hb dX2_decryptBlock_42 (by decide) ?_
        refine lv_iadd hx hb dX2_decryptBlock_43 ?_
        refine rc_lald hx hb hK hP 1 1 rfl rfl (2 * (r + 1) + 1) (by rw [pk_mul, nI_add]) (by omega) (by decide) dX2_decryptBlock_44 ?_
        refine lv_lsub hx hb dX2_decryptBlock_45 ?_
        refine lv_lload hx hb dX2_decryptBlock_46 (lv_at hl 3 rfl) ?_
        refine vp_callSl (W.runV (As := [.long (b - (S (2 * (r + 1) + 1))), .long a]) (rest := []) ⟨hx, hb, hml, hown, hts⟩ (metX2_rotateRight l G cB cL h0 (b - S (2 * (r + 1) + 1)) a) (cwV 2 hts (lw_V q216 q218 qs8 q11 q219) rfl rfl rfl (by decide +kernel) ⟨Nat.le_of_ble_eq_true rfl, Nat.le_of_ble_eq_true rfl⟩) (rc_RdV (va_recv hK hP (ci := 1) (q0 := 0) rfl rfl) (hP.sub (ws' := []) [] rfl) hK [.long (b - (S (2 * (r + 1) + 1))), .long a]) rfl rfl hl.1 rfl (lv_room (Nat.le_of_ble_eq_true rfl)) dX2_decryptBlock_48 ⟨(Nat.le_of_ble_eq_true rfl), (Nat.le_of_ble_eq_true rfl)⟩) (fun t1 ht1 => ?_)
        refine lv_lload hx hb dX2_decryptBlock_51 (lv_at hl 3 rfl) ?_
        refine lv_lxor hx hb dX2_decryptBlock_53 ?_
        refine lv_topl (fun b1 eb1 => ?_)
        refine lv_lstore (lv' := [(7, .long b1), (0, .ref h0), (3, .ref ho), (4, .int (nI 0)), (5, .long a), (9, .int (nI (r + 1)))]) hx hb dX2_decryptBlock_54 hl (by decide) rfl (fun ls hl => ?_)
        refine lv_aload_n hx hb dX2_decryptBlock_56 rfl (lv_at hl 1 rfl) ?_
        refine lv_lload hx hb dX2_decryptBlock_57 (lv_at hl 4 rfl) ?_
        refine lv_aload_n hx hb dX2_decryptBlock_59 rfl (lv_at hl 1 rfl) ?_
        refine va_get (D := G) (ci := 1) (v := .ref q) (C := RX2) (T := TX2) (N := 3) hx hb hts in_X2 hown hK hP 0 rfl rfl 1 (by decide) (hts _ q66) (fun _ h9 => h9) rfl dX2_decryptBlock_60 ?_
        refine lv_iconst (v := nI 2) hx hb dX2_decryptBlock_63 (by decide) ?_
        refine lv_iload hx hb dX2_decryptBlock_64 (lv_at hl 5 rfl) ?_
        refine lv_imul hx hb dX2_decryptBlock_66 ?_
        refine rc_lald hx hb hK hP 1 1 rfl rfl (2 * (r + 1)) (pk_mul _ _) (by omega) (by decide) dX2_decryptBlock_67 ?_
        refine lv_lsub hx hb dX2_decryptBlock_68 ?_
        refine lv_lload hx hb dX2_decryptBlock_69 (lv_at hl 0 rfl) ?_
        refine vp_callSl (W.runV (As := [.long (a - (S (2 * (r + 1)))), .long b1]) (rest := []) ⟨hx, hb, hml, hown, hts⟩ (metX2_rotateRight l G cB cL h0 (a - S (2 * (r + 1))) b1) (cwV 2 hts (lw_V q216 q218 qs8 q11 q219) rfl rfl rfl (by decide +kernel) ⟨Nat.le_of_ble_eq_true rfl, Nat.le_of_ble_eq_true rfl⟩) (rc_RdV (va_recv hK hP (ci := 1) (q0 := 0) rfl rfl) (hP.sub (ws' := []) [] rfl) hK [.long (a - (S (2 * (r + 1)))), .long b1]) rfl rfl hl.1 rfl (lv_room (Nat.le_of_ble_eq_true rfl)) dX2_decryptBlock_71 ⟨(Nat.le_of_ble_eq_true rfl), (Nat.le_of_ble_eq_true rfl)⟩) (fun t2 ht2 => ?_)
        refine lv_lload hx hb dX2_decryptBlock_74 (lv_at hl 0 rfl) ?_
        refine lv_lxor hx hb dX2_decryptBlock_76 ?_
        refine lv_topl (fun a1 ea1 => ?_)
        refine lv_lstore (lv' := [(5, .long a1), (7, .long b1), (0, .ref h0), (3, .ref ho), (4, .int (nI 0)), (9, .int (nI (r + 1)))]) hx hb dX2_decryptBlock_77 hl (by decide) rfl (fun ls hl => ?_)
        refine lv_iinc (v := nI r) (lv' := [(9, .int (nI r)), (5, .long a1), (7, .long b1), (0, .ref h0), (3, .ref ho), (4, .int (nI 0))]) hx hb dX2_decryptBlock_79 hl (k := 5) rfl ((rc_dec _).trans (nI_pred r)) (by decide) rfl (fun ls hl => ?_)
        refine lv_goto (tgt := 25) hx hb dX2_decryptBlock_82 (by decide) ?_
        exact ih (by omega) a1 b1 ((rc_d_s (by rw [eb1, ht1]) (by rw [ea1, ht2])).symm.trans hst) ls (lv_sub hl [3, 4, 5, 1, 2, 0] rfl)
  refine lv_aload_n hx hb dX2_decryptBlock_0 rfl (lv_at hl 0 rfl) ?_
  refine lv_aload_n hx hb dX2_decryptBlock_1 rfl (lv_at hl 1 rfl) ?_
  refine lv_iload_n hx hb dX2_decryptBlock_2 rfl (lv_at hl 2 rfl) ?_
  refine vp_callSl (W.runV (As := [.ref hi, .int (nI 0)]) (rest := []) ⟨hx, hb, hml, hown, hts⟩ (metX2_bytesToWord l G cB cL h0 hi g 0 (by decide)) (cwV 2 hts (lw_V q204 q206 qs5 q11 q207) rfl rfl rfl (by decide +kernel) ⟨Nat.le_of_ble_eq_true rfl, Nat.le_of_ble_eq_true rfl⟩) (rc_RdV (va_recv hK hP (ci := 1) (q0 := 0) rfl rfl) (hP.sub (ws' := [(hi, .inl (cB, 16, .inl g))]) [2] rfl) hK [.ref hi, .int (nI 0)]) rfl rfl hl.1 rfl (lv_room (Nat.le_of_ble_eq_true rfl)) dX2_decryptBlock_3 ⟨(Nat.le_of_ble_eq_true rfl), (Nat.le_of_ble_eq_true rfl)⟩) (fun w0 hw0 => ?_)
  subst hw0
  refine lv_lstore (lv' := [(5, .long (rc_wd g 0)), (0, .ref h0), (1, .ref hi), (2, .int (nI 0)), (3, .ref ho), (4, .int (nI 0))]) hx hb dX2_decryptBlock_6 hl (by decide) rfl (fun ls hl => ?_)
  refine lv_aload_n hx hb dX2_decryptBlock_8 rfl (lv_at hl 1 rfl) ?_
  refine lv_aload_n hx hb dX2_decryptBlock_9 rfl (lv_at hl 2 rfl) ?_
  refine lv_iload_n hx hb dX2_decryptBlock_10 rfl (lv_at hl 3 rfl) ?_
  refine lv_bipush (v := nI 8) hx hb dX2_decryptBlock_11 (by decide) ?_
  refine rc_ti (nI 8) (by decide) ?_
  refine lv_iadd hx hb dX2_decryptBlock_13 ?_
  refine vp_callSl (W.runV (As := [.ref hi, .int ((nI 0) + (nI 8))]) (rest := []) ⟨hx, hb, hml, hown, hts⟩ (metX2_bytesToWord l G cB cL h0 hi g 8 (by decide)) (cwV 2 hts (lw_V q204 q206 qs5 q11 q207) rfl rfl rfl (by decide +kernel) ⟨Nat.le_of_ble_eq_true rfl, Nat.le_of_ble_eq_true rfl⟩) (rc_RdV (va_recv hK hP (ci := 1) (q0 := 0) rfl rfl) (hP.sub (ws' := [(hi, .inl (cB, 16, .inl g))]) [2] rfl) hK [.ref hi, .int ((nI 0) + (nI 8))]) rfl rfl hl.1 rfl (lv_room (Nat.le_of_ble_eq_true rfl)) dX2_decryptBlock_14 ⟨(Nat.le_of_ble_eq_true rfl), (Nat.le_of_ble_eq_true rfl)⟩) (fun w8 hw8 => ?_)
  subst hw8
  refine lv_lstore (lv' := [(7, .long (rc_wd g 8)), (5, .long (rc_wd g 0)), (0, .ref h0), (1, .ref hi), (2, .int (nI 0)), (3, .ref ho), (4, .int (nI 0))]) hx hb dX2_decryptBlock_17 hl (by decide) rfl (fun ls hl => ?_)
  refine lv_aload_n hx hb dX2_decryptBlock_19 rfl (lv_at hl 2 rfl) ?_
  refine va_get (D := G) (ci := 1) (v := .int (nI 12)) (C := RX2) (T := TX2) (N := 3) hx hb hts in_X2 hown hK hP 0 rfl rfl 0 (by decide) (hts _ q65) (fun _ h9 => h9) rfl dX2_decryptBlock_20 ?_
  refine lv_istore (lv' := [(9, .int (nI 12)), (7, .long (rc_wd g 8)), (5, .long (rc_wd g 0)), (0, .ref h0), (1, .ref hi), (2, .int (nI 0)), (3, .ref ho), (4, .int (nI 0))]) hx hb dX2_decryptBlock_23 hl (by decide) rfl (fun ls hl => ?_)
  exact loop 12 (Nat.le_refl _) _ _ rfl ls (lv_sub hl [3, 6, 7, 2, 1, 0] rfl)
abbrev rmX2_processBlock : Room := { frames := 2, cells := 0, slots := 0, locals := 54 }
set_option maxHeartbeats 4000000 in
set_option maxRecDepth 100000 in
/-- processBlock, encryptBlock -/
theorem metX2_processBlock_E (l : Launch) (G : va_G) (cB cL : ClassId) (sz : Nat) (h0 q hi ho : Nat) (S : Nat → Int64) (g fo : Nat → Int32) : Met l yX2_processBlock (ws_ yX2_processBlock cX2_processBlock 5 (some .int)) rmX2_processBlock (va_Pc [.ref h0, .ref hi, .int (nI 0), .ref ho, .int (nI 0)] (rc_Wr G vwCl [(h0, .inr (1, [.int (nI 12), .ref q, .int (nI 1)])), (q, .inl (cL, 26, .inr (.inl S))), (hi, .inl (cB, 16, .inl g)), (ho, .inl (cB, 16, .inl fo))] [(cB, .byte), (cL, .long)] sz)) (rc_Qi G vwCl [(h0, .inr (1, [.int (nI 12), .ref q, .int (nI 1)])), (q, .inl (cL, 26, .inr (.inl S))), (hi, .inl (cB, 16, .inl g)), (ho, .inl (cB, 16, .inl fo))] sz (fun w => w = [(h0, .inr (1, [.int (nI 12), .ref q, .int (nI 1)])), (q, .inl (cL, 26, .inr (.inl S))), (hi, .inl (cB, 16, .inl g)), (ho, .inl (cB, 16, .inl (rc_En S g)))])) 0 0 (va_A [(h0, .inr (1, [.int (nI 12), .ref q, .int (nI 1)])), (q, .inl (cL, 26, .inr (.inl S))), (hi, .inl (cB, 16, .inl g)), (ho, .inl (cB, 16, .inl fo))] sz) := by
  refine rc_start (by decide) (Nat.le_of_ble_eq_true rfl) ?_
  intro p e s m args below meth cD Q hx hb hr hml hown hnm hlocks hts hv hQ ls hl
  obtain ⟨rfl, hP, hK, A, hAe, hD, hA, hS⟩ := rc_prep hv
  have hown : s.vm.findClass RX2 = some m.cls := hown
  have hl : lv_has ls 5 [(0, .ref h0), (1, .ref hi), (2, .int (nI 0)), (3, .ref ho), (4, .int (nI 0))] := hl
  refine lv_aload_n hx hb dX2_processBlock_0 rfl (lv_at hl 0 rfl) ?_
  refine va_get (D := G) (ci := 1) (v := .int (nI 1)) (C := RX2) (T := TX2) (N := 3) hx hb hts in_X2 hown hK hP 0 rfl rfl 2 (by decide) (hts _ q67) (fun _ h9 => h9) rfl dX2_processBlock_1 ?_
  refine lv_if_eq (tgt := 19) hx hb dX2_processBlock_4 (by decide) (fun hc => ?_) (fun hc => ?_)
  · exact absurd hc (by decide)
  · refine lv_aload_n hx hb dX2_processBlock_7 rfl (lv_at hl 0 rfl) ?_
    refine lv_aload_n hx hb dX2_processBlock_8 rfl (lv_at hl 1 rfl) ?_
    refine lv_iload_n hx hb dX2_processBlock_9 rfl (lv_at hl 2 rfl) ?_
    refine lv_aload_n hx hb dX2_processBlock_10 rfl (lv_at hl 3 rfl) ?_
    refine lv_iload hx hb dX2_processBlock_11 (lv_at hl 4 rfl) ?_
    refine rc_calli (va_runV (As := [.ref hi, .int (nI 0), .ref ho, .int (nI 0)]) (rest := []) ⟨hx, hb, hml, hown, hts⟩ (metX2_encryptBlock l G cB cL s.heap.size h0 q hi ho S g fo (nI 1)) (cwV 4 hts (lw_V q200 q202 qs4 q11 q203) rfl rfl rfl (by decide +kernel) ⟨Nat.le_of_ble_eq_true rfl, Nat.le_of_ble_eq_true rfl⟩) (rc_WrV (va_recv hK hP (ci := 1) (q0 := 0) rfl rfl) (hP.sub (ws' := [(h0, .inr (1, [.int (nI 12), .ref q, .int (nI 1)])), (q, .inl (cL, 26, .inr (.inl S))), (hi, .inl (cB, 16, .inl g)), (ho, .inl (cB, 16, .inl fo))]) [0, 1, 2, 3] rfl) hK (hD.sub (ws' := [(h0, .inr (1, [.int (nI 12), .ref q, .int (nI 1)])), (q, .inl (cL, 26, .inr (.inl S))), (hi, .inl (cB, 16, .inl g)), (ho, .inl (cB, 16, .inl fo))]) [0, 1, 2, 3] (by decide) rfl) [.ref hi, .int (nI 0), .ref ho, .int (nI 0)]) rfl rfl hl.1 rfl (lv_room (Nat.le_of_ble_eq_true rfl)) dX2_processBlock_13 ⟨(Nat.le_of_ble_eq_true rfl), (Nat.le_of_ble_eq_true rfl)⟩) hP hD hS hA [0, 1, 2, 3] [] (wr := []) rfl rfl (by decide) (by decide) (fun r w1 hw H locs hP hD hS => ?_)
    obtain rfl := hw
    have hP : va_P G vwCl [(h0, .inr (1, [.int (nI 12), .ref q, .int (nI 1)])), (q, .inl (cL, 26, .inr (.inl S))), (hi, .inl (cB, 16, .inl g)), (ho, .inl (cB, 16, .inl (rc_En S g)))] H := hP
    have hD : va_D A [(h0, .inr (1, [.int (nI 12), .ref q, .int (nI 1)])), (q, .inl (cL, 26, .inr (.inl S))), (hi, .inl (cB, 16, .inl g)), (ho, .inl (cB, 16, .inl (rc_En S g)))] := hD
    refine lv_goto (tgt := 28) hx hb dX2_processBlock_16 (by decide) ?_
    exact rc_iret hx hb hr hlocks hQ hAe [(h0, .inr (1, [.int (nI 12), .ref q, .int (nI 1)])), (q, .inl (cL, 26, .inr (.inl S))), (hi, .inl (cB, 16, .inl g)), (ho, .inl (cB, 16, .inl (rc_En S g)))] (rfl) (hP.sub [0, 1, 2, 3] rfl) (hD.sub [0, 1, 2, 3] (by decide) rfl) hS (Nat.le_of_ble_eq_true rfl) (Nat.le_of_ble_eq_true rfl) dX2_processBlock_28
set_option maxHeartbeats 4000000 in
set_option maxRecDepth 100000 in
/-- processBlock, decryptBlock -/
theorem metX2_processBlock_D (l : Launch) (G : va_G) (cB cL : ClassId) (sz : Nat) (h0 q hi ho : Nat) (S : Nat → Int64) (g fo : Nat → Int32) : Met l yX2_processBlock (ws_ yX2_processBlock cX2_processBlock 5 (some .int)) rmX2_processBlock (va_Pc [.ref h0, .ref hi, .int (nI 0), .ref ho, .int (nI 0)] (rc_Wr G vwCl [(h0, .inr (1, [.int (nI 12), .ref q, .int (nI 0)])), (q, .inl (cL, 26, .inr (.inl S))), (hi, .inl (cB, 16, .inl g)), (ho, .inl (cB, 16, .inl fo))] [(cB, .byte), (cL, .long)] sz)) (rc_Qi G vwCl [(h0, .inr (1, [.int (nI 12), .ref q, .int (nI 0)])), (q, .inl (cL, 26, .inr (.inl S))), (hi, .inl (cB, 16, .inl g)), (ho, .inl (cB, 16, .inl fo))] sz (fun w => w = [(h0, .inr (1, [.int (nI 12), .ref q, .int (nI 0)])), (q, .inl (cL, 26, .inr (.inl S))), (hi, .inl (cB, 16, .inl g)), (ho, .inl (cB, 16, .inl (rc_De S g)))])) 0 0 (va_A [(h0, .inr (1, [.int (nI 12), .ref q, .int (nI 0)])), (q, .inl (cL, 26, .inr (.inl S))), (hi, .inl (cB, 16, .inl g)), (ho, .inl (cB, 16, .inl fo))] sz) := by
  refine rc_start (by decide) (Nat.le_of_ble_eq_true rfl) ?_
  intro p e s m args below meth cD Q hx hb hr hml hown hnm hlocks hts hv hQ ls hl
  obtain ⟨rfl, hP, hK, A, hAe, hD, hA, hS⟩ := rc_prep hv
  have hown : s.vm.findClass RX2 = some m.cls := hown
  have hl : lv_has ls 5 [(0, .ref h0), (1, .ref hi), (2, .int (nI 0)), (3, .ref ho), (4, .int (nI 0))] := hl
  refine lv_aload_n hx hb dX2_processBlock_0 rfl (lv_at hl 0 rfl) ?_
  refine va_get (D := G) (ci := 1) (v := .int (nI 0)) (C := RX2) (T := TX2) (N := 3) hx hb hts in_X2 hown hK hP 0 rfl rfl 2 (by decide) (hts _ q67) (fun _ h9 => h9) rfl dX2_processBlock_1 ?_
  refine lv_if_eq (tgt := 19) hx hb dX2_processBlock_4 (by decide) (fun hc => ?_) (fun hc => ?_)
  · refine lv_aload_n hx hb dX2_processBlock_19 rfl (lv_at hl 0 rfl) ?_
    refine lv_aload_n hx hb dX2_processBlock_20 rfl (lv_at hl 1 rfl) ?_
    refine lv_iload_n hx hb dX2_processBlock_21 rfl (lv_at hl 2 rfl) ?_
    refine lv_aload_n hx hb dX2_processBlock_22 rfl (lv_at hl 3 rfl) ?_
    refine lv_iload hx hb dX2_processBlock_23 (lv_at hl 4 rfl) ?_
    refine rc_calli (va_runV (As := [.ref hi, .int (nI 0), .ref ho, .int (nI 0)]) (rest := []) ⟨hx, hb, hml, hown, hts⟩ (metX2_decryptBlock l G cB cL s.heap.size h0 q hi ho S g fo (nI 0)) (cwV 4 hts (lw_V q212 q214 qs7 q11 q215) rfl rfl rfl (by decide +kernel) ⟨Nat.le_of_ble_eq_true rfl, Nat.le_of_ble_eq_true rfl⟩) (rc_WrV (va_recv hK hP (ci := 1) (q0 := 0) rfl rfl) (hP.sub (ws' := [(h0, .inr (1, [.int (nI 12), .ref q, .int (nI 0)])), (q, .inl (cL, 26, .inr (.inl S))), (hi, .inl (cB, 16, .inl g)), (ho, .inl (cB, 16, .inl fo))]) [0, 1, 2, 3] rfl) hK (hD.sub (ws' := [(h0, .inr (1, [.int (nI 12), .ref q, .int (nI 0)])), (q, .inl (cL, 26, .inr (.inl S))), (hi, .inl (cB, 16, .inl g)), (ho, .inl (cB, 16, .inl fo))]) [0, 1, 2, 3] (by decide) rfl) [.ref hi, .int (nI 0), .ref ho, .int (nI 0)]) rfl rfl hl.1 rfl (lv_room (Nat.le_of_ble_eq_true rfl)) dX2_processBlock_25 ⟨(Nat.le_of_ble_eq_true rfl), (Nat.le_of_ble_eq_true rfl)⟩) hP hD hS hA [0, 1, 2, 3] [] (wr := []) rfl rfl (by decide) (by decide) (fun r w1 hw H locs hP hD hS => ?_)
    obtain rfl := hw
    have hP : va_P G vwCl [(h0, .inr (1, [.int (nI 12), .ref q, .int (nI 0)])), (q, .inl (cL, 26, .inr (.inl S))), (hi, .inl (cB, 16, .inl g)), (ho, .inl (cB, 16, .inl (rc_De S g)))] H := hP
    have hD : va_D A [(h0, .inr (1, [.int (nI 12), .ref q, .int (nI 0)])), (q, .inl (cL, 26, .inr (.inl S))), (hi, .inl (cB, 16, .inl g)), (ho, .inl (cB, 16, .inl (rc_De S g)))] := hD
    exact rc_iret hx hb hr hlocks hQ hAe [(h0, .inr (1, [.int (nI 12), .ref q, .int (nI 0)])), (q, .inl (cL, 26, .inr (.inl S))), (hi, .inl (cB, 16, .inl g)), (ho, .inl (cB, 16, .inl (rc_De S g)))] (rfl) (hP.sub [0, 1, 2, 3] rfl) (hD.sub [0, 1, 2, 3] (by decide) rfl) hS (Nat.le_of_ble_eq_true rfl) (Nat.le_of_ble_eq_true rfl) dX2_processBlock_28
  · exact absurd (by decide) hc
abbrev rmX2_init_2 : Room := { frames := 2, cells := 2, slots := 28, locals := 54 }
set_option maxHeartbeats 4000000 in
set_option maxRecDepth 100000 in
/-- init: the key expanded -/
theorem metX2_init_2 (l : Launch) (G : va_G) (cB cL : ClassId) (sz : Nat) (h0 hp hk : Nat) (f : Nat → Int32) (z : Int32) (hz1 : narrow .boolean (.int z) = .int z) (hz2 : fits .boolean (.int z) = true) : Met l yX2_init_2 (ws_ yX2_init_2 cX2_init_2 5 none) rmX2_init_2 (va_Pc [.ref h0, .int z, .ref hp] (rc_Wr G vwCl [(h0, .inr (1, [.int (nI 12), .null, .int 0])), (hp, .inr (2, [.ref hk, .int (nI 12)])), (hk, .inl (cB, 16, .inl f))] [(cB, .byte), (cL, .long)] sz)) (rc_Qv G vwCl [(h0, .inr (1, [.int (nI 12), .null, .int 0])), (hp, .inr (2, [.ref hk, .int (nI 12)])), (hk, .inl (cB, 16, .inl f))] sz (fun w => ∃ q, w = [(h0, .inr (1, [.int (nI 12), .ref q, .int z])), (hp, .inr (2, [.ref hk, .int (nI 12)])), (hk, .inl (cB, 16, .inl f)), (q, .inl (cL, 26, .inr (.inl (rc_K f))))])) 2 28 (va_A [(h0, .inr (1, [.int (nI 12), .null, .int 0])), (hp, .inr (2, [.ref hk, .int (nI 12)])), (hk, .inl (cB, 16, .inl f))] sz) := by
  refine rc_start (by decide) (Nat.le_of_ble_eq_true rfl) ?_
  intro p e s m args below meth cD Q hx hb hr hml hown hnm hlocks hts hv hQ ls hl
  obtain ⟨rfl, hP, hK, A, hAe, hD, hA, hS⟩ := rc_prep hv
  have hown : s.vm.findClass RX2 = some m.cls := hown
  have hl : lv_has ls 5 [(0, .ref h0), (1, .int z), (2, .ref hp)] := hl
  refine lv_aload_n hx hb dX2_init_2_0 rfl (lv_at hl 2 rfl) ?_
  refine va_instS hx hb hown (hts _ q166) (hK.1 2 _ rfl).2 (va_recv hK hP (ci := 2) (q0 := 1) rfl rfl) dX2_init_2_1 ?_
  refine lv_if_ne (tgt := 17) hx hb dX2_init_2_4 (by decide) (fun hc => ?_) (fun hc => ?_)
  · refine lv_aload_n hx hb dX2_init_2_17 rfl (lv_at hl 2 rfl) ?_
    refine va_castS hx hb hown (hts _ q166) (hK.1 2 _ rfl).2 (va_recv hK hP (ci := 2) (q0 := 1) rfl rfl) dX2_init_2_18 ?_
    refine lv_astore_n (lv' := [(3, .ref hp), (0, .ref h0), (1, .int z), (2, .ref hp)]) hx hb dX2_init_2_21 rfl hl (by decide) rfl (fun ls hl => ?_)
    refine lv_aload_n hx hb dX2_init_2_22 rfl (lv_at hl 1 rfl) ?_
    refine lv_iload_n hx hb dX2_init_2_23 rfl (lv_at hl 2 rfl) ?_
    refine va_put (D := G) (ci := 1) (v := .int z) (ty := .boolean) (C := RX2) (T := TX2) (N := 3) hx hb hts in_X2 tyX2 tyX2_ok nmX2 hown hK hP hD hS 0 rfl rfl 2 (by decide) (hts _ q67) (fun _ h9 => h9) rfl (by decide +kernel) hz1 hz2 (Nat.le_of_ble_eq_true rfl) dX2_init_2_24 (fun H locs hP hD hS => ?_)
    have hP : va_P G vwCl [(h0, .inr (1, [.int (nI 12), .null, .int z])), (hp, .inr (2, [.ref hk, .int (nI 12)])), (hk, .inl (cB, 16, .inl f))] H := hP
    have hD : va_D A [(h0, .inr (1, [.int (nI 12), .null, .int z])), (hp, .inr (2, [.ref hk, .int (nI 12)])), (hk, .inl (cB, 16, .inl f))] := hD
    refine lv_aload_n hx hb dX2_init_2_27 rfl (lv_at hl 1 rfl) ?_
    refine lv_aload_n hx hb dX2_init_2_28 rfl (lv_at hl 0 rfl) ?_
    refine vp_callSi (W.runV (As := []) (rest := [.ref h0]) ⟨hx, hb, hml, hown, hts⟩ (metX3_getRounds l G cB cL hp hk (nI 12)) (cwV 0 hts (lw_V q170 q171 q172 q12 q173) rfl rfl rfl (by decide +kernel) ⟨Nat.le_of_ble_eq_true rfl, Nat.le_of_ble_eq_true rfl⟩) (rc_RdV (va_recv hK hP (ci := 2) (q0 := 1) rfl rfl) (hP.sub (ws' := [(hp, .inr (2, [.ref hk, .int (nI 12)]))]) [1] rfl) hK []) rfl rfl hl.1 rfl (lv_room (Nat.le_of_ble_eq_true rfl)) dX2_init_2_29 ⟨(Nat.le_of_ble_eq_true rfl), (Nat.le_of_ble_eq_true rfl)⟩) (fun r0 hr0 => ?_)
    subst hr0
    refine va_put (D := G) (ci := 1) (v := .int (nI 12)) (ty := .int) (C := RX2) (T := TX2) (N := 3) hx hb hts in_X2 tyX2 tyX2_ok nmX2 hown hK hP hD hS 0 rfl rfl 0 (by decide) (hts _ q65) (fun _ h9 => h9) rfl (by decide +kernel) rfl rfl (Nat.le_of_ble_eq_true rfl) dX2_init_2_32 (fun H locs hP hD hS => ?_)
    have hP : va_P G vwCl [(h0, .inr (1, [.int (nI 12), .null, .int z])), (hp, .inr (2, [.ref hk, .int (nI 12)])), (hk, .inl (cB, 16, .inl f))] H := hP
    have hD : va_D A [(h0, .inr (1, [.int (nI 12), .null, .int z])), (hp, .inr (2, [.ref hk, .int (nI 12)])), (hk, .inl (cB, 16, .inl f))] := hD
    refine lv_aload_n hx hb dX2_init_2_35 rfl (lv_at hl 0 rfl) ?_
    refine va_csr (W.runV (As := []) (rest := []) ⟨hx, hb, hml, hown, hts⟩ (metX3_getKey l G cB cL hp hk (nI 12)) (cwV 0 hts (lw_V q174 q175 q176 q12 q177) rfl rfl rfl (by decide +kernel) ⟨Nat.le_of_ble_eq_true rfl, Nat.le_of_ble_eq_true rfl⟩) (rc_RdV (va_recv hK hP (ci := 2) (q0 := 1) rfl rfl) (hP.sub (ws' := [(hp, .inr (2, [.ref hk, .int (nI 12)]))]) [1] rfl) hK []) rfl rfl hl.1 rfl (lv_room (Nat.le_of_ble_eq_true rfl)) dX2_init_2_36 ⟨(Nat.le_of_ble_eq_true rfl), (Nat.le_of_ble_eq_true rfl)⟩) (fun r1 hr1 => ?_)
    rw [hr1]
    refine lv_astore (lv' := [(4, .ref hk), (3, .ref hp), (0, .ref h0), (1, .int z), (2, .ref hp)]) hx hb dX2_init_2_39 hl (by decide) rfl (fun ls hl => ?_)
    refine lv_aload_n hx hb dX2_init_2_41 rfl (lv_at hl 2 rfl) ?_
    refine lv_aload hx hb dX2_init_2_42 (lv_at hl 0 rfl) ?_
    refine rc_callv (va_runV (As := [.ref hk]) (rest := []) ⟨hx, hb, hml, hown, hts⟩ (metX2_setKey l G cB cL H.size h0 hk f z) (cwV 1 hts (lw_V q178 q180 qs2 q11 q181) rfl rfl rfl (by decide +kernel) ⟨Nat.le_of_ble_eq_true rfl, Nat.le_of_ble_eq_true rfl⟩) (rc_WrV (va_recv hK hP (ci := 1) (q0 := 0) rfl rfl) (hP.sub (ws' := [(h0, .inr (1, [.int (nI 12), .null, .int z])), (hk, .inl (cB, 16, .inl f))]) [0, 2] rfl) hK (hD.sub (ws' := [(h0, .inr (1, [.int (nI 12), .null, .int z])), (hk, .inl (cB, 16, .inl f))]) [0, 2] (by decide) rfl) [.ref hk]) rfl rfl hl.1 rfl (lv_room (Nat.le_of_ble_eq_true rfl)) dX2_init_2_44 ⟨(Nat.le_of_ble_eq_true rfl), (Nat.le_of_ble_eq_true rfl)⟩) hP hD hS hA [0, 2] [1] (wr := [(hp, .inr (2, [.ref hk, .int (nI 12)]))]) rfl rfl (by decide) (by decide) (fun w1 hw H locs hP hD hS => ?_)
    obtain ⟨q, rfl⟩ := hw
    have hP : va_P G vwCl [(hp, .inr (2, [.ref hk, .int (nI 12)])), (h0, .inr (1, [.int (nI 12), .ref q, .int z])), (hk, .inl (cB, 16, .inl f)), (q, .inl (cL, 26, .inr (.inl (rc_K f))))] H := hP
    have hD : va_D A [(hp, .inr (2, [.ref hk, .int (nI 12)])), (h0, .inr (1, [.int (nI 12), .ref q, .int z])), (hk, .inl (cB, 16, .inl f)), (q, .inl (cL, 26, .inr (.inl (rc_K f))))] := hD
    exact rc_vret hx hb hr hlocks hQ hAe [(h0, .inr (1, [.int (nI 12), .ref q, .int z])), (hp, .inr (2, [.ref hk, .int (nI 12)])), (hk, .inl (cB, 16, .inl f)), (q, .inl (cL, 26, .inr (.inl (rc_K f))))] (⟨q, rfl⟩) (hP.sub [1, 0, 2, 3] rfl) (hD.sub [1, 0, 2, 3] (by decide) rfl) hS (Nat.le_of_ble_eq_true rfl) (Nat.le_of_ble_eq_true rfl) dX2_init_2_47
  · exact absurd hc (by decide)
end
section
abbrev rmX1_init : Room := { frames := 1, cells := 3, slots := 64, locals := 12 }
set_option maxHeartbeats 4000000 in
set_option maxRecDepth 100000 in
/-- RcWideDesk() -/
theorem metX1_init (l : Launch) (G : va_G) (cB cL : ClassId) (sz : Nat) (h0 : Nat) : Met l yX1_init (ws_ yX1_init cX1_init 1 none) rmX1_init (va_Pc [.ref h0] (rc_Wr G vwCl [(h0, .inr (0, [.null, .null, .null]))] [(cB, .byte), (cL, .long)] sz)) (rc_Qv G vwCl [(h0, .inr (0, [.null, .null, .null]))] sz (fun w => ∃ a1 b1 c1, w = [(h0, .inr (0, [.ref a1, .ref b1, .ref c1])), (a1, .inl (cB, 32, .inl (fun _ => 0))), (b1, .inl (cB, 16, .inl (fun _ => 0))), (c1, .inl (cB, 16, .inl (fun _ => 0)))])) 3 64 (va_A [(h0, .inr (0, [.null, .null, .null]))] sz) := by
  refine rc_start (by decide) (Nat.le_of_ble_eq_true rfl) ?_
  intro p e s m args below meth cD Q hx hb hr hml hown hnm hlocks hts hv hQ ls hl
  obtain ⟨rfl, hP, hK, A, hAe, hD, hA, hS⟩ := rc_prep hv
  have hown : s.vm.findClass RX1 = some m.cls := hown
  have hl : lv_has ls 1 [(0, .ref h0)] := hl
  refine lv_aload_n hx hb dX1_init_0 rfl (lv_at hl 0 rfl) ?_
  refine W.objInit hx hb hown (hts _ q23) (hts _ q24) (hts _ q25) rfl (by rw [hml]; exact hl.1) rfl dX1_init_1 (Nat.le_of_ble_eq_true rfl) (Nat.le_of_ble_eq_true rfl) ?_
  refine W.eq (g2 := F0 m 4 ls []) rfl ?_
  refine lv_aload_n hx hb dX1_init_4 rfl (lv_at hl 0 rfl) ?_
  refine lv_bipush (v := nI 32) hx hb dX1_init_5 (by decide) ?_
  refine rc_newB hx hb (hts _ q36) hK hP hD hS hA 32 rfl (by decide) (Nat.le_of_ble_eq_true rfl) (Nat.le_of_ble_eq_true rfl) dX1_init_7 (fun a1 H hP hD hS => ?_)
  have hP : va_P G vwCl [(h0, .inr (0, [.null, .null, .null])), (a1, .inl (cB, 32, .inl (fun _ => 0)))] H := hP
  have hD : va_D A [(h0, .inr (0, [.null, .null, .null])), (a1, .inl (cB, 32, .inl (fun _ => 0)))] := hD
  refine va_putF (D := G) (ci := 0) (v := .ref a1) (ty := .array .byte) (C := RX1) (T := TX1) (N := 3) hx hb hts in_X1 tyX1 tyX1_ok nmX1 hown hK hP hD hS 0 rfl rfl 0 (by decide) (hts _ q26) (fun _ h9 => h9) rfl hnm rfl (by decide +kernel) rfl rfl (Nat.le_of_ble_eq_true rfl) dX1_init_9 (fun H locs hP hD hS => ?_)
  have hP : va_P G vwCl [(h0, .inr (0, [.ref a1, .null, .null])), (a1, .inl (cB, 32, .inl (fun _ => 0)))] H := hP
  have hD : va_D A [(h0, .inr (0, [.ref a1, .null, .null])), (a1, .inl (cB, 32, .inl (fun _ => 0)))] := hD
  refine lv_aload_n hx hb dX1_init_12 rfl (lv_at hl 0 rfl) ?_
  refine lv_bipush (v := nI 16) hx hb dX1_init_13 (by decide) ?_
  refine rc_newB hx hb (hts _ q36) hK hP hD hS hA 16 rfl (by decide) (Nat.le_of_ble_eq_true rfl) (Nat.le_of_ble_eq_true rfl) dX1_init_15 (fun b1 H hP hD hS => ?_)
  have hP : va_P G vwCl [(h0, .inr (0, [.ref a1, .null, .null])), (a1, .inl (cB, 32, .inl (fun _ => 0))), (b1, .inl (cB, 16, .inl (fun _ => 0)))] H := hP
  have hD : va_D A [(h0, .inr (0, [.ref a1, .null, .null])), (a1, .inl (cB, 32, .inl (fun _ => 0))), (b1, .inl (cB, 16, .inl (fun _ => 0)))] := hD
  refine va_putF (D := G) (ci := 0) (v := .ref b1) (ty := .array .byte) (C := RX1) (T := TX1) (N := 3) hx hb hts in_X1 tyX1 tyX1_ok nmX1 hown hK hP hD hS 0 rfl rfl 1 (by decide) (hts _ q27) (fun _ h9 => h9) rfl hnm rfl (by decide +kernel) rfl rfl (Nat.le_of_ble_eq_true rfl) dX1_init_17 (fun H locs hP hD hS => ?_)
  have hP : va_P G vwCl [(h0, .inr (0, [.ref a1, .ref b1, .null])), (a1, .inl (cB, 32, .inl (fun _ => 0))), (b1, .inl (cB, 16, .inl (fun _ => 0)))] H := hP
  have hD : va_D A [(h0, .inr (0, [.ref a1, .ref b1, .null])), (a1, .inl (cB, 32, .inl (fun _ => 0))), (b1, .inl (cB, 16, .inl (fun _ => 0)))] := hD
  refine lv_aload_n hx hb dX1_init_20 rfl (lv_at hl 0 rfl) ?_
  refine lv_bipush (v := nI 16) hx hb dX1_init_21 (by decide) ?_
  refine rc_newB hx hb (hts _ q36) hK hP hD hS hA 16 rfl (by decide) (Nat.le_of_ble_eq_true rfl) (Nat.le_of_ble_eq_true rfl) dX1_init_23 (fun c1 H hP hD hS => ?_)
  have hP : va_P G vwCl [(h0, .inr (0, [.ref a1, .ref b1, .null])), (a1, .inl (cB, 32, .inl (fun _ => 0))), (b1, .inl (cB, 16, .inl (fun _ => 0))), (c1, .inl (cB, 16, .inl (fun _ => 0)))] H := hP
  have hD : va_D A [(h0, .inr (0, [.ref a1, .ref b1, .null])), (a1, .inl (cB, 32, .inl (fun _ => 0))), (b1, .inl (cB, 16, .inl (fun _ => 0))), (c1, .inl (cB, 16, .inl (fun _ => 0)))] := hD
  refine va_putF (D := G) (ci := 0) (v := .ref c1) (ty := .array .byte) (C := RX1) (T := TX1) (N := 3) hx hb hts in_X1 tyX1 tyX1_ok nmX1 hown hK hP hD hS 0 rfl rfl 2 (by decide) (hts _ q28) (fun _ h9 => h9) rfl hnm rfl (by decide +kernel) rfl rfl (Nat.le_of_ble_eq_true rfl) dX1_init_25 (fun H locs hP hD hS => ?_)
  have hP : va_P G vwCl [(h0, .inr (0, [.ref a1, .ref b1, .ref c1])), (a1, .inl (cB, 32, .inl (fun _ => 0))), (b1, .inl (cB, 16, .inl (fun _ => 0))), (c1, .inl (cB, 16, .inl (fun _ => 0)))] H := hP
  have hD : va_D A [(h0, .inr (0, [.ref a1, .ref b1, .ref c1])), (a1, .inl (cB, 32, .inl (fun _ => 0))), (b1, .inl (cB, 16, .inl (fun _ => 0))), (c1, .inl (cB, 16, .inl (fun _ => 0)))] := hD
  exact rc_vret hx hb hr hlocks hQ hAe [(h0, .inr (0, [.ref a1, .ref b1, .ref c1])), (a1, .inl (cB, 32, .inl (fun _ => 0))), (b1, .inl (cB, 16, .inl (fun _ => 0))), (c1, .inl (cB, 16, .inl (fun _ => 0)))] (⟨a1, b1, c1, rfl⟩) (hP.sub [0, 1, 2, 3] rfl) (hD.sub [0, 1, 2, 3] (by decide) rfl) hS (Nat.le_of_ble_eq_true rfl) (Nat.le_of_ble_eq_true rfl) dX1_init_28
abbrev rmX1_word : Room := { frames := 0, cells := 0, slots := 0, locals := 0 }
set_option maxHeartbeats 4000000 in
set_option maxRecDepth 100000 in
theorem metX1_word (l : Launch) (G : va_G) (cB cL : ClassId) (sz : Nat) (ha n : Nat) (f : Nat → Int32) (o : Nat) (v : Int32) (ho : o + 4 ≤ n) (hn : n < 2 ^ 31) : Met l yX1_word (ws_ yX1_word cX1_word 3 none) rmX1_word (va_Pc [.ref ha, .int (nI o), .int v] (rc_Wr G vwCl [(ha, .inl (cB, n, .inl f))] [(cB, .byte), (cL, .long)] sz)) (rc_Qv G vwCl [(ha, .inl (cB, n, .inl f))] sz (fun w => w = [(ha, .inl (cB, n, .inl (rc_lay f o v)))])) 0 0 (va_A [(ha, .inl (cB, n, .inl f))] sz) := by
  refine rc_start (by decide) (Nat.le_of_ble_eq_true rfl) ?_
  intro p e s m args below meth cD Q hx hb hr hml hown hnm hlocks hts hv hQ ls hl
  obtain ⟨rfl, hP, hK, A, hAe, hD, hA, hS⟩ := rc_prep hv
  have hown : s.vm.findClass RX1 = some m.cls := hown
  have hl : lv_has ls 3 [(0, .ref ha), (1, .int (nI o)), (2, .int v)] := hl
  refine lv_aload_n hx hb dX1_word_0 rfl (lv_at hl 0 rfl) ?_
  refine lv_iload_n hx hb dX1_word_1 rfl (lv_at hl 1 rfl) ?_
  refine lv_iload_n hx hb dX1_word_2 rfl (lv_at hl 2 rfl) ?_
  refine lv_bipush (v := nI 24) hx hb dX1_word_3 (by decide) ?_
  refine lv_ishr hx hb dX1_word_5 ?_
  refine lv_i2b (v := ((v >>> ((nI 24) &&& 31))).toInt8.toInt32) hx hb dX1_word_6 rfl ?_
  refine rc_bast hx hb hK hP hD hS 0 0 rfl rfl o rfl (by omega) hn (upd f (o) ((rc_by v 24))) (congrArg (upd f (o)) (rc_nar (rc_B_i8 _))) dX1_word_7 (fun H locs hP hD hS => ?_)
  have hP : va_P G vwCl [(ha, .inl (cB, n, .inl (upd f (o) ((rc_by v 24)))))] H := hP
  have hD : va_D A [(ha, .inl (cB, n, .inl (upd f (o) ((rc_by v 24)))))] := hD
  refine lv_aload_n hx hb dX1_word_8 rfl (lv_at hl 0 rfl) ?_
  refine lv_iload_n hx hb dX1_word_9 rfl (lv_at hl 1 rfl) ?_
  refine lv_iconst (v := nI 1) hx hb dX1_word_10 (by decide) ?_
  refine lv_iadd hx hb dX1_word_11 ?_
  refine lv_iload_n hx hb dX1_word_12 rfl (lv_at hl 2 rfl) ?_
  refine lv_bipush (v := nI 16) hx hb dX1_word_13 (by decide) ?_
  refine lv_ishr hx hb dX1_word_15 ?_
  refine lv_i2b (v := ((v >>> ((nI 16) &&& 31))).toInt8.toInt32) hx hb dX1_word_16 rfl ?_
  refine rc_bast hx hb hK hP hD hS 0 0 rfl rfl (o + 1) (nI_add _ _) (by omega) hn (upd (upd f (o) ((rc_by v 24))) (o + 1) ((rc_by v 16))) (congrArg (upd (upd f (o) ((rc_by v 24))) (o + 1)) (rc_nar (rc_B_i8 _))) dX1_word_17 (fun H locs hP hD hS => ?_)
  have hP : va_P G vwCl [(ha, .inl (cB, n, .inl (upd (upd f (o) ((rc_by v 24))) (o + 1) ((rc_by v 16)))))] H := hP
  have hD : va_D A [(ha, .inl (cB, n, .inl (upd (upd f (o) ((rc_by v 24))) (o + 1) ((rc_by v 16)))))] := hD
  refine lv_aload_n hx hb dX1_word_18 rfl (lv_at hl 0 rfl) ?_
  refine lv_iload_n hx hb dX1_word_19 rfl (lv_at hl 1 rfl) ?_
  refine lv_iconst (v := nI 2) hx hb dX1_word_20 (by decide) ?_
  refine lv_iadd hx hb dX1_word_21 ?_
  refine lv_iload_n hx hb dX1_word_22 rfl (lv_at hl 2 rfl) ?_
  refine lv_bipush (v := nI 8) hx hb dX1_word_23 (by decide) ?_
  refine lv_ishr hx hb dX1_word_25 ?_
  refine lv_i2b (v := ((v >>> ((nI 8) &&& 31))).toInt8.toInt32) hx hb dX1_word_26 rfl ?_
  refine rc_bast hx hb hK hP hD hS 0 0 rfl rfl (o + 2) (nI_add _ _) (by omega) hn (upd (upd (upd f (o) ((rc_by v 24))) (o + 1) ((rc_by v 16))) (o + 2) ((rc_by v 8))) (congrArg (upd (upd (upd f (o) ((rc_by v 24))) (o + 1) ((rc_by v 16))) (o + 2)) (rc_nar (rc_B_i8 _))) dX1_word_27 (fun H locs hP hD hS => ?_)
  have hP : va_P G vwCl [(ha, .inl (cB, n, .inl (upd (upd (upd f (o) ((rc_by v 24))) (o + 1) ((rc_by v 16))) (o + 2) ((rc_by v 8)))))] H := hP
  have hD : va_D A [(ha, .inl (cB, n, .inl (upd (upd (upd f (o) ((rc_by v 24))) (o + 1) ((rc_by v 16))) (o + 2) ((rc_by v 8)))))] := hD
  refine lv_aload_n hx hb dX1_word_28 rfl (lv_at hl 0 rfl) ?_
  refine lv_iload_n hx hb dX1_word_29 rfl (lv_at hl 1 rfl) ?_
  refine lv_iconst (v := nI 3) hx hb dX1_word_30 (by decide) ?_
  refine lv_iadd hx hb dX1_word_31 ?_
  refine lv_iload_n hx hb dX1_word_32 rfl (lv_at hl 2 rfl) ?_
  refine lv_i2b (v := (v).toInt8.toInt32) hx hb dX1_word_33 rfl ?_
  refine rc_bast hx hb hK hP hD hS 0 0 rfl rfl (o + 3) (nI_add _ _) (by omega) hn (upd (upd (upd (upd f (o) ((rc_by v 24))) (o + 1) ((rc_by v 16))) (o + 2) ((rc_by v 8))) (o + 3) (v.toInt8.toInt32)) (congrArg (upd (upd (upd (upd f (o) ((rc_by v 24))) (o + 1) ((rc_by v 16))) (o + 2) ((rc_by v 8))) (o + 3)) (rc_nar (rc_B_i8 _))) dX1_word_34 (fun H locs hP hD hS => ?_)
  have hP : va_P G vwCl [(ha, .inl (cB, n, .inl (upd (upd (upd (upd f (o) ((rc_by v 24))) (o + 1) ((rc_by v 16))) (o + 2) ((rc_by v 8))) (o + 3) (v.toInt8.toInt32))))] H := hP
  have hD : va_D A [(ha, .inl (cB, n, .inl (upd (upd (upd (upd f (o) ((rc_by v 24))) (o + 1) ((rc_by v 16))) (o + 2) ((rc_by v 8))) (o + 3) (v.toInt8.toInt32))))] := hD
  exact rc_vret hx hb hr hlocks hQ hAe [(ha, .inl (cB, n, .inl (upd (upd (upd (upd f (o) ((rc_by v 24))) (o + 1) ((rc_by v 16))) (o + 2) ((rc_by v 8))) (o + 3) (v.toInt8.toInt32))))] (rfl) (hP.sub [0] rfl) (hD.sub [0] (by decide) rfl) hS (Nat.le_of_ble_eq_true rfl) (Nat.le_of_ble_eq_true rfl) dX1_word_35
abbrev rmX1_key : Room := { frames := 1, cells := 0, slots := 0, locals := 22 }
set_option maxHeartbeats 4000000 in
set_option maxRecDepth 100000 in
/-- key: one half of the key is laid -/
theorem metX1_key (l : Launch) (G : va_G) (cB cL : ClassId) (sz : Nat) (h0 a1 b1 c1 : Nat) (fk : Nat → Int32) (hh va vb vc vd : Int32) : Met l yX1_key (ws_ yX1_key cX1_key 7 none) rmX1_key (va_Pc [.ref h0, .int hh, .int va, .int vb, .int vc, .int vd] (rc_Wr G vwCl [(h0, .inr (0, [.ref a1, .ref b1, .ref c1])), (a1, .inl (cB, 32, .inl fk))] [(cB, .byte), (cL, .long)] sz)) (rc_Qv G vwCl [(h0, .inr (0, [.ref a1, .ref b1, .ref c1])), (a1, .inl (cB, 32, .inl fk))] sz (fun w => w = [(h0, .inr (0, [.ref a1, .ref b1, .ref c1])), (a1, .inl (cB, 32, .inl (rc_lay4 fk (rc_ho hh) va vb vc vd)))])) 0 0 (va_A [(h0, .inr (0, [.ref a1, .ref b1, .ref c1])), (a1, .inl (cB, 32, .inl fk))] sz) := by
  refine rc_start (by decide) (Nat.le_of_ble_eq_true rfl) ?_
  intro p e s m args below meth cD Q hx hb hr hml hown hnm hlocks hts hv hQ ls hl
  obtain ⟨rfl, hP, hK, A, hAe, hD, hA, hS⟩ := rc_prep hv
  have hown : s.vm.findClass RX1 = some m.cls := hown
  have hl : lv_has ls 7 [(0, .ref h0), (1, .int hh), (2, .int va), (3, .int vb), (4, .int vc), (5, .int vd)] := hl
  have hho := rc_ho_le hh
  refine lv_iload_n hx hb dX1_key_0 rfl (lv_at hl 1 rfl) ?_
  refine lv_iconst (v := 1) hx hb dX1_key_1 (by decide) ?_
  refine lv_iand hx hb dX1_key_2 ?_
  refine lv_iconst (v := nI 4) hx hb dX1_key_3 (by decide) ?_
  refine lv_ishl hx hb dX1_key_4 ?_
  refine rc_ti (nI (rc_ho hh)) (rc_ho_1 hh) ?_
  refine lv_istore (lv' := [(6, .int (nI (rc_ho hh))), (0, .ref h0), (1, .int hh), (2, .int va), (3, .int vb), (4, .int vc), (5, .int vd)]) hx hb dX1_key_5 hl (by decide) rfl (fun ls hl => ?_)
  refine lv_aload_n hx hb dX1_key_7 rfl (lv_at hl 1 rfl) ?_
  refine va_get (D := G) (ci := 0) (v := .ref a1) (C := RX1) (T := TX1) (N := 3) hx hb hts in_X1 hown hK hP 0 rfl rfl 0 (by decide) (hts _ q26) (fun _ h9 => h9) rfl dX1_key_8 ?_
  refine lv_iload hx hb dX1_key_11 (lv_at hl 0 rfl) ?_
  refine lv_iload_n hx hb dX1_key_13 rfl (lv_at hl 3 rfl) ?_
  refine rc_callv (va_runS (As := [.ref a1, .int (nI (rc_ho hh)), .int va]) (rest := []) ⟨hx, hb, hml, hown, hts⟩ (metX1_word l G cB cL s.heap.size a1 32 fk (rc_ho hh) va (by omega) (by decide)) (va_cwS 3 hts (lw_S q41 q42 q10 q43) rfl rfl rfl (by decide +kernel) ⟨Nat.le_of_ble_eq_true rfl, Nat.le_of_ble_eq_true rfl⟩) (rc_WrS (hP.sub (ws' := [(a1, .inl (cB, 32, .inl fk))]) [1] rfl) hK (hD.sub (ws' := [(a1, .inl (cB, 32, .inl fk))]) [1] (by decide) rfl) [.ref a1, .int (nI (rc_ho hh)), .int va]) rfl rfl hl.1 rfl (lv_room (Nat.le_of_ble_eq_true rfl)) dX1_key_14 ⟨(Nat.le_of_ble_eq_true rfl), (Nat.le_of_ble_eq_true rfl)⟩) hP hD hS hA [1] [0] (wr := [(h0, .inr (0, [.ref a1, .ref b1, .ref c1]))]) rfl rfl (by decide) (by decide) (fun w1 hw H locs hP hD hS => ?_)
  obtain rfl := hw
  have hP : va_P G vwCl [(h0, .inr (0, [.ref a1, .ref b1, .ref c1])), (a1, .inl (cB, 32, .inl (rc_lay fk (rc_ho hh) va)))] H := hP
  have hD : va_D A [(h0, .inr (0, [.ref a1, .ref b1, .ref c1])), (a1, .inl (cB, 32, .inl (rc_lay fk (rc_ho hh) va)))] := hD
  refine lv_aload_n hx hb dX1_key_17 rfl (lv_at hl 1 rfl) ?_
  refine va_get (D := G) (ci := 0) (v := .ref a1) (C := RX1) (T := TX1) (N := 3) hx hb hts in_X1 hown hK hP 0 rfl rfl 0 (by decide) (hts _ q26) (fun _ h9 => h9) rfl dX1_key_18 ?_
  refine lv_iload hx hb dX1_key_21 (lv_at hl 0 rfl) ?_
  refine lv_iconst (v := nI 4) hx hb dX1_key_23 (by decide) ?_
  refine lv_iadd hx hb dX1_key_24 ?_
  refine rc_ti (nI (rc_ho hh + 4)) (nI_add _ _) ?_
  refine lv_iload_n hx hb dX1_key_25 rfl (lv_at hl 4 rfl) ?_
  refine rc_callv (va_runS (As := [.ref a1, .int (nI (rc_ho hh + 4)), .int vb]) (rest := []) ⟨hx, hb, hml, hown, hts⟩ (metX1_word l G cB cL H.size a1 32 (rc_lay fk (rc_ho hh) va) (rc_ho hh + 4) vb (by omega) (by decide)) (va_cwS 3 hts (lw_S q41 q42 q10 q43) rfl rfl rfl (by decide +kernel) ⟨Nat.le_of_ble_eq_true rfl, Nat.le_of_ble_eq_true rfl⟩) (rc_WrS (hP.sub (ws' := [(a1, .inl (cB, 32, .inl (rc_lay fk (rc_ho hh) va)))]) [1] rfl) hK (hD.sub (ws' := [(a1, .inl (cB, 32, .inl (rc_lay fk (rc_ho hh) va)))]) [1] (by decide) rfl) [.ref a1, .int (nI (rc_ho hh + 4)), .int vb]) rfl rfl hl.1 rfl (lv_room (Nat.le_of_ble_eq_true rfl)) dX1_key_26 ⟨(Nat.le_of_ble_eq_true rfl), (Nat.le_of_ble_eq_true rfl)⟩) hP hD hS hA [1] [0] (wr := [(h0, .inr (0, [.ref a1, .ref b1, .ref c1]))]) rfl rfl (by decide) (by decide) (fun w1 hw H locs hP hD hS => ?_)
  obtain rfl := hw
  have hP : va_P G vwCl [(h0, .inr (0, [.ref a1, .ref b1, .ref c1])), (a1, .inl (cB, 32, .inl (rc_lay (rc_lay fk (rc_ho hh) va) (rc_ho hh + 4) vb)))] H := hP
  have hD : va_D A [(h0, .inr (0, [.ref a1, .ref b1, .ref c1])), (a1, .inl (cB, 32, .inl (rc_lay (rc_lay fk (rc_ho hh) va) (rc_ho hh + 4) vb)))] := hD
  refine lv_aload_n hx hb dX1_key_29 rfl (lv_at hl 1 rfl) ?_
  refine va_get (D := G) (ci := 0) (v := .ref a1) (C := RX1) (T := TX1) (N := 3) hx hb hts in_X1 hown hK hP 0 rfl rfl 0 (by decide) (hts _ q26) (fun _ h9 => h9) rfl dX1_key_30 ?_
  refine lv_iload hx hb dX1_key_33 (lv_at hl 0 rfl) ?_
  refine lv_bipush (v := nI 8) hx hb dX1_key_35 (by decide) ?_
  refine lv_iadd hx hb dX1_key_37 ?_
  refine rc_ti (nI (rc_ho hh + 8)) (nI_add _ _) ?_
  refine lv_iload hx hb dX1_key_38 (lv_at hl 5 rfl) ?_
  refine rc_callv (va_runS (As := [.ref a1, .int (nI (rc_ho hh + 8)), .int vc]) (rest := []) ⟨hx, hb, hml, hown, hts⟩ (metX1_word l G cB cL H.size a1 32 (rc_lay (rc_lay fk (rc_ho hh) va) (rc_ho hh + 4) vb) (rc_ho hh + 8) vc (by omega) (by decide)) (va_cwS 3 hts (lw_S q41 q42 q10 q43) rfl rfl rfl (by decide +kernel) ⟨Nat.le_of_ble_eq_true rfl, Nat.le_of_ble_eq_true rfl⟩) (rc_WrS (hP.sub (ws' := [(a1, .inl (cB, 32, .inl (rc_lay (rc_lay fk (rc_ho hh) va) (rc_ho hh + 4) vb)))]) [1] rfl) hK (hD.sub (ws' := [(a1, .inl (cB, 32, .inl (rc_lay (rc_lay fk (rc_ho hh) va) (rc_ho hh + 4) vb)))]) [1] (by decide) rfl) [.ref a1, .int (nI (rc_ho hh + 8)), .int vc]) rfl rfl hl.1 rfl (lv_room (Nat.le_of_ble_eq_true rfl)) dX1_key_40 ⟨(Nat.le_of_ble_eq_true rfl), (Nat.le_of_ble_eq_true rfl)⟩) hP hD hS hA [1] [0] (wr := [(h0, .inr (0, [.ref a1, .ref b1, .ref c1]))]) rfl rfl (by decide) (by decide) (fun w1 hw H locs hP hD hS => ?_)
  obtain rfl := hw
  have hP : va_P G vwCl [(h0, .inr (0, [.ref a1, .ref b1, .ref c1])), (a1, .inl (cB, 32, .inl (rc_lay (rc_lay (rc_lay fk (rc_ho hh) va) (rc_ho hh + 4) vb) (rc_ho hh + 8) vc)))] H := hP
  have hD : va_D A [(h0, .inr (0, [.ref a1, .ref b1, .ref c1])), (a1, .inl (cB, 32, .inl (rc_lay (rc_lay (rc_lay fk (rc_ho hh) va) (rc_ho hh + 4) vb) (rc_ho hh + 8) vc)))] := hD
  refine lv_aload_n hx hb dX1_key_43 rfl (lv_at hl 1 rfl) ?_
  refine va_get (D := G) (ci := 0) (v := .ref a1) (C := RX1) (T := TX1) (N := 3) hx hb hts in_X1 hown hK hP 0 rfl rfl 0 (by decide) (hts _ q26) (fun _ h9 => h9) rfl dX1_key_44 ?_
  refine lv_iload hx hb dX1_key_47 (lv_at hl 0 rfl) ?_
  refine lv_bipush (v := nI 12) hx hb dX1_key_49 (by decide) ?_
  refine lv_iadd hx hb dX1_key_51 ?_
  refine rc_ti (nI (rc_ho hh + 12)) (nI_add _ _) ?_
  refine lv_iload hx hb dX1_key_52 (lv_at hl 6 rfl) ?_
  refine rc_callv (va_runS (As := [.ref a1, .int (nI (rc_ho hh + 12)), .int vd]) (rest := []) ⟨hx, hb, hml, hown, hts⟩ (metX1_word l G cB cL H.size a1 32 (rc_lay (rc_lay (rc_lay fk (rc_ho hh) va) (rc_ho hh + 4) vb) (rc_ho hh + 8) vc) (rc_ho hh + 12) vd (by omega) (by decide)) (va_cwS 3 hts (lw_S q41 q42 q10 q43) rfl rfl rfl (by decide +kernel) ⟨Nat.le_of_ble_eq_true rfl, Nat.le_of_ble_eq_true rfl⟩) (rc_WrS (hP.sub (ws' := [(a1, .inl (cB, 32, .inl (rc_lay (rc_lay (rc_lay fk (rc_ho hh) va) (rc_ho hh + 4) vb) (rc_ho hh + 8) vc)))]) [1] rfl) hK (hD.sub (ws' := [(a1, .inl (cB, 32, .inl (rc_lay (rc_lay (rc_lay fk (rc_ho hh) va) (rc_ho hh + 4) vb) (rc_ho hh + 8) vc)))]) [1] (by decide) rfl) [.ref a1, .int (nI (rc_ho hh + 12)), .int vd]) rfl rfl hl.1 rfl (lv_room (Nat.le_of_ble_eq_true rfl)) dX1_key_54 ⟨(Nat.le_of_ble_eq_true rfl), (Nat.le_of_ble_eq_true rfl)⟩) hP hD hS hA [1] [0] (wr := [(h0, .inr (0, [.ref a1, .ref b1, .ref c1]))]) rfl rfl (by decide) (by decide) (fun w1 hw H locs hP hD hS => ?_)
  obtain rfl := hw
  have hP : va_P G vwCl [(h0, .inr (0, [.ref a1, .ref b1, .ref c1])), (a1, .inl (cB, 32, .inl (rc_lay (rc_lay (rc_lay (rc_lay fk (rc_ho hh) va) (rc_ho hh + 4) vb) (rc_ho hh + 8) vc) (rc_ho hh + 12) vd)))] H := hP
  have hD : va_D A [(h0, .inr (0, [.ref a1, .ref b1, .ref c1])), (a1, .inl (cB, 32, .inl (rc_lay (rc_lay (rc_lay (rc_lay fk (rc_ho hh) va) (rc_ho hh + 4) vb) (rc_ho hh + 8) vc) (rc_ho hh + 12) vd)))] := hD
  exact rc_vret hx hb hr hlocks hQ hAe [(h0, .inr (0, [.ref a1, .ref b1, .ref c1])), (a1, .inl (cB, 32, .inl (rc_lay (rc_lay (rc_lay (rc_lay fk (rc_ho hh) va) (rc_ho hh + 4) vb) (rc_ho hh + 8) vc) (rc_ho hh + 12) vd)))] (rfl) (hP.sub [0, 1] rfl) (hD.sub [0, 1] (by decide) rfl) hS (Nat.le_of_ble_eq_true rfl) (Nat.le_of_ble_eq_true rfl) dX1_key_57
abbrev rmX1_block : Room := { frames := 1, cells := 0, slots := 0, locals := 22 }
set_option maxHeartbeats 4000000 in
set_option maxRecDepth 100000 in
/-- block: the block is laid -/
theorem metX1_block (l : Launch) (G : va_G) (cB cL : ClassId) (sz : Nat) (h0 a1 b1 c1 : Nat) (fb : Nat → Int32) (va vb vc vd : Int32) : Met l yX1_block (ws_ yX1_block cX1_block 5 none) rmX1_block (va_Pc [.ref h0, .int va, .int vb, .int vc, .int vd] (rc_Wr G vwCl [(h0, .inr (0, [.ref a1, .ref b1, .ref c1])), (b1, .inl (cB, 16, .inl fb))] [(cB, .byte), (cL, .long)] sz)) (rc_Qv G vwCl [(h0, .inr (0, [.ref a1, .ref b1, .ref c1])), (b1, .inl (cB, 16, .inl fb))] sz (fun w => w = [(h0, .inr (0, [.ref a1, .ref b1, .ref c1])), (b1, .inl (cB, 16, .inl (rc_lay4 fb 0 va vb vc vd)))])) 0 0 (va_A [(h0, .inr (0, [.ref a1, .ref b1, .ref c1])), (b1, .inl (cB, 16, .inl fb))] sz) := by
  refine rc_start (by decide) (Nat.le_of_ble_eq_true rfl) ?_
  intro p e s m args below meth cD Q hx hb hr hml hown hnm hlocks hts hv hQ ls hl
  obtain ⟨rfl, hP, hK, A, hAe, hD, hA, hS⟩ := rc_prep hv
  have hown : s.vm.findClass RX1 = some m.cls := hown
  have hl : lv_has ls 5 [(0, .ref h0), (1, .int va), (2, .int vb), (3, .int vc), (4, .int vd)] := hl
  refine lv_aload_n hx hb dX1_block_0 rfl (lv_at hl 0 rfl) ?_
  refine va_get (D := G) (ci := 0) (v := .ref b1) (C := RX1) (T := TX1) (N := 3) hx hb hts in_X1 hown hK hP 0 rfl rfl 1 (by decide) (hts _ q27) (fun _ h9 => h9) rfl dX1_block_1 ?_
  refine lv_iconst (v := nI 0) hx hb dX1_block_4 (by decide) ?_
  refine lv_iload_n hx hb dX1_block_5 rfl (lv_at hl 1 rfl) ?_
  refine rc_callv (va_runS (As := [.ref b1, .int (nI 0), .int va]) (rest := []) ⟨hx, hb, hml, hown, hts⟩ (metX1_word l G cB cL s.heap.size b1 16 fb 0 va (by decide) (by decide)) (va_cwS 3 hts (lw_S q41 q42 q10 q43) rfl rfl rfl (by decide +kernel) ⟨Nat.le_of_ble_eq_true rfl, Nat.le_of_ble_eq_true rfl⟩) (rc_WrS (hP.sub (ws' := [(b1, .inl (cB, 16, .inl fb))]) [1] rfl) hK (hD.sub (ws' := [(b1, .inl (cB, 16, .inl fb))]) [1] (by decide) rfl) [.ref b1, .int (nI 0), .int va]) rfl rfl hl.1 rfl (lv_room (Nat.le_of_ble_eq_true rfl)) dX1_block_6 ⟨(Nat.le_of_ble_eq_true rfl), (Nat.le_of_ble_eq_true rfl)⟩) hP hD hS hA [1] [0] (wr := [(h0, .inr (0, [.ref a1, .ref b1, .ref c1]))]) rfl rfl (by decide) (by decide) (fun w1 hw H locs hP hD hS => ?_)
  obtain rfl := hw
  have hP : va_P G vwCl [(h0, .inr (0, [.ref a1, .ref b1, .ref c1])), (b1, .inl (cB, 16, .inl (rc_lay fb 0 va)))] H := hP
  have hD : va_D A [(h0, .inr (0, [.ref a1, .ref b1, .ref c1])), (b1, .inl (cB, 16, .inl (rc_lay fb 0 va)))] := hD
  refine lv_aload_n hx hb dX1_block_9 rfl (lv_at hl 0 rfl) ?_
  refine va_get (D := G) (ci := 0) (v := .ref b1) (C := RX1) (T := TX1) (N := 3) hx hb hts in_X1 hown hK hP 0 rfl rfl 1 (by decide) (hts _ q27) (fun _ h9 => h9) rfl dX1_block_10 ?_
  refine lv_iconst (v := nI 4) hx hb dX1_block_13 (by decide) ?_
  refine lv_iload_n hx hb dX1_block_14 rfl (lv_at hl 2 rfl) ?_
  refine rc_callv (va_runS (As := [.ref b1, .int (nI 4), .int vb]) (rest := []) ⟨hx, hb, hml, hown, hts⟩ (metX1_word l G cB cL H.size b1 16 (rc_lay fb 0 va) 4 vb (by decide) (by decide)) (va_cwS 3 hts (lw_S q41 q42 q10 q43) rfl rfl rfl (by decide +kernel) ⟨Nat.le_of_ble_eq_true rfl, Nat.le_of_ble_eq_true rfl⟩) (rc_WrS (hP.sub (ws' := [(b1, .inl (cB, 16, .inl (rc_lay fb 0 va)))]) [1] rfl) hK (hD.sub (ws' := [(b1, .inl (cB, 16, .inl (rc_lay fb 0 va)))]) [1] (by decide) rfl) [.ref b1, .int (nI 4), .int vb]) rfl rfl hl.1 rfl (lv_room (Nat.le_of_ble_eq_true rfl)) dX1_block_15 ⟨(Nat.le_of_ble_eq_true rfl), (Nat.le_of_ble_eq_true rfl)⟩) hP hD hS hA [1] [0] (wr := [(h0, .inr (0, [.ref a1, .ref b1, .ref c1]))]) rfl rfl (by decide) (by decide) (fun w1 hw H locs hP hD hS => ?_)
  obtain rfl := hw
  have hP : va_P G vwCl [(h0, .inr (0, [.ref a1, .ref b1, .ref c1])), (b1, .inl (cB, 16, .inl (rc_lay (rc_lay fb 0 va) 4 vb)))] H := hP
  have hD : va_D A [(h0, .inr (0, [.ref a1, .ref b1, .ref c1])), (b1, .inl (cB, 16, .inl (rc_lay (rc_lay fb 0 va) 4 vb)))] := hD
  refine lv_aload_n hx hb dX1_block_18 rfl (lv_at hl 0 rfl) ?_
  refine va_get (D := G) (ci := 0) (v := .ref b1) (C := RX1) (T := TX1) (N := 3) hx hb hts in_X1 hown hK hP 0 rfl rfl 1 (by decide) (hts _ q27) (fun _ h9 => h9) rfl dX1_block_19 ?_
  refine lv_bipush (v := nI 8) hx hb dX1_block_22 (by decide) ?_
  refine lv_iload_n hx hb dX1_block_24 rfl (lv_at hl 3 rfl) ?_
  refine rc_callv (va_runS (As := [.ref b1, .int (nI 8), .int vc]) (rest := []) ⟨hx, hb, hml, hown, hts⟩ (metX1_word l G cB cL H.size b1 16 (rc_lay (rc_lay fb 0 va) 4 vb) 8 vc (by decide) (by decide)) (va_cwS 3 hts (lw_S q41 q42 q10 q43) rfl rfl rfl (by decide +kernel) ⟨Nat.le_of_ble_eq_true rfl, Nat.le_of_ble_eq_true rfl⟩) (rc_WrS (hP.sub (ws' := [(b1, .inl (cB, 16, .inl (rc_lay (rc_lay fb 0 va) 4 vb)))]) [1] rfl) hK (hD.sub (ws' := [(b1, .inl (cB, 16, .inl (rc_lay (rc_lay fb 0 va) 4 vb)))]) [1] (by decide) rfl) [.ref b1, .int (nI 8), .int vc]) rfl rfl hl.1 rfl (lv_room (Nat.le_of_ble_eq_true rfl)) dX1_block_25 ⟨(Nat.le_of_ble_eq_true rfl), (Nat.le_of_ble_eq_true rfl)⟩) hP hD hS hA [1] [0] (wr := [(h0, .inr (0, [.ref a1, .ref b1, .ref c1]))]) rfl rfl (by decide) (by decide) (fun w1 hw H locs hP hD hS => ?_)
  obtain rfl := hw
  have hP : va_P G vwCl [(h0, .inr (0, [.ref a1, .ref b1, .ref c1])), (b1, .inl (cB, 16, .inl (rc_lay (rc_lay (rc_lay fb 0 va) 4 vb) 8 vc)))] H := hP
  have hD : va_D A [(h0, .inr (0, [.ref a1, .ref b1, .ref c1])), (b1, .inl (cB, 16, .inl (rc_lay (rc_lay (rc_lay fb 0 va) 4 vb) 8 vc)))] := hD
  refine lv_aload_n hx hb dX1_block_28 rfl (lv_at hl 0 rfl) ?_
  refine va_get (D := G) (ci := 0) (v := .ref b1) (C := RX1) (T := TX1) (N := 3) hx hb hts in_X1 hown hK hP 0 rfl rfl 1 (by decide) (hts _ q27) (fun _ h9 => h9) rfl dX1_block_29 ?_
  refine lv_bipush (v := nI 12) hx hb dX1_block_32 (by decide) ?_
  refine lv_iload hx hb dX1_block_34 (lv_at hl 4 rfl) ?_
  refine rc_callv (va_runS (As := [.ref b1, .int (nI 12), .int vd]) (rest := []) ⟨hx, hb, hml, hown, hts⟩ (metX1_word l G cB cL H.size b1 16 (rc_lay (rc_lay (rc_lay fb 0 va) 4 vb) 8 vc) 12 vd (by decide) (by decide)) (va_cwS 3 hts (lw_S q41 q42 q10 q43) rfl rfl rfl (by decide +kernel) ⟨Nat.le_of_ble_eq_true rfl, Nat.le_of_ble_eq_true rfl⟩) (rc_WrS (hP.sub (ws' := [(b1, .inl (cB, 16, .inl (rc_lay (rc_lay (rc_lay fb 0 va) 4 vb) 8 vc)))]) [1] rfl) hK (hD.sub (ws' := [(b1, .inl (cB, 16, .inl (rc_lay (rc_lay (rc_lay fb 0 va) 4 vb) 8 vc)))]) [1] (by decide) rfl) [.ref b1, .int (nI 12), .int vd]) rfl rfl hl.1 rfl (lv_room (Nat.le_of_ble_eq_true rfl)) dX1_block_36 ⟨(Nat.le_of_ble_eq_true rfl), (Nat.le_of_ble_eq_true rfl)⟩) hP hD hS hA [1] [0] (wr := [(h0, .inr (0, [.ref a1, .ref b1, .ref c1]))]) rfl rfl (by decide) (by decide) (fun w1 hw H locs hP hD hS => ?_)
  obtain rfl := hw
  have hP : va_P G vwCl [(h0, .inr (0, [.ref a1, .ref b1, .ref c1])), (b1, .inl (cB, 16, .inl (rc_lay (rc_lay (rc_lay (rc_lay fb 0 va) 4 vb) 8 vc) 12 vd)))] H := hP
  have hD : va_D A [(h0, .inr (0, [.ref a1, .ref b1, .ref c1])), (b1, .inl (cB, 16, .inl (rc_lay (rc_lay (rc_lay (rc_lay fb 0 va) 4 vb) 8 vc) 12 vd)))] := hD
  exact rc_vret hx hb hr hlocks hQ hAe [(h0, .inr (0, [.ref a1, .ref b1, .ref c1])), (b1, .inl (cB, 16, .inl (rc_lay (rc_lay (rc_lay (rc_lay fb 0 va) 4 vb) 8 vc) 12 vd)))] (rfl) (hP.sub [0, 1] rfl) (hD.sub [0, 1] (by decide) rfl) hS (Nat.le_of_ble_eq_true rfl) (Nat.le_of_ble_eq_true rfl) dX1_block_39
abbrev rmX1_size : Room := { frames := 0, cells := 0, slots := 0, locals := 0 }
set_option maxHeartbeats 4000000 in
set_option maxRecDepth 100000 in
theorem metX1_size (l : Launch) (G : va_G) (cB cL : ClassId) (k : Int32) : Met l yX1_size (ws_ yX1_size cX1_size 1 (some .int)) rmX1_size (va_Pc [.int k] (rc_Rd G vwCl [] [(cB, .byte), (cL, .long)])) (vp_Si (fun r => r = nI 16)) 0 0 (fun _ => False) := by
  refine rc_start (by decide) (Nat.le_of_ble_eq_true rfl) ?_
  intro p e s m args below meth cD Q hx hb hr hml hown hnm hlocks hts hv hQ ls hl
  obtain ⟨hP, hK⟩ := hv
  have hown : s.vm.findClass RX1 = some m.cls := hown
  have hl : lv_has ls 1 [(0, .int k)] := hl
  refine lv_bipush (v := nI 16) hx hb dX1_size_0 (by decide) ?_
  exact rc_siret hx hb hr hlocks hQ (rfl) dX1_size_2
abbrev rmX1_run : Room := { frames := 3, cells := 6, slots := 65, locals := 84 }
set_option maxHeartbeats 4000000 in
set_option maxRecDepth 100000 in
/-- run: what is told is RC5 of the block -/
theorem metX1_run_E (l : Launch) (G : va_G) (cB cL : ClassId) (sz : Nat) (h0 a1 b1 c1 : Nat) (fk fb fo : Nat → Int32) (hfk : ∀ j, rc_B (fk j)) (kd : Int32) : Met l yX1_run (ws_ yX1_run cX1_run 6 none) rmX1_run (va_Pc [.ref h0, .int (nI 1), .int kd] (rc_Wx G vwCl [(h0, .inr (0, [.ref a1, .ref b1, .ref c1])), (a1, .inl (cB, 32, .inl fk)), (b1, .inl (cB, 16, .inl fb)), (c1, .inl (cB, 16, .inl fo))] [(cB, .byte), (cL, .long)] sz)) (rc_Qv G vwCl [(h0, .inr (0, [.ref a1, .ref b1, .ref c1])), (a1, .inl (cB, 32, .inl fk)), (b1, .inl (cB, 16, .inl fb)), (c1, .inl (cB, 16, .inl fo))] sz (fun w => w = [(h0, .inr (0, [.ref a1, .ref b1, .ref c1])), (a1, .inl (cB, 32, .inl fk)), (b1, .inl (cB, 16, .inl fb)), (c1, .inl (cB, 16, .inl (rc_E fk fb)))])) 6 65 (va_A [(h0, .inr (0, [.ref a1, .ref b1, .ref c1])), (a1, .inl (cB, 32, .inl fk)), (b1, .inl (cB, 16, .inl fb)), (c1, .inl (cB, 16, .inl fo))] sz) := by
  refine rc_start (by decide) (Nat.le_of_ble_eq_true rfl) ?_
  intro p e s m args below meth cD Q hx hb hr hml hown hnm hlocks hts hv hQ ls hl
  obtain ⟨hFw, hv⟩ := hv
  obtain ⟨rfl, hP, hK, A, hAe, hD, hA, hS⟩ := rc_prep hv
  have hown : s.vm.findClass RX1 = some m.cls := hown
  have hl : lv_has ls 6 [(0, .ref h0), (1, .int (nI 1)), (2, .int kd)] := hl
  have loop : ∀ (qk n i : Nat), i + n = 16 → ∀ (H : Heap) (locs : List Loc) (ls : Array Slot), va_P G vwCl [(h0, .inr (0, [.ref a1, .ref b1, .ref c1])), (a1, .inl (cB, 32, .inl fk)), (b1, .inl (cB, 16, .inl fb)), (c1, .inl (cB, 16, .inl fo)), (qk, .inl (cB, 16, .inl (rc_cp fk (fun _ => 0) i)))] H → va_D A [(h0, .inr (0, [.ref a1, .ref b1, .ref c1])), (a1, .inl (cB, 32, .inl fk)), (b1, .inl (cB, 16, .inl fb)), (c1, .inl (cB, 16, .inl fo)), (qk, .inl (cB, 16, .inl (rc_cp fk (fun _ => 0) i)))] → va_S A s.heap H locs → lv_has ls 6 [(0, .ref h0), (1, .int (nI 1)), (3, .int (nI 16)), (4, .ref qk), (5, .int (nI i))] → W p l e rmX1_run s m args below meth cD H locs 1 16 Q (F0 m 15 ls []) := by
    intro qk n
    induction n with
    | zero =>
      intro i hn H locs ls hP hD hS hl
      obtain rfl : i = 16 := by omega
      refine lv_iload hx hb dX1_run_15 (lv_at hl 4 rfl) ?_
      refine lv_iload_n hx hb dX1_run_17 rfl (lv_at hl 2 rfl) ?_
      refine lv_icmp_ge (tgt := 39) hx hb dX1_run_18 (by decide) (fun hc => ?_) (fun hc => ?_)
      · obtain ⟨hP, hD⟩ := rc_ext hP hD 4 rfl fk (fun j hj => rc_cp_at fk _ hj)
        have hP : va_P G vwCl [(h0, .inr (0, [.ref a1, .ref b1, .ref c1])), (a1, .inl (cB, 32, .inl fk)), (b1, .inl (cB, 16, .inl fb)), (c1, .inl (cB, 16, .inl fo)), (qk, .inl (cB, 16, .inl fk))] H := hP
        have hD : va_D A [(h0, .inr (0, [.ref a1, .ref b1, .ref c1])), (a1, .inl (cB, 32, .inl fk)), (b1, .inl (cB, 16, .inl fb)), (c1, .inl (cB, 16, .inl fo)), (qk, .inl (cB, 16, .inl fk))] := hD
        refine va_new (ci := 1) (fs := [.int 0, .null, .int 0]) (C := RX2) (T := TX2) (N := 3) hx hb hts in_X2 tyX2 tyX2_ok hown (hts _ q59) (hts _ q60) (hts _ q11) hK hP hD hS hA rfl (fun j hj => by rcases (show j = 0 ∨ j = 1 ∨ j = 2 by omega) with rfl | rfl | rfl <;> rfl) (Nat.le_of_ble_eq_true rfl) (Nat.le_of_ble_eq_true rfl) dX1_run_39 (fun qe H hP hD hS => ?_)
        have hP : va_P G vwCl [(h0, .inr (0, [.ref a1, .ref b1, .ref c1])), (a1, .inl (cB, 32, .inl fk)), (b1, .inl (cB, 16, .inl fb)), (c1, .inl (cB, 16, .inl fo)), (qk, .inl (cB, 16, .inl fk)), (qe, .inr (1, [.int 0, .null, .int 0]))] H := hP
        have hD : va_D A [(h0, .inr (0, [.ref a1, .ref b1, .ref c1])), (a1, .inl (cB, 32, .inl fk)), (b1, .inl (cB, 16, .inl fb)), (c1, .inl (cB, 16, .inl fo)), (qk, .inl (cB, 16, .inl fk)), (qe, .inr (1, [.int 0, .null, .int 0]))] := hD
        refine lv_dup hx hb dX1_run_42 rfl ?_
        refine rc_callv (va_runI (As := []) (rest := [.ref qe]) ⟨hx, hb, hml, hown, hts⟩ (metX2_init l G cB cL H.size qe) (cwI 0 hts (lw_meth q63) rfl rfl rfl (hts _ q11) (hts _ q61) (hts _ q62) rfl (by decide +kernel) ⟨Nat.le_of_ble_eq_true rfl, Nat.le_of_ble_eq_true rfl⟩) (rc_WrS (hP.sub (ws' := [(qe, .inr (1, [.int 0, .null, .int 0]))]) [5] rfl) hK (hD.sub (ws' := [(qe, .inr (1, [.int 0, .null, .int 0]))]) [5] (by decide) rfl) (.ref qe :: [])) rfl rfl hl.1 rfl (lv_room (Nat.le_of_ble_eq_true rfl)) dX1_run_43 ⟨(Nat.le_of_ble_eq_true rfl), (Nat.le_of_ble_eq_true rfl)⟩) hP hD hS hA [5] [0, 1, 2, 3, 4] (wr := [(h0, .inr (0, [.ref a1, .ref b1, .ref c1])), (a1, .inl (cB, 32, .inl fk)), (b1, .inl (cB, 16, .inl fb)), (c1, .inl (cB, 16, .inl fo)), (qk, .inl (cB, 16, .inl fk))]) rfl rfl (by decide) (by decide) (fun w1 hw H locs hP hD hS => ?_)
        obtain rfl := hw
        have hP : va_P G vwCl [(h0, .inr (0, [.ref a1, .ref b1, .ref c1])), (a1, .inl (cB, 32, .inl fk)), (b1, .inl (cB, 16, .inl fb)), (c1, .inl (cB, 16, .inl fo)), (qk, .inl (cB, 16, .inl fk)), (qe, .inr (1, [.int (nI 12), .null, .int 0]))] H := hP
        have hD : va_D A [(h0, .inr (0, [.ref a1, .ref b1, .ref c1])), (a1, .inl (cB, 32, .inl fk)), (b1, .inl (cB, 16, .inl fb)), (c1, .inl (cB, 16, .inl fo)), (qk, .inl (cB, 16, .inl fk)), (qe, .inr (1, [.int (nI 12), .null, .int 0]))] := hD
        refine lv_astore (lv' := [(5, .ref qe), (0, .ref h0), (1, .int (nI 1)), (3, .int (nI 16)), (4, .ref qk)]) hx hb dX1_run_46 hl (by decide) rfl (fun ls hl => ?_)
        refine lv_aload hx hb dX1_run_48 (lv_at hl 0 rfl) ?_
        refine lv_iload_n hx hb dX1_run_50 rfl (lv_at hl 2 rfl) ?_
        refine va_new (ci := 2) (fs := [.null, .int 0]) (C := RX3) (T := TX3) (N := 2) hx hb hts in_X3 tyX3 tyX3_ok hown (hts _ q75) (hts _ q76) (hts _ q12) hK hP hD hS hA rfl (fun j hj => by rcases (show j = 0 ∨ j = 1 by omega) with rfl | rfl <;> rfl) (Nat.le_of_ble_eq_true rfl) (Nat.le_of_ble_eq_true rfl) dX1_run_51 (fun qp H hP hD hS => ?_)
        have hP : va_P G vwCl [(h0, .inr (0, [.ref a1, .ref b1, .ref c1])), (a1, .inl (cB, 32, .inl fk)), (b1, .inl (cB, 16, .inl fb)), (c1, .inl (cB, 16, .inl fo)), (qk, .inl (cB, 16, .inl fk)), (qe, .inr (1, [.int (nI 12), .null, .int 0])), (qp, .inr (2, [.null, .int 0]))] H := hP
        have hD : va_D A [(h0, .inr (0, [.ref a1, .ref b1, .ref c1])), (a1, .inl (cB, 32, .inl fk)), (b1, .inl (cB, 16, .inl fb)), (c1, .inl (cB, 16, .inl fo)), (qk, .inl (cB, 16, .inl fk)), (qe, .inr (1, [.int (nI 12), .null, .int 0])), (qp, .inr (2, [.null, .int 0]))] := hD
        refine lv_dup hx hb dX1_run_54 rfl ?_
        refine lv_aload hx hb dX1_run_55 (lv_at hl 4 rfl) ?_
        refine lv_bipush (v := nI 12) hx hb dX1_run_57 (by decide) ?_
        refine rc_callv (va_runI (As := [.ref qk, .int (nI 12)]) (rest := [.ref qp, .int (nI 1), .ref qe]) ⟨hx, hb, hml, hown, hts⟩ (metX3_init l G cB cL H.size qp qk fk hfk) (cwI 2 hts (lw_meth q79) rfl rfl rfl (hts _ q12) (hts _ q77) (hts _ q78) rfl (by decide +kernel) ⟨Nat.le_of_ble_eq_true rfl, Nat.le_of_ble_eq_true rfl⟩) (rc_WrS (hP.sub (ws' := [(qp, .inr (2, [.null, .int 0])), (qk, .inl (cB, 16, .inl fk))]) [6, 4] rfl) hK (hD.sub (ws' := [(qp, .inr (2, [.null, .int 0])), (qk, .inl (cB, 16, .inl fk))]) [6, 4] (by decide) rfl) (.ref qp :: [.ref qk, .int (nI 12)])) rfl rfl hl.1 rfl (lv_room (Nat.le_of_ble_eq_true rfl)) dX1_run_59 ⟨(Nat.le_of_ble_eq_true rfl), (Nat.le_of_ble_eq_true rfl)⟩) hP hD hS hA [6, 4] [0, 1, 2, 3, 5] (wr := [(h0, .inr (0, [.ref a1, .ref b1, .ref c1])), (a1, .inl (cB, 32, .inl fk)), (b1, .inl (cB, 16, .inl fb)), (c1, .inl (cB, 16, .inl fo)), (qe, .inr (1, [.int (nI 12), .null, .int 0]))]) rfl rfl (by decide) (by decide) (fun w1 hw H locs hP hD hS => ?_)
        obtain ⟨qc, rfl⟩ := hw
        have hP : va_P G vwCl [(h0, .inr (0, [.ref a1, .ref b1, .ref c1])), (a1, .inl (cB, 32, .inl fk)), (b1, .inl (cB, 16, .inl fb)), (c1, .inl (cB, 16, .inl fo)), (qe, .inr (1, [.int (nI 12), .null, .int 0])), (qp, .inr (2, [.ref qc, .int (nI 12)])), (qk, .inl (cB, 16, .inl fk)), (qc, .inl (cB, 16, .inl fk))] H := hP
        have hD : va_D A [(h0, .inr (0, [.ref a1, .ref b1, .ref c1])), (a1, .inl (cB, 32, .inl fk)), (b1, .inl (cB, 16, .inl fb)), (c1, .inl (cB, 16, .inl fo)), (qe, .inr (1, [.int (nI 12), .null, .int 0])), (qp, .inr (2, [.ref qc, .int (nI 12)])), (qk, .inl (cB, 16, .inl fk)), (qc, .inl (cB, 16, .inl fk))] := hD
        refine rc_callFv (va_runF (As := [.int (nI 1), .ref qp]) (rest := []) (hK.1 1 _ rfl).2 ⟨hx, hb, hml, hown, hts⟩ (metX2_init_2 l G cB cL H.size qe qp qc fk (nI 1) rfl rfl) (va_cwF 2 hts (rc_F q157 q161 q163 q11 q165) rfl rfl rfl hFw.1 (by decide +kernel) ⟨Nat.le_of_ble_eq_true rfl, Nat.le_of_ble_eq_true rfl⟩) (rc_WrV (va_recv hK hP (ci := 1) (q0 := 4) rfl rfl) (hP.sub (ws' := [(qe, .inr (1, [.int (nI 12), .null, .int 0])), (qp, .inr (2, [.ref qc, .int (nI 12)])), (qc, .inl (cB, 16, .inl fk))]) [4, 5, 7] rfl) hK (hD.sub (ws' := [(qe, .inr (1, [.int (nI 12), .null, .int 0])), (qp, .inr (2, [.ref qc, .int (nI 12)])), (qc, .inl (cB, 16, .inl fk))]) [4, 5, 7] (by decide) rfl) [.int (nI 1), .ref qp]) rfl rfl hl.1 rfl (lv_room (Nat.le_of_ble_eq_true rfl)) dX1_run_62 ⟨(Nat.le_of_ble_eq_true rfl), (Nat.le_of_ble_eq_true rfl)⟩) hP hD hS hA [4, 5, 7] [0, 1, 2, 3, 6] (wr := [(h0, .inr (0, [.ref a1, .ref b1, .ref c1])), (a1, .inl (cB, 32, .inl fk)), (b1, .inl (cB, 16, .inl fb)), (c1, .inl (cB, 16, .inl fo)), (qk, .inl (cB, 16, .inl fk))]) rfl rfl (by decide) (by decide) (fun w1 hw H locs hP hD hS => ?_)
        obtain ⟨qS, rfl⟩ := hw
        have hP : va_P G vwCl [(h0, .inr (0, [.ref a1, .ref b1, .ref c1])), (a1, .inl (cB, 32, .inl fk)), (b1, .inl (cB, 16, .inl fb)), (c1, .inl (cB, 16, .inl fo)), (qk, .inl (cB, 16, .inl fk)), (qe, .inr (1, [.int (nI 12), .ref qS, .int (nI 1)])), (qp, .inr (2, [.ref qc, .int (nI 12)])), (qc, .inl (cB, 16, .inl fk)), (qS, .inl (cL, 26, .inr (.inl (rc_K fk))))] H := hP
        have hD : va_D A [(h0, .inr (0, [.ref a1, .ref b1, .ref c1])), (a1, .inl (cB, 32, .inl fk)), (b1, .inl (cB, 16, .inl fb)), (c1, .inl (cB, 16, .inl fo)), (qk, .inl (cB, 16, .inl fk)), (qe, .inr (1, [.int (nI 12), .ref qS, .int (nI 1)])), (qp, .inr (2, [.ref qc, .int (nI 12)])), (qc, .inl (cB, 16, .inl fk)), (qS, .inl (cL, 26, .inr (.inl (rc_K fk))))] := hD
        refine lv_aload hx hb dX1_run_67 (lv_at hl 0 rfl) ?_
        refine lv_aload_n hx hb dX1_run_69 rfl (lv_at hl 1 rfl) ?_
        refine va_get (D := G) (ci := 0) (v := .ref b1) (C := RX1) (T := TX1) (N := 3) hx hb hts in_X1 hown hK hP 0 rfl rfl 1 (by decide) (hts _ q27) (fun _ h9 => h9) rfl dX1_run_70 ?_
        refine lv_iconst (v := nI 0) hx hb dX1_run_73 (by decide) ?_
        refine lv_aload_n hx hb dX1_run_74 rfl (lv_at hl 1 rfl) ?_
        refine va_get (D := G) (ci := 0) (v := .ref c1) (C := RX1) (T := TX1) (N := 3) hx hb hts in_X1 hown hK hP 0 rfl rfl 2 (by decide) (hts _ q28) (fun _ h9 => h9) rfl dX1_run_75 ?_
        refine lv_iconst (v := nI 0) hx hb dX1_run_78 (by decide) ?_
        refine rc_callFi (va_runF (As := [.ref b1, .int (nI 0), .ref c1, .int (nI 0)]) (rest := []) (hK.1 1 _ rfl).2 ⟨hx, hb, hml, hown, hts⟩ (metX2_processBlock_E l G cB cL H.size qe qS b1 c1 (rc_K fk) fb fo) (va_cwF 4 hts (rc_F q192 q195 q197 q11 q199) rfl rfl rfl hFw.2 (by decide +kernel) ⟨Nat.le_of_ble_eq_true rfl, Nat.le_of_ble_eq_true rfl⟩) (rc_WrV (va_recv hK hP (ci := 1) (q0 := 5) rfl rfl) (hP.sub (ws' := [(qe, .inr (1, [.int (nI 12), .ref qS, .int (nI 1)])), (qS, .inl (cL, 26, .inr (.inl (rc_K fk)))), (b1, .inl (cB, 16, .inl fb)), (c1, .inl (cB, 16, .inl fo))]) [5, 8, 2, 3] rfl) hK (hD.sub (ws' := [(qe, .inr (1, [.int (nI 12), .ref qS, .int (nI 1)])), (qS, .inl (cL, 26, .inr (.inl (rc_K fk)))), (b1, .inl (cB, 16, .inl fb)), (c1, .inl (cB, 16, .inl fo))]) [5, 8, 2, 3] (by decide) rfl) [.ref b1, .int (nI 0), .ref c1, .int (nI 0)]) rfl rfl hl.1 rfl (lv_room (Nat.le_of_ble_eq_true rfl)) dX1_run_79 ⟨(Nat.le_of_ble_eq_true rfl), (Nat.le_of_ble_eq_true rfl)⟩) hP hD hS hA [5, 8, 2, 3] [0, 1, 4, 6, 7] (wr := [(h0, .inr (0, [.ref a1, .ref b1, .ref c1])), (a1, .inl (cB, 32, .inl fk)), (qk, .inl (cB, 16, .inl fk)), (qp, .inr (2, [.ref qc, .int (nI 12)])), (qc, .inl (cB, 16, .inl fk))]) rfl rfl (by decide) (by decide) (fun r w1 hw H locs hP hD hS => ?_)
        obtain rfl := hw
        have hP : va_P G vwCl [(h0, .inr (0, [.ref a1, .ref b1, .ref c1])), (a1, .inl (cB, 32, .inl fk)), (qk, .inl (cB, 16, .inl fk)), (qp, .inr (2, [.ref qc, .int (nI 12)])), (qc, .inl (cB, 16, .inl fk)), (qe, .inr (1, [.int (nI 12), .ref qS, .int (nI 1)])), (qS, .inl (cL, 26, .inr (.inl (rc_K fk)))), (b1, .inl (cB, 16, .inl fb)), (c1, .inl (cB, 16, .inl (rc_E fk fb)))] H := hP
        have hD : va_D A [(h0, .inr (0, [.ref a1, .ref b1, .ref c1])), (a1, .inl (cB, 32, .inl fk)), (qk, .inl (cB, 16, .inl fk)), (qp, .inr (2, [.ref qc, .int (nI 12)])), (qc, .inl (cB, 16, .inl fk)), (qe, .inr (1, [.int (nI 12), .ref qS, .int (nI 1)])), (qS, .inl (cL, 26, .inr (.inl (rc_K fk)))), (b1, .inl (cB, 16, .inl fb)), (c1, .inl (cB, 16, .inl (rc_E fk fb)))] := hD
        refine lv_pop hx hb dX1_run_84 rfl ?_
        exact rc_vret hx hb hr hlocks hQ hAe [(h0, .inr (0, [.ref a1, .ref b1, .ref c1])), (a1, .inl (cB, 32, .inl fk)), (b1, .inl (cB, 16, .inl fb)), (c1, .inl (cB, 16, .inl (rc_E fk fb)))] (rfl) (hP.sub [0, 1, 7, 8] rfl) (hD.sub [0, 1, 7, 8] (by decide) rfl) hS (Nat.le_of_ble_eq_true rfl) (Nat.le_of_ble_eq_true rfl) dX1_run_85
      · exact absurd (by decide) hc
    | succ n ih =>
      intro i hn H locs ls hP hD hS hl
      refine lv_iload hx hb dX1_run_15 (lv_at hl 4 rfl) ?_
      refine lv_iload_n hx hb dX1_run_17 rfl (lv_at hl 2 rfl) ?_
      refine lv_icmp_ge (tgt := 39) hx hb dX1_run_18 (by decide) (fun hc => ?_) (fun hc => ?_)
      · exact absurd hc (nI_ge (b := 16) (by omega) (by decide))
      · refine lv_aload hx hb dX1_run_21 (lv_at hl 3 rfl) ?_
        refine lv_iload hx hb dX1_run_23 (lv_at hl 4 rfl) ?_
        refine lv_aload_n hx hb dX1_run_25 rfl (lv_at hl 0 rfl) ?_
        refine va_get (D := G) (ci := 0) (v := .ref a1) (C := RX1) (T := TX1) (N := 3) hx hb hts in_X1 hown hK hP 0 rfl rfl 0 (by decide) (hts _ q26) (fun _ h9 => h9) rfl dX1_run_26 ?_
        refine lv_iload hx hb dX1_run_29 (lv_at hl 4 rfl) ?_
        refine rc_bald hx hb hK hP 1 0 rfl rfl i rfl (by omega) (by decide) dX1_run_31 ?_
        refine rc_bast hx hb hK hP hD hS 4 0 rfl rfl i rfl (by omega) (by decide) (rc_cp fk (fun _ => 0) (i + 1)) ((congrArg (upd _ _) (rc_nar (hfk i))).trans (rc_cp_s fk _ i)) dX1_run_32 (fun H locs hP hD hS => ?_)
        have hP : va_P G vwCl [(h0, .inr (0, [.ref a1, .ref b1, .ref c1])), (a1, .inl (cB, 32, .inl fk)), (b1, .inl (cB, 16, .inl fb)), (c1, .inl (cB, 16, .inl fo)), (qk, .inl (cB, 16, .inl (rc_cp fk (fun _ => 0) (i + 1))))] H := hP
        have hD : va_D A [(h0, .inr (0, [.ref a1, .ref b1, .ref c1])), (a1, .inl (cB, 32, .inl fk)), (b1, .inl (cB, 16, .inl fb)), (c1, .inl (cB, 16, .inl fo)), (qk, .inl (cB, 16, .inl (rc_cp fk (fun _ => 0) (i + 1))))] := hD
        refine lv_iinc (v := nI (i + 1)) (lv' := [(5, .int (nI (i + 1))), (0, .ref h0), (1, .int (nI 1)), (3, .int (nI 16)), (4, .ref qk)]) hx hb dX1_run_33 hl (k := 4) rfl (nI_1 i) (by decide) rfl (fun ls hl => ?_)
        refine lv_goto (tgt := 15) hx hb dX1_run_36 (by decide) ?_
        exact ih (i + 1) (by omega) H locs ls hP hD hS (lv_sub hl [1, 2, 3, 4, 0] rfl)
  refine lv_iload_n hx hb dX1_run_0 rfl (lv_at hl 2 rfl) ?_
  refine lv_iconst (v := 3) hx hb dX1_run_1 (by decide) ?_
  refine lv_iand hx hb dX1_run_2 ?_
  refine vp_callSi (W.runS (As := [.int (kd &&& 3)]) (rest := []) ⟨hx, hb, hml, hown, hts⟩ (metX1_size l G cB cL (kd &&& 3)) (va_cwS 1 hts (lw_S q56 q57 q10 q58) rfl rfl rfl (by decide +kernel) ⟨Nat.le_of_ble_eq_true rfl, Nat.le_of_ble_eq_true rfl⟩) (rc_RdS (hP.sub (ws' := []) [] rfl) hK [.int (kd &&& 3)]) rfl rfl hl.1 rfl (lv_room (Nat.le_of_ble_eq_true rfl)) dX1_run_3 ⟨(Nat.le_of_ble_eq_true rfl), (Nat.le_of_ble_eq_true rfl)⟩) (fun r0 hr0 => ?_)
  subst hr0
  refine lv_istore_n (lv' := [(3, .int (nI 16)), (0, .ref h0), (1, .int (nI 1)), (2, .int kd)]) hx hb dX1_run_6 rfl hl (by decide) rfl (fun ls hl => ?_)
  refine lv_iload_n hx hb dX1_run_7 rfl (lv_at hl 0 rfl) ?_
  refine rc_newB hx hb (hts _ q36) hK hP hD hS hA 16 rfl (by decide) (Nat.le_of_ble_eq_true rfl) (Nat.le_of_ble_eq_true rfl) dX1_run_8 (fun qk H hP hD hS => ?_)
  have hP : va_P G vwCl [(h0, .inr (0, [.ref a1, .ref b1, .ref c1])), (a1, .inl (cB, 32, .inl fk)), (b1, .inl (cB, 16, .inl fb)), (c1, .inl (cB, 16, .inl fo)), (qk, .inl (cB, 16, .inl (fun _ => 0)))] H := hP
  have hD : va_D A [(h0, .inr (0, [.ref a1, .ref b1, .ref c1])), (a1, .inl (cB, 32, .inl fk)), (b1, .inl (cB, 16, .inl fb)), (c1, .inl (cB, 16, .inl fo)), (qk, .inl (cB, 16, .inl (fun _ => 0)))] := hD
  refine lv_astore (lv' := [(4, .ref qk), (3, .int (nI 16)), (0, .ref h0), (1, .int (nI 1)), (2, .int kd)]) hx hb dX1_run_10 hl (by decide) rfl (fun ls hl => ?_)
  refine lv_iconst (v := nI 0) hx hb dX1_run_12 (by decide) ?_
  refine lv_istore (lv' := [(5, .int (nI 0)), (4, .ref qk), (3, .int (nI 16)), (0, .ref h0), (1, .int (nI 1)), (2, .int kd)]) hx hb dX1_run_13 hl (by decide) rfl (fun ls hl => ?_)
  rw [rc_cp_0 fk (fun _ => 0)] at hP hD
  exact loop qk 16 0 rfl H [] ls hP hD hS (lv_sub hl [3, 4, 2, 1, 0] rfl)
set_option maxHeartbeats 4000000 in
set_option maxRecDepth 100000 in
/-- run: what is told is RC5 of the block -/
theorem metX1_run_D (l : Launch) (G : va_G) (cB cL : ClassId) (sz : Nat) (h0 a1 b1 c1 : Nat) (fk fb fo : Nat → Int32) (hfk : ∀ j, rc_B (fk j)) (kd : Int32) : Met l yX1_run (ws_ yX1_run cX1_run 6 none) rmX1_run (va_Pc [.ref h0, .int (nI 0), .int kd] (rc_Wx G vwCl [(h0, .inr (0, [.ref a1, .ref b1, .ref c1])), (a1, .inl (cB, 32, .inl fk)), (b1, .inl (cB, 16, .inl fb)), (c1, .inl (cB, 16, .inl fo))] [(cB, .byte), (cL, .long)] sz)) (rc_Qv G vwCl [(h0, .inr (0, [.ref a1, .ref b1, .ref c1])), (a1, .inl (cB, 32, .inl fk)), (b1, .inl (cB, 16, .inl fb)), (c1, .inl (cB, 16, .inl fo))] sz (fun w => w = [(h0, .inr (0, [.ref a1, .ref b1, .ref c1])), (a1, .inl (cB, 32, .inl fk)), (b1, .inl (cB, 16, .inl fb)), (c1, .inl (cB, 16, .inl (rc_D fk fb)))])) 6 65 (va_A [(h0, .inr (0, [.ref a1, .ref b1, .ref c1])), (a1, .inl (cB, 32, .inl fk)), (b1, .inl (cB, 16, .inl fb)), (c1, .inl (cB, 16, .inl fo))] sz) := by
  refine rc_start (by decide) (Nat.le_of_ble_eq_true rfl) ?_
  intro p e s m args below meth cD Q hx hb hr hml hown hnm hlocks hts hv hQ ls hl
  obtain ⟨hFw, hv⟩ := hv
  obtain ⟨rfl, hP, hK, A, hAe, hD, hA, hS⟩ := rc_prep hv
  have hown : s.vm.findClass RX1 = some m.cls := hown
  have hl : lv_has ls 6 [(0, .ref h0), (1, .int (nI 0)), (2, .int kd)] := hl
  have loop : ∀ (qk n i : Nat), i + n = 16 → ∀ (H : Heap) (locs : List Loc) (ls : Array Slot), va_P G vwCl [(h0, .inr (0, [.ref a1, .ref b1, .ref c1])), (a1, .inl (cB, 32, .inl fk)), (b1, .inl (cB, 16, .inl fb)), (c1, .inl (cB, 16, .inl fo)), (qk, .inl (cB, 16, .inl (rc_cp fk (fun _ => 0) i)))] H → va_D A [(h0, .inr (0, [.ref a1, .ref b1, .ref c1])), (a1, .inl (cB, 32, .inl fk)), (b1, .inl (cB, 16, .inl fb)), (c1, .inl (cB, 16, .inl fo)), (qk, .inl (cB, 16, .inl (rc_cp fk (fun _ => 0) i)))] → va_S A s.heap H locs → lv_has ls 6 [(0, .ref h0), (1, .int (nI 0)), (3, .int (nI 16)), (4, .ref qk), (5, .int (nI i))] → W p l e rmX1_run s m args below meth cD H locs 1 16 Q (F0 m 15 ls []) := by
    intro qk n
    induction n with
    | zero =>
      intro i hn H locs ls hP hD hS hl
      obtain rfl : i = 16 := by omega
      refine lv_iload hx hb dX1_run_15 (lv_at hl 4 rfl) ?_
      refine lv_iload_n hx hb dX1_run_17 rfl (lv_at hl 2 rfl) ?_
      refine lv_icmp_ge (tgt := 39) hx hb dX1_run_18 (by decide) (fun hc => ?_) (fun hc => ?_)
      · obtain ⟨hP, hD⟩ := rc_ext hP hD 4 rfl fk (fun j hj => rc_cp_at fk _ hj)
        have hP : va_P G vwCl [(h0, .inr (0, [.ref a1, .ref b1, .ref c1])), (a1, .inl (cB, 32, .inl fk)), (b1, .inl (cB, 16, .inl fb)), (c1, .inl (cB, 16, .inl fo)), (qk, .inl (cB, 16, .inl fk))] H := hP
        have hD : va_D A [(h0, .inr (0, [.ref a1, .ref b1, .ref c1])), (a1, .inl (cB, 32, .inl fk)), (b1, .inl (cB, 16, .inl fb)), (c1, .inl (cB, 16, .inl fo)), (qk, .inl (cB, 16, .inl fk))] := hD
        refine va_new (ci := 1) (fs := [.int 0, .null, .int 0]) (C := RX2) (T := TX2) (N := 3) hx hb hts in_X2 tyX2 tyX2_ok hown (hts _ q59) (hts _ q60) (hts _ q11) hK hP hD hS hA rfl (fun j hj => by rcases (show j = 0 ∨ j = 1 ∨ j = 2 by omega) with rfl | rfl | rfl <;> rfl) (Nat.le_of_ble_eq_true rfl) (Nat.le_of_ble_eq_true rfl) dX1_run_39 (fun qe H hP hD hS => ?_)
        have hP : va_P G vwCl [(h0, .inr (0, [.ref a1, .ref b1, .ref c1])), (a1, .inl (cB, 32, .inl fk)), (b1, .inl (cB, 16, .inl fb)), (c1, .inl (cB, 16, .inl fo)), (qk, .inl (cB, 16, .inl fk)), (qe, .inr (1, [.int 0, .null, .int 0]))] H := hP
        have hD : va_D A [(h0, .inr (0, [.ref a1, .ref b1, .ref c1])), (a1, .inl (cB, 32, .inl fk)), (b1, .inl (cB, 16, .inl fb)), (c1, .inl (cB, 16, .inl fo)), (qk, .inl (cB, 16, .inl fk)), (qe, .inr (1, [.int 0, .null, .int 0]))] := hD
        refine lv_dup hx hb dX1_run_42 rfl ?_
        refine rc_callv (va_runI (As := []) (rest := [.ref qe]) ⟨hx, hb, hml, hown, hts⟩ (metX2_init l G cB cL H.size qe) (cwI 0 hts (lw_meth q63) rfl rfl rfl (hts _ q11) (hts _ q61) (hts _ q62) rfl (by decide +kernel) ⟨Nat.le_of_ble_eq_true rfl, Nat.le_of_ble_eq_true rfl⟩) (rc_WrS (hP.sub (ws' := [(qe, .inr (1, [.int 0, .null, .int 0]))]) [5] rfl) hK (hD.sub (ws' := [(qe, .inr (1, [.int 0, .null, .int 0]))]) [5] (by decide) rfl) (.ref qe :: [])) rfl rfl hl.1 rfl (lv_room (Nat.le_of_ble_eq_true rfl)) dX1_run_43 ⟨(Nat.le_of_ble_eq_true rfl), (Nat.le_of_ble_eq_true rfl)⟩) hP hD hS hA [5] [0, 1, 2, 3, 4] (wr := [(h0, .inr (0, [.ref a1, .ref b1, .ref c1])), (a1, .inl (cB, 32, .inl fk)), (b1, .inl (cB, 16, .inl fb)), (c1, .inl (cB, 16, .inl fo)), (qk, .inl (cB, 16, .inl fk))]) rfl rfl (by decide) (by decide) (fun w1 hw H locs hP hD hS => ?_)
        obtain rfl := hw
        have hP : va_P G vwCl [(h0, .inr (0, [.ref a1, .ref b1, .ref c1])), (a1, .inl (cB, 32, .inl fk)), (b1, .inl (cB, 16, .inl fb)), (c1, .inl (cB, 16, .inl fo)), (qk, .inl (cB, 16, .inl fk)), (qe, .inr (1, [.int (nI 12), .null, .int 0]))] H := hP
        have hD : va_D A [(h0, .inr (0, [.ref a1, .ref b1, .ref c1])), (a1, .inl (cB, 32, .inl fk)), (b1, .inl (cB, 16, .inl fb)), (c1, .inl (cB, 16, .inl fo)), (qk, .inl (cB, 16, .inl fk)), (qe, .inr (1, [.int (nI 12), .null, .int 0]))] := hD
        refine lv_astore (lv' := [(5, .ref qe), (0, .ref h0), (1, .int (nI 0)), (3, .int (nI 16)), (4, .ref qk)]) hx hb dX1_run_46 hl (by decide) rfl (fun ls hl => ?_)
        refine lv_aload hx hb dX1_run_48 (lv_at hl 0 rfl) ?_
        refine lv_iload_n hx hb dX1_run_50 rfl (lv_at hl 2 rfl) ?_
        refine va_new (ci := 2) (fs := [.null, .int 0]) (C := RX3) (T := TX3) (N := 2) hx hb hts in_X3 tyX3 tyX3_ok hown (hts _ q75) (hts _ q76) (hts _ q12) hK hP hD hS hA rfl (fun j hj => by rcases (show j = 0 ∨ j = 1 by omega) with rfl | rfl <;> rfl) (Nat.le_of_ble_eq_true rfl) (Nat.le_of_ble_eq_true rfl) dX1_run_51 (fun qp H hP hD hS => ?_)
        have hP : va_P G vwCl [(h0, .inr (0, [.ref a1, .ref b1, .ref c1])), (a1, .inl (cB, 32, .inl fk)), (b1, .inl (cB, 16, .inl fb)), (c1, .inl (cB, 16, .inl fo)), (qk, .inl (cB, 16, .inl fk)), (qe, .inr (1, [.int (nI 12), .null, .int 0])), (qp, .inr (2, [.null, .int 0]))] H := hP
        have hD : va_D A [(h0, .inr (0, [.ref a1, .ref b1, .ref c1])), (a1, .inl (cB, 32, .inl fk)), (b1, .inl (cB, 16, .inl fb)), (c1, .inl (cB, 16, .inl fo)), (qk, .inl (cB, 16, .inl fk)), (qe, .inr (1, [.int (nI 12), .null, .int 0])), (qp, .inr (2, [.null, .int 0]))] := hD
        refine lv_dup hx hb dX1_run_54 rfl ?_
        refine lv_aload hx hb dX1_run_55 (lv_at hl 4 rfl) ?_
        refine lv_bipush (v := nI 12) hx hb dX1_run_57 (by decide) ?_
        refine rc_callv (va_runI (As := [.ref qk, .int (nI 12)]) (rest := [.ref qp, .int (nI 0), .ref qe]) ⟨hx, hb, hml, hown, hts⟩ (metX3_init l G cB cL H.size qp qk fk hfk) (cwI 2 hts (lw_meth q79) rfl rfl rfl (hts _ q12) (hts _ q77) (hts _ q78) rfl (by decide +kernel) ⟨Nat.le_of_ble_eq_true rfl, Nat.le_of_ble_eq_true rfl⟩) (rc_WrS (hP.sub (ws' := [(qp, .inr (2, [.null, .int 0])), (qk, .inl (cB, 16, .inl fk))]) [6, 4] rfl) hK (hD.sub (ws' := [(qp, .inr (2, [.null, .int 0])), (qk, .inl (cB, 16, .inl fk))]) [6, 4] (by decide) rfl) (.ref qp :: [.ref qk, .int (nI 12)])) rfl rfl hl.1 rfl (lv_room (Nat.le_of_ble_eq_true rfl)) dX1_run_59 ⟨(Nat.le_of_ble_eq_true rfl), (Nat.le_of_ble_eq_true rfl)⟩) hP hD hS hA [6, 4] [0, 1, 2, 3, 5] (wr := [(h0, .inr (0, [.ref a1, .ref b1, .ref c1])), (a1, .inl (cB, 32, .inl fk)), (b1, .inl (cB, 16, .inl fb)), (c1, .inl (cB, 16, .inl fo)), (qe, .inr (1, [.int (nI 12), .null, .int 0]))]) rfl rfl (by decide) (by decide) (fun w1 hw H locs hP hD hS => ?_)
        obtain ⟨qc, rfl⟩ := hw
        have hP : va_P G vwCl [(h0, .inr (0, [.ref a1, .ref b1, .ref c1])), (a1, .inl (cB, 32, .inl fk)), (b1, .inl (cB, 16, .inl fb)), (c1, .inl (cB, 16, .inl fo)), (qe, .inr (1, [.int (nI 12), .null, .int 0])), (qp, .inr (2, [.ref qc, .int (nI 12)])), (qk, .inl (cB, 16, .inl fk)), (qc, .inl (cB, 16, .inl fk))] H := hP
        have hD : va_D A [(h0, .inr (0, [.ref a1, .ref b1, .ref c1])), (a1, .inl (cB, 32, .inl fk)), (b1, .inl (cB, 16, .inl fb)), (c1, .inl (cB, 16, .inl fo)), (qe, .inr (1, [.int (nI 12), .null, .int 0])), (qp, .inr (2, [.ref qc, .int (nI 12)])), (qk, .inl (cB, 16, .inl fk)), (qc, .inl (cB, 16, .inl fk))] := hD
        refine rc_callFv (va_runF (As := [.int (nI 0), .ref qp]) (rest := []) (hK.1 1 _ rfl).2 ⟨hx, hb, hml, hown, hts⟩ (metX2_init_2 l G cB cL H.size qe qp qc fk (nI 0) rfl rfl) (va_cwF 2 hts (rc_F q157 q161 q163 q11 q165) rfl rfl rfl hFw.1 (by decide +kernel) ⟨Nat.le_of_ble_eq_true rfl, Nat.le_of_ble_eq_true rfl⟩) (rc_WrV (va_recv hK hP (ci := 1) (q0 := 4) rfl rfl) (hP.sub (ws' := [(qe, .inr (1, [.int (nI 12), .null, .int 0])), (qp, .inr (2, [.ref qc, .int (nI 12)])), (qc, .inl (cB, 16, .inl fk))]) [4, 5, 7] rfl) hK (hD.sub (ws' := [(qe, .inr (1, [.int (nI 12), .null, .int 0])), (qp, .inr (2, [.ref qc, .int (nI 12)])), (qc, .inl (cB, 16, .inl fk))]) [4, 5, 7] (by decide) rfl) [.int (nI 0), .ref qp]) rfl rfl hl.1 rfl (lv_room (Nat.le_of_ble_eq_true rfl)) dX1_run_62 ⟨(Nat.le_of_ble_eq_true rfl), (Nat.le_of_ble_eq_true rfl)⟩) hP hD hS hA [4, 5, 7] [0, 1, 2, 3, 6] (wr := [(h0, .inr (0, [.ref a1, .ref b1, .ref c1])), (a1, .inl (cB, 32, .inl fk)), (b1, .inl (cB, 16, .inl fb)), (c1, .inl (cB, 16, .inl fo)), (qk, .inl (cB, 16, .inl fk))]) rfl rfl (by decide) (by decide) (fun w1 hw H locs hP hD hS => ?_)
        obtain ⟨qS, rfl⟩ := hw
        have hP : va_P G vwCl [(h0, .inr (0, [.ref a1, .ref b1, .ref c1])), (a1, .inl (cB, 32, .inl fk)), (b1, .inl (cB, 16, .inl fb)), (c1, .inl (cB, 16, .inl fo)), (qk, .inl (cB, 16, .inl fk)), (qe, .inr (1, [.int (nI 12), .ref qS, .int (nI 0)])), (qp, .inr (2, [.ref qc, .int (nI 12)])), (qc, .inl (cB, 16, .inl fk)), (qS, .inl (cL, 26, .inr (.inl (rc_K fk))))] H := hP
        have hD : va_D A [(h0, .inr (0, [.ref a1, .ref b1, .ref c1])), (a1, .inl (cB, 32, .inl fk)), (b1, .inl (cB, 16, .inl fb)), (c1, .inl (cB, 16, .inl fo)), (qk, .inl (cB, 16, .inl fk)), (qe, .inr (1, [.int (nI 12), .ref qS, .int (nI 0)])), (qp, .inr (2, [.ref qc, .int (nI 12)])), (qc, .inl (cB, 16, .inl fk)), (qS, .inl (cL, 26, .inr (.inl (rc_K fk))))] := hD
        refine lv_aload hx hb dX1_run_67 (lv_at hl 0 rfl) ?_
        refine lv_aload_n hx hb dX1_run_69 rfl (lv_at hl 1 rfl) ?_
        refine va_get (D := G) (ci := 0) (v := .ref b1) (C := RX1) (T := TX1) (N := 3) hx hb hts in_X1 hown hK hP 0 rfl rfl 1 (by decide) (hts _ q27) (fun _ h9 => h9) rfl dX1_run_70 ?_
        refine lv_iconst (v := nI 0) hx hb dX1_run_73 (by decide) ?_
        refine lv_aload_n hx hb dX1_run_74 rfl (lv_at hl 1 rfl) ?_
        refine va_get (D := G) (ci := 0) (v := .ref c1) (C := RX1) (T := TX1) (N := 3) hx hb hts in_X1 hown hK hP 0 rfl rfl 2 (by decide) (hts _ q28) (fun _ h9 => h9) rfl dX1_run_75 ?_
        refine lv_iconst (v := nI 0) hx hb dX1_run_78 (by decide) ?_
        refine rc_callFi (va_runF (As := [.ref b1, .int (nI 0), .ref c1, .int (nI 0)]) (rest := []) (hK.1 1 _ rfl).2 ⟨hx, hb, hml, hown, hts⟩ (metX2_processBlock_D l G cB cL H.size qe qS b1 c1 (rc_K fk) fb fo) (va_cwF 4 hts (rc_F q192 q195 q197 q11 q199) rfl rfl rfl hFw.2 (by decide +kernel) ⟨Nat.le_of_ble_eq_true rfl, Nat.le_of_ble_eq_true rfl⟩) (rc_WrV (va_recv hK hP (ci := 1) (q0 := 5) rfl rfl) (hP.sub (ws' := [(qe, .inr (1, [.int (nI 12), .ref qS, .int (nI 0)])), (qS, .inl (cL, 26, .inr (.inl (rc_K fk)))), (b1, .inl (cB, 16, .inl fb)), (c1, .inl (cB, 16, .inl fo))]) [5, 8, 2, 3] rfl) hK (hD.sub (ws' := [(qe, .inr (1, [.int (nI 12), .ref qS, .int (nI 0)])), (qS, .inl (cL, 26, .inr (.inl (rc_K fk)))), (b1, .inl (cB, 16, .inl fb)), (c1, .inl (cB, 16, .inl fo))]) [5, 8, 2, 3] (by decide) rfl) [.ref b1, .int (nI 0), .ref c1, .int (nI 0)]) rfl rfl hl.1 rfl (lv_room (Nat.le_of_ble_eq_true rfl)) dX1_run_79 ⟨(Nat.le_of_ble_eq_true rfl), (Nat.le_of_ble_eq_true rfl)⟩) hP hD hS hA [5, 8, 2, 3] [0, 1, 4, 6, 7] (wr := [(h0, .inr (0, [.ref a1, .ref b1, .ref c1])), (a1, .inl (cB, 32, .inl fk)), (qk, .inl (cB, 16, .inl fk)), (qp, .inr (2, [.ref qc, .int (nI 12)])), (qc, .inl (cB, 16, .inl fk))]) rfl rfl (by decide) (by decide) (fun r w1 hw H locs hP hD hS => ?_)
        obtain rfl := hw
        have hP : va_P G vwCl [(h0, .inr (0, [.ref a1, .ref b1, .ref c1])), (a1, .inl (cB, 32, .inl fk)), (qk, .inl (cB, 16, .inl fk)), (qp, .inr (2, [.ref qc, .int (nI 12)])), (qc, .inl (cB, 16, .inl fk)), (qe, .inr (1, [.int (nI 12), .ref qS, .int (nI 0)])), (qS, .inl (cL, 26, .inr (.inl (rc_K fk)))), (b1, .inl (cB, 16, .inl fb)), (c1, .inl (cB, 16, .inl (rc_D fk fb)))] H := hP
        have hD : va_D A [(h0, .inr (0, [.ref a1, .ref b1, .ref c1])), (a1, .inl (cB, 32, .inl fk)), (qk, .inl (cB, 16, .inl fk)), (qp, .inr (2, [.ref qc, .int (nI 12)])), (qc, .inl (cB, 16, .inl fk)), (qe, .inr (1, [.int (nI 12), .ref qS, .int (nI 0)])), (qS, .inl (cL, 26, .inr (.inl (rc_K fk)))), (b1, .inl (cB, 16, .inl fb)), (c1, .inl (cB, 16, .inl (rc_D fk fb)))] := hD
        refine lv_pop hx hb dX1_run_84 rfl ?_
        exact rc_vret hx hb hr hlocks hQ hAe [(h0, .inr (0, [.ref a1, .ref b1, .ref c1])), (a1, .inl (cB, 32, .inl fk)), (b1, .inl (cB, 16, .inl fb)), (c1, .inl (cB, 16, .inl (rc_D fk fb)))] (rfl) (hP.sub [0, 1, 7, 8] rfl) (hD.sub [0, 1, 7, 8] (by decide) rfl) hS (Nat.le_of_ble_eq_true rfl) (Nat.le_of_ble_eq_true rfl) dX1_run_85
      · exact absurd (by decide) hc
    | succ n ih =>
      intro i hn H locs ls hP hD hS hl
      refine lv_iload hx hb dX1_run_15 (lv_at hl 4 rfl) ?_
      refine lv_iload_n hx hb dX1_run_17 rfl (lv_at hl 2 rfl) ?_
      refine lv_icmp_ge (tgt := 39) hx hb dX1_run_18 (by decide) (fun hc => ?_) (fun hc => ?_)
      · exact absurd hc (nI_ge (b := 16) (by omega) (by decide))
      · refine lv_aload hx hb dX1_run_21 (lv_at hl 3 rfl) ?_
        refine lv_iload hx hb dX1_run_23 (lv_at hl 4 rfl) ?_
        refine lv_aload_n hx hb dX1_run_25 rfl (lv_at hl 0 rfl) ?_
        refine va_get (D := G) (ci := 0) (v := .ref a1) (C := RX1) (T := TX1) (N := 3) hx hb hts in_X1 hown hK hP 0 rfl rfl 0 (by decide) (hts _ q26) (fun _ h9 => h9) rfl dX1_run_26 ?_
        refine lv_iload hx hb dX1_run_29 (lv_at hl 4 rfl) ?_
        refine rc_bald hx hb hK hP 1 0 rfl rfl i rfl (by omega) (by decide) dX1_run_31 ?_
        refine rc_bast hx hb hK hP hD hS 4 0 rfl rfl i rfl (by omega) (by decide) (rc_cp fk (fun _ => 0) (i + 1)) ((congrArg (upd _ _) (rc_nar (hfk i))).trans (rc_cp_s fk _ i)) dX1_run_32 (fun H locs hP hD hS => ?_)
        have hP : va_P G vwCl [(h0, .inr (0, [.ref a1, .ref b1, .ref c1])), (a1, .inl (cB, 32, .inl fk)), (b1, .inl (cB, 16, .inl fb)), (c1, .inl (cB, 16, .inl fo)), (qk, .inl (cB, 16, .inl (rc_cp fk (fun _ => 0) (i + 1))))] H := hP
        have hD : va_D A [(h0, .inr (0, [.ref a1, .ref b1, .ref c1])), (a1, .inl (cB, 32, .inl fk)), (b1, .inl (cB, 16, .inl fb)), (c1, .inl (cB, 16, .inl fo)), (qk, .inl (cB, 16, .inl (rc_cp fk (fun _ => 0) (i + 1))))] := hD
        refine lv_iinc (v := nI (i + 1)) (lv' := [(5, .int (nI (i + 1))), (0, .ref h0), (1, .int (nI 0)), (3, .int (nI 16)), (4, .ref qk)]) hx hb dX1_run_33 hl (k := 4) rfl (nI_1 i) (by decide) rfl (fun ls hl => ?_)
        refine lv_goto (tgt := 15) hx hb dX1_run_36 (by decide) ?_
        exact ih (i + 1) (by omega) H locs ls hP hD hS (lv_sub hl [1, 2, 3, 4, 0] rfl)
  refine lv_iload_n hx hb dX1_run_0 rfl (lv_at hl 2 rfl) ?_
  refine lv_iconst (v := 3) hx hb dX1_run_1 (by decide) ?_
  refine lv_iand hx hb dX1_run_2 ?_
  refine vp_callSi (W.runS (As := [.int (kd &&& 3)]) (rest := []) ⟨hx, hb, hml, hown, hts⟩ (metX1_size l G cB cL (kd &&& 3)) (va_cwS 1 hts (lw_S q56 q57 q10 q58) rfl rfl rfl (by decide +kernel) ⟨Nat.le_of_ble_eq_true rfl, Nat.le_of_ble_eq_true rfl⟩) (rc_RdS (hP.sub (ws' := []) [] rfl) hK [.int (kd &&& 3)]) rfl rfl hl.1 rfl (lv_room (Nat.le_of_ble_eq_true rfl)) dX1_run_3 ⟨(Nat.le_of_ble_eq_true rfl), (Nat.le_of_ble_eq_true rfl)⟩) (fun r0 hr0 => ?_)
  subst hr0
  refine lv_istore_n (lv' := [(3, .int (nI 16)), (0, .ref h0), (1, .int (nI 0)), (2, .int kd)]) hx hb dX1_run_6 rfl hl (by decide) rfl (fun ls hl => ?_)
  refine lv_iload_n hx hb dX1_run_7 rfl (lv_at hl 0 rfl) ?_
  refine rc_newB hx hb (hts _ q36) hK hP hD hS hA 16 rfl (by decide) (Nat.le_of_ble_eq_true rfl) (Nat.le_of_ble_eq_true rfl) dX1_run_8 (fun qk H hP hD hS => ?_)
  have hP : va_P G vwCl [(h0, .inr (0, [.ref a1, .ref b1, .ref c1])), (a1, .inl (cB, 32, .inl fk)), (b1, .inl (cB, 16, .inl fb)), (c1, .inl (cB, 16, .inl fo)), (qk, .inl (cB, 16, .inl (fun _ => 0)))] H := hP
  have hD : va_D A [(h0, .inr (0, [.ref a1, .ref b1, .ref c1])), (a1, .inl (cB, 32, .inl fk)), (b1, .inl (cB, 16, .inl fb)), (c1, .inl (cB, 16, .inl fo)), (qk, .inl (cB, 16, .inl (fun _ => 0)))] := hD
  refine lv_astore (lv' := [(4, .ref qk), (3, .int (nI 16)), (0, .ref h0), (1, .int (nI 0)), (2, .int kd)]) hx hb dX1_run_10 hl (by decide) rfl (fun ls hl => ?_)
  refine lv_iconst (v := nI 0) hx hb dX1_run_12 (by decide) ?_
  refine lv_istore (lv' := [(5, .int (nI 0)), (4, .ref qk), (3, .int (nI 16)), (0, .ref h0), (1, .int (nI 0)), (2, .int kd)]) hx hb dX1_run_13 hl (by decide) rfl (fun ls hl => ?_)
  rw [rc_cp_0 fk (fun _ => 0)] at hP hD
  exact loop qk 16 0 rfl H [] ls hP hD hS (lv_sub hl [3, 4, 2, 1, 0] rfl)
abbrev rmX1_lock : Room := { frames := 4, cells := 6, slots := 65, locals := 109 }
set_option maxHeartbeats 4000000 in
set_option maxRecDepth 100000 in
/-- the block is told under the key, locking -/
theorem metX1_lock (l : Launch) (G : va_G) (cB cL : ClassId) (sz : Nat) (h0 a1 b1 c1 : Nat) (fk fb fo : Nat → Int32) (hfk : ∀ j, rc_B (fk j)) (kd : Int32) : Met l yX1_lock (ws_ yX1_lock cX1_lock 2 none) rmX1_lock (va_Pc [.ref h0, .int kd] (rc_Wx G vwCl [(h0, .inr (0, [.ref a1, .ref b1, .ref c1])), (a1, .inl (cB, 32, .inl fk)), (b1, .inl (cB, 16, .inl fb)), (c1, .inl (cB, 16, .inl fo))] [(cB, .byte), (cL, .long)] sz)) (rc_Qv G vwCl [(h0, .inr (0, [.ref a1, .ref b1, .ref c1])), (a1, .inl (cB, 32, .inl fk)), (b1, .inl (cB, 16, .inl fb)), (c1, .inl (cB, 16, .inl fo))] sz (fun w => w = [(h0, .inr (0, [.ref a1, .ref b1, .ref c1])), (a1, .inl (cB, 32, .inl fk)), (b1, .inl (cB, 16, .inl fb)), (c1, .inl (cB, 16, .inl (rc_E fk fb)))])) 6 65 (va_A [(h0, .inr (0, [.ref a1, .ref b1, .ref c1])), (a1, .inl (cB, 32, .inl fk)), (b1, .inl (cB, 16, .inl fb)), (c1, .inl (cB, 16, .inl fo))] sz) := by
  refine rc_start (by decide) (Nat.le_of_ble_eq_true rfl) ?_
  intro p e s m args below meth cD Q hx hb hr hml hown hnm hlocks hts hv hQ ls hl
  obtain ⟨hFw, hv⟩ := hv
  obtain ⟨rfl, hP, hK, A, hAe, hD, hA, hS⟩ := rc_prep hv
  have hown : s.vm.findClass RX1 = some m.cls := hown
  have hl : lv_has ls 2 [(0, .ref h0), (1, .int kd)] := hl
  refine lv_aload_n hx hb dX1_lock_0 rfl (lv_at hl 0 rfl) ?_
  refine lv_iconst (v := nI 1) hx hb dX1_lock_1 (by decide) ?_
  refine lv_iload_n hx hb dX1_lock_2 rfl (lv_at hl 1 rfl) ?_
  refine rc_callv (va_runV (As := [.int (nI 1), .int kd]) (rest := []) ⟨hx, hb, hml, hown, hts⟩ (metX1_run_E l G cB cL s.heap.size h0 a1 b1 c1 fk fb fo hfk kd) (cwV 2 hts (lw_V q52 q54 qs0 q10 q55) rfl rfl rfl (by decide +kernel) ⟨Nat.le_of_ble_eq_true rfl, Nat.le_of_ble_eq_true rfl⟩) (rc_WxV hFw (va_recv hK hP (ci := 0) (q0 := 0) rfl rfl) (hP.sub (ws' := [(h0, .inr (0, [.ref a1, .ref b1, .ref c1])), (a1, .inl (cB, 32, .inl fk)), (b1, .inl (cB, 16, .inl fb)), (c1, .inl (cB, 16, .inl fo))]) [0, 1, 2, 3] rfl) hK (hD.sub (ws' := [(h0, .inr (0, [.ref a1, .ref b1, .ref c1])), (a1, .inl (cB, 32, .inl fk)), (b1, .inl (cB, 16, .inl fb)), (c1, .inl (cB, 16, .inl fo))]) [0, 1, 2, 3] (by decide) rfl) [.int (nI 1), .int kd]) rfl rfl hl.1 rfl (lv_room (Nat.le_of_ble_eq_true rfl)) dX1_lock_3 ⟨(Nat.le_of_ble_eq_true rfl), (Nat.le_of_ble_eq_true rfl)⟩) hP hD hS hA [0, 1, 2, 3] [] (wr := []) rfl rfl (by decide) (by decide) (fun w1 hw H locs hP hD hS => ?_)
  obtain rfl := hw
  have hP : va_P G vwCl [(h0, .inr (0, [.ref a1, .ref b1, .ref c1])), (a1, .inl (cB, 32, .inl fk)), (b1, .inl (cB, 16, .inl fb)), (c1, .inl (cB, 16, .inl (rc_E fk fb)))] H := hP
  have hD : va_D A [(h0, .inr (0, [.ref a1, .ref b1, .ref c1])), (a1, .inl (cB, 32, .inl fk)), (b1, .inl (cB, 16, .inl fb)), (c1, .inl (cB, 16, .inl (rc_E fk fb)))] := hD
  exact rc_vret hx hb hr hlocks hQ hAe [(h0, .inr (0, [.ref a1, .ref b1, .ref c1])), (a1, .inl (cB, 32, .inl fk)), (b1, .inl (cB, 16, .inl fb)), (c1, .inl (cB, 16, .inl (rc_E fk fb)))] (rfl) (hP.sub [0, 1, 2, 3] rfl) (hD.sub [0, 1, 2, 3] (by decide) rfl) hS (Nat.le_of_ble_eq_true rfl) (Nat.le_of_ble_eq_true rfl) dX1_lock_6
abbrev rmX1_open : Room := { frames := 4, cells := 6, slots := 65, locals := 109 }
set_option maxHeartbeats 4000000 in
set_option maxRecDepth 100000 in
/-- the block is told under the key, opening -/
theorem metX1_open (l : Launch) (G : va_G) (cB cL : ClassId) (sz : Nat) (h0 a1 b1 c1 : Nat) (fk fb fo : Nat → Int32) (hfk : ∀ j, rc_B (fk j)) (kd : Int32) : Met l yX1_open (ws_ yX1_open cX1_open 2 none) rmX1_open (va_Pc [.ref h0, .int kd] (rc_Wx G vwCl [(h0, .inr (0, [.ref a1, .ref b1, .ref c1])), (a1, .inl (cB, 32, .inl fk)), (b1, .inl (cB, 16, .inl fb)), (c1, .inl (cB, 16, .inl fo))] [(cB, .byte), (cL, .long)] sz)) (rc_Qv G vwCl [(h0, .inr (0, [.ref a1, .ref b1, .ref c1])), (a1, .inl (cB, 32, .inl fk)), (b1, .inl (cB, 16, .inl fb)), (c1, .inl (cB, 16, .inl fo))] sz (fun w => w = [(h0, .inr (0, [.ref a1, .ref b1, .ref c1])), (a1, .inl (cB, 32, .inl fk)), (b1, .inl (cB, 16, .inl fb)), (c1, .inl (cB, 16, .inl (rc_D fk fb)))])) 6 65 (va_A [(h0, .inr (0, [.ref a1, .ref b1, .ref c1])), (a1, .inl (cB, 32, .inl fk)), (b1, .inl (cB, 16, .inl fb)), (c1, .inl (cB, 16, .inl fo))] sz) := by
  refine rc_start (by decide) (Nat.le_of_ble_eq_true rfl) ?_
  intro p e s m args below meth cD Q hx hb hr hml hown hnm hlocks hts hv hQ ls hl
  obtain ⟨hFw, hv⟩ := hv
  obtain ⟨rfl, hP, hK, A, hAe, hD, hA, hS⟩ := rc_prep hv
  have hown : s.vm.findClass RX1 = some m.cls := hown
  have hl : lv_has ls 2 [(0, .ref h0), (1, .int kd)] := hl
  refine lv_aload_n hx hb dX1_open_0 rfl (lv_at hl 0 rfl) ?_
  refine lv_iconst (v := nI 0) hx hb dX1_open_1 (by decide) ?_
  refine lv_iload_n hx hb dX1_open_2 rfl (lv_at hl 1 rfl) ?_
  refine rc_callv (va_runV (As := [.int (nI 0), .int kd]) (rest := []) ⟨hx, hb, hml, hown, hts⟩ (metX1_run_D l G cB cL s.heap.size h0 a1 b1 c1 fk fb fo hfk kd) (cwV 2 hts (lw_V q52 q54 qs0 q10 q55) rfl rfl rfl (by decide +kernel) ⟨Nat.le_of_ble_eq_true rfl, Nat.le_of_ble_eq_true rfl⟩) (rc_WxV hFw (va_recv hK hP (ci := 0) (q0 := 0) rfl rfl) (hP.sub (ws' := [(h0, .inr (0, [.ref a1, .ref b1, .ref c1])), (a1, .inl (cB, 32, .inl fk)), (b1, .inl (cB, 16, .inl fb)), (c1, .inl (cB, 16, .inl fo))]) [0, 1, 2, 3] rfl) hK (hD.sub (ws' := [(h0, .inr (0, [.ref a1, .ref b1, .ref c1])), (a1, .inl (cB, 32, .inl fk)), (b1, .inl (cB, 16, .inl fb)), (c1, .inl (cB, 16, .inl fo))]) [0, 1, 2, 3] (by decide) rfl) [.int (nI 0), .int kd]) rfl rfl hl.1 rfl (lv_room (Nat.le_of_ble_eq_true rfl)) dX1_open_3 ⟨(Nat.le_of_ble_eq_true rfl), (Nat.le_of_ble_eq_true rfl)⟩) hP hD hS hA [0, 1, 2, 3] [] (wr := []) rfl rfl (by decide) (by decide) (fun w1 hw H locs hP hD hS => ?_)
  obtain rfl := hw
  have hP : va_P G vwCl [(h0, .inr (0, [.ref a1, .ref b1, .ref c1])), (a1, .inl (cB, 32, .inl fk)), (b1, .inl (cB, 16, .inl fb)), (c1, .inl (cB, 16, .inl (rc_D fk fb)))] H := hP
  have hD : va_D A [(h0, .inr (0, [.ref a1, .ref b1, .ref c1])), (a1, .inl (cB, 32, .inl fk)), (b1, .inl (cB, 16, .inl fb)), (c1, .inl (cB, 16, .inl (rc_D fk fb)))] := hD
  exact rc_vret hx hb hr hlocks hQ hAe [(h0, .inr (0, [.ref a1, .ref b1, .ref c1])), (a1, .inl (cB, 32, .inl fk)), (b1, .inl (cB, 16, .inl fb)), (c1, .inl (cB, 16, .inl (rc_D fk fb)))] (rfl) (hP.sub [0, 1, 2, 3] rfl) (hD.sub [0, 1, 2, 3] (by decide) rfl) hS (Nat.le_of_ble_eq_true rfl) (Nat.le_of_ble_eq_true rfl) dX1_open_6
abbrev rmX1_again : Room := { frames := 0, cells := 0, slots := 0, locals := 0 }
set_option maxHeartbeats 4000000 in
set_option maxRecDepth 100000 in
/-- again: what was told becomes the block -/
theorem metX1_again (l : Launch) (G : va_G) (cB cL : ClassId) (sz : Nat) (h0 a1 b1 c1 : Nat) (fb fo : Nat → Int32) (hfo : ∀ j, rc_B (fo j)) : Met l yX1_again (ws_ yX1_again cX1_again 2 none) rmX1_again (va_Pc [.ref h0] (rc_Wr G vwCl [(h0, .inr (0, [.ref a1, .ref b1, .ref c1])), (b1, .inl (cB, 16, .inl fb)), (c1, .inl (cB, 16, .inl fo))] [(cB, .byte), (cL, .long)] sz)) (rc_Qv G vwCl [(h0, .inr (0, [.ref a1, .ref b1, .ref c1])), (b1, .inl (cB, 16, .inl fb)), (c1, .inl (cB, 16, .inl fo))] sz (fun w => w = [(h0, .inr (0, [.ref a1, .ref b1, .ref c1])), (b1, .inl (cB, 16, .inl fo)), (c1, .inl (cB, 16, .inl fo))])) 0 0 (va_A [(h0, .inr (0, [.ref a1, .ref b1, .ref c1])), (b1, .inl (cB, 16, .inl fb)), (c1, .inl (cB, 16, .inl fo))] sz) := by
  refine rc_start (by decide) (Nat.le_of_ble_eq_true rfl) ?_
  intro p e s m args below meth cD Q hx hb hr hml hown hnm hlocks hts hv hQ ls hl
  obtain ⟨rfl, hP, hK, A, hAe, hD, hA, hS⟩ := rc_prep hv
  have hown : s.vm.findClass RX1 = some m.cls := hown
  have hl : lv_has ls 2 [(0, .ref h0)] := hl
  have loop : ∀ (n i : Nat), i + n = 16 → ∀ (H : Heap) (locs : List Loc) (ls : Array Slot), va_P G vwCl [(h0, .inr (0, [.ref a1, .ref b1, .ref c1])), (b1, .inl (cB, 16, .inl (rc_cp fo fb i))), (c1, .inl (cB, 16, .inl fo))] H → va_D A [(h0, .inr (0, [.ref a1, .ref b1, .ref c1])), (b1, .inl (cB, 16, .inl (rc_cp fo fb i))), (c1, .inl (cB, 16, .inl fo))] → va_S A s.heap H locs → lv_has ls 2 [(0, .ref h0), (1, .int (nI i))] → W p l e rmX1_again s m args below meth cD H locs 0 0 Q (F0 m 2 ls []) := by
    intro n
    induction n with
    | zero =>
      intro i hn H locs ls hP hD hS hl
      obtain rfl : i = 16 := by omega
      refine lv_iload_n hx hb dX1_again_2 rfl (lv_at hl 1 rfl) ?_
      refine lv_bipush (v := nI 16) hx hb dX1_again_3 (by decide) ?_
      refine lv_icmp_ge (tgt := 26) hx hb dX1_again_5 (by decide) (fun hc => ?_) (fun hc => ?_)
      · obtain ⟨hP, hD⟩ := rc_ext hP hD 1 rfl fo (fun j hj => rc_cp_at fo _ hj)
        have hP : va_P G vwCl [(h0, .inr (0, [.ref a1, .ref b1, .ref c1])), (b1, .inl (cB, 16, .inl fo)), (c1, .inl (cB, 16, .inl fo))] H := hP
        have hD : va_D A [(h0, .inr (0, [.ref a1, .ref b1, .ref c1])), (b1, .inl (cB, 16, .inl fo)), (c1, .inl (cB, 16, .inl fo))] := hD
        exact rc_vret hx hb hr hlocks hQ hAe [(h0, .inr (0, [.ref a1, .ref b1, .ref c1])), (b1, .inl (cB, 16, .inl fo)), (c1, .inl (cB, 16, .inl fo))] (rfl) (hP.sub [0, 1, 2] rfl) (hD.sub [0, 1, 2] (by decide) rfl) hS (Nat.le_of_ble_eq_true rfl) (Nat.le_of_ble_eq_true rfl) dX1_again_26
      · exact absurd (by decide) hc
    | succ n ih =>
      intro i hn H locs ls hP hD hS hl
      refine lv_iload_n hx hb dX1_again_2 rfl (lv_at hl 1 rfl) ?_
      refine lv_bipush (v := nI 16) hx hb dX1_again_3 (by decide) ?_
      refine lv_icmp_ge (tgt := 26) hx hb dX1_again_5 (by decide) (fun hc => ?_) (fun hc => ?_)
      · exact absurd hc (nI_ge (b := 16) (by omega) (by decide))
      · refine lv_aload_n hx hb dX1_again_8 rfl (lv_at hl 0 rfl) ?_
        refine va_get (D := G) (ci := 0) (v := .ref b1) (C := RX1) (T := TX1) (N := 3) hx hb hts in_X1 hown hK hP 0 rfl rfl 1 (by decide) (hts _ q27) (fun _ h9 => h9) rfl dX1_again_9 ?_
        refine lv_iload_n hx hb dX1_again_12 rfl (lv_at hl 1 rfl) ?_
        refine lv_aload_n hx hb dX1_again_13 rfl (lv_at hl 0 rfl) ?_
        refine va_get (D := G) (ci := 0) (v := .ref c1) (C := RX1) (T := TX1) (N := 3) hx hb hts in_X1 hown hK hP 0 rfl rfl 2 (by decide) (hts _ q28) (fun _ h9 => h9) rfl dX1_again_14 ?_
        refine lv_iload_n hx hb dX1_again_17 rfl (lv_at hl 1 rfl) ?_
        refine rc_bald hx hb hK hP 2 0 rfl rfl i rfl (by omega) (by decide) dX1_again_18 ?_
        refine rc_bast hx hb hK hP hD hS 1 0 rfl rfl i rfl (by omega) (by decide) (rc_cp fo fb (i + 1)) ((congrArg (upd _ _) (rc_nar (hfo i))).trans (rc_cp_s fo _ i)) dX1_again_19 (fun H locs hP hD hS => ?_)
        have hP : va_P G vwCl [(h0, .inr (0, [.ref a1, .ref b1, .ref c1])), (b1, .inl (cB, 16, .inl (rc_cp fo fb (i + 1)))), (c1, .inl (cB, 16, .inl fo))] H := hP
        have hD : va_D A [(h0, .inr (0, [.ref a1, .ref b1, .ref c1])), (b1, .inl (cB, 16, .inl (rc_cp fo fb (i + 1)))), (c1, .inl (cB, 16, .inl fo))] := hD
        refine lv_iinc (v := nI (i + 1)) (lv' := [(1, .int (nI (i + 1))), (0, .ref h0)]) hx hb dX1_again_20 hl (k := 1) rfl (nI_1 i) (by decide) rfl (fun ls hl => ?_)
        refine lv_goto (tgt := 2) hx hb dX1_again_23 (by decide) ?_
        exact ih (i + 1) (by omega) H locs ls hP hD hS (lv_sub hl [1, 0] rfl)
  refine lv_iconst (v := nI 0) hx hb dX1_again_0 (by decide) ?_
  refine lv_istore_n (lv' := [(1, .int (nI 0)), (0, .ref h0)]) hx hb dX1_again_1 rfl hl (by decide) rfl (fun ls hl => ?_)
  rw [rc_cp_0 fo fb] at hP hD
  exact loop 16 0 rfl s.heap [] ls hP hD hS (lv_sub hl [1, 0] rfl)
abbrev rmX1_out : Room := { frames := 0, cells := 0, slots := 0, locals := 0 }
set_option maxHeartbeats 4000000 in
set_option maxRecDepth 100000 in
theorem metX1_out (l : Launch) (G : va_G) (cB cL : ClassId) (h0 a1 b1 c1 : Nat) (fo : Nat → Int32) (x : Int32) : Met l yX1_out (ws_ yX1_out cX1_out 2 (some .int)) rmX1_out (va_Pc [.ref h0, .int x] (rc_Rd G vwCl [(h0, .inr (0, [.ref a1, .ref b1, .ref c1])), (c1, .inl (cB, 16, .inl fo))] [(cB, .byte), (cL, .long)])) (vp_Si (fun r => r = fo (x.toBitVec.toNat % 16) &&& 255)) 0 0 (fun _ => False) := by
  refine rc_start (by decide) (Nat.le_of_ble_eq_true rfl) ?_
  intro p e s m args below meth cD Q hx hb hr hml hown hnm hlocks hts hv hQ ls hl
  obtain ⟨hP, hK⟩ := hv
  have hown : s.vm.findClass RX1 = some m.cls := hown
  have hl : lv_has ls 2 [(0, .ref h0), (1, .int x)] := hl
  refine lv_aload_n hx hb dX1_out_0 rfl (lv_at hl 0 rfl) ?_
  refine va_get (D := G) (ci := 0) (v := .ref c1) (C := RX1) (T := TX1) (N := 3) hx hb hts in_X1 hown hK hP 0 rfl rfl 2 (by decide) (hts _ q28) (fun _ h9 => h9) rfl dX1_out_1 ?_
  refine lv_iload_n hx hb dX1_out_4 rfl (lv_at hl 1 rfl) ?_
  refine lv_bipush (v := 15) hx hb dX1_out_5 (by decide) ?_
  refine lv_iand hx hb dX1_out_7 ?_
  refine rc_bald hx hb hK hP 1 0 rfl rfl (x.toBitVec.toNat % 16) (pk_and x 4 (by decide)) (Nat.mod_lt _ (by decide)) (by decide) dX1_out_8 ?_
  refine lv_sipush (v := 255) hx hb dX1_out_9 (by decide) ?_
  refine lv_iand hx hb dX1_out_12 ?_
  exact rc_siret hx hb hr hlocks hQ (rfl) dX1_out_13
end
section
abbrev rmX0_cell : Room := { frames := 0, cells := 0, slots := 0, locals := 0 }
set_option maxHeartbeats 4000000 in
set_option maxRecDepth 100000 in
theorem metX0_cell (l : Launch) (G : va_G) (cB cL : ClassId) (b k : Nat) (hk : k < 2 ^ 31) (Ln : Nat) (hL : Ln < 2 ^ 31) (xs : Nat → Int32) : Met l yX0_cell (ws_ yX0_cell cX0_cell 2 (some .int)) rmX0_cell (va_Pc [.ref b, .int (nI k)] (rc_Rx b Ln xs)) (vp_Si (fun r => r = rc_cx Ln xs k)) 0 0 (fun _ => False) := by
  refine rc_start (by decide) (Nat.le_of_ble_eq_true rfl) ?_
  intro p e s m args below meth cD Q hx hb hr hml hown hnm hlocks hts hv hQ ls hl
  have hX : va_X b Ln xs s s.heap := hv
  have hown : s.vm.findClass RX0 = some m.cls := hown
  have hl : lv_has ls 2 [(0, .ref b), (1, .int (nI k))] := hl
  refine lv_iload_n hx hb dX0_cell_0 rfl (lv_at hl 1 rfl) ?_
  refine lv_aload_n hx hb dX0_cell_1 rfl (lv_at hl 0 rfl) ?_
  refine va_slen hx hb hX (rc_Xlt hX) (A := fun _ => False) (fun h => h) va_S.rf dX0_cell_2 ?_
  refine lv_icmp_ge (tgt := 12) hx hb dX0_cell_3 (by decide) (fun hc => ?_) (fun hc => ?_)
  · refine lv_iconst (v := nI 0) hx hb dX0_cell_12 (by decide) ?_
    exact rc_siret hx hb hr hlocks hQ ((if_neg (Nat.not_lt.mpr ((nI_leI hL hk).mp hc))).symm) dX0_cell_13
  · have hlt : k < Ln := Nat.lt_of_not_le (fun h => hc ((nI_leI hL hk).mpr h))
    refine lv_aload_n hx hb dX0_cell_6 rfl (lv_at hl 0 rfl) ?_
    refine lv_iload_n hx hb dX0_cell_7 rfl (lv_at hl 1 rfl) ?_
    refine va_sld hx hb hX (rc_Xlt hX) (A := fun _ => False) (fun h => h) va_S.rf (vp_in_nI hlt hL) dX0_cell_8 ?_
    refine lv_goto (tgt := 13) hx hb dX0_cell_9 (by decide) ?_
    exact rc_siret hx hb hr hlocks hQ (by show xs (nI k).toNatClampNeg = rc_cx Ln xs k; rw [nI_clamp hk]; exact (if_pos hlt).symm) dX0_cell_13
abbrev rmX0_some : Room := { frames := 0, cells := 0, slots := 0, locals := 0 }
set_option maxHeartbeats 4000000 in
set_option maxRecDepth 100000 in
theorem metX0_some (l : Launch) (G : va_G) (cB cL : ClassId) (v n : Int32) (hn : ¬ n = 0) : Met l yX0_some (ws_ yX0_some cX0_some 2 (some .int)) rmX0_some (va_Pc [.int v, .int n] (rc_Rd G vwCl [] [(cB, .byte), (cL, .long)])) (vp_Si (fun _ => True)) 0 0 (fun _ => False) := by
  refine rc_start (by decide) (Nat.le_of_ble_eq_true rfl) ?_
  intro p e s m args below meth cD Q hx hb hr hml hown hnm hlocks hts hv hQ ls hl
  obtain ⟨hP, hK⟩ := hv
  have hown : s.vm.findClass RX0 = some m.cls := hown
  have hl : lv_has ls 2 [(0, .int v), (1, .int n)] := hl
  refine lv_iload_n hx hb dX0_some_0 rfl (lv_at hl 0 rfl) ?_
  refine lv_ldc hx hb hown (hts _ q235) dX0_some_1 ?_
  refine lv_iand hx hb dX0_some_3 ?_
  refine lv_iload_n hx hb dX0_some_4 rfl (lv_at hl 1 rfl) ?_
  refine lv_irem hx hb dX0_some_5 hn ?_
  exact rc_siret hx hb hr hlocks hQ (trivial) dX0_some_6
abbrev rmX0_lay : Room := { frames := 0, cells := 0, slots := 0, locals := 0 }
set_option maxHeartbeats 4000000 in
set_option maxRecDepth 100000 in
theorem metX0_lay (l : Launch) (G : va_G) (cB cL : ClassId) (sz : Nat) (ha n : Nat) (f : Nat → Int32) (o : Nat) (v : Int32) (ho : o + 4 ≤ n) (hn : n < 2 ^ 31) : Met l yX0_lay (ws_ yX0_lay cX0_lay 3 none) rmX0_lay (va_Pc [.ref ha, .int (nI o), .int v] (rc_Wr G vwCl [(ha, .inl (cB, n, .inl f))] [(cB, .byte), (cL, .long)] sz)) (rc_Qv G vwCl [(ha, .inl (cB, n, .inl f))] sz (fun w => w = [(ha, .inl (cB, n, .inl (rc_lay f o v)))])) 0 0 (va_A [(ha, .inl (cB, n, .inl f))] sz) := by
  refine rc_start (by decide) (Nat.le_of_ble_eq_true rfl) ?_
  intro p e s m args below meth cD Q hx hb hr hml hown hnm hlocks hts hv hQ ls hl
  obtain ⟨rfl, hP, hK, A, hAe, hD, hA, hS⟩ := rc_prep hv
  have hown : s.vm.findClass RX0 = some m.cls := hown
  have hl : lv_has ls 3 [(0, .ref ha), (1, .int (nI o)), (2, .int v)] := hl
  refine lv_aload_n hx hb dX0_lay_0 rfl (lv_at hl 0 rfl) ?_
  refine lv_iload_n hx hb dX0_lay_1 rfl (lv_at hl 1 rfl) ?_
  refine lv_iload_n hx hb dX0_lay_2 rfl (lv_at hl 2 rfl) ?_
  refine lv_bipush (v := nI 24) hx hb dX0_lay_3 (by decide) ?_
  refine lv_ishr hx hb dX0_lay_5 ?_
  refine lv_i2b (v := ((v >>> ((nI 24) &&& 31))).toInt8.toInt32) hx hb dX0_lay_6 rfl ?_
  refine rc_bast hx hb hK hP hD hS 0 0 rfl rfl o rfl (by omega) hn (upd f (o) ((rc_by v 24))) (congrArg (upd f (o)) (rc_nar (rc_B_i8 _))) dX0_lay_7 (fun H locs hP hD hS => ?_)
  have hP : va_P G vwCl [(ha, .inl (cB, n, .inl (upd f (o) ((rc_by v 24)))))] H := hP
  have hD : va_D A [(ha, .inl (cB, n, .inl (upd f (o) ((rc_by v 24)))))] := hD
  refine lv_aload_n hx hb dX0_lay_8 rfl (lv_at hl 0 rfl) ?_
  refine lv_iload_n hx hb dX0_lay_9 rfl (lv_at hl 1 rfl) ?_
  refine lv_iconst (v := nI 1) hx hb dX0_lay_10 (by decide) ?_
  refine lv_iadd hx hb dX0_lay_11 ?_
  refine lv_iload_n hx hb dX0_lay_12 rfl (lv_at hl 2 rfl) ?_
  refine lv_bipush (v := nI 16) hx hb dX0_lay_13 (by decide) ?_
  refine lv_ishr hx hb dX0_lay_15 ?_
  refine lv_i2b (v := ((v >>> ((nI 16) &&& 31))).toInt8.toInt32) hx hb dX0_lay_16 rfl ?_
  refine rc_bast hx hb hK hP hD hS 0 0 rfl rfl (o + 1) (nI_add _ _) (by omega) hn (upd (upd f (o) ((rc_by v 24))) (o + 1) ((rc_by v 16))) (congrArg (upd (upd f (o) ((rc_by v 24))) (o + 1)) (rc_nar (rc_B_i8 _))) dX0_lay_17 (fun H locs hP hD hS => ?_)
  have hP : va_P G vwCl [(ha, .inl (cB, n, .inl (upd (upd f (o) ((rc_by v 24))) (o + 1) ((rc_by v 16)))))] H := hP
  have hD : va_D A [(ha, .inl (cB, n, .inl (upd (upd f (o) ((rc_by v 24))) (o + 1) ((rc_by v 16)))))] := hD
  refine lv_aload_n hx hb dX0_lay_18 rfl (lv_at hl 0 rfl) ?_
  refine lv_iload_n hx hb dX0_lay_19 rfl (lv_at hl 1 rfl) ?_
  refine lv_iconst (v := nI 2) hx hb dX0_lay_20 (by decide) ?_
  refine lv_iadd hx hb dX0_lay_21 ?_
  refine lv_iload_n hx hb dX0_lay_22 rfl (lv_at hl 2 rfl) ?_
  refine lv_bipush (v := nI 8) hx hb dX0_lay_23 (by decide) ?_
  refine lv_ishr hx hb dX0_lay_25 ?_
  refine lv_i2b (v := ((v >>> ((nI 8) &&& 31))).toInt8.toInt32) hx hb dX0_lay_26 rfl ?_
  refine rc_bast hx hb hK hP hD hS 0 0 rfl rfl (o + 2) (nI_add _ _) (by omega) hn (upd (upd (upd f (o) ((rc_by v 24))) (o + 1) ((rc_by v 16))) (o + 2) ((rc_by v 8))) (congrArg (upd (upd (upd f (o) ((rc_by v 24))) (o + 1) ((rc_by v 16))) (o + 2)) (rc_nar (rc_B_i8 _))) dX0_lay_27 (fun H locs hP hD hS => ?_)
  have hP : va_P G vwCl [(ha, .inl (cB, n, .inl (upd (upd (upd f (o) ((rc_by v 24))) (o + 1) ((rc_by v 16))) (o + 2) ((rc_by v 8)))))] H := hP
  have hD : va_D A [(ha, .inl (cB, n, .inl (upd (upd (upd f (o) ((rc_by v 24))) (o + 1) ((rc_by v 16))) (o + 2) ((rc_by v 8)))))] := hD
  refine lv_aload_n hx hb dX0_lay_28 rfl (lv_at hl 0 rfl) ?_
  refine lv_iload_n hx hb dX0_lay_29 rfl (lv_at hl 1 rfl) ?_
  refine lv_iconst (v := nI 3) hx hb dX0_lay_30 (by decide) ?_
  refine lv_iadd hx hb dX0_lay_31 ?_
  refine lv_iload_n hx hb dX0_lay_32 rfl (lv_at hl 2 rfl) ?_
  refine lv_i2b (v := (v).toInt8.toInt32) hx hb dX0_lay_33 rfl ?_
  refine rc_bast hx hb hK hP hD hS 0 0 rfl rfl (o + 3) (nI_add _ _) (by omega) hn (upd (upd (upd (upd f (o) ((rc_by v 24))) (o + 1) ((rc_by v 16))) (o + 2) ((rc_by v 8))) (o + 3) (v.toInt8.toInt32)) (congrArg (upd (upd (upd (upd f (o) ((rc_by v 24))) (o + 1) ((rc_by v 16))) (o + 2) ((rc_by v 8))) (o + 3)) (rc_nar (rc_B_i8 _))) dX0_lay_34 (fun H locs hP hD hS => ?_)
  have hP : va_P G vwCl [(ha, .inl (cB, n, .inl (upd (upd (upd (upd f (o) ((rc_by v 24))) (o + 1) ((rc_by v 16))) (o + 2) ((rc_by v 8))) (o + 3) (v.toInt8.toInt32))))] H := hP
  have hD : va_D A [(ha, .inl (cB, n, .inl (upd (upd (upd (upd f (o) ((rc_by v 24))) (o + 1) ((rc_by v 16))) (o + 2) ((rc_by v 8))) (o + 3) (v.toInt8.toInt32))))] := hD
  exact rc_vret hx hb hr hlocks hQ hAe [(ha, .inl (cB, n, .inl (upd (upd (upd (upd f (o) ((rc_by v 24))) (o + 1) ((rc_by v 16))) (o + 2) ((rc_by v 8))) (o + 3) (v.toInt8.toInt32))))] (rfl) (hP.sub [0] rfl) (hD.sub [0] (by decide) rfl) hS (Nat.le_of_ble_eq_true rfl) (Nat.le_of_ble_eq_true rfl) dX0_lay_35
abbrev rmX0_word : Room := { frames := 0, cells := 0, slots := 0, locals := 0 }
set_option maxHeartbeats 4000000 in
set_option maxRecDepth 100000 in
theorem metX0_word (l : Launch) (G : va_G) (cB cL : ClassId) (ha n : Nat) (f : Nat → Int32) (o : Nat) (ho : o + 8 ≤ n) (hn : n < 2 ^ 31) : Met l yX0_word (ws_ yX0_word cX0_word 5 (some .long)) rmX0_word (va_Pc [.ref ha, .int (nI o)] (rc_Rd G vwCl [(ha, .inl (cB, n, .inl f))] [(cB, .byte), (cL, .long)])) (vp_Sl (fun r => r = rc_wd f o)) 0 0 (fun _ => False) := by
  refine rc_start (by decide) (Nat.le_of_ble_eq_true rfl) ?_
  intro p e s m args below meth cD Q hx hb hr hml hown hnm hlocks hts hv hQ ls hl
  obtain ⟨hP, hK⟩ := hv
  have hown : s.vm.findClass RX0 = some m.cls := hown
  have hl : lv_has ls 5 [(0, .ref ha), (1, .int (nI o))] := hl
  have loop : ∀ (i k : Nat), k + i = 8 → ∀ ls : Array Slot, lv_has ls 5 [(0, .ref ha), (1, .int (nI o)), (2, .long (lN (rc_w f o k))), (4, .int (nI k))] → W p l e rmX0_word s m args below meth cD s.heap [] 0 0 Q (F0 m 5 ls []) := by
    intro i
    induction i with
    | zero =>
      intro k hk ls hl
      obtain rfl : k = 8 := by omega
      refine lv_iload hx hb dX0_word_5 (lv_at hl 3 rfl) ?_
      refine lv_bipush (v := nI 8) hx hb dX0_word_7 (by decide) ?_
      refine lv_icmp_ge (tgt := 38) hx hb dX0_word_9 (by decide) (fun hc => ?_) (fun hc => ?_)
      · refine lv_lload_n hx hb dX0_word_38 rfl (lv_at hl 2 rfl) ?_
        exact rc_slret hx hb hr hlocks hQ (rfl) dX0_word_39
      · exact absurd (by decide) hc
    | succ i ih =>
      intro k hk ls hl
      refine lv_iload hx hb dX0_word_5 (lv_at hl 3 rfl) ?_
      refine lv_bipush (v := nI 8) hx hb dX0_word_7 (by decide) ?_
      refine lv_icmp_ge (tgt := 38) hx hb dX0_word_9 (by decide) (fun hc => ?_) (fun hc => ?_)
      · exact absurd hc (nI_ge (b := 8) (by omega) (by decide))
      · refine lv_lload_n hx hb dX0_word_12 rfl (lv_at hl 2 rfl) ?_
        refine lv_aload_n hx hb dX0_word_13 rfl (lv_at hl 0 rfl) ?_
        refine lv_iload_n hx hb dX0_word_14 rfl (lv_at hl 1 rfl) ?_
        refine lv_iload hx hb dX0_word_15 (lv_at hl 3 rfl) ?_
        refine lv_iadd hx hb dX0_word_17 ?_
        refine rc_bald hx hb hK hP 0 0 rfl rfl (o + k) (nI_add _ _) (by omega) hn dX0_word_18 ?_
        refine lv_i2l (v := ((f (o + k))).toInt64) hx hb dX0_word_19 rfl ?_
        refine lv_ldc2 hx hb hown (hts _ q248) dX0_word_20 ?_
        refine lv_land hx hb dX0_word_23 ?_
        refine rc_tl (lN (rc_b (f (o + k)))) (rc_bL _) ?_
        refine lv_bipush (v := nI 8) hx hb dX0_word_24 (by decide) ?_
        refine lv_iload hx hb dX0_word_26 (lv_at hl 3 rfl) ?_
        refine lv_imul hx hb dX0_word_28 ?_
        refine rc_ti (nI (8 * k)) (pk_mul _ _) ?_
        refine lv_lshl (v := ((lN (rc_b (f (o + k)))) <<< (((nI (8 * k))).toInt64 &&& 63))) hx hb dX0_word_29 rfl ?_
        refine lv_lor hx hb dX0_word_30 ?_
        refine rc_tl (lN (rc_w f o (k + 1))) (rc_wl (by omega)) ?_
        refine lv_lstore_n (lv' := [(2, .long (lN (rc_w f o (k + 1)))), (0, .ref ha), (1, .int (nI o)), (4, .int (nI k))]) hx hb dX0_word_31 rfl hl (by decide) rfl (fun ls hl => ?_)
        refine lv_iinc (v := nI (k + 1)) (lv' := [(4, .int (nI (k + 1))), (2, .long (lN (rc_w f o (k + 1)))), (0, .ref ha), (1, .int (nI o))]) hx hb dX0_word_32 hl (k := 3) rfl (nI_1 k) (by decide) rfl (fun ls hl => ?_)
        refine lv_goto (tgt := 5) hx hb dX0_word_35 (by decide) ?_
        exact ih (k + 1) (by omega) ls (lv_sub hl [2, 3, 1, 0] rfl)
  refine lv_lconst (v := 0) hx hb dX0_word_0 (by decide) ?_
  refine lv_lstore_n (lv' := [(2, .long 0), (0, .ref ha), (1, .int (nI o))]) hx hb dX0_word_1 rfl hl (by decide) rfl (fun ls hl => ?_)
  refine lv_iconst (v := nI 0) hx hb dX0_word_2 (by decide) ?_
  refine lv_istore (lv' := [(4, .int (nI 0)), (2, .long 0), (0, .ref ha), (1, .int (nI o))]) hx hb dX0_word_3 hl (by decide) rfl (fun ls hl => ?_)
  exact loop 8 0 rfl ls (lv_sub hl [2, 3, 1, 0] rfl)
abbrev rmX0_put : Room := { frames := 0, cells := 0, slots := 0, locals := 0 }
set_option maxHeartbeats 4000000 in
set_option maxRecDepth 100000 in
theorem metX0_put (l : Launch) (G : va_G) (cB cL : ClassId) (sz : Nat) (ha : Nat) (f : Nat → Int32) (o : Nat) (v : Int64) (ho : o + 8 ≤ 16) : Met l yX0_put (ws_ yX0_put cX0_put 5 none) rmX0_put (va_Pc [.ref ha, .int (nI o), .long v] (rc_Wr G vwCl [(ha, .inl (cB, 16, .inl f))] [(cB, .byte), (cL, .long)] sz)) (rc_Qv G vwCl [(ha, .inl (cB, 16, .inl f))] sz (fun w => w = [(ha, .inl (cB, 16, .inl (rc_pf f o v 8)))])) 0 0 (va_A [(ha, .inl (cB, 16, .inl f))] sz) := by
  refine rc_start (by decide) (Nat.le_of_ble_eq_true rfl) ?_
  intro p e s m args below meth cD Q hx hb hr hml hown hnm hlocks hts hv hQ ls hl
  obtain ⟨rfl, hP, hK, A, hAe, hD, hA, hS⟩ := rc_prep hv
  have hown : s.vm.findClass RX0 = some m.cls := hown
  have hl : lv_has ls 5 [(0, .ref ha), (1, .int (nI o)), (2, .long v)] := hl
  have loop : ∀ (n k : Nat), k + n = 8 → ∀ (H : Heap) (locs : List Loc) (ls : Array Slot), va_P G vwCl [(ha, .inl (cB, 16, .inl (rc_pf f o v k)))] H → va_D A [(ha, .inl (cB, 16, .inl (rc_pf f o v k)))] → va_S A s.heap H locs → lv_has ls 5 [(0, .ref ha), (1, .int (nI o)), (2, .long v), (4, .int (nI k))] → W p l e rmX0_put s m args below meth cD H locs 0 0 Q (F0 m 3 ls []) := by
    intro n
    induction n with
    | zero =>
      intro k hk H locs ls hP hD hS hl
      obtain rfl : k = 8 := by omega
      refine lv_iload hx hb dX0_put_3 (lv_at hl 3 rfl) ?_
      refine lv_bipush (v := nI 8) hx hb dX0_put_5 (by decide) ?_
      refine lv_icmp_ge (tgt := 31) hx hb dX0_put_7 (by decide) (fun hc => ?_) (fun hc => ?_)
      · exact rc_vret hx hb hr hlocks hQ hAe [(ha, .inl (cB, 16, .inl (rc_pf f o v 8)))] (rfl) (hP.sub [0] rfl) (hD.sub [0] (by decide) rfl) hS (Nat.le_of_ble_eq_true rfl) (Nat.le_of_ble_eq_true rfl) dX0_put_31
      · exact absurd (by decide) hc
    | succ n ih =>
      intro k hk H locs ls hP hD hS hl
      refine lv_iload hx hb dX0_put_3 (lv_at hl 3 rfl) ?_
      refine lv_bipush (v := nI 8) hx hb dX0_put_5 (by decide) ?_
      refine lv_icmp_ge (tgt := 31) hx hb dX0_put_7 (by decide) (fun hc => ?_) (fun hc => ?_)
      · exact absurd hc (nI_ge (b := 8) (by omega) (by decide))
      · refine lv_aload_n hx hb dX0_put_10 rfl (lv_at hl 0 rfl) ?_
        refine lv_iload_n hx hb dX0_put_11 rfl (lv_at hl 1 rfl) ?_
        refine lv_iload hx hb dX0_put_12 (lv_at hl 3 rfl) ?_
        refine lv_iadd hx hb dX0_put_14 ?_
        refine lv_lload_n hx hb dX0_put_15 rfl (lv_at hl 2 rfl) ?_
        refine lv_bipush (v := nI 8) hx hb dX0_put_16 (by decide) ?_
        refine lv_iload hx hb dX0_put_18 (lv_at hl 3 rfl) ?_
        refine lv_imul hx hb dX0_put_20 ?_
        refine rc_ti (nI (8 * k)) (pk_mul _ _) ?_
        refine lv_lushr (v := ((v).toUInt64 >>> (((nI (8 * k))).toInt64.toUInt64 &&& Int64.toUInt64 63)).toInt64) hx hb dX0_put_21 rfl ?_
        refine rc_tl (lN (v.toBitVec.toNat / 256 ^ k)) (rc_pl v (by omega)) ?_
        refine lv_l2i (v := ((lN (v.toBitVec.toNat / 256 ^ k))).toInt32) hx hb dX0_put_22 rfl ?_
        refine lv_i2b (v := ((((lN (v.toBitVec.toNat / 256 ^ k))).toInt32)).toInt8.toInt32) hx hb dX0_put_23 rfl ?_
        refine rc_bast hx hb hK hP hD hS 0 0 rfl rfl (o + k) (nI_add _ _) (by omega) (by decide) (rc_pf f o v (k + 1)) ((congrArg (upd _ _) (rc_nar (rc_B_bo v k))).trans (rc_pf_s f o v k)) dX0_put_24 (fun H locs hP hD hS => ?_)
        have hP : va_P G vwCl [(ha, .inl (cB, 16, .inl (rc_pf f o v (k + 1))))] H := hP
        have hD : va_D A [(ha, .inl (cB, 16, .inl (rc_pf f o v (k + 1))))] := hD
        refine lv_iinc (v := nI (k + 1)) (lv' := [(4, .int (nI (k + 1))), (0, .ref ha), (1, .int (nI o)), (2, .long v)]) hx hb dX0_put_25 hl (k := 3) rfl (nI_1 k) (by decide) rfl (fun ls hl => ?_)
        refine lv_goto (tgt := 3) hx hb dX0_put_28 (by decide) ?_
        exact ih (k + 1) (by omega) H locs ls hP hD hS (lv_sub hl [1, 2, 3, 0] rfl)
  refine lv_iconst (v := nI 0) hx hb dX0_put_0 (by decide) ?_
  refine lv_istore (lv' := [(4, .int (nI 0)), (0, .ref ha), (1, .int (nI o)), (2, .long v)]) hx hb dX0_put_1 hl (by decide) rfl (fun ls hl => ?_)
  rw [← rc_pf_0 f o v] at hP hD
  exact loop 8 0 rfl s.heap [] ls hP hD hS (lv_sub hl [1, 2, 3, 0] rfl)
abbrev rmX0_left : Room := { frames := 0, cells := 0, slots := 0, locals := 0 }
set_option maxHeartbeats 4000000 in
set_option maxRecDepth 100000 in
theorem metX0_left (l : Launch) (G : va_G) (cB cL : ClassId) (x y : Int64) : Met l yX0_left (ws_ yX0_left cX0_left 4 (some .long)) rmX0_left (va_Pc [.long x, .long y] (rc_Rd G vwCl [] [(cB, .byte), (cL, .long)])) (vp_Sl (fun r => r = rc_ro x y)) 0 0 (fun _ => False) := by
  refine rc_start (by decide) (Nat.le_of_ble_eq_true rfl) ?_
  intro p e s m args below meth cD Q hx hb hr hml hown hnm hlocks hts hv hQ ls hl
  obtain ⟨hP, hK⟩ := hv
  have hown : s.vm.findClass RX0 = some m.cls := hown
  have hl : lv_has ls 4 [(0, .long x), (2, .long y)] := hl
  refine lv_lload_n hx hb dX0_left_0 rfl (lv_at hl 0 rfl) ?_
  refine lv_lload_n hx hb dX0_left_1 rfl (lv_at hl 1 rfl) ?_
  refine lv_ldc2 hx hb hown (hts _ q255) dX0_left_2 ?_
  refine lv_land hx hb dX0_left_5 ?_
  refine lv_l2i (v := ((y &&& 63)).toInt32) hx hb dX0_left_6 rfl ?_
  refine lv_lshl (v := (x <<< (((((y &&& 63)).toInt32)).toInt64 &&& 63))) hx hb dX0_left_7 rfl ?_
  refine lv_lload_n hx hb dX0_left_8 rfl (lv_at hl 0 rfl) ?_
  refine lv_ldc2 hx hb hown (hts _ q256) dX0_left_9 ?_
  refine lv_lload_n hx hb dX0_left_12 rfl (lv_at hl 1 rfl) ?_
  refine lv_lsub hx hb dX0_left_13 ?_
  refine lv_ldc2 hx hb hown (hts _ q255) dX0_left_14 ?_
  refine lv_land hx hb dX0_left_17 ?_
  refine lv_l2i (v := (((64 - y) &&& 63)).toInt32) hx hb dX0_left_18 rfl ?_
  refine lv_lushr (v := ((x).toUInt64 >>> ((((((64 - y) &&& 63)).toInt32)).toInt64.toUInt64 &&& Int64.toUInt64 63)).toInt64) hx hb dX0_left_19 rfl ?_
  refine lv_lor hx hb dX0_left_20 ?_
  exact rc_slret hx hb hr hlocks hQ (rc_lL x y) dX0_left_21
abbrev rmX0_keys : Room := { frames := 1, cells := 2, slots := 28, locals := 24 }
set_option maxHeartbeats 4000000 in
set_option maxRecDepth 100000 in
/-- keys: the expanded key -/
theorem metX0_keys (l : Launch) (G : va_G) (cB cL : ClassId) (sz : Nat) (hk : Nat) (f : Nat → Int32) : Met l yX0_keys (ws_ yX0_keys cX0_keys 8 (some (.array .long))) rmX0_keys (va_Pc [.ref hk] (rc_Wr G vwCl [(hk, .inl (cB, 32, .inl f))] [(cB, .byte), (cL, .long)] sz)) (rc_Qr G vwCl [(hk, .inl (cB, 32, .inl f))] sz (fun q w => w = [(hk, .inl (cB, 32, .inl f)), (q, .inl (cL, 26, .inr (.inl (rc_K f))))])) 2 28 (va_A [(hk, .inl (cB, 32, .inl f))] sz) := by
  refine rc_start (by decide) (Nat.le_of_ble_eq_true rfl) ?_
  intro p e s m args below meth cD Q hx hb hr hml hown hnm hlocks hts hv hQ ls hl
  obtain ⟨rfl, hP, hK, A, hAe, hD, hA, hS⟩ := rc_prep hv
  have hown : s.vm.findClass RX0 = some m.cls := hown
  have hl : lv_has ls 8 [(0, .ref hk)] := hl
  have loop3 : ∀ (qL qS n k : Nat), k + n = 78 → ∀ (S Lf : Nat → Int64) (a b : Int64), rc_k f k = (S, Lf, a, b) → ∀ (H : Heap) (locs : List Loc) (ls : Array Slot), va_P G vwCl [(hk, .inl (cB, 32, .inl f)), (qS, .inl (cL, 26, .inr (.inl S))), (qL, .inl (cL, 2, .inr (.inl Lf)))] H → va_D A [(hk, .inl (cB, 32, .inl f)), (qS, .inl (cL, 26, .inr (.inl S))), (qL, .inl (cL, 2, .inr (.inl Lf)))] → va_S A s.heap H locs → lv_has ls 8 [(1, .ref qS), (2, .ref qL), (3, .long a), (5, .long b), (7, .int (nI k))] → W p l e rmX0_keys s m args below meth cD H locs 2 28 Q (F0 m 70 ls []) := by
    intro qL qS n
    induction n with
    | zero =>
      intro k hn S Lf a b hst H locs ls hP hD hS hl
      obtain rfl : k = 78 := by omega
      obtain rfl := rc_K_of hst
      refine lv_iload hx hb dX0_keys_70 (lv_at hl 4 rfl) ?_
      refine lv_bipush (v := nI 78) hx hb dX0_keys_72 (by decide) ?_
      refine lv_icmp_ge (tgt := 138) hx hb dX0_keys_74 (by decide) (fun hc => ?_) (fun hc => ?_)
      · refine lv_aload_n hx hb dX0_keys_138 rfl (lv_at hl 0 rfl) ?_
        exact rc_aret hx hb hr hlocks hQ hAe [(hk, .inl (cB, 32, .inl f)), (qS, .inl (cL, 26, .inr (.inl (rc_K f))))] (rfl) (hP.sub [0, 1] rfl) (hD.sub [0, 1] (by decide) rfl) hS (Nat.le_of_ble_eq_true rfl) (Nat.le_of_ble_eq_true rfl) dX0_keys_139
      · exact absurd (by decide) hc
    | succ n ih =>
      intro k hn S Lf a b hst H locs ls hP hD hS hl
      have h26 : k % 26 < 26 := Nat.mod_lt _ (by decide)
      have h2 : k % 2 < 2 := Nat.mod_lt _ (by decide)
      refine lv_iload hx hb dX0_keys_70 (lv_at hl 4 rfl) ?_
      refine lv_bipush (v := nI 78) hx hb dX0_keys_72 (by decide) ?_
      refine lv_icmp_ge (tgt := 138) hx hb dX0_keys_74 (by decide) (fun hc => ?_) (fun hc => ?_)
      · exact absurd hc (nI_ge (b := 78) (by omega) (by decide))
      · refine lv_aload_n hx hb dX0_keys_77 rfl (lv_at hl 0 rfl) ?_
        refine lv_iload hx hb dX0_keys_78 (lv_at hl 4 rfl) ?_
        refine lv_bipush (v := nI 26) hx hb dX0_keys_80 (by decide) ?_
        refine lv_irem hx hb dX0_keys_82 (by decide) ?_
        refine rc_ti (nI (k % 26)) (pk_rem (by omega) (by decide) (by decide)) ?_
        refine rc_lald hx hb hK hP 1 1 rfl rfl (k % 26) rfl h26 (by decide) dX0_keys_83 ?_
        refine lv_lload_n hx hb dX0_keys_84 rfl (lv_at hl 2 rfl) ?_
        refine lv_ladd hx hb dX0_keys_85 ?_
        refine lv_lload hx hb dX0_keys_86 (lv_at hl 3 rfl) ?_
        refine lv_ladd hx hb dX0_keys_88 ?_
        refine lv_ldc2 hx hb hown (hts _ q251) dX0_keys_89 ?_
        refine vp_callSl (W.runS (As := [.long (((S (k % 26)) + a) + b), .long 3]) (rest := []) ⟨hx, hb, hml, hown, hts⟩ (metX0_left l G cB cL (S (k % 26) + a + b) (3)) (va_cwS 2 hts (lw_S q252 q253 q9 q254) rfl rfl rfl (by decide +kernel) ⟨Nat.le_of_ble_eq_true rfl, Nat.le_of_ble_eq_true rfl⟩) (rc_RdS (hP.sub (ws' := []) [] rfl) hK [.long (((S (k % 26)) + a) + b), .long 3]) rfl rfl hl.1 rfl (lv_room (Nat.le_of_ble_eq_true rfl)) dX0_keys_92 ⟨(Nat.le_of_ble_eq_true rfl), (Nat.le_of_ble_eq_true rfl)⟩) (fun a1 ha1 => ?_)
        refine lv_lstore_n (lv' := [(3, .long a1), (1, .ref qS), (2, .ref qL), (5, .long b), (7, .int (nI k))]) hx hb dX0_keys_95 rfl hl (by decide) rfl (fun ls hl => ?_)
        refine lv_aload_n hx hb dX0_keys_96 rfl (lv_at hl 1 rfl) ?_
        refine lv_iload hx hb dX0_keys_97 (lv_at hl 4 rfl) ?_
        refine lv_bipush (v := nI 26) hx hb dX0_keys_99 (by decide) ?_
        refine lv_irem hx hb dX0_keys_101 (by decide) ?_
        refine rc_ti (nI (k % 26)) (pk_rem (by omega) (by decide) (by decide)) ?_
        refine lv_lload_n hx hb dX0_keys_102 rfl (lv_at hl 0 rfl) ?_
        refine rc_last hx hb hK hP hD hS 1 1 rfl rfl (k % 26) rfl h26 (by decide) (vp_updL S (k % 26) a1) rfl dX0_keys_103 (fun H locs hP hD hS => ?_)
        have hP : va_P G vwCl [(hk, .inl (cB, 32, .inl f)), (qS, .inl (cL, 26, .inr (.inl (vp_updL S (k % 26) a1)))), (qL, .inl (cL, 2, .inr (.inl Lf)))] H := hP
        have hD : va_D A [(hk, .inl (cB, 32, .inl f)), (qS, .inl (cL, 26, .inr (.inl (vp_updL S (k % 26) a1)))), (qL, .inl (cL, 2, .inr (.inl Lf)))] := hD
        refine lv_aload_n hx hb dX0_keys_104 rfl (lv_at hl 2 rfl) ?_
        refine lv_iload hx hb dX0_keys_105 (lv_at hl 4 rfl) ?_
        refine lv_iconst (v := nI 2) hx hb dX0_keys_107 (by decide) ?_
        refine lv_irem hx hb dX0_keys_108 (by decide) ?_
        refine rc_ti (nI (k % 2)) (pk_rem (by omega) (by decide) (by decide)) ?_
        refine rc_lald hx hb hK hP 2 1 rfl rfl (k % 2) rfl h2 (by decide) dX0_keys_109 ?_
        refine lv_lload_n hx hb dX0_keys_110 rfl (lv_at hl 0 rfl) ?_
        refine lv_ladd hx hb dX0_keys_111 ?_
        refine lv_lload hx hb dX0_keys_112 (lv_at hl 3 rfl) ?_
        refine lv_ladd hx hb dX0_keys_114 ?_
        refine lv_lload_n hx hb dX0_keys_115 rfl (lv_at hl 0 rfl) ?_
        refine lv_lload hx hb dX0_keys_116 (lv_at hl 3 rfl) ?_
        refine lv_ladd hx hb dX0_keys_118 ?_
        refine vp_callSl (W.runS (As := [.long (((Lf (k % 2)) + a1) + b), .long (a1 + b)]) (rest := []) ⟨hx, hb, hml, hown, hts⟩ (metX0_left l G cB cL (Lf (k % 2) + a1 + b) (a1 + b)) (va_cwS 2 hts (lw_S q252 q253 q9 q254) rfl rfl rfl (by decide +kernel) ⟨Nat.le_of_ble_eq_true rfl, Nat.le_of_ble_eq_true rfl⟩) (rc_RdS (hP.sub (ws' := []) [] rfl) hK [.long (((Lf (k % 2)) + a1) + b), .long (a1 + b)]) rfl rfl hl.1 rfl (lv_room (Nat.le_of_ble_eq_true rfl)) dX0_keys_119 ⟨(Nat.le_of_ble_eq_true rfl), (Nat.le_of_ble_eq_true rfl)⟩) (fun b1 hb1 => ?_)
        refine lv_lstore (lv' := [(5, .long b1), (3, .long a1), (1, .ref qS), (2, .ref qL), (7, .int (nI k))]) hx hb dX0_keys_122 hl (by decide) rfl (fun ls hl => ?_)
        refine lv_aload_n hx hb dX0_keys_124 rfl (lv_at hl 3 rfl) ?_
        refine lv_iload hx hb dX0_keys_125 (lv_at hl 4 rfl) ?_
        refine lv_iconst (v := nI 2) hx hb dX0_keys_127 (by decide) ?_
        refine lv_irem hx hb dX0_keys_128 (by decide) ?_
        refine rc_ti (nI (k % 2)) (pk_rem (by omega) (by decide) (by decide)) ?_
        refine lv_lload hx hb dX0_keys_129 (lv_at hl 0 rfl) ?_
        refine rc_last hx hb hK hP hD hS 2 1 rfl rfl (k % 2) rfl h2 (by decide) (vp_updL Lf (k % 2) b1) rfl dX0_keys_131 (fun H locs hP hD hS => ?_)
        have hP : va_P G vwCl [(hk, .inl (cB, 32, .inl f)), (qS, .inl (cL, 26, .inr (.inl (vp_updL S (k % 26) a1)))), (qL, .inl (cL, 2, .inr (.inl (vp_updL Lf (k % 2) b1))))] H := hP
        have hD : va_D A [(hk, .inl (cB, 32, .inl f)), (qS, .inl (cL, 26, .inr (.inl (vp_updL S (k % 26) a1)))), (qL, .inl (cL, 2, .inr (.inl (vp_updL Lf (k % 2) b1))))] := hD
        refine lv_iinc (v := nI (k + 1)) (lv' := [(7, .int (nI (k + 1))), (5, .long b1), (3, .long a1), (1, .ref qS), (2, .ref qL)]) hx hb dX0_keys_132 hl (k := 4) rfl (nI_1 k) (by decide) rfl (fun ls hl => ?_)
        refine lv_goto (tgt := 70) hx hb dX0_keys_135 (by decide) ?_
        exact ih (k + 1) (by omega) _ _ a1 b1 (rc_k_s hst ha1 hb1) H locs ls hP hD hS (lv_sub hl [3, 4, 2, 1, 0] rfl)
  have loop2 : ∀ (qL qS n k : Nat), k + 1 + n = 26 → ∀ (H : Heap) (locs : List Loc) (ls : Array Slot), va_P G vwCl [(hk, .inl (cB, 32, .inl f)), (qS, .inl (cL, 26, .inr (.inl (rc_s0 (k + 1))))), (qL, .inl (cL, 2, .inr (.inl (rc_l f 16))))] H → va_D A [(hk, .inl (cB, 32, .inl f)), (qS, .inl (cL, 26, .inr (.inl (rc_s0 (k + 1))))), (qL, .inl (cL, 2, .inr (.inl (rc_l f 16))))] → va_S A s.heap H locs → lv_has ls 8 [(1, .ref qS), (2, .ref qL), (3, .long 0), (5, .long 0), (7, .int (nI (k + 1)))] → W p l e rmX0_keys s m args below meth cD H locs 2 28 Q (F0 m 40 ls []) := by
    intro qL qS n
    induction n with
    | zero =>
      intro k hn H locs ls hP hD hS hl
      obtain rfl : k = 25 := by omega
      refine lv_iload hx hb dX0_keys_40 (lv_at hl 4 rfl) ?_
      refine lv_bipush (v := nI 26) hx hb dX0_keys_42 (by decide) ?_
      refine lv_icmp_ge (tgt := 67) hx hb dX0_keys_44 (by decide) (fun hc => ?_) (fun hc => ?_)
      · refine lv_iconst (v := nI 0) hx hb dX0_keys_67 (by decide) ?_
        refine lv_istore (lv' := [(7, .int (nI 0)), (1, .ref qS), (2, .ref qL), (3, .long 0), (5, .long 0)]) hx hb dX0_keys_68 hl (by decide) rfl (fun ls hl => ?_)
        exact loop3 qL qS 78 0 rfl (rc_s0 26) (rc_l f 16) 0 0 rfl H locs ls hP hD hS (lv_sub hl [1, 2, 3, 4, 0] rfl)
      · exact absurd (by decide) hc
    | succ n ih =>
      intro k hn H locs ls hP hD hS hl
      refine lv_iload hx hb dX0_keys_40 (lv_at hl 4 rfl) ?_
      refine lv_bipush (v := nI 26) hx hb dX0_keys_42 (by decide) ?_
      refine lv_icmp_ge (tgt := 67) hx hb dX0_keys_44 (by decide) (fun hc => ?_) (fun hc => ?_)
      · exact absurd hc (nI_ge (b := 26) (by omega) (by decide))
      · refine lv_aload_n hx hb dX0_keys_47 rfl (lv_at hl 0 rfl) ?_
        refine lv_iload hx hb dX0_keys_48 (lv_at hl 4 rfl) ?_
        refine lv_aload_n hx hb dX0_keys_50 rfl (lv_at hl 0 rfl) ?_
        refine lv_iload hx hb dX0_keys_51 (lv_at hl 4 rfl) ?_
        refine lv_iconst (v := nI 1) hx hb dX0_keys_53 (by decide) ?_
        refine lv_isub hx hb dX0_keys_54 ?_
        refine rc_lald hx hb hK hP 1 1 rfl rfl k (nI_pred k) (by omega) (by decide) dX0_keys_55 ?_
        refine rc_tl (rc_s k) (rc_s0_at (by omega)) ?_
        refine lv_ldc2 hx hb hown (hts _ q250) dX0_keys_56 ?_
        refine lv_ladd hx hb dX0_keys_59 ?_
        refine rc_tl (rc_s (k + 1)) (rfl) ?_
        refine rc_last hx hb hK hP hD hS 1 1 rfl rfl (k + 1) rfl (by omega) (by decide) (rc_s0 (k + 1 + 1)) (rc_s0_s (k + 1)) dX0_keys_60 (fun H locs hP hD hS => ?_)
        have hP : va_P G vwCl [(hk, .inl (cB, 32, .inl f)), (qS, .inl (cL, 26, .inr (.inl (rc_s0 (k + 1 + 1))))), (qL, .inl (cL, 2, .inr (.inl (rc_l f 16))))] H := hP
        have hD : va_D A [(hk, .inl (cB, 32, .inl f)), (qS, .inl (cL, 26, .inr (.inl (rc_s0 (k + 1 + 1))))), (qL, .inl (cL, 2, .inr (.inl (rc_l f 16))))] := hD
        refine lv_iinc (v := nI (k + 1 + 1)) (lv' := [(7, .int (nI (k + 1 + 1))), (1, .ref qS), (2, .ref qL), (3, .long 0), (5, .long 0)]) hx hb dX0_keys_61 hl (k := 4) rfl (nI_1 (k + 1)) (by decide) rfl (fun ls hl => ?_)
        refine lv_goto (tgt := 40) hx hb dX0_keys_64 (by decide) ?_
        exact ih (k + 1) (by omega) H locs ls hP hD hS (lv_sub hl [1, 2, 3, 4, 0] rfl)
  refine lv_bipush (v := nI 26) hx hb dX0_keys_0 (by decide) ?_
  refine rc_newL hx hb (hts _ q220) hK hP hD hS hA 26 rfl (by decide) (Nat.le_of_ble_eq_true rfl) (Nat.le_of_ble_eq_true rfl) dX0_keys_2 (fun qS H hP hD hS => ?_)
  have hP : va_P G vwCl [(hk, .inl (cB, 32, .inl f)), (qS, .inl (cL, 26, .inr (.inl (fun _ => 0))))] H := hP
  have hD : va_D A [(hk, .inl (cB, 32, .inl f)), (qS, .inl (cL, 26, .inr (.inl (fun _ => 0))))] := hD
  refine lv_astore_n (lv' := [(1, .ref qS), (0, .ref hk)]) hx hb dX0_keys_4 rfl hl (by decide) rfl (fun ls hl => ?_)
  refine lv_iconst (v := nI 2) hx hb dX0_keys_5 (by decide) ?_
  refine rc_newL hx hb (hts _ q220) hK hP hD hS hA 2 rfl (by decide) (Nat.le_of_ble_eq_true rfl) (Nat.le_of_ble_eq_true rfl) dX0_keys_6 (fun qL H hP hD hS => ?_)
  have hP : va_P G vwCl [(hk, .inl (cB, 32, .inl f)), (qS, .inl (cL, 26, .inr (.inl (fun _ => 0)))), (qL, .inl (cL, 2, .inr (.inl (fun _ => 0))))] H := hP
  have hD : va_D A [(hk, .inl (cB, 32, .inl f)), (qS, .inl (cL, 26, .inr (.inl (fun _ => 0)))), (qL, .inl (cL, 2, .inr (.inl (fun _ => 0))))] := hD
  refine lv_dup hx hb dX0_keys_8 rfl ?_
  refine lv_iconst (v := nI 0) hx hb dX0_keys_9 (by decide) ?_
  refine lv_aload_n hx hb dX0_keys_10 rfl (lv_at hl 1 rfl) ?_
  refine lv_iconst (v := nI 0) hx hb dX0_keys_11 (by decide) ?_
  refine vp_callSl (W.runS (As := [.ref hk, .int (nI 0)]) (rest := [.int (nI 0), .ref qL, .ref qL]) ⟨hx, hb, hml, hown, hts⟩ (metX0_word l G cB cL hk 32 f 0 (by decide) (by decide)) (va_cwS 2 hts (lw_S q245 q246 q9 q247) rfl rfl rfl (by decide +kernel) ⟨Nat.le_of_ble_eq_true rfl, Nat.le_of_ble_eq_true rfl⟩) (rc_RdS (hP.sub (ws' := [(hk, .inl (cB, 32, .inl f))]) [0] rfl) hK [.ref hk, .int (nI 0)]) rfl rfl hl.1 rfl (lv_room (Nat.le_of_ble_eq_true rfl)) dX0_keys_12 ⟨(Nat.le_of_ble_eq_true rfl), (Nat.le_of_ble_eq_true rfl)⟩) (fun w0 hw0 => ?_)
  subst hw0
  refine rc_last hx hb hK hP hD hS 2 1 rfl rfl 0 rfl (by decide) (by decide) (vp_updL (fun _ => 0) 0 (rc_wd f 0)) rfl dX0_keys_15 (fun H locs hP hD hS => ?_)
  have hP : va_P G vwCl [(hk, .inl (cB, 32, .inl f)), (qS, .inl (cL, 26, .inr (.inl (fun _ => 0)))), (qL, .inl (cL, 2, .inr (.inl (vp_updL (fun _ => 0) 0 (rc_wd f 0)))))] H := hP
  have hD : va_D A [(hk, .inl (cB, 32, .inl f)), (qS, .inl (cL, 26, .inr (.inl (fun _ => 0)))), (qL, .inl (cL, 2, .inr (.inl (vp_updL (fun _ => 0) 0 (rc_wd f 0)))))] := hD
  refine lv_dup hx hb dX0_keys_16 rfl ?_
  refine lv_iconst (v := nI 1) hx hb dX0_keys_17 (by decide) ?_
  refine lv_aload_n hx hb dX0_keys_18 rfl (lv_at hl 1 rfl) ?_
  refine lv_bipush (v := nI 8) hx hb dX0_keys_19 (by decide) ?_
  refine vp_callSl (W.runS (As := [.ref hk, .int (nI 8)]) (rest := [.int (nI 1), .ref qL, .ref qL]) ⟨hx, hb, hml, hown, hts⟩ (metX0_word l G cB cL hk 32 f 8 (by decide) (by decide)) (va_cwS 2 hts (lw_S q245 q246 q9 q247) rfl rfl rfl (by decide +kernel) ⟨Nat.le_of_ble_eq_true rfl, Nat.le_of_ble_eq_true rfl⟩) (rc_RdS (hP.sub (ws' := [(hk, .inl (cB, 32, .inl f))]) [0] rfl) hK [.ref hk, .int (nI 8)]) rfl rfl hl.1 rfl (lv_room (Nat.le_of_ble_eq_true rfl)) dX0_keys_21 ⟨(Nat.le_of_ble_eq_true rfl), (Nat.le_of_ble_eq_true rfl)⟩) (fun w8 hw8 => ?_)
  subst hw8
  refine rc_last hx hb hK hP hD hS 2 1 rfl rfl 1 rfl (by decide) (by decide) (rc_l f 16) (rc_l_16 f) dX0_keys_24 (fun H locs hP hD hS => ?_)
  have hP : va_P G vwCl [(hk, .inl (cB, 32, .inl f)), (qS, .inl (cL, 26, .inr (.inl (fun _ => 0)))), (qL, .inl (cL, 2, .inr (.inl (rc_l f 16))))] H := hP
  have hD : va_D A [(hk, .inl (cB, 32, .inl f)), (qS, .inl (cL, 26, .inr (.inl (fun _ => 0)))), (qL, .inl (cL, 2, .inr (.inl (rc_l f 16))))] := hD
  refine lv_astore_n (lv' := [(2, .ref qL), (1, .ref qS), (0, .ref hk)]) hx hb dX0_keys_25 rfl hl (by decide) rfl (fun ls hl => ?_)
  refine lv_lconst (v := 0) hx hb dX0_keys_26 (by decide) ?_
  refine lv_lstore_n (lv' := [(3, .long 0), (2, .ref qL), (1, .ref qS), (0, .ref hk)]) hx hb dX0_keys_27 rfl hl (by decide) rfl (fun ls hl => ?_)
  refine lv_lconst (v := 0) hx hb dX0_keys_28 (by decide) ?_
  refine lv_lstore (lv' := [(5, .long 0), (3, .long 0), (2, .ref qL), (1, .ref qS), (0, .ref hk)]) hx hb dX0_keys_29 hl (by decide) rfl (fun ls hl => ?_)
  refine lv_aload_n hx hb dX0_keys_31 rfl (lv_at hl 3 rfl) ?_
  refine lv_iconst (v := nI 0) hx hb dX0_keys_32 (by decide) ?_
  refine lv_ldc2 hx hb hown (hts _ q249) dX0_keys_33 ?_
  refine rc_last hx hb hK hP hD hS 1 1 rfl rfl 0 rfl (by decide) (by decide) (rc_s0 1) (by rw [rc_s0_0]; exact rc_s0_s 0) dX0_keys_36 (fun H locs hP hD hS => ?_)
  have hP : va_P G vwCl [(hk, .inl (cB, 32, .inl f)), (qS, .inl (cL, 26, .inr (.inl (rc_s0 1)))), (qL, .inl (cL, 2, .inr (.inl (rc_l f 16))))] H := hP
  have hD : va_D A [(hk, .inl (cB, 32, .inl f)), (qS, .inl (cL, 26, .inr (.inl (rc_s0 1)))), (qL, .inl (cL, 2, .inr (.inl (rc_l f 16))))] := hD
  refine lv_iconst (v := nI 1) hx hb dX0_keys_37 (by decide) ?_
  refine lv_istore (lv' := [(7, .int (nI 1)), (5, .long 0), (3, .long 0), (2, .ref qL), (1, .ref qS), (0, .ref hk)]) hx hb dX0_keys_38 hl (by decide) rfl (fun ls hl => ?_)
  exact loop2 qL qS 25 0 rfl H _ ls (hP.sub [0, 1, 2] rfl) (hD.sub [0, 1, 2] (by decide) rfl) hS (lv_sub hl [4, 3, 2, 1, 0] rfl)
abbrev rmX0_locked : Room := { frames := 2, cells := 3, slots := 44, locals := 51 }
set_option maxHeartbeats 4000000 in
set_option maxRecDepth 100000 in
/-- locked -/
theorem metX0_locked (l : Launch) (G : va_G) (cB cL : ClassId) (sz : Nat) (hk hb1 : Nat) (fk fb : Nat → Int32) : Met l yX0_locked (ws_ yX0_locked cX0_locked 9 (some (.array .byte))) rmX0_locked (va_Pc [.ref hk, .ref hb1] (rc_Wr G vwCl [(hk, .inl (cB, 32, .inl fk)), (hb1, .inl (cB, 16, .inl fb))] [(cB, .byte), (cL, .long)] sz)) (rc_Qr G vwCl [(hk, .inl (cB, 32, .inl fk)), (hb1, .inl (cB, 16, .inl fb))] sz (fun q w => w = [(hk, .inl (cB, 32, .inl fk)), (hb1, .inl (cB, 16, .inl fb)), (q, .inl (cB, 16, .inl (rc_E fk fb)))])) 3 44 (va_A [(hk, .inl (cB, 32, .inl fk)), (hb1, .inl (cB, 16, .inl fb))] sz) := by
  refine rc_start (by decide) (Nat.le_of_ble_eq_true rfl) ?_
  intro p e s m args below meth cD Q hx hb hr hml hown hnm hlocks hts hv hQ ls hl
  obtain ⟨rfl, hP, hK, A, hAe, hD, hA, hS⟩ := rc_prep hv
  have hown : s.vm.findClass RX0 = some m.cls := hown
  have hl : lv_has ls 9 [(0, .ref hk), (1, .ref hb1)] := hl
  have loop : ∀ (qz qo n r : Nat), r + n = 12 → ∀ a b : Int64, rc_e (rc_K fk) r (rc_wd fb 0 + rc_K fk 0, rc_wd fb 8 + rc_K fk 1) = (a, b) → ∀ (H : Heap) (locs : List Loc) (ls : Array Slot), va_P G vwCl [(hk, .inl (cB, 32, .inl fk)), (hb1, .inl (cB, 16, .inl fb)), (qz, .inl (cL, 26, .inr (.inl (rc_K fk)))), (qo, .inl (cB, 16, .inl (fun _ => 0)))] H → va_D A [(hk, .inl (cB, 32, .inl fk)), (hb1, .inl (cB, 16, .inl fb)), (qz, .inl (cL, 26, .inr (.inl (rc_K fk)))), (qo, .inl (cB, 16, .inl (fun _ => 0)))] → va_S A s.heap H locs → lv_has ls 9 [(2, .ref qz), (3, .ref qo), (4, .long a), (6, .long b), (8, .int (nI (r + 1)))] → W p l e rmX0_locked s m args below meth cD H locs 3 44 Q (F0 m 36 ls []) := by
    intro qz qo n
    induction n with
    | zero =>
      intro r hn a b hst H locs ls hP hD hS hl
      obtain rfl : r = 12 := by omega
      refine lv_iload hx hb dX0_locked_36 (lv_at hl 4 rfl) ?_
      refine lv_bipush (v := nI 13) hx hb dX0_locked_38 (by decide) ?_
      refine lv_icmp_ge (tgt := 89) hx hb dX0_locked_40 (by decide) (fun hc => ?_) (fun hc => ?_)
      · refine lv_aload_n hx hb dX0_locked_89 rfl (lv_at hl 1 rfl) ?_
        refine lv_iconst (v := nI 0) hx hb dX0_locked_90 (by decide) ?_
        refine lv_lload hx hb dX0_locked_91 (lv_at hl 2 rfl) ?_
        refine rc_callv (va_runS (As := [.ref qo, .int (nI 0), .long a]) (rest := []) ⟨hx, hb, hml, hown, hts⟩ (metX0_put l G cB cL H.size qo (fun _ => 0) 0 (a) (by decide)) (va_cwS 3 hts (lw_S q257 q258 q9 q259) rfl rfl rfl (by decide +kernel) ⟨Nat.le_of_ble_eq_true rfl, Nat.le_of_ble_eq_true rfl⟩) (rc_WrS (hP.sub (ws' := [(qo, .inl (cB, 16, .inl (fun _ => 0)))]) [3] rfl) hK (hD.sub (ws' := [(qo, .inl (cB, 16, .inl (fun _ => 0)))]) [3] (by decide) rfl) [.ref qo, .int (nI 0), .long a]) rfl rfl hl.1 rfl (lv_room (Nat.le_of_ble_eq_true rfl)) dX0_locked_93 ⟨(Nat.le_of_ble_eq_true rfl), (Nat.le_of_ble_eq_true rfl)⟩) hP hD hS hA [3] [0, 1, 2] (wr := [(hk, .inl (cB, 32, .inl fk)), (hb1, .inl (cB, 16, .inl fb)), (qz, .inl (cL, 26, .inr (.inl (rc_K fk))))]) rfl rfl (by decide) (by decide) (fun w1 hw H locs hP hD hS => ?_)
        obtain rfl := hw
        have hP : va_P G vwCl [(hk, .inl (cB, 32, .inl fk)), (hb1, .inl (cB, 16, .inl fb)), (qz, .inl (cL, 26, .inr (.inl (rc_K fk)))), (qo, .inl (cB, 16, .inl (rc_pf (fun _ => 0) 0 (a) 8)))] H := hP
        have hD : va_D A [(hk, .inl (cB, 32, .inl fk)), (hb1, .inl (cB, 16, .inl fb)), (qz, .inl (cL, 26, .inr (.inl (rc_K fk)))), (qo, .inl (cB, 16, .inl (rc_pf (fun _ => 0) 0 (a) 8)))] := hD
        refine lv_aload_n hx hb dX0_locked_96 rfl (lv_at hl 1 rfl) ?_
        refine lv_bipush (v := nI 8) hx hb dX0_locked_97 (by decide) ?_
        refine lv_lload hx hb dX0_locked_99 (lv_at hl 3 rfl) ?_
        refine rc_callv (va_runS (As := [.ref qo, .int (nI 8), .long b]) (rest := []) ⟨hx, hb, hml, hown, hts⟩ (metX0_put l G cB cL H.size qo (rc_pf (fun _ => 0) 0 (a) 8) 8 (b) (by decide)) (va_cwS 3 hts (lw_S q257 q258 q9 q259) rfl rfl rfl (by decide +kernel) ⟨Nat.le_of_ble_eq_true rfl, Nat.le_of_ble_eq_true rfl⟩) (rc_WrS (hP.sub (ws' := [(qo, .inl (cB, 16, .inl (rc_pf (fun _ => 0) 0 (a) 8)))]) [3] rfl) hK (hD.sub (ws' := [(qo, .inl (cB, 16, .inl (rc_pf (fun _ => 0) 0 (a) 8)))]) [3] (by decide) rfl) [.ref qo, .int (nI 8), .long b]) rfl rfl hl.1 rfl (lv_room (Nat.le_of_ble_eq_true rfl)) dX0_locked_101 ⟨(Nat.le_of_ble_eq_true rfl), (Nat.le_of_ble_eq_true rfl)⟩) hP hD hS hA [3] [0, 1, 2] (wr := [(hk, .inl (cB, 32, .inl fk)), (hb1, .inl (cB, 16, .inl fb)), (qz, .inl (cL, 26, .inr (.inl (rc_K fk))))]) rfl rfl (by decide) (by decide) (fun w1 hw H locs hP hD hS => ?_)
        obtain rfl := hw
        have hP : va_P G vwCl [(hk, .inl (cB, 32, .inl fk)), (hb1, .inl (cB, 16, .inl fb)), (qz, .inl (cL, 26, .inr (.inl (rc_K fk)))), (qo, .inl (cB, 16, .inl (rc_pf (rc_pf (fun _ => 0) 0 (a) 8) 8 (b) 8)))] H := hP
        have hD : va_D A [(hk, .inl (cB, 32, .inl fk)), (hb1, .inl (cB, 16, .inl fb)), (qz, .inl (cL, 26, .inr (.inl (rc_K fk)))), (qo, .inl (cB, 16, .inl (rc_pf (rc_pf (fun _ => 0) 0 (a) 8) 8 (b) 8)))] := hD
        obtain ⟨hP, hD⟩ := rc_ext hP hD 3 rfl (rc_oF (a, b)) (fun j hj => rc_oF_pf _ _ _ hj)
        have hP : va_P G vwCl [(hk, .inl (cB, 32, .inl fk)), (hb1, .inl (cB, 16, .inl fb)), (qz, .inl (cL, 26, .inr (.inl (rc_K fk)))), (qo, .inl (cB, 16, .inl (rc_oF (a, b))))] H := hP
        have hD : va_D A [(hk, .inl (cB, 32, .inl fk)), (hb1, .inl (cB, 16, .inl fb)), (qz, .inl (cL, 26, .inr (.inl (rc_K fk)))), (qo, .inl (cB, 16, .inl (rc_oF (a, b))))] := hD
        refine lv_aload_n hx hb dX0_locked_104 rfl (lv_at hl 1 rfl) ?_
        exact rc_aret hx hb hr hlocks hQ hAe [(hk, .inl (cB, 32, .inl fk)), (hb1, .inl (cB, 16, .inl fb)), (qo, .inl (cB, 16, .inl (rc_oF (a, b))))] (by show _ = _; unfold rc_E rc_En; rw [hst]) (hP.sub [0, 1, 3] rfl) (hD.sub [0, 1, 3] (by decide) rfl) hS (Nat.le_of_ble_eq_true rfl) (Nat.le_of_ble_eq_true rfl) dX0_locked_105
      · exact absurd (by decide) hc
    | succ n ih =>
      intro r hn a b hst H locs ls hP hD hS hl
      refine lv_iload hx hb dX0_locked_36 (lv_at hl 4 rfl) ?_
      refine lv_bipush (v := nI 13) hx hb dX0_locked_38 (by decide) ?_
      refine lv_icmp_ge (tgt := 89) hx hb dX0_locked_40 (by decide) (fun hc => ?_) (fun hc => ?_)
      · exact absurd hc (nI_ge (b := 13) (by omega) (by decide))
      · refine lv_lload hx hb dX0_locked_43 (lv_at hl 2 rfl) ?_
        refine lv_lload hx hb dX0_locked_45 (lv_at hl 3 rfl) ?_
        refine lv_lxor hx hb dX0_locked_47 ?_
        refine lv_lload hx hb dX0_locked_48 (lv_at hl 3 rfl) ?_
        refine vp_callSl (W.runS (As := [.long (a ^^^ b), .long b]) (rest := []) ⟨hx, hb, hml, hown, hts⟩ (metX0_left l G cB cL (a ^^^ b) (b)) (va_cwS 2 hts (lw_S q252 q253 q9 q254) rfl rfl rfl (by decide +kernel) ⟨Nat.le_of_ble_eq_true rfl, Nat.le_of_ble_eq_true rfl⟩) (rc_RdS (hP.sub (ws' := []) [] rfl) hK [.long (a ^^^ b), .long b]) rfl rfl hl.1 rfl (lv_room (Nat.le_of_ble_eq_true rfl)) dX0_locked_50 ⟨(Nat.le_of_ble_eq_true rfl), (Nat.le_of_ble_eq_true rfl)⟩) (fun t1 ht1 => ?_)
        refine lv_aload_n hx hb dX0_locked_53 rfl (lv_at hl 0 rfl) ?_
        refine lv_iconst (v := nI 2) hx hb dX0_locked_54 (by decide) ?_
        refine lv_iload hx hb dX0_locked_55 (lv_at hl 4 rfl) ?_
        refine lv_imul hx hb dX0_locked_57 ?_
        refine rc_lald hx hb hK hP 2 1 rfl rfl (2 * (r + 1)) (pk_mul _ _) (by omega) (by decide) dX0_locked_58 ?_
        refine lv_ladd hx hb dX0_locked_59 ?_
        refine lv_topl (fun a1 ea1 => ?_)
        refine lv_lstore (lv' := [(4, .long a1), (2, .ref qz), (3, .ref qo), (6, .long b), (8, .int (nI (r + 1)))]) hx hb dX0_locked_60 hl (by decide) rfl (fun ls hl => ?_)
        refine lv_lload hx hb dX0_locked_62 (lv_at hl 3 rfl) ?_
        refine lv_lload hx hb dX0_locked_64 (lv_at hl 0 rfl) ?_
        refine lv_lxor hx hb dX0_locked_66 ?_
        refine lv_lload hx hb dX0_locked_67 (lv_at hl 0 rfl) ?_
        refine vp_callSl (W.runS (As := [.long (b ^^^ a1), .long a1]) (rest := []) ⟨hx, hb, hml, hown, hts⟩ (metX0_left l G cB cL (b ^^^ a1) (a1)) (va_cwS 2 hts (lw_S q252 q253 q9 q254) rfl rfl rfl (by decide +kernel) ⟨Nat.le_of_ble_eq_true rfl, Nat.le_of_ble_eq_true rfl⟩) (rc_RdS (hP.sub (ws' := []) [] rfl) hK [.long (b ^^^ a1), .long a1]) rfl rfl hl.1 rfl (lv_room (Nat.le_of_ble_eq_true rfl)) dX0_locked_69 ⟨(Nat.le_of_ble_eq_true rfl), (Nat.le_of_ble_eq_true rfl)⟩) (fun t2 ht2 => ?_)
        refine lv_aload_n hx hb dX0_locked_72 rfl (lv_at hl 1 rfl) ?_
        refine lv_iconst (v := nI 2) hx hb dX0_locked_73 (by decide) ?_
        refine lv_iload hx hb dX0_locked_74 (lv_at hl 4 rfl) ?_
        refine lv_imul hx hb dX0_locked_76 ?_
        refine lv_iconst (v := nI 1) hx hb dX0_locked_77 (by decide) ?_
        refine lv_iadd hx hb dX0_locked_78 ?_
        refine rc_lald hx hb hK hP 2 1 rfl rfl (2 * (r + 1) + 1) (by rw [pk_mul, nI_add]) (by omega) (by decide) dX0_locked_79 ?_
        refine lv_ladd hx hb dX0_locked_80 ?_
        refine lv_topl (fun b1 eb1 => ?_)
        refine lv_lstore (lv' := [(6, .long b1), (4, .long a1), (2, .ref qz), (3, .ref qo), (8, .int (nI (r + 1)))]) hx hb dX0_locked_81 hl (by decide) rfl (fun ls hl => ?_)
        refine lv_iinc (v := nI (r + 1 + 1)) (lv' := [(8, .int (nI (r + 1 + 1))), (6, .long b1), (4, .long a1), (2, .ref qz), (3, .ref qo)]) hx hb dX0_locked_83 hl (k := 4) rfl (nI_1 (r + 1)) (by decide) rfl (fun ls hl => ?_)
        refine lv_goto (tgt := 36) hx hb dX0_locked_86 (by decide) ?_
        exact ih (r + 1) (by omega) a1 b1 (rc_e_s hst (by rw [ea1, ht1]) (by rw [eb1, ht2])) H locs ls hP hD hS (lv_sub hl [3, 4, 2, 1, 0] rfl)
  refine lv_aload_n hx hb dX0_locked_0 rfl (lv_at hl 0 rfl) ?_
  refine rc_callr (va_runS (As := [.ref hk]) (rest := []) ⟨hx, hb, hml, hown, hts⟩ (metX0_keys l G cB cL s.heap.size hk fk) (va_cwS 1 hts (lw_S q242 q243 q9 q244) rfl rfl rfl (by decide +kernel) ⟨Nat.le_of_ble_eq_true rfl, Nat.le_of_ble_eq_true rfl⟩) (rc_WrS (hP.sub (ws' := [(hk, .inl (cB, 32, .inl fk))]) [0] rfl) hK (hD.sub (ws' := [(hk, .inl (cB, 32, .inl fk))]) [0] (by decide) rfl) [.ref hk]) rfl rfl hl.1 rfl (lv_room (Nat.le_of_ble_eq_true rfl)) dX0_locked_1 ⟨(Nat.le_of_ble_eq_true rfl), (Nat.le_of_ble_eq_true rfl)⟩) hP hD hS hA [0] [1] (wr := [(hb1, .inl (cB, 16, .inl fb))]) rfl rfl (by decide) (by decide) (fun qz w1 hw H locs hP hD hS => ?_)
  obtain rfl := hw
  have hP : va_P G vwCl [(hb1, .inl (cB, 16, .inl fb)), (hk, .inl (cB, 32, .inl fk)), (qz, .inl (cL, 26, .inr (.inl (rc_K fk))))] H := hP
  have hD : va_D A [(hb1, .inl (cB, 16, .inl fb)), (hk, .inl (cB, 32, .inl fk)), (qz, .inl (cL, 26, .inr (.inl (rc_K fk))))] := hD
  refine lv_astore_n (lv' := [(2, .ref qz), (0, .ref hk), (1, .ref hb1)]) hx hb dX0_locked_4 rfl hl (by decide) rfl (fun ls hl => ?_)
  refine lv_bipush (v := nI 16) hx hb dX0_locked_5 (by decide) ?_
  refine rc_newB hx hb (hts _ q36) hK hP hD hS hA 16 rfl (by decide) (Nat.le_of_ble_eq_true rfl) (Nat.le_of_ble_eq_true rfl) dX0_locked_7 (fun qo H hP hD hS => ?_)
  have hP : va_P G vwCl [(hb1, .inl (cB, 16, .inl fb)), (hk, .inl (cB, 32, .inl fk)), (qz, .inl (cL, 26, .inr (.inl (rc_K fk)))), (qo, .inl (cB, 16, .inl (fun _ => 0)))] H := hP
  have hD : va_D A [(hb1, .inl (cB, 16, .inl fb)), (hk, .inl (cB, 32, .inl fk)), (qz, .inl (cL, 26, .inr (.inl (rc_K fk)))), (qo, .inl (cB, 16, .inl (fun _ => 0)))] := hD
  refine lv_astore_n (lv' := [(3, .ref qo), (2, .ref qz), (0, .ref hk), (1, .ref hb1)]) hx hb dX0_locked_9 rfl hl (by decide) rfl (fun ls hl => ?_)
  refine lv_aload_n hx hb dX0_locked_10 rfl (lv_at hl 3 rfl) ?_
  refine lv_iconst (v := nI 0) hx hb dX0_locked_11 (by decide) ?_
  refine vp_callSl (W.runS (As := [.ref hb1, .int (nI 0)]) (rest := []) ⟨hx, hb, hml, hown, hts⟩ (metX0_word l G cB cL hb1 16 fb 0 (by decide) (by decide)) (va_cwS 2 hts (lw_S q245 q246 q9 q247) rfl rfl rfl (by decide +kernel) ⟨Nat.le_of_ble_eq_true rfl, Nat.le_of_ble_eq_true rfl⟩) (rc_RdS (hP.sub (ws' := [(hb1, .inl (cB, 16, .inl fb))]) [0] rfl) hK [.ref hb1, .int (nI 0)]) rfl rfl hl.1 rfl (lv_room (Nat.le_of_ble_eq_true rfl)) dX0_locked_12 ⟨(Nat.le_of_ble_eq_true rfl), (Nat.le_of_ble_eq_true rfl)⟩) (fun w0 hw0 => ?_)
  subst hw0
  refine lv_aload_n hx hb dX0_locked_15 rfl (lv_at hl 1 rfl) ?_
  refine lv_iconst (v := nI 0) hx hb dX0_locked_16 (by decide) ?_
  refine rc_lald hx hb hK hP 2 1 rfl rfl 0 rfl (by decide) (by decide) dX0_locked_17 ?_
  refine lv_ladd hx hb dX0_locked_18 ?_
  refine lv_lstore (lv' := [(4, .long ((rc_wd fb 0) + ((rc_K fk) 0))), (3, .ref qo), (2, .ref qz), (0, .ref hk), (1, .ref hb1)]) hx hb dX0_locked_19 hl (by decide) rfl (fun ls hl => ?_)
  refine lv_aload_n hx hb dX0_locked_21 rfl (lv_at hl 4 rfl) ?_
  refine lv_bipush (v := nI 8) hx hb dX0_locked_22 (by decide) ?_
  refine vp_callSl (W.runS (As := [.ref hb1, .int (nI 8)]) (rest := []) ⟨hx, hb, hml, hown, hts⟩ (metX0_word l G cB cL hb1 16 fb 8 (by decide) (by decide)) (va_cwS 2 hts (lw_S q245 q246 q9 q247) rfl rfl rfl (by decide +kernel) ⟨Nat.le_of_ble_eq_true rfl, Nat.le_of_ble_eq_true rfl⟩) (rc_RdS (hP.sub (ws' := [(hb1, .inl (cB, 16, .inl fb))]) [0] rfl) hK [.ref hb1, .int (nI 8)]) rfl rfl hl.1 rfl (lv_room (Nat.le_of_ble_eq_true rfl)) dX0_locked_24 ⟨(Nat.le_of_ble_eq_true rfl), (Nat.le_of_ble_eq_true rfl)⟩) (fun w8 hw8 => ?_)
  subst hw8
  refine lv_aload_n hx hb dX0_locked_27 rfl (lv_at hl 2 rfl) ?_
  refine lv_iconst (v := nI 1) hx hb dX0_locked_28 (by decide) ?_
  refine rc_lald hx hb hK hP 2 1 rfl rfl 1 rfl (by decide) (by decide) dX0_locked_29 ?_
  refine lv_ladd hx hb dX0_locked_30 ?_
  refine lv_lstore (lv' := [(6, .long ((rc_wd fb 8) + ((rc_K fk) 1))), (4, .long ((rc_wd fb 0) + ((rc_K fk) 0))), (3, .ref qo), (2, .ref qz), (0, .ref hk), (1, .ref hb1)]) hx hb dX0_locked_31 hl (by decide) rfl (fun ls hl => ?_)
  refine lv_iconst (v := nI 1) hx hb dX0_locked_33 (by decide) ?_
  refine lv_istore (lv' := [(8, .int (nI 1)), (6, .long ((rc_wd fb 8) + ((rc_K fk) 1))), (4, .long ((rc_wd fb 0) + ((rc_K fk) 0))), (3, .ref qo), (2, .ref qz), (0, .ref hk), (1, .ref hb1)]) hx hb dX0_locked_34 hl (by decide) rfl (fun ls hl => ?_)
  exact loop qz qo 12 0 rfl _ _ rfl H _ ls (hP.sub [1, 0, 2, 3] rfl) (hD.sub [1, 0, 2, 3] (by decide) rfl) hS (lv_sub hl [4, 3, 2, 1, 0] rfl)
abbrev rmX0_opened : Room := { frames := 2, cells := 3, slots := 44, locals := 51 }
set_option maxHeartbeats 4000000 in
set_option maxRecDepth 100000 in
/-- opened -/
theorem metX0_opened (l : Launch) (G : va_G) (cB cL : ClassId) (sz : Nat) (hk hb1 : Nat) (fk fb : Nat → Int32) : Met l yX0_opened (ws_ yX0_opened cX0_opened 9 (some (.array .byte))) rmX0_opened (va_Pc [.ref hk, .ref hb1] (rc_Wr G vwCl [(hk, .inl (cB, 32, .inl fk)), (hb1, .inl (cB, 16, .inl fb))] [(cB, .byte), (cL, .long)] sz)) (rc_Qr G vwCl [(hk, .inl (cB, 32, .inl fk)), (hb1, .inl (cB, 16, .inl fb))] sz (fun q w => w = [(hk, .inl (cB, 32, .inl fk)), (hb1, .inl (cB, 16, .inl fb)), (q, .inl (cB, 16, .inl (rc_D fk fb)))])) 3 44 (va_A [(hk, .inl (cB, 32, .inl fk)), (hb1, .inl (cB, 16, .inl fb))] sz) := by
  refine rc_start (by decide) (Nat.le_of_ble_eq_true rfl) ?_
  intro p e s m args below meth cD Q hx hb hr hml hown hnm hlocks hts hv hQ ls hl
  obtain ⟨rfl, hP, hK, A, hAe, hD, hA, hS⟩ := rc_prep hv
  have hown : s.vm.findClass RX0 = some m.cls := hown
  have hl : lv_has ls 9 [(0, .ref hk), (1, .ref hb1)] := hl
  have loop : ∀ (qz qo r : Nat), r ≤ 12 → ∀ a b : Int64, rc_d (rc_K fk) r (a, b) = rc_d (rc_K fk) 12 (rc_wd fb 0, rc_wd fb 8) → ∀ (H : Heap) (locs : List Loc) (ls : Array Slot), va_P G vwCl [(hk, .inl (cB, 32, .inl fk)), (hb1, .inl (cB, 16, .inl fb)), (qz, .inl (cL, 26, .inr (.inl (rc_K fk)))), (qo, .inl (cB, 16, .inl (fun _ => 0)))] H → va_D A [(hk, .inl (cB, 32, .inl fk)), (hb1, .inl (cB, 16, .inl fb)), (qz, .inl (cL, 26, .inr (.inl (rc_K fk)))), (qo, .inl (cB, 16, .inl (fun _ => 0)))] → va_S A s.heap H locs → lv_has ls 9 [(2, .ref qz), (3, .ref qo), (4, .long a), (6, .long b), (8, .int (nI r))] → W p l e rmX0_opened s m args below meth cD H locs 3 44 Q (F0 m 29 ls []) := by
    intro qz qo r
    induction r with
    | zero =>
      intro hr12 a b hst H locs ls hP hD hS hl
      refine lv_iload hx hb dX0_opened_29 (lv_at hl 4 rfl) ?_
      refine lv_if_le (tgt := 82) hx hb dX0_opened_31 (by decide) (fun hc => ?_) (fun hc => ?_)
      · refine lv_aload_n hx hb dX0_opened_82 rfl (lv_at hl 1 rfl) ?_
        refine lv_iconst (v := nI 0) hx hb dX0_opened_83 (by decide) ?_
        refine lv_lload hx hb dX0_opened_84 (lv_at hl 2 rfl) ?_
        refine lv_aload_n hx hb dX0_opened_86 rfl (lv_at hl 0 rfl) ?_
        refine lv_iconst (v := nI 0) hx hb dX0_opened_87 (by decide) ?_
        refine rc_lald hx hb hK hP 2 1 rfl rfl 0 rfl (by decide) (by decide) dX0_opened_88 ?_
        refine lv_lsub hx hb dX0_opened_89 ?_
        refine rc_callv (va_runS (As := [.ref qo, .int (nI 0), .long (a - ((rc_K fk) 0))]) (rest := []) ⟨hx, hb, hml, hown, hts⟩ (metX0_put l G cB cL H.size qo (fun _ => 0) 0 (a - rc_K fk 0) (by decide)) (va_cwS 3 hts (lw_S q257 q258 q9 q259) rfl rfl rfl (by decide +kernel) ⟨Nat.le_of_ble_eq_true rfl, Nat.le_of_ble_eq_true rfl⟩) (rc_WrS (hP.sub (ws' := [(qo, .inl (cB, 16, .inl (fun _ => 0)))]) [3] rfl) hK (hD.sub (ws' := [(qo, .inl (cB, 16, .inl (fun _ => 0)))]) [3] (by decide) rfl) [.ref qo, .int (nI 0), .long (a - ((rc_K fk) 0))]) rfl rfl hl.1 rfl (lv_room (Nat.le_of_ble_eq_true rfl)) dX0_opened_90 ⟨(Nat.le_of_ble_eq_true rfl), (Nat.le_of_ble_eq_true rfl)⟩) hP hD hS hA [3] [0, 1, 2] (wr := [(hk, .inl (cB, 32, .inl fk)), (hb1, .inl (cB, 16, .inl fb)), (qz, .inl (cL, 26, .inr (.inl (rc_K fk))))]) rfl rfl (by decide) (by decide) (fun w1 hw H locs hP hD hS => ?_)
        obtain rfl := hw
        have hP : va_P G vwCl [(hk, .inl (cB, 32, .inl fk)), (hb1, .inl (cB, 16, .inl fb)), (qz, .inl (cL, 26, .inr (.inl (rc_K fk)))), (qo, .inl (cB, 16, .inl (rc_pf (fun _ => 0) 0 (a - rc_K fk 0) 8)))] H := hP
        have hD : va_D A [(hk, .inl (cB, 32, .inl fk)), (hb1, .inl (cB, 16, .inl fb)), (qz, .inl (cL, 26, .inr (.inl (rc_K fk)))), (qo, .inl (cB, 16, .inl (rc_pf (fun _ => 0) 0 (a - rc_K fk 0) 8)))] := hD
        refine lv_aload_n hx hb dX0_opened_93 rfl (lv_at hl 1 rfl) ?_
        refine lv_bipush (v := nI 8) hx hb dX0_opened_94 (by decide) ?_
        refine lv_lload hx hb dX0_opened_96 (lv_at hl 3 rfl) ?_
        refine lv_aload_n hx hb dX0_opened_98 rfl (lv_at hl 0 rfl) ?_
        refine lv_iconst (v := nI 1) hx hb dX0_opened_99 (by decide) ?_
        refine rc_lald hx hb hK hP 2 1 rfl rfl 1 rfl (by decide) (by decide) dX0_opened_100 ?_
        refine lv_lsub hx hb dX0_opened_101 ?_
        refine rc_callv (va_runS (As := [.ref qo, .int (nI 8), .long (b - ((rc_K fk) 1))]) (rest := []) ⟨hx, hb, hml, hown, hts⟩ (metX0_put l G cB cL H.size qo (rc_pf (fun _ => 0) 0 (a - rc_K fk 0) 8) 8 (b - rc_K fk 1) (by decide)) (va_cwS 3 hts (lw_S q257 q258 q9 q259) rfl rfl rfl (by decide +kernel) ⟨Nat.le_of_ble_eq_true rfl, Nat.le_of_ble_eq_true rfl⟩) (rc_WrS (hP.sub (ws' := [(qo, .inl (cB, 16, .inl (rc_pf (fun _ => 0) 0 (a - rc_K fk 0) 8)))]) [3] rfl) hK (hD.sub (ws' := [(qo, .inl (cB, 16, .inl (rc_pf (fun _ => 0) 0 (a - rc_K fk 0) 8)))]) [3] (by decide) rfl) [.ref qo, .int (nI 8), .long (b - ((rc_K fk) 1))]) rfl rfl hl.1 rfl (lv_room (Nat.le_of_ble_eq_true rfl)) dX0_opened_102 ⟨(Nat.le_of_ble_eq_true rfl), (Nat.le_of_ble_eq_true rfl)⟩) hP hD hS hA [3] [0, 1, 2] (wr := [(hk, .inl (cB, 32, .inl fk)), (hb1, .inl (cB, 16, .inl fb)), (qz, .inl (cL, 26, .inr (.inl (rc_K fk))))]) rfl rfl (by decide) (by decide) (fun w1 hw H locs hP hD hS => ?_)
        obtain rfl := hw
        have hP : va_P G vwCl [(hk, .inl (cB, 32, .inl fk)), (hb1, .inl (cB, 16, .inl fb)), (qz, .inl (cL, 26, .inr (.inl (rc_K fk)))), (qo, .inl (cB, 16, .inl (rc_pf (rc_pf (fun _ => 0) 0 (a - rc_K fk 0) 8) 8 (b - rc_K fk 1) 8)))] H := hP
        have hD : va_D A [(hk, .inl (cB, 32, .inl fk)), (hb1, .inl (cB, 16, .inl fb)), (qz, .inl (cL, 26, .inr (.inl (rc_K fk)))), (qo, .inl (cB, 16, .inl (rc_pf (rc_pf (fun _ => 0) 0 (a - rc_K fk 0) 8) 8 (b - rc_K fk 1) 8)))] := hD
        obtain ⟨hP, hD⟩ := rc_ext hP hD 3 rfl (rc_oF (a - rc_K fk 0, b - rc_K fk 1)) (fun j hj => rc_oF_pf _ _ _ hj)
        have hP : va_P G vwCl [(hk, .inl (cB, 32, .inl fk)), (hb1, .inl (cB, 16, .inl fb)), (qz, .inl (cL, 26, .inr (.inl (rc_K fk)))), (qo, .inl (cB, 16, .inl (rc_oF (a - rc_K fk 0, b - rc_K fk 1))))] H := hP
        have hD : va_D A [(hk, .inl (cB, 32, .inl fk)), (hb1, .inl (cB, 16, .inl fb)), (qz, .inl (cL, 26, .inr (.inl (rc_K fk)))), (qo, .inl (cB, 16, .inl (rc_oF (a - rc_K fk 0, b - rc_K fk 1))))] := hD
        refine lv_aload_n hx hb dX0_opened_105 rfl (lv_at hl 1 rfl) ?_
        exact rc_aret hx hb hr hlocks hQ hAe [(hk, .inl (cB, 32, .inl fk)), (hb1, .inl (cB, 16, .inl fb)), (qo, .inl (cB, 16, .inl (rc_oF (a - rc_K fk 0, b - rc_K fk 1))))] (by show _ = _; unfold rc_D rc_De; rw [← hst]; rfl) (hP.sub [0, 1, 3] rfl) (hD.sub [0, 1, 3] (by decide) rfl) hS (Nat.le_of_ble_eq_true rfl) (Nat.le_of_ble_eq_true rfl) dX0_opened_106
      · exact absurd (by decide) hc
    | succ r ih =>
      intro hr12 a b hst H locs ls hP hD hS hl
      refine lv_iload hx hb dX0_opened_29 (lv_at hl 4 rfl) ?_
      refine lv_if_le (tgt := 82) hx hb dX0_opened_31 (by decide) (fun hc => ?_) (fun hc => ?_)
      · exact absurd hc (nI_nle (by omega) (by omega))
      · refine lv_lload hx hb dX0_opened_34 (lv_at hl 3 rfl) ?_
        refine lv_aload_n hx hb dX0_opened_36 rfl (lv_at hl 0 rfl) ?_
        refine lv_iconst (v := nI 2) hx hb dX0_opened_37 (by decide) ?_
        refine lv_iload hx hb dX0_opened_38 (lv_at hl 4 rfl) ?_
        refine lv_imul hx hb dX0_opened_40 ?_
        refine lv_iconst (v := nI 1) hx hb dX0_opened_41 (by decide) ?_
        refine lv_iadd hx hb dX0_opened_42 ?_
        refine rc_lald hx hb hK hP 2 1 rfl rfl (2 * (r + 1) + 1) (by rw [pk_mul, nI_add]) (by omega) (by decide) dX0_opened_43 ?_
        refine lv_lsub hx hb dX0_opened_44 ?_
        refine lv_lload hx hb dX0_opened_45 (lv_at hl 2 rfl) ?_
        refine lv_lneg hx hb dX0_opened_47 ?_
        refine vp_callSl (W.runS (As := [.long (b - ((rc_K fk) (2 * (r + 1) + 1))), .long (-a)]) (rest := []) ⟨hx, hb, hml, hown, hts⟩ (metX0_left l G cB cL (b - rc_K fk (2 * (r + 1) + 1)) (-a)) (va_cwS 2 hts (lw_S q252 q253 q9 q254) rfl rfl rfl (by decide +kernel) ⟨Nat.le_of_ble_eq_true rfl, Nat.le_of_ble_eq_true rfl⟩) (rc_RdS (hP.sub (ws' := []) [] rfl) hK [.long (b - ((rc_K fk) (2 * (r + 1) + 1))), .long (-a)]) rfl rfl hl.1 rfl (lv_room (Nat.le_of_ble_eq_true rfl)) dX0_opened_48 ⟨(Nat.le_of_ble_eq_true rfl), (Nat.le_of_ble_eq_true rfl)⟩) (fun t1 ht1 => ?_)
        refine lv_lload hx hb dX0_opened_51 (lv_at hl 2 rfl) ?_
        refine lv_lxor hx hb dX0_opened_53 ?_
        refine lv_topl (fun b1 eb1 => ?_)
        refine lv_lstore (lv' := [(6, .long b1), (2, .ref qz), (3, .ref qo), (4, .long a), (8, .int (nI (r + 1)))]) hx hb dX0_opened_54 hl (by decide) rfl (fun ls hl => ?_)
        refine lv_lload hx hb dX0_opened_56 (lv_at hl 3 rfl) ?_
        refine lv_aload_n hx hb dX0_opened_58 rfl (lv_at hl 1 rfl) ?_
        refine lv_iconst (v := nI 2) hx hb dX0_opened_59 (by decide) ?_
        refine lv_iload hx hb dX0_opened_60 (lv_at hl 4 rfl) ?_
        refine lv_imul hx hb dX0_opened_62 ?_
        refine rc_lald hx hb hK hP 2 1 rfl rfl (2 * (r + 1)) (pk_mul _ _) (by omega) (by decide) dX0_opened_63 ?_
        refine lv_lsub hx hb dX0_opened_64 ?_
        refine lv_lload hx hb dX0_opened_65 (lv_at hl 0 rfl) ?_
        refine lv_lneg hx hb dX0_opened_67 ?_
        refine vp_callSl (W.runS (As := [.long (a - ((rc_K fk) (2 * (r + 1)))), .long (-b1)]) (rest := []) ⟨hx, hb, hml, hown, hts⟩ (metX0_left l G cB cL (a - rc_K fk (2 * (r + 1))) (-b1)) (va_cwS 2 hts (lw_S q252 q253 q9 q254) rfl rfl rfl (by decide +kernel) ⟨Nat.le_of_ble_eq_true rfl, Nat.le_of_ble_eq_true rfl⟩) (rc_RdS (hP.sub (ws' := []) [] rfl) hK [.long (a - ((rc_K fk) (2 * (r + 1)))), .long (-b1)]) rfl rfl hl.1 rfl (lv_room (Nat.le_of_ble_eq_true rfl)) dX0_opened_68 ⟨(Nat.le_of_ble_eq_true rfl), (Nat.le_of_ble_eq_true rfl)⟩) (fun t2 ht2 => ?_)
        refine lv_lload hx hb dX0_opened_71 (lv_at hl 0 rfl) ?_
        refine lv_lxor hx hb dX0_opened_73 ?_
        refine lv_topl (fun a1 ea1 => ?_)
        refine lv_lstore (lv' := [(4, .long a1), (6, .long b1), (2, .ref qz), (3, .ref qo), (8, .int (nI (r + 1)))]) hx hb dX0_opened_74 hl (by decide) rfl (fun ls hl => ?_)
        refine lv_iinc (v := nI r) (lv' := [(8, .int (nI r)), (4, .long a1), (6, .long b1), (2, .ref qz), (3, .ref qo)]) hx hb dX0_opened_76 hl (k := 4) rfl ((rc_dec _).trans (nI_pred r)) (by decide) rfl (fun ls hl => ?_)
        refine lv_goto (tgt := 29) hx hb dX0_opened_79 (by decide) ?_
        exact ih (by omega) a1 b1 ((rc_d_s (by rw [eb1, ht1]) (by rw [ea1, ht2])).symm.trans hst) H locs ls hP hD hS (lv_sub hl [3, 4, 1, 2, 0] rfl)
  refine lv_aload_n hx hb dX0_opened_0 rfl (lv_at hl 0 rfl) ?_
  refine rc_callr (va_runS (As := [.ref hk]) (rest := []) ⟨hx, hb, hml, hown, hts⟩ (metX0_keys l G cB cL s.heap.size hk fk) (va_cwS 1 hts (lw_S q242 q243 q9 q244) rfl rfl rfl (by decide +kernel) ⟨Nat.le_of_ble_eq_true rfl, Nat.le_of_ble_eq_true rfl⟩) (rc_WrS (hP.sub (ws' := [(hk, .inl (cB, 32, .inl fk))]) [0] rfl) hK (hD.sub (ws' := [(hk, .inl (cB, 32, .inl fk))]) [0] (by decide) rfl) [.ref hk]) rfl rfl hl.1 rfl (lv_room (Nat.le_of_ble_eq_true rfl)) dX0_opened_1 ⟨(Nat.le_of_ble_eq_true rfl), (Nat.le_of_ble_eq_true rfl)⟩) hP hD hS hA [0] [1] (wr := [(hb1, .inl (cB, 16, .inl fb))]) rfl rfl (by decide) (by decide) (fun qz w1 hw H locs hP hD hS => ?_)
  obtain rfl := hw
  have hP : va_P G vwCl [(hb1, .inl (cB, 16, .inl fb)), (hk, .inl (cB, 32, .inl fk)), (qz, .inl (cL, 26, .inr (.inl (rc_K fk))))] H := hP
  have hD : va_D A [(hb1, .inl (cB, 16, .inl fb)), (hk, .inl (cB, 32, .inl fk)), (qz, .inl (cL, 26, .inr (.inl (rc_K fk))))] := hD
  refine lv_astore_n (lv' := [(2, .ref qz), (0, .ref hk), (1, .ref hb1)]) hx hb dX0_opened_4 rfl hl (by decide) rfl (fun ls hl => ?_)
  refine lv_bipush (v := nI 16) hx hb dX0_opened_5 (by decide) ?_
  refine rc_newB hx hb (hts _ q36) hK hP hD hS hA 16 rfl (by decide) (Nat.le_of_ble_eq_true rfl) (Nat.le_of_ble_eq_true rfl) dX0_opened_7 (fun qo H hP hD hS => ?_)
  have hP : va_P G vwCl [(hb1, .inl (cB, 16, .inl fb)), (hk, .inl (cB, 32, .inl fk)), (qz, .inl (cL, 26, .inr (.inl (rc_K fk)))), (qo, .inl (cB, 16, .inl (fun _ => 0)))] H := hP
  have hD : va_D A [(hb1, .inl (cB, 16, .inl fb)), (hk, .inl (cB, 32, .inl fk)), (qz, .inl (cL, 26, .inr (.inl (rc_K fk)))), (qo, .inl (cB, 16, .inl (fun _ => 0)))] := hD
  refine lv_astore_n (lv' := [(3, .ref qo), (2, .ref qz), (0, .ref hk), (1, .ref hb1)]) hx hb dX0_opened_9 rfl hl (by decide) rfl (fun ls hl => ?_)
  refine lv_aload_n hx hb dX0_opened_10 rfl (lv_at hl 3 rfl) ?_
  refine lv_iconst (v := nI 0) hx hb dX0_opened_11 (by decide) ?_
  refine vp_callSl (W.runS (As := [.ref hb1, .int (nI 0)]) (rest := []) ⟨hx, hb, hml, hown, hts⟩ (metX0_word l G cB cL hb1 16 fb 0 (by decide) (by decide)) (va_cwS 2 hts (lw_S q245 q246 q9 q247) rfl rfl rfl (by decide +kernel) ⟨Nat.le_of_ble_eq_true rfl, Nat.le_of_ble_eq_true rfl⟩) (rc_RdS (hP.sub (ws' := [(hb1, .inl (cB, 16, .inl fb))]) [0] rfl) hK [.ref hb1, .int (nI 0)]) rfl rfl hl.1 rfl (lv_room (Nat.le_of_ble_eq_true rfl)) dX0_opened_12 ⟨(Nat.le_of_ble_eq_true rfl), (Nat.le_of_ble_eq_true rfl)⟩) (fun w0 hw0 => ?_)
  subst hw0
  refine lv_lstore (lv' := [(4, .long (rc_wd fb 0)), (3, .ref qo), (2, .ref qz), (0, .ref hk), (1, .ref hb1)]) hx hb dX0_opened_15 hl (by decide) rfl (fun ls hl => ?_)
  refine lv_aload_n hx hb dX0_opened_17 rfl (lv_at hl 4 rfl) ?_
  refine lv_bipush (v := nI 8) hx hb dX0_opened_18 (by decide) ?_
  refine vp_callSl (W.runS (As := [.ref hb1, .int (nI 8)]) (rest := []) ⟨hx, hb, hml, hown, hts⟩ (metX0_word l G cB cL hb1 16 fb 8 (by decide) (by decide)) (va_cwS 2 hts (lw_S q245 q246 q9 q247) rfl rfl rfl (by decide +kernel) ⟨Nat.le_of_ble_eq_true rfl, Nat.le_of_ble_eq_true rfl⟩) (rc_RdS (hP.sub (ws' := [(hb1, .inl (cB, 16, .inl fb))]) [0] rfl) hK [.ref hb1, .int (nI 8)]) rfl rfl hl.1 rfl (lv_room (Nat.le_of_ble_eq_true rfl)) dX0_opened_20 ⟨(Nat.le_of_ble_eq_true rfl), (Nat.le_of_ble_eq_true rfl)⟩) (fun w8 hw8 => ?_)
  subst hw8
  refine lv_lstore (lv' := [(6, .long (rc_wd fb 8)), (4, .long (rc_wd fb 0)), (3, .ref qo), (2, .ref qz), (0, .ref hk), (1, .ref hb1)]) hx hb dX0_opened_23 hl (by decide) rfl (fun ls hl => ?_)
  refine lv_bipush (v := nI 12) hx hb dX0_opened_25 (by decide) ?_
  refine lv_istore (lv' := [(8, .int (nI 12)), (6, .long (rc_wd fb 8)), (4, .long (rc_wd fb 0)), (3, .ref qo), (2, .ref qz), (0, .ref hk), (1, .ref hb1)]) hx hb dX0_opened_27 hl (by decide) rfl (fun ls hl => ?_)
  exact loop qz qo 12 (Nat.le_refl _) _ _ rfl H _ ls (hP.sub [1, 0, 2, 3] rfl) (hD.sub [1, 0, 2, 3] (by decide) rfl) hS (lv_sub hl [4, 3, 2, 1, 0] rfl)
abbrev rmX0_isOut : Room := { frames := 1, cells := 0, slots := 0, locals := 21 }
set_option maxHeartbeats 4000000 in
set_option maxRecDepth 100000 in
theorem metX0_isOut (l : Launch) (G : va_G) (cB cL : ClassId) (h0 a1 b1 c1 hu : Nat) (fo fu : Nat → Int32) (x : Int32) (he : ∀ j, j < 16 → fo j = fu j) : Met l yX0_isOut (ws_ yX0_isOut cX0_isOut 5 (some .boolean)) rmX0_isOut (va_Pc [.ref h0, .ref hu, .int x] (rc_Rd G vwCl [(h0, .inr (0, [.ref a1, .ref b1, .ref c1])), (c1, .inl (cB, 16, .inl fo)), (hu, .inl (cB, 16, .inl fu))] [(cB, .byte), (cL, .long)])) (vp_Si (fun r => r = nI 1)) 0 0 (fun _ => False) := by
  refine rc_start (by decide) (Nat.le_of_ble_eq_true rfl) ?_
  intro p e s m args below meth cD Q hx hb hr hml hown hnm hlocks hts hv hQ ls hl
  obtain ⟨hP, hK⟩ := hv
  have hown : s.vm.findClass RX0 = some m.cls := hown
  have hl : lv_has ls 5 [(0, .ref h0), (1, .ref hu), (2, .int x)] := hl
  have loop : ∀ (n k : Nat), k + n = 16 → ∀ ls : Array Slot, lv_has ls 5 [(0, .ref h0), (1, .ref hu), (3, .int (nI 1)), (4, .int (nI k))] → W p l e rmX0_isOut s m args below meth cD s.heap [] 0 0 Q (F0 m 27 ls []) := by
    intro n
    induction n with
    | zero =>
      intro k hk ls hl
      obtain rfl : k = 16 := by omega
      refine lv_iload hx hb dX0_isOut_27 (lv_at hl 3 rfl) ?_
      refine lv_bipush (v := nI 16) hx hb dX0_isOut_29 (by decide) ?_
      refine lv_icmp_ge (tgt := 67) hx hb dX0_isOut_31 (by decide) (fun hc => ?_) (fun hc => ?_)
      · refine lv_iload_n hx hb dX0_isOut_67 rfl (lv_at hl 2 rfl) ?_
        exact rc_szret hx hb hr rfl hlocks hQ (rfl) dX0_isOut_68
      · exact absurd (by decide) hc
    | succ n ih =>
      intro k hk ls hl
      have h16 : (nI k).toBitVec.toNat % 16 = k := by
        rw [pk_tn (by omega)]
        exact Nat.mod_eq_of_lt (by omega)
      refine lv_iload hx hb dX0_isOut_27 (lv_at hl 3 rfl) ?_
      refine lv_bipush (v := nI 16) hx hb dX0_isOut_29 (by decide) ?_
      refine lv_icmp_ge (tgt := 67) hx hb dX0_isOut_31 (by decide) (fun hc => ?_) (fun hc => ?_)
      · exact absurd hc (nI_ge (b := 16) (by omega) (by decide))
      · refine lv_iload_n hx hb dX0_isOut_34 rfl (lv_at hl 2 rfl) ?_
        refine lv_if_eq (tgt := 59) hx hb dX0_isOut_35 (by decide) (fun hc2 => ?_) (fun hc2 => ?_)
        · exact absurd hc2 (by decide)
        · refine lv_aload_n hx hb dX0_isOut_38 rfl (lv_at hl 0 rfl) ?_
          refine lv_iload hx hb dX0_isOut_39 (lv_at hl 3 rfl) ?_
          refine vp_callSi (W.runV (As := [.int (nI k)]) (rest := []) ⟨hx, hb, hml, hown, hts⟩ (metX1_out l G cB cL h0 a1 b1 c1 fo (nI k)) (cwV 1 hts (lw_V q266 q267 q268 q10 q269) rfl rfl rfl (by decide +kernel) ⟨Nat.le_of_ble_eq_true rfl, Nat.le_of_ble_eq_true rfl⟩) (rc_RdV (va_recv hK hP (ci := 0) (q0 := 0) rfl rfl) (hP.sub (ws' := [(h0, .inr (0, [.ref a1, .ref b1, .ref c1])), (c1, .inl (cB, 16, .inl fo))]) [0, 1] rfl) hK [.int (nI k)]) rfl rfl hl.1 rfl (lv_room (Nat.le_of_ble_eq_true rfl)) dX0_isOut_41 ⟨(Nat.le_of_ble_eq_true rfl), (Nat.le_of_ble_eq_true rfl)⟩) (fun r1 hr1 => ?_)
          refine lv_aload_n hx hb dX0_isOut_44 rfl (lv_at hl 1 rfl) ?_
          refine lv_iload hx hb dX0_isOut_45 (lv_at hl 3 rfl) ?_
          refine rc_bald hx hb hK hP 2 0 rfl rfl k rfl (by omega) (by decide) dX0_isOut_47 ?_
          refine lv_sipush (v := 255) hx hb dX0_isOut_48 (by decide) ?_
          refine lv_iand hx hb dX0_isOut_51 ?_
          refine lv_icmp_ne (tgt := 59) hx hb dX0_isOut_52 (by decide) (fun hc3 => ?_) (fun hc3 => ?_)
          · exact absurd (by rw [hr1, h16, he k (by omega)]) hc3
          · refine lv_iconst (v := nI 1) hx hb dX0_isOut_55 (by decide) ?_
            refine lv_goto (tgt := 60) hx hb dX0_isOut_56 (by decide) ?_
            refine lv_istore_n (lv' := [(3, .int (nI 1)), (0, .ref h0), (1, .ref hu), (4, .int (nI k))]) hx hb dX0_isOut_60 rfl hl (by decide) rfl (fun ls hl => ?_)
            refine lv_iinc (v := nI (k + 1)) (lv' := [(4, .int (nI (k + 1))), (3, .int (nI 1)), (0, .ref h0), (1, .ref hu)]) hx hb dX0_isOut_61 hl (k := 3) rfl (nI_1 k) (by decide) rfl (fun ls hl => ?_)
            refine lv_goto (tgt := 27) hx hb dX0_isOut_64 (by decide) ?_
            exact ih (k + 1) (by omega) ls (lv_sub hl [2, 3, 1, 0] rfl)
  refine lv_aload_n hx hb dX0_isOut_0 rfl (lv_at hl 0 rfl) ?_
  refine lv_iload_n hx hb dX0_isOut_1 rfl (lv_at hl 2 rfl) ?_
  refine vp_callSi (W.runV (As := [.int x]) (rest := []) ⟨hx, hb, hml, hown, hts⟩ (metX1_out l G cB cL h0 a1 b1 c1 fo x) (cwV 1 hts (lw_V q266 q267 q268 q10 q269) rfl rfl rfl (by decide +kernel) ⟨Nat.le_of_ble_eq_true rfl, Nat.le_of_ble_eq_true rfl⟩) (rc_RdV (va_recv hK hP (ci := 0) (q0 := 0) rfl rfl) (hP.sub (ws' := [(h0, .inr (0, [.ref a1, .ref b1, .ref c1])), (c1, .inl (cB, 16, .inl fo))]) [0, 1] rfl) hK [.int x]) rfl rfl hl.1 rfl (lv_room (Nat.le_of_ble_eq_true rfl)) dX0_isOut_2 ⟨(Nat.le_of_ble_eq_true rfl), (Nat.le_of_ble_eq_true rfl)⟩) (fun r1 hr1 => ?_)
  refine lv_aload_n hx hb dX0_isOut_5 rfl (lv_at hl 1 rfl) ?_
  refine lv_iload_n hx hb dX0_isOut_6 rfl (lv_at hl 2 rfl) ?_
  refine lv_bipush (v := 15) hx hb dX0_isOut_7 (by decide) ?_
  refine lv_iand hx hb dX0_isOut_9 ?_
  refine rc_bald hx hb hK hP 2 0 rfl rfl (x.toBitVec.toNat % 16) (pk_and x 4 (by decide)) (Nat.mod_lt _ (by decide)) (by decide) dX0_isOut_10 ?_
  refine lv_sipush (v := 255) hx hb dX0_isOut_11 (by decide) ?_
  refine lv_iand hx hb dX0_isOut_14 ?_
  refine lv_icmp_ne (tgt := 22) hx hb dX0_isOut_15 (by decide) (fun hc => ?_) (fun hc => ?_)
  · exact absurd (by rw [hr1, he _ (Nat.mod_lt _ (by decide))]) hc
  · refine lv_iconst (v := nI 1) hx hb dX0_isOut_18 (by decide) ?_
    refine lv_goto (tgt := 23) hx hb dX0_isOut_19 (by decide) ?_
    refine lv_istore_n (lv' := [(3, .int (nI 1)), (0, .ref h0), (1, .ref hu), (2, .int x)]) hx hb dX0_isOut_23 rfl hl (by decide) rfl (fun ls hl => ?_)
    refine lv_iconst (v := nI 0) hx hb dX0_isOut_24 (by decide) ?_
    refine lv_istore (lv' := [(4, .int (nI 0)), (3, .int (nI 1)), (0, .ref h0), (1, .ref hu), (2, .int x)]) hx hb dX0_isOut_25 hl (by decide) rfl (fun ls hl => ?_)
    exact loop 16 0 rfl ls (lv_sub hl [2, 3, 1, 0] rfl)
abbrev rmX0_areSame : Room := { frames := 0, cells := 0, slots := 0, locals := 0 }
set_option maxHeartbeats 4000000 in
set_option maxRecDepth 100000 in
theorem metX0_areSame (l : Launch) (G : va_G) (cB cL : ClassId) (ha hb1 : Nat) (f g : Nat → Int32) (he : ∀ j, j < 16 → f j = g j) : Met l yX0_areSame (ws_ yX0_areSame cX0_areSame 4 (some .boolean)) rmX0_areSame (va_Pc [.ref ha, .ref hb1] (rc_Rd G vwCl [(ha, .inl (cB, 16, .inl f)), (hb1, .inl (cB, 16, .inl g))] [(cB, .byte), (cL, .long)])) (vp_Si (fun r => r = nI 1)) 0 0 (fun _ => False) := by
  refine rc_start (by decide) (Nat.le_of_ble_eq_true rfl) ?_
  intro p e s m args below meth cD Q hx hb hr hml hown hnm hlocks hts hv hQ ls hl
  obtain ⟨hP, hK⟩ := hv
  have hown : s.vm.findClass RX0 = some m.cls := hown
  have hl : lv_has ls 4 [(0, .ref ha), (1, .ref hb1)] := hl
  have loop : ∀ (n k : Nat), k + n = 16 → ∀ ls : Array Slot, lv_has ls 4 [(0, .ref ha), (1, .ref hb1), (2, .int (nI 1)), (3, .int (nI k))] → W p l e rmX0_areSame s m args below meth cD s.heap [] 0 0 Q (F0 m 4 ls []) := by
    intro n
    induction n with
    | zero =>
      intro k hk ls hl
      obtain rfl : k = 16 := by omega
      refine lv_iload_n hx hb dX0_areSame_4 rfl (lv_at hl 3 rfl) ?_
      refine lv_bipush (v := nI 16) hx hb dX0_areSame_5 (by decide) ?_
      refine lv_icmp_ge (tgt := 35) hx hb dX0_areSame_7 (by decide) (fun hc => ?_) (fun hc => ?_)
      · refine lv_iload_n hx hb dX0_areSame_35 rfl (lv_at hl 2 rfl) ?_
        exact rc_szret hx hb hr rfl hlocks hQ (rfl) dX0_areSame_36
      · exact absurd (by decide) hc
    | succ n ih =>
      intro k hk ls hl
      refine lv_iload_n hx hb dX0_areSame_4 rfl (lv_at hl 3 rfl) ?_
      refine lv_bipush (v := nI 16) hx hb dX0_areSame_5 (by decide) ?_
      refine lv_icmp_ge (tgt := 35) hx hb dX0_areSame_7 (by decide) (fun hc => ?_) (fun hc => ?_)
      · exact absurd hc (nI_ge (b := 16) (by omega) (by decide))
      · refine lv_iload_n hx hb dX0_areSame_10 rfl (lv_at hl 2 rfl) ?_
        refine lv_if_eq (tgt := 27) hx hb dX0_areSame_11 (by decide) (fun hc2 => ?_) (fun hc2 => ?_)
        · exact absurd hc2 (by decide)
        · refine lv_aload_n hx hb dX0_areSame_14 rfl (lv_at hl 0 rfl) ?_
          refine lv_iload_n hx hb dX0_areSame_15 rfl (lv_at hl 3 rfl) ?_
          refine rc_bald hx hb hK hP 0 0 rfl rfl k rfl (by omega) (by decide) dX0_areSame_16 ?_
          refine lv_aload_n hx hb dX0_areSame_17 rfl (lv_at hl 1 rfl) ?_
          refine lv_iload_n hx hb dX0_areSame_18 rfl (lv_at hl 3 rfl) ?_
          refine rc_bald hx hb hK hP 1 0 rfl rfl k rfl (by omega) (by decide) dX0_areSame_19 ?_
          refine lv_icmp_ne (tgt := 27) hx hb dX0_areSame_20 (by decide) (fun hc3 => ?_) (fun hc3 => ?_)
          · exact absurd (he k (by omega)) hc3
          · refine lv_iconst (v := nI 1) hx hb dX0_areSame_23 (by decide) ?_
            refine lv_goto (tgt := 28) hx hb dX0_areSame_24 (by decide) ?_
            refine lv_istore_n (lv' := [(2, .int (nI 1)), (0, .ref ha), (1, .ref hb1), (3, .int (nI k))]) hx hb dX0_areSame_28 rfl hl (by decide) rfl (fun ls hl => ?_)
            refine lv_iinc (v := nI (k + 1)) (lv' := [(3, .int (nI (k + 1))), (2, .int (nI 1)), (0, .ref ha), (1, .ref hb1)]) hx hb dX0_areSame_29 hl (k := 3) rfl (nI_1 k) (by decide) rfl (fun ls hl => ?_)
            refine lv_goto (tgt := 4) hx hb dX0_areSame_32 (by decide) ?_
            exact ih (k + 1) (by omega) ls (lv_sub hl [2, 3, 1, 0] rfl)
  refine lv_iconst (v := nI 1) hx hb dX0_areSame_0 (by decide) ?_
  refine lv_istore_n (lv' := [(2, .int (nI 1)), (0, .ref ha), (1, .ref hb1)]) hx hb dX0_areSame_1 rfl hl (by decide) rfl (fun ls hl => ?_)
  refine lv_iconst (v := nI 0) hx hb dX0_areSame_2 (by decide) ?_
  refine lv_istore_n (lv' := [(3, .int (nI 0)), (2, .int (nI 1)), (0, .ref ha), (1, .ref hb1)]) hx hb dX0_areSame_3 rfl hl (by decide) rfl (fun ls hl => ?_)
  exact loop 16 0 rfl ls (lv_sub hl [2, 3, 1, 0] rfl)
end
section
-- ===== end of PART A; then your names; then what follows =====
/-! THE CLAIM OUT OF ONE WALK OF THE LAW'S BODY. Your part is whole_start (and what it stands on); all else here is the same for every law, but numbers. -/
def R_law : String := "RcWideDeskLaw"
def lw_P (b : Addr) (xs : List Int32) (args : Array Value) (s : State) : Prop := args = #[.ref b] ∧ s.IntsAt b xs ∧ xs.length ≤ 60 ∧ (Jvm.Cond.and given_1 narrow_1).before args s = true
def lw_Q (_ : Array Value) (s : State) (o : Outcome) (t : State) : Prop := o = .returned (some (.int 1)) ∧ Framed s o t [] 1200120 5501170
def lw_Z (below : List Frame) (a : Array Value) (s : State) : State → Prop := fun t => ∃ o, t.status = .running ∧ Ended t below o ∧ lw_Q a s o t
/-- the law's own end, with 1 on the stack, nothing written that was there before, its room as the claim has it -/
theorem lw_ret {p : Program} {l : Launch} {e : Env} {s : State} {m : MethodId} {below : List Frame} {meth : Method} {c : Code} {b : Nat} (hx : p.tables.exec = Jvm.exec) (hb : c.code = code) (hr : meth.sig.returnType = ret) (hlocks : meth.locks = false) {pc : Nat} {H : Heap} {ls : Array Slot} (hdg : decode code pc = .ok (.ireturn, 1)) : W p l e room_1 s m #[Value.ref b] below meth c H [] 1200120 5501170 (lw_Z below #[Value.ref b] s) (F0 m pc ls [.int 1]) := by
  intro T hT X
  obtain ⟨fs, hret, hrun, hended, hW, hframe⟩ := X.leave (v := some (.int 1)) (hlocks := hlocks) (fun h => by rw [hr] at h; cases h)
  have hmeth' : T.vm.method? m = some meth := X.method'
  refine ⟨T.setFrames fs, ?_, .returned (some (.int 1)), hrun, hended, rfl, ⟨_, rfl⟩, hW, hframe⟩
  jvm_step X.here [X.here.top, hx, hb, hdg, hmeth', hr, ret, narrow_b1]
  (try refine ⟨rfl, ?_⟩); (try refine ⟨rfl, ?_⟩)
  first | (intro acts; rw [hret _ acts rfl rfl rfl]) | rw [hret _ _ rfl rfl rfl]
  exact Steps.refl _
/-- what holds at the law's entry: the machine, the code, the tables' words (any of lw_tbl by 'hts w (by decide +kernel)'), the script of L ints xs at the cell b, what the Statement gives of the start (any of its parts by flat_of_before) -/
def lw_At (p : Program) (s : State) (m : MethodId) (meth : Method) (c : Code) (b L : Nat) (xs : Nat → Int32) : Prop :=
  p.tables.exec = Jvm.exec ∧ c.code = code ∧ meth.sig.returnType = ret ∧ c.maxLocals = 12 ∧ s.vm.findClass R_law = some m.cls ∧ (∀ w ∈ lw_tbl, w.before #[Value.ref b] s = true) ∧ va_X b L xs s s.heap ∧ b < s.heap.size ∧ meth.locks = false ∧ (Jvm.Cond.and given_1 narrow_1).before #[Value.ref b] s = true
/-- the law lays the key's half int by int -/
def rc_lk (f : Nat → Int32) (o : Nat) (w : Nat → Int32) : Nat → (Nat → Int32)
  | 0 => f
  | k + 1 => rc_lay (rc_lk f o w k) (o + 4 * k) (w k)
set_option maxHeartbeats 4000000 in
set_option maxRecDepth 100000 in
/-- a round of the law from its locking on -/
theorem lw_bodyE {p : Program} {e : Env} {s : State} {m : MethodId} {below : List Frame} {meth : Method} {cD : Code} (l : Launch) (G : va_G) (cB cL : ClassId) {b Ln : Nat} {xs : Nat → Int32} (hL : Ln ≤ 60) (C0 : lw_At p s m meth cD b Ln xs) (hK : va_K G vwCl [(cB, .byte), (cL, .long)] s) (A : Nat → Prop) (hA : ∀ q : Nat, s.heap.size ≤ q → A q) (hA2 : ∀ q : Nat, A q → s.heap.size ≤ q) (hbA : ¬ A b) (qd a1 b1 c1 lk n i : Nat) (hi : i + (n + 1) = 10) (xv vv : Int32) (ih : ∀ (cc sl : Nat), cc + 19 * n ≤ 1000 → sl + 234 * n ≤ 10000 → ∀ (fk fb fo : Nat → Int32), (∀ j, rc_B (fk j)) → (∀ j, rc_B (fb j)) → ∀ (lb : Nat) (H : Heap) (locs : List Loc) (ls : Array Slot), va_P G vwCl [(qd, .inr (0, [.ref a1, .ref b1, .ref c1])), (a1, .inl (cB, 32, .inl fk)), (b1, .inl (cB, 16, .inl fb)), (c1, .inl (cB, 16, .inl fo)), (lk, .inl (cB, 32, .inl fk)), (lb, .inl (cB, 16, .inl fb))] H → va_D A [(qd, .inr (0, [.ref a1, .ref b1, .ref c1])), (a1, .inl (cB, 32, .inl fk)), (b1, .inl (cB, 16, .inl fb)), (c1, .inl (cB, 16, .inl fo)), (lk, .inl (cB, 32, .inl fk)), (lb, .inl (cB, 16, .inl fb))] → va_S A s.heap H locs → lv_has ls 12 [(0, .ref b), (1, .ref qd), (2, .ref lk), (3, .ref lb), (5, .int (nI (i + 1)))] → W p l e room_1 s m #[Value.ref b] below meth cD H locs (cc) (sl) (lw_Z below #[Value.ref b] s) (F0 m 43 ls [])) :
    ∀ (cc sl : Nat), cc + 19 * (n + 1) ≤ 1000 → sl + 234 * (n + 1) ≤ 10000 → ∀ (fk fb fo : Nat → Int32), (∀ j, rc_B (fk j)) → (∀ j, rc_B (fb j)) → ∀ (lb : Nat) (H : Heap) (locs : List Loc) (ls : Array Slot), va_P G vwCl [(qd, .inr (0, [.ref a1, .ref b1, .ref c1])), (a1, .inl (cB, 32, .inl fk)), (b1, .inl (cB, 16, .inl fb)), (c1, .inl (cB, 16, .inl fo)), (lk, .inl (cB, 32, .inl fk)), (lb, .inl (cB, 16, .inl fb))] H → va_D A [(qd, .inr (0, [.ref a1, .ref b1, .ref c1])), (a1, .inl (cB, 32, .inl fk)), (b1, .inl (cB, 16, .inl fb)), (c1, .inl (cB, 16, .inl fo)), (lk, .inl (cB, 32, .inl fk)), (lb, .inl (cB, 16, .inl fb))] → va_S A s.heap H locs → lv_has ls 12 [(0, .ref b), (1, .ref qd), (2, .ref lk), (3, .ref lb), (5, .int (nI i)), (6, .int xv), (7, .int vv)] → W p l e room_1 s m #[Value.ref b] below meth cD H locs (cc) (sl) (lw_Z below #[Value.ref b] s) (F0 m 288 ls [.int (nI 1)]) := by
  obtain ⟨hx, hb, hr, hml, hown, hts0, hX, hbl, hlocks, hgv⟩ := C0
  have hts : ∀ w ∈ lw_all, w.before #[Value.ref b] s = true := fun w h => hts0 w (lw_all_tbl h)
  have hFw : rc_Fw s := ⟨va_Fw.of (hts0 _ q159) (hts0 _ q158) (hts0 _ q164) (hts0 _ q162) (hts0 _ q160), va_Fw.of (hts0 _ q194) (hts0 _ q193) (hts0 _ q198) (hts0 _ q196) (hts0 _ q160)⟩
  have hL31 : Ln < 2 ^ 31 := by omega
  have hRc : room_1.cells = 1200120 := rfl
  have hRs : room_1.slots = 5501170 := rfl
  intro cc sl hcc hsl fk fb fo hfk hfb lb H locs ls hP hD hS hl
  refine lv_istore (lv' := [(9, .int (nI 1)), (0, .ref b), (1, .ref qd), (2, .ref lk), (3, .ref lb), (5, .int (nI i)), (6, .int xv), (7, .int vv)]) hx hb dL_law_288 hl (by decide) rfl (fun ls hl => ?_)
  refine lv_iload hx hb dL_law_290 (lv_at hl 0 rfl) ?_
  refine lv_if_eq (tgt := 304) hx hb dL_law_292 (by decide) (fun hc => ?_) (fun hc => ?_)
  · exact absurd hc (by decide)
  · refine lv_aload_n hx hb dL_law_295 rfl (lv_at hl 2 rfl) ?_
    refine lv_iload hx hb dL_law_296 (lv_at hl 7 rfl) ?_
    refine rc_callv (va_runV (As := [.int vv]) (rest := []) ⟨hx, hb, hml, hown, hts⟩ (metX1_lock l G cB cL H.size qd a1 b1 c1 fk fb fo hfk vv) (cwV 1 hts (lw_V q48 q49 q50 q10 q51) rfl rfl rfl (by decide +kernel) ⟨Nat.le_of_ble_eq_true rfl, Nat.le_of_ble_eq_true rfl⟩) (rc_WxV hFw (va_recv hK hP (ci := 0) (q0 := 0) rfl rfl) (hP.sub (ws' := [(qd, .inr (0, [.ref a1, .ref b1, .ref c1])), (a1, .inl (cB, 32, .inl fk)), (b1, .inl (cB, 16, .inl fb)), (c1, .inl (cB, 16, .inl fo))]) [0, 1, 2, 3] rfl) hK (hD.sub (ws' := [(qd, .inr (0, [.ref a1, .ref b1, .ref c1])), (a1, .inl (cB, 32, .inl fk)), (b1, .inl (cB, 16, .inl fb)), (c1, .inl (cB, 16, .inl fo))]) [0, 1, 2, 3] (by decide) rfl) [.int vv]) rfl rfl hl.1 rfl (lv_room (Nat.le_of_ble_eq_true rfl)) dL_law_298 ⟨(by omega), (by omega)⟩) hP hD hS hA [0, 1, 2, 3] [4, 5] (wr := [(lk, .inl (cB, 32, .inl fk)), (lb, .inl (cB, 16, .inl fb))]) rfl rfl (by decide) (by decide) (fun w1 hw H locs hP hD hS => ?_)
    obtain rfl := hw
    have hP : va_P G vwCl [(lk, .inl (cB, 32, .inl fk)), (lb, .inl (cB, 16, .inl fb)), (qd, .inr (0, [.ref a1, .ref b1, .ref c1])), (a1, .inl (cB, 32, .inl fk)), (b1, .inl (cB, 16, .inl fb)), (c1, .inl (cB, 16, .inl (rc_E fk fb)))] H := hP
    have hD : va_D A [(lk, .inl (cB, 32, .inl fk)), (lb, .inl (cB, 16, .inl fb)), (qd, .inr (0, [.ref a1, .ref b1, .ref c1])), (a1, .inl (cB, 32, .inl fk)), (b1, .inl (cB, 16, .inl fb)), (c1, .inl (cB, 16, .inl (rc_E fk fb)))] := hD
    refine lv_goto (tgt := 310) hx hb dL_law_301 (by decide) ?_
    refine lv_iload hx hb dL_law_310 (lv_at hl 0 rfl) ?_
    refine lv_if_eq (tgt := 323) hx hb dL_law_312 (by decide) (fun hc => ?_) (fun hc => ?_)
    · exact absurd hc (by decide)
    · refine lv_aload_n hx hb dL_law_315 rfl (lv_at hl 3 rfl) ?_
      refine lv_aload_n hx hb dL_law_316 rfl (lv_at hl 4 rfl) ?_
      refine rc_callr (va_runS (As := [.ref lk, .ref lb]) (rest := []) ⟨hx, hb, hml, hown, hts⟩ (metX0_locked l G cB cL H.size lk lb fk fb) (va_cwS 2 hts (lw_S q239 q240 q9 q241) rfl rfl rfl (by decide +kernel) ⟨Nat.le_of_ble_eq_true rfl, Nat.le_of_ble_eq_true rfl⟩) (rc_WrS (hP.sub (ws' := [(lk, .inl (cB, 32, .inl fk)), (lb, .inl (cB, 16, .inl fb))]) [0, 1] rfl) hK (hD.sub (ws' := [(lk, .inl (cB, 32, .inl fk)), (lb, .inl (cB, 16, .inl fb))]) [0, 1] (by decide) rfl) [.ref lk, .ref lb]) rfl rfl hl.1 rfl (lv_room (Nat.le_of_ble_eq_true rfl)) dL_law_317 ⟨(by omega), (by omega)⟩) hP hD hS hA [0, 1] [2, 3, 4, 5] (wr := [(qd, .inr (0, [.ref a1, .ref b1, .ref c1])), (a1, .inl (cB, 32, .inl fk)), (b1, .inl (cB, 16, .inl fb)), (c1, .inl (cB, 16, .inl (rc_E fk fb)))]) rfl rfl (by decide) (by decide) (fun lo w1 hw H locs hP hD hS => ?_)
      obtain rfl := hw
      have hP : va_P G vwCl [(qd, .inr (0, [.ref a1, .ref b1, .ref c1])), (a1, .inl (cB, 32, .inl fk)), (b1, .inl (cB, 16, .inl fb)), (c1, .inl (cB, 16, .inl (rc_E fk fb))), (lk, .inl (cB, 32, .inl fk)), (lb, .inl (cB, 16, .inl fb)), (lo, .inl (cB, 16, .inl (rc_E fk fb)))] H := hP
      have hD : va_D A [(qd, .inr (0, [.ref a1, .ref b1, .ref c1])), (a1, .inl (cB, 32, .inl fk)), (b1, .inl (cB, 16, .inl fb)), (c1, .inl (cB, 16, .inl (rc_E fk fb))), (lk, .inl (cB, 32, .inl fk)), (lb, .inl (cB, 16, .inl fb)), (lo, .inl (cB, 16, .inl (rc_E fk fb)))] := hD
      refine lv_goto (tgt := 328) hx hb dL_law_320 (by decide) ?_
      refine lv_astore (lv' := [(4, .ref lo), (9, .int (nI 1)), (0, .ref b), (1, .ref qd), (2, .ref lk), (3, .ref lb), (5, .int (nI i)), (6, .int xv), (7, .int vv)]) hx hb dL_law_328 hl (by decide) rfl (fun ls hl => ?_)
      refine lv_aload_n hx hb dL_law_330 rfl (lv_at hl 3 rfl) ?_
      refine lv_aload hx hb dL_law_331 (lv_at hl 0 rfl) ?_
      refine lv_iload hx hb dL_law_333 (lv_at hl 8 rfl) ?_
      refine vp_callSi (W.runS (As := [.ref qd, .ref lo, .int vv]) (rest := []) ⟨hx, hb, hml, hown, hts⟩ (metX0_isOut l G cB cL qd a1 b1 c1 lo (rc_E fk fb) (rc_E fk fb) (vv) (fun _ _ => rfl)) (va_cwS 3 hts (lw_S q263 q264 q9 q265) rfl rfl rfl (by decide +kernel) ⟨Nat.le_of_ble_eq_true rfl, Nat.le_of_ble_eq_true rfl⟩) (rc_RdS (hP.sub (ws' := [(qd, .inr (0, [.ref a1, .ref b1, .ref c1])), (c1, .inl (cB, 16, .inl (rc_E fk fb))), (lo, .inl (cB, 16, .inl (rc_E fk fb)))]) [0, 3, 6] rfl) hK [.ref qd, .ref lo, .int vv]) rfl rfl hl.1 rfl (lv_room (Nat.le_of_ble_eq_true rfl)) dL_law_335 ⟨(by omega), (by omega)⟩) (fun r1 hr1 => ?_)
      subst hr1
      refine lv_if_ne (tgt := 343) hx hb dL_law_338 (by decide) (fun hc => ?_) (fun hc => ?_)
      · refine lv_aload_n hx hb dL_law_343 rfl (lv_at hl 5 rfl) ?_
        refine lv_astore (lv' := [(10, .ref lb), (4, .ref lo), (9, .int (nI 1)), (0, .ref b), (1, .ref qd), (2, .ref lk), (3, .ref lb), (5, .int (nI i)), (6, .int xv), (7, .int vv)]) hx hb dL_law_344 hl (by decide) rfl (fun ls hl => ?_)
        refine lv_aload_n hx hb dL_law_346 rfl (lv_at hl 4 rfl) ?_
        refine rc_callv (va_runV (As := []) (rest := []) ⟨hx, hb, hml, hown, hts⟩ (metX1_again l G cB cL H.size qd a1 b1 c1 fb (rc_E fk fb) (rc_B_E fk fb)) (cwV 0 hts (lw_V q225 q226 q227 q10 q228) rfl rfl rfl (by decide +kernel) ⟨Nat.le_of_ble_eq_true rfl, Nat.le_of_ble_eq_true rfl⟩) (rc_WrV (va_recv hK hP (ci := 0) (q0 := 0) rfl rfl) (hP.sub (ws' := [(qd, .inr (0, [.ref a1, .ref b1, .ref c1])), (b1, .inl (cB, 16, .inl fb)), (c1, .inl (cB, 16, .inl (rc_E fk fb)))]) [0, 2, 3] rfl) hK (hD.sub (ws' := [(qd, .inr (0, [.ref a1, .ref b1, .ref c1])), (b1, .inl (cB, 16, .inl fb)), (c1, .inl (cB, 16, .inl (rc_E fk fb)))]) [0, 2, 3] (by decide) rfl) []) rfl rfl hl.1 rfl (lv_room (Nat.le_of_ble_eq_true rfl)) dL_law_347 ⟨(by omega), (by omega)⟩) hP hD hS hA [0, 2, 3] [1, 4, 5, 6] (wr := [(a1, .inl (cB, 32, .inl fk)), (lk, .inl (cB, 32, .inl fk)), (lb, .inl (cB, 16, .inl fb)), (lo, .inl (cB, 16, .inl (rc_E fk fb)))]) rfl rfl (by decide) (by decide) (fun w1 hw H locs hP hD hS => ?_)
        obtain rfl := hw
        have hP : va_P G vwCl [(a1, .inl (cB, 32, .inl fk)), (lk, .inl (cB, 32, .inl fk)), (lb, .inl (cB, 16, .inl fb)), (lo, .inl (cB, 16, .inl (rc_E fk fb))), (qd, .inr (0, [.ref a1, .ref b1, .ref c1])), (b1, .inl (cB, 16, .inl (rc_E fk fb))), (c1, .inl (cB, 16, .inl (rc_E fk fb)))] H := hP
        have hD : va_D A [(a1, .inl (cB, 32, .inl fk)), (lk, .inl (cB, 32, .inl fk)), (lb, .inl (cB, 16, .inl fb)), (lo, .inl (cB, 16, .inl (rc_E fk fb))), (qd, .inr (0, [.ref a1, .ref b1, .ref c1])), (b1, .inl (cB, 16, .inl (rc_E fk fb))), (c1, .inl (cB, 16, .inl (rc_E fk fb)))] := hD
        refine lv_bipush (v := nI 16) hx hb dL_law_350 (by decide) ?_
        refine rc_newB hx hb (hts _ q36) hK hP hD hS hA 16 rfl (by decide) (by omega) (by omega) dL_law_352 (fun lb2 H hP hD hS => ?_)
        have hP : va_P G vwCl [(a1, .inl (cB, 32, .inl fk)), (lk, .inl (cB, 32, .inl fk)), (lb, .inl (cB, 16, .inl fb)), (lo, .inl (cB, 16, .inl (rc_E fk fb))), (qd, .inr (0, [.ref a1, .ref b1, .ref c1])), (b1, .inl (cB, 16, .inl (rc_E fk fb))), (c1, .inl (cB, 16, .inl (rc_E fk fb))), (lb2, .inl (cB, 16, .inl (fun _ => 0)))] H := hP
        have hD : va_D A [(a1, .inl (cB, 32, .inl fk)), (lk, .inl (cB, 32, .inl fk)), (lb, .inl (cB, 16, .inl fb)), (lo, .inl (cB, 16, .inl (rc_E fk fb))), (qd, .inr (0, [.ref a1, .ref b1, .ref c1])), (b1, .inl (cB, 16, .inl (rc_E fk fb))), (c1, .inl (cB, 16, .inl (rc_E fk fb))), (lb2, .inl (cB, 16, .inl (fun _ => 0)))] := hD
        refine lv_astore_n (lv' := [(3, .ref lb2), (10, .ref lb), (4, .ref lo), (9, .int (nI 1)), (0, .ref b), (1, .ref qd), (2, .ref lk), (5, .int (nI i)), (6, .int xv), (7, .int vv)]) hx hb dL_law_354 rfl hl (by decide) rfl (fun ls hl => ?_)
        refine lv_iconst (v := nI 0) hx hb dL_law_355 (by decide) ?_
        refine lv_istore (lv' := [(11, .int (nI 0)), (3, .ref lb2), (10, .ref lb), (4, .ref lo), (9, .int (nI 1)), (0, .ref b), (1, .ref qd), (2, .ref lk), (5, .int (nI i)), (6, .int xv), (7, .int vv)]) hx hb dL_law_356 hl (by decide) rfl (fun ls hl => ?_)
        have loopc : ∀ (nn k : Nat), k + nn = 16 → ∀ (H : Heap) (locs : List Loc) (ls : Array Slot), va_P G vwCl [(a1, .inl (cB, 32, .inl fk)), (lk, .inl (cB, 32, .inl fk)), (lb, .inl (cB, 16, .inl fb)), (lo, .inl (cB, 16, .inl (rc_E fk fb))), (qd, .inr (0, [.ref a1, .ref b1, .ref c1])), (b1, .inl (cB, 16, .inl (rc_E fk fb))), (c1, .inl (cB, 16, .inl (rc_E fk fb))), (lb2, .inl (cB, 16, .inl (rc_cp (rc_E fk fb) (fun _ => 0) k)))] H → va_D A [(a1, .inl (cB, 32, .inl fk)), (lk, .inl (cB, 32, .inl fk)), (lb, .inl (cB, 16, .inl fb)), (lo, .inl (cB, 16, .inl (rc_E fk fb))), (qd, .inr (0, [.ref a1, .ref b1, .ref c1])), (b1, .inl (cB, 16, .inl (rc_E fk fb))), (c1, .inl (cB, 16, .inl (rc_E fk fb))), (lb2, .inl (cB, 16, .inl (rc_cp (rc_E fk fb) (fun _ => 0) k)))] → va_S A s.heap H locs → lv_has ls 12 [(0, .ref b), (1, .ref qd), (2, .ref lk), (3, .ref lb2), (4, .ref lo), (5, .int (nI i)), (6, .int xv), (7, .int vv), (9, .int (nI 1)), (10, .ref lb), (11, .int (nI k))] → W p l e room_1 s m #[Value.ref b] below meth cD H locs (cc + 6 + 3 + 0 + 1) (sl + 65 + 44 + 0 + 16) (lw_Z below #[Value.ref b] s) (F0 m 358 ls []) := by
          intro nn
          induction nn with
          | zero =>
            intro k hk H locs ls hP hD hS hl
            obtain rfl : k = 16 := by omega
            refine lv_iload hx hb dL_law_358 (lv_at hl 10 rfl) ?_
            refine lv_bipush (v := nI 16) hx hb dL_law_360 (by decide) ?_
            refine lv_icmp_ge (tgt := 380) hx hb dL_law_362 (by decide) (fun hc => ?_) (fun hc => ?_)
            · obtain ⟨hP, hD⟩ := rc_ext hP hD 7 rfl (rc_E fk fb) (fun j hj => rc_cp_at _ _ hj)
              have hP : va_P G vwCl [(a1, .inl (cB, 32, .inl fk)), (lk, .inl (cB, 32, .inl fk)), (lb, .inl (cB, 16, .inl fb)), (lo, .inl (cB, 16, .inl (rc_E fk fb))), (qd, .inr (0, [.ref a1, .ref b1, .ref c1])), (b1, .inl (cB, 16, .inl (rc_E fk fb))), (c1, .inl (cB, 16, .inl (rc_E fk fb))), (lb2, .inl (cB, 16, .inl (rc_E fk fb)))] H := hP
              have hD : va_D A [(a1, .inl (cB, 32, .inl fk)), (lk, .inl (cB, 32, .inl fk)), (lb, .inl (cB, 16, .inl fb)), (lo, .inl (cB, 16, .inl (rc_E fk fb))), (qd, .inr (0, [.ref a1, .ref b1, .ref c1])), (b1, .inl (cB, 16, .inl (rc_E fk fb))), (c1, .inl (cB, 16, .inl (rc_E fk fb))), (lb2, .inl (cB, 16, .inl (rc_E fk fb)))] := hD
              refine lv_aload_n hx hb dL_law_380 rfl (lv_at hl 1 rfl) ?_
              refine lv_aload hx hb dL_law_381 (lv_at hl 4 rfl) ?_
              refine lv_iload hx hb dL_law_383 (lv_at hl 6 rfl) ?_
              refine vp_callSi (W.runS (As := [.ref qd, .ref lo, .int xv]) (rest := []) ⟨hx, hb, hml, hown, hts⟩ (metX0_isOut l G cB cL qd a1 b1 c1 lo (rc_E fk fb) (rc_E fk fb) (xv) (fun _ _ => rfl)) (va_cwS 3 hts (lw_S q263 q264 q9 q265) rfl rfl rfl (by decide +kernel) ⟨Nat.le_of_ble_eq_true rfl, Nat.le_of_ble_eq_true rfl⟩) (rc_RdS (hP.sub (ws' := [(qd, .inr (0, [.ref a1, .ref b1, .ref c1])), (c1, .inl (cB, 16, .inl (rc_E fk fb))), (lo, .inl (cB, 16, .inl (rc_E fk fb)))]) [4, 6, 3] rfl) hK [.ref qd, .ref lo, .int xv]) rfl rfl hl.1 rfl (lv_room (Nat.le_of_ble_eq_true rfl)) dL_law_385 ⟨(by omega), (by omega)⟩) (fun r1 hr1 => ?_)
              subst hr1
              refine lv_if_ne (tgt := 393) hx hb dL_law_388 (by decide) (fun hc => ?_) (fun hc => ?_)
              · refine lv_iload hx hb dL_law_393 (lv_at hl 8 rfl) ?_
                refine lv_if_eq (tgt := 407) hx hb dL_law_395 (by decide) (fun hc => ?_) (fun hc => ?_)
                · exact absurd hc (by decide)
                · refine lv_aload_n hx hb dL_law_398 rfl (lv_at hl 1 rfl) ?_
                  refine lv_iload hx hb dL_law_399 (lv_at hl 6 rfl) ?_
                  refine rc_callv (va_runV (As := [.int xv]) (rest := []) ⟨hx, hb, hml, hown, hts⟩ (metX1_open l G cB cL H.size qd a1 b1 c1 fk (rc_E fk fb) (rc_E fk fb) hfk xv) (cwV 1 hts (lw_V q221 q222 q223 q10 q224) rfl rfl rfl (by decide +kernel) ⟨Nat.le_of_ble_eq_true rfl, Nat.le_of_ble_eq_true rfl⟩) (rc_WxV hFw (va_recv hK hP (ci := 0) (q0 := 4) rfl rfl) (hP.sub (ws' := [(qd, .inr (0, [.ref a1, .ref b1, .ref c1])), (a1, .inl (cB, 32, .inl fk)), (b1, .inl (cB, 16, .inl (rc_E fk fb))), (c1, .inl (cB, 16, .inl (rc_E fk fb)))]) [4, 0, 5, 6] rfl) hK (hD.sub (ws' := [(qd, .inr (0, [.ref a1, .ref b1, .ref c1])), (a1, .inl (cB, 32, .inl fk)), (b1, .inl (cB, 16, .inl (rc_E fk fb))), (c1, .inl (cB, 16, .inl (rc_E fk fb)))]) [4, 0, 5, 6] (by decide) rfl) [.int xv]) rfl rfl hl.1 rfl (lv_room (Nat.le_of_ble_eq_true rfl)) dL_law_401 ⟨(by omega), (by omega)⟩) hP hD hS hA [4, 0, 5, 6] [1, 2, 3, 7] (wr := [(lk, .inl (cB, 32, .inl fk)), (lb, .inl (cB, 16, .inl fb)), (lo, .inl (cB, 16, .inl (rc_E fk fb))), (lb2, .inl (cB, 16, .inl (rc_E fk fb)))]) rfl rfl (by decide) (by decide) (fun w1 hw H locs hP hD hS => ?_)
                  obtain rfl := hw
                  have hP : va_P G vwCl [(lk, .inl (cB, 32, .inl fk)), (lb, .inl (cB, 16, .inl fb)), (lo, .inl (cB, 16, .inl (rc_E fk fb))), (lb2, .inl (cB, 16, .inl (rc_E fk fb))), (qd, .inr (0, [.ref a1, .ref b1, .ref c1])), (a1, .inl (cB, 32, .inl fk)), (b1, .inl (cB, 16, .inl (rc_E fk fb))), (c1, .inl (cB, 16, .inl (rc_D fk (rc_E fk fb))))] H := hP
                  have hD : va_D A [(lk, .inl (cB, 32, .inl fk)), (lb, .inl (cB, 16, .inl fb)), (lo, .inl (cB, 16, .inl (rc_E fk fb))), (lb2, .inl (cB, 16, .inl (rc_E fk fb))), (qd, .inr (0, [.ref a1, .ref b1, .ref c1])), (a1, .inl (cB, 32, .inl fk)), (b1, .inl (cB, 16, .inl (rc_E fk fb))), (c1, .inl (cB, 16, .inl (rc_D fk (rc_E fk fb))))] := hD
                  refine lv_goto (tgt := 413) hx hb dL_law_404 (by decide) ?_
                  refine lv_iload hx hb dL_law_413 (lv_at hl 8 rfl) ?_
                  refine lv_if_eq (tgt := 426) hx hb dL_law_415 (by decide) (fun hc => ?_) (fun hc => ?_)
                  · exact absurd hc (by decide)
                  · refine lv_aload_n hx hb dL_law_418 rfl (lv_at hl 2 rfl) ?_
                    refine lv_aload_n hx hb dL_law_419 rfl (lv_at hl 3 rfl) ?_
                    refine rc_callr (va_runS (As := [.ref lk, .ref lb2]) (rest := []) ⟨hx, hb, hml, hown, hts⟩ (metX0_opened l G cB cL H.size lk lb2 fk (rc_E fk fb)) (va_cwS 2 hts (lw_S q260 q261 q9 q262) rfl rfl rfl (by decide +kernel) ⟨Nat.le_of_ble_eq_true rfl, Nat.le_of_ble_eq_true rfl⟩) (rc_WrS (hP.sub (ws' := [(lk, .inl (cB, 32, .inl fk)), (lb2, .inl (cB, 16, .inl (rc_E fk fb)))]) [0, 3] rfl) hK (hD.sub (ws' := [(lk, .inl (cB, 32, .inl fk)), (lb2, .inl (cB, 16, .inl (rc_E fk fb)))]) [0, 3] (by decide) rfl) [.ref lk, .ref lb2]) rfl rfl hl.1 rfl (lv_room (Nat.le_of_ble_eq_true rfl)) dL_law_420 ⟨(by omega), (by omega)⟩) hP hD hS hA [0, 3] [1, 2, 4, 5, 6, 7] (wr := [(lb, .inl (cB, 16, .inl fb)), (lo, .inl (cB, 16, .inl (rc_E fk fb))), (qd, .inr (0, [.ref a1, .ref b1, .ref c1])), (a1, .inl (cB, 32, .inl fk)), (b1, .inl (cB, 16, .inl (rc_E fk fb))), (c1, .inl (cB, 16, .inl (rc_D fk (rc_E fk fb))))]) rfl rfl (by decide) (by decide) (fun lo2 w1 hw H locs hP hD hS => ?_)
                    obtain rfl := hw
                    have hP : va_P G vwCl [(lb, .inl (cB, 16, .inl fb)), (lo, .inl (cB, 16, .inl (rc_E fk fb))), (qd, .inr (0, [.ref a1, .ref b1, .ref c1])), (a1, .inl (cB, 32, .inl fk)), (b1, .inl (cB, 16, .inl (rc_E fk fb))), (c1, .inl (cB, 16, .inl (rc_D fk (rc_E fk fb)))), (lk, .inl (cB, 32, .inl fk)), (lb2, .inl (cB, 16, .inl (rc_E fk fb))), (lo2, .inl (cB, 16, .inl (rc_D fk (rc_E fk fb))))] H := hP
                    have hD : va_D A [(lb, .inl (cB, 16, .inl fb)), (lo, .inl (cB, 16, .inl (rc_E fk fb))), (qd, .inr (0, [.ref a1, .ref b1, .ref c1])), (a1, .inl (cB, 32, .inl fk)), (b1, .inl (cB, 16, .inl (rc_E fk fb))), (c1, .inl (cB, 16, .inl (rc_D fk (rc_E fk fb)))), (lk, .inl (cB, 32, .inl fk)), (lb2, .inl (cB, 16, .inl (rc_E fk fb))), (lo2, .inl (cB, 16, .inl (rc_D fk (rc_E fk fb))))] := hD
                    refine lv_goto (tgt := 431) hx hb dL_law_423 (by decide) ?_
                    refine lv_astore (lv' := [(4, .ref lo2), (0, .ref b), (1, .ref qd), (2, .ref lk), (3, .ref lb2), (5, .int (nI i)), (6, .int xv), (7, .int vv), (9, .int (nI 1)), (10, .ref lb), (11, .int (nI 16))]) hx hb dL_law_431 hl (by decide) rfl (fun ls hl => ?_)
                    refine lv_aload hx hb dL_law_433 (lv_at hl 0 rfl) ?_
                    refine lv_aload hx hb dL_law_435 (lv_at hl 9 rfl) ?_
                    refine vp_callSi (W.runS (As := [.ref lo2, .ref lb]) (rest := []) ⟨hx, hb, hml, hown, hts⟩ (metX0_areSame l G cB cL lo2 lb (rc_D fk (rc_E fk fb)) fb (fun j hj => rc_DE fk fb hfb hj)) (va_cwS 2 hts (lw_S q270 q271 q9 q272) rfl rfl rfl (by decide +kernel) ⟨Nat.le_of_ble_eq_true rfl, Nat.le_of_ble_eq_true rfl⟩) (rc_RdS (hP.sub (ws' := [(lo2, .inl (cB, 16, .inl (rc_D fk (rc_E fk fb)))), (lb, .inl (cB, 16, .inl fb))]) [8, 0] rfl) hK [.ref lo2, .ref lb]) rfl rfl hl.1 rfl (lv_room (Nat.le_of_ble_eq_true rfl)) dL_law_437 ⟨(by omega), (by omega)⟩) (fun r2 hr2 => ?_)
                    subst hr2
                    refine lv_if_eq (tgt := 454) hx hb dL_law_440 (by decide) (fun hc => ?_) (fun hc => ?_)
                    · exact absurd hc (by decide)
                    · refine lv_aload_n hx hb dL_law_443 rfl (lv_at hl 2 rfl) ?_
                      refine lv_aload hx hb dL_law_444 (lv_at hl 9 rfl) ?_
                      refine lv_bipush (v := nI 7) hx hb dL_law_446 (by decide) ?_
                      refine vp_callSi (W.runS (As := [.ref qd, .ref lb, .int (nI 7)]) (rest := []) ⟨hx, hb, hml, hown, hts⟩ (metX0_isOut l G cB cL qd a1 b1 c1 lb (rc_D fk (rc_E fk fb)) (fb) (nI 7) (fun j hj => rc_DE fk fb hfb hj)) (va_cwS 3 hts (lw_S q263 q264 q9 q265) rfl rfl rfl (by decide +kernel) ⟨Nat.le_of_ble_eq_true rfl, Nat.le_of_ble_eq_true rfl⟩) (rc_RdS (hP.sub (ws' := [(qd, .inr (0, [.ref a1, .ref b1, .ref c1])), (c1, .inl (cB, 16, .inl (rc_D fk (rc_E fk fb)))), (lb, .inl (cB, 16, .inl fb))]) [2, 5, 0] rfl) hK [.ref qd, .ref lb, .int (nI 7)]) rfl rfl hl.1 rfl (lv_room (Nat.le_of_ble_eq_true rfl)) dL_law_448 ⟨(by omega), (by omega)⟩) (fun r1 hr1 => ?_)
                      subst hr1
                      refine lv_if_ne (tgt := 456) hx hb dL_law_451 (by decide) (fun hc => ?_) (fun hc => ?_)
                      · refine lv_iinc (v := nI (i + 1)) (lv' := [(5, .int (nI (i + 1))), (4, .ref lo2), (0, .ref b), (1, .ref qd), (2, .ref lk), (3, .ref lb2), (6, .int xv), (7, .int vv), (9, .int (nI 1)), (10, .ref lb), (11, .int (nI 16))]) hx hb dL_law_456 hl (k := 5) rfl (nI_1 i) (by decide) rfl (fun ls hl => ?_)
                        refine lv_goto (tgt := 43) hx hb dL_law_459 (by decide) ?_
                        exact ih _ _ (by omega) (by omega) fk (rc_E fk fb) (rc_D fk (rc_E fk fb)) hfk (rc_B_E fk fb) lb2 H _ ls (hP.sub [2, 3, 4, 5, 6, 7] rfl) (hD.sub [2, 3, 4, 5, 6, 7] (by decide) rfl) hS (lv_sub hl [2, 3, 4, 5, 0] rfl)
                      · exact absurd hc (by decide)
              · exact absurd hc (by decide)
            · exact absurd (by decide) hc
          | succ nn ihc =>
            intro k hk H locs ls hP hD hS hl
            refine lv_iload hx hb dL_law_358 (lv_at hl 10 rfl) ?_
            refine lv_bipush (v := nI 16) hx hb dL_law_360 (by decide) ?_
            refine lv_icmp_ge (tgt := 380) hx hb dL_law_362 (by decide) (fun hc => ?_) (fun hc => ?_)
            · exact absurd hc (nI_ge (b := 16) (by omega) (by decide))
            · refine lv_aload_n hx hb dL_law_365 rfl (lv_at hl 3 rfl) ?_
              refine lv_iload hx hb dL_law_366 (lv_at hl 10 rfl) ?_
              refine lv_aload hx hb dL_law_368 (lv_at hl 4 rfl) ?_
              refine lv_iload hx hb dL_law_370 (lv_at hl 10 rfl) ?_
              refine rc_bald hx hb hK hP 3 0 rfl rfl k rfl (by omega) (by decide) dL_law_372 ?_
              refine rc_bast hx hb hK hP hD hS 7 0 rfl rfl k rfl (by omega) (by decide) (rc_cp (rc_E fk fb) (fun _ => 0) (k + 1)) ((congrArg (upd _ _) (rc_nar (rc_B_E fk fb k))).trans (rc_cp_s _ _ k)) dL_law_373 (fun H locs hP hD hS => ?_)
              have hP : va_P G vwCl [(a1, .inl (cB, 32, .inl fk)), (lk, .inl (cB, 32, .inl fk)), (lb, .inl (cB, 16, .inl fb)), (lo, .inl (cB, 16, .inl (rc_E fk fb))), (qd, .inr (0, [.ref a1, .ref b1, .ref c1])), (b1, .inl (cB, 16, .inl (rc_E fk fb))), (c1, .inl (cB, 16, .inl (rc_E fk fb))), (lb2, .inl (cB, 16, .inl (rc_cp (rc_E fk fb) (fun _ => 0) (k + 1))))] H := hP
              have hD : va_D A [(a1, .inl (cB, 32, .inl fk)), (lk, .inl (cB, 32, .inl fk)), (lb, .inl (cB, 16, .inl fb)), (lo, .inl (cB, 16, .inl (rc_E fk fb))), (qd, .inr (0, [.ref a1, .ref b1, .ref c1])), (b1, .inl (cB, 16, .inl (rc_E fk fb))), (c1, .inl (cB, 16, .inl (rc_E fk fb))), (lb2, .inl (cB, 16, .inl (rc_cp (rc_E fk fb) (fun _ => 0) (k + 1))))] := hD
              refine lv_iinc (v := nI (k + 1)) (lv' := [(11, .int (nI (k + 1))), (0, .ref b), (1, .ref qd), (2, .ref lk), (3, .ref lb2), (4, .ref lo), (5, .int (nI i)), (6, .int xv), (7, .int vv), (9, .int (nI 1)), (10, .ref lb)]) hx hb dL_law_374 hl (k := 10) rfl (nI_1 k) (by decide) rfl (fun ls hl => ?_)
              refine lv_goto (tgt := 358) hx hb dL_law_377 (by decide) ?_
              exact ihc (k + 1) (by omega) H locs ls hP hD hS (lv_sub hl [1, 2, 3, 4, 5, 6, 7, 8, 9, 10, 0] rfl)
        rw [rc_cp_0 (rc_E fk fb) (fun _ => 0)] at hP hD
        exact loopc 16 0 rfl H _ ls hP hD hS (lv_sub hl [5, 6, 7, 1, 3, 8, 9, 10, 4, 2, 0] rfl)
      · exact absurd hc (by decide)
set_option maxHeartbeats 4000000 in
set_option maxRecDepth 100000 in
/-- a round of the law from its opening on -/
theorem lw_bodyD {p : Program} {e : Env} {s : State} {m : MethodId} {below : List Frame} {meth : Method} {cD : Code} (l : Launch) (G : va_G) (cB cL : ClassId) {b Ln : Nat} {xs : Nat → Int32} (hL : Ln ≤ 60) (C0 : lw_At p s m meth cD b Ln xs) (hK : va_K G vwCl [(cB, .byte), (cL, .long)] s) (A : Nat → Prop) (hA : ∀ q : Nat, s.heap.size ≤ q → A q) (hA2 : ∀ q : Nat, A q → s.heap.size ≤ q) (hbA : ¬ A b) (qd a1 b1 c1 lk n i : Nat) (hi : i + (n + 1) = 10) (xv vv : Int32) (ih : ∀ (cc sl : Nat), cc + 19 * n ≤ 1000 → sl + 234 * n ≤ 10000 → ∀ (fk fb fo : Nat → Int32), (∀ j, rc_B (fk j)) → (∀ j, rc_B (fb j)) → ∀ (lb : Nat) (H : Heap) (locs : List Loc) (ls : Array Slot), va_P G vwCl [(qd, .inr (0, [.ref a1, .ref b1, .ref c1])), (a1, .inl (cB, 32, .inl fk)), (b1, .inl (cB, 16, .inl fb)), (c1, .inl (cB, 16, .inl fo)), (lk, .inl (cB, 32, .inl fk)), (lb, .inl (cB, 16, .inl fb))] H → va_D A [(qd, .inr (0, [.ref a1, .ref b1, .ref c1])), (a1, .inl (cB, 32, .inl fk)), (b1, .inl (cB, 16, .inl fb)), (c1, .inl (cB, 16, .inl fo)), (lk, .inl (cB, 32, .inl fk)), (lb, .inl (cB, 16, .inl fb))] → va_S A s.heap H locs → lv_has ls 12 [(0, .ref b), (1, .ref qd), (2, .ref lk), (3, .ref lb), (5, .int (nI (i + 1)))] → W p l e room_1 s m #[Value.ref b] below meth cD H locs (cc) (sl) (lw_Z below #[Value.ref b] s) (F0 m 43 ls [])) :
    ∀ (cc sl : Nat), cc + 19 * (n + 1) ≤ 1000 → sl + 234 * (n + 1) ≤ 10000 → ∀ (fk fb fo : Nat → Int32), (∀ j, rc_B (fk j)) → (∀ j, rc_B (fb j)) → ∀ (lb : Nat) (H : Heap) (locs : List Loc) (ls : Array Slot), va_P G vwCl [(qd, .inr (0, [.ref a1, .ref b1, .ref c1])), (a1, .inl (cB, 32, .inl fk)), (b1, .inl (cB, 16, .inl fb)), (c1, .inl (cB, 16, .inl fo)), (lk, .inl (cB, 32, .inl fk)), (lb, .inl (cB, 16, .inl fb))] H → va_D A [(qd, .inr (0, [.ref a1, .ref b1, .ref c1])), (a1, .inl (cB, 32, .inl fk)), (b1, .inl (cB, 16, .inl fb)), (c1, .inl (cB, 16, .inl fo)), (lk, .inl (cB, 32, .inl fk)), (lb, .inl (cB, 16, .inl fb))] → va_S A s.heap H locs → lv_has ls 12 [(0, .ref b), (1, .ref qd), (2, .ref lk), (3, .ref lb), (5, .int (nI i)), (6, .int xv), (7, .int vv)] → W p l e room_1 s m #[Value.ref b] below meth cD H locs (cc) (sl) (lw_Z below #[Value.ref b] s) (F0 m 288 ls [.int (nI 0)]) := by
  obtain ⟨hx, hb, hr, hml, hown, hts0, hX, hbl, hlocks, hgv⟩ := C0
  have hts : ∀ w ∈ lw_all, w.before #[Value.ref b] s = true := fun w h => hts0 w (lw_all_tbl h)
  have hFw : rc_Fw s := ⟨va_Fw.of (hts0 _ q159) (hts0 _ q158) (hts0 _ q164) (hts0 _ q162) (hts0 _ q160), va_Fw.of (hts0 _ q194) (hts0 _ q193) (hts0 _ q198) (hts0 _ q196) (hts0 _ q160)⟩
  have hL31 : Ln < 2 ^ 31 := by omega
  have hRc : room_1.cells = 1200120 := rfl
  have hRs : room_1.slots = 5501170 := rfl
  intro cc sl hcc hsl fk fb fo hfk hfb lb H locs ls hP hD hS hl
  refine lv_istore (lv' := [(9, .int (nI 0)), (0, .ref b), (1, .ref qd), (2, .ref lk), (3, .ref lb), (5, .int (nI i)), (6, .int xv), (7, .int vv)]) hx hb dL_law_288 hl (by decide) rfl (fun ls hl => ?_)
  refine lv_iload hx hb dL_law_290 (lv_at hl 0 rfl) ?_
  refine lv_if_eq (tgt := 304) hx hb dL_law_292 (by decide) (fun hc => ?_) (fun hc => ?_)
  · refine lv_aload_n hx hb dL_law_304 rfl (lv_at hl 2 rfl) ?_
    refine lv_iload hx hb dL_law_305 (lv_at hl 7 rfl) ?_
    refine rc_callv (va_runV (As := [.int vv]) (rest := []) ⟨hx, hb, hml, hown, hts⟩ (metX1_open l G cB cL H.size qd a1 b1 c1 fk fb fo hfk vv) (cwV 1 hts (lw_V q221 q222 q223 q10 q224) rfl rfl rfl (by decide +kernel) ⟨Nat.le_of_ble_eq_true rfl, Nat.le_of_ble_eq_true rfl⟩) (rc_WxV hFw (va_recv hK hP (ci := 0) (q0 := 0) rfl rfl) (hP.sub (ws' := [(qd, .inr (0, [.ref a1, .ref b1, .ref c1])), (a1, .inl (cB, 32, .inl fk)), (b1, .inl (cB, 16, .inl fb)), (c1, .inl (cB, 16, .inl fo))]) [0, 1, 2, 3] rfl) hK (hD.sub (ws' := [(qd, .inr (0, [.ref a1, .ref b1, .ref c1])), (a1, .inl (cB, 32, .inl fk)), (b1, .inl (cB, 16, .inl fb)), (c1, .inl (cB, 16, .inl fo))]) [0, 1, 2, 3] (by decide) rfl) [.int vv]) rfl rfl hl.1 rfl (lv_room (Nat.le_of_ble_eq_true rfl)) dL_law_307 ⟨(by omega), (by omega)⟩) hP hD hS hA [0, 1, 2, 3] [4, 5] (wr := [(lk, .inl (cB, 32, .inl fk)), (lb, .inl (cB, 16, .inl fb))]) rfl rfl (by decide) (by decide) (fun w1 hw H locs hP hD hS => ?_)
    obtain rfl := hw
    have hP : va_P G vwCl [(lk, .inl (cB, 32, .inl fk)), (lb, .inl (cB, 16, .inl fb)), (qd, .inr (0, [.ref a1, .ref b1, .ref c1])), (a1, .inl (cB, 32, .inl fk)), (b1, .inl (cB, 16, .inl fb)), (c1, .inl (cB, 16, .inl (rc_D fk fb)))] H := hP
    have hD : va_D A [(lk, .inl (cB, 32, .inl fk)), (lb, .inl (cB, 16, .inl fb)), (qd, .inr (0, [.ref a1, .ref b1, .ref c1])), (a1, .inl (cB, 32, .inl fk)), (b1, .inl (cB, 16, .inl fb)), (c1, .inl (cB, 16, .inl (rc_D fk fb)))] := hD
    refine lv_iload hx hb dL_law_310 (lv_at hl 0 rfl) ?_
    refine lv_if_eq (tgt := 323) hx hb dL_law_312 (by decide) (fun hc => ?_) (fun hc => ?_)
    · refine lv_aload_n hx hb dL_law_323 rfl (lv_at hl 3 rfl) ?_
      refine lv_aload_n hx hb dL_law_324 rfl (lv_at hl 4 rfl) ?_
      refine rc_callr (va_runS (As := [.ref lk, .ref lb]) (rest := []) ⟨hx, hb, hml, hown, hts⟩ (metX0_opened l G cB cL H.size lk lb fk fb) (va_cwS 2 hts (lw_S q260 q261 q9 q262) rfl rfl rfl (by decide +kernel) ⟨Nat.le_of_ble_eq_true rfl, Nat.le_of_ble_eq_true rfl⟩) (rc_WrS (hP.sub (ws' := [(lk, .inl (cB, 32, .inl fk)), (lb, .inl (cB, 16, .inl fb))]) [0, 1] rfl) hK (hD.sub (ws' := [(lk, .inl (cB, 32, .inl fk)), (lb, .inl (cB, 16, .inl fb))]) [0, 1] (by decide) rfl) [.ref lk, .ref lb]) rfl rfl hl.1 rfl (lv_room (Nat.le_of_ble_eq_true rfl)) dL_law_325 ⟨(by omega), (by omega)⟩) hP hD hS hA [0, 1] [2, 3, 4, 5] (wr := [(qd, .inr (0, [.ref a1, .ref b1, .ref c1])), (a1, .inl (cB, 32, .inl fk)), (b1, .inl (cB, 16, .inl fb)), (c1, .inl (cB, 16, .inl (rc_D fk fb)))]) rfl rfl (by decide) (by decide) (fun lo w1 hw H locs hP hD hS => ?_)
      obtain rfl := hw
      have hP : va_P G vwCl [(qd, .inr (0, [.ref a1, .ref b1, .ref c1])), (a1, .inl (cB, 32, .inl fk)), (b1, .inl (cB, 16, .inl fb)), (c1, .inl (cB, 16, .inl (rc_D fk fb))), (lk, .inl (cB, 32, .inl fk)), (lb, .inl (cB, 16, .inl fb)), (lo, .inl (cB, 16, .inl (rc_D fk fb)))] H := hP
      have hD : va_D A [(qd, .inr (0, [.ref a1, .ref b1, .ref c1])), (a1, .inl (cB, 32, .inl fk)), (b1, .inl (cB, 16, .inl fb)), (c1, .inl (cB, 16, .inl (rc_D fk fb))), (lk, .inl (cB, 32, .inl fk)), (lb, .inl (cB, 16, .inl fb)), (lo, .inl (cB, 16, .inl (rc_D fk fb)))] := hD
      refine lv_astore (lv' := [(4, .ref lo), (9, .int (nI 0)), (0, .ref b), (1, .ref qd), (2, .ref lk), (3, .ref lb), (5, .int (nI i)), (6, .int xv), (7, .int vv)]) hx hb dL_law_328 hl (by decide) rfl (fun ls hl => ?_)
      refine lv_aload_n hx hb dL_law_330 rfl (lv_at hl 3 rfl) ?_
      refine lv_aload hx hb dL_law_331 (lv_at hl 0 rfl) ?_
      refine lv_iload hx hb dL_law_333 (lv_at hl 8 rfl) ?_
      refine vp_callSi (W.runS (As := [.ref qd, .ref lo, .int vv]) (rest := []) ⟨hx, hb, hml, hown, hts⟩ (metX0_isOut l G cB cL qd a1 b1 c1 lo (rc_D fk fb) (rc_D fk fb) (vv) (fun _ _ => rfl)) (va_cwS 3 hts (lw_S q263 q264 q9 q265) rfl rfl rfl (by decide +kernel) ⟨Nat.le_of_ble_eq_true rfl, Nat.le_of_ble_eq_true rfl⟩) (rc_RdS (hP.sub (ws' := [(qd, .inr (0, [.ref a1, .ref b1, .ref c1])), (c1, .inl (cB, 16, .inl (rc_D fk fb))), (lo, .inl (cB, 16, .inl (rc_D fk fb)))]) [0, 3, 6] rfl) hK [.ref qd, .ref lo, .int vv]) rfl rfl hl.1 rfl (lv_room (Nat.le_of_ble_eq_true rfl)) dL_law_335 ⟨(by omega), (by omega)⟩) (fun r1 hr1 => ?_)
      subst hr1
      refine lv_if_ne (tgt := 343) hx hb dL_law_338 (by decide) (fun hc => ?_) (fun hc => ?_)
      · refine lv_aload_n hx hb dL_law_343 rfl (lv_at hl 5 rfl) ?_
        refine lv_astore (lv' := [(10, .ref lb), (4, .ref lo), (9, .int (nI 0)), (0, .ref b), (1, .ref qd), (2, .ref lk), (3, .ref lb), (5, .int (nI i)), (6, .int xv), (7, .int vv)]) hx hb dL_law_344 hl (by decide) rfl (fun ls hl => ?_)
        refine lv_aload_n hx hb dL_law_346 rfl (lv_at hl 4 rfl) ?_
        refine rc_callv (va_runV (As := []) (rest := []) ⟨hx, hb, hml, hown, hts⟩ (metX1_again l G cB cL H.size qd a1 b1 c1 fb (rc_D fk fb) (rc_B_D fk fb)) (cwV 0 hts (lw_V q225 q226 q227 q10 q228) rfl rfl rfl (by decide +kernel) ⟨Nat.le_of_ble_eq_true rfl, Nat.le_of_ble_eq_true rfl⟩) (rc_WrV (va_recv hK hP (ci := 0) (q0 := 0) rfl rfl) (hP.sub (ws' := [(qd, .inr (0, [.ref a1, .ref b1, .ref c1])), (b1, .inl (cB, 16, .inl fb)), (c1, .inl (cB, 16, .inl (rc_D fk fb)))]) [0, 2, 3] rfl) hK (hD.sub (ws' := [(qd, .inr (0, [.ref a1, .ref b1, .ref c1])), (b1, .inl (cB, 16, .inl fb)), (c1, .inl (cB, 16, .inl (rc_D fk fb)))]) [0, 2, 3] (by decide) rfl) []) rfl rfl hl.1 rfl (lv_room (Nat.le_of_ble_eq_true rfl)) dL_law_347 ⟨(by omega), (by omega)⟩) hP hD hS hA [0, 2, 3] [1, 4, 5, 6] (wr := [(a1, .inl (cB, 32, .inl fk)), (lk, .inl (cB, 32, .inl fk)), (lb, .inl (cB, 16, .inl fb)), (lo, .inl (cB, 16, .inl (rc_D fk fb)))]) rfl rfl (by decide) (by decide) (fun w1 hw H locs hP hD hS => ?_)
        obtain rfl := hw
        have hP : va_P G vwCl [(a1, .inl (cB, 32, .inl fk)), (lk, .inl (cB, 32, .inl fk)), (lb, .inl (cB, 16, .inl fb)), (lo, .inl (cB, 16, .inl (rc_D fk fb))), (qd, .inr (0, [.ref a1, .ref b1, .ref c1])), (b1, .inl (cB, 16, .inl (rc_D fk fb))), (c1, .inl (cB, 16, .inl (rc_D fk fb)))] H := hP
        have hD : va_D A [(a1, .inl (cB, 32, .inl fk)), (lk, .inl (cB, 32, .inl fk)), (lb, .inl (cB, 16, .inl fb)), (lo, .inl (cB, 16, .inl (rc_D fk fb))), (qd, .inr (0, [.ref a1, .ref b1, .ref c1])), (b1, .inl (cB, 16, .inl (rc_D fk fb))), (c1, .inl (cB, 16, .inl (rc_D fk fb)))] := hD
        refine lv_bipush (v := nI 16) hx hb dL_law_350 (by decide) ?_
        refine rc_newB hx hb (hts _ q36) hK hP hD hS hA 16 rfl (by decide) (by omega) (by omega) dL_law_352 (fun lb2 H hP hD hS => ?_)
        have hP : va_P G vwCl [(a1, .inl (cB, 32, .inl fk)), (lk, .inl (cB, 32, .inl fk)), (lb, .inl (cB, 16, .inl fb)), (lo, .inl (cB, 16, .inl (rc_D fk fb))), (qd, .inr (0, [.ref a1, .ref b1, .ref c1])), (b1, .inl (cB, 16, .inl (rc_D fk fb))), (c1, .inl (cB, 16, .inl (rc_D fk fb))), (lb2, .inl (cB, 16, .inl (fun _ => 0)))] H := hP
        have hD : va_D A [(a1, .inl (cB, 32, .inl fk)), (lk, .inl (cB, 32, .inl fk)), (lb, .inl (cB, 16, .inl fb)), (lo, .inl (cB, 16, .inl (rc_D fk fb))), (qd, .inr (0, [.ref a1, .ref b1, .ref c1])), (b1, .inl (cB, 16, .inl (rc_D fk fb))), (c1, .inl (cB, 16, .inl (rc_D fk fb))), (lb2, .inl (cB, 16, .inl (fun _ => 0)))] := hD
        refine lv_astore_n (lv' := [(3, .ref lb2), (10, .ref lb), (4, .ref lo), (9, .int (nI 0)), (0, .ref b), (1, .ref qd), (2, .ref lk), (5, .int (nI i)), (6, .int xv), (7, .int vv)]) hx hb dL_law_354 rfl hl (by decide) rfl (fun ls hl => ?_)
        refine lv_iconst (v := nI 0) hx hb dL_law_355 (by decide) ?_
        refine lv_istore (lv' := [(11, .int (nI 0)), (3, .ref lb2), (10, .ref lb), (4, .ref lo), (9, .int (nI 0)), (0, .ref b), (1, .ref qd), (2, .ref lk), (5, .int (nI i)), (6, .int xv), (7, .int vv)]) hx hb dL_law_356 hl (by decide) rfl (fun ls hl => ?_)
        have loopc : ∀ (nn k : Nat), k + nn = 16 → ∀ (H : Heap) (locs : List Loc) (ls : Array Slot), va_P G vwCl [(a1, .inl (cB, 32, .inl fk)), (lk, .inl (cB, 32, .inl fk)), (lb, .inl (cB, 16, .inl fb)), (lo, .inl (cB, 16, .inl (rc_D fk fb))), (qd, .inr (0, [.ref a1, .ref b1, .ref c1])), (b1, .inl (cB, 16, .inl (rc_D fk fb))), (c1, .inl (cB, 16, .inl (rc_D fk fb))), (lb2, .inl (cB, 16, .inl (rc_cp (rc_D fk fb) (fun _ => 0) k)))] H → va_D A [(a1, .inl (cB, 32, .inl fk)), (lk, .inl (cB, 32, .inl fk)), (lb, .inl (cB, 16, .inl fb)), (lo, .inl (cB, 16, .inl (rc_D fk fb))), (qd, .inr (0, [.ref a1, .ref b1, .ref c1])), (b1, .inl (cB, 16, .inl (rc_D fk fb))), (c1, .inl (cB, 16, .inl (rc_D fk fb))), (lb2, .inl (cB, 16, .inl (rc_cp (rc_D fk fb) (fun _ => 0) k)))] → va_S A s.heap H locs → lv_has ls 12 [(0, .ref b), (1, .ref qd), (2, .ref lk), (3, .ref lb2), (4, .ref lo), (5, .int (nI i)), (6, .int xv), (7, .int vv), (9, .int (nI 0)), (10, .ref lb), (11, .int (nI k))] → W p l e room_1 s m #[Value.ref b] below meth cD H locs (cc + 6 + 3 + 0 + 1) (sl + 65 + 44 + 0 + 16) (lw_Z below #[Value.ref b] s) (F0 m 358 ls []) := by
          intro nn
          induction nn with
          | zero =>
            intro k hk H locs ls hP hD hS hl
            obtain rfl : k = 16 := by omega
            refine lv_iload hx hb dL_law_358 (lv_at hl 10 rfl) ?_
            refine lv_bipush (v := nI 16) hx hb dL_law_360 (by decide) ?_
            refine lv_icmp_ge (tgt := 380) hx hb dL_law_362 (by decide) (fun hc => ?_) (fun hc => ?_)
            · obtain ⟨hP, hD⟩ := rc_ext hP hD 7 rfl (rc_D fk fb) (fun j hj => rc_cp_at _ _ hj)
              have hP : va_P G vwCl [(a1, .inl (cB, 32, .inl fk)), (lk, .inl (cB, 32, .inl fk)), (lb, .inl (cB, 16, .inl fb)), (lo, .inl (cB, 16, .inl (rc_D fk fb))), (qd, .inr (0, [.ref a1, .ref b1, .ref c1])), (b1, .inl (cB, 16, .inl (rc_D fk fb))), (c1, .inl (cB, 16, .inl (rc_D fk fb))), (lb2, .inl (cB, 16, .inl (rc_D fk fb)))] H := hP
              have hD : va_D A [(a1, .inl (cB, 32, .inl fk)), (lk, .inl (cB, 32, .inl fk)), (lb, .inl (cB, 16, .inl fb)), (lo, .inl (cB, 16, .inl (rc_D fk fb))), (qd, .inr (0, [.ref a1, .ref b1, .ref c1])), (b1, .inl (cB, 16, .inl (rc_D fk fb))), (c1, .inl (cB, 16, .inl (rc_D fk fb))), (lb2, .inl (cB, 16, .inl (rc_D fk fb)))] := hD
              refine lv_aload_n hx hb dL_law_380 rfl (lv_at hl 1 rfl) ?_
              refine lv_aload hx hb dL_law_381 (lv_at hl 4 rfl) ?_
              refine lv_iload hx hb dL_law_383 (lv_at hl 6 rfl) ?_
              refine vp_callSi (W.runS (As := [.ref qd, .ref lo, .int xv]) (rest := []) ⟨hx, hb, hml, hown, hts⟩ (metX0_isOut l G cB cL qd a1 b1 c1 lo (rc_D fk fb) (rc_D fk fb) (xv) (fun _ _ => rfl)) (va_cwS 3 hts (lw_S q263 q264 q9 q265) rfl rfl rfl (by decide +kernel) ⟨Nat.le_of_ble_eq_true rfl, Nat.le_of_ble_eq_true rfl⟩) (rc_RdS (hP.sub (ws' := [(qd, .inr (0, [.ref a1, .ref b1, .ref c1])), (c1, .inl (cB, 16, .inl (rc_D fk fb))), (lo, .inl (cB, 16, .inl (rc_D fk fb)))]) [4, 6, 3] rfl) hK [.ref qd, .ref lo, .int xv]) rfl rfl hl.1 rfl (lv_room (Nat.le_of_ble_eq_true rfl)) dL_law_385 ⟨(by omega), (by omega)⟩) (fun r1 hr1 => ?_)
              subst hr1
              refine lv_if_ne (tgt := 393) hx hb dL_law_388 (by decide) (fun hc => ?_) (fun hc => ?_)
              · refine lv_iload hx hb dL_law_393 (lv_at hl 8 rfl) ?_
                refine lv_if_eq (tgt := 407) hx hb dL_law_395 (by decide) (fun hc => ?_) (fun hc => ?_)
                · refine lv_aload_n hx hb dL_law_407 rfl (lv_at hl 1 rfl) ?_
                  refine lv_iload hx hb dL_law_408 (lv_at hl 6 rfl) ?_
                  refine rc_callv (va_runV (As := [.int xv]) (rest := []) ⟨hx, hb, hml, hown, hts⟩ (metX1_lock l G cB cL H.size qd a1 b1 c1 fk (rc_D fk fb) (rc_D fk fb) hfk xv) (cwV 1 hts (lw_V q48 q49 q50 q10 q51) rfl rfl rfl (by decide +kernel) ⟨Nat.le_of_ble_eq_true rfl, Nat.le_of_ble_eq_true rfl⟩) (rc_WxV hFw (va_recv hK hP (ci := 0) (q0 := 4) rfl rfl) (hP.sub (ws' := [(qd, .inr (0, [.ref a1, .ref b1, .ref c1])), (a1, .inl (cB, 32, .inl fk)), (b1, .inl (cB, 16, .inl (rc_D fk fb))), (c1, .inl (cB, 16, .inl (rc_D fk fb)))]) [4, 0, 5, 6] rfl) hK (hD.sub (ws' := [(qd, .inr (0, [.ref a1, .ref b1, .ref c1])), (a1, .inl (cB, 32, .inl fk)), (b1, .inl (cB, 16, .inl (rc_D fk fb))), (c1, .inl (cB, 16, .inl (rc_D fk fb)))]) [4, 0, 5, 6] (by decide) rfl) [.int xv]) rfl rfl hl.1 rfl (lv_room (Nat.le_of_ble_eq_true rfl)) dL_law_410 ⟨(by omega), (by omega)⟩) hP hD hS hA [4, 0, 5, 6] [1, 2, 3, 7] (wr := [(lk, .inl (cB, 32, .inl fk)), (lb, .inl (cB, 16, .inl fb)), (lo, .inl (cB, 16, .inl (rc_D fk fb))), (lb2, .inl (cB, 16, .inl (rc_D fk fb)))]) rfl rfl (by decide) (by decide) (fun w1 hw H locs hP hD hS => ?_)
                  obtain rfl := hw
                  have hP : va_P G vwCl [(lk, .inl (cB, 32, .inl fk)), (lb, .inl (cB, 16, .inl fb)), (lo, .inl (cB, 16, .inl (rc_D fk fb))), (lb2, .inl (cB, 16, .inl (rc_D fk fb))), (qd, .inr (0, [.ref a1, .ref b1, .ref c1])), (a1, .inl (cB, 32, .inl fk)), (b1, .inl (cB, 16, .inl (rc_D fk fb))), (c1, .inl (cB, 16, .inl (rc_E fk (rc_D fk fb))))] H := hP
                  have hD : va_D A [(lk, .inl (cB, 32, .inl fk)), (lb, .inl (cB, 16, .inl fb)), (lo, .inl (cB, 16, .inl (rc_D fk fb))), (lb2, .inl (cB, 16, .inl (rc_D fk fb))), (qd, .inr (0, [.ref a1, .ref b1, .ref c1])), (a1, .inl (cB, 32, .inl fk)), (b1, .inl (cB, 16, .inl (rc_D fk fb))), (c1, .inl (cB, 16, .inl (rc_E fk (rc_D fk fb))))] := hD
                  refine lv_iload hx hb dL_law_413 (lv_at hl 8 rfl) ?_
                  refine lv_if_eq (tgt := 426) hx hb dL_law_415 (by decide) (fun hc => ?_) (fun hc => ?_)
                  · refine lv_aload_n hx hb dL_law_426 rfl (lv_at hl 2 rfl) ?_
                    refine lv_aload_n hx hb dL_law_427 rfl (lv_at hl 3 rfl) ?_
                    refine rc_callr (va_runS (As := [.ref lk, .ref lb2]) (rest := []) ⟨hx, hb, hml, hown, hts⟩ (metX0_locked l G cB cL H.size lk lb2 fk (rc_D fk fb)) (va_cwS 2 hts (lw_S q239 q240 q9 q241) rfl rfl rfl (by decide +kernel) ⟨Nat.le_of_ble_eq_true rfl, Nat.le_of_ble_eq_true rfl⟩) (rc_WrS (hP.sub (ws' := [(lk, .inl (cB, 32, .inl fk)), (lb2, .inl (cB, 16, .inl (rc_D fk fb)))]) [0, 3] rfl) hK (hD.sub (ws' := [(lk, .inl (cB, 32, .inl fk)), (lb2, .inl (cB, 16, .inl (rc_D fk fb)))]) [0, 3] (by decide) rfl) [.ref lk, .ref lb2]) rfl rfl hl.1 rfl (lv_room (Nat.le_of_ble_eq_true rfl)) dL_law_428 ⟨(by omega), (by omega)⟩) hP hD hS hA [0, 3] [1, 2, 4, 5, 6, 7] (wr := [(lb, .inl (cB, 16, .inl fb)), (lo, .inl (cB, 16, .inl (rc_D fk fb))), (qd, .inr (0, [.ref a1, .ref b1, .ref c1])), (a1, .inl (cB, 32, .inl fk)), (b1, .inl (cB, 16, .inl (rc_D fk fb))), (c1, .inl (cB, 16, .inl (rc_E fk (rc_D fk fb))))]) rfl rfl (by decide) (by decide) (fun lo2 w1 hw H locs hP hD hS => ?_)
                    obtain rfl := hw
                    have hP : va_P G vwCl [(lb, .inl (cB, 16, .inl fb)), (lo, .inl (cB, 16, .inl (rc_D fk fb))), (qd, .inr (0, [.ref a1, .ref b1, .ref c1])), (a1, .inl (cB, 32, .inl fk)), (b1, .inl (cB, 16, .inl (rc_D fk fb))), (c1, .inl (cB, 16, .inl (rc_E fk (rc_D fk fb)))), (lk, .inl (cB, 32, .inl fk)), (lb2, .inl (cB, 16, .inl (rc_D fk fb))), (lo2, .inl (cB, 16, .inl (rc_E fk (rc_D fk fb))))] H := hP
                    have hD : va_D A [(lb, .inl (cB, 16, .inl fb)), (lo, .inl (cB, 16, .inl (rc_D fk fb))), (qd, .inr (0, [.ref a1, .ref b1, .ref c1])), (a1, .inl (cB, 32, .inl fk)), (b1, .inl (cB, 16, .inl (rc_D fk fb))), (c1, .inl (cB, 16, .inl (rc_E fk (rc_D fk fb)))), (lk, .inl (cB, 32, .inl fk)), (lb2, .inl (cB, 16, .inl (rc_D fk fb))), (lo2, .inl (cB, 16, .inl (rc_E fk (rc_D fk fb))))] := hD
                    refine lv_astore (lv' := [(4, .ref lo2), (0, .ref b), (1, .ref qd), (2, .ref lk), (3, .ref lb2), (5, .int (nI i)), (6, .int xv), (7, .int vv), (9, .int (nI 0)), (10, .ref lb), (11, .int (nI 16))]) hx hb dL_law_431 hl (by decide) rfl (fun ls hl => ?_)
                    refine lv_aload hx hb dL_law_433 (lv_at hl 0 rfl) ?_
                    refine lv_aload hx hb dL_law_435 (lv_at hl 9 rfl) ?_
                    refine vp_callSi (W.runS (As := [.ref lo2, .ref lb]) (rest := []) ⟨hx, hb, hml, hown, hts⟩ (metX0_areSame l G cB cL lo2 lb (rc_E fk (rc_D fk fb)) fb (fun j hj => rc_ED fk fb hfb hj)) (va_cwS 2 hts (lw_S q270 q271 q9 q272) rfl rfl rfl (by decide +kernel) ⟨Nat.le_of_ble_eq_true rfl, Nat.le_of_ble_eq_true rfl⟩) (rc_RdS (hP.sub (ws' := [(lo2, .inl (cB, 16, .inl (rc_E fk (rc_D fk fb)))), (lb, .inl (cB, 16, .inl fb))]) [8, 0] rfl) hK [.ref lo2, .ref lb]) rfl rfl hl.1 rfl (lv_room (Nat.le_of_ble_eq_true rfl)) dL_law_437 ⟨(by omega), (by omega)⟩) (fun r2 hr2 => ?_)
                    subst hr2
                    refine lv_if_eq (tgt := 454) hx hb dL_law_440 (by decide) (fun hc => ?_) (fun hc => ?_)
                    · exact absurd hc (by decide)
                    · refine lv_aload_n hx hb dL_law_443 rfl (lv_at hl 2 rfl) ?_
                      refine lv_aload hx hb dL_law_444 (lv_at hl 9 rfl) ?_
                      refine lv_bipush (v := nI 7) hx hb dL_law_446 (by decide) ?_
                      refine vp_callSi (W.runS (As := [.ref qd, .ref lb, .int (nI 7)]) (rest := []) ⟨hx, hb, hml, hown, hts⟩ (metX0_isOut l G cB cL qd a1 b1 c1 lb (rc_E fk (rc_D fk fb)) (fb) (nI 7) (fun j hj => rc_ED fk fb hfb hj)) (va_cwS 3 hts (lw_S q263 q264 q9 q265) rfl rfl rfl (by decide +kernel) ⟨Nat.le_of_ble_eq_true rfl, Nat.le_of_ble_eq_true rfl⟩) (rc_RdS (hP.sub (ws' := [(qd, .inr (0, [.ref a1, .ref b1, .ref c1])), (c1, .inl (cB, 16, .inl (rc_E fk (rc_D fk fb)))), (lb, .inl (cB, 16, .inl fb))]) [2, 5, 0] rfl) hK [.ref qd, .ref lb, .int (nI 7)]) rfl rfl hl.1 rfl (lv_room (Nat.le_of_ble_eq_true rfl)) dL_law_448 ⟨(by omega), (by omega)⟩) (fun r1 hr1 => ?_)
                      subst hr1
                      refine lv_if_ne (tgt := 456) hx hb dL_law_451 (by decide) (fun hc => ?_) (fun hc => ?_)
                      · refine lv_iinc (v := nI (i + 1)) (lv' := [(5, .int (nI (i + 1))), (4, .ref lo2), (0, .ref b), (1, .ref qd), (2, .ref lk), (3, .ref lb2), (6, .int xv), (7, .int vv), (9, .int (nI 0)), (10, .ref lb), (11, .int (nI 16))]) hx hb dL_law_456 hl (k := 5) rfl (nI_1 i) (by decide) rfl (fun ls hl => ?_)
                        refine lv_goto (tgt := 43) hx hb dL_law_459 (by decide) ?_
                        exact ih _ _ (by omega) (by omega) fk (rc_D fk fb) (rc_E fk (rc_D fk fb)) hfk (rc_B_D fk fb) lb2 H _ ls (hP.sub [2, 3, 4, 5, 6, 7] rfl) (hD.sub [2, 3, 4, 5, 6, 7] (by decide) rfl) hS (lv_sub hl [2, 3, 4, 5, 0] rfl)
                      · exact absurd hc (by decide)
                  · exact absurd rfl hc
                · exact absurd rfl hc
              · exact absurd hc (by decide)
            · exact absurd (by decide) hc
          | succ nn ihc =>
            intro k hk H locs ls hP hD hS hl
            refine lv_iload hx hb dL_law_358 (lv_at hl 10 rfl) ?_
            refine lv_bipush (v := nI 16) hx hb dL_law_360 (by decide) ?_
            refine lv_icmp_ge (tgt := 380) hx hb dL_law_362 (by decide) (fun hc => ?_) (fun hc => ?_)
            · exact absurd hc (nI_ge (b := 16) (by omega) (by decide))
            · refine lv_aload_n hx hb dL_law_365 rfl (lv_at hl 3 rfl) ?_
              refine lv_iload hx hb dL_law_366 (lv_at hl 10 rfl) ?_
              refine lv_aload hx hb dL_law_368 (lv_at hl 4 rfl) ?_
              refine lv_iload hx hb dL_law_370 (lv_at hl 10 rfl) ?_
              refine rc_bald hx hb hK hP 3 0 rfl rfl k rfl (by omega) (by decide) dL_law_372 ?_
              refine rc_bast hx hb hK hP hD hS 7 0 rfl rfl k rfl (by omega) (by decide) (rc_cp (rc_D fk fb) (fun _ => 0) (k + 1)) ((congrArg (upd _ _) (rc_nar (rc_B_D fk fb k))).trans (rc_cp_s _ _ k)) dL_law_373 (fun H locs hP hD hS => ?_)
              have hP : va_P G vwCl [(a1, .inl (cB, 32, .inl fk)), (lk, .inl (cB, 32, .inl fk)), (lb, .inl (cB, 16, .inl fb)), (lo, .inl (cB, 16, .inl (rc_D fk fb))), (qd, .inr (0, [.ref a1, .ref b1, .ref c1])), (b1, .inl (cB, 16, .inl (rc_D fk fb))), (c1, .inl (cB, 16, .inl (rc_D fk fb))), (lb2, .inl (cB, 16, .inl (rc_cp (rc_D fk fb) (fun _ => 0) (k + 1))))] H := hP
              have hD : va_D A [(a1, .inl (cB, 32, .inl fk)), (lk, .inl (cB, 32, .inl fk)), (lb, .inl (cB, 16, .inl fb)), (lo, .inl (cB, 16, .inl (rc_D fk fb))), (qd, .inr (0, [.ref a1, .ref b1, .ref c1])), (b1, .inl (cB, 16, .inl (rc_D fk fb))), (c1, .inl (cB, 16, .inl (rc_D fk fb))), (lb2, .inl (cB, 16, .inl (rc_cp (rc_D fk fb) (fun _ => 0) (k + 1))))] := hD
              refine lv_iinc (v := nI (k + 1)) (lv' := [(11, .int (nI (k + 1))), (0, .ref b), (1, .ref qd), (2, .ref lk), (3, .ref lb2), (4, .ref lo), (5, .int (nI i)), (6, .int xv), (7, .int vv), (9, .int (nI 0)), (10, .ref lb)]) hx hb dL_law_374 hl (k := 10) rfl (nI_1 k) (by decide) rfl (fun ls hl => ?_)
              refine lv_goto (tgt := 358) hx hb dL_law_377 (by decide) ?_
              exact ihc (k + 1) (by omega) H locs ls hP hD hS (lv_sub hl [1, 2, 3, 4, 5, 6, 7, 8, 9, 10, 0] rfl)
        rw [rc_cp_0 (rc_D fk fb) (fun _ => 0)] at hP hD
        exact loopc 16 0 rfl H _ ls hP hD hS (lv_sub hl [5, 6, 7, 1, 3, 8, 9, 10, 4, 2, 0] rfl)
      · exact absurd hc (by decide)
    · exact absurd rfl hc
  · exact absurd rfl hc
set_option maxHeartbeats 4000000 in
set_option maxRecDepth 100000 in
/-- THE LAW'S LOOP, from its head -/
theorem lw_loop {p : Program} {e : Env} {s : State} {m : MethodId} {below : List Frame} {meth : Method} {cD : Code} (l : Launch) (G : va_G) (cB cL : ClassId) {b Ln : Nat} {xs : Nat → Int32} (hL : Ln ≤ 60) (C0 : lw_At p s m meth cD b Ln xs) (hK : va_K G vwCl [(cB, .byte), (cL, .long)] s) (A : Nat → Prop) (hA : ∀ q : Nat, s.heap.size ≤ q → A q) (hA2 : ∀ q : Nat, A q → s.heap.size ≤ q) (hbA : ¬ A b) (qd a1 b1 c1 lk : Nat) : ∀ (n i : Nat), i + n = 10 → ∀ (cc sl : Nat), cc + 19 * n ≤ 1000 → sl + 234 * n ≤ 10000 → ∀ (fk fb fo : Nat → Int32), (∀ j, rc_B (fk j)) → (∀ j, rc_B (fb j)) → ∀ (lb : Nat) (H : Heap) (locs : List Loc) (ls : Array Slot), va_P G vwCl [(qd, .inr (0, [.ref a1, .ref b1, .ref c1])), (a1, .inl (cB, 32, .inl fk)), (b1, .inl (cB, 16, .inl fb)), (c1, .inl (cB, 16, .inl fo)), (lk, .inl (cB, 32, .inl fk)), (lb, .inl (cB, 16, .inl fb))] H → va_D A [(qd, .inr (0, [.ref a1, .ref b1, .ref c1])), (a1, .inl (cB, 32, .inl fk)), (b1, .inl (cB, 16, .inl fb)), (c1, .inl (cB, 16, .inl fo)), (lk, .inl (cB, 32, .inl fk)), (lb, .inl (cB, 16, .inl fb))] → va_S A s.heap H locs → lv_has ls 12 [(0, .ref b), (1, .ref qd), (2, .ref lk), (3, .ref lb), (5, .int (nI i))] → W p l e room_1 s m #[Value.ref b] below meth cD H locs (cc) (sl) (lw_Z below #[Value.ref b] s) (F0 m 43 ls []) := by
  have C1 := C0
  obtain ⟨hx, hb, hr, hml, hown, hts0, hX, hbl, hlocks, hgv⟩ := C0
  have hts : ∀ w ∈ lw_all, w.before #[Value.ref b] s = true := fun w h => hts0 w (lw_all_tbl h)
  have hFw : rc_Fw s := ⟨va_Fw.of (hts0 _ q159) (hts0 _ q158) (hts0 _ q164) (hts0 _ q162) (hts0 _ q160), va_Fw.of (hts0 _ q194) (hts0 _ q193) (hts0 _ q198) (hts0 _ q196) (hts0 _ q160)⟩
  have hL31 : Ln < 2 ^ 31 := by omega
  have hRc : room_1.cells = 1200120 := rfl
  have hRs : room_1.slots = 5501170 := rfl
  intro n
  induction n with
  | zero =>
    intro i hi cc sl hcc hsl fk fb fo hfk hfb lb H locs ls hP hD hS hl
    obtain rfl : i = 10 := by omega
    refine lv_iload hx hb dL_law_43 (lv_at hl 4 rfl) ?_
    refine lv_bipush (v := nI 10) hx hb dL_law_45 (by decide) ?_
    refine lv_icmp_ge (tgt := 462) hx hb dL_law_47 (by decide) (fun hc => ?_) (fun hc => ?_)
    · refine lv_iconst (v := 1) hx hb dL_law_462 (by decide) ?_
      refine va_forget (fun q hq => hA2 _ (hS.2.2 q hq)) ?_
      refine W.widen (k := 1200120) (n := 5501170) (by omega) (by omega) ?_
      exact lw_ret hx hb hr hlocks dL_law_463
    · exact absurd (by decide) hc
  | succ n ih =>
    intro i hi cc sl hcc hsl fk fb fo hfk hfb lb H locs ls hP hD hS hl
    have ih := ih (i + 1) (by omega)
    have p273 : ∀ (xv vv : Int32) (fk fb fo : Nat → Int32), (∀ j, rc_B (fk j)) → (∀ j, rc_B (fb j)) → ∀ (H : Heap) (locs : List Loc) (ls : Array Slot), va_P G vwCl [(qd, .inr (0, [.ref a1, .ref b1, .ref c1])), (a1, .inl (cB, 32, .inl fk)), (b1, .inl (cB, 16, .inl fb)), (c1, .inl (cB, 16, .inl fo)), (lk, .inl (cB, 32, .inl fk)), (lb, .inl (cB, 16, .inl fb))] H → va_D A [(qd, .inr (0, [.ref a1, .ref b1, .ref c1])), (a1, .inl (cB, 32, .inl fk)), (b1, .inl (cB, 16, .inl fb)), (c1, .inl (cB, 16, .inl fo)), (lk, .inl (cB, 32, .inl fk)), (lb, .inl (cB, 16, .inl fb))] → va_S A s.heap H locs → lv_has ls 12 [(0, .ref b), (1, .ref qd), (2, .ref lk), (3, .ref lb), (5, .int (nI i)), (6, .int xv), (7, .int vv)] → W p l e room_1 s m #[Value.ref b] below meth cD H locs (cc) (sl) (lw_Z below #[Value.ref b] s) (F0 m 273 ls []) := by
      intro xv vv fk fb fo hfk hfb H locs ls hP hD hS hl
      refine lv_iload hx hb dL_law_273 (lv_at hl 5 rfl) ?_
      refine lv_bipush (v := nI 10) hx hb dL_law_275 (by decide) ?_
      refine lv_ishr hx hb dL_law_277 ?_
      refine lv_iconst (v := 1) hx hb dL_law_278 (by decide) ?_
      refine lv_iand hx hb dL_law_279 ?_
      refine lv_if_ne (tgt := 287) hx hb dL_law_280 (by decide) (fun hc => ?_) (fun hc => ?_)
      · refine lv_iconst (v := nI 0) hx hb dL_law_287 (by decide) ?_
        exact lw_bodyD l G cB cL hL C1 hK A hA hA2 hbA qd a1 b1 c1 lk n i hi xv vv ih cc sl hcc hsl fk fb fo hfk hfb lb H locs ls hP hD hS (lv_sub hl [0, 1, 2, 3, 4, 5, 6] rfl)
      · refine lv_iconst (v := nI 1) hx hb dL_law_283 (by decide) ?_
        refine lv_goto (tgt := 288) hx hb dL_law_284 (by decide) ?_
        exact lw_bodyE l G cB cL hL C1 hK A hA hA2 hbA qd a1 b1 c1 lk n i hi xv vv ih cc sl hcc hsl fk fb fo hfk hfb lb H locs ls hP hD hS (lv_sub hl [0, 1, 2, 3, 4, 5, 6] rfl)
    have p197 : ∀ (xv vv : Int32) (fk fb fo : Nat → Int32), (∀ j, rc_B (fk j)) → (∀ j, rc_B (fb j)) → ∀ (H : Heap) (locs : List Loc) (ls : Array Slot), va_P G vwCl [(qd, .inr (0, [.ref a1, .ref b1, .ref c1])), (a1, .inl (cB, 32, .inl fk)), (b1, .inl (cB, 16, .inl fb)), (c1, .inl (cB, 16, .inl fo)), (lk, .inl (cB, 32, .inl fk)), (lb, .inl (cB, 16, .inl fb))] H → va_D A [(qd, .inr (0, [.ref a1, .ref b1, .ref c1])), (a1, .inl (cB, 32, .inl fk)), (b1, .inl (cB, 16, .inl fb)), (c1, .inl (cB, 16, .inl fo)), (lk, .inl (cB, 32, .inl fk)), (lb, .inl (cB, 16, .inl fb))] → va_S A s.heap H locs → lv_has ls 12 [(0, .ref b), (1, .ref qd), (2, .ref lk), (3, .ref lb), (5, .int (nI i)), (6, .int xv), (7, .int vv)] → W p l e room_1 s m #[Value.ref b] below meth cD H locs (cc) (sl) (lw_Z below #[Value.ref b] s) (F0 m 197 ls []) := by
      intro xv vv fk fb fo hfk hfb H locs ls hP hD hS hl
      refine lv_iload hx hb dL_law_197 (lv_at hl 5 rfl) ?_
      refine lv_bipush (v := nI 7) hx hb dL_law_199 (by decide) ?_
      refine lv_ishr hx hb dL_law_201 ?_
      refine lv_iconst (v := nI 4) hx hb dL_law_202 (by decide) ?_
      refine vp_callSi (W.runS (As := [.int (xv >>> ((nI 7) &&& 31)), .int (nI 4)]) (rest := []) ⟨hx, hb, hml, hown, hts⟩ (metX0_some l G cB cL (xv >>> (nI 7 &&& 31)) (nI 4) (by decide)) (va_cwS 2 hts (lw_S q232 q233 q9 q234) rfl rfl rfl (by decide +kernel) ⟨Nat.le_of_ble_eq_true rfl, Nat.le_of_ble_eq_true rfl⟩) (rc_RdS (hP.sub (ws' := []) [] rfl) hK [.int (xv >>> ((nI 7) &&& 31)), .int (nI 4)]) rfl rfl hl.1 rfl (lv_room (Nat.le_of_ble_eq_true rfl)) dL_law_203 ⟨(by omega), (by omega)⟩) (fun sv hsv => ?_)
      refine lv_if_le (tgt := 273) hx hb dL_law_206 (by decide) (fun hc => ?_) (fun hc => ?_)
      · exact p273 xv vv fk fb fo hfk hfb H locs ls hP hD hS (lv_sub hl [0, 1, 2, 3, 4, 5, 6] rfl)
      · refine lv_aload_n hx hb dL_law_209 rfl (lv_at hl 1 rfl) ?_
        refine lv_iload hx hb dL_law_210 (lv_at hl 6 rfl) ?_
        refine lv_iload hx hb dL_law_212 (lv_at hl 5 rfl) ?_
        refine lv_iload hx hb dL_law_214 (lv_at hl 6 rfl) ?_
        refine lv_iconst (v := (-1)) hx hb dL_law_216 (by decide) ?_
        refine lv_ixor hx hb dL_law_217 ?_
        refine lv_aload_n hx hb dL_law_218 rfl (lv_at hl 0 rfl) ?_
        refine lv_bipush (v := nI 6) hx hb dL_law_219 (by decide) ?_
        refine lv_iload hx hb dL_law_221 (lv_at hl 4 rfl) ?_
        refine lv_imul hx hb dL_law_223 ?_
        refine lv_iconst (v := nI 1) hx hb dL_law_224 (by decide) ?_
        refine lv_iadd hx hb dL_law_225 ?_
        refine rc_ti (nI (6 * i + 1)) (by rw [pk_mul, nI_add]) ?_
        refine vp_callSi (W.runS (As := [.ref b, .int (nI (6 * i + 1))]) (rest := [.int (vv ^^^ (-1)), .int xv, .int vv, .ref qd]) ⟨hx, hb, hml, hown, hts⟩ (metX0_cell l G cB cL b (6 * i + 1) (by omega) Ln hL31 xs) (va_cwS 2 hts (lw_S q229 q230 q9 q231) rfl rfl rfl (by decide +kernel) ⟨Nat.le_of_ble_eq_true rfl, Nat.le_of_ble_eq_true rfl⟩) (rc_RxS hX hbl hbA hS [.ref b, .int (nI (6 * i + 1))]) rfl rfl hl.1 rfl (lv_room (Nat.le_of_ble_eq_true rfl)) dL_law_226 ⟨(by omega), (by omega)⟩) (fun r0 hr0 => ?_)
        subst hr0
        refine rc_callv (va_runV (As := [.int vv, .int xv, .int (vv ^^^ (-1)), .int (rc_cx Ln xs (6 * i + 1))]) (rest := []) ⟨hx, hb, hml, hown, hts⟩ (metX1_block l G cB cL H.size qd a1 b1 c1 fb vv xv (vv ^^^ (-1)) (rc_cx Ln xs (6 * i + 1))) (cwV 4 hts (lw_V q44 q45 q46 q10 q47) rfl rfl rfl (by decide +kernel) ⟨Nat.le_of_ble_eq_true rfl, Nat.le_of_ble_eq_true rfl⟩) (rc_WrV (va_recv hK hP (ci := 0) (q0 := 0) rfl rfl) (hP.sub (ws' := [(qd, .inr (0, [.ref a1, .ref b1, .ref c1])), (b1, .inl (cB, 16, .inl fb))]) [0, 2] rfl) hK (hD.sub (ws' := [(qd, .inr (0, [.ref a1, .ref b1, .ref c1])), (b1, .inl (cB, 16, .inl fb))]) [0, 2] (by decide) rfl) [.int vv, .int xv, .int (vv ^^^ (-1)), .int (rc_cx Ln xs (6 * i + 1))]) rfl rfl hl.1 rfl (lv_room (Nat.le_of_ble_eq_true rfl)) dL_law_229 ⟨(by omega), (by omega)⟩) hP hD hS hA [0, 2] [1, 3, 4, 5] (wr := [(a1, .inl (cB, 32, .inl fk)), (c1, .inl (cB, 16, .inl fo)), (lk, .inl (cB, 32, .inl fk)), (lb, .inl (cB, 16, .inl fb))]) rfl rfl (by decide) (by decide) (fun w1 hw H locs hP hD hS => ?_)
        obtain rfl := hw
        have hP : va_P G vwCl [(a1, .inl (cB, 32, .inl fk)), (c1, .inl (cB, 16, .inl fo)), (lk, .inl (cB, 32, .inl fk)), (lb, .inl (cB, 16, .inl fb)), (qd, .inr (0, [.ref a1, .ref b1, .ref c1])), (b1, .inl (cB, 16, .inl (rc_lay4 fb 0 vv xv (vv ^^^ (-1)) (rc_cx Ln xs (6 * i + 1)))))] H := hP
        have hD : va_D A [(a1, .inl (cB, 32, .inl fk)), (c1, .inl (cB, 16, .inl fo)), (lk, .inl (cB, 32, .inl fk)), (lb, .inl (cB, 16, .inl fb)), (qd, .inr (0, [.ref a1, .ref b1, .ref c1])), (b1, .inl (cB, 16, .inl (rc_lay4 fb 0 vv xv (vv ^^^ (-1)) (rc_cx Ln xs (6 * i + 1)))))] := hD
        refine lv_aload_n hx hb dL_law_232 rfl (lv_at hl 3 rfl) ?_
        refine lv_iconst (v := nI 0) hx hb dL_law_233 (by decide) ?_
        refine lv_iload hx hb dL_law_234 (lv_at hl 6 rfl) ?_
        refine rc_callv (va_runS (As := [.ref lb, .int (nI 0), .int vv]) (rest := []) ⟨hx, hb, hml, hown, hts⟩ (metX0_lay l G cB cL H.size lb 16 fb 0 vv (by decide) (by decide)) (va_cwS 3 hts (lw_S q236 q237 q9 q238) rfl rfl rfl (by decide +kernel) ⟨Nat.le_of_ble_eq_true rfl, Nat.le_of_ble_eq_true rfl⟩) (rc_WrS (hP.sub (ws' := [(lb, .inl (cB, 16, .inl fb))]) [3] rfl) hK (hD.sub (ws' := [(lb, .inl (cB, 16, .inl fb))]) [3] (by decide) rfl) [.ref lb, .int (nI 0), .int vv]) rfl rfl hl.1 rfl (lv_room (Nat.le_of_ble_eq_true rfl)) dL_law_236 ⟨(by omega), (by omega)⟩) hP hD hS hA [3] [0, 1, 2, 4, 5] (wr := [(a1, .inl (cB, 32, .inl fk)), (c1, .inl (cB, 16, .inl fo)), (lk, .inl (cB, 32, .inl fk)), (qd, .inr (0, [.ref a1, .ref b1, .ref c1])), (b1, .inl (cB, 16, .inl (rc_lay4 fb 0 vv xv (vv ^^^ (-1)) (rc_cx Ln xs (6 * i + 1)))))]) rfl rfl (by decide) (by decide) (fun w1 hw H locs hP hD hS => ?_)
        obtain rfl := hw
        have hP : va_P G vwCl [(a1, .inl (cB, 32, .inl fk)), (c1, .inl (cB, 16, .inl fo)), (lk, .inl (cB, 32, .inl fk)), (qd, .inr (0, [.ref a1, .ref b1, .ref c1])), (b1, .inl (cB, 16, .inl (rc_lay4 fb 0 vv xv (vv ^^^ (-1)) (rc_cx Ln xs (6 * i + 1))))), (lb, .inl (cB, 16, .inl (rc_lay fb 0 vv)))] H := hP
        have hD : va_D A [(a1, .inl (cB, 32, .inl fk)), (c1, .inl (cB, 16, .inl fo)), (lk, .inl (cB, 32, .inl fk)), (qd, .inr (0, [.ref a1, .ref b1, .ref c1])), (b1, .inl (cB, 16, .inl (rc_lay4 fb 0 vv xv (vv ^^^ (-1)) (rc_cx Ln xs (6 * i + 1))))), (lb, .inl (cB, 16, .inl (rc_lay fb 0 vv)))] := hD
        refine lv_aload_n hx hb dL_law_239 rfl (lv_at hl 3 rfl) ?_
        refine lv_iconst (v := nI 4) hx hb dL_law_240 (by decide) ?_
        refine lv_iload hx hb dL_law_241 (lv_at hl 5 rfl) ?_
        refine rc_callv (va_runS (As := [.ref lb, .int (nI 4), .int xv]) (rest := []) ⟨hx, hb, hml, hown, hts⟩ (metX0_lay l G cB cL H.size lb 16 (rc_lay fb 0 vv) 4 xv (by decide) (by decide)) (va_cwS 3 hts (lw_S q236 q237 q9 q238) rfl rfl rfl (by decide +kernel) ⟨Nat.le_of_ble_eq_true rfl, Nat.le_of_ble_eq_true rfl⟩) (rc_WrS (hP.sub (ws' := [(lb, .inl (cB, 16, .inl (rc_lay fb 0 vv)))]) [5] rfl) hK (hD.sub (ws' := [(lb, .inl (cB, 16, .inl (rc_lay fb 0 vv)))]) [5] (by decide) rfl) [.ref lb, .int (nI 4), .int xv]) rfl rfl hl.1 rfl (lv_room (Nat.le_of_ble_eq_true rfl)) dL_law_243 ⟨(by omega), (by omega)⟩) hP hD hS hA [5] [0, 1, 2, 3, 4] (wr := [(a1, .inl (cB, 32, .inl fk)), (c1, .inl (cB, 16, .inl fo)), (lk, .inl (cB, 32, .inl fk)), (qd, .inr (0, [.ref a1, .ref b1, .ref c1])), (b1, .inl (cB, 16, .inl (rc_lay4 fb 0 vv xv (vv ^^^ (-1)) (rc_cx Ln xs (6 * i + 1)))))]) rfl rfl (by decide) (by decide) (fun w1 hw H locs hP hD hS => ?_)
        obtain rfl := hw
        have hP : va_P G vwCl [(a1, .inl (cB, 32, .inl fk)), (c1, .inl (cB, 16, .inl fo)), (lk, .inl (cB, 32, .inl fk)), (qd, .inr (0, [.ref a1, .ref b1, .ref c1])), (b1, .inl (cB, 16, .inl (rc_lay4 fb 0 vv xv (vv ^^^ (-1)) (rc_cx Ln xs (6 * i + 1))))), (lb, .inl (cB, 16, .inl (rc_lay (rc_lay fb 0 vv) 4 xv)))] H := hP
        have hD : va_D A [(a1, .inl (cB, 32, .inl fk)), (c1, .inl (cB, 16, .inl fo)), (lk, .inl (cB, 32, .inl fk)), (qd, .inr (0, [.ref a1, .ref b1, .ref c1])), (b1, .inl (cB, 16, .inl (rc_lay4 fb 0 vv xv (vv ^^^ (-1)) (rc_cx Ln xs (6 * i + 1))))), (lb, .inl (cB, 16, .inl (rc_lay (rc_lay fb 0 vv) 4 xv)))] := hD
        refine lv_aload_n hx hb dL_law_246 rfl (lv_at hl 3 rfl) ?_
        refine lv_bipush (v := nI 8) hx hb dL_law_247 (by decide) ?_
        refine lv_iload hx hb dL_law_249 (lv_at hl 6 rfl) ?_
        refine lv_iconst (v := (-1)) hx hb dL_law_251 (by decide) ?_
        refine lv_ixor hx hb dL_law_252 ?_
        refine rc_callv (va_runS (As := [.ref lb, .int (nI 8), .int (vv ^^^ (-1))]) (rest := []) ⟨hx, hb, hml, hown, hts⟩ (metX0_lay l G cB cL H.size lb 16 (rc_lay (rc_lay fb 0 vv) 4 xv) 8 (vv ^^^ (-1)) (by decide) (by decide)) (va_cwS 3 hts (lw_S q236 q237 q9 q238) rfl rfl rfl (by decide +kernel) ⟨Nat.le_of_ble_eq_true rfl, Nat.le_of_ble_eq_true rfl⟩) (rc_WrS (hP.sub (ws' := [(lb, .inl (cB, 16, .inl (rc_lay (rc_lay fb 0 vv) 4 xv)))]) [5] rfl) hK (hD.sub (ws' := [(lb, .inl (cB, 16, .inl (rc_lay (rc_lay fb 0 vv) 4 xv)))]) [5] (by decide) rfl) [.ref lb, .int (nI 8), .int (vv ^^^ (-1))]) rfl rfl hl.1 rfl (lv_room (Nat.le_of_ble_eq_true rfl)) dL_law_253 ⟨(by omega), (by omega)⟩) hP hD hS hA [5] [0, 1, 2, 3, 4] (wr := [(a1, .inl (cB, 32, .inl fk)), (c1, .inl (cB, 16, .inl fo)), (lk, .inl (cB, 32, .inl fk)), (qd, .inr (0, [.ref a1, .ref b1, .ref c1])), (b1, .inl (cB, 16, .inl (rc_lay4 fb 0 vv xv (vv ^^^ (-1)) (rc_cx Ln xs (6 * i + 1)))))]) rfl rfl (by decide) (by decide) (fun w1 hw H locs hP hD hS => ?_)
        obtain rfl := hw
        have hP : va_P G vwCl [(a1, .inl (cB, 32, .inl fk)), (c1, .inl (cB, 16, .inl fo)), (lk, .inl (cB, 32, .inl fk)), (qd, .inr (0, [.ref a1, .ref b1, .ref c1])), (b1, .inl (cB, 16, .inl (rc_lay4 fb 0 vv xv (vv ^^^ (-1)) (rc_cx Ln xs (6 * i + 1))))), (lb, .inl (cB, 16, .inl (rc_lay (rc_lay (rc_lay fb 0 vv) 4 xv) 8 (vv ^^^ (-1)))))] H := hP
        have hD : va_D A [(a1, .inl (cB, 32, .inl fk)), (c1, .inl (cB, 16, .inl fo)), (lk, .inl (cB, 32, .inl fk)), (qd, .inr (0, [.ref a1, .ref b1, .ref c1])), (b1, .inl (cB, 16, .inl (rc_lay4 fb 0 vv xv (vv ^^^ (-1)) (rc_cx Ln xs (6 * i + 1))))), (lb, .inl (cB, 16, .inl (rc_lay (rc_lay (rc_lay fb 0 vv) 4 xv) 8 (vv ^^^ (-1)))))] := hD
        refine lv_aload_n hx hb dL_law_256 rfl (lv_at hl 3 rfl) ?_
        refine lv_bipush (v := nI 12) hx hb dL_law_257 (by decide) ?_
        refine lv_aload_n hx hb dL_law_259 rfl (lv_at hl 0 rfl) ?_
        refine lv_bipush (v := nI 6) hx hb dL_law_260 (by decide) ?_
        refine lv_iload hx hb dL_law_262 (lv_at hl 4 rfl) ?_
        refine lv_imul hx hb dL_law_264 ?_
        refine lv_iconst (v := nI 1) hx hb dL_law_265 (by decide) ?_
        refine lv_iadd hx hb dL_law_266 ?_
        refine rc_ti (nI (6 * i + 1)) (by rw [pk_mul, nI_add]) ?_
        refine vp_callSi (W.runS (As := [.ref b, .int (nI (6 * i + 1))]) (rest := [.int (nI 12), .ref lb]) ⟨hx, hb, hml, hown, hts⟩ (metX0_cell l G cB cL b (6 * i + 1) (by omega) Ln hL31 xs) (va_cwS 2 hts (lw_S q229 q230 q9 q231) rfl rfl rfl (by decide +kernel) ⟨Nat.le_of_ble_eq_true rfl, Nat.le_of_ble_eq_true rfl⟩) (rc_RxS hX hbl hbA hS [.ref b, .int (nI (6 * i + 1))]) rfl rfl hl.1 rfl (lv_room (Nat.le_of_ble_eq_true rfl)) dL_law_267 ⟨(by omega), (by omega)⟩) (fun r0 hr0 => ?_)
        subst hr0
        refine rc_callv (va_runS (As := [.ref lb, .int (nI 12), .int (rc_cx Ln xs (6 * i + 1))]) (rest := []) ⟨hx, hb, hml, hown, hts⟩ (metX0_lay l G cB cL H.size lb 16 (rc_lay (rc_lay (rc_lay fb 0 vv) 4 xv) 8 (vv ^^^ (-1))) 12 (rc_cx Ln xs (6 * i + 1)) (by decide) (by decide)) (va_cwS 3 hts (lw_S q236 q237 q9 q238) rfl rfl rfl (by decide +kernel) ⟨Nat.le_of_ble_eq_true rfl, Nat.le_of_ble_eq_true rfl⟩) (rc_WrS (hP.sub (ws' := [(lb, .inl (cB, 16, .inl (rc_lay (rc_lay (rc_lay fb 0 vv) 4 xv) 8 (vv ^^^ (-1)))))]) [5] rfl) hK (hD.sub (ws' := [(lb, .inl (cB, 16, .inl (rc_lay (rc_lay (rc_lay fb 0 vv) 4 xv) 8 (vv ^^^ (-1)))))]) [5] (by decide) rfl) [.ref lb, .int (nI 12), .int (rc_cx Ln xs (6 * i + 1))]) rfl rfl hl.1 rfl (lv_room (Nat.le_of_ble_eq_true rfl)) dL_law_270 ⟨(by omega), (by omega)⟩) hP hD hS hA [5] [0, 1, 2, 3, 4] (wr := [(a1, .inl (cB, 32, .inl fk)), (c1, .inl (cB, 16, .inl fo)), (lk, .inl (cB, 32, .inl fk)), (qd, .inr (0, [.ref a1, .ref b1, .ref c1])), (b1, .inl (cB, 16, .inl (rc_lay4 fb 0 vv xv (vv ^^^ (-1)) (rc_cx Ln xs (6 * i + 1)))))]) rfl rfl (by decide) (by decide) (fun w1 hw H locs hP hD hS => ?_)
        obtain rfl := hw
        have hP : va_P G vwCl [(a1, .inl (cB, 32, .inl fk)), (c1, .inl (cB, 16, .inl fo)), (lk, .inl (cB, 32, .inl fk)), (qd, .inr (0, [.ref a1, .ref b1, .ref c1])), (b1, .inl (cB, 16, .inl (rc_lay4 fb 0 vv xv (vv ^^^ (-1)) (rc_cx Ln xs (6 * i + 1))))), (lb, .inl (cB, 16, .inl (rc_lay (rc_lay (rc_lay (rc_lay fb 0 vv) 4 xv) 8 (vv ^^^ (-1))) 12 (rc_cx Ln xs (6 * i + 1)))))] H := hP
        have hD : va_D A [(a1, .inl (cB, 32, .inl fk)), (c1, .inl (cB, 16, .inl fo)), (lk, .inl (cB, 32, .inl fk)), (qd, .inr (0, [.ref a1, .ref b1, .ref c1])), (b1, .inl (cB, 16, .inl (rc_lay4 fb 0 vv xv (vv ^^^ (-1)) (rc_cx Ln xs (6 * i + 1))))), (lb, .inl (cB, 16, .inl (rc_lay (rc_lay (rc_lay (rc_lay fb 0 vv) 4 xv) 8 (vv ^^^ (-1))) 12 (rc_cx Ln xs (6 * i + 1)))))] := hD
        exact p273 xv vv fk (rc_lay4 fb 0 vv xv (vv ^^^ (-1)) (rc_cx Ln xs (6 * i + 1))) fo hfk (rc_B_lay4 hfb _ _ _ _ _) H _ ls (hP.sub [3, 0, 4, 1, 2, 5] rfl) (hD.sub [3, 0, 4, 1, 2, 5] (by decide) rfl) hS (lv_sub hl [0, 1, 2, 3, 4, 5, 6] rfl)
    have p91 : ∀ (xv vv hh : Int32) (ls : Array Slot), lv_has ls 12 [(0, .ref b), (1, .ref qd), (2, .ref lk), (3, .ref lb), (5, .int (nI i)), (6, .int xv), (7, .int vv), (8, .int hh)] → W p l e room_1 s m #[Value.ref b] below meth cD H locs (cc) (sl) (lw_Z below #[Value.ref b] s) (F0 m 91 ls []) := by
      intro xv vv hh ls hl
      refine lv_iload hx hb dL_law_91 (lv_at hl 5 rfl) ?_
      refine lv_iconst (v := nI 4) hx hb dL_law_93 (by decide) ?_
      refine lv_ishr hx hb dL_law_94 ?_
      refine lv_iconst (v := nI 4) hx hb dL_law_95 (by decide) ?_
      refine vp_callSi (W.runS (As := [.int (xv >>> ((nI 4) &&& 31)), .int (nI 4)]) (rest := []) ⟨hx, hb, hml, hown, hts⟩ (metX0_some l G cB cL (xv >>> (nI 4 &&& 31)) (nI 4) (by decide)) (va_cwS 2 hts (lw_S q232 q233 q9 q234) rfl rfl rfl (by decide +kernel) ⟨Nat.le_of_ble_eq_true rfl, Nat.le_of_ble_eq_true rfl⟩) (rc_RdS (hP.sub (ws' := []) [] rfl) hK [.int (xv >>> ((nI 4) &&& 31)), .int (nI 4)]) rfl rfl hl.1 rfl (lv_room (Nat.le_of_ble_eq_true rfl)) dL_law_96 ⟨(by omega), (by omega)⟩) (fun sv hsv => ?_)
      refine lv_if_le (tgt := 197) hx hb dL_law_99 (by decide) (fun hc => ?_) (fun hc => ?_)
      · exact p197 xv vv fk fb fo hfk hfb H locs ls hP hD hS (lv_sub hl [0, 1, 2, 3, 4, 5, 6] rfl)
      · refine lv_aload_n hx hb dL_law_102 rfl (lv_at hl 1 rfl) ?_
        refine lv_iload hx hb dL_law_103 (lv_at hl 7 rfl) ?_
        refine lv_aload_n hx hb dL_law_105 rfl (lv_at hl 0 rfl) ?_
        refine lv_bipush (v := nI 6) hx hb dL_law_106 (by decide) ?_
        refine lv_iload hx hb dL_law_108 (lv_at hl 4 rfl) ?_
        refine lv_imul hx hb dL_law_110 ?_
        refine lv_iconst (v := nI 1) hx hb dL_law_111 (by decide) ?_
        refine lv_iadd hx hb dL_law_112 ?_
        refine rc_ti (nI (6 * i + 1 + 0)) (by rw [pk_mul, nI_add]) ?_
        refine vp_callSi (W.runS (As := [.ref b, .int (nI (6 * i + 1 + 0))]) (rest := [.int hh, .ref qd]) ⟨hx, hb, hml, hown, hts⟩ (metX0_cell l G cB cL b (6 * i + 1 + 0) (by omega) Ln hL31 xs) (va_cwS 2 hts (lw_S q229 q230 q9 q231) rfl rfl rfl (by decide +kernel) ⟨Nat.le_of_ble_eq_true rfl, Nat.le_of_ble_eq_true rfl⟩) (rc_RxS hX hbl hbA hS [.ref b, .int (nI (6 * i + 1 + 0))]) rfl rfl hl.1 rfl (lv_room (Nat.le_of_ble_eq_true rfl)) dL_law_113 ⟨(by omega), (by omega)⟩) (fun r0 hr0 => ?_)
        subst hr0
        refine lv_aload_n hx hb dL_law_116 rfl (lv_at hl 0 rfl) ?_
        refine lv_bipush (v := nI 6) hx hb dL_law_117 (by decide) ?_
        refine lv_iload hx hb dL_law_119 (lv_at hl 4 rfl) ?_
        refine lv_imul hx hb dL_law_121 ?_
        refine lv_iconst (v := nI 2) hx hb dL_law_122 (by decide) ?_
        refine lv_iadd hx hb dL_law_123 ?_
        refine rc_ti (nI (6 * i + 1 + 1)) (by rw [pk_mul, nI_add]) ?_
        refine vp_callSi (W.runS (As := [.ref b, .int (nI (6 * i + 1 + 1))]) (rest := [.int (rc_cx Ln xs (6 * i + 1 + 0)), .int hh, .ref qd]) ⟨hx, hb, hml, hown, hts⟩ (metX0_cell l G cB cL b (6 * i + 1 + 1) (by omega) Ln hL31 xs) (va_cwS 2 hts (lw_S q229 q230 q9 q231) rfl rfl rfl (by decide +kernel) ⟨Nat.le_of_ble_eq_true rfl, Nat.le_of_ble_eq_true rfl⟩) (rc_RxS hX hbl hbA hS [.ref b, .int (nI (6 * i + 1 + 1))]) rfl rfl hl.1 rfl (lv_room (Nat.le_of_ble_eq_true rfl)) dL_law_124 ⟨(by omega), (by omega)⟩) (fun r0 hr0 => ?_)
        subst hr0
        refine lv_aload_n hx hb dL_law_127 rfl (lv_at hl 0 rfl) ?_
        refine lv_bipush (v := nI 6) hx hb dL_law_128 (by decide) ?_
        refine lv_iload hx hb dL_law_130 (lv_at hl 4 rfl) ?_
        refine lv_imul hx hb dL_law_132 ?_
        refine lv_iconst (v := nI 3) hx hb dL_law_133 (by decide) ?_
        refine lv_iadd hx hb dL_law_134 ?_
        refine rc_ti (nI (6 * i + 1 + 2)) (by rw [pk_mul, nI_add]) ?_
        refine vp_callSi (W.runS (As := [.ref b, .int (nI (6 * i + 1 + 2))]) (rest := [.int (rc_cx Ln xs (6 * i + 1 + 1)), .int (rc_cx Ln xs (6 * i + 1 + 0)), .int hh, .ref qd]) ⟨hx, hb, hml, hown, hts⟩ (metX0_cell l G cB cL b (6 * i + 1 + 2) (by omega) Ln hL31 xs) (va_cwS 2 hts (lw_S q229 q230 q9 q231) rfl rfl rfl (by decide +kernel) ⟨Nat.le_of_ble_eq_true rfl, Nat.le_of_ble_eq_true rfl⟩) (rc_RxS hX hbl hbA hS [.ref b, .int (nI (6 * i + 1 + 2))]) rfl rfl hl.1 rfl (lv_room (Nat.le_of_ble_eq_true rfl)) dL_law_135 ⟨(by omega), (by omega)⟩) (fun r0 hr0 => ?_)
        subst hr0
        refine lv_aload_n hx hb dL_law_138 rfl (lv_at hl 0 rfl) ?_
        refine lv_bipush (v := nI 6) hx hb dL_law_139 (by decide) ?_
        refine lv_iload hx hb dL_law_141 (lv_at hl 4 rfl) ?_
        refine lv_imul hx hb dL_law_143 ?_
        refine lv_iconst (v := nI 4) hx hb dL_law_144 (by decide) ?_
        refine lv_iadd hx hb dL_law_145 ?_
        refine rc_ti (nI (6 * i + 1 + 3)) (by rw [pk_mul, nI_add]) ?_
        refine vp_callSi (W.runS (As := [.ref b, .int (nI (6 * i + 1 + 3))]) (rest := [.int (rc_cx Ln xs (6 * i + 1 + 2)), .int (rc_cx Ln xs (6 * i + 1 + 1)), .int (rc_cx Ln xs (6 * i + 1 + 0)), .int hh, .ref qd]) ⟨hx, hb, hml, hown, hts⟩ (metX0_cell l G cB cL b (6 * i + 1 + 3) (by omega) Ln hL31 xs) (va_cwS 2 hts (lw_S q229 q230 q9 q231) rfl rfl rfl (by decide +kernel) ⟨Nat.le_of_ble_eq_true rfl, Nat.le_of_ble_eq_true rfl⟩) (rc_RxS hX hbl hbA hS [.ref b, .int (nI (6 * i + 1 + 3))]) rfl rfl hl.1 rfl (lv_room (Nat.le_of_ble_eq_true rfl)) dL_law_146 ⟨(by omega), (by omega)⟩) (fun r0 hr0 => ?_)
        subst hr0
        refine rc_callv (va_runV (As := [.int hh, .int (rc_cx Ln xs (6 * i + 1 + 0)), .int (rc_cx Ln xs (6 * i + 1 + 1)), .int (rc_cx Ln xs (6 * i + 1 + 2)), .int (rc_cx Ln xs (6 * i + 1 + 3))]) (rest := []) ⟨hx, hb, hml, hown, hts⟩ (metX1_key l G cB cL H.size qd a1 b1 c1 fk hh (rc_cx Ln xs (6 * i + 1 + 0)) (rc_cx Ln xs (6 * i + 1 + 1)) (rc_cx Ln xs (6 * i + 1 + 2)) (rc_cx Ln xs (6 * i + 1 + 3))) (cwV 5 hts (lw_V q37 q38 q39 q10 q40) rfl rfl rfl (by decide +kernel) ⟨Nat.le_of_ble_eq_true rfl, Nat.le_of_ble_eq_true rfl⟩) (rc_WrV (va_recv hK hP (ci := 0) (q0 := 0) rfl rfl) (hP.sub (ws' := [(qd, .inr (0, [.ref a1, .ref b1, .ref c1])), (a1, .inl (cB, 32, .inl fk))]) [0, 1] rfl) hK (hD.sub (ws' := [(qd, .inr (0, [.ref a1, .ref b1, .ref c1])), (a1, .inl (cB, 32, .inl fk))]) [0, 1] (by decide) rfl) [.int hh, .int (rc_cx Ln xs (6 * i + 1 + 0)), .int (rc_cx Ln xs (6 * i + 1 + 1)), .int (rc_cx Ln xs (6 * i + 1 + 2)), .int (rc_cx Ln xs (6 * i + 1 + 3))]) rfl rfl hl.1 rfl (lv_room (Nat.le_of_ble_eq_true rfl)) dL_law_149 ⟨(by omega), (by omega)⟩) hP hD hS hA [0, 1] [2, 3, 4, 5] (wr := [(b1, .inl (cB, 16, .inl fb)), (c1, .inl (cB, 16, .inl fo)), (lk, .inl (cB, 32, .inl fk)), (lb, .inl (cB, 16, .inl fb))]) rfl rfl (by decide) (by decide) (fun w1 hw H locs hP hD hS => ?_)
        obtain rfl := hw
        have hP : va_P G vwCl [(b1, .inl (cB, 16, .inl fb)), (c1, .inl (cB, 16, .inl fo)), (lk, .inl (cB, 32, .inl fk)), (lb, .inl (cB, 16, .inl fb)), (qd, .inr (0, [.ref a1, .ref b1, .ref c1])), (a1, .inl (cB, 32, .inl (rc_lay4 fk (rc_ho hh) (rc_cx Ln xs (6 * i + 1 + 0)) (rc_cx Ln xs (6 * i + 1 + 1)) (rc_cx Ln xs (6 * i + 1 + 2)) (rc_cx Ln xs (6 * i + 1 + 3)))))] H := hP
        have hD : va_D A [(b1, .inl (cB, 16, .inl fb)), (c1, .inl (cB, 16, .inl fo)), (lk, .inl (cB, 32, .inl fk)), (lb, .inl (cB, 16, .inl fb)), (qd, .inr (0, [.ref a1, .ref b1, .ref c1])), (a1, .inl (cB, 32, .inl (rc_lay4 fk (rc_ho hh) (rc_cx Ln xs (6 * i + 1 + 0)) (rc_cx Ln xs (6 * i + 1 + 1)) (rc_cx Ln xs (6 * i + 1 + 2)) (rc_cx Ln xs (6 * i + 1 + 3)))))] := hD
        refine lv_iconst (v := nI 0) hx hb dL_law_152 (by decide) ?_
        refine lv_istore (lv' := [(9, .int (nI 0)), (0, .ref b), (1, .ref qd), (2, .ref lk), (3, .ref lb), (5, .int (nI i)), (6, .int xv), (7, .int vv), (8, .int hh)]) hx hb dL_law_153 hl (by decide) rfl (fun ls hl => ?_)
        have hho := rc_ho_le hh
        have loopk : ∀ (nn k : Nat), k + nn = 4 → ∀ (H : Heap) (locs : List Loc) (ls : Array Slot), va_P G vwCl [(b1, .inl (cB, 16, .inl fb)), (c1, .inl (cB, 16, .inl fo)), (lk, .inl (cB, 32, .inl (rc_lk fk (rc_ho hh) (fun k => rc_cx Ln xs (6 * i + 1 + k)) k))), (lb, .inl (cB, 16, .inl fb)), (qd, .inr (0, [.ref a1, .ref b1, .ref c1])), (a1, .inl (cB, 32, .inl (rc_lay4 fk (rc_ho hh) (rc_cx Ln xs (6 * i + 1 + 0)) (rc_cx Ln xs (6 * i + 1 + 1)) (rc_cx Ln xs (6 * i + 1 + 2)) (rc_cx Ln xs (6 * i + 1 + 3)))))] H → va_D A [(b1, .inl (cB, 16, .inl fb)), (c1, .inl (cB, 16, .inl fo)), (lk, .inl (cB, 32, .inl (rc_lk fk (rc_ho hh) (fun k => rc_cx Ln xs (6 * i + 1 + k)) k))), (lb, .inl (cB, 16, .inl fb)), (qd, .inr (0, [.ref a1, .ref b1, .ref c1])), (a1, .inl (cB, 32, .inl (rc_lay4 fk (rc_ho hh) (rc_cx Ln xs (6 * i + 1 + 0)) (rc_cx Ln xs (6 * i + 1 + 1)) (rc_cx Ln xs (6 * i + 1 + 2)) (rc_cx Ln xs (6 * i + 1 + 3)))))] → va_S A s.heap H locs → lv_has ls 12 [(0, .ref b), (1, .ref qd), (2, .ref lk), (3, .ref lb), (5, .int (nI i)), (6, .int xv), (7, .int vv), (8, .int hh), (9, .int (nI k))] → W p l e room_1 s m #[Value.ref b] below meth cD H locs (cc + 0) (sl + 0) (lw_Z below #[Value.ref b] s) (F0 m 155 ls []) := by
          intro nn
          induction nn with
          | zero =>
            intro k hk H locs ls hP hD hS hl
            obtain rfl : k = 4 := by omega
            refine lv_iload hx hb dL_law_155 (lv_at hl 8 rfl) ?_
            refine lv_iconst (v := nI 4) hx hb dL_law_157 (by decide) ?_
            refine lv_icmp_ge (tgt := 197) hx hb dL_law_158 (by decide) (fun hc => ?_) (fun hc => ?_)
            · exact p197 xv vv (rc_lay4 fk (rc_ho hh) (rc_cx Ln xs (6 * i + 1 + 0)) (rc_cx Ln xs (6 * i + 1 + 1)) (rc_cx Ln xs (6 * i + 1 + 2)) (rc_cx Ln xs (6 * i + 1 + 3))) fb fo (rc_B_lay4 hfk _ _ _ _ _) hfb H locs ls (hP.sub [4, 5, 0, 1, 2, 3] rfl) (hD.sub [4, 5, 0, 1, 2, 3] (by decide) rfl) hS (lv_sub hl [0, 1, 2, 3, 4, 5, 6] rfl)
            · exact absurd (by decide) hc
          | succ nn ihk =>
            intro k hk H locs ls hP hD hS hl
            refine lv_iload hx hb dL_law_155 (lv_at hl 8 rfl) ?_
            refine lv_iconst (v := nI 4) hx hb dL_law_157 (by decide) ?_
            refine lv_icmp_ge (tgt := 197) hx hb dL_law_158 (by decide) (fun hc => ?_) (fun hc => ?_)
            · exact absurd hc (nI_ge (b := 4) (by omega) (by decide))
            · refine lv_aload_n hx hb dL_law_161 rfl (lv_at hl 2 rfl) ?_
              refine lv_bipush (v := nI 16) hx hb dL_law_162 (by decide) ?_
              refine lv_iload hx hb dL_law_164 (lv_at hl 7 rfl) ?_
              refine lv_iconst (v := 1) hx hb dL_law_166 (by decide) ?_
              refine lv_iand hx hb dL_law_167 ?_
              refine lv_imul hx hb dL_law_168 ?_
              refine lv_iconst (v := nI 4) hx hb dL_law_169 (by decide) ?_
              refine lv_iload hx hb dL_law_170 (lv_at hl 8 rfl) ?_
              refine lv_imul hx hb dL_law_172 ?_
              refine lv_iadd hx hb dL_law_173 ?_
              refine rc_ti (nI (rc_ho hh + 4 * k)) (rc_ho_2 hh k) ?_
              refine lv_aload_n hx hb dL_law_174 rfl (lv_at hl 0 rfl) ?_
              refine lv_bipush (v := nI 6) hx hb dL_law_175 (by decide) ?_
              refine lv_iload hx hb dL_law_177 (lv_at hl 4 rfl) ?_
              refine lv_imul hx hb dL_law_179 ?_
              refine lv_iconst (v := nI 1) hx hb dL_law_180 (by decide) ?_
              refine lv_iadd hx hb dL_law_181 ?_
              refine lv_iload hx hb dL_law_182 (lv_at hl 8 rfl) ?_
              refine lv_iadd hx hb dL_law_184 ?_
              refine rc_ti (nI (6 * i + 1 + k)) (by rw [pk_mul, nI_add, nI_add]) ?_
              refine vp_callSi (W.runS (As := [.ref b, .int (nI (6 * i + 1 + k))]) (rest := [.int (nI (rc_ho hh + 4 * k)), .ref lk]) ⟨hx, hb, hml, hown, hts⟩ (metX0_cell l G cB cL b (6 * i + 1 + k) (by omega) Ln hL31 xs) (va_cwS 2 hts (lw_S q229 q230 q9 q231) rfl rfl rfl (by decide +kernel) ⟨Nat.le_of_ble_eq_true rfl, Nat.le_of_ble_eq_true rfl⟩) (rc_RxS hX hbl hbA hS [.ref b, .int (nI (6 * i + 1 + k))]) rfl rfl hl.1 rfl (lv_room (Nat.le_of_ble_eq_true rfl)) dL_law_185 ⟨(by omega), (by omega)⟩) (fun r0 hr0 => ?_)
              subst hr0
              refine rc_callv (va_runS (As := [.ref lk, .int (nI (rc_ho hh + 4 * k)), .int (rc_cx Ln xs (6 * i + 1 + k))]) (rest := []) ⟨hx, hb, hml, hown, hts⟩ (metX0_lay l G cB cL H.size lk 32 (rc_lk fk (rc_ho hh) (fun k => rc_cx Ln xs (6 * i + 1 + k)) k) (rc_ho hh + 4 * k) (rc_cx Ln xs (6 * i + 1 + k)) (by omega) (by decide)) (va_cwS 3 hts (lw_S q236 q237 q9 q238) rfl rfl rfl (by decide +kernel) ⟨Nat.le_of_ble_eq_true rfl, Nat.le_of_ble_eq_true rfl⟩) (rc_WrS (hP.sub (ws' := [(lk, .inl (cB, 32, .inl (rc_lk fk (rc_ho hh) (fun k => rc_cx Ln xs (6 * i + 1 + k)) k)))]) [2] rfl) hK (hD.sub (ws' := [(lk, .inl (cB, 32, .inl (rc_lk fk (rc_ho hh) (fun k => rc_cx Ln xs (6 * i + 1 + k)) k)))]) [2] (by decide) rfl) [.ref lk, .int (nI (rc_ho hh + 4 * k)), .int (rc_cx Ln xs (6 * i + 1 + k))]) rfl rfl hl.1 rfl (lv_room (Nat.le_of_ble_eq_true rfl)) dL_law_188 ⟨(by omega), (by omega)⟩) hP hD hS hA [2] [0, 1, 3, 4, 5] (wr := [(b1, .inl (cB, 16, .inl fb)), (c1, .inl (cB, 16, .inl fo)), (lb, .inl (cB, 16, .inl fb)), (qd, .inr (0, [.ref a1, .ref b1, .ref c1])), (a1, .inl (cB, 32, .inl (rc_lay4 fk (rc_ho hh) (rc_cx Ln xs (6 * i + 1 + 0)) (rc_cx Ln xs (6 * i + 1 + 1)) (rc_cx Ln xs (6 * i + 1 + 2)) (rc_cx Ln xs (6 * i + 1 + 3)))))]) rfl rfl (by decide) (by decide) (fun w1 hw H locs hP hD hS => ?_)
              obtain rfl := hw
              have hP : va_P G vwCl [(b1, .inl (cB, 16, .inl fb)), (c1, .inl (cB, 16, .inl fo)), (lb, .inl (cB, 16, .inl fb)), (qd, .inr (0, [.ref a1, .ref b1, .ref c1])), (a1, .inl (cB, 32, .inl (rc_lay4 fk (rc_ho hh) (rc_cx Ln xs (6 * i + 1 + 0)) (rc_cx Ln xs (6 * i + 1 + 1)) (rc_cx Ln xs (6 * i + 1 + 2)) (rc_cx Ln xs (6 * i + 1 + 3))))), (lk, .inl (cB, 32, .inl (rc_lk fk (rc_ho hh) (fun k => rc_cx Ln xs (6 * i + 1 + k)) (k + 1))))] H := hP
              have hD : va_D A [(b1, .inl (cB, 16, .inl fb)), (c1, .inl (cB, 16, .inl fo)), (lb, .inl (cB, 16, .inl fb)), (qd, .inr (0, [.ref a1, .ref b1, .ref c1])), (a1, .inl (cB, 32, .inl (rc_lay4 fk (rc_ho hh) (rc_cx Ln xs (6 * i + 1 + 0)) (rc_cx Ln xs (6 * i + 1 + 1)) (rc_cx Ln xs (6 * i + 1 + 2)) (rc_cx Ln xs (6 * i + 1 + 3))))), (lk, .inl (cB, 32, .inl (rc_lk fk (rc_ho hh) (fun k => rc_cx Ln xs (6 * i + 1 + k)) (k + 1))))] := hD
              refine lv_iinc (v := nI (k + 1)) (lv' := [(9, .int (nI (k + 1))), (0, .ref b), (1, .ref qd), (2, .ref lk), (3, .ref lb), (5, .int (nI i)), (6, .int xv), (7, .int vv), (8, .int hh)]) hx hb dL_law_191 hl (k := 8) rfl (nI_1 k) (by decide) rfl (fun ls hl => ?_)
              refine lv_goto (tgt := 155) hx hb dL_law_194 (by decide) ?_
              exact ihk (k + 1) (by omega) H _ ls (hP.sub [0, 1, 5, 2, 3, 4] rfl) (hD.sub [0, 1, 5, 2, 3, 4] (by decide) rfl) hS (lv_sub hl [1, 2, 3, 4, 5, 6, 7, 8, 0] rfl)
        exact loopk 4 0 rfl H _ ls hP hD hS (lv_sub hl [1, 2, 3, 4, 5, 6, 7, 8, 0] rfl)
    refine lv_iload hx hb dL_law_43 (lv_at hl 4 rfl) ?_
    refine lv_bipush (v := nI 10) hx hb dL_law_45 (by decide) ?_
    refine lv_icmp_ge (tgt := 462) hx hb dL_law_47 (by decide) (fun hc => ?_) (fun hc => ?_)
    · exact absurd hc (nI_ge (b := 10) (by omega) (by decide))
    · refine lv_aload_n hx hb dL_law_50 rfl (lv_at hl 0 rfl) ?_
      refine lv_bipush (v := nI 6) hx hb dL_law_51 (by decide) ?_
      refine lv_iload hx hb dL_law_53 (lv_at hl 4 rfl) ?_
      refine lv_imul hx hb dL_law_55 ?_
      refine rc_ti (nI (6 * i)) (pk_mul _ _) ?_
      refine vp_callSi (W.runS (As := [.ref b, .int (nI (6 * i))]) (rest := []) ⟨hx, hb, hml, hown, hts⟩ (metX0_cell l G cB cL b (6 * i) (by omega) Ln hL31 xs) (va_cwS 2 hts (lw_S q229 q230 q9 q231) rfl rfl rfl (by decide +kernel) ⟨Nat.le_of_ble_eq_true rfl, Nat.le_of_ble_eq_true rfl⟩) (rc_RxS hX hbl hbA hS [.ref b, .int (nI (6 * i))]) rfl rfl hl.1 rfl (lv_room (Nat.le_of_ble_eq_true rfl)) dL_law_56 ⟨(by omega), (by omega)⟩) (fun r0 hr0 => ?_)
      subst hr0
      refine lv_topi (fun xv exv => ?_)
      refine lv_istore (lv' := [(6, .int xv), (0, .ref b), (1, .ref qd), (2, .ref lk), (3, .ref lb), (5, .int (nI i))]) hx hb dL_law_59 hl (by decide) rfl (fun ls hl => ?_)
      refine lv_aload_n hx hb dL_law_61 rfl (lv_at hl 1 rfl) ?_
      refine lv_bipush (v := nI 6) hx hb dL_law_62 (by decide) ?_
      refine lv_iload hx hb dL_law_64 (lv_at hl 5 rfl) ?_
      refine lv_imul hx hb dL_law_66 ?_
      refine lv_iconst (v := nI 5) hx hb dL_law_67 (by decide) ?_
      refine lv_iadd hx hb dL_law_68 ?_
      refine rc_ti (nI (6 * i + 5)) (by rw [pk_mul, nI_add]) ?_
      refine vp_callSi (W.runS (As := [.ref b, .int (nI (6 * i + 5))]) (rest := []) ⟨hx, hb, hml, hown, hts⟩ (metX0_cell l G cB cL b (6 * i + 5) (by omega) Ln hL31 xs) (va_cwS 2 hts (lw_S q229 q230 q9 q231) rfl rfl rfl (by decide +kernel) ⟨Nat.le_of_ble_eq_true rfl, Nat.le_of_ble_eq_true rfl⟩) (rc_RxS hX hbl hbA hS [.ref b, .int (nI (6 * i + 5))]) rfl rfl hl.1 rfl (lv_room (Nat.le_of_ble_eq_true rfl)) dL_law_69 ⟨(by omega), (by omega)⟩) (fun r0 hr0 => ?_)
      subst hr0
      refine lv_topi (fun vv evv => ?_)
      refine lv_istore (lv' := [(7, .int vv), (6, .int xv), (0, .ref b), (1, .ref qd), (2, .ref lk), (3, .ref lb), (5, .int (nI i))]) hx hb dL_law_72 hl (by decide) rfl (fun ls hl => ?_)
      refine lv_iload hx hb dL_law_74 (lv_at hl 1 rfl) ?_
      refine lv_iconst (v := nI 3) hx hb dL_law_76 (by decide) ?_
      refine vp_callSi (W.runS (As := [.int xv, .int (nI 3)]) (rest := []) ⟨hx, hb, hml, hown, hts⟩ (metX0_some l G cB cL xv (nI 3) (by decide)) (va_cwS 2 hts (lw_S q232 q233 q9 q234) rfl rfl rfl (by decide +kernel) ⟨Nat.le_of_ble_eq_true rfl, Nat.le_of_ble_eq_true rfl⟩) (rc_RdS (hP.sub (ws' := []) [] rfl) hK [.int xv, .int (nI 3)]) rfl rfl hl.1 rfl (lv_room (Nat.le_of_ble_eq_true rfl)) dL_law_77 ⟨(by omega), (by omega)⟩) (fun sv hsv => ?_)
      refine lv_if_ne (tgt := 88) hx hb dL_law_80 (by decide) (fun hc => ?_) (fun hc => ?_)
      · refine lv_iconst (v := nI 0) hx hb dL_law_88 (by decide) ?_
        refine lv_istore (lv' := [(8, .int (nI 0)), (7, .int vv), (6, .int xv), (0, .ref b), (1, .ref qd), (2, .ref lk), (3, .ref lb), (5, .int (nI i))]) hx hb dL_law_89 hl (by decide) rfl (fun ls hl => ?_)
        exact p91 xv vv _ ls (lv_sub hl [3, 4, 5, 6, 7, 2, 1, 0] rfl)
      · refine lv_iload hx hb dL_law_83 (lv_at hl 1 rfl) ?_
        refine lv_goto (tgt := 89) hx hb dL_law_85 (by decide) ?_
        refine lv_istore (lv' := [(8, .int xv), (7, .int vv), (6, .int xv), (0, .ref b), (1, .ref qd), (2, .ref lk), (3, .ref lb), (5, .int (nI i))]) hx hb dL_law_89 hl (by decide) rfl (fun ls hl => ?_)
        exact p91 xv vv _ ls (lv_sub hl [3, 4, 5, 6, 7, 2, 1, 0] rfl)
end
section
-- ===== YOUR PART BEGINS =====
theorem lw_arr {s : State} {args : Array Value} {t : FieldType} (ht : t = .byte ∨ t = .long) (h : (Cond.arrayClass t).before args s = true) : ∃ cA : ClassId, ArrOfT s cA t ∧ va_RA s cA t := by
  obtain ⟨cA, kA, comp, h1, h2, h3⟩ := Cond.arrayClass_spec h
  refine ⟨cA, fun n z => ⟨fun k h => (by cases h), kA, h2, comp, h3⟩, ?_⟩
  rcases ht with rfl | rfl
  · exact h1
  · exact h1
theorem lw_world {s : State} {b0 : Addr} (ht0 : ∀ w ∈ lw_tbl, w.before #[Value.ref b0] s = true) : ∃ (G : va_G) (cB cL : ClassId), va_K G vwCl [(cB, .byte), (cL, .long)] s := by
  obtain ⟨c0_, i0_, h0⟩ := u_known (C := RX1) (T := TX1) (N := 3) (n := 3) ht0 (fun w h => lw_all_tbl (in_X1 w h)) (ht0 _ (lw_all_tbl q19))
  obtain ⟨c1_, i1_, h1⟩ := u_known (C := RX2) (T := TX2) (N := 3) (n := 3) ht0 (fun w h => lw_all_tbl (in_X2 w h)) (ht0 _ (lw_all_tbl q60))
  obtain ⟨c2_, i2_, h2⟩ := u_known (C := RX3) (T := TX3) (N := 2) (n := 2) ht0 (fun w h => lw_all_tbl (in_X3 w h)) (ht0 _ (lw_all_tbl q76))
  obtain ⟨cB, hB1, hB2⟩ := lw_arr (Or.inl rfl) (ht0 _ (lw_all_tbl q36))
  obtain ⟨cL, hL1, hL2⟩ := lw_arr (Or.inr rfl) (ht0 _ (lw_all_tbl q220))
  refine ⟨(fun k => if k = 0 then c0_ else if k = 1 then c1_ else c2_, fun k => if k = 0 then i0_ else if k = 1 then i1_ else i2_), cB, cL, ?_, ?_⟩
  · intro k q hq
    match k, hq with
    | 0, hq => cases hq; exact h0
    | 1, hq => cases hq; exact h1
    | 2, hq => cases hq; exact h2
    | k + 3, hq => simp [vwCl] at hq
  · intro k q hq
    match k, hq with
    | 0, hq => cases hq; exact ⟨hB1, hB2⟩
    | 1, hq => cases hq; exact ⟨hL1, hL2⟩
    | k + 2, hq => simp at hq
set_option maxHeartbeats 4000000 in
set_option maxRecDepth 100000 in
theorem whole_start {p : Program} {e : Env} {s : State} {m : MethodId} {below : List Frame} {meth : Method} {c : Code} (l : Launch) (hflags : l.flags = flags0) {b L : Nat} {xs : Nat → Int32} (hL : L ≤ 60) (C0 : lw_At p s m meth c b L xs) : W p l e room_1 s m #[Value.ref b] below meth c s.heap [] 0 0 (lw_Z below #[Value.ref b] s) (entryFrame m ([Value.ref b] : List Value).toArray 12) := by
  have C1 := C0
  obtain ⟨hx, hb, hr, hml, hown, hts0, hX, hbl, hlocks, hgv⟩ := C0
  have hts : ∀ w ∈ lw_all, w.before #[Value.ref b] s = true := fun w h => hts0 w (lw_all_tbl h)
  obtain ⟨G, cB, cL, hK⟩ := lw_world hts0
  obtain ⟨A, hAe⟩ : ∃ A : Nat → Prop, A = fun q : Nat => s.heap.size ≤ q := ⟨_, rfl⟩
  have hA : ∀ q : Nat, s.heap.size ≤ q → A q := fun q h => by rw [hAe]; exact h
  have hA2 : ∀ q : Nat, A q → s.heap.size ≤ q := fun q h => by rw [hAe] at h; exact h
  have hbA : ¬ A b := fun h => Nat.not_le.mpr hbl (hA2 b h)
  have hL31 : L < 2 ^ 31 := by omega
  have hS : va_S A s.heap s.heap [] := va_S.rf
  have hP : va_P G vwCl [] s.heap := fun k q h => by simp at h
  have hD : va_D A [] := ⟨fun i j p q h => by simp at h, fun k q h => by simp at h⟩
  have hl := lv_entry ([.ref b]) (n := 12) (Nat.le_of_ble_eq_true rfl)
  rw [lg_entry_eq]
  generalize (lg_sl ([.ref b]) ++ List.replicate (12 - (lg_sl ([.ref b])).length) Slot.unset).toArray = ls at hl ⊢
  have hl : lv_has ls 12 [(0, .ref b)] := hl
  refine va_new (ci := 0) (fs := [.null, .null, .null]) (C := RX1) (T := TX1) (N := 3) hx hb hts in_X1 tyX1 tyX1_ok hown (hts _ q18) (hts _ q19) (hts _ q10) hK hP hD hS hA rfl (fun j hj => by rcases (show j = 0 ∨ j = 1 ∨ j = 2 by omega) with rfl | rfl | rfl <;> rfl) (Nat.le_of_ble_eq_true rfl) (Nat.le_of_ble_eq_true rfl) dL_law_0 (fun qd H hP hD hS => ?_)
  have hP : va_P G vwCl [(qd, .inr (0, [.null, .null, .null]))] H := hP
  have hD : va_D A [(qd, .inr (0, [.null, .null, .null]))] := hD
  refine lv_dup hx hb dL_law_3 rfl ?_
  refine rc_callv (va_runI (As := []) (rest := [.ref qd]) ⟨hx, hb, hml, hown, hts⟩ (metX1_init l G cB cL H.size qd) (cwI 0 hts (lw_meth q22) rfl rfl rfl (hts _ q10) (hts _ q20) (hts _ q21) rfl (by decide +kernel) ⟨Nat.le_of_ble_eq_true rfl, Nat.le_of_ble_eq_true rfl⟩) (rc_WrS (hP.sub (ws' := [(qd, .inr (0, [.null, .null, .null]))]) [0] rfl) hK (hD.sub (ws' := [(qd, .inr (0, [.null, .null, .null]))]) [0] (by decide) rfl) (.ref qd :: [])) rfl rfl hl.1 rfl (lv_room (Nat.le_of_ble_eq_true rfl)) dL_law_4 ⟨(Nat.le_of_ble_eq_true rfl), (Nat.le_of_ble_eq_true rfl)⟩) hP hD hS hA [0] [] (wr := []) rfl rfl (by decide) (by decide) (fun w1 hw H locs hP hD hS => ?_)
  obtain ⟨a1, b1, c1, rfl⟩ := hw
  have hP : va_P G vwCl [(qd, .inr (0, [.ref a1, .ref b1, .ref c1])), (a1, .inl (cB, 32, .inl (fun _ => 0))), (b1, .inl (cB, 16, .inl (fun _ => 0))), (c1, .inl (cB, 16, .inl (fun _ => 0)))] H := hP
  have hD : va_D A [(qd, .inr (0, [.ref a1, .ref b1, .ref c1])), (a1, .inl (cB, 32, .inl (fun _ => 0))), (b1, .inl (cB, 16, .inl (fun _ => 0))), (c1, .inl (cB, 16, .inl (fun _ => 0)))] := hD
  refine lv_astore_n (lv' := [(1, .ref qd), (0, .ref b)]) hx hb dL_law_7 rfl hl (by decide) rfl (fun ls hl => ?_)
  refine lv_bipush (v := nI 32) hx hb dL_law_8 (by decide) ?_
  refine rc_newB hx hb (hts _ q36) hK hP hD hS hA 32 rfl (by decide) (Nat.le_of_ble_eq_true rfl) (Nat.le_of_ble_eq_true rfl) dL_law_10 (fun lk H hP hD hS => ?_)
  have hP : va_P G vwCl [(qd, .inr (0, [.ref a1, .ref b1, .ref c1])), (a1, .inl (cB, 32, .inl (fun _ => 0))), (b1, .inl (cB, 16, .inl (fun _ => 0))), (c1, .inl (cB, 16, .inl (fun _ => 0))), (lk, .inl (cB, 32, .inl (fun _ => 0)))] H := hP
  have hD : va_D A [(qd, .inr (0, [.ref a1, .ref b1, .ref c1])), (a1, .inl (cB, 32, .inl (fun _ => 0))), (b1, .inl (cB, 16, .inl (fun _ => 0))), (c1, .inl (cB, 16, .inl (fun _ => 0))), (lk, .inl (cB, 32, .inl (fun _ => 0)))] := hD
  refine lv_astore_n (lv' := [(2, .ref lk), (1, .ref qd), (0, .ref b)]) hx hb dL_law_12 rfl hl (by decide) rfl (fun ls hl => ?_)
  refine lv_bipush (v := nI 16) hx hb dL_law_13 (by decide) ?_
  refine rc_newB hx hb (hts _ q36) hK hP hD hS hA 16 rfl (by decide) (Nat.le_of_ble_eq_true rfl) (Nat.le_of_ble_eq_true rfl) dL_law_15 (fun lb H hP hD hS => ?_)
  have hP : va_P G vwCl [(qd, .inr (0, [.ref a1, .ref b1, .ref c1])), (a1, .inl (cB, 32, .inl (fun _ => 0))), (b1, .inl (cB, 16, .inl (fun _ => 0))), (c1, .inl (cB, 16, .inl (fun _ => 0))), (lk, .inl (cB, 32, .inl (fun _ => 0))), (lb, .inl (cB, 16, .inl (fun _ => 0)))] H := hP
  have hD : va_D A [(qd, .inr (0, [.ref a1, .ref b1, .ref c1])), (a1, .inl (cB, 32, .inl (fun _ => 0))), (b1, .inl (cB, 16, .inl (fun _ => 0))), (c1, .inl (cB, 16, .inl (fun _ => 0))), (lk, .inl (cB, 32, .inl (fun _ => 0))), (lb, .inl (cB, 16, .inl (fun _ => 0)))] := hD
  refine lv_astore_n (lv' := [(3, .ref lb), (2, .ref lk), (1, .ref qd), (0, .ref b)]) hx hb dL_law_17 rfl hl (by decide) rfl (fun ls hl => ?_)
  refine lv_bipush (v := nI 16) hx hb dL_law_18 (by decide) ?_
  refine rc_newB hx hb (hts _ q36) hK hP hD hS hA 16 rfl (by decide) (Nat.le_of_ble_eq_true rfl) (Nat.le_of_ble_eq_true rfl) dL_law_20 (fun lo H hP hD hS => ?_)
  have hP : va_P G vwCl [(qd, .inr (0, [.ref a1, .ref b1, .ref c1])), (a1, .inl (cB, 32, .inl (fun _ => 0))), (b1, .inl (cB, 16, .inl (fun _ => 0))), (c1, .inl (cB, 16, .inl (fun _ => 0))), (lk, .inl (cB, 32, .inl (fun _ => 0))), (lb, .inl (cB, 16, .inl (fun _ => 0))), (lo, .inl (cB, 16, .inl (fun _ => 0)))] H := hP
  have hD : va_D A [(qd, .inr (0, [.ref a1, .ref b1, .ref c1])), (a1, .inl (cB, 32, .inl (fun _ => 0))), (b1, .inl (cB, 16, .inl (fun _ => 0))), (c1, .inl (cB, 16, .inl (fun _ => 0))), (lk, .inl (cB, 32, .inl (fun _ => 0))), (lb, .inl (cB, 16, .inl (fun _ => 0))), (lo, .inl (cB, 16, .inl (fun _ => 0)))] := hD
  refine lv_astore (lv' := [(4, .ref lo), (3, .ref lb), (2, .ref lk), (1, .ref qd), (0, .ref b)]) hx hb dL_law_22 hl (by decide) rfl (fun ls hl => ?_)
  refine lv_aload_n hx hb dL_law_24 rfl (lv_at hl 3 rfl) ?_
  refine lv_aload hx hb dL_law_25 (lv_at hl 0 rfl) ?_
  refine lv_aload_n hx hb dL_law_27 rfl (lv_at hl 4 rfl) ?_
  refine lv_iconst (v := nI 0) hx hb dL_law_28 (by decide) ?_
  refine vp_callSi (W.runS (As := [.ref b, .int (nI 0)]) (rest := [.ref lo, .ref qd]) ⟨hx, hb, hml, hown, hts⟩ (metX0_cell l G cB cL b 0 (by decide) L hL31 xs) (va_cwS 2 hts (lw_S q229 q230 q9 q231) rfl rfl rfl (by decide +kernel) ⟨Nat.le_of_ble_eq_true rfl, Nat.le_of_ble_eq_true rfl⟩) (rc_RxS hX hbl hbA hS [.ref b, .int (nI 0)]) rfl rfl hl.1 rfl (lv_room (Nat.le_of_ble_eq_true rfl)) dL_law_29 ⟨(Nat.le_of_ble_eq_true rfl), (Nat.le_of_ble_eq_true rfl)⟩) (fun r0 hr0 => ?_)
  refine vp_callSi (W.runS (As := [.ref qd, .ref lo, .int r0]) (rest := []) ⟨hx, hb, hml, hown, hts⟩ (metX0_isOut l G cB cL qd a1 b1 c1 lo (fun _ => 0) (fun _ => 0) (r0) (fun _ _ => rfl)) (va_cwS 3 hts (lw_S q263 q264 q9 q265) rfl rfl rfl (by decide +kernel) ⟨Nat.le_of_ble_eq_true rfl, Nat.le_of_ble_eq_true rfl⟩) (rc_RdS (hP.sub (ws' := [(qd, .inr (0, [.ref a1, .ref b1, .ref c1])), (c1, .inl (cB, 16, .inl (fun _ => 0))), (lo, .inl (cB, 16, .inl (fun _ => 0)))]) [0, 3, 6] rfl) hK [.ref qd, .ref lo, .int r0]) rfl rfl hl.1 rfl (lv_room (Nat.le_of_ble_eq_true rfl)) dL_law_32 ⟨(Nat.le_of_ble_eq_true rfl), (Nat.le_of_ble_eq_true rfl)⟩) (fun r1 hr1 => ?_)
  subst hr1
  refine lv_if_ne (tgt := 40) hx hb dL_law_35 (by decide) (fun hc => ?_) (fun hc => ?_)
  · refine lv_iconst (v := nI 0) hx hb dL_law_40 (by decide) ?_
    refine lv_istore (lv' := [(5, .int (nI 0)), (4, .ref lo), (3, .ref lb), (2, .ref lk), (1, .ref qd), (0, .ref b)]) hx hb dL_law_41 hl (by decide) rfl (fun ls hl => ?_)
    exact lw_loop l G cB cL hL C1 hK A hA hA2 hbA qd a1 b1 c1 lk 10 0 rfl _ _ (by decide) (by decide) (fun _ => 0) (fun _ => 0) (fun _ => 0) (fun _ => rc_B_0) (fun _ => rc_B_0) lb H _ ls (hP.sub [0, 1, 2, 3, 4, 5] rfl) (hD.sub [0, 1, 2, 3, 4, 5] (by decide) rfl) hS (lv_sub hl [5, 4, 3, 2, 0] rfl)
  · exact absurd hc (by decide)
-- ===== YOUR PART ENDS =====
set_option maxHeartbeats 4000000 in
theorem lw_walk (l : Launch) (hflags : l.flags = flags0) (b : Addr) (xs : List Int32) : MetFree l x (headSpec (Jvm.Cond.code x code maxLocals ret :: tables_1) room_1) (lw_P b xs) (fun _ _ _ _ _ => True) lw_Q := by
  refine MetFree.of_bodyS (code := code) (maxLocals := maxLocals) (ret := ret) (by decide) ?_ ?_
  · intro args s m h hn
    obtain ⟨meth, c, h1, h2, h3, h4, h5, h6, -, -⟩ := Cond.code_spec hn (atoms_spec (ws := Jvm.Cond.code x code maxLocals ret :: tables_1) h _ List.mem_cons_self)
    exact ⟨meth, c, h1, h2, h3, h4, h5, h6⟩
  · intro p e s m args below meth c s₁ B hml0 hP _
    obtain ⟨rfl, hx, hbd, hgv⟩ := hP
    obtain ⟨scr, harrAt, hlist, hof, hsmall⟩ := hx
    obtain ⟨hcb, hkn, -, -⟩ := State.arrayAt?_spec harrAt
    have hown : s.vm.findClass R_law = some m.cls := findClass_of_methodNamed B.named
    have hts0 : ∀ c ∈ (Jvm.Cond.code x code maxLocals ret :: tables_1), c.before #[Value.ref b] s = true := atoms_spec (ws := Jvm.Cond.code x code maxLocals ret :: tables_1) B.pre
    have hts : ∀ w ∈ lw_tbl, w.before #[Value.ref b] s = true := k2_hts_sels lw_privs (fun w hw => hts0 w (List.mem_cons_of_mem _ hw)) lw_privs_ok
    have hml : c.maxLocals = 12 := B.maxLocals_eq (hts0 _ List.mem_cons_self)
    have X₀ : Stand p l e room_1 s m #[Value.ref b] below meth c s₁ [] 0 0 := Stand.of_body B
    have hh0 : s₁.heap = s.heap := by rw [B.state]; rfl
    have hsz : scr.slots.size = xs.length := by rw [← Array.length_toList, hlist, List.length_map]
    have hval : ∀ j : Nat, j < xs.length → scr.slots[j]? = some (.int (xs.getD j 0)) := fun j hj => by
      rw [← Array.getElem?_toList, hlist]
      simp [hj]
    have hbl : b < s.heap.size := (Array.getElem?_eq_some_iff.mp hcb).1
    have hX : va_X b xs.length (fun j => xs.getD j 0) s s.heap := ⟨scr, hcb, hof, hkn, hsz, hval⟩
    have K : W p l e room_1 s m #[Value.ref b] below meth c s₁.heap [] 0 0 (lw_Z below #[Value.ref b] s) (entryFrame m ([Value.ref b] : List Value).toArray 12) := by
      rw [hh0]
      exact whole_start l hflags hbd ⟨B.exec, B.bytes, B.returns, hml, hown, hts, hX, hbl, B.notSynchronized, hgv⟩
    obtain ⟨t, a1, o, b1, b2, b3⟩ := K s₁ rfl X₀
    exact ⟨t, o, a1, b1, b2, b3⟩
theorem lw_pre_spec {args : Array Value} {s : State} (h : (Jvm.Cond.and given_1 narrow_1).before args s = true) (hr : rest_1_c.before args s = true) : ∃ (b : Addr) (xs : List Int32), lw_P b xs args s := by
  have hs := flat_of_before _ h
  have hq := flat_of_before _ hr
  have hc : (Cond.count 1).before args s = true := hs _ (by decide +kernel)
  have harr : (Cond.arrayOf (.arg 0) .int).before args s = true := hs _ (by decide +kernel)
  have hle : (Cond.le (.length (.arg 0)) (.int 60)).before args s = true := hs _ (by decide +kernel)
  have hlen : (Cond.isInt (.length (.arg 0))).before args s = true := hq _ (by decide +kernel)
  have hall : (Cond.all (.arg 0) (.isInt (.elem (.arg 0) (.index 0)))).before args s = true := hq _ (by decide +kernel)
  obtain ⟨b, xs, hb, hx⟩ := State.ints_of_pre rfl harr hlen hall
  have hsm : xs.length < 2 ^ 31 := hx.choose_spec.2.2.2
  have hev : (Term.length (.arg 0)).eval args s none [] s = some (.int xs.length.toInt32) := hx.length_eval hb
  have hv := Cond.le_ints hev (show (Term.int 60).eval args s none [] s = some (.int 60) from rfl)
  have hd : xs.length.toInt32 ≤ 60 := by
    simpa [Cond.before, Cond.holds, hv] using hle
  have hN : xs.length ≤ 60 := (Int32.ofNat_le_ofNat hsm (by decide)).mp (show Int32.ofNat xs.length ≤ Int32.ofNat 60 from hd)
  exact ⟨b, xs, Cond.one_arg hc (show args[0]? = some (.ref b) from hb), hx, hN, h⟩
theorem lw_comes (l : Launch) (hflags : l.flags = flags0) : Comes l x (Jvm.Cond.code x code maxLocals ret :: tables_1) room_1 (fun tb e args s => Calls_1 tb e args s ∧ rest_1 tb e args s ∧ Pre_1 tb e args s)
    (fun _ _ args s o t => lw_Q args s o t) := by
  intro p e ha hc hk s m args below hf hfit hheap happ hpre
  obtain ⟨b, xs, hP⟩ := lw_pre_spec hpre.2.2 hpre.2.1
  obtain ⟨k, o, h1, h2, h3, hQ⟩ := lw_walk l hflags b xs p e ha hc hk s m args below hf ((Spec.applies_iff_loose hf).mp happ).1 hP trivial
  exact ⟨k, o, h1, h2, h3, hQ⟩
theorem lw_frame {s t : State} {o : Outcome} {args : Array Value} (h : Framed s o t [] 1200120 5501170) :
    Framed s o t (fieldLocs frame_1_writes args s ++ arrayLocs frame_1_arrays args s ++ staticLocs frame_1_statics s) 1200120 5501170 := h
theorem lw_limb (L : Cond) (hL : ∀ (args : Array Value) (s t : State), L.after args s (.returned (some (.int 1))) t = true) :
    ArmFor flags0 classFile x code maxLocals ret World_1 tables_1 room_1 Calls_1 rest_1 Pre_1
      (fun tb e a s o t => postC L tb e a s o t ∧ Framed s o t (fieldLocs frame_1_writes a s ++ arrayLocs frame_1_arrays a s ++ staticLocs frame_1_statics s) 1200120 5501170) := by
  intro l hflags _ _ p e ha hc hk s m args below hf hfit hheap happ hpre
  obtain ⟨k, o, h1, h2, h3, rfl, hF⟩ := lw_comes l hflags p e ha hc hk s m args below hf hfit hheap happ hpre
  exact ⟨k, _, h1, h2, h3, hL args s _, lw_frame hF⟩
theorem i_vc : Claimed_1_1 ∧ Claimed_1_2 := ⟨lw_limb limb_1_1 (fun args s t => by simp [limb_1_1, Cond.after, Cond.holds, Cond.value]), lw_limb limb_1_2 (fun args s t => Cond.after_iff.mpr (by
  first | (rw [show limb_1_2 = Cond.eq .result (.int 1) from rfl, Cond.eq_ints (x := 1) (y := 1) rfl rfl]; simp; done) | (simp [limb_1_2, Cond.value, Term.eval]; done)))⟩
end
