section
-- ===== PART A: goes FIRST, ahead of the names: the tables' words, and 'selects' of the private methods out of them =====
/-- a private method of a class that the tables say can be made, by its rows of tables_1 -/
def lw_okq (q : MethodName × Nat) : Prop := (q.1.cls ≠ "java/lang/invoke/MethodHandle" ∧ q.1.cls ≠ "java/lang/invoke/VarHandle") ∧ Cond.instantiable q.1.cls q.2 ∈ tables_1 ∧ Cond.privateMethod q.1 ∈ tables_1 ∧ Cond.instanceMethod q.1 ∈ tables_1
set_option maxRecDepth 100000
theorem lw_p0 : lw_okq (⟨"WireText", "word", "(II)V"⟩, 2) := ⟨⟨by decide +kernel, by decide +kernel⟩, List.mem_of_getElem? (i := 10) rfl, List.mem_of_getElem? (i := 30) rfl, List.mem_of_getElem? (i := 31) rfl⟩
theorem lw_p1 : lw_okq (⟨"WireText", "from", "(I)I"⟩, 2) := ⟨⟨by decide +kernel, by decide +kernel⟩, List.mem_of_getElem? (i := 10) rfl, List.mem_of_getElem? (i := 38) rfl, List.mem_of_getElem? (i := 39) rfl⟩
theorem lw_p2 : lw_okq (⟨"WireText", "count", "(II)I"⟩, 2) := ⟨⟨by decide +kernel, by decide +kernel⟩, List.mem_of_getElem? (i := 10) rfl, List.mem_of_getElem? (i := 51) rfl, List.mem_of_getElem? (i := 52) rfl⟩
theorem lw_p3 : lw_okq (⟨"java/lang/Throwable", "fillInStackTrace", "(I)Ljava/lang/Throwable;"⟩, 6) := ⟨⟨by decide +kernel, by decide +kernel⟩, List.mem_of_getElem? (i := 97) rfl, List.mem_of_getElem? (i := 95) rfl, List.mem_of_getElem? (i := 96) rfl⟩
theorem lw_p4 : lw_okq (⟨"WireTextModel", "first", "(I)I"⟩, 2) := ⟨⟨by decide +kernel, by decide +kernel⟩, List.mem_of_getElem? (i := 133) rfl, List.mem_of_getElem? (i := 154) rfl, List.mem_of_getElem? (i := 155) rfl⟩
theorem lw_p5 : lw_okq (⟨"WireTextModel", "many", "(II)I"⟩, 2) := ⟨⟨by decide +kernel, by decide +kernel⟩, List.mem_of_getElem? (i := 133) rfl, List.mem_of_getElem? (i := 171) rfl, List.mem_of_getElem? (i := 172) rfl⟩
def lw_privs_1 : List (MethodName × Nat) := [(⟨"WireText", "word", "(II)V"⟩, 2), (⟨"WireText", "from", "(I)I"⟩, 2), (⟨"WireText", "count", "(II)I"⟩, 2), (⟨"java/lang/Throwable", "fillInStackTrace", "(I)Ljava/lang/Throwable;"⟩, 6), (⟨"WireTextModel", "first", "(I)I"⟩, 2), (⟨"WireTextModel", "many", "(II)I"⟩, 2)]
theorem lw_r1 : ∀ q ∈ lw_privs_1, lw_okq q := List.forall_mem_cons.mpr ⟨lw_p0, List.forall_mem_cons.mpr ⟨lw_p1, List.forall_mem_cons.mpr ⟨lw_p2, List.forall_mem_cons.mpr ⟨lw_p3, List.forall_mem_cons.mpr ⟨lw_p4, List.forall_mem_cons.mpr ⟨lw_p5, fun _ h => absurd h List.not_mem_nil⟩⟩⟩⟩⟩⟩
def lw_privs : List (MethodName × Nat) := lw_privs_1
def lw_tbl : List Cond := k2_sels lw_privs ++ tables_1
theorem lw_privs_ok : ∀ q ∈ lw_privs, lw_okq q := lw_r1
-- ===== ONE list of words for every method: the tables' words that hold all through a run =====
def lw_all : List Cond := lw_tbl.filter goodWord
/-- a word of the tables by its place: claim/WORDS.tsv -/
theorem lw_w {w : Cond} (i : Nat) (h : lw_tbl[i]? = some w) (g : goodWord w = true) : w ∈ lw_all := List.mem_filter.mpr ⟨List.mem_of_getElem? h, g⟩
theorem lw_all_tbl {w : Cond} (h : w ∈ lw_all) : w ∈ lw_tbl := (List.mem_filter.mp h).1
theorem lw_self : GoodIn lw_all lw_all := fun w h => ⟨h, good_of_word (List.mem_filter.mp h).2⟩
/-- a class's field words, by their places -/
theorem lw_in (ws : List Cond) (ps : List Nat) (hp : ws = ps.filterMap (fun i => lw_tbl[i]?)) (hg : ws.all goodWord = true) : ∀ w ∈ ws, w ∈ lw_all := by
  intro w h
  have h1 := List.all_eq_true.mp hg w h
  rw [hp] at h
  obtain ⟨i, -, hi⟩ := List.mem_filterMap.mp h
  exact lw_w i hi h1
/-- the words of a contract for the method y with code b, L locals, answer r -/
abbrev ws_ (y : MethodName) (b : ByteArray) (L : Nat) (r : Option FieldType) : List Cond := Cond.code y b L r :: lw_all
theorem lw_meth {y : MethodName} {b : ByteArray} {L : Nat} {r : Option FieldType} (h : Cond.code y b L r ∈ lw_all) : GoodIn lw_all (ws_ y b L r) := by
  intro w hw
  rcases List.mem_cons.mp hw with e | e
  · rw [e]
    exact lw_self _ h
  · exact lw_self _ e
theorem lw_app {a c : List Cond} (ha : ∀ w ∈ a, w ∈ lw_all) (hc : GoodIn lw_all c) : GoodIn lw_all (a ++ c) := by
  intro w hw
  rcases List.mem_append.mp hw with e | e
  · exact lw_self w (ha w e)
  · exact hc w e
/-- what a call through an object asks: cwV n hts (lw_V ..) -/
theorem lw_V {own : String} {idx : Nat} {C : String} {y : MethodName} {b : ByteArray} {L : Nat} {r : Option FieldType} (h1 : Cond.methodLink own idx y ∈ lw_all) (h2 : Cond.instanceMethod y ∈ lw_all) (h3 : Cond.selects C y y ∈ lw_all) (h4 : Cond.initialized C ∈ lw_all) (h5 : Cond.code y b L r ∈ lw_all) : GoodIn lw_all (wsV own idx C y (ws_ y b L r)) := by
  refine lw_app ?_ (lw_meth h5)
  intro w hw
  simp only [List.mem_cons, List.not_mem_nil, or_false] at hw
  rcases hw with e | e | e | e
  · rw [e]; exact h1
  · rw [e]; exact h2
  · rw [e]; exact h3
  · rw [e]; exact h4
/-- what a static call asks: va_cwS n hts (lw_S ..) -/
theorem lw_S {own : String} {idx : Nat} {y : MethodName} {b : ByteArray} {L : Nat} {r : Option FieldType} (h1 : Cond.methodLink own idx y ∈ lw_all) (h2 : Cond.static y ∈ lw_all) (h3 : Cond.initialized y.cls ∈ lw_all) (h4 : Cond.code y b L r ∈ lw_all) : GoodIn lw_all (va_wsS own idx y (ws_ y b L r)) := by
  refine lw_app ?_ (lw_meth h4)
  intro w hw
  simp only [List.mem_cons, List.not_mem_nil, or_false] at hw
  rcases hw with e | e | e
  · rw [e]; exact h1
  · rw [e]; exact h2
  · rw [e]; exact h3
/-- the words of a contract for a method WITH HANDLERS (hh: its table) -/
abbrev wsW_ (y : MethodName) (b : ByteArray) (L : Nat) (r : Option FieldType) (hh : List (Nat × Nat × Nat × Nat)) : List Cond := Cond.codeWith y b L r hh :: lw_all
theorem lw_methW {y : MethodName} {b : ByteArray} {L : Nat} {r : Option FieldType} {hh : List (Nat × Nat × Nat × Nat)} (h : Cond.codeWith y b L r hh ∈ lw_all) : GoodIn lw_all (wsW_ y b L r hh) := by
  intro w hw
  rcases List.mem_cons.mp hw with e | e
  · rw [e]
    exact lw_self _ h
  · exact lw_self _ e
/-- any list of words by their places (lw_in), good -/
theorem lw_good {ws : List Cond} (h : ∀ w ∈ ws, w ∈ lw_all) : GoodIn lw_all ws := fun w hw => lw_self w (h w hw)
/-- what a call of a method with handlers asks: vx_cwVW n hts (lw_VW ..), vx_cwSW n hts (lw_SW ..) -/
theorem lw_VW {own : String} {idx : Nat} {C : String} {y : MethodName} {b : ByteArray} {L : Nat} {r : Option FieldType} {hh : List (Nat × Nat × Nat × Nat)} (h1 : Cond.methodLink own idx y ∈ lw_all) (h2 : Cond.instanceMethod y ∈ lw_all) (h3 : Cond.selects C y y ∈ lw_all) (h4 : Cond.initialized C ∈ lw_all) (h5 : Cond.codeWith y b L r hh ∈ lw_all) : GoodIn lw_all (wsV own idx C y (wsW_ y b L r hh)) := by
  refine lw_app ?_ (lw_methW h5)
  intro w hw
  simp only [List.mem_cons, List.not_mem_nil, or_false] at hw
  rcases hw with e | e | e | e
  · rw [e]; exact h1
  · rw [e]; exact h2
  · rw [e]; exact h3
  · rw [e]; exact h4
theorem lw_SW {own : String} {idx : Nat} {y : MethodName} {b : ByteArray} {L : Nat} {r : Option FieldType} {hh : List (Nat × Nat × Nat × Nat)} (h1 : Cond.methodLink own idx y ∈ lw_all) (h2 : Cond.static y ∈ lw_all) (h3 : Cond.initialized y.cls ∈ lw_all) (h4 : Cond.codeWith y b L r hh ∈ lw_all) : GoodIn lw_all (va_wsS own idx y (wsW_ y b L r hh)) := by
  refine lw_app ?_ (lw_methW h4)
  intro w hw
  simp only [List.mem_cons, List.not_mem_nil, or_false] at hw
  rcases hw with e | e | e
  · rw [e]; exact h1
  · rw [e]; exact h2
  · rw [e]; exact h3
/-- a word by its place in its run of the tables -/
theorem lw_at {r : List Cond} (hr : ∀ w ∈ r, w ∈ lw_tbl) {w : Cond} (i : Nat) (h : r[i]? = some w) : w ∈ lw_tbl := hr w (List.mem_of_getElem? h)
theorem lw_g {w : Cond} (h : w ∈ lw_tbl) (g : goodWord w = true) : w ∈ lw_all := List.mem_filter.mpr ⟨h, g⟩
theorem lw_ms : ∀ w ∈ k2_sels lw_privs, w ∈ lw_tbl := fun w h => show w ∈ k2_sels lw_privs ++ tables_1 from List.mem_append_left _ h
theorem lw_m0 : ∀ w ∈ tables_1, w ∈ lw_tbl := fun w h => show w ∈ k2_sels lw_privs ++ tables_1 from List.mem_append_right (k2_sels lw_privs) h
theorem qs0 : (Cond.selects "WireText" ⟨"WireText", "word", "(II)V"⟩ ⟨"WireText", "word", "(II)V"⟩) ∈ lw_all := lw_g (lw_at lw_ms 0 rfl) rfl
theorem qs1 : (Cond.selects "WireText" ⟨"WireText", "from", "(I)I"⟩ ⟨"WireText", "from", "(I)I"⟩) ∈ lw_all := lw_g (lw_at lw_ms 1 rfl) rfl
theorem qs2 : (Cond.selects "WireText" ⟨"WireText", "count", "(II)I"⟩ ⟨"WireText", "count", "(II)I"⟩) ∈ lw_all := lw_g (lw_at lw_ms 2 rfl) rfl
theorem qs3 : (Cond.selects "java/lang/Throwable" ⟨"java/lang/Throwable", "fillInStackTrace", "(I)Ljava/lang/Throwable;"⟩ ⟨"java/lang/Throwable", "fillInStackTrace", "(I)Ljava/lang/Throwable;"⟩) ∈ lw_all := lw_g (lw_at lw_ms 3 rfl) rfl
theorem qs4 : (Cond.selects "WireTextModel" ⟨"WireTextModel", "first", "(I)I"⟩ ⟨"WireTextModel", "first", "(I)I"⟩) ∈ lw_all := lw_g (lw_at lw_ms 4 rfl) rfl
theorem qs5 : (Cond.selects "WireTextModel" ⟨"WireTextModel", "many", "(II)I"⟩ ⟨"WireTextModel", "many", "(II)I"⟩) ∈ lw_all := lw_g (lw_at lw_ms 5 rfl) rfl
end
section
/-! DECODE ROWS BY BYTES: one lemma an opcode; a method's code is cut into short pieces once, and a row reads its own piece alone. -/
set_option maxRecDepth 100000
/-- the code has just these bytes from pc on -/
def DkAt (code : ByteArray) (pc : Nat) (bs : List UInt8) : Prop := ∀ (j : Nat) (b : UInt8), bs[j]? = some b → code.data.toList[pc + j]? = some b
/-- the piece W has the bytes bs from its place j on -/
def dkIn (W : List UInt8) (j : Nat) (bs : List UInt8) : Bool := decide ((W.drop j).take bs.length = bs)
theorem dk_seg {l W T : List UInt8} {o o2 : Nat} (h : l.drop o = W ++ T) (n : Nat) (hn : W.length = n) (ho : o + n = o2) : l.drop o2 = T := by
  subst ho
  rw [← List.drop_drop, h, List.drop_left' hn]
theorem dk_at {code : ByteArray} {W T bs : List UInt8} {o pc : Nat} (h : code.data.toList.drop o = W ++ T) (j : Nat) (hp : o + j = pc) (hw : dkIn W j bs = true) : DkAt code pc bs := by
  subst hp
  intro i b e
  have h1 := of_decide_eq_true hw
  have h2 : i < bs.length := (List.getElem?_eq_some_iff.mp e).1
  have h3 : W[j + i]? = some b := by
    rw [← h1, List.getElem?_take, if_pos h2, List.getElem?_drop] at e
    exact e
  have h4 : j + i < W.length := (List.getElem?_eq_some_iff.mp h3).1
  have h5 : (code.data.toList.drop o)[j + i]? = some b := by
    rw [h, List.getElem?_append_left h4]
    exact h3
  rw [List.getElem?_drop, ← Nat.add_assoc] at h5
  exact h5
theorem dk_u1 {A : ByteArray} {p : Nat} {b : UInt8} (h : A.data.toList[p]? = some b) : (Reader.u1 : Reader DecodeError Nat) A p = .ok (b.toNat, p + 1) := by
  obtain ⟨h1, h2⟩ := List.getElem?_eq_some_iff.mp h
  have h3 : p < A.size := by simpa using h1
  have h4 : A[p]'h3 = b := h2
  have e : (Reader.u1 : Reader DecodeError Nat) A p = (if h : p < A.size then .ok (A[p].toNat, p + 1) else .error (HasTruncated.truncated p)) := by
    show (do if h : p < A.size then do set (p + 1); Pure.pure A[p].toNat else MonadExcept.throw (HasTruncated.truncated p) : Reader DecodeError Nat) A p = _
    by_cases hi : p < A.size
    · rw [dif_pos hi, dif_pos hi]; rfl
    · rw [dif_neg hi, dif_neg hi]; rfl
  rw [e, dif_pos h3, h4]
theorem dk_bind {α β : Type} {r : Reader DecodeError α} {f : α → Reader DecodeError β} {A : ByteArray} {p s : Nat} {a : α} (h : r A p = .ok (a, s)) : (r >>= f) A p = f a A s := by
  show (do let (a, s) ← r A p; f a A s : Except DecodeError (β × Nat)) = _
  rw [h]
  rfl
theorem dk_map {α β : Type} {r : Reader DecodeError α} {g : α → β} {A : ByteArray} {p s : Nat} {a : α} (h : r A p = .ok (a, s)) : (g <$> r) A p = .ok (g a, s) := by
  show (do let (a, s) ← r A p; .ok (g a, s) : Except DecodeError (β × Nat)) = _
  rw [h]
  rfl
theorem dk_u2 {A : ByteArray} {p : Nat} {a b : UInt8} (h : A.data.toList[p]? = some a) (h2 : A.data.toList[p + 1]? = some b) : (Reader.u2 : Reader DecodeError Nat) A p = .ok (a.toNat * 256 + b.toNat, p + 2) := by
  show (Reader.u1 >>= fun hi => Reader.u1 >>= fun lo => Pure.pure (hi * 256 + lo) : Reader DecodeError Nat) A p = _
  rw [dk_bind (dk_u1 h), dk_bind (dk_u1 h2)]
  rfl
theorem dk_of {code : ByteArray} {pc n : Nat} {i : Instr} (h : Decoder.instr pc code pc = .ok (i, pc + n)) : decode code pc = .ok (i, n) := by
  have e : decode code pc = (match Decoder.instr pc code pc with | .error x => .error x | .ok (j, s) => .ok (j, s - pc)) := by
    show (do let (j, s) ← Decoder.instr pc code pc; Pure.pure (j, s - pc) : Except DecodeError (Instr × Nat)) = _
    cases Decoder.instr pc code pc <;> rfl
  rw [e, h]
  show Except.ok (i, pc + n - pc) = _
  rw [Nat.add_sub_cancel_left]
theorem dk_2 {code : ByteArray} {pc : Nat} (h : DkAt code pc [2]) : decode code pc = .ok (.iconst (-1), 1) := dk_of ((dk_bind (dk_u1 (h 0 _ rfl))).trans rfl)
theorem dk_3 {code : ByteArray} {pc : Nat} (h : DkAt code pc [3]) : decode code pc = .ok (.iconst 0, 1) := dk_of ((dk_bind (dk_u1 (h 0 _ rfl))).trans rfl)
theorem dk_4 {code : ByteArray} {pc : Nat} (h : DkAt code pc [4]) : decode code pc = .ok (.iconst 1, 1) := dk_of ((dk_bind (dk_u1 (h 0 _ rfl))).trans rfl)
theorem dk_5 {code : ByteArray} {pc : Nat} (h : DkAt code pc [5]) : decode code pc = .ok (.iconst 2, 1) := dk_of ((dk_bind (dk_u1 (h 0 _ rfl))).trans rfl)
theorem dk_6 {code : ByteArray} {pc : Nat} (h : DkAt code pc [6]) : decode code pc = .ok (.iconst 3, 1) := dk_of ((dk_bind (dk_u1 (h 0 _ rfl))).trans rfl)
theorem dk_7 {code : ByteArray} {pc : Nat} (h : DkAt code pc [7]) : decode code pc = .ok (.iconst 4, 1) := dk_of ((dk_bind (dk_u1 (h 0 _ rfl))).trans rfl)
theorem dk_16 {code : ByteArray} {pc : Nat} (a : UInt8) (h : DkAt code pc [16, a]) : decode code pc = .ok (.bipush (Reader.signed 8 a.toNat), 2) := dk_of ((dk_bind (dk_u1 (h 0 _ rfl))).trans ((dk_bind (dk_map (dk_u1 (h 1 _ rfl)))).trans rfl))
theorem dk_17 {code : ByteArray} {pc : Nat} (a b : UInt8) (h : DkAt code pc [17, a, b]) : decode code pc = .ok (.sipush (Reader.signed 16 (a.toNat * 256 + b.toNat)), 3) := dk_of ((dk_bind (dk_u1 (h 0 _ rfl))).trans ((dk_bind (dk_map (dk_u2 (h 1 _ rfl) (h 2 _ rfl)))).trans rfl))
theorem dk_18 {code : ByteArray} {pc : Nat} (a : UInt8) (h : DkAt code pc [18, a]) : decode code pc = .ok (.ldc a.toNat, 2) := dk_of ((dk_bind (dk_u1 (h 0 _ rfl))).trans ((dk_bind (dk_u1 (h 1 _ rfl))).trans rfl))
theorem dk_21 {code : ByteArray} {pc : Nat} (a : UInt8) (h : DkAt code pc [21, a]) : decode code pc = .ok (.iload a.toNat, 2) := dk_of ((dk_bind (dk_u1 (h 0 _ rfl))).trans ((dk_bind (dk_u1 (h 1 _ rfl))).trans rfl))
theorem dk_26 {code : ByteArray} {pc : Nat} (h : DkAt code pc [26]) : decode code pc = .ok (.iload_n 0, 1) := dk_of ((dk_bind (dk_u1 (h 0 _ rfl))).trans rfl)
theorem dk_27 {code : ByteArray} {pc : Nat} (h : DkAt code pc [27]) : decode code pc = .ok (.iload_n 1, 1) := dk_of ((dk_bind (dk_u1 (h 0 _ rfl))).trans rfl)
theorem dk_28 {code : ByteArray} {pc : Nat} (h : DkAt code pc [28]) : decode code pc = .ok (.iload_n 2, 1) := dk_of ((dk_bind (dk_u1 (h 0 _ rfl))).trans rfl)
theorem dk_29 {code : ByteArray} {pc : Nat} (h : DkAt code pc [29]) : decode code pc = .ok (.iload_n 3, 1) := dk_of ((dk_bind (dk_u1 (h 0 _ rfl))).trans rfl)
theorem dk_42 {code : ByteArray} {pc : Nat} (h : DkAt code pc [42]) : decode code pc = .ok (.aload_n 0, 1) := dk_of ((dk_bind (dk_u1 (h 0 _ rfl))).trans rfl)
theorem dk_43 {code : ByteArray} {pc : Nat} (h : DkAt code pc [43]) : decode code pc = .ok (.aload_n 1, 1) := dk_of ((dk_bind (dk_u1 (h 0 _ rfl))).trans rfl)
theorem dk_44 {code : ByteArray} {pc : Nat} (h : DkAt code pc [44]) : decode code pc = .ok (.aload_n 2, 1) := dk_of ((dk_bind (dk_u1 (h 0 _ rfl))).trans rfl)
theorem dk_46 {code : ByteArray} {pc : Nat} (h : DkAt code pc [46]) : decode code pc = .ok (.iaload, 1) := dk_of ((dk_bind (dk_u1 (h 0 _ rfl))).trans rfl)
theorem dk_51 {code : ByteArray} {pc : Nat} (h : DkAt code pc [51]) : decode code pc = .ok (.baload, 1) := dk_of ((dk_bind (dk_u1 (h 0 _ rfl))).trans rfl)
theorem dk_54 {code : ByteArray} {pc : Nat} (a : UInt8) (h : DkAt code pc [54, a]) : decode code pc = .ok (.istore a.toNat, 2) := dk_of ((dk_bind (dk_u1 (h 0 _ rfl))).trans ((dk_bind (dk_u1 (h 1 _ rfl))).trans rfl))
theorem dk_62 {code : ByteArray} {pc : Nat} (h : DkAt code pc [62]) : decode code pc = .ok (.istore_n 3, 1) := dk_of ((dk_bind (dk_u1 (h 0 _ rfl))).trans rfl)
theorem dk_76 {code : ByteArray} {pc : Nat} (h : DkAt code pc [76]) : decode code pc = .ok (.astore_n 1, 1) := dk_of ((dk_bind (dk_u1 (h 0 _ rfl))).trans rfl)
theorem dk_77 {code : ByteArray} {pc : Nat} (h : DkAt code pc [77]) : decode code pc = .ok (.astore_n 2, 1) := dk_of ((dk_bind (dk_u1 (h 0 _ rfl))).trans rfl)
theorem dk_84 {code : ByteArray} {pc : Nat} (h : DkAt code pc [84]) : decode code pc = .ok (.bastore, 1) := dk_of ((dk_bind (dk_u1 (h 0 _ rfl))).trans rfl)
theorem dk_87 {code : ByteArray} {pc : Nat} (h : DkAt code pc [87]) : decode code pc = .ok (.pop, 1) := dk_of ((dk_bind (dk_u1 (h 0 _ rfl))).trans rfl)
theorem dk_89 {code : ByteArray} {pc : Nat} (h : DkAt code pc [89]) : decode code pc = .ok (.dup, 1) := dk_of ((dk_bind (dk_u1 (h 0 _ rfl))).trans rfl)
theorem dk_96 {code : ByteArray} {pc : Nat} (h : DkAt code pc [96]) : decode code pc = .ok (.iadd, 1) := dk_of ((dk_bind (dk_u1 (h 0 _ rfl))).trans rfl)
theorem dk_100 {code : ByteArray} {pc : Nat} (h : DkAt code pc [100]) : decode code pc = .ok (.isub, 1) := dk_of ((dk_bind (dk_u1 (h 0 _ rfl))).trans rfl)
theorem dk_104 {code : ByteArray} {pc : Nat} (h : DkAt code pc [104]) : decode code pc = .ok (.imul, 1) := dk_of ((dk_bind (dk_u1 (h 0 _ rfl))).trans rfl)
theorem dk_112 {code : ByteArray} {pc : Nat} (h : DkAt code pc [112]) : decode code pc = .ok (.irem, 1) := dk_of ((dk_bind (dk_u1 (h 0 _ rfl))).trans rfl)
theorem dk_120 {code : ByteArray} {pc : Nat} (h : DkAt code pc [120]) : decode code pc = .ok (.ishl, 1) := dk_of ((dk_bind (dk_u1 (h 0 _ rfl))).trans rfl)
theorem dk_122 {code : ByteArray} {pc : Nat} (h : DkAt code pc [122]) : decode code pc = .ok (.ishr, 1) := dk_of ((dk_bind (dk_u1 (h 0 _ rfl))).trans rfl)
theorem dk_124 {code : ByteArray} {pc : Nat} (h : DkAt code pc [124]) : decode code pc = .ok (.iushr, 1) := dk_of ((dk_bind (dk_u1 (h 0 _ rfl))).trans rfl)
theorem dk_126 {code : ByteArray} {pc : Nat} (h : DkAt code pc [126]) : decode code pc = .ok (.iand, 1) := dk_of ((dk_bind (dk_u1 (h 0 _ rfl))).trans rfl)
theorem dk_128 {code : ByteArray} {pc : Nat} (h : DkAt code pc [128]) : decode code pc = .ok (.ior, 1) := dk_of ((dk_bind (dk_u1 (h 0 _ rfl))).trans rfl)
theorem dk_132 {code : ByteArray} {pc : Nat} (a b : UInt8) (h : DkAt code pc [132, a, b]) : decode code pc = .ok (.iinc a.toNat (Reader.signed 8 b.toNat), 3) := dk_of ((dk_bind (dk_u1 (h 0 _ rfl))).trans ((dk_bind (dk_u1 (h 1 _ rfl))).trans ((dk_bind (dk_map (dk_u1 (h 2 _ rfl)))).trans rfl)))
theorem dk_145 {code : ByteArray} {pc : Nat} (h : DkAt code pc [145]) : decode code pc = .ok (.i2b, 1) := dk_of ((dk_bind (dk_u1 (h 0 _ rfl))).trans rfl)
theorem dk_154 {code : ByteArray} {pc : Nat} (a b : UInt8) (h : DkAt code pc [154, a, b]) : decode code pc = .ok (.ifCond .ne (Reader.signed 16 (a.toNat * 256 + b.toNat)), 3) := dk_of ((dk_bind (dk_u1 (h 0 _ rfl))).trans ((dk_bind (dk_map (dk_u2 (h 1 _ rfl) (h 2 _ rfl)))).trans rfl))
theorem dk_155 {code : ByteArray} {pc : Nat} (a b : UInt8) (h : DkAt code pc [155, a, b]) : decode code pc = .ok (.ifCond .lt (Reader.signed 16 (a.toNat * 256 + b.toNat)), 3) := dk_of ((dk_bind (dk_u1 (h 0 _ rfl))).trans ((dk_bind (dk_map (dk_u2 (h 1 _ rfl) (h 2 _ rfl)))).trans rfl))
theorem dk_156 {code : ByteArray} {pc : Nat} (a b : UInt8) (h : DkAt code pc [156, a, b]) : decode code pc = .ok (.ifCond .ge (Reader.signed 16 (a.toNat * 256 + b.toNat)), 3) := dk_of ((dk_bind (dk_u1 (h 0 _ rfl))).trans ((dk_bind (dk_map (dk_u2 (h 1 _ rfl) (h 2 _ rfl)))).trans rfl))
theorem dk_158 {code : ByteArray} {pc : Nat} (a b : UInt8) (h : DkAt code pc [158, a, b]) : decode code pc = .ok (.ifCond .le (Reader.signed 16 (a.toNat * 256 + b.toNat)), 3) := dk_of ((dk_bind (dk_u1 (h 0 _ rfl))).trans ((dk_bind (dk_map (dk_u2 (h 1 _ rfl) (h 2 _ rfl)))).trans rfl))
theorem dk_159 {code : ByteArray} {pc : Nat} (a b : UInt8) (h : DkAt code pc [159, a, b]) : decode code pc = .ok (.if_icmp .eq (Reader.signed 16 (a.toNat * 256 + b.toNat)), 3) := dk_of ((dk_bind (dk_u1 (h 0 _ rfl))).trans ((dk_bind (dk_map (dk_u2 (h 1 _ rfl) (h 2 _ rfl)))).trans rfl))
theorem dk_160 {code : ByteArray} {pc : Nat} (a b : UInt8) (h : DkAt code pc [160, a, b]) : decode code pc = .ok (.if_icmp .ne (Reader.signed 16 (a.toNat * 256 + b.toNat)), 3) := dk_of ((dk_bind (dk_u1 (h 0 _ rfl))).trans ((dk_bind (dk_map (dk_u2 (h 1 _ rfl) (h 2 _ rfl)))).trans rfl))
theorem dk_161 {code : ByteArray} {pc : Nat} (a b : UInt8) (h : DkAt code pc [161, a, b]) : decode code pc = .ok (.if_icmp .lt (Reader.signed 16 (a.toNat * 256 + b.toNat)), 3) := dk_of ((dk_bind (dk_u1 (h 0 _ rfl))).trans ((dk_bind (dk_map (dk_u2 (h 1 _ rfl) (h 2 _ rfl)))).trans rfl))
theorem dk_162 {code : ByteArray} {pc : Nat} (a b : UInt8) (h : DkAt code pc [162, a, b]) : decode code pc = .ok (.if_icmp .ge (Reader.signed 16 (a.toNat * 256 + b.toNat)), 3) := dk_of ((dk_bind (dk_u1 (h 0 _ rfl))).trans ((dk_bind (dk_map (dk_u2 (h 1 _ rfl) (h 2 _ rfl)))).trans rfl))
theorem dk_163 {code : ByteArray} {pc : Nat} (a b : UInt8) (h : DkAt code pc [163, a, b]) : decode code pc = .ok (.if_icmp .gt (Reader.signed 16 (a.toNat * 256 + b.toNat)), 3) := dk_of ((dk_bind (dk_u1 (h 0 _ rfl))).trans ((dk_bind (dk_map (dk_u2 (h 1 _ rfl) (h 2 _ rfl)))).trans rfl))
theorem dk_164 {code : ByteArray} {pc : Nat} (a b : UInt8) (h : DkAt code pc [164, a, b]) : decode code pc = .ok (.if_icmp .le (Reader.signed 16 (a.toNat * 256 + b.toNat)), 3) := dk_of ((dk_bind (dk_u1 (h 0 _ rfl))).trans ((dk_bind (dk_map (dk_u2 (h 1 _ rfl) (h 2 _ rfl)))).trans rfl))
theorem dk_167 {code : ByteArray} {pc : Nat} (a b : UInt8) (h : DkAt code pc [167, a, b]) : decode code pc = .ok (.goto (Reader.signed 16 (a.toNat * 256 + b.toNat)), 3) := dk_of ((dk_bind (dk_u1 (h 0 _ rfl))).trans ((dk_bind (dk_map (dk_u2 (h 1 _ rfl) (h 2 _ rfl)))).trans rfl))
theorem dk_172 {code : ByteArray} {pc : Nat} (h : DkAt code pc [172]) : decode code pc = .ok (.ireturn, 1) := dk_of ((dk_bind (dk_u1 (h 0 _ rfl))).trans rfl)
theorem dk_177 {code : ByteArray} {pc : Nat} (h : DkAt code pc [177]) : decode code pc = .ok (.return_, 1) := dk_of ((dk_bind (dk_u1 (h 0 _ rfl))).trans rfl)
theorem dk_178 {code : ByteArray} {pc : Nat} (a b : UInt8) (h : DkAt code pc [178, a, b]) : decode code pc = .ok (.getstatic (a.toNat * 256 + b.toNat), 3) := dk_of ((dk_bind (dk_u1 (h 0 _ rfl))).trans ((dk_bind (dk_u2 (h 1 _ rfl) (h 2 _ rfl))).trans rfl))
theorem dk_180 {code : ByteArray} {pc : Nat} (a b : UInt8) (h : DkAt code pc [180, a, b]) : decode code pc = .ok (.getfield (a.toNat * 256 + b.toNat), 3) := dk_of ((dk_bind (dk_u1 (h 0 _ rfl))).trans ((dk_bind (dk_u2 (h 1 _ rfl) (h 2 _ rfl))).trans rfl))
theorem dk_181 {code : ByteArray} {pc : Nat} (a b : UInt8) (h : DkAt code pc [181, a, b]) : decode code pc = .ok (.putfield (a.toNat * 256 + b.toNat), 3) := dk_of ((dk_bind (dk_u1 (h 0 _ rfl))).trans ((dk_bind (dk_u2 (h 1 _ rfl) (h 2 _ rfl))).trans rfl))
theorem dk_182 {code : ByteArray} {pc : Nat} (a b : UInt8) (h : DkAt code pc [182, a, b]) : decode code pc = .ok (.invokevirtual (a.toNat * 256 + b.toNat), 3) := dk_of ((dk_bind (dk_u1 (h 0 _ rfl))).trans ((dk_bind (dk_u2 (h 1 _ rfl) (h 2 _ rfl))).trans rfl))
theorem dk_183 {code : ByteArray} {pc : Nat} (a b : UInt8) (h : DkAt code pc [183, a, b]) : decode code pc = .ok (.invokespecial (a.toNat * 256 + b.toNat), 3) := dk_of ((dk_bind (dk_u1 (h 0 _ rfl))).trans ((dk_bind (dk_u2 (h 1 _ rfl) (h 2 _ rfl))).trans rfl))
theorem dk_184 {code : ByteArray} {pc : Nat} (a b : UInt8) (h : DkAt code pc [184, a, b]) : decode code pc = .ok (.invokestatic (a.toNat * 256 + b.toNat), 3) := dk_of ((dk_bind (dk_u1 (h 0 _ rfl))).trans ((dk_bind (dk_u2 (h 1 _ rfl) (h 2 _ rfl))).trans rfl))
theorem dk_187 {code : ByteArray} {pc : Nat} (a b : UInt8) (h : DkAt code pc [187, a, b]) : decode code pc = .ok (.new (a.toNat * 256 + b.toNat), 3) := dk_of ((dk_bind (dk_u1 (h 0 _ rfl))).trans ((dk_bind (dk_u2 (h 1 _ rfl) (h 2 _ rfl))).trans rfl))
theorem dk_188_8 {code : ByteArray} {pc : Nat} (h : DkAt code pc [188, 8]) : decode code pc = .ok (.newarray .byte, 2) := dk_of ((dk_bind (dk_u1 (h 0 _ rfl))).trans ((dk_bind (dk_u1 (h 1 _ rfl))).trans rfl))
theorem dk_190 {code : ByteArray} {pc : Nat} (h : DkAt code pc [190]) : decode code pc = .ok (.arraylength, 1) := dk_of ((dk_bind (dk_u1 (h 0 _ rfl))).trans rfl)
theorem dk_191 {code : ByteArray} {pc : Nat} (h : DkAt code pc [191]) : decode code pc = .ok (.athrow, 1) := dk_of ((dk_bind (dk_u1 (h 0 _ rfl))).trans rfl)
/-! java/lang/Object -/
set_option maxRecDepth 100000
def RJ4 : String := "java/lang/Object"
abbrev cJ4_init : ByteArray := object_method_1_code
def yJ4_init : MethodName := ⟨RJ4, "<init>", "()V"⟩
theorem dJ4_init_0 : decode cJ4_init 0 = .ok (.return_, 1) := by decide +kernel
theorem q21 : (Jvm.Cond.instanceMethod ({ cls := "java/lang/Object", name := "<init>", desc := "()V" } : Jvm.MethodName)) ∈ lw_all := lw_g (lw_at lw_m0 15 rfl) rfl
theorem q22 : (Jvm.Cond.code ({ cls := "java/lang/Object", name := "<init>", desc := "()V" } : Jvm.MethodName) object_method_1_code (1 : Nat) (Option.none : Option Jvm.ClassFile.FieldType)) ∈ lw_all := lw_g (lw_at lw_m0 16 rfl) rfl
theorem q30 : (Jvm.Cond.arrayClass Jvm.ClassFile.FieldType.byte) ∈ lw_all := lw_g (lw_at lw_m0 24 rfl) rfl
set_option maxRecDepth 100000
theorem q6 : (Jvm.Cond.initialized "WireTextLaw") ∈ lw_all := lw_g (lw_at lw_m0 0 rfl) rfl
set_option maxRecDepth 100000
theorem q15 : (Jvm.Cond.classLink "WireTextLaw" (7 : Nat) "WireText") ∈ lw_all := lw_g (lw_at lw_m0 9 rfl) rfl
theorem q17 : (Jvm.Cond.methodLink "WireTextLaw" (9 : Nat) ({ cls := "WireText", name := "<init>", desc := "()V" } : Jvm.MethodName)) ∈ lw_all := lw_g (lw_at lw_m0 11 rfl) rfl
theorem q31 : (Jvm.Cond.methodLink "WireTextLaw" (13 : Nat) ({ cls := "WireText", name := "put", desc := "(IIII)Z" } : Jvm.MethodName)) ∈ lw_all := lw_g (lw_at lw_m0 25 rfl) rfl
theorem q39 : (Jvm.Cond.methodLink "WireTextLaw" (18 : Nat) ({ cls := "WireText", name := "trim", desc := "(I)V" } : Jvm.MethodName)) ∈ lw_all := lw_g (lw_at lw_m0 33 rfl) rfl
theorem q48 : (Jvm.Cond.methodLink "WireTextLaw" (23 : Nat) ({ cls := "WireText", name := "size", desc := "()I" } : Jvm.MethodName)) ∈ lw_all := lw_g (lw_at lw_m0 42 rfl) rfl
theorem q52 : (Jvm.Cond.methodLink "WireTextLaw" (28 : Nat) ({ cls := "WireText", name := "fair", desc := "(II)Z" } : Jvm.MethodName)) ∈ lw_all := lw_g (lw_at lw_m0 46 rfl) rfl
theorem q134 : (Jvm.Cond.methodLink "WireTextLaw" (33 : Nat) ({ cls := "WireText", name := "sign", desc := "(II)V" } : Jvm.MethodName)) ∈ lw_all := lw_g (lw_at lw_m0 128 rfl) rfl
theorem q138 : (Jvm.Cond.classLink "WireTextLaw" (10 : Nat) "WireTextModel") ∈ lw_all := lw_g (lw_at lw_m0 132 rfl) rfl
theorem q140 : (Jvm.Cond.methodLink "WireTextLaw" (12 : Nat) ({ cls := "WireTextModel", name := "<init>", desc := "()V" } : Jvm.MethodName)) ∈ lw_all := lw_g (lw_at lw_m0 134 rfl) rfl
theorem q151 : (Jvm.Cond.methodLink "WireTextLaw" (17 : Nat) ({ cls := "WireTextModel", name := "put", desc := "(IIII)Z" } : Jvm.MethodName)) ∈ lw_all := lw_g (lw_at lw_m0 145 rfl) rfl
theorem q155 : (Jvm.Cond.methodLink "WireTextLaw" (22 : Nat) ({ cls := "WireTextModel", name := "trim", desc := "(I)V" } : Jvm.MethodName)) ∈ lw_all := lw_g (lw_at lw_m0 149 rfl) rfl
theorem q164 : (Jvm.Cond.methodLink "WireTextLaw" (27 : Nat) ({ cls := "WireTextModel", name := "size", desc := "()I" } : Jvm.MethodName)) ∈ lw_all := lw_g (lw_at lw_m0 158 rfl) rfl
theorem q168 : (Jvm.Cond.methodLink "WireTextLaw" (37 : Nat) ({ cls := "WireTextModel", name := "sign", desc := "(II)V" } : Jvm.MethodName)) ∈ lw_all := lw_g (lw_at lw_m0 162 rfl) rfl
theorem q172 : (Jvm.Cond.methodLink "WireTextLaw" (32 : Nat) ({ cls := "WireTextModel", name := "fair", desc := "(II)Z" } : Jvm.MethodName)) ∈ lw_all := lw_g (lw_at lw_m0 166 rfl) rfl
/-! Preconditions -/
set_option maxRecDepth 100000
def RX3 : String := "Preconditions"
abbrev cX3_checkPositionIndexes : ByteArray := prog_1_method_1_code
def yX3_checkPositionIndexes : MethodName := ⟨RX3, "checkPositionIndexes", "(III)V"⟩
def dkwX3_checkPositionIndexes_1 : List UInt8 := [177]
abbrev dktX3_checkPositionIndexes_1 : List UInt8 := dkwX3_checkPositionIndexes_1 ++ []
def dkwX3_checkPositionIndexes_0 : List UInt8 := [26, 155, 0, 13, 27, 26, 161, 0, 8, 27, 28, 164, 0, 13, 187, 0, 1, 89, 18, 3, 183, 0, 5, 191]
abbrev dktX3_checkPositionIndexes_0 : List UInt8 := dkwX3_checkPositionIndexes_0 ++ dktX3_checkPositionIndexes_1
theorem dksX3_checkPositionIndexes_0 : cX3_checkPositionIndexes.data.toList.drop 0 = dktX3_checkPositionIndexes_0 := by decide +kernel
theorem dksX3_checkPositionIndexes_1 : cX3_checkPositionIndexes.data.toList.drop 24 = dktX3_checkPositionIndexes_1 := dk_seg dksX3_checkPositionIndexes_0 24 rfl rfl
theorem dX3_checkPositionIndexes_0 : decode cX3_checkPositionIndexes 0 = .ok (.iload_n 0, 1) := dk_26 (dk_at dksX3_checkPositionIndexes_0 0 rfl rfl)
theorem dX3_checkPositionIndexes_1 : decode cX3_checkPositionIndexes 1 = .ok (.ifCond .lt 13, 3) := dk_155 0 13 (dk_at dksX3_checkPositionIndexes_0 1 rfl rfl)
theorem dX3_checkPositionIndexes_4 : decode cX3_checkPositionIndexes 4 = .ok (.iload_n 1, 1) := dk_27 (dk_at dksX3_checkPositionIndexes_0 4 rfl rfl)
theorem dX3_checkPositionIndexes_5 : decode cX3_checkPositionIndexes 5 = .ok (.iload_n 0, 1) := dk_26 (dk_at dksX3_checkPositionIndexes_0 5 rfl rfl)
theorem dX3_checkPositionIndexes_6 : decode cX3_checkPositionIndexes 6 = .ok (.if_icmp .lt 8, 3) := dk_161 0 8 (dk_at dksX3_checkPositionIndexes_0 6 rfl rfl)
theorem dX3_checkPositionIndexes_9 : decode cX3_checkPositionIndexes 9 = .ok (.iload_n 1, 1) := dk_27 (dk_at dksX3_checkPositionIndexes_0 9 rfl rfl)
theorem dX3_checkPositionIndexes_10 : decode cX3_checkPositionIndexes 10 = .ok (.iload_n 2, 1) := dk_28 (dk_at dksX3_checkPositionIndexes_0 10 rfl rfl)
theorem dX3_checkPositionIndexes_11 : decode cX3_checkPositionIndexes 11 = .ok (.if_icmp .le 13, 3) := dk_164 0 13 (dk_at dksX3_checkPositionIndexes_0 11 rfl rfl)
theorem dX3_checkPositionIndexes_14 : decode cX3_checkPositionIndexes 14 = .ok (.new 1, 3) := dk_187 0 1 (dk_at dksX3_checkPositionIndexes_0 14 rfl rfl)
theorem dX3_checkPositionIndexes_17 : decode cX3_checkPositionIndexes 17 = .ok (.dup, 1) := dk_89 (dk_at dksX3_checkPositionIndexes_0 17 rfl rfl)
theorem dX3_checkPositionIndexes_18 : decode cX3_checkPositionIndexes 18 = .ok (.ldc 3, 2) := dk_18 3 (dk_at dksX3_checkPositionIndexes_0 18 rfl rfl)
theorem dX3_checkPositionIndexes_20 : decode cX3_checkPositionIndexes 20 = .ok (.invokespecial 5, 3) := dk_183 0 5 (dk_at dksX3_checkPositionIndexes_0 20 rfl rfl)
theorem dX3_checkPositionIndexes_23 : decode cX3_checkPositionIndexes 23 = .ok (.athrow, 1) := dk_191 (dk_at dksX3_checkPositionIndexes_0 23 rfl rfl)
theorem dX3_checkPositionIndexes_24 : decode cX3_checkPositionIndexes 24 = .ok (.return_, 1) := dk_177 (dk_at dksX3_checkPositionIndexes_1 0 rfl rfl)
theorem q10 : (Jvm.Cond.initialized "Preconditions") ∈ lw_all := lw_g (lw_at lw_m0 4 rfl) rfl
theorem q64 : (Jvm.Cond.static ({ cls := "Preconditions", name := "checkPositionIndexes", desc := "(III)V" } : Jvm.MethodName)) ∈ lw_all := lw_g (lw_at lw_m0 58 rfl) rfl
theorem q65 : (Jvm.Cond.code ({ cls := "Preconditions", name := "checkPositionIndexes", desc := "(III)V" } : Jvm.MethodName) prog_1_method_1_code (3 : Nat) (Option.none : Option Jvm.ClassFile.FieldType)) ∈ lw_all := lw_g (lw_at lw_m0 59 rfl) rfl
theorem q66 : (Jvm.Cond.classLink "Preconditions" (1 : Nat) "java/lang/IndexOutOfBoundsException") ∈ lw_all := lw_g (lw_at lw_m0 60 rfl) rfl
theorem q105 : (Jvm.Cond.stringRef "Preconditions" (3 : Nat) "left out") ∈ lw_tbl := lw_at lw_m0 99 rfl
theorem q106 : (Jvm.Cond.methodLink "Preconditions" (5 : Nat) ({ cls := "java/lang/IndexOutOfBoundsException", name := "<init>", desc := "(Ljava/lang/String;)V" } : Jvm.MethodName)) ∈ lw_all := lw_g (lw_at lw_m0 100 rfl) rfl
end
section
/-! WireText -/
set_option maxRecDepth 100000
def RX0 : String := "WireText"
def TX0 : u_T := fun k => match k with
  | 0 => ("WireText", "text", "[B", true)
  | _ => ("WireText", "size", "I", false)
def tyX0 : Nat → FieldType := fun k => match k with
  | 0 => .array .byte
  | _ => .int
abbrev wsX00 : List Cond := u_ws RX0 TX0 2
theorem nmX0 : ∀ a, a < 2 → ∀ b, b < 2 → a ≠ b → (TX0 a).2.1 ≠ (TX0 b).2.1 := by decide +kernel
theorem tyX0_ok : ∀ k, k < 2 → parseFieldDescriptor (TX0 k).2.2.1 = some (tyX0 k) := by decide +kernel
abbrev cX0_init : ByteArray := prog_3_method_1_code
def yX0_init : MethodName := ⟨RX0, "<init>", "()V"⟩
def dkwX0_init_0 : List UInt8 := [42, 183, 0, 1, 42, 17, 16, 0, 188, 8, 181, 0, 7, 177]
abbrev dktX0_init_0 : List UInt8 := dkwX0_init_0 ++ []
theorem dksX0_init_0 : cX0_init.data.toList.drop 0 = dktX0_init_0 := by decide +kernel
theorem dX0_init_0 : decode cX0_init 0 = .ok (.aload_n 0, 1) := dk_42 (dk_at dksX0_init_0 0 rfl rfl)
theorem dX0_init_1 : decode cX0_init 1 = .ok (.invokespecial 1, 3) := dk_183 0 1 (dk_at dksX0_init_0 1 rfl rfl)
theorem dX0_init_4 : decode cX0_init 4 = .ok (.aload_n 0, 1) := dk_42 (dk_at dksX0_init_0 4 rfl rfl)
theorem dX0_init_5 : decode cX0_init 5 = .ok (.sipush 4096, 3) := dk_17 16 0 (dk_at dksX0_init_0 5 rfl rfl)
theorem dX0_init_8 : decode cX0_init 8 = .ok (.newarray .byte, 2) := dk_188_8 (dk_at dksX0_init_0 8 rfl rfl)
theorem dX0_init_10 : decode cX0_init 10 = .ok (.putfield 7, 3) := dk_181 0 7 (dk_at dksX0_init_0 10 rfl rfl)
theorem dX0_init_13 : decode cX0_init 13 = .ok (.return_, 1) := dk_177 (dk_at dksX0_init_0 13 rfl rfl)
abbrev cX0_put : ByteArray := prog_3_method_2_code
def yX0_put : MethodName := ⟨RX0, "put", "(IIII)Z"⟩
def dkwX0_put_3 : List UInt8 := [181, 0, 13, 4, 172]
abbrev dktX0_put_3 : List UInt8 := dkwX0_put_3 ++ []
def dkwX0_put_2 : List UInt8 := [182, 0, 17, 42, 42, 180, 0, 13, 16, 12, 96, 21, 4, 182, 0, 17, 42, 89, 180, 0, 13, 16, 16, 96]
abbrev dktX0_put_2 : List UInt8 := dkwX0_put_2 ++ dktX0_put_3
def dkwX0_put_1 : List UInt8 := [182, 0, 17, 42, 42, 180, 0, 13, 7, 96, 28, 182, 0, 17, 42, 42, 180, 0, 13, 16, 8, 96, 29]
abbrev dktX0_put_1 : List UInt8 := dkwX0_put_1 ++ dktX0_put_2
def dkwX0_put_0 : List UInt8 := [42, 180, 0, 13, 42, 180, 0, 7, 190, 16, 16, 100, 164, 0, 5, 3, 172, 42, 42, 180, 0, 13, 27]
abbrev dktX0_put_0 : List UInt8 := dkwX0_put_0 ++ dktX0_put_1
theorem dksX0_put_0 : cX0_put.data.toList.drop 0 = dktX0_put_0 := by decide +kernel
theorem dksX0_put_1 : cX0_put.data.toList.drop 23 = dktX0_put_1 := dk_seg dksX0_put_0 23 rfl rfl
theorem dksX0_put_2 : cX0_put.data.toList.drop 46 = dktX0_put_2 := dk_seg dksX0_put_1 23 rfl rfl
theorem dksX0_put_3 : cX0_put.data.toList.drop 70 = dktX0_put_3 := dk_seg dksX0_put_2 24 rfl rfl
theorem dX0_put_0 : decode cX0_put 0 = .ok (.aload_n 0, 1) := dk_42 (dk_at dksX0_put_0 0 rfl rfl)
theorem dX0_put_1 : decode cX0_put 1 = .ok (.getfield 13, 3) := dk_180 0 13 (dk_at dksX0_put_0 1 rfl rfl)
theorem dX0_put_4 : decode cX0_put 4 = .ok (.aload_n 0, 1) := dk_42 (dk_at dksX0_put_0 4 rfl rfl)
theorem dX0_put_5 : decode cX0_put 5 = .ok (.getfield 7, 3) := dk_180 0 7 (dk_at dksX0_put_0 5 rfl rfl)
theorem dX0_put_8 : decode cX0_put 8 = .ok (.arraylength, 1) := dk_190 (dk_at dksX0_put_0 8 rfl rfl)
theorem dX0_put_9 : decode cX0_put 9 = .ok (.bipush 16, 2) := dk_16 16 (dk_at dksX0_put_0 9 rfl rfl)
theorem dX0_put_11 : decode cX0_put 11 = .ok (.isub, 1) := dk_100 (dk_at dksX0_put_0 11 rfl rfl)
theorem dX0_put_12 : decode cX0_put 12 = .ok (.if_icmp .le 5, 3) := dk_164 0 5 (dk_at dksX0_put_0 12 rfl rfl)
theorem dX0_put_15 : decode cX0_put 15 = .ok (.iconst 0, 1) := dk_3 (dk_at dksX0_put_0 15 rfl rfl)
theorem dX0_put_16 : decode cX0_put 16 = .ok (.ireturn, 1) := dk_172 (dk_at dksX0_put_0 16 rfl rfl)
theorem dX0_put_17 : decode cX0_put 17 = .ok (.aload_n 0, 1) := dk_42 (dk_at dksX0_put_0 17 rfl rfl)
theorem dX0_put_18 : decode cX0_put 18 = .ok (.aload_n 0, 1) := dk_42 (dk_at dksX0_put_0 18 rfl rfl)
theorem dX0_put_19 : decode cX0_put 19 = .ok (.getfield 13, 3) := dk_180 0 13 (dk_at dksX0_put_0 19 rfl rfl)
theorem dX0_put_22 : decode cX0_put 22 = .ok (.iload_n 1, 1) := dk_27 (dk_at dksX0_put_0 22 rfl rfl)
theorem dX0_put_23 : decode cX0_put 23 = .ok (.invokevirtual 17, 3) := dk_182 0 17 (dk_at dksX0_put_1 0 rfl rfl)
theorem dX0_put_26 : decode cX0_put 26 = .ok (.aload_n 0, 1) := dk_42 (dk_at dksX0_put_1 3 rfl rfl)
theorem dX0_put_27 : decode cX0_put 27 = .ok (.aload_n 0, 1) := dk_42 (dk_at dksX0_put_1 4 rfl rfl)
theorem dX0_put_28 : decode cX0_put 28 = .ok (.getfield 13, 3) := dk_180 0 13 (dk_at dksX0_put_1 5 rfl rfl)
theorem dX0_put_31 : decode cX0_put 31 = .ok (.iconst 4, 1) := dk_7 (dk_at dksX0_put_1 8 rfl rfl)
theorem dX0_put_32 : decode cX0_put 32 = .ok (.iadd, 1) := dk_96 (dk_at dksX0_put_1 9 rfl rfl)
theorem dX0_put_33 : decode cX0_put 33 = .ok (.iload_n 2, 1) := dk_28 (dk_at dksX0_put_1 10 rfl rfl)
theorem dX0_put_34 : decode cX0_put 34 = .ok (.invokevirtual 17, 3) := dk_182 0 17 (dk_at dksX0_put_1 11 rfl rfl)
theorem dX0_put_37 : decode cX0_put 37 = .ok (.aload_n 0, 1) := dk_42 (dk_at dksX0_put_1 14 rfl rfl)
theorem dX0_put_38 : decode cX0_put 38 = .ok (.aload_n 0, 1) := dk_42 (dk_at dksX0_put_1 15 rfl rfl)
theorem dX0_put_39 : decode cX0_put 39 = .ok (.getfield 13, 3) := dk_180 0 13 (dk_at dksX0_put_1 16 rfl rfl)
theorem dX0_put_42 : decode cX0_put 42 = .ok (.bipush 8, 2) := dk_16 8 (dk_at dksX0_put_1 19 rfl rfl)
theorem dX0_put_44 : decode cX0_put 44 = .ok (.iadd, 1) := dk_96 (dk_at dksX0_put_1 21 rfl rfl)
theorem dX0_put_45 : decode cX0_put 45 = .ok (.iload_n 3, 1) := dk_29 (dk_at dksX0_put_1 22 rfl rfl)
theorem dX0_put_46 : decode cX0_put 46 = .ok (.invokevirtual 17, 3) := dk_182 0 17 (dk_at dksX0_put_2 0 rfl rfl)
theorem dX0_put_49 : decode cX0_put 49 = .ok (.aload_n 0, 1) := dk_42 (dk_at dksX0_put_2 3 rfl rfl)
theorem dX0_put_50 : decode cX0_put 50 = .ok (.aload_n 0, 1) := dk_42 (dk_at dksX0_put_2 4 rfl rfl)
theorem dX0_put_51 : decode cX0_put 51 = .ok (.getfield 13, 3) := dk_180 0 13 (dk_at dksX0_put_2 5 rfl rfl)
theorem dX0_put_54 : decode cX0_put 54 = .ok (.bipush 12, 2) := dk_16 12 (dk_at dksX0_put_2 8 rfl rfl)
theorem dX0_put_56 : decode cX0_put 56 = .ok (.iadd, 1) := dk_96 (dk_at dksX0_put_2 10 rfl rfl)
theorem dX0_put_57 : decode cX0_put 57 = .ok (.iload 4, 2) := dk_21 4 (dk_at dksX0_put_2 11 rfl rfl)
theorem dX0_put_59 : decode cX0_put 59 = .ok (.invokevirtual 17, 3) := dk_182 0 17 (dk_at dksX0_put_2 13 rfl rfl)
theorem dX0_put_62 : decode cX0_put 62 = .ok (.aload_n 0, 1) := dk_42 (dk_at dksX0_put_2 16 rfl rfl)
theorem dX0_put_63 : decode cX0_put 63 = .ok (.dup, 1) := dk_89 (dk_at dksX0_put_2 17 rfl rfl)
theorem dX0_put_64 : decode cX0_put 64 = .ok (.getfield 13, 3) := dk_180 0 13 (dk_at dksX0_put_2 18 rfl rfl)
theorem dX0_put_67 : decode cX0_put 67 = .ok (.bipush 16, 2) := dk_16 16 (dk_at dksX0_put_2 21 rfl rfl)
theorem dX0_put_69 : decode cX0_put 69 = .ok (.iadd, 1) := dk_96 (dk_at dksX0_put_2 23 rfl rfl)
theorem dX0_put_70 : decode cX0_put 70 = .ok (.putfield 13, 3) := dk_181 0 13 (dk_at dksX0_put_3 0 rfl rfl)
theorem dX0_put_73 : decode cX0_put 73 = .ok (.iconst 1, 1) := dk_4 (dk_at dksX0_put_3 3 rfl rfl)
theorem dX0_put_74 : decode cX0_put 74 = .ok (.ireturn, 1) := dk_172 (dk_at dksX0_put_3 4 rfl rfl)
abbrev cX0_word : ByteArray := prog_3_method_3_code
def yX0_word : MethodName := ⟨RX0, "word", "(II)V"⟩
def dkwX0_word_1 : List UInt8 := [42, 180, 0, 7, 27, 5, 96, 28, 16, 8, 122, 145, 84, 42, 180, 0, 7, 27, 6, 96, 28, 145, 84, 177]
abbrev dktX0_word_1 : List UInt8 := dkwX0_word_1 ++ []
def dkwX0_word_0 : List UInt8 := [42, 180, 0, 7, 27, 28, 16, 24, 122, 145, 84, 42, 180, 0, 7, 27, 4, 96, 28, 16, 16, 122, 145, 84]
abbrev dktX0_word_0 : List UInt8 := dkwX0_word_0 ++ dktX0_word_1
theorem dksX0_word_0 : cX0_word.data.toList.drop 0 = dktX0_word_0 := by decide +kernel
theorem dksX0_word_1 : cX0_word.data.toList.drop 24 = dktX0_word_1 := dk_seg dksX0_word_0 24 rfl rfl
theorem dX0_word_0 : decode cX0_word 0 = .ok (.aload_n 0, 1) := dk_42 (dk_at dksX0_word_0 0 rfl rfl)
theorem dX0_word_1 : decode cX0_word 1 = .ok (.getfield 7, 3) := dk_180 0 7 (dk_at dksX0_word_0 1 rfl rfl)
theorem dX0_word_4 : decode cX0_word 4 = .ok (.iload_n 1, 1) := dk_27 (dk_at dksX0_word_0 4 rfl rfl)
theorem dX0_word_5 : decode cX0_word 5 = .ok (.iload_n 2, 1) := dk_28 (dk_at dksX0_word_0 5 rfl rfl)
theorem dX0_word_6 : decode cX0_word 6 = .ok (.bipush 24, 2) := dk_16 24 (dk_at dksX0_word_0 6 rfl rfl)
theorem dX0_word_8 : decode cX0_word 8 = .ok (.ishr, 1) := dk_122 (dk_at dksX0_word_0 8 rfl rfl)
theorem dX0_word_9 : decode cX0_word 9 = .ok (.i2b, 1) := dk_145 (dk_at dksX0_word_0 9 rfl rfl)
theorem dX0_word_10 : decode cX0_word 10 = .ok (.bastore, 1) := dk_84 (dk_at dksX0_word_0 10 rfl rfl)
theorem dX0_word_11 : decode cX0_word 11 = .ok (.aload_n 0, 1) := dk_42 (dk_at dksX0_word_0 11 rfl rfl)
theorem dX0_word_12 : decode cX0_word 12 = .ok (.getfield 7, 3) := dk_180 0 7 (dk_at dksX0_word_0 12 rfl rfl)
theorem dX0_word_15 : decode cX0_word 15 = .ok (.iload_n 1, 1) := dk_27 (dk_at dksX0_word_0 15 rfl rfl)
theorem dX0_word_16 : decode cX0_word 16 = .ok (.iconst 1, 1) := dk_4 (dk_at dksX0_word_0 16 rfl rfl)
theorem dX0_word_17 : decode cX0_word 17 = .ok (.iadd, 1) := dk_96 (dk_at dksX0_word_0 17 rfl rfl)
theorem dX0_word_18 : decode cX0_word 18 = .ok (.iload_n 2, 1) := dk_28 (dk_at dksX0_word_0 18 rfl rfl)
theorem dX0_word_19 : decode cX0_word 19 = .ok (.bipush 16, 2) := dk_16 16 (dk_at dksX0_word_0 19 rfl rfl)
theorem dX0_word_21 : decode cX0_word 21 = .ok (.ishr, 1) := dk_122 (dk_at dksX0_word_0 21 rfl rfl)
theorem dX0_word_22 : decode cX0_word 22 = .ok (.i2b, 1) := dk_145 (dk_at dksX0_word_0 22 rfl rfl)
theorem dX0_word_23 : decode cX0_word 23 = .ok (.bastore, 1) := dk_84 (dk_at dksX0_word_0 23 rfl rfl)
theorem dX0_word_24 : decode cX0_word 24 = .ok (.aload_n 0, 1) := dk_42 (dk_at dksX0_word_1 0 rfl rfl)
theorem dX0_word_25 : decode cX0_word 25 = .ok (.getfield 7, 3) := dk_180 0 7 (dk_at dksX0_word_1 1 rfl rfl)
theorem dX0_word_28 : decode cX0_word 28 = .ok (.iload_n 1, 1) := dk_27 (dk_at dksX0_word_1 4 rfl rfl)
theorem dX0_word_29 : decode cX0_word 29 = .ok (.iconst 2, 1) := dk_5 (dk_at dksX0_word_1 5 rfl rfl)
theorem dX0_word_30 : decode cX0_word 30 = .ok (.iadd, 1) := dk_96 (dk_at dksX0_word_1 6 rfl rfl)
theorem dX0_word_31 : decode cX0_word 31 = .ok (.iload_n 2, 1) := dk_28 (dk_at dksX0_word_1 7 rfl rfl)
theorem dX0_word_32 : decode cX0_word 32 = .ok (.bipush 8, 2) := dk_16 8 (dk_at dksX0_word_1 8 rfl rfl)
theorem dX0_word_34 : decode cX0_word 34 = .ok (.ishr, 1) := dk_122 (dk_at dksX0_word_1 10 rfl rfl)
theorem dX0_word_35 : decode cX0_word 35 = .ok (.i2b, 1) := dk_145 (dk_at dksX0_word_1 11 rfl rfl)
theorem dX0_word_36 : decode cX0_word 36 = .ok (.bastore, 1) := dk_84 (dk_at dksX0_word_1 12 rfl rfl)
theorem dX0_word_37 : decode cX0_word 37 = .ok (.aload_n 0, 1) := dk_42 (dk_at dksX0_word_1 13 rfl rfl)
theorem dX0_word_38 : decode cX0_word 38 = .ok (.getfield 7, 3) := dk_180 0 7 (dk_at dksX0_word_1 14 rfl rfl)
theorem dX0_word_41 : decode cX0_word 41 = .ok (.iload_n 1, 1) := dk_27 (dk_at dksX0_word_1 17 rfl rfl)
theorem dX0_word_42 : decode cX0_word 42 = .ok (.iconst 3, 1) := dk_6 (dk_at dksX0_word_1 18 rfl rfl)
theorem dX0_word_43 : decode cX0_word 43 = .ok (.iadd, 1) := dk_96 (dk_at dksX0_word_1 19 rfl rfl)
theorem dX0_word_44 : decode cX0_word 44 = .ok (.iload_n 2, 1) := dk_28 (dk_at dksX0_word_1 20 rfl rfl)
theorem dX0_word_45 : decode cX0_word 45 = .ok (.i2b, 1) := dk_145 (dk_at dksX0_word_1 21 rfl rfl)
theorem dX0_word_46 : decode cX0_word 46 = .ok (.bastore, 1) := dk_84 (dk_at dksX0_word_1 22 rfl rfl)
theorem dX0_word_47 : decode cX0_word 47 = .ok (.return_, 1) := dk_177 (dk_at dksX0_word_1 23 rfl rfl)
abbrev cX0_trim : ByteArray := prog_3_method_4_code
def yX0_trim : MethodName := ⟨RX0, "trim", "(I)V"⟩
def dkwX0_trim_0 : List UInt8 := [42, 42, 27, 182, 0, 21, 181, 0, 13, 177]
abbrev dktX0_trim_0 : List UInt8 := dkwX0_trim_0 ++ []
theorem dksX0_trim_0 : cX0_trim.data.toList.drop 0 = dktX0_trim_0 := by decide +kernel
theorem dX0_trim_0 : decode cX0_trim 0 = .ok (.aload_n 0, 1) := dk_42 (dk_at dksX0_trim_0 0 rfl rfl)
theorem dX0_trim_1 : decode cX0_trim 1 = .ok (.aload_n 0, 1) := dk_42 (dk_at dksX0_trim_0 1 rfl rfl)
theorem dX0_trim_2 : decode cX0_trim 2 = .ok (.iload_n 1, 1) := dk_27 (dk_at dksX0_trim_0 2 rfl rfl)
theorem dX0_trim_3 : decode cX0_trim 3 = .ok (.invokevirtual 21, 3) := dk_182 0 21 (dk_at dksX0_trim_0 3 rfl rfl)
theorem dX0_trim_6 : decode cX0_trim 6 = .ok (.putfield 13, 3) := dk_181 0 13 (dk_at dksX0_trim_0 6 rfl rfl)
theorem dX0_trim_9 : decode cX0_trim 9 = .ok (.return_, 1) := dk_177 (dk_at dksX0_trim_0 9 rfl rfl)
abbrev cX0_from : ByteArray := prog_3_method_6_code
def yX0_from : MethodName := ⟨RX0, "from", "(I)I"⟩
def dkwX0_from_0 : List UInt8 := [27, 18, 25, 126, 42, 180, 0, 13, 4, 96, 112, 172]
abbrev dktX0_from_0 : List UInt8 := dkwX0_from_0 ++ []
theorem dksX0_from_0 : cX0_from.data.toList.drop 0 = dktX0_from_0 := by decide +kernel
theorem dX0_from_0 : decode cX0_from 0 = .ok (.iload_n 1, 1) := dk_27 (dk_at dksX0_from_0 0 rfl rfl)
theorem dX0_from_1 : decode cX0_from 1 = .ok (.ldc 25, 2) := dk_18 25 (dk_at dksX0_from_0 1 rfl rfl)
theorem dX0_from_3 : decode cX0_from 3 = .ok (.iand, 1) := dk_126 (dk_at dksX0_from_0 3 rfl rfl)
theorem dX0_from_4 : decode cX0_from 4 = .ok (.aload_n 0, 1) := dk_42 (dk_at dksX0_from_0 4 rfl rfl)
theorem dX0_from_5 : decode cX0_from 5 = .ok (.getfield 13, 3) := dk_180 0 13 (dk_at dksX0_from_0 5 rfl rfl)
theorem dX0_from_8 : decode cX0_from 8 = .ok (.iconst 1, 1) := dk_4 (dk_at dksX0_from_0 8 rfl rfl)
theorem dX0_from_9 : decode cX0_from 9 = .ok (.iadd, 1) := dk_96 (dk_at dksX0_from_0 9 rfl rfl)
theorem dX0_from_10 : decode cX0_from 10 = .ok (.irem, 1) := dk_112 (dk_at dksX0_from_0 10 rfl rfl)
theorem dX0_from_11 : decode cX0_from 11 = .ok (.ireturn, 1) := dk_172 (dk_at dksX0_from_0 11 rfl rfl)
abbrev cX0_size : ByteArray := prog_3_method_5_code
def yX0_size : MethodName := ⟨RX0, "size", "()I"⟩
theorem dX0_size_0 : decode cX0_size 0 = .ok (.aload_n 0, 1) := by decide +kernel
theorem dX0_size_1 : decode cX0_size 1 = .ok (.getfield 13, 3) := by decide +kernel
theorem dX0_size_4 : decode cX0_size 4 = .ok (.ireturn, 1) := by decide +kernel
abbrev cX0_fair : ByteArray := prog_3_method_8_code
def yX0_fair : MethodName := ⟨RX0, "fair", "(II)Z"⟩
def dkwX0_fair_0 : List UInt8 := [42, 27, 182, 0, 21, 62, 42, 180, 0, 7, 29, 42, 29, 28, 182, 0, 26, 184, 0, 30, 172]
abbrev dktX0_fair_0 : List UInt8 := dkwX0_fair_0 ++ []
theorem dksX0_fair_0 : cX0_fair.data.toList.drop 0 = dktX0_fair_0 := by decide +kernel
theorem dX0_fair_0 : decode cX0_fair 0 = .ok (.aload_n 0, 1) := dk_42 (dk_at dksX0_fair_0 0 rfl rfl)
theorem dX0_fair_1 : decode cX0_fair 1 = .ok (.iload_n 1, 1) := dk_27 (dk_at dksX0_fair_0 1 rfl rfl)
theorem dX0_fair_2 : decode cX0_fair 2 = .ok (.invokevirtual 21, 3) := dk_182 0 21 (dk_at dksX0_fair_0 2 rfl rfl)
theorem dX0_fair_5 : decode cX0_fair 5 = .ok (.istore_n 3, 1) := dk_62 (dk_at dksX0_fair_0 5 rfl rfl)
theorem dX0_fair_6 : decode cX0_fair 6 = .ok (.aload_n 0, 1) := dk_42 (dk_at dksX0_fair_0 6 rfl rfl)
theorem dX0_fair_7 : decode cX0_fair 7 = .ok (.getfield 7, 3) := dk_180 0 7 (dk_at dksX0_fair_0 7 rfl rfl)
theorem dX0_fair_10 : decode cX0_fair 10 = .ok (.iload_n 3, 1) := dk_29 (dk_at dksX0_fair_0 10 rfl rfl)
theorem dX0_fair_11 : decode cX0_fair 11 = .ok (.aload_n 0, 1) := dk_42 (dk_at dksX0_fair_0 11 rfl rfl)
theorem dX0_fair_12 : decode cX0_fair 12 = .ok (.iload_n 3, 1) := dk_29 (dk_at dksX0_fair_0 12 rfl rfl)
theorem dX0_fair_13 : decode cX0_fair 13 = .ok (.iload_n 2, 1) := dk_28 (dk_at dksX0_fair_0 13 rfl rfl)
theorem dX0_fair_14 : decode cX0_fair 14 = .ok (.invokevirtual 26, 3) := dk_182 0 26 (dk_at dksX0_fair_0 14 rfl rfl)
theorem dX0_fair_17 : decode cX0_fair 17 = .ok (.invokestatic 30, 3) := dk_184 0 30 (dk_at dksX0_fair_0 17 rfl rfl)
theorem dX0_fair_20 : decode cX0_fair 20 = .ok (.ireturn, 1) := dk_172 (dk_at dksX0_fair_0 20 rfl rfl)
abbrev cX0_count : ByteArray := prog_3_method_7_code
def yX0_count : MethodName := ⟨RX0, "count", "(II)I"⟩
def dkwX0_count_0 : List UInt8 := [28, 18, 25, 126, 42, 180, 0, 13, 27, 100, 4, 96, 112, 172]
abbrev dktX0_count_0 : List UInt8 := dkwX0_count_0 ++ []
theorem dksX0_count_0 : cX0_count.data.toList.drop 0 = dktX0_count_0 := by decide +kernel
theorem dX0_count_0 : decode cX0_count 0 = .ok (.iload_n 2, 1) := dk_28 (dk_at dksX0_count_0 0 rfl rfl)
theorem dX0_count_1 : decode cX0_count 1 = .ok (.ldc 25, 2) := dk_18 25 (dk_at dksX0_count_0 1 rfl rfl)
theorem dX0_count_3 : decode cX0_count 3 = .ok (.iand, 1) := dk_126 (dk_at dksX0_count_0 3 rfl rfl)
theorem dX0_count_4 : decode cX0_count 4 = .ok (.aload_n 0, 1) := dk_42 (dk_at dksX0_count_0 4 rfl rfl)
theorem dX0_count_5 : decode cX0_count 5 = .ok (.getfield 13, 3) := dk_180 0 13 (dk_at dksX0_count_0 5 rfl rfl)
theorem dX0_count_8 : decode cX0_count 8 = .ok (.iload_n 1, 1) := dk_27 (dk_at dksX0_count_0 8 rfl rfl)
theorem dX0_count_9 : decode cX0_count 9 = .ok (.isub, 1) := dk_100 (dk_at dksX0_count_0 9 rfl rfl)
theorem dX0_count_10 : decode cX0_count 10 = .ok (.iconst 1, 1) := dk_4 (dk_at dksX0_count_0 10 rfl rfl)
theorem dX0_count_11 : decode cX0_count 11 = .ok (.iadd, 1) := dk_96 (dk_at dksX0_count_0 11 rfl rfl)
theorem dX0_count_12 : decode cX0_count 12 = .ok (.irem, 1) := dk_112 (dk_at dksX0_count_0 12 rfl rfl)
theorem dX0_count_13 : decode cX0_count 13 = .ok (.ireturn, 1) := dk_172 (dk_at dksX0_count_0 13 rfl rfl)
abbrev cX0_sign : ByteArray := prog_3_method_9_code
def yX0_sign : MethodName := ⟨RX0, "sign", "(II)V"⟩
def dkwX0_sign_1 : List UInt8 := [84, 177]
abbrev dktX0_sign_1 : List UInt8 := dkwX0_sign_1 ++ []
def dkwX0_sign_0 : List UInt8 := [42, 180, 0, 13, 158, 0, 21, 27, 18, 25, 126, 42, 180, 0, 13, 112, 62, 42, 180, 0, 7, 29, 28, 145]
abbrev dktX0_sign_0 : List UInt8 := dkwX0_sign_0 ++ dktX0_sign_1
theorem dksX0_sign_0 : cX0_sign.data.toList.drop 0 = dktX0_sign_0 := by decide +kernel
theorem dksX0_sign_1 : cX0_sign.data.toList.drop 24 = dktX0_sign_1 := dk_seg dksX0_sign_0 24 rfl rfl
theorem dX0_sign_0 : decode cX0_sign 0 = .ok (.aload_n 0, 1) := dk_42 (dk_at dksX0_sign_0 0 rfl rfl)
theorem dX0_sign_1 : decode cX0_sign 1 = .ok (.getfield 13, 3) := dk_180 0 13 (dk_at dksX0_sign_0 1 rfl rfl)
theorem dX0_sign_4 : decode cX0_sign 4 = .ok (.ifCond .le 21, 3) := dk_158 0 21 (dk_at dksX0_sign_0 4 rfl rfl)
theorem dX0_sign_7 : decode cX0_sign 7 = .ok (.iload_n 1, 1) := dk_27 (dk_at dksX0_sign_0 7 rfl rfl)
theorem dX0_sign_8 : decode cX0_sign 8 = .ok (.ldc 25, 2) := dk_18 25 (dk_at dksX0_sign_0 8 rfl rfl)
theorem dX0_sign_10 : decode cX0_sign 10 = .ok (.iand, 1) := dk_126 (dk_at dksX0_sign_0 10 rfl rfl)
theorem dX0_sign_11 : decode cX0_sign 11 = .ok (.aload_n 0, 1) := dk_42 (dk_at dksX0_sign_0 11 rfl rfl)
theorem dX0_sign_12 : decode cX0_sign 12 = .ok (.getfield 13, 3) := dk_180 0 13 (dk_at dksX0_sign_0 12 rfl rfl)
theorem dX0_sign_15 : decode cX0_sign 15 = .ok (.irem, 1) := dk_112 (dk_at dksX0_sign_0 15 rfl rfl)
theorem dX0_sign_16 : decode cX0_sign 16 = .ok (.istore_n 3, 1) := dk_62 (dk_at dksX0_sign_0 16 rfl rfl)
theorem dX0_sign_17 : decode cX0_sign 17 = .ok (.aload_n 0, 1) := dk_42 (dk_at dksX0_sign_0 17 rfl rfl)
theorem dX0_sign_18 : decode cX0_sign 18 = .ok (.getfield 7, 3) := dk_180 0 7 (dk_at dksX0_sign_0 18 rfl rfl)
theorem dX0_sign_21 : decode cX0_sign 21 = .ok (.iload_n 3, 1) := dk_29 (dk_at dksX0_sign_0 21 rfl rfl)
theorem dX0_sign_22 : decode cX0_sign 22 = .ok (.iload_n 2, 1) := dk_28 (dk_at dksX0_sign_0 22 rfl rfl)
theorem dX0_sign_23 : decode cX0_sign 23 = .ok (.i2b, 1) := dk_145 (dk_at dksX0_sign_0 23 rfl rfl)
theorem dX0_sign_24 : decode cX0_sign 24 = .ok (.bastore, 1) := dk_84 (dk_at dksX0_sign_1 0 rfl rfl)
theorem dX0_sign_25 : decode cX0_sign 25 = .ok (.return_, 1) := dk_177 (dk_at dksX0_sign_1 1 rfl rfl)
theorem q7 : (Jvm.Cond.initialized "WireText") ∈ lw_all := lw_g (lw_at lw_m0 1 rfl) rfl
theorem q16 : (Jvm.Cond.instantiable "WireText" (2 : Nat)) ∈ lw_all := lw_g (lw_at lw_m0 10 rfl) rfl
theorem q18 : (Jvm.Cond.instanceMethod ({ cls := "WireText", name := "<init>", desc := "()V" } : Jvm.MethodName)) ∈ lw_all := lw_g (lw_at lw_m0 12 rfl) rfl
theorem q19 : (Jvm.Cond.code ({ cls := "WireText", name := "<init>", desc := "()V" } : Jvm.MethodName) prog_3_method_1_code (1 : Nat) (Option.none : Option Jvm.ClassFile.FieldType)) ∈ lw_all := lw_g (lw_at lw_m0 13 rfl) rfl
theorem q20 : (Jvm.Cond.methodLink "WireText" (1 : Nat) ({ cls := "java/lang/Object", name := "<init>", desc := "()V" } : Jvm.MethodName)) ∈ lw_all := lw_g (lw_at lw_m0 14 rfl) rfl
theorem q23 : (Jvm.Cond.fieldLink "WireText" (7 : Nat) "WireText" "text" "[B") ∈ lw_all := lw_g (lw_at lw_m0 17 rfl) rfl
theorem q24 : (Jvm.Cond.fieldLink "WireText" (13 : Nat) "WireText" "size" "I") ∈ lw_all := lw_g (lw_at lw_m0 18 rfl) rfl
theorem q25 : (Jvm.Cond.laysFinal "WireText" "WireText" "text" "[B") ∈ lw_all := lw_g (lw_at lw_m0 19 rfl) rfl
theorem q26 : (Jvm.Cond.soleField "WireText" "text") ∈ lw_all := lw_g (lw_at lw_m0 20 rfl) rfl
theorem q27 : (Jvm.Cond.lays "WireText" "WireText" "size" "I") ∈ lw_all := lw_g (lw_at lw_m0 21 rfl) rfl
theorem q28 : (Jvm.Cond.soleField "WireText" "size") ∈ lw_all := lw_g (lw_at lw_m0 22 rfl) rfl
theorem q29 : (Jvm.Cond.superclass "WireText" "java/lang/Object") ∈ lw_all := lw_g (lw_at lw_m0 23 rfl) rfl
theorem q32 : (Jvm.Cond.instanceMethod ({ cls := "WireText", name := "put", desc := "(IIII)Z" } : Jvm.MethodName)) ∈ lw_all := lw_g (lw_at lw_m0 26 rfl) rfl
theorem q33 : (Jvm.Cond.selects "WireText" ({ cls := "WireText", name := "put", desc := "(IIII)Z" } : Jvm.MethodName) ({ cls := "WireText", name := "put", desc := "(IIII)Z" } : Jvm.MethodName)) ∈ lw_all := lw_g (lw_at lw_m0 27 rfl) rfl
theorem q34 : (Jvm.Cond.code ({ cls := "WireText", name := "put", desc := "(IIII)Z" } : Jvm.MethodName) prog_3_method_2_code (5 : Nat) (Option.some Jvm.ClassFile.FieldType.boolean)) ∈ lw_all := lw_g (lw_at lw_m0 28 rfl) rfl
theorem q35 : (Jvm.Cond.methodLink "WireText" (17 : Nat) ({ cls := "WireText", name := "word", desc := "(II)V" } : Jvm.MethodName)) ∈ lw_all := lw_g (lw_at lw_m0 29 rfl) rfl
theorem q36 : (Jvm.Cond.privateMethod ({ cls := "WireText", name := "word", desc := "(II)V" } : Jvm.MethodName)) ∈ lw_tbl := lw_at lw_m0 30 rfl
theorem q37 : (Jvm.Cond.instanceMethod ({ cls := "WireText", name := "word", desc := "(II)V" } : Jvm.MethodName)) ∈ lw_all := lw_g (lw_at lw_m0 31 rfl) rfl
theorem q38 : (Jvm.Cond.code ({ cls := "WireText", name := "word", desc := "(II)V" } : Jvm.MethodName) prog_3_method_3_code (3 : Nat) (Option.none : Option Jvm.ClassFile.FieldType)) ∈ lw_all := lw_g (lw_at lw_m0 32 rfl) rfl
theorem q40 : (Jvm.Cond.instanceMethod ({ cls := "WireText", name := "trim", desc := "(I)V" } : Jvm.MethodName)) ∈ lw_all := lw_g (lw_at lw_m0 34 rfl) rfl
theorem q41 : (Jvm.Cond.selects "WireText" ({ cls := "WireText", name := "trim", desc := "(I)V" } : Jvm.MethodName) ({ cls := "WireText", name := "trim", desc := "(I)V" } : Jvm.MethodName)) ∈ lw_all := lw_g (lw_at lw_m0 35 rfl) rfl
theorem q42 : (Jvm.Cond.code ({ cls := "WireText", name := "trim", desc := "(I)V" } : Jvm.MethodName) prog_3_method_4_code (2 : Nat) (Option.none : Option Jvm.ClassFile.FieldType)) ∈ lw_all := lw_g (lw_at lw_m0 36 rfl) rfl
theorem q43 : (Jvm.Cond.methodLink "WireText" (21 : Nat) ({ cls := "WireText", name := "from", desc := "(I)I" } : Jvm.MethodName)) ∈ lw_all := lw_g (lw_at lw_m0 37 rfl) rfl
theorem q44 : (Jvm.Cond.privateMethod ({ cls := "WireText", name := "from", desc := "(I)I" } : Jvm.MethodName)) ∈ lw_tbl := lw_at lw_m0 38 rfl
theorem q45 : (Jvm.Cond.instanceMethod ({ cls := "WireText", name := "from", desc := "(I)I" } : Jvm.MethodName)) ∈ lw_all := lw_g (lw_at lw_m0 39 rfl) rfl
theorem q46 : (Jvm.Cond.code ({ cls := "WireText", name := "from", desc := "(I)I" } : Jvm.MethodName) prog_3_method_6_code (2 : Nat) (Option.some Jvm.ClassFile.FieldType.int)) ∈ lw_all := lw_g (lw_at lw_m0 40 rfl) rfl
theorem q47 : (Jvm.Cond.constant "WireText" (25 : Nat) (2147483647 : Int32)) ∈ lw_all := lw_g (lw_at lw_m0 41 rfl) rfl
theorem q49 : (Jvm.Cond.instanceMethod ({ cls := "WireText", name := "size", desc := "()I" } : Jvm.MethodName)) ∈ lw_all := lw_g (lw_at lw_m0 43 rfl) rfl
theorem q50 : (Jvm.Cond.selects "WireText" ({ cls := "WireText", name := "size", desc := "()I" } : Jvm.MethodName) ({ cls := "WireText", name := "size", desc := "()I" } : Jvm.MethodName)) ∈ lw_all := lw_g (lw_at lw_m0 44 rfl) rfl
theorem q51 : (Jvm.Cond.code ({ cls := "WireText", name := "size", desc := "()I" } : Jvm.MethodName) prog_3_method_5_code (1 : Nat) (Option.some Jvm.ClassFile.FieldType.int)) ∈ lw_all := lw_g (lw_at lw_m0 45 rfl) rfl
theorem q53 : (Jvm.Cond.instanceMethod ({ cls := "WireText", name := "fair", desc := "(II)Z" } : Jvm.MethodName)) ∈ lw_all := lw_g (lw_at lw_m0 47 rfl) rfl
theorem q54 : (Jvm.Cond.selects "WireText" ({ cls := "WireText", name := "fair", desc := "(II)Z" } : Jvm.MethodName) ({ cls := "WireText", name := "fair", desc := "(II)Z" } : Jvm.MethodName)) ∈ lw_all := lw_g (lw_at lw_m0 48 rfl) rfl
theorem q55 : (Jvm.Cond.code ({ cls := "WireText", name := "fair", desc := "(II)Z" } : Jvm.MethodName) prog_3_method_8_code (4 : Nat) (Option.some Jvm.ClassFile.FieldType.boolean)) ∈ lw_all := lw_g (lw_at lw_m0 49 rfl) rfl
theorem q56 : (Jvm.Cond.methodLink "WireText" (26 : Nat) ({ cls := "WireText", name := "count", desc := "(II)I" } : Jvm.MethodName)) ∈ lw_all := lw_g (lw_at lw_m0 50 rfl) rfl
theorem q57 : (Jvm.Cond.privateMethod ({ cls := "WireText", name := "count", desc := "(II)I" } : Jvm.MethodName)) ∈ lw_tbl := lw_at lw_m0 51 rfl
theorem q58 : (Jvm.Cond.instanceMethod ({ cls := "WireText", name := "count", desc := "(II)I" } : Jvm.MethodName)) ∈ lw_all := lw_g (lw_at lw_m0 52 rfl) rfl
theorem q59 : (Jvm.Cond.code ({ cls := "WireText", name := "count", desc := "(II)I" } : Jvm.MethodName) prog_3_method_7_code (3 : Nat) (Option.some Jvm.ClassFile.FieldType.int)) ∈ lw_all := lw_g (lw_at lw_m0 53 rfl) rfl
theorem q60 : (Jvm.Cond.methodLink "WireText" (30 : Nat) ({ cls := "Utf8", name := "isWellFormed", desc := "([BII)Z" } : Jvm.MethodName)) ∈ lw_all := lw_g (lw_at lw_m0 54 rfl) rfl
theorem q135 : (Jvm.Cond.instanceMethod ({ cls := "WireText", name := "sign", desc := "(II)V" } : Jvm.MethodName)) ∈ lw_all := lw_g (lw_at lw_m0 129 rfl) rfl
theorem q136 : (Jvm.Cond.selects "WireText" ({ cls := "WireText", name := "sign", desc := "(II)V" } : Jvm.MethodName) ({ cls := "WireText", name := "sign", desc := "(II)V" } : Jvm.MethodName)) ∈ lw_all := lw_g (lw_at lw_m0 130 rfl) rfl
theorem q137 : (Jvm.Cond.code ({ cls := "WireText", name := "sign", desc := "(II)V" } : Jvm.MethodName) prog_3_method_9_code (4 : Nat) (Option.none : Option Jvm.ClassFile.FieldType)) ∈ lw_all := lw_g (lw_at lw_m0 131 rfl) rfl
theorem in_X0 : ∀ w ∈ wsX00, w ∈ lw_all := lw_in wsX00 [25, 27] (by decide +kernel) (by decide +kernel)
end
section
/-! WireTextModel -/
set_option maxRecDepth 100000
def RX1 : String := "WireTextModel"
def TX1 : u_T := fun k => match k with
  | 0 => ("WireTextModel", "text", "[B", true)
  | _ => ("WireTextModel", "size", "I", false)
def tyX1 : Nat → FieldType := fun k => match k with
  | 0 => .array .byte
  | _ => .int
abbrev wsX10 : List Cond := u_ws RX1 TX1 2
theorem nmX1 : ∀ a, a < 2 → ∀ b, b < 2 → a ≠ b → (TX1 a).2.1 ≠ (TX1 b).2.1 := by decide +kernel
theorem tyX1_ok : ∀ k, k < 2 → parseFieldDescriptor (TX1 k).2.2.1 = some (tyX1 k) := by decide +kernel
abbrev cX1_init : ByteArray := prog_5_method_1_code
def yX1_init : MethodName := ⟨RX1, "<init>", "()V"⟩
def dkwX1_init_0 : List UInt8 := [42, 183, 0, 1, 42, 17, 16, 0, 188, 8, 181, 0, 7, 177]
abbrev dktX1_init_0 : List UInt8 := dkwX1_init_0 ++ []
theorem dksX1_init_0 : cX1_init.data.toList.drop 0 = dktX1_init_0 := by decide +kernel
theorem dX1_init_0 : decode cX1_init 0 = .ok (.aload_n 0, 1) := dk_42 (dk_at dksX1_init_0 0 rfl rfl)
theorem dX1_init_1 : decode cX1_init 1 = .ok (.invokespecial 1, 3) := dk_183 0 1 (dk_at dksX1_init_0 1 rfl rfl)
theorem dX1_init_4 : decode cX1_init 4 = .ok (.aload_n 0, 1) := dk_42 (dk_at dksX1_init_0 4 rfl rfl)
theorem dX1_init_5 : decode cX1_init 5 = .ok (.sipush 4096, 3) := dk_17 16 0 (dk_at dksX1_init_0 5 rfl rfl)
theorem dX1_init_8 : decode cX1_init 8 = .ok (.newarray .byte, 2) := dk_188_8 (dk_at dksX1_init_0 8 rfl rfl)
theorem dX1_init_10 : decode cX1_init 10 = .ok (.putfield 7, 3) := dk_181 0 7 (dk_at dksX1_init_0 10 rfl rfl)
theorem dX1_init_13 : decode cX1_init 13 = .ok (.return_, 1) := dk_177 (dk_at dksX1_init_0 13 rfl rfl)
abbrev cX1_put : ByteArray := prog_5_method_2_code
def yX1_put : MethodName := ⟨RX1, "put", "(IIII)Z"⟩
def dkwX1_put_4 : List UInt8 := [42, 42, 180, 0, 13, 16, 16, 96, 181, 0, 13, 4, 172]
abbrev dktX1_put_4 : List UInt8 := dkwX1_put_4 ++ []
def dkwX1_put_3 : List UInt8 := [21, 5, 96, 21, 6, 16, 24, 16, 8, 21, 5, 6, 126, 104, 100, 124, 145, 84, 132, 5, 1, 167, 255, 184]
abbrev dktX1_put_3 : List UInt8 := dkwX1_put_3 ++ dktX1_put_4
def dkwX1_put_2 : List UInt8 := [21, 5, 16, 12, 162, 0, 7, 29, 167, 0, 5, 21, 4, 54, 6, 42, 180, 0, 7, 42, 180, 0, 13]
abbrev dktX1_put_2 : List UInt8 := dkwX1_put_2 ++ dktX1_put_3
def dkwX1_put_1 : List UInt8 := [162, 0, 71, 21, 5, 7, 162, 0, 7, 27, 167, 0, 27, 21, 5, 16, 8, 162, 0, 7, 28, 167, 0, 16]
abbrev dktX1_put_1 : List UInt8 := dkwX1_put_1 ++ dktX1_put_2
def dkwX1_put_0 : List UInt8 := [42, 180, 0, 13, 16, 16, 96, 17, 16, 0, 164, 0, 5, 3, 172, 3, 54, 5, 21, 5, 16, 16]
abbrev dktX1_put_0 : List UInt8 := dkwX1_put_0 ++ dktX1_put_1
theorem dksX1_put_0 : cX1_put.data.toList.drop 0 = dktX1_put_0 := by decide +kernel
theorem dksX1_put_1 : cX1_put.data.toList.drop 22 = dktX1_put_1 := dk_seg dksX1_put_0 22 rfl rfl
theorem dksX1_put_2 : cX1_put.data.toList.drop 46 = dktX1_put_2 := dk_seg dksX1_put_1 24 rfl rfl
theorem dksX1_put_3 : cX1_put.data.toList.drop 69 = dktX1_put_3 := dk_seg dksX1_put_2 23 rfl rfl
theorem dksX1_put_4 : cX1_put.data.toList.drop 93 = dktX1_put_4 := dk_seg dksX1_put_3 24 rfl rfl
theorem dX1_put_0 : decode cX1_put 0 = .ok (.aload_n 0, 1) := dk_42 (dk_at dksX1_put_0 0 rfl rfl)
theorem dX1_put_1 : decode cX1_put 1 = .ok (.getfield 13, 3) := dk_180 0 13 (dk_at dksX1_put_0 1 rfl rfl)
theorem dX1_put_4 : decode cX1_put 4 = .ok (.bipush 16, 2) := dk_16 16 (dk_at dksX1_put_0 4 rfl rfl)
theorem dX1_put_6 : decode cX1_put 6 = .ok (.iadd, 1) := dk_96 (dk_at dksX1_put_0 6 rfl rfl)
theorem dX1_put_7 : decode cX1_put 7 = .ok (.sipush 4096, 3) := dk_17 16 0 (dk_at dksX1_put_0 7 rfl rfl)
theorem dX1_put_10 : decode cX1_put 10 = .ok (.if_icmp .le 5, 3) := dk_164 0 5 (dk_at dksX1_put_0 10 rfl rfl)
theorem dX1_put_13 : decode cX1_put 13 = .ok (.iconst 0, 1) := dk_3 (dk_at dksX1_put_0 13 rfl rfl)
theorem dX1_put_14 : decode cX1_put 14 = .ok (.ireturn, 1) := dk_172 (dk_at dksX1_put_0 14 rfl rfl)
theorem dX1_put_15 : decode cX1_put 15 = .ok (.iconst 0, 1) := dk_3 (dk_at dksX1_put_0 15 rfl rfl)
theorem dX1_put_16 : decode cX1_put 16 = .ok (.istore 5, 2) := dk_54 5 (dk_at dksX1_put_0 16 rfl rfl)
theorem dX1_put_18 : decode cX1_put 18 = .ok (.iload 5, 2) := dk_21 5 (dk_at dksX1_put_0 18 rfl rfl)
theorem dX1_put_20 : decode cX1_put 20 = .ok (.bipush 16, 2) := dk_16 16 (dk_at dksX1_put_0 20 rfl rfl)
theorem dX1_put_22 : decode cX1_put 22 = .ok (.if_icmp .ge 71, 3) := dk_162 0 71 (dk_at dksX1_put_1 0 rfl rfl)
theorem dX1_put_25 : decode cX1_put 25 = .ok (.iload 5, 2) := dk_21 5 (dk_at dksX1_put_1 3 rfl rfl)
theorem dX1_put_27 : decode cX1_put 27 = .ok (.iconst 4, 1) := dk_7 (dk_at dksX1_put_1 5 rfl rfl)
theorem dX1_put_28 : decode cX1_put 28 = .ok (.if_icmp .ge 7, 3) := dk_162 0 7 (dk_at dksX1_put_1 6 rfl rfl)
theorem dX1_put_31 : decode cX1_put 31 = .ok (.iload_n 1, 1) := dk_27 (dk_at dksX1_put_1 9 rfl rfl)
theorem dX1_put_32 : decode cX1_put 32 = .ok (.goto 27, 3) := dk_167 0 27 (dk_at dksX1_put_1 10 rfl rfl)
theorem dX1_put_35 : decode cX1_put 35 = .ok (.iload 5, 2) := dk_21 5 (dk_at dksX1_put_1 13 rfl rfl)
theorem dX1_put_37 : decode cX1_put 37 = .ok (.bipush 8, 2) := dk_16 8 (dk_at dksX1_put_1 15 rfl rfl)
theorem dX1_put_39 : decode cX1_put 39 = .ok (.if_icmp .ge 7, 3) := dk_162 0 7 (dk_at dksX1_put_1 17 rfl rfl)
theorem dX1_put_42 : decode cX1_put 42 = .ok (.iload_n 2, 1) := dk_28 (dk_at dksX1_put_1 20 rfl rfl)
theorem dX1_put_43 : decode cX1_put 43 = .ok (.goto 16, 3) := dk_167 0 16 (dk_at dksX1_put_1 21 rfl rfl)
theorem dX1_put_46 : decode cX1_put 46 = .ok (.iload 5, 2) := dk_21 5 (dk_at dksX1_put_2 0 rfl rfl)
theorem dX1_put_48 : decode cX1_put 48 = .ok (.bipush 12, 2) := dk_16 12 (dk_at dksX1_put_2 2 rfl rfl)
theorem dX1_put_50 : decode cX1_put 50 = .ok (.if_icmp .ge 7, 3) := dk_162 0 7 (dk_at dksX1_put_2 4 rfl rfl)
theorem dX1_put_53 : decode cX1_put 53 = .ok (.iload_n 3, 1) := dk_29 (dk_at dksX1_put_2 7 rfl rfl)
theorem dX1_put_54 : decode cX1_put 54 = .ok (.goto 5, 3) := dk_167 0 5 (dk_at dksX1_put_2 8 rfl rfl)
theorem dX1_put_57 : decode cX1_put 57 = .ok (.iload 4, 2) := dk_21 4 (dk_at dksX1_put_2 11 rfl rfl)
theorem dX1_put_59 : decode cX1_put 59 = .ok (.istore 6, 2) := dk_54 6 (dk_at dksX1_put_2 13 rfl rfl)
theorem dX1_put_61 : decode cX1_put 61 = .ok (.aload_n 0, 1) := dk_42 (dk_at dksX1_put_2 15 rfl rfl)
theorem dX1_put_62 : decode cX1_put 62 = .ok (.getfield 7, 3) := dk_180 0 7 (dk_at dksX1_put_2 16 rfl rfl)
theorem dX1_put_65 : decode cX1_put 65 = .ok (.aload_n 0, 1) := dk_42 (dk_at dksX1_put_2 19 rfl rfl)
theorem dX1_put_66 : decode cX1_put 66 = .ok (.getfield 13, 3) := dk_180 0 13 (dk_at dksX1_put_2 20 rfl rfl)
theorem dX1_put_69 : decode cX1_put 69 = .ok (.iload 5, 2) := dk_21 5 (dk_at dksX1_put_3 0 rfl rfl)
theorem dX1_put_71 : decode cX1_put 71 = .ok (.iadd, 1) := dk_96 (dk_at dksX1_put_3 2 rfl rfl)
theorem dX1_put_72 : decode cX1_put 72 = .ok (.iload 6, 2) := dk_21 6 (dk_at dksX1_put_3 3 rfl rfl)
theorem dX1_put_74 : decode cX1_put 74 = .ok (.bipush 24, 2) := dk_16 24 (dk_at dksX1_put_3 5 rfl rfl)
theorem dX1_put_76 : decode cX1_put 76 = .ok (.bipush 8, 2) := dk_16 8 (dk_at dksX1_put_3 7 rfl rfl)
theorem dX1_put_78 : decode cX1_put 78 = .ok (.iload 5, 2) := dk_21 5 (dk_at dksX1_put_3 9 rfl rfl)
theorem dX1_put_80 : decode cX1_put 80 = .ok (.iconst 3, 1) := dk_6 (dk_at dksX1_put_3 11 rfl rfl)
theorem dX1_put_81 : decode cX1_put 81 = .ok (.iand, 1) := dk_126 (dk_at dksX1_put_3 12 rfl rfl)
theorem dX1_put_82 : decode cX1_put 82 = .ok (.imul, 1) := dk_104 (dk_at dksX1_put_3 13 rfl rfl)
theorem dX1_put_83 : decode cX1_put 83 = .ok (.isub, 1) := dk_100 (dk_at dksX1_put_3 14 rfl rfl)
theorem dX1_put_84 : decode cX1_put 84 = .ok (.iushr, 1) := dk_124 (dk_at dksX1_put_3 15 rfl rfl)
theorem dX1_put_85 : decode cX1_put 85 = .ok (.i2b, 1) := dk_145 (dk_at dksX1_put_3 16 rfl rfl)
theorem dX1_put_86 : decode cX1_put 86 = .ok (.bastore, 1) := dk_84 (dk_at dksX1_put_3 17 rfl rfl)
theorem dX1_put_87 : decode cX1_put 87 = .ok (.iinc 5 1, 3) := dk_132 5 1 (dk_at dksX1_put_3 18 rfl rfl)
theorem dX1_put_90 : decode cX1_put 90 = .ok (.goto (-72), 3) := dk_167 255 184 (dk_at dksX1_put_3 21 rfl rfl)
theorem dX1_put_93 : decode cX1_put 93 = .ok (.aload_n 0, 1) := dk_42 (dk_at dksX1_put_4 0 rfl rfl)
theorem dX1_put_94 : decode cX1_put 94 = .ok (.aload_n 0, 1) := dk_42 (dk_at dksX1_put_4 1 rfl rfl)
theorem dX1_put_95 : decode cX1_put 95 = .ok (.getfield 13, 3) := dk_180 0 13 (dk_at dksX1_put_4 2 rfl rfl)
theorem dX1_put_98 : decode cX1_put 98 = .ok (.bipush 16, 2) := dk_16 16 (dk_at dksX1_put_4 5 rfl rfl)
theorem dX1_put_100 : decode cX1_put 100 = .ok (.iadd, 1) := dk_96 (dk_at dksX1_put_4 7 rfl rfl)
theorem dX1_put_101 : decode cX1_put 101 = .ok (.putfield 13, 3) := dk_181 0 13 (dk_at dksX1_put_4 8 rfl rfl)
theorem dX1_put_104 : decode cX1_put 104 = .ok (.iconst 1, 1) := dk_4 (dk_at dksX1_put_4 11 rfl rfl)
theorem dX1_put_105 : decode cX1_put 105 = .ok (.ireturn, 1) := dk_172 (dk_at dksX1_put_4 12 rfl rfl)
abbrev cX1_trim : ByteArray := prog_5_method_3_code
def yX1_trim : MethodName := ⟨RX1, "trim", "(I)V"⟩
def dkwX1_trim_0 : List UInt8 := [42, 42, 27, 182, 0, 17, 181, 0, 13, 177]
abbrev dktX1_trim_0 : List UInt8 := dkwX1_trim_0 ++ []
theorem dksX1_trim_0 : cX1_trim.data.toList.drop 0 = dktX1_trim_0 := by decide +kernel
theorem dX1_trim_0 : decode cX1_trim 0 = .ok (.aload_n 0, 1) := dk_42 (dk_at dksX1_trim_0 0 rfl rfl)
theorem dX1_trim_1 : decode cX1_trim 1 = .ok (.aload_n 0, 1) := dk_42 (dk_at dksX1_trim_0 1 rfl rfl)
theorem dX1_trim_2 : decode cX1_trim 2 = .ok (.iload_n 1, 1) := dk_27 (dk_at dksX1_trim_0 2 rfl rfl)
theorem dX1_trim_3 : decode cX1_trim 3 = .ok (.invokevirtual 17, 3) := dk_182 0 17 (dk_at dksX1_trim_0 3 rfl rfl)
theorem dX1_trim_6 : decode cX1_trim 6 = .ok (.putfield 13, 3) := dk_181 0 13 (dk_at dksX1_trim_0 6 rfl rfl)
theorem dX1_trim_9 : decode cX1_trim 9 = .ok (.return_, 1) := dk_177 (dk_at dksX1_trim_0 9 rfl rfl)
abbrev cX1_first : ByteArray := prog_5_method_5_code
def yX1_first : MethodName := ⟨RX1, "first", "(I)I"⟩
def dkwX1_first_0 : List UInt8 := [27, 18, 21, 126, 42, 180, 0, 13, 4, 96, 112, 172]
abbrev dktX1_first_0 : List UInt8 := dkwX1_first_0 ++ []
theorem dksX1_first_0 : cX1_first.data.toList.drop 0 = dktX1_first_0 := by decide +kernel
theorem dX1_first_0 : decode cX1_first 0 = .ok (.iload_n 1, 1) := dk_27 (dk_at dksX1_first_0 0 rfl rfl)
theorem dX1_first_1 : decode cX1_first 1 = .ok (.ldc 21, 2) := dk_18 21 (dk_at dksX1_first_0 1 rfl rfl)
theorem dX1_first_3 : decode cX1_first 3 = .ok (.iand, 1) := dk_126 (dk_at dksX1_first_0 3 rfl rfl)
theorem dX1_first_4 : decode cX1_first 4 = .ok (.aload_n 0, 1) := dk_42 (dk_at dksX1_first_0 4 rfl rfl)
theorem dX1_first_5 : decode cX1_first 5 = .ok (.getfield 13, 3) := dk_180 0 13 (dk_at dksX1_first_0 5 rfl rfl)
theorem dX1_first_8 : decode cX1_first 8 = .ok (.iconst 1, 1) := dk_4 (dk_at dksX1_first_0 8 rfl rfl)
theorem dX1_first_9 : decode cX1_first 9 = .ok (.iadd, 1) := dk_96 (dk_at dksX1_first_0 9 rfl rfl)
theorem dX1_first_10 : decode cX1_first 10 = .ok (.irem, 1) := dk_112 (dk_at dksX1_first_0 10 rfl rfl)
theorem dX1_first_11 : decode cX1_first 11 = .ok (.ireturn, 1) := dk_172 (dk_at dksX1_first_0 11 rfl rfl)
abbrev cX1_size : ByteArray := prog_5_method_4_code
def yX1_size : MethodName := ⟨RX1, "size", "()I"⟩
theorem dX1_size_0 : decode cX1_size 0 = .ok (.aload_n 0, 1) := by decide +kernel
theorem dX1_size_1 : decode cX1_size 1 = .ok (.getfield 13, 3) := by decide +kernel
theorem dX1_size_4 : decode cX1_size 4 = .ok (.ireturn, 1) := by decide +kernel
abbrev cX1_sign : ByteArray := prog_5_method_7_code
def yX1_sign : MethodName := ⟨RX1, "sign", "(II)V"⟩
def dkwX1_sign_0 : List UInt8 := [42, 180, 0, 13, 158, 0, 19, 42, 180, 0, 7, 27, 18, 21, 126, 42, 180, 0, 13, 112, 28, 145, 84, 177]
abbrev dktX1_sign_0 : List UInt8 := dkwX1_sign_0 ++ []
theorem dksX1_sign_0 : cX1_sign.data.toList.drop 0 = dktX1_sign_0 := by decide +kernel
theorem dX1_sign_0 : decode cX1_sign 0 = .ok (.aload_n 0, 1) := dk_42 (dk_at dksX1_sign_0 0 rfl rfl)
theorem dX1_sign_1 : decode cX1_sign 1 = .ok (.getfield 13, 3) := dk_180 0 13 (dk_at dksX1_sign_0 1 rfl rfl)
theorem dX1_sign_4 : decode cX1_sign 4 = .ok (.ifCond .le 19, 3) := dk_158 0 19 (dk_at dksX1_sign_0 4 rfl rfl)
theorem dX1_sign_7 : decode cX1_sign 7 = .ok (.aload_n 0, 1) := dk_42 (dk_at dksX1_sign_0 7 rfl rfl)
theorem dX1_sign_8 : decode cX1_sign 8 = .ok (.getfield 7, 3) := dk_180 0 7 (dk_at dksX1_sign_0 8 rfl rfl)
theorem dX1_sign_11 : decode cX1_sign 11 = .ok (.iload_n 1, 1) := dk_27 (dk_at dksX1_sign_0 11 rfl rfl)
theorem dX1_sign_12 : decode cX1_sign 12 = .ok (.ldc 21, 2) := dk_18 21 (dk_at dksX1_sign_0 12 rfl rfl)
theorem dX1_sign_14 : decode cX1_sign 14 = .ok (.iand, 1) := dk_126 (dk_at dksX1_sign_0 14 rfl rfl)
theorem dX1_sign_15 : decode cX1_sign 15 = .ok (.aload_n 0, 1) := dk_42 (dk_at dksX1_sign_0 15 rfl rfl)
theorem dX1_sign_16 : decode cX1_sign 16 = .ok (.getfield 13, 3) := dk_180 0 13 (dk_at dksX1_sign_0 16 rfl rfl)
theorem dX1_sign_19 : decode cX1_sign 19 = .ok (.irem, 1) := dk_112 (dk_at dksX1_sign_0 19 rfl rfl)
theorem dX1_sign_20 : decode cX1_sign 20 = .ok (.iload_n 2, 1) := dk_28 (dk_at dksX1_sign_0 20 rfl rfl)
theorem dX1_sign_21 : decode cX1_sign 21 = .ok (.i2b, 1) := dk_145 (dk_at dksX1_sign_0 21 rfl rfl)
theorem dX1_sign_22 : decode cX1_sign 22 = .ok (.bastore, 1) := dk_84 (dk_at dksX1_sign_0 22 rfl rfl)
theorem dX1_sign_23 : decode cX1_sign 23 = .ok (.return_, 1) := dk_177 (dk_at dksX1_sign_0 23 rfl rfl)
abbrev cX1_fair : ByteArray := prog_5_method_8_code
def yX1_fair : MethodName := ⟨RX1, "fair", "(II)Z"⟩
def dkwX1_fair_11 : List UInt8 := [164, 0, 5, 3, 172, 29, 21, 6, 96, 4, 96, 62, 167, 255, 2, 4, 172]
abbrev dktX1_fair_11 : List UInt8 := dkwX1_fair_11 ++ []
def dkwX1_fair_10 : List UInt8 := [21, 7, 18, 27, 164, 0, 23, 21, 6, 6, 160, 0, 19, 21, 7, 18, 28, 161, 0, 10, 21, 7, 18, 29]
abbrev dktX1_fair_10 : List UInt8 := dkwX1_fair_10 ++ dktX1_fair_11
def dkwX1_fair_9 : List UInt8 := [167, 255, 207, 21, 6, 5, 160, 0, 25, 21, 7, 17, 8, 0, 161, 0, 37, 21, 7, 18, 26, 161, 0, 10]
abbrev dktX1_fair_9 : List UInt8 := dkwX1_fair_9 ++ dktX1_fair_10
def dkwX1_fair_8 : List UInt8 := [122, 5, 159, 0, 5, 3, 172, 21, 7, 16, 6, 120, 21, 9, 16, 63, 126, 128, 54, 7, 132, 8, 1]
abbrev dktX1_fair_8 : List UInt8 := dkwX1_fair_8 ++ dktX1_fair_9
def dkwX1_fair_7 : List UInt8 := [21, 6, 163, 0, 48, 42, 180, 0, 7, 29, 21, 8, 96, 51, 17, 0, 255, 126, 54, 9, 21, 9, 16, 6]
abbrev dktX1_fair_7 : List UInt8 := dkwX1_fair_7 ++ dktX1_fair_8
def dkwX1_fair_6 : List UInt8 := [160, 0, 11, 21, 5, 16, 15, 126, 167, 0, 8, 21, 5, 16, 7, 126, 54, 7, 4, 54, 8, 21, 8]
abbrev dktX1_fair_6 : List UInt8 := dkwX1_fair_6 ++ dktX1_fair_7
def dkwX1_fair_5 : List UInt8 := [21, 5, 167, 0, 36, 21, 6, 4, 160, 0, 11, 21, 5, 16, 31, 126, 167, 0, 22, 21, 6, 5]
abbrev dktX1_fair_5 : List UInt8 := dkwX1_fair_5 ++ dktX1_fair_6
def dkwX1_fair_4 : List UInt8 := [2, 54, 6, 21, 6, 155, 0, 12, 29, 21, 6, 96, 21, 4, 161, 0, 5, 3, 172, 21, 6, 154, 0, 8]
abbrev dktX1_fair_4 : List UInt8 := dkwX1_fair_4 ++ dktX1_fair_5
def dkwX1_fair_3 : List UInt8 := [21, 5, 17, 0, 240, 162, 0, 7, 5, 167, 0, 16, 21, 5, 17, 0, 245, 162, 0, 7, 6, 167, 0, 4]
abbrev dktX1_fair_3 : List UInt8 := dkwX1_fair_3 ++ dktX1_fair_4
def dkwX1_fair_2 : List UInt8 := [21, 5, 17, 0, 194, 162, 0, 7, 2, 167, 0, 40, 21, 5, 17, 0, 224, 162, 0, 7, 4, 167, 0, 28]
abbrev dktX1_fair_2 : List UInt8 := dkwX1_fair_2 ++ dktX1_fair_3
def dkwX1_fair_1 : List UInt8 := [180, 0, 7, 29, 51, 17, 0, 255, 126, 54, 5, 21, 5, 17, 0, 128, 162, 0, 7, 3, 167, 0, 52]
abbrev dktX1_fair_1 : List UInt8 := dkwX1_fair_1 ++ dktX1_fair_2
def dkwX1_fair_0 : List UInt8 := [42, 27, 182, 0, 17, 62, 29, 42, 29, 28, 182, 0, 22, 96, 54, 4, 29, 21, 4, 162, 0, 254, 42]
abbrev dktX1_fair_0 : List UInt8 := dkwX1_fair_0 ++ dktX1_fair_1
theorem dksX1_fair_0 : cX1_fair.data.toList.drop 0 = dktX1_fair_0 := by decide +kernel
theorem dksX1_fair_1 : cX1_fair.data.toList.drop 23 = dktX1_fair_1 := dk_seg dksX1_fair_0 23 rfl rfl
theorem dksX1_fair_2 : cX1_fair.data.toList.drop 46 = dktX1_fair_2 := dk_seg dksX1_fair_1 23 rfl rfl
theorem dksX1_fair_3 : cX1_fair.data.toList.drop 70 = dktX1_fair_3 := dk_seg dksX1_fair_2 24 rfl rfl
theorem dksX1_fair_4 : cX1_fair.data.toList.drop 94 = dktX1_fair_4 := dk_seg dksX1_fair_3 24 rfl rfl
theorem dksX1_fair_5 : cX1_fair.data.toList.drop 118 = dktX1_fair_5 := dk_seg dksX1_fair_4 24 rfl rfl
theorem dksX1_fair_6 : cX1_fair.data.toList.drop 140 = dktX1_fair_6 := dk_seg dksX1_fair_5 22 rfl rfl
theorem dksX1_fair_7 : cX1_fair.data.toList.drop 163 = dktX1_fair_7 := dk_seg dksX1_fair_6 23 rfl rfl
theorem dksX1_fair_8 : cX1_fair.data.toList.drop 187 = dktX1_fair_8 := dk_seg dksX1_fair_7 24 rfl rfl
theorem dksX1_fair_9 : cX1_fair.data.toList.drop 210 = dktX1_fair_9 := dk_seg dksX1_fair_8 23 rfl rfl
theorem dksX1_fair_10 : cX1_fair.data.toList.drop 234 = dktX1_fair_10 := dk_seg dksX1_fair_9 24 rfl rfl
theorem dksX1_fair_11 : cX1_fair.data.toList.drop 258 = dktX1_fair_11 := dk_seg dksX1_fair_10 24 rfl rfl
theorem dX1_fair_0 : decode cX1_fair 0 = .ok (.aload_n 0, 1) := dk_42 (dk_at dksX1_fair_0 0 rfl rfl)
theorem dX1_fair_1 : decode cX1_fair 1 = .ok (.iload_n 1, 1) := dk_27 (dk_at dksX1_fair_0 1 rfl rfl)
theorem dX1_fair_2 : decode cX1_fair 2 = .ok (.invokevirtual 17, 3) := dk_182 0 17 (dk_at dksX1_fair_0 2 rfl rfl)
theorem dX1_fair_5 : decode cX1_fair 5 = .ok (.istore_n 3, 1) := dk_62 (dk_at dksX1_fair_0 5 rfl rfl)
theorem dX1_fair_6 : decode cX1_fair 6 = .ok (.iload_n 3, 1) := dk_29 (dk_at dksX1_fair_0 6 rfl rfl)
theorem dX1_fair_7 : decode cX1_fair 7 = .ok (.aload_n 0, 1) := dk_42 (dk_at dksX1_fair_0 7 rfl rfl)
theorem dX1_fair_8 : decode cX1_fair 8 = .ok (.iload_n 3, 1) := dk_29 (dk_at dksX1_fair_0 8 rfl rfl)
theorem dX1_fair_9 : decode cX1_fair 9 = .ok (.iload_n 2, 1) := dk_28 (dk_at dksX1_fair_0 9 rfl rfl)
theorem dX1_fair_10 : decode cX1_fair 10 = .ok (.invokevirtual 22, 3) := dk_182 0 22 (dk_at dksX1_fair_0 10 rfl rfl)
theorem dX1_fair_13 : decode cX1_fair 13 = .ok (.iadd, 1) := dk_96 (dk_at dksX1_fair_0 13 rfl rfl)
theorem dX1_fair_14 : decode cX1_fair 14 = .ok (.istore 4, 2) := dk_54 4 (dk_at dksX1_fair_0 14 rfl rfl)
theorem dX1_fair_16 : decode cX1_fair 16 = .ok (.iload_n 3, 1) := dk_29 (dk_at dksX1_fair_0 16 rfl rfl)
theorem dX1_fair_17 : decode cX1_fair 17 = .ok (.iload 4, 2) := dk_21 4 (dk_at dksX1_fair_0 17 rfl rfl)
theorem dX1_fair_19 : decode cX1_fair 19 = .ok (.if_icmp .ge 254, 3) := dk_162 0 254 (dk_at dksX1_fair_0 19 rfl rfl)
theorem dX1_fair_22 : decode cX1_fair 22 = .ok (.aload_n 0, 1) := dk_42 (dk_at dksX1_fair_0 22 rfl rfl)
theorem dX1_fair_23 : decode cX1_fair 23 = .ok (.getfield 7, 3) := dk_180 0 7 (dk_at dksX1_fair_1 0 rfl rfl)
theorem dX1_fair_26 : decode cX1_fair 26 = .ok (.iload_n 3, 1) := dk_29 (dk_at dksX1_fair_1 3 rfl rfl)
theorem dX1_fair_27 : decode cX1_fair 27 = .ok (.baload, 1) := dk_51 (dk_at dksX1_fair_1 4 rfl rfl)
theorem dX1_fair_28 : decode cX1_fair 28 = .ok (.sipush 255, 3) := dk_17 0 255 (dk_at dksX1_fair_1 5 rfl rfl)
theorem dX1_fair_31 : decode cX1_fair 31 = .ok (.iand, 1) := dk_126 (dk_at dksX1_fair_1 8 rfl rfl)
theorem dX1_fair_32 : decode cX1_fair 32 = .ok (.istore 5, 2) := dk_54 5 (dk_at dksX1_fair_1 9 rfl rfl)
theorem dX1_fair_34 : decode cX1_fair 34 = .ok (.iload 5, 2) := dk_21 5 (dk_at dksX1_fair_1 11 rfl rfl)
theorem dX1_fair_36 : decode cX1_fair 36 = .ok (.sipush 128, 3) := dk_17 0 128 (dk_at dksX1_fair_1 13 rfl rfl)
theorem dX1_fair_39 : decode cX1_fair 39 = .ok (.if_icmp .ge 7, 3) := dk_162 0 7 (dk_at dksX1_fair_1 16 rfl rfl)
theorem dX1_fair_42 : decode cX1_fair 42 = .ok (.iconst 0, 1) := dk_3 (dk_at dksX1_fair_1 19 rfl rfl)
theorem dX1_fair_43 : decode cX1_fair 43 = .ok (.goto 52, 3) := dk_167 0 52 (dk_at dksX1_fair_1 20 rfl rfl)
theorem dX1_fair_46 : decode cX1_fair 46 = .ok (.iload 5, 2) := dk_21 5 (dk_at dksX1_fair_2 0 rfl rfl)
theorem dX1_fair_48 : decode cX1_fair 48 = .ok (.sipush 194, 3) := dk_17 0 194 (dk_at dksX1_fair_2 2 rfl rfl)
theorem dX1_fair_51 : decode cX1_fair 51 = .ok (.if_icmp .ge 7, 3) := dk_162 0 7 (dk_at dksX1_fair_2 5 rfl rfl)
theorem dX1_fair_54 : decode cX1_fair 54 = .ok (.iconst (-1), 1) := dk_2 (dk_at dksX1_fair_2 8 rfl rfl)
theorem dX1_fair_55 : decode cX1_fair 55 = .ok (.goto 40, 3) := dk_167 0 40 (dk_at dksX1_fair_2 9 rfl rfl)
theorem dX1_fair_58 : decode cX1_fair 58 = .ok (.iload 5, 2) := dk_21 5 (dk_at dksX1_fair_2 12 rfl rfl)
theorem dX1_fair_60 : decode cX1_fair 60 = .ok (.sipush 224, 3) := dk_17 0 224 (dk_at dksX1_fair_2 14 rfl rfl)
theorem dX1_fair_63 : decode cX1_fair 63 = .ok (.if_icmp .ge 7, 3) := dk_162 0 7 (dk_at dksX1_fair_2 17 rfl rfl)
theorem dX1_fair_66 : decode cX1_fair 66 = .ok (.iconst 1, 1) := dk_4 (dk_at dksX1_fair_2 20 rfl rfl)
theorem dX1_fair_67 : decode cX1_fair 67 = .ok (.goto 28, 3) := dk_167 0 28 (dk_at dksX1_fair_2 21 rfl rfl)
theorem dX1_fair_70 : decode cX1_fair 70 = .ok (.iload 5, 2) := dk_21 5 (dk_at dksX1_fair_3 0 rfl rfl)
theorem dX1_fair_72 : decode cX1_fair 72 = .ok (.sipush 240, 3) := dk_17 0 240 (dk_at dksX1_fair_3 2 rfl rfl)
theorem dX1_fair_75 : decode cX1_fair 75 = .ok (.if_icmp .ge 7, 3) := dk_162 0 7 (dk_at dksX1_fair_3 5 rfl rfl)
theorem dX1_fair_78 : decode cX1_fair 78 = .ok (.iconst 2, 1) := dk_5 (dk_at dksX1_fair_3 8 rfl rfl)
theorem dX1_fair_79 : decode cX1_fair 79 = .ok (.goto 16, 3) := dk_167 0 16 (dk_at dksX1_fair_3 9 rfl rfl)
theorem dX1_fair_82 : decode cX1_fair 82 = .ok (.iload 5, 2) := dk_21 5 (dk_at dksX1_fair_3 12 rfl rfl)
theorem dX1_fair_84 : decode cX1_fair 84 = .ok (.sipush 245, 3) := dk_17 0 245 (dk_at dksX1_fair_3 14 rfl rfl)
theorem dX1_fair_87 : decode cX1_fair 87 = .ok (.if_icmp .ge 7, 3) := dk_162 0 7 (dk_at dksX1_fair_3 17 rfl rfl)
theorem dX1_fair_90 : decode cX1_fair 90 = .ok (.iconst 3, 1) := dk_6 (dk_at dksX1_fair_3 20 rfl rfl)
theorem dX1_fair_91 : decode cX1_fair 91 = .ok (.goto 4, 3) := dk_167 0 4 (dk_at dksX1_fair_3 21 rfl rfl)
theorem dX1_fair_94 : decode cX1_fair 94 = .ok (.iconst (-1), 1) := dk_2 (dk_at dksX1_fair_4 0 rfl rfl)
theorem dX1_fair_95 : decode cX1_fair 95 = .ok (.istore 6, 2) := dk_54 6 (dk_at dksX1_fair_4 1 rfl rfl)
theorem dX1_fair_97 : decode cX1_fair 97 = .ok (.iload 6, 2) := dk_21 6 (dk_at dksX1_fair_4 3 rfl rfl)
theorem dX1_fair_99 : decode cX1_fair 99 = .ok (.ifCond .lt 12, 3) := dk_155 0 12 (dk_at dksX1_fair_4 5 rfl rfl)
theorem dX1_fair_102 : decode cX1_fair 102 = .ok (.iload_n 3, 1) := dk_29 (dk_at dksX1_fair_4 8 rfl rfl)
theorem dX1_fair_103 : decode cX1_fair 103 = .ok (.iload 6, 2) := dk_21 6 (dk_at dksX1_fair_4 9 rfl rfl)
theorem dX1_fair_105 : decode cX1_fair 105 = .ok (.iadd, 1) := dk_96 (dk_at dksX1_fair_4 11 rfl rfl)
theorem dX1_fair_106 : decode cX1_fair 106 = .ok (.iload 4, 2) := dk_21 4 (dk_at dksX1_fair_4 12 rfl rfl)
theorem dX1_fair_108 : decode cX1_fair 108 = .ok (.if_icmp .lt 5, 3) := dk_161 0 5 (dk_at dksX1_fair_4 14 rfl rfl)
theorem dX1_fair_111 : decode cX1_fair 111 = .ok (.iconst 0, 1) := dk_3 (dk_at dksX1_fair_4 17 rfl rfl)
theorem dX1_fair_112 : decode cX1_fair 112 = .ok (.ireturn, 1) := dk_172 (dk_at dksX1_fair_4 18 rfl rfl)
theorem dX1_fair_113 : decode cX1_fair 113 = .ok (.iload 6, 2) := dk_21 6 (dk_at dksX1_fair_4 19 rfl rfl)
theorem dX1_fair_115 : decode cX1_fair 115 = .ok (.ifCond .ne 8, 3) := dk_154 0 8 (dk_at dksX1_fair_4 21 rfl rfl)
theorem dX1_fair_118 : decode cX1_fair 118 = .ok (.iload 5, 2) := dk_21 5 (dk_at dksX1_fair_5 0 rfl rfl)
theorem dX1_fair_120 : decode cX1_fair 120 = .ok (.goto 36, 3) := dk_167 0 36 (dk_at dksX1_fair_5 2 rfl rfl)
theorem dX1_fair_123 : decode cX1_fair 123 = .ok (.iload 6, 2) := dk_21 6 (dk_at dksX1_fair_5 5 rfl rfl)
theorem dX1_fair_125 : decode cX1_fair 125 = .ok (.iconst 1, 1) := dk_4 (dk_at dksX1_fair_5 7 rfl rfl)
theorem dX1_fair_126 : decode cX1_fair 126 = .ok (.if_icmp .ne 11, 3) := dk_160 0 11 (dk_at dksX1_fair_5 8 rfl rfl)
theorem dX1_fair_129 : decode cX1_fair 129 = .ok (.iload 5, 2) := dk_21 5 (dk_at dksX1_fair_5 11 rfl rfl)
theorem dX1_fair_131 : decode cX1_fair 131 = .ok (.bipush 31, 2) := dk_16 31 (dk_at dksX1_fair_5 13 rfl rfl)
theorem dX1_fair_133 : decode cX1_fair 133 = .ok (.iand, 1) := dk_126 (dk_at dksX1_fair_5 15 rfl rfl)
theorem dX1_fair_134 : decode cX1_fair 134 = .ok (.goto 22, 3) := dk_167 0 22 (dk_at dksX1_fair_5 16 rfl rfl)
theorem dX1_fair_137 : decode cX1_fair 137 = .ok (.iload 6, 2) := dk_21 6 (dk_at dksX1_fair_5 19 rfl rfl)
theorem dX1_fair_139 : decode cX1_fair 139 = .ok (.iconst 2, 1) := dk_5 (dk_at dksX1_fair_5 21 rfl rfl)
theorem dX1_fair_140 : decode cX1_fair 140 = .ok (.if_icmp .ne 11, 3) := dk_160 0 11 (dk_at dksX1_fair_6 0 rfl rfl)
theorem dX1_fair_143 : decode cX1_fair 143 = .ok (.iload 5, 2) := dk_21 5 (dk_at dksX1_fair_6 3 rfl rfl)
theorem dX1_fair_145 : decode cX1_fair 145 = .ok (.bipush 15, 2) := dk_16 15 (dk_at dksX1_fair_6 5 rfl rfl)
theorem dX1_fair_147 : decode cX1_fair 147 = .ok (.iand, 1) := dk_126 (dk_at dksX1_fair_6 7 rfl rfl)
theorem dX1_fair_148 : decode cX1_fair 148 = .ok (.goto 8, 3) := dk_167 0 8 (dk_at dksX1_fair_6 8 rfl rfl)
theorem dX1_fair_151 : decode cX1_fair 151 = .ok (.iload 5, 2) := dk_21 5 (dk_at dksX1_fair_6 11 rfl rfl)
theorem dX1_fair_153 : decode cX1_fair 153 = .ok (.bipush 7, 2) := dk_16 7 (dk_at dksX1_fair_6 13 rfl rfl)
theorem dX1_fair_155 : decode cX1_fair 155 = .ok (.iand, 1) := dk_126 (dk_at dksX1_fair_6 15 rfl rfl)
theorem dX1_fair_156 : decode cX1_fair 156 = .ok (.istore 7, 2) := dk_54 7 (dk_at dksX1_fair_6 16 rfl rfl)
theorem dX1_fair_158 : decode cX1_fair 158 = .ok (.iconst 1, 1) := dk_4 (dk_at dksX1_fair_6 18 rfl rfl)
theorem dX1_fair_159 : decode cX1_fair 159 = .ok (.istore 8, 2) := dk_54 8 (dk_at dksX1_fair_6 19 rfl rfl)
theorem dX1_fair_161 : decode cX1_fair 161 = .ok (.iload 8, 2) := dk_21 8 (dk_at dksX1_fair_6 21 rfl rfl)
theorem dX1_fair_163 : decode cX1_fair 163 = .ok (.iload 6, 2) := dk_21 6 (dk_at dksX1_fair_7 0 rfl rfl)
theorem dX1_fair_165 : decode cX1_fair 165 = .ok (.if_icmp .gt 48, 3) := dk_163 0 48 (dk_at dksX1_fair_7 2 rfl rfl)
theorem dX1_fair_168 : decode cX1_fair 168 = .ok (.aload_n 0, 1) := dk_42 (dk_at dksX1_fair_7 5 rfl rfl)
theorem dX1_fair_169 : decode cX1_fair 169 = .ok (.getfield 7, 3) := dk_180 0 7 (dk_at dksX1_fair_7 6 rfl rfl)
theorem dX1_fair_172 : decode cX1_fair 172 = .ok (.iload_n 3, 1) := dk_29 (dk_at dksX1_fair_7 9 rfl rfl)
theorem dX1_fair_173 : decode cX1_fair 173 = .ok (.iload 8, 2) := dk_21 8 (dk_at dksX1_fair_7 10 rfl rfl)
theorem dX1_fair_175 : decode cX1_fair 175 = .ok (.iadd, 1) := dk_96 (dk_at dksX1_fair_7 12 rfl rfl)
theorem dX1_fair_176 : decode cX1_fair 176 = .ok (.baload, 1) := dk_51 (dk_at dksX1_fair_7 13 rfl rfl)
theorem dX1_fair_177 : decode cX1_fair 177 = .ok (.sipush 255, 3) := dk_17 0 255 (dk_at dksX1_fair_7 14 rfl rfl)
theorem dX1_fair_180 : decode cX1_fair 180 = .ok (.iand, 1) := dk_126 (dk_at dksX1_fair_7 17 rfl rfl)
theorem dX1_fair_181 : decode cX1_fair 181 = .ok (.istore 9, 2) := dk_54 9 (dk_at dksX1_fair_7 18 rfl rfl)
theorem dX1_fair_183 : decode cX1_fair 183 = .ok (.iload 9, 2) := dk_21 9 (dk_at dksX1_fair_7 20 rfl rfl)
theorem dX1_fair_185 : decode cX1_fair 185 = .ok (.bipush 6, 2) := dk_16 6 (dk_at dksX1_fair_7 22 rfl rfl)
theorem dX1_fair_187 : decode cX1_fair 187 = .ok (.ishr, 1) := dk_122 (dk_at dksX1_fair_8 0 rfl rfl)
theorem dX1_fair_188 : decode cX1_fair 188 = .ok (.iconst 2, 1) := dk_5 (dk_at dksX1_fair_8 1 rfl rfl)
theorem dX1_fair_189 : decode cX1_fair 189 = .ok (.if_icmp .eq 5, 3) := dk_159 0 5 (dk_at dksX1_fair_8 2 rfl rfl)
theorem dX1_fair_192 : decode cX1_fair 192 = .ok (.iconst 0, 1) := dk_3 (dk_at dksX1_fair_8 5 rfl rfl)
theorem dX1_fair_193 : decode cX1_fair 193 = .ok (.ireturn, 1) := dk_172 (dk_at dksX1_fair_8 6 rfl rfl)
theorem dX1_fair_194 : decode cX1_fair 194 = .ok (.iload 7, 2) := dk_21 7 (dk_at dksX1_fair_8 7 rfl rfl)
theorem dX1_fair_196 : decode cX1_fair 196 = .ok (.bipush 6, 2) := dk_16 6 (dk_at dksX1_fair_8 9 rfl rfl)
theorem dX1_fair_198 : decode cX1_fair 198 = .ok (.ishl, 1) := dk_120 (dk_at dksX1_fair_8 11 rfl rfl)
theorem dX1_fair_199 : decode cX1_fair 199 = .ok (.iload 9, 2) := dk_21 9 (dk_at dksX1_fair_8 12 rfl rfl)
theorem dX1_fair_201 : decode cX1_fair 201 = .ok (.bipush 63, 2) := dk_16 63 (dk_at dksX1_fair_8 14 rfl rfl)
theorem dX1_fair_203 : decode cX1_fair 203 = .ok (.iand, 1) := dk_126 (dk_at dksX1_fair_8 16 rfl rfl)
theorem dX1_fair_204 : decode cX1_fair 204 = .ok (.ior, 1) := dk_128 (dk_at dksX1_fair_8 17 rfl rfl)
theorem dX1_fair_205 : decode cX1_fair 205 = .ok (.istore 7, 2) := dk_54 7 (dk_at dksX1_fair_8 18 rfl rfl)
theorem dX1_fair_207 : decode cX1_fair 207 = .ok (.iinc 8 1, 3) := dk_132 8 1 (dk_at dksX1_fair_8 20 rfl rfl)
theorem dX1_fair_210 : decode cX1_fair 210 = .ok (.goto (-49), 3) := dk_167 255 207 (dk_at dksX1_fair_9 0 rfl rfl)
theorem dX1_fair_213 : decode cX1_fair 213 = .ok (.iload 6, 2) := dk_21 6 (dk_at dksX1_fair_9 3 rfl rfl)
theorem dX1_fair_215 : decode cX1_fair 215 = .ok (.iconst 2, 1) := dk_5 (dk_at dksX1_fair_9 5 rfl rfl)
theorem dX1_fair_216 : decode cX1_fair 216 = .ok (.if_icmp .ne 25, 3) := dk_160 0 25 (dk_at dksX1_fair_9 6 rfl rfl)
theorem dX1_fair_219 : decode cX1_fair 219 = .ok (.iload 7, 2) := dk_21 7 (dk_at dksX1_fair_9 9 rfl rfl)
theorem dX1_fair_221 : decode cX1_fair 221 = .ok (.sipush 2048, 3) := dk_17 8 0 (dk_at dksX1_fair_9 11 rfl rfl)
theorem dX1_fair_224 : decode cX1_fair 224 = .ok (.if_icmp .lt 37, 3) := dk_161 0 37 (dk_at dksX1_fair_9 14 rfl rfl)
theorem dX1_fair_227 : decode cX1_fair 227 = .ok (.iload 7, 2) := dk_21 7 (dk_at dksX1_fair_9 17 rfl rfl)
theorem dX1_fair_229 : decode cX1_fair 229 = .ok (.ldc 26, 2) := dk_18 26 (dk_at dksX1_fair_9 19 rfl rfl)
theorem dX1_fair_231 : decode cX1_fair 231 = .ok (.if_icmp .lt 10, 3) := dk_161 0 10 (dk_at dksX1_fair_9 21 rfl rfl)
theorem dX1_fair_234 : decode cX1_fair 234 = .ok (.iload 7, 2) := dk_21 7 (dk_at dksX1_fair_10 0 rfl rfl)
theorem dX1_fair_236 : decode cX1_fair 236 = .ok (.ldc 27, 2) := dk_18 27 (dk_at dksX1_fair_10 2 rfl rfl)
theorem dX1_fair_238 : decode cX1_fair 238 = .ok (.if_icmp .le 23, 3) := dk_164 0 23 (dk_at dksX1_fair_10 4 rfl rfl)
theorem dX1_fair_241 : decode cX1_fair 241 = .ok (.iload 6, 2) := dk_21 6 (dk_at dksX1_fair_10 7 rfl rfl)
theorem dX1_fair_243 : decode cX1_fair 243 = .ok (.iconst 3, 1) := dk_6 (dk_at dksX1_fair_10 9 rfl rfl)
theorem dX1_fair_244 : decode cX1_fair 244 = .ok (.if_icmp .ne 19, 3) := dk_160 0 19 (dk_at dksX1_fair_10 10 rfl rfl)
theorem dX1_fair_247 : decode cX1_fair 247 = .ok (.iload 7, 2) := dk_21 7 (dk_at dksX1_fair_10 13 rfl rfl)
theorem dX1_fair_249 : decode cX1_fair 249 = .ok (.ldc 28, 2) := dk_18 28 (dk_at dksX1_fair_10 15 rfl rfl)
theorem dX1_fair_251 : decode cX1_fair 251 = .ok (.if_icmp .lt 10, 3) := dk_161 0 10 (dk_at dksX1_fair_10 17 rfl rfl)
theorem dX1_fair_254 : decode cX1_fair 254 = .ok (.iload 7, 2) := dk_21 7 (dk_at dksX1_fair_10 20 rfl rfl)
theorem dX1_fair_256 : decode cX1_fair 256 = .ok (.ldc 29, 2) := dk_18 29 (dk_at dksX1_fair_10 22 rfl rfl)
theorem dX1_fair_258 : decode cX1_fair 258 = .ok (.if_icmp .le 5, 3) := dk_164 0 5 (dk_at dksX1_fair_11 0 rfl rfl)
theorem dX1_fair_261 : decode cX1_fair 261 = .ok (.iconst 0, 1) := dk_3 (dk_at dksX1_fair_11 3 rfl rfl)
theorem dX1_fair_262 : decode cX1_fair 262 = .ok (.ireturn, 1) := dk_172 (dk_at dksX1_fair_11 4 rfl rfl)
theorem dX1_fair_263 : decode cX1_fair 263 = .ok (.iload_n 3, 1) := dk_29 (dk_at dksX1_fair_11 5 rfl rfl)
theorem dX1_fair_264 : decode cX1_fair 264 = .ok (.iload 6, 2) := dk_21 6 (dk_at dksX1_fair_11 6 rfl rfl)
theorem dX1_fair_266 : decode cX1_fair 266 = .ok (.iadd, 1) := dk_96 (dk_at dksX1_fair_11 8 rfl rfl)
theorem dX1_fair_267 : decode cX1_fair 267 = .ok (.iconst 1, 1) := dk_4 (dk_at dksX1_fair_11 9 rfl rfl)
theorem dX1_fair_268 : decode cX1_fair 268 = .ok (.iadd, 1) := dk_96 (dk_at dksX1_fair_11 10 rfl rfl)
theorem dX1_fair_269 : decode cX1_fair 269 = .ok (.istore_n 3, 1) := dk_62 (dk_at dksX1_fair_11 11 rfl rfl)
theorem dX1_fair_270 : decode cX1_fair 270 = .ok (.goto (-254), 3) := dk_167 255 2 (dk_at dksX1_fair_11 12 rfl rfl)
theorem dX1_fair_273 : decode cX1_fair 273 = .ok (.iconst 1, 1) := dk_4 (dk_at dksX1_fair_11 15 rfl rfl)
theorem dX1_fair_274 : decode cX1_fair 274 = .ok (.ireturn, 1) := dk_172 (dk_at dksX1_fair_11 16 rfl rfl)
abbrev cX1_many : ByteArray := prog_5_method_6_code
def yX1_many : MethodName := ⟨RX1, "many", "(II)I"⟩
def dkwX1_many_0 : List UInt8 := [28, 18, 21, 126, 42, 180, 0, 13, 27, 100, 4, 96, 112, 172]
abbrev dktX1_many_0 : List UInt8 := dkwX1_many_0 ++ []
theorem dksX1_many_0 : cX1_many.data.toList.drop 0 = dktX1_many_0 := by decide +kernel
theorem dX1_many_0 : decode cX1_many 0 = .ok (.iload_n 2, 1) := dk_28 (dk_at dksX1_many_0 0 rfl rfl)
theorem dX1_many_1 : decode cX1_many 1 = .ok (.ldc 21, 2) := dk_18 21 (dk_at dksX1_many_0 1 rfl rfl)
theorem dX1_many_3 : decode cX1_many 3 = .ok (.iand, 1) := dk_126 (dk_at dksX1_many_0 3 rfl rfl)
theorem dX1_many_4 : decode cX1_many 4 = .ok (.aload_n 0, 1) := dk_42 (dk_at dksX1_many_0 4 rfl rfl)
theorem dX1_many_5 : decode cX1_many 5 = .ok (.getfield 13, 3) := dk_180 0 13 (dk_at dksX1_many_0 5 rfl rfl)
theorem dX1_many_8 : decode cX1_many 8 = .ok (.iload_n 1, 1) := dk_27 (dk_at dksX1_many_0 8 rfl rfl)
theorem dX1_many_9 : decode cX1_many 9 = .ok (.isub, 1) := dk_100 (dk_at dksX1_many_0 9 rfl rfl)
theorem dX1_many_10 : decode cX1_many 10 = .ok (.iconst 1, 1) := dk_4 (dk_at dksX1_many_0 10 rfl rfl)
theorem dX1_many_11 : decode cX1_many 11 = .ok (.iadd, 1) := dk_96 (dk_at dksX1_many_0 11 rfl rfl)
theorem dX1_many_12 : decode cX1_many 12 = .ok (.irem, 1) := dk_112 (dk_at dksX1_many_0 12 rfl rfl)
theorem dX1_many_13 : decode cX1_many 13 = .ok (.ireturn, 1) := dk_172 (dk_at dksX1_many_0 13 rfl rfl)
theorem q8 : (Jvm.Cond.initialized "WireTextModel") ∈ lw_all := lw_g (lw_at lw_m0 2 rfl) rfl
theorem q139 : (Jvm.Cond.instantiable "WireTextModel" (2 : Nat)) ∈ lw_all := lw_g (lw_at lw_m0 133 rfl) rfl
theorem q141 : (Jvm.Cond.instanceMethod ({ cls := "WireTextModel", name := "<init>", desc := "()V" } : Jvm.MethodName)) ∈ lw_all := lw_g (lw_at lw_m0 135 rfl) rfl
theorem q142 : (Jvm.Cond.code ({ cls := "WireTextModel", name := "<init>", desc := "()V" } : Jvm.MethodName) prog_5_method_1_code (1 : Nat) (Option.none : Option Jvm.ClassFile.FieldType)) ∈ lw_all := lw_g (lw_at lw_m0 136 rfl) rfl
theorem q143 : (Jvm.Cond.methodLink "WireTextModel" (1 : Nat) ({ cls := "java/lang/Object", name := "<init>", desc := "()V" } : Jvm.MethodName)) ∈ lw_all := lw_g (lw_at lw_m0 137 rfl) rfl
theorem q144 : (Jvm.Cond.fieldLink "WireTextModel" (7 : Nat) "WireTextModel" "text" "[B") ∈ lw_all := lw_g (lw_at lw_m0 138 rfl) rfl
theorem q145 : (Jvm.Cond.fieldLink "WireTextModel" (13 : Nat) "WireTextModel" "size" "I") ∈ lw_all := lw_g (lw_at lw_m0 139 rfl) rfl
theorem q146 : (Jvm.Cond.laysFinal "WireTextModel" "WireTextModel" "text" "[B") ∈ lw_all := lw_g (lw_at lw_m0 140 rfl) rfl
theorem q147 : (Jvm.Cond.soleField "WireTextModel" "text") ∈ lw_all := lw_g (lw_at lw_m0 141 rfl) rfl
theorem q148 : (Jvm.Cond.lays "WireTextModel" "WireTextModel" "size" "I") ∈ lw_all := lw_g (lw_at lw_m0 142 rfl) rfl
theorem q149 : (Jvm.Cond.soleField "WireTextModel" "size") ∈ lw_all := lw_g (lw_at lw_m0 143 rfl) rfl
theorem q150 : (Jvm.Cond.superclass "WireTextModel" "java/lang/Object") ∈ lw_all := lw_g (lw_at lw_m0 144 rfl) rfl
theorem q152 : (Jvm.Cond.instanceMethod ({ cls := "WireTextModel", name := "put", desc := "(IIII)Z" } : Jvm.MethodName)) ∈ lw_all := lw_g (lw_at lw_m0 146 rfl) rfl
theorem q153 : (Jvm.Cond.selects "WireTextModel" ({ cls := "WireTextModel", name := "put", desc := "(IIII)Z" } : Jvm.MethodName) ({ cls := "WireTextModel", name := "put", desc := "(IIII)Z" } : Jvm.MethodName)) ∈ lw_all := lw_g (lw_at lw_m0 147 rfl) rfl
theorem q154 : (Jvm.Cond.code ({ cls := "WireTextModel", name := "put", desc := "(IIII)Z" } : Jvm.MethodName) prog_5_method_2_code (7 : Nat) (Option.some Jvm.ClassFile.FieldType.boolean)) ∈ lw_all := lw_g (lw_at lw_m0 148 rfl) rfl
theorem q156 : (Jvm.Cond.instanceMethod ({ cls := "WireTextModel", name := "trim", desc := "(I)V" } : Jvm.MethodName)) ∈ lw_all := lw_g (lw_at lw_m0 150 rfl) rfl
theorem q157 : (Jvm.Cond.selects "WireTextModel" ({ cls := "WireTextModel", name := "trim", desc := "(I)V" } : Jvm.MethodName) ({ cls := "WireTextModel", name := "trim", desc := "(I)V" } : Jvm.MethodName)) ∈ lw_all := lw_g (lw_at lw_m0 151 rfl) rfl
theorem q158 : (Jvm.Cond.code ({ cls := "WireTextModel", name := "trim", desc := "(I)V" } : Jvm.MethodName) prog_5_method_3_code (2 : Nat) (Option.none : Option Jvm.ClassFile.FieldType)) ∈ lw_all := lw_g (lw_at lw_m0 152 rfl) rfl
theorem q159 : (Jvm.Cond.methodLink "WireTextModel" (17 : Nat) ({ cls := "WireTextModel", name := "first", desc := "(I)I" } : Jvm.MethodName)) ∈ lw_all := lw_g (lw_at lw_m0 153 rfl) rfl
theorem q160 : (Jvm.Cond.privateMethod ({ cls := "WireTextModel", name := "first", desc := "(I)I" } : Jvm.MethodName)) ∈ lw_tbl := lw_at lw_m0 154 rfl
theorem q161 : (Jvm.Cond.instanceMethod ({ cls := "WireTextModel", name := "first", desc := "(I)I" } : Jvm.MethodName)) ∈ lw_all := lw_g (lw_at lw_m0 155 rfl) rfl
theorem q162 : (Jvm.Cond.code ({ cls := "WireTextModel", name := "first", desc := "(I)I" } : Jvm.MethodName) prog_5_method_5_code (2 : Nat) (Option.some Jvm.ClassFile.FieldType.int)) ∈ lw_all := lw_g (lw_at lw_m0 156 rfl) rfl
theorem q163 : (Jvm.Cond.constant "WireTextModel" (21 : Nat) (2147483647 : Int32)) ∈ lw_all := lw_g (lw_at lw_m0 157 rfl) rfl
theorem q165 : (Jvm.Cond.instanceMethod ({ cls := "WireTextModel", name := "size", desc := "()I" } : Jvm.MethodName)) ∈ lw_all := lw_g (lw_at lw_m0 159 rfl) rfl
theorem q166 : (Jvm.Cond.selects "WireTextModel" ({ cls := "WireTextModel", name := "size", desc := "()I" } : Jvm.MethodName) ({ cls := "WireTextModel", name := "size", desc := "()I" } : Jvm.MethodName)) ∈ lw_all := lw_g (lw_at lw_m0 160 rfl) rfl
theorem q167 : (Jvm.Cond.code ({ cls := "WireTextModel", name := "size", desc := "()I" } : Jvm.MethodName) prog_5_method_4_code (1 : Nat) (Option.some Jvm.ClassFile.FieldType.int)) ∈ lw_all := lw_g (lw_at lw_m0 161 rfl) rfl
theorem q169 : (Jvm.Cond.instanceMethod ({ cls := "WireTextModel", name := "sign", desc := "(II)V" } : Jvm.MethodName)) ∈ lw_all := lw_g (lw_at lw_m0 163 rfl) rfl
theorem q170 : (Jvm.Cond.selects "WireTextModel" ({ cls := "WireTextModel", name := "sign", desc := "(II)V" } : Jvm.MethodName) ({ cls := "WireTextModel", name := "sign", desc := "(II)V" } : Jvm.MethodName)) ∈ lw_all := lw_g (lw_at lw_m0 164 rfl) rfl
theorem q171 : (Jvm.Cond.code ({ cls := "WireTextModel", name := "sign", desc := "(II)V" } : Jvm.MethodName) prog_5_method_7_code (3 : Nat) (Option.none : Option Jvm.ClassFile.FieldType)) ∈ lw_all := lw_g (lw_at lw_m0 165 rfl) rfl
theorem q173 : (Jvm.Cond.instanceMethod ({ cls := "WireTextModel", name := "fair", desc := "(II)Z" } : Jvm.MethodName)) ∈ lw_all := lw_g (lw_at lw_m0 167 rfl) rfl
theorem q174 : (Jvm.Cond.selects "WireTextModel" ({ cls := "WireTextModel", name := "fair", desc := "(II)Z" } : Jvm.MethodName) ({ cls := "WireTextModel", name := "fair", desc := "(II)Z" } : Jvm.MethodName)) ∈ lw_all := lw_g (lw_at lw_m0 168 rfl) rfl
theorem q175 : (Jvm.Cond.code ({ cls := "WireTextModel", name := "fair", desc := "(II)Z" } : Jvm.MethodName) prog_5_method_8_code (10 : Nat) (Option.some Jvm.ClassFile.FieldType.boolean)) ∈ lw_all := lw_g (lw_at lw_m0 169 rfl) rfl
theorem q176 : (Jvm.Cond.methodLink "WireTextModel" (22 : Nat) ({ cls := "WireTextModel", name := "many", desc := "(II)I" } : Jvm.MethodName)) ∈ lw_all := lw_g (lw_at lw_m0 170 rfl) rfl
theorem q177 : (Jvm.Cond.privateMethod ({ cls := "WireTextModel", name := "many", desc := "(II)I" } : Jvm.MethodName)) ∈ lw_tbl := lw_at lw_m0 171 rfl
theorem q178 : (Jvm.Cond.instanceMethod ({ cls := "WireTextModel", name := "many", desc := "(II)I" } : Jvm.MethodName)) ∈ lw_all := lw_g (lw_at lw_m0 172 rfl) rfl
theorem q179 : (Jvm.Cond.code ({ cls := "WireTextModel", name := "many", desc := "(II)I" } : Jvm.MethodName) prog_5_method_6_code (3 : Nat) (Option.some Jvm.ClassFile.FieldType.int)) ∈ lw_all := lw_g (lw_at lw_m0 173 rfl) rfl
theorem q180 : (Jvm.Cond.constant "WireTextModel" (26 : Nat) (55296 : Int32)) ∈ lw_all := lw_g (lw_at lw_m0 174 rfl) rfl
theorem q181 : (Jvm.Cond.constant "WireTextModel" (27 : Nat) (57343 : Int32)) ∈ lw_all := lw_g (lw_at lw_m0 175 rfl) rfl
theorem q182 : (Jvm.Cond.constant "WireTextModel" (28 : Nat) (65536 : Int32)) ∈ lw_all := lw_g (lw_at lw_m0 176 rfl) rfl
theorem q183 : (Jvm.Cond.constant "WireTextModel" (29 : Nat) (1114111 : Int32)) ∈ lw_all := lw_g (lw_at lw_m0 177 rfl) rfl
theorem in_X1 : ∀ w ∈ wsX10, w ∈ lw_all := lw_in wsX10 [146, 148] (by decide +kernel) (by decide +kernel)
end
section
/-! Utf8 -/
set_option maxRecDepth 100000
def RX2 : String := "Utf8"
abbrev cX2_isWellFormed : ByteArray := prog_2_method_1_code
def yX2_isWellFormed : MethodName := ⟨RX2, "isWellFormed", "([BII)Z"⟩
def dkwX2_isWellFormed_1 : List UInt8 := [156, 0, 11, 42, 21, 4, 29, 184, 0, 7, 172, 132, 4, 1, 167, 255, 232, 4, 172]
abbrev dktX2_isWellFormed_1 : List UInt8 := dkwX2_isWellFormed_1 ++ []
def dkwX2_isWellFormed_0 : List UInt8 := [27, 28, 96, 62, 27, 29, 42, 190, 184, 0, 1, 27, 54, 4, 21, 4, 29, 162, 0, 24, 42, 21, 4, 51]
abbrev dktX2_isWellFormed_0 : List UInt8 := dkwX2_isWellFormed_0 ++ dktX2_isWellFormed_1
theorem dksX2_isWellFormed_0 : cX2_isWellFormed.data.toList.drop 0 = dktX2_isWellFormed_0 := by decide +kernel
theorem dksX2_isWellFormed_1 : cX2_isWellFormed.data.toList.drop 24 = dktX2_isWellFormed_1 := dk_seg dksX2_isWellFormed_0 24 rfl rfl
theorem dX2_isWellFormed_0 : decode cX2_isWellFormed 0 = .ok (.iload_n 1, 1) := dk_27 (dk_at dksX2_isWellFormed_0 0 rfl rfl)
theorem dX2_isWellFormed_1 : decode cX2_isWellFormed 1 = .ok (.iload_n 2, 1) := dk_28 (dk_at dksX2_isWellFormed_0 1 rfl rfl)
theorem dX2_isWellFormed_2 : decode cX2_isWellFormed 2 = .ok (.iadd, 1) := dk_96 (dk_at dksX2_isWellFormed_0 2 rfl rfl)
theorem dX2_isWellFormed_3 : decode cX2_isWellFormed 3 = .ok (.istore_n 3, 1) := dk_62 (dk_at dksX2_isWellFormed_0 3 rfl rfl)
theorem dX2_isWellFormed_4 : decode cX2_isWellFormed 4 = .ok (.iload_n 1, 1) := dk_27 (dk_at dksX2_isWellFormed_0 4 rfl rfl)
theorem dX2_isWellFormed_5 : decode cX2_isWellFormed 5 = .ok (.iload_n 3, 1) := dk_29 (dk_at dksX2_isWellFormed_0 5 rfl rfl)
theorem dX2_isWellFormed_6 : decode cX2_isWellFormed 6 = .ok (.aload_n 0, 1) := dk_42 (dk_at dksX2_isWellFormed_0 6 rfl rfl)
theorem dX2_isWellFormed_7 : decode cX2_isWellFormed 7 = .ok (.arraylength, 1) := dk_190 (dk_at dksX2_isWellFormed_0 7 rfl rfl)
theorem dX2_isWellFormed_8 : decode cX2_isWellFormed 8 = .ok (.invokestatic 1, 3) := dk_184 0 1 (dk_at dksX2_isWellFormed_0 8 rfl rfl)
theorem dX2_isWellFormed_11 : decode cX2_isWellFormed 11 = .ok (.iload_n 1, 1) := dk_27 (dk_at dksX2_isWellFormed_0 11 rfl rfl)
theorem dX2_isWellFormed_12 : decode cX2_isWellFormed 12 = .ok (.istore 4, 2) := dk_54 4 (dk_at dksX2_isWellFormed_0 12 rfl rfl)
theorem dX2_isWellFormed_14 : decode cX2_isWellFormed 14 = .ok (.iload 4, 2) := dk_21 4 (dk_at dksX2_isWellFormed_0 14 rfl rfl)
theorem dX2_isWellFormed_16 : decode cX2_isWellFormed 16 = .ok (.iload_n 3, 1) := dk_29 (dk_at dksX2_isWellFormed_0 16 rfl rfl)
theorem dX2_isWellFormed_17 : decode cX2_isWellFormed 17 = .ok (.if_icmp .ge 24, 3) := dk_162 0 24 (dk_at dksX2_isWellFormed_0 17 rfl rfl)
theorem dX2_isWellFormed_20 : decode cX2_isWellFormed 20 = .ok (.aload_n 0, 1) := dk_42 (dk_at dksX2_isWellFormed_0 20 rfl rfl)
theorem dX2_isWellFormed_21 : decode cX2_isWellFormed 21 = .ok (.iload 4, 2) := dk_21 4 (dk_at dksX2_isWellFormed_0 21 rfl rfl)
theorem dX2_isWellFormed_23 : decode cX2_isWellFormed 23 = .ok (.baload, 1) := dk_51 (dk_at dksX2_isWellFormed_0 23 rfl rfl)
theorem dX2_isWellFormed_24 : decode cX2_isWellFormed 24 = .ok (.ifCond .ge 11, 3) := dk_156 0 11 (dk_at dksX2_isWellFormed_1 0 rfl rfl)
theorem dX2_isWellFormed_27 : decode cX2_isWellFormed 27 = .ok (.aload_n 0, 1) := dk_42 (dk_at dksX2_isWellFormed_1 3 rfl rfl)
theorem dX2_isWellFormed_28 : decode cX2_isWellFormed 28 = .ok (.iload 4, 2) := dk_21 4 (dk_at dksX2_isWellFormed_1 4 rfl rfl)
theorem dX2_isWellFormed_30 : decode cX2_isWellFormed 30 = .ok (.iload_n 3, 1) := dk_29 (dk_at dksX2_isWellFormed_1 6 rfl rfl)
theorem dX2_isWellFormed_31 : decode cX2_isWellFormed 31 = .ok (.invokestatic 7, 3) := dk_184 0 7 (dk_at dksX2_isWellFormed_1 7 rfl rfl)
theorem dX2_isWellFormed_34 : decode cX2_isWellFormed 34 = .ok (.ireturn, 1) := dk_172 (dk_at dksX2_isWellFormed_1 10 rfl rfl)
theorem dX2_isWellFormed_35 : decode cX2_isWellFormed 35 = .ok (.iinc 4 1, 3) := dk_132 4 1 (dk_at dksX2_isWellFormed_1 11 rfl rfl)
theorem dX2_isWellFormed_38 : decode cX2_isWellFormed 38 = .ok (.goto (-24), 3) := dk_167 255 232 (dk_at dksX2_isWellFormed_1 14 rfl rfl)
theorem dX2_isWellFormed_41 : decode cX2_isWellFormed 41 = .ok (.iconst 1, 1) := dk_4 (dk_at dksX2_isWellFormed_1 17 rfl rfl)
theorem dX2_isWellFormed_42 : decode cX2_isWellFormed 42 = .ok (.ireturn, 1) := dk_172 (dk_at dksX2_isWellFormed_1 18 rfl rfl)
abbrev cX2_isWellFormedSlowPath : ByteArray := prog_2_method_2_code
def yX2_isWellFormedSlowPath : MethodName := ⟨RX2, "isWellFormedSlowPath", "([BII)Z"⟩
def dkwX2_isWellFormedSlowPath_8 : List UInt8 := [16, 191, 164, 0, 5, 3, 172, 167, 255, 63]
abbrev dktX2_isWellFormedSlowPath_8 : List UInt8 := dkwX2_isWellFormedSlowPath_8 ++ []
def dkwX2_isWellFormedSlowPath_7 : List UInt8 := [16, 30, 122, 154, 0, 25, 42, 29, 132, 3, 1, 51, 16, 191, 163, 0, 14, 42, 29, 132, 3, 1, 51]
abbrev dktX2_isWellFormedSlowPath_7 : List UInt8 := dkwX2_isWellFormedSlowPath_7 ++ dktX2_isWellFormedSlowPath_8
def dkwX2_isWellFormedSlowPath_6 : List UInt8 := [132, 3, 1, 51, 54, 5, 21, 5, 16, 191, 163, 0, 42, 21, 4, 16, 28, 120, 21, 5, 16, 144, 100, 96]
abbrev dktX2_isWellFormedSlowPath_6 : List UInt8 := dkwX2_isWellFormedSlowPath_6 ++ dktX2_isWellFormedSlowPath_7
def dkwX2_isWellFormedSlowPath_5 : List UInt8 := [51, 16, 191, 164, 0, 5, 3, 172, 167, 0, 68, 29, 5, 96, 28, 161, 0, 5, 3, 172, 42, 29]
abbrev dktX2_isWellFormedSlowPath_5 : List UInt8 := dkwX2_isWellFormedSlowPath_5 ++ dktX2_isWellFormedSlowPath_6
def dkwX2_isWellFormedSlowPath_4 : List UInt8 := [16, 160, 161, 0, 28, 21, 4, 16, 237, 160, 0, 10, 21, 5, 16, 160, 162, 0, 14, 42, 29, 132, 3, 1]
abbrev dktX2_isWellFormedSlowPath_4 : List UInt8 := dkwX2_isWellFormedSlowPath_4 ++ dktX2_isWellFormedSlowPath_5
def dkwX2_isWellFormedSlowPath_3 : List UInt8 := [42, 29, 132, 3, 1, 51, 54, 5, 21, 5, 16, 191, 163, 0, 42, 21, 4, 16, 224, 160, 0, 10, 21, 5]
abbrev dktX2_isWellFormedSlowPath_3 : List UInt8 := dkwX2_isWellFormedSlowPath_3 ++ dktX2_isWellFormedSlowPath_4
def dkwX2_isWellFormedSlowPath_2 : List UInt8 := [51, 16, 191, 164, 0, 145, 3, 172, 21, 4, 16, 240, 162, 0, 71, 29, 4, 96, 28, 161, 0, 5, 3, 172]
abbrev dktX2_isWellFormedSlowPath_2 : List UInt8 := dkwX2_isWellFormedSlowPath_2 ++ dktX2_isWellFormedSlowPath_3
def dkwX2_isWellFormedSlowPath_1 : List UInt8 := [16, 224, 162, 0, 30, 29, 28, 160, 0, 5, 3, 172, 21, 4, 16, 194, 161, 0, 14, 42, 29, 132, 3, 1]
abbrev dktX2_isWellFormedSlowPath_1 : List UInt8 := dkwX2_isWellFormedSlowPath_1 ++ dktX2_isWellFormedSlowPath_2
def dkwX2_isWellFormedSlowPath_0 : List UInt8 := [27, 62, 29, 28, 161, 0, 5, 4, 172, 42, 29, 132, 3, 1, 51, 89, 54, 4, 156, 255, 240, 21, 4]
abbrev dktX2_isWellFormedSlowPath_0 : List UInt8 := dkwX2_isWellFormedSlowPath_0 ++ dktX2_isWellFormedSlowPath_1
theorem dksX2_isWellFormedSlowPath_0 : cX2_isWellFormedSlowPath.data.toList.drop 0 = dktX2_isWellFormedSlowPath_0 := by decide +kernel
theorem dksX2_isWellFormedSlowPath_1 : cX2_isWellFormedSlowPath.data.toList.drop 23 = dktX2_isWellFormedSlowPath_1 := dk_seg dksX2_isWellFormedSlowPath_0 23 rfl rfl
theorem dksX2_isWellFormedSlowPath_2 : cX2_isWellFormedSlowPath.data.toList.drop 47 = dktX2_isWellFormedSlowPath_2 := dk_seg dksX2_isWellFormedSlowPath_1 24 rfl rfl
theorem dksX2_isWellFormedSlowPath_3 : cX2_isWellFormedSlowPath.data.toList.drop 71 = dktX2_isWellFormedSlowPath_3 := dk_seg dksX2_isWellFormedSlowPath_2 24 rfl rfl
theorem dksX2_isWellFormedSlowPath_4 : cX2_isWellFormedSlowPath.data.toList.drop 95 = dktX2_isWellFormedSlowPath_4 := dk_seg dksX2_isWellFormedSlowPath_3 24 rfl rfl
theorem dksX2_isWellFormedSlowPath_5 : cX2_isWellFormedSlowPath.data.toList.drop 119 = dktX2_isWellFormedSlowPath_5 := dk_seg dksX2_isWellFormedSlowPath_4 24 rfl rfl
theorem dksX2_isWellFormedSlowPath_6 : cX2_isWellFormedSlowPath.data.toList.drop 141 = dktX2_isWellFormedSlowPath_6 := dk_seg dksX2_isWellFormedSlowPath_5 22 rfl rfl
theorem dksX2_isWellFormedSlowPath_7 : cX2_isWellFormedSlowPath.data.toList.drop 165 = dktX2_isWellFormedSlowPath_7 := dk_seg dksX2_isWellFormedSlowPath_6 24 rfl rfl
theorem dksX2_isWellFormedSlowPath_8 : cX2_isWellFormedSlowPath.data.toList.drop 188 = dktX2_isWellFormedSlowPath_8 := dk_seg dksX2_isWellFormedSlowPath_7 23 rfl rfl
theorem dX2_isWellFormedSlowPath_0 : decode cX2_isWellFormedSlowPath 0 = .ok (.iload_n 1, 1) := dk_27 (dk_at dksX2_isWellFormedSlowPath_0 0 rfl rfl)
theorem dX2_isWellFormedSlowPath_1 : decode cX2_isWellFormedSlowPath 1 = .ok (.istore_n 3, 1) := dk_62 (dk_at dksX2_isWellFormedSlowPath_0 1 rfl rfl)
theorem dX2_isWellFormedSlowPath_2 : decode cX2_isWellFormedSlowPath 2 = .ok (.iload_n 3, 1) := dk_29 (dk_at dksX2_isWellFormedSlowPath_0 2 rfl rfl)
theorem dX2_isWellFormedSlowPath_3 : decode cX2_isWellFormedSlowPath 3 = .ok (.iload_n 2, 1) := dk_28 (dk_at dksX2_isWellFormedSlowPath_0 3 rfl rfl)
theorem dX2_isWellFormedSlowPath_4 : decode cX2_isWellFormedSlowPath 4 = .ok (.if_icmp .lt 5, 3) := dk_161 0 5 (dk_at dksX2_isWellFormedSlowPath_0 4 rfl rfl)
theorem dX2_isWellFormedSlowPath_7 : decode cX2_isWellFormedSlowPath 7 = .ok (.iconst 1, 1) := dk_4 (dk_at dksX2_isWellFormedSlowPath_0 7 rfl rfl)
theorem dX2_isWellFormedSlowPath_8 : decode cX2_isWellFormedSlowPath 8 = .ok (.ireturn, 1) := dk_172 (dk_at dksX2_isWellFormedSlowPath_0 8 rfl rfl)
theorem dX2_isWellFormedSlowPath_9 : decode cX2_isWellFormedSlowPath 9 = .ok (.aload_n 0, 1) := dk_42 (dk_at dksX2_isWellFormedSlowPath_0 9 rfl rfl)
theorem dX2_isWellFormedSlowPath_10 : decode cX2_isWellFormedSlowPath 10 = .ok (.iload_n 3, 1) := dk_29 (dk_at dksX2_isWellFormedSlowPath_0 10 rfl rfl)
theorem dX2_isWellFormedSlowPath_11 : decode cX2_isWellFormedSlowPath 11 = .ok (.iinc 3 1, 3) := dk_132 3 1 (dk_at dksX2_isWellFormedSlowPath_0 11 rfl rfl)
theorem dX2_isWellFormedSlowPath_14 : decode cX2_isWellFormedSlowPath 14 = .ok (.baload, 1) := dk_51 (dk_at dksX2_isWellFormedSlowPath_0 14 rfl rfl)
theorem dX2_isWellFormedSlowPath_15 : decode cX2_isWellFormedSlowPath 15 = .ok (.dup, 1) := dk_89 (dk_at dksX2_isWellFormedSlowPath_0 15 rfl rfl)
theorem dX2_isWellFormedSlowPath_16 : decode cX2_isWellFormedSlowPath 16 = .ok (.istore 4, 2) := dk_54 4 (dk_at dksX2_isWellFormedSlowPath_0 16 rfl rfl)
theorem dX2_isWellFormedSlowPath_18 : decode cX2_isWellFormedSlowPath 18 = .ok (.ifCond .ge (-16), 3) := dk_156 255 240 (dk_at dksX2_isWellFormedSlowPath_0 18 rfl rfl)
theorem dX2_isWellFormedSlowPath_21 : decode cX2_isWellFormedSlowPath 21 = .ok (.iload 4, 2) := dk_21 4 (dk_at dksX2_isWellFormedSlowPath_0 21 rfl rfl)
theorem dX2_isWellFormedSlowPath_23 : decode cX2_isWellFormedSlowPath 23 = .ok (.bipush (-32), 2) := dk_16 224 (dk_at dksX2_isWellFormedSlowPath_1 0 rfl rfl)
theorem dX2_isWellFormedSlowPath_25 : decode cX2_isWellFormedSlowPath 25 = .ok (.if_icmp .ge 30, 3) := dk_162 0 30 (dk_at dksX2_isWellFormedSlowPath_1 2 rfl rfl)
theorem dX2_isWellFormedSlowPath_28 : decode cX2_isWellFormedSlowPath 28 = .ok (.iload_n 3, 1) := dk_29 (dk_at dksX2_isWellFormedSlowPath_1 5 rfl rfl)
theorem dX2_isWellFormedSlowPath_29 : decode cX2_isWellFormedSlowPath 29 = .ok (.iload_n 2, 1) := dk_28 (dk_at dksX2_isWellFormedSlowPath_1 6 rfl rfl)
theorem dX2_isWellFormedSlowPath_30 : decode cX2_isWellFormedSlowPath 30 = .ok (.if_icmp .ne 5, 3) := dk_160 0 5 (dk_at dksX2_isWellFormedSlowPath_1 7 rfl rfl)
theorem dX2_isWellFormedSlowPath_33 : decode cX2_isWellFormedSlowPath 33 = .ok (.iconst 0, 1) := dk_3 (dk_at dksX2_isWellFormedSlowPath_1 10 rfl rfl)
theorem dX2_isWellFormedSlowPath_34 : decode cX2_isWellFormedSlowPath 34 = .ok (.ireturn, 1) := dk_172 (dk_at dksX2_isWellFormedSlowPath_1 11 rfl rfl)
theorem dX2_isWellFormedSlowPath_35 : decode cX2_isWellFormedSlowPath 35 = .ok (.iload 4, 2) := dk_21 4 (dk_at dksX2_isWellFormedSlowPath_1 12 rfl rfl)
theorem dX2_isWellFormedSlowPath_37 : decode cX2_isWellFormedSlowPath 37 = .ok (.bipush (-62), 2) := dk_16 194 (dk_at dksX2_isWellFormedSlowPath_1 14 rfl rfl)
theorem dX2_isWellFormedSlowPath_39 : decode cX2_isWellFormedSlowPath 39 = .ok (.if_icmp .lt 14, 3) := dk_161 0 14 (dk_at dksX2_isWellFormedSlowPath_1 16 rfl rfl)
theorem dX2_isWellFormedSlowPath_42 : decode cX2_isWellFormedSlowPath 42 = .ok (.aload_n 0, 1) := dk_42 (dk_at dksX2_isWellFormedSlowPath_1 19 rfl rfl)
theorem dX2_isWellFormedSlowPath_43 : decode cX2_isWellFormedSlowPath 43 = .ok (.iload_n 3, 1) := dk_29 (dk_at dksX2_isWellFormedSlowPath_1 20 rfl rfl)
theorem dX2_isWellFormedSlowPath_44 : decode cX2_isWellFormedSlowPath 44 = .ok (.iinc 3 1, 3) := dk_132 3 1 (dk_at dksX2_isWellFormedSlowPath_1 21 rfl rfl)
theorem dX2_isWellFormedSlowPath_47 : decode cX2_isWellFormedSlowPath 47 = .ok (.baload, 1) := dk_51 (dk_at dksX2_isWellFormedSlowPath_2 0 rfl rfl)
theorem dX2_isWellFormedSlowPath_48 : decode cX2_isWellFormedSlowPath 48 = .ok (.bipush (-65), 2) := dk_16 191 (dk_at dksX2_isWellFormedSlowPath_2 1 rfl rfl)
theorem dX2_isWellFormedSlowPath_50 : decode cX2_isWellFormedSlowPath 50 = .ok (.if_icmp .le 145, 3) := dk_164 0 145 (dk_at dksX2_isWellFormedSlowPath_2 3 rfl rfl)
theorem dX2_isWellFormedSlowPath_53 : decode cX2_isWellFormedSlowPath 53 = .ok (.iconst 0, 1) := dk_3 (dk_at dksX2_isWellFormedSlowPath_2 6 rfl rfl)
theorem dX2_isWellFormedSlowPath_54 : decode cX2_isWellFormedSlowPath 54 = .ok (.ireturn, 1) := dk_172 (dk_at dksX2_isWellFormedSlowPath_2 7 rfl rfl)
theorem dX2_isWellFormedSlowPath_55 : decode cX2_isWellFormedSlowPath 55 = .ok (.iload 4, 2) := dk_21 4 (dk_at dksX2_isWellFormedSlowPath_2 8 rfl rfl)
theorem dX2_isWellFormedSlowPath_57 : decode cX2_isWellFormedSlowPath 57 = .ok (.bipush (-16), 2) := dk_16 240 (dk_at dksX2_isWellFormedSlowPath_2 10 rfl rfl)
theorem dX2_isWellFormedSlowPath_59 : decode cX2_isWellFormedSlowPath 59 = .ok (.if_icmp .ge 71, 3) := dk_162 0 71 (dk_at dksX2_isWellFormedSlowPath_2 12 rfl rfl)
theorem dX2_isWellFormedSlowPath_62 : decode cX2_isWellFormedSlowPath 62 = .ok (.iload_n 3, 1) := dk_29 (dk_at dksX2_isWellFormedSlowPath_2 15 rfl rfl)
theorem dX2_isWellFormedSlowPath_63 : decode cX2_isWellFormedSlowPath 63 = .ok (.iconst 1, 1) := dk_4 (dk_at dksX2_isWellFormedSlowPath_2 16 rfl rfl)
theorem dX2_isWellFormedSlowPath_64 : decode cX2_isWellFormedSlowPath 64 = .ok (.iadd, 1) := dk_96 (dk_at dksX2_isWellFormedSlowPath_2 17 rfl rfl)
theorem dX2_isWellFormedSlowPath_65 : decode cX2_isWellFormedSlowPath 65 = .ok (.iload_n 2, 1) := dk_28 (dk_at dksX2_isWellFormedSlowPath_2 18 rfl rfl)
theorem dX2_isWellFormedSlowPath_66 : decode cX2_isWellFormedSlowPath 66 = .ok (.if_icmp .lt 5, 3) := dk_161 0 5 (dk_at dksX2_isWellFormedSlowPath_2 19 rfl rfl)
theorem dX2_isWellFormedSlowPath_69 : decode cX2_isWellFormedSlowPath 69 = .ok (.iconst 0, 1) := dk_3 (dk_at dksX2_isWellFormedSlowPath_2 22 rfl rfl)
theorem dX2_isWellFormedSlowPath_70 : decode cX2_isWellFormedSlowPath 70 = .ok (.ireturn, 1) := dk_172 (dk_at dksX2_isWellFormedSlowPath_2 23 rfl rfl)
theorem dX2_isWellFormedSlowPath_71 : decode cX2_isWellFormedSlowPath 71 = .ok (.aload_n 0, 1) := dk_42 (dk_at dksX2_isWellFormedSlowPath_3 0 rfl rfl)
theorem dX2_isWellFormedSlowPath_72 : decode cX2_isWellFormedSlowPath 72 = .ok (.iload_n 3, 1) := dk_29 (dk_at dksX2_isWellFormedSlowPath_3 1 rfl rfl)
theorem dX2_isWellFormedSlowPath_73 : decode cX2_isWellFormedSlowPath 73 = .ok (.iinc 3 1, 3) := dk_132 3 1 (dk_at dksX2_isWellFormedSlowPath_3 2 rfl rfl)
theorem dX2_isWellFormedSlowPath_76 : decode cX2_isWellFormedSlowPath 76 = .ok (.baload, 1) := dk_51 (dk_at dksX2_isWellFormedSlowPath_3 5 rfl rfl)
theorem dX2_isWellFormedSlowPath_77 : decode cX2_isWellFormedSlowPath 77 = .ok (.istore 5, 2) := dk_54 5 (dk_at dksX2_isWellFormedSlowPath_3 6 rfl rfl)
theorem dX2_isWellFormedSlowPath_79 : decode cX2_isWellFormedSlowPath 79 = .ok (.iload 5, 2) := dk_21 5 (dk_at dksX2_isWellFormedSlowPath_3 8 rfl rfl)
theorem dX2_isWellFormedSlowPath_81 : decode cX2_isWellFormedSlowPath 81 = .ok (.bipush (-65), 2) := dk_16 191 (dk_at dksX2_isWellFormedSlowPath_3 10 rfl rfl)
theorem dX2_isWellFormedSlowPath_83 : decode cX2_isWellFormedSlowPath 83 = .ok (.if_icmp .gt 42, 3) := dk_163 0 42 (dk_at dksX2_isWellFormedSlowPath_3 12 rfl rfl)
theorem dX2_isWellFormedSlowPath_86 : decode cX2_isWellFormedSlowPath 86 = .ok (.iload 4, 2) := dk_21 4 (dk_at dksX2_isWellFormedSlowPath_3 15 rfl rfl)
theorem dX2_isWellFormedSlowPath_88 : decode cX2_isWellFormedSlowPath 88 = .ok (.bipush (-32), 2) := dk_16 224 (dk_at dksX2_isWellFormedSlowPath_3 17 rfl rfl)
theorem dX2_isWellFormedSlowPath_90 : decode cX2_isWellFormedSlowPath 90 = .ok (.if_icmp .ne 10, 3) := dk_160 0 10 (dk_at dksX2_isWellFormedSlowPath_3 19 rfl rfl)
theorem dX2_isWellFormedSlowPath_93 : decode cX2_isWellFormedSlowPath 93 = .ok (.iload 5, 2) := dk_21 5 (dk_at dksX2_isWellFormedSlowPath_3 22 rfl rfl)
theorem dX2_isWellFormedSlowPath_95 : decode cX2_isWellFormedSlowPath 95 = .ok (.bipush (-96), 2) := dk_16 160 (dk_at dksX2_isWellFormedSlowPath_4 0 rfl rfl)
theorem dX2_isWellFormedSlowPath_97 : decode cX2_isWellFormedSlowPath 97 = .ok (.if_icmp .lt 28, 3) := dk_161 0 28 (dk_at dksX2_isWellFormedSlowPath_4 2 rfl rfl)
theorem dX2_isWellFormedSlowPath_100 : decode cX2_isWellFormedSlowPath 100 = .ok (.iload 4, 2) := dk_21 4 (dk_at dksX2_isWellFormedSlowPath_4 5 rfl rfl)
theorem dX2_isWellFormedSlowPath_102 : decode cX2_isWellFormedSlowPath 102 = .ok (.bipush (-19), 2) := dk_16 237 (dk_at dksX2_isWellFormedSlowPath_4 7 rfl rfl)
theorem dX2_isWellFormedSlowPath_104 : decode cX2_isWellFormedSlowPath 104 = .ok (.if_icmp .ne 10, 3) := dk_160 0 10 (dk_at dksX2_isWellFormedSlowPath_4 9 rfl rfl)
theorem dX2_isWellFormedSlowPath_107 : decode cX2_isWellFormedSlowPath 107 = .ok (.iload 5, 2) := dk_21 5 (dk_at dksX2_isWellFormedSlowPath_4 12 rfl rfl)
theorem dX2_isWellFormedSlowPath_109 : decode cX2_isWellFormedSlowPath 109 = .ok (.bipush (-96), 2) := dk_16 160 (dk_at dksX2_isWellFormedSlowPath_4 14 rfl rfl)
theorem dX2_isWellFormedSlowPath_111 : decode cX2_isWellFormedSlowPath 111 = .ok (.if_icmp .ge 14, 3) := dk_162 0 14 (dk_at dksX2_isWellFormedSlowPath_4 16 rfl rfl)
theorem dX2_isWellFormedSlowPath_114 : decode cX2_isWellFormedSlowPath 114 = .ok (.aload_n 0, 1) := dk_42 (dk_at dksX2_isWellFormedSlowPath_4 19 rfl rfl)
theorem dX2_isWellFormedSlowPath_115 : decode cX2_isWellFormedSlowPath 115 = .ok (.iload_n 3, 1) := dk_29 (dk_at dksX2_isWellFormedSlowPath_4 20 rfl rfl)
theorem dX2_isWellFormedSlowPath_116 : decode cX2_isWellFormedSlowPath 116 = .ok (.iinc 3 1, 3) := dk_132 3 1 (dk_at dksX2_isWellFormedSlowPath_4 21 rfl rfl)
theorem dX2_isWellFormedSlowPath_119 : decode cX2_isWellFormedSlowPath 119 = .ok (.baload, 1) := dk_51 (dk_at dksX2_isWellFormedSlowPath_5 0 rfl rfl)
theorem dX2_isWellFormedSlowPath_120 : decode cX2_isWellFormedSlowPath 120 = .ok (.bipush (-65), 2) := dk_16 191 (dk_at dksX2_isWellFormedSlowPath_5 1 rfl rfl)
theorem dX2_isWellFormedSlowPath_122 : decode cX2_isWellFormedSlowPath 122 = .ok (.if_icmp .le 5, 3) := dk_164 0 5 (dk_at dksX2_isWellFormedSlowPath_5 3 rfl rfl)
theorem dX2_isWellFormedSlowPath_125 : decode cX2_isWellFormedSlowPath 125 = .ok (.iconst 0, 1) := dk_3 (dk_at dksX2_isWellFormedSlowPath_5 6 rfl rfl)
theorem dX2_isWellFormedSlowPath_126 : decode cX2_isWellFormedSlowPath 126 = .ok (.ireturn, 1) := dk_172 (dk_at dksX2_isWellFormedSlowPath_5 7 rfl rfl)
theorem dX2_isWellFormedSlowPath_127 : decode cX2_isWellFormedSlowPath 127 = .ok (.goto 68, 3) := dk_167 0 68 (dk_at dksX2_isWellFormedSlowPath_5 8 rfl rfl)
theorem dX2_isWellFormedSlowPath_130 : decode cX2_isWellFormedSlowPath 130 = .ok (.iload_n 3, 1) := dk_29 (dk_at dksX2_isWellFormedSlowPath_5 11 rfl rfl)
theorem dX2_isWellFormedSlowPath_131 : decode cX2_isWellFormedSlowPath 131 = .ok (.iconst 2, 1) := dk_5 (dk_at dksX2_isWellFormedSlowPath_5 12 rfl rfl)
theorem dX2_isWellFormedSlowPath_132 : decode cX2_isWellFormedSlowPath 132 = .ok (.iadd, 1) := dk_96 (dk_at dksX2_isWellFormedSlowPath_5 13 rfl rfl)
theorem dX2_isWellFormedSlowPath_133 : decode cX2_isWellFormedSlowPath 133 = .ok (.iload_n 2, 1) := dk_28 (dk_at dksX2_isWellFormedSlowPath_5 14 rfl rfl)
theorem dX2_isWellFormedSlowPath_134 : decode cX2_isWellFormedSlowPath 134 = .ok (.if_icmp .lt 5, 3) := dk_161 0 5 (dk_at dksX2_isWellFormedSlowPath_5 15 rfl rfl)
theorem dX2_isWellFormedSlowPath_137 : decode cX2_isWellFormedSlowPath 137 = .ok (.iconst 0, 1) := dk_3 (dk_at dksX2_isWellFormedSlowPath_5 18 rfl rfl)
theorem dX2_isWellFormedSlowPath_138 : decode cX2_isWellFormedSlowPath 138 = .ok (.ireturn, 1) := dk_172 (dk_at dksX2_isWellFormedSlowPath_5 19 rfl rfl)
theorem dX2_isWellFormedSlowPath_139 : decode cX2_isWellFormedSlowPath 139 = .ok (.aload_n 0, 1) := dk_42 (dk_at dksX2_isWellFormedSlowPath_5 20 rfl rfl)
theorem dX2_isWellFormedSlowPath_140 : decode cX2_isWellFormedSlowPath 140 = .ok (.iload_n 3, 1) := dk_29 (dk_at dksX2_isWellFormedSlowPath_5 21 rfl rfl)
theorem dX2_isWellFormedSlowPath_141 : decode cX2_isWellFormedSlowPath 141 = .ok (.iinc 3 1, 3) := dk_132 3 1 (dk_at dksX2_isWellFormedSlowPath_6 0 rfl rfl)
theorem dX2_isWellFormedSlowPath_144 : decode cX2_isWellFormedSlowPath 144 = .ok (.baload, 1) := dk_51 (dk_at dksX2_isWellFormedSlowPath_6 3 rfl rfl)
theorem dX2_isWellFormedSlowPath_145 : decode cX2_isWellFormedSlowPath 145 = .ok (.istore 5, 2) := dk_54 5 (dk_at dksX2_isWellFormedSlowPath_6 4 rfl rfl)
theorem dX2_isWellFormedSlowPath_147 : decode cX2_isWellFormedSlowPath 147 = .ok (.iload 5, 2) := dk_21 5 (dk_at dksX2_isWellFormedSlowPath_6 6 rfl rfl)
theorem dX2_isWellFormedSlowPath_149 : decode cX2_isWellFormedSlowPath 149 = .ok (.bipush (-65), 2) := dk_16 191 (dk_at dksX2_isWellFormedSlowPath_6 8 rfl rfl)
theorem dX2_isWellFormedSlowPath_151 : decode cX2_isWellFormedSlowPath 151 = .ok (.if_icmp .gt 42, 3) := dk_163 0 42 (dk_at dksX2_isWellFormedSlowPath_6 10 rfl rfl)
theorem dX2_isWellFormedSlowPath_154 : decode cX2_isWellFormedSlowPath 154 = .ok (.iload 4, 2) := dk_21 4 (dk_at dksX2_isWellFormedSlowPath_6 13 rfl rfl)
theorem dX2_isWellFormedSlowPath_156 : decode cX2_isWellFormedSlowPath 156 = .ok (.bipush 28, 2) := dk_16 28 (dk_at dksX2_isWellFormedSlowPath_6 15 rfl rfl)
theorem dX2_isWellFormedSlowPath_158 : decode cX2_isWellFormedSlowPath 158 = .ok (.ishl, 1) := dk_120 (dk_at dksX2_isWellFormedSlowPath_6 17 rfl rfl)
theorem dX2_isWellFormedSlowPath_159 : decode cX2_isWellFormedSlowPath 159 = .ok (.iload 5, 2) := dk_21 5 (dk_at dksX2_isWellFormedSlowPath_6 18 rfl rfl)
theorem dX2_isWellFormedSlowPath_161 : decode cX2_isWellFormedSlowPath 161 = .ok (.bipush (-112), 2) := dk_16 144 (dk_at dksX2_isWellFormedSlowPath_6 20 rfl rfl)
theorem dX2_isWellFormedSlowPath_163 : decode cX2_isWellFormedSlowPath 163 = .ok (.isub, 1) := dk_100 (dk_at dksX2_isWellFormedSlowPath_6 22 rfl rfl)
theorem dX2_isWellFormedSlowPath_164 : decode cX2_isWellFormedSlowPath 164 = .ok (.iadd, 1) := dk_96 (dk_at dksX2_isWellFormedSlowPath_6 23 rfl rfl)
theorem dX2_isWellFormedSlowPath_165 : decode cX2_isWellFormedSlowPath 165 = .ok (.bipush 30, 2) := dk_16 30 (dk_at dksX2_isWellFormedSlowPath_7 0 rfl rfl)
theorem dX2_isWellFormedSlowPath_167 : decode cX2_isWellFormedSlowPath 167 = .ok (.ishr, 1) := dk_122 (dk_at dksX2_isWellFormedSlowPath_7 2 rfl rfl)
theorem dX2_isWellFormedSlowPath_168 : decode cX2_isWellFormedSlowPath 168 = .ok (.ifCond .ne 25, 3) := dk_154 0 25 (dk_at dksX2_isWellFormedSlowPath_7 3 rfl rfl)
theorem dX2_isWellFormedSlowPath_171 : decode cX2_isWellFormedSlowPath 171 = .ok (.aload_n 0, 1) := dk_42 (dk_at dksX2_isWellFormedSlowPath_7 6 rfl rfl)
theorem dX2_isWellFormedSlowPath_172 : decode cX2_isWellFormedSlowPath 172 = .ok (.iload_n 3, 1) := dk_29 (dk_at dksX2_isWellFormedSlowPath_7 7 rfl rfl)
theorem dX2_isWellFormedSlowPath_173 : decode cX2_isWellFormedSlowPath 173 = .ok (.iinc 3 1, 3) := dk_132 3 1 (dk_at dksX2_isWellFormedSlowPath_7 8 rfl rfl)
theorem dX2_isWellFormedSlowPath_176 : decode cX2_isWellFormedSlowPath 176 = .ok (.baload, 1) := dk_51 (dk_at dksX2_isWellFormedSlowPath_7 11 rfl rfl)
theorem dX2_isWellFormedSlowPath_177 : decode cX2_isWellFormedSlowPath 177 = .ok (.bipush (-65), 2) := dk_16 191 (dk_at dksX2_isWellFormedSlowPath_7 12 rfl rfl)
theorem dX2_isWellFormedSlowPath_179 : decode cX2_isWellFormedSlowPath 179 = .ok (.if_icmp .gt 14, 3) := dk_163 0 14 (dk_at dksX2_isWellFormedSlowPath_7 14 rfl rfl)
theorem dX2_isWellFormedSlowPath_182 : decode cX2_isWellFormedSlowPath 182 = .ok (.aload_n 0, 1) := dk_42 (dk_at dksX2_isWellFormedSlowPath_7 17 rfl rfl)
theorem dX2_isWellFormedSlowPath_183 : decode cX2_isWellFormedSlowPath 183 = .ok (.iload_n 3, 1) := dk_29 (dk_at dksX2_isWellFormedSlowPath_7 18 rfl rfl)
theorem dX2_isWellFormedSlowPath_184 : decode cX2_isWellFormedSlowPath 184 = .ok (.iinc 3 1, 3) := dk_132 3 1 (dk_at dksX2_isWellFormedSlowPath_7 19 rfl rfl)
theorem dX2_isWellFormedSlowPath_187 : decode cX2_isWellFormedSlowPath 187 = .ok (.baload, 1) := dk_51 (dk_at dksX2_isWellFormedSlowPath_7 22 rfl rfl)
theorem dX2_isWellFormedSlowPath_188 : decode cX2_isWellFormedSlowPath 188 = .ok (.bipush (-65), 2) := dk_16 191 (dk_at dksX2_isWellFormedSlowPath_8 0 rfl rfl)
theorem dX2_isWellFormedSlowPath_190 : decode cX2_isWellFormedSlowPath 190 = .ok (.if_icmp .le 5, 3) := dk_164 0 5 (dk_at dksX2_isWellFormedSlowPath_8 2 rfl rfl)
theorem dX2_isWellFormedSlowPath_193 : decode cX2_isWellFormedSlowPath 193 = .ok (.iconst 0, 1) := dk_3 (dk_at dksX2_isWellFormedSlowPath_8 5 rfl rfl)
theorem dX2_isWellFormedSlowPath_194 : decode cX2_isWellFormedSlowPath 194 = .ok (.ireturn, 1) := dk_172 (dk_at dksX2_isWellFormedSlowPath_8 6 rfl rfl)
theorem dX2_isWellFormedSlowPath_195 : decode cX2_isWellFormedSlowPath 195 = .ok (.goto (-193), 3) := dk_167 255 63 (dk_at dksX2_isWellFormedSlowPath_8 7 rfl rfl)
theorem q9 : (Jvm.Cond.initialized "Utf8") ∈ lw_all := lw_g (lw_at lw_m0 3 rfl) rfl
theorem q61 : (Jvm.Cond.static ({ cls := "Utf8", name := "isWellFormed", desc := "([BII)Z" } : Jvm.MethodName)) ∈ lw_all := lw_g (lw_at lw_m0 55 rfl) rfl
theorem q62 : (Jvm.Cond.code ({ cls := "Utf8", name := "isWellFormed", desc := "([BII)Z" } : Jvm.MethodName) prog_2_method_1_code (5 : Nat) (Option.some Jvm.ClassFile.FieldType.boolean)) ∈ lw_all := lw_g (lw_at lw_m0 56 rfl) rfl
theorem q63 : (Jvm.Cond.methodLink "Utf8" (1 : Nat) ({ cls := "Preconditions", name := "checkPositionIndexes", desc := "(III)V" } : Jvm.MethodName)) ∈ lw_all := lw_g (lw_at lw_m0 57 rfl) rfl
theorem q131 : (Jvm.Cond.methodLink "Utf8" (7 : Nat) ({ cls := "Utf8", name := "isWellFormedSlowPath", desc := "([BII)Z" } : Jvm.MethodName)) ∈ lw_all := lw_g (lw_at lw_m0 125 rfl) rfl
theorem q132 : (Jvm.Cond.static ({ cls := "Utf8", name := "isWellFormedSlowPath", desc := "([BII)Z" } : Jvm.MethodName)) ∈ lw_all := lw_g (lw_at lw_m0 126 rfl) rfl
theorem q133 : (Jvm.Cond.code ({ cls := "Utf8", name := "isWellFormedSlowPath", desc := "([BII)Z" } : Jvm.MethodName) prog_2_method_2_code (6 : Nat) (Option.some Jvm.ClassFile.FieldType.boolean)) ∈ lw_all := lw_g (lw_at lw_m0 127 rfl) rfl
end
section
/-! the law's own entry -/
set_option maxRecDepth 100000
abbrev cL_law : ByteArray := code
def dkwL_law_9 : List UInt8 := [96, 46, 182, 0, 37, 167, 0, 3, 132, 3, 6, 167, 255, 52, 4, 172]
abbrev dktL_law_9 : List UInt8 := dkwL_law_9 ++ []
def dkwL_law_8 : List UInt8 := [172, 43, 42, 29, 4, 96, 46, 42, 29, 5, 96, 46, 182, 0, 33, 44, 42, 29, 4, 96, 46, 42, 29, 5]
abbrev dktL_law_8 : List UInt8 := dkwL_law_8 ++ dktL_law_9
def dkwL_law_7 : List UInt8 := [5, 96, 46, 182, 0, 28, 44, 42, 29, 4, 96, 46, 42, 29, 5, 96, 46, 182, 0, 32, 159, 0, 36, 3]
abbrev dktL_law_7 : List UInt8 := dkwL_law_7 ++ dktL_law_8
def dkwL_law_6 : List UInt8 := [167, 0, 80, 43, 182, 0, 23, 44, 182, 0, 27, 159, 0, 69, 3, 172, 43, 42, 29, 4, 96, 46, 42, 29]
abbrev dktL_law_6 : List UInt8 := dkwL_law_6 ++ dktL_law_7
def dkwL_law_5 : List UInt8 := [159, 0, 103, 3, 172, 43, 42, 29, 4, 96, 46, 182, 0, 18, 44, 42, 29, 4, 96, 46, 182, 0, 22]
abbrev dktL_law_5 : List UInt8 := dkwL_law_5 ++ dktL_law_6
def dkwL_law_4 : List UInt8 := [44, 42, 29, 4, 96, 46, 42, 29, 5, 96, 46, 42, 29, 6, 96, 46, 42, 29, 7, 96, 46, 182, 0, 17]
abbrev dktL_law_4 : List UInt8 := dkwL_law_4 ++ dktL_law_5
def dkwL_law_3 : List UInt8 := [43, 42, 29, 4, 96, 46, 42, 29, 5, 96, 46, 42, 29, 6, 96, 46, 42, 29, 7, 96, 46, 182, 0, 13]
abbrev dktL_law_3 : List UInt8 := dkwL_law_3 ++ dktL_law_4
def dkwL_law_2 : List UInt8 := [170, 0, 0, 0, 0, 0, 186, 0, 0, 0, 0, 0, 0, 0, 4, 0, 0, 0, 35, 0, 0, 0, 88, 0, 0, 0, 109, 0, 0, 0, 122, 0, 0, 0, 155]
abbrev dktL_law_2 : List UInt8 := dkwL_law_2 ++ dktL_law_3
def dkwL_law_1 : List UInt8 := [163, 0, 201, 42, 29, 46, 16, 15, 126]
abbrev dktL_law_1 : List UInt8 := dkwL_law_1 ++ dktL_law_2
def dkwL_law_0 : List UInt8 := [187, 0, 7, 89, 183, 0, 9, 76, 187, 0, 10, 89, 183, 0, 12, 77, 3, 62, 29, 42, 190, 16, 6, 100]
abbrev dktL_law_0 : List UInt8 := dkwL_law_0 ++ dktL_law_1
theorem dksL_law_0 : cL_law.data.toList.drop 0 = dktL_law_0 := by decide +kernel
theorem dksL_law_1 : cL_law.data.toList.drop 24 = dktL_law_1 := dk_seg dksL_law_0 24 rfl rfl
theorem dksL_law_2 : cL_law.data.toList.drop 33 = dktL_law_2 := dk_seg dksL_law_1 9 rfl rfl
theorem dksL_law_3 : cL_law.data.toList.drop 68 = dktL_law_3 := dk_seg dksL_law_2 35 rfl rfl
theorem dksL_law_4 : cL_law.data.toList.drop 92 = dktL_law_4 := dk_seg dksL_law_3 24 rfl rfl
theorem dksL_law_5 : cL_law.data.toList.drop 116 = dktL_law_5 := dk_seg dksL_law_4 24 rfl rfl
theorem dksL_law_6 : cL_law.data.toList.drop 139 = dktL_law_6 := dk_seg dksL_law_5 23 rfl rfl
theorem dksL_law_7 : cL_law.data.toList.drop 163 = dktL_law_7 := dk_seg dksL_law_6 24 rfl rfl
theorem dksL_law_8 : cL_law.data.toList.drop 187 = dktL_law_8 := dk_seg dksL_law_7 24 rfl rfl
theorem dksL_law_9 : cL_law.data.toList.drop 211 = dktL_law_9 := dk_seg dksL_law_8 24 rfl rfl
theorem dL_law_0 : decode cL_law 0 = .ok (.new 7, 3) := dk_187 0 7 (dk_at dksL_law_0 0 rfl rfl)
theorem dL_law_3 : decode cL_law 3 = .ok (.dup, 1) := dk_89 (dk_at dksL_law_0 3 rfl rfl)
theorem dL_law_4 : decode cL_law 4 = .ok (.invokespecial 9, 3) := dk_183 0 9 (dk_at dksL_law_0 4 rfl rfl)
theorem dL_law_7 : decode cL_law 7 = .ok (.astore_n 1, 1) := dk_76 (dk_at dksL_law_0 7 rfl rfl)
theorem dL_law_8 : decode cL_law 8 = .ok (.new 10, 3) := dk_187 0 10 (dk_at dksL_law_0 8 rfl rfl)
theorem dL_law_11 : decode cL_law 11 = .ok (.dup, 1) := dk_89 (dk_at dksL_law_0 11 rfl rfl)
theorem dL_law_12 : decode cL_law 12 = .ok (.invokespecial 12, 3) := dk_183 0 12 (dk_at dksL_law_0 12 rfl rfl)
theorem dL_law_15 : decode cL_law 15 = .ok (.astore_n 2, 1) := dk_77 (dk_at dksL_law_0 15 rfl rfl)
theorem dL_law_16 : decode cL_law 16 = .ok (.iconst 0, 1) := dk_3 (dk_at dksL_law_0 16 rfl rfl)
theorem dL_law_17 : decode cL_law 17 = .ok (.istore_n 3, 1) := dk_62 (dk_at dksL_law_0 17 rfl rfl)
theorem dL_law_18 : decode cL_law 18 = .ok (.iload_n 3, 1) := dk_29 (dk_at dksL_law_0 18 rfl rfl)
theorem dL_law_19 : decode cL_law 19 = .ok (.aload_n 0, 1) := dk_42 (dk_at dksL_law_0 19 rfl rfl)
theorem dL_law_20 : decode cL_law 20 = .ok (.arraylength, 1) := dk_190 (dk_at dksL_law_0 20 rfl rfl)
theorem dL_law_21 : decode cL_law 21 = .ok (.bipush 6, 2) := dk_16 6 (dk_at dksL_law_0 21 rfl rfl)
theorem dL_law_23 : decode cL_law 23 = .ok (.isub, 1) := dk_100 (dk_at dksL_law_0 23 rfl rfl)
theorem dL_law_24 : decode cL_law 24 = .ok (.if_icmp .gt 201, 3) := dk_163 0 201 (dk_at dksL_law_1 0 rfl rfl)
theorem dL_law_27 : decode cL_law 27 = .ok (.aload_n 0, 1) := dk_42 (dk_at dksL_law_1 3 rfl rfl)
theorem dL_law_28 : decode cL_law 28 = .ok (.iload_n 3, 1) := dk_29 (dk_at dksL_law_1 4 rfl rfl)
theorem dL_law_29 : decode cL_law 29 = .ok (.iaload, 1) := dk_46 (dk_at dksL_law_1 5 rfl rfl)
theorem dL_law_30 : decode cL_law 30 = .ok (.bipush 15, 2) := dk_16 15 (dk_at dksL_law_1 6 rfl rfl)
theorem dL_law_32 : decode cL_law 32 = .ok (.iand, 1) := dk_126 (dk_at dksL_law_1 8 rfl rfl)
theorem dL_law_33 : decode cL_law 33 = .ok (.tableswitch 186 0 4 #[35, 88, 109, 122, 155], 35) := by decide +kernel
theorem dL_law_68 : decode cL_law 68 = .ok (.aload_n 1, 1) := dk_43 (dk_at dksL_law_3 0 rfl rfl)
theorem dL_law_69 : decode cL_law 69 = .ok (.aload_n 0, 1) := dk_42 (dk_at dksL_law_3 1 rfl rfl)
theorem dL_law_70 : decode cL_law 70 = .ok (.iload_n 3, 1) := dk_29 (dk_at dksL_law_3 2 rfl rfl)
theorem dL_law_71 : decode cL_law 71 = .ok (.iconst 1, 1) := dk_4 (dk_at dksL_law_3 3 rfl rfl)
theorem dL_law_72 : decode cL_law 72 = .ok (.iadd, 1) := dk_96 (dk_at dksL_law_3 4 rfl rfl)
theorem dL_law_73 : decode cL_law 73 = .ok (.iaload, 1) := dk_46 (dk_at dksL_law_3 5 rfl rfl)
theorem dL_law_74 : decode cL_law 74 = .ok (.aload_n 0, 1) := dk_42 (dk_at dksL_law_3 6 rfl rfl)
theorem dL_law_75 : decode cL_law 75 = .ok (.iload_n 3, 1) := dk_29 (dk_at dksL_law_3 7 rfl rfl)
theorem dL_law_76 : decode cL_law 76 = .ok (.iconst 2, 1) := dk_5 (dk_at dksL_law_3 8 rfl rfl)
theorem dL_law_77 : decode cL_law 77 = .ok (.iadd, 1) := dk_96 (dk_at dksL_law_3 9 rfl rfl)
theorem dL_law_78 : decode cL_law 78 = .ok (.iaload, 1) := dk_46 (dk_at dksL_law_3 10 rfl rfl)
theorem dL_law_79 : decode cL_law 79 = .ok (.aload_n 0, 1) := dk_42 (dk_at dksL_law_3 11 rfl rfl)
theorem dL_law_80 : decode cL_law 80 = .ok (.iload_n 3, 1) := dk_29 (dk_at dksL_law_3 12 rfl rfl)
theorem dL_law_81 : decode cL_law 81 = .ok (.iconst 3, 1) := dk_6 (dk_at dksL_law_3 13 rfl rfl)
theorem dL_law_82 : decode cL_law 82 = .ok (.iadd, 1) := dk_96 (dk_at dksL_law_3 14 rfl rfl)
theorem dL_law_83 : decode cL_law 83 = .ok (.iaload, 1) := dk_46 (dk_at dksL_law_3 15 rfl rfl)
theorem dL_law_84 : decode cL_law 84 = .ok (.aload_n 0, 1) := dk_42 (dk_at dksL_law_3 16 rfl rfl)
theorem dL_law_85 : decode cL_law 85 = .ok (.iload_n 3, 1) := dk_29 (dk_at dksL_law_3 17 rfl rfl)
theorem dL_law_86 : decode cL_law 86 = .ok (.iconst 4, 1) := dk_7 (dk_at dksL_law_3 18 rfl rfl)
theorem dL_law_87 : decode cL_law 87 = .ok (.iadd, 1) := dk_96 (dk_at dksL_law_3 19 rfl rfl)
theorem dL_law_88 : decode cL_law 88 = .ok (.iaload, 1) := dk_46 (dk_at dksL_law_3 20 rfl rfl)
theorem dL_law_89 : decode cL_law 89 = .ok (.invokevirtual 13, 3) := dk_182 0 13 (dk_at dksL_law_3 21 rfl rfl)
theorem dL_law_92 : decode cL_law 92 = .ok (.aload_n 2, 1) := dk_44 (dk_at dksL_law_4 0 rfl rfl)
theorem dL_law_93 : decode cL_law 93 = .ok (.aload_n 0, 1) := dk_42 (dk_at dksL_law_4 1 rfl rfl)
theorem dL_law_94 : decode cL_law 94 = .ok (.iload_n 3, 1) := dk_29 (dk_at dksL_law_4 2 rfl rfl)
theorem dL_law_95 : decode cL_law 95 = .ok (.iconst 1, 1) := dk_4 (dk_at dksL_law_4 3 rfl rfl)
theorem dL_law_96 : decode cL_law 96 = .ok (.iadd, 1) := dk_96 (dk_at dksL_law_4 4 rfl rfl)
theorem dL_law_97 : decode cL_law 97 = .ok (.iaload, 1) := dk_46 (dk_at dksL_law_4 5 rfl rfl)
theorem dL_law_98 : decode cL_law 98 = .ok (.aload_n 0, 1) := dk_42 (dk_at dksL_law_4 6 rfl rfl)
theorem dL_law_99 : decode cL_law 99 = .ok (.iload_n 3, 1) := dk_29 (dk_at dksL_law_4 7 rfl rfl)
theorem dL_law_100 : decode cL_law 100 = .ok (.iconst 2, 1) := dk_5 (dk_at dksL_law_4 8 rfl rfl)
theorem dL_law_101 : decode cL_law 101 = .ok (.iadd, 1) := dk_96 (dk_at dksL_law_4 9 rfl rfl)
theorem dL_law_102 : decode cL_law 102 = .ok (.iaload, 1) := dk_46 (dk_at dksL_law_4 10 rfl rfl)
theorem dL_law_103 : decode cL_law 103 = .ok (.aload_n 0, 1) := dk_42 (dk_at dksL_law_4 11 rfl rfl)
theorem dL_law_104 : decode cL_law 104 = .ok (.iload_n 3, 1) := dk_29 (dk_at dksL_law_4 12 rfl rfl)
theorem dL_law_105 : decode cL_law 105 = .ok (.iconst 3, 1) := dk_6 (dk_at dksL_law_4 13 rfl rfl)
theorem dL_law_106 : decode cL_law 106 = .ok (.iadd, 1) := dk_96 (dk_at dksL_law_4 14 rfl rfl)
theorem dL_law_107 : decode cL_law 107 = .ok (.iaload, 1) := dk_46 (dk_at dksL_law_4 15 rfl rfl)
theorem dL_law_108 : decode cL_law 108 = .ok (.aload_n 0, 1) := dk_42 (dk_at dksL_law_4 16 rfl rfl)
theorem dL_law_109 : decode cL_law 109 = .ok (.iload_n 3, 1) := dk_29 (dk_at dksL_law_4 17 rfl rfl)
theorem dL_law_110 : decode cL_law 110 = .ok (.iconst 4, 1) := dk_7 (dk_at dksL_law_4 18 rfl rfl)
theorem dL_law_111 : decode cL_law 111 = .ok (.iadd, 1) := dk_96 (dk_at dksL_law_4 19 rfl rfl)
theorem dL_law_112 : decode cL_law 112 = .ok (.iaload, 1) := dk_46 (dk_at dksL_law_4 20 rfl rfl)
theorem dL_law_113 : decode cL_law 113 = .ok (.invokevirtual 17, 3) := dk_182 0 17 (dk_at dksL_law_4 21 rfl rfl)
theorem dL_law_116 : decode cL_law 116 = .ok (.if_icmp .eq 103, 3) := dk_159 0 103 (dk_at dksL_law_5 0 rfl rfl)
theorem dL_law_119 : decode cL_law 119 = .ok (.iconst 0, 1) := dk_3 (dk_at dksL_law_5 3 rfl rfl)
theorem dL_law_120 : decode cL_law 120 = .ok (.ireturn, 1) := dk_172 (dk_at dksL_law_5 4 rfl rfl)
theorem dL_law_121 : decode cL_law 121 = .ok (.aload_n 1, 1) := dk_43 (dk_at dksL_law_5 5 rfl rfl)
theorem dL_law_122 : decode cL_law 122 = .ok (.aload_n 0, 1) := dk_42 (dk_at dksL_law_5 6 rfl rfl)
theorem dL_law_123 : decode cL_law 123 = .ok (.iload_n 3, 1) := dk_29 (dk_at dksL_law_5 7 rfl rfl)
theorem dL_law_124 : decode cL_law 124 = .ok (.iconst 1, 1) := dk_4 (dk_at dksL_law_5 8 rfl rfl)
theorem dL_law_125 : decode cL_law 125 = .ok (.iadd, 1) := dk_96 (dk_at dksL_law_5 9 rfl rfl)
theorem dL_law_126 : decode cL_law 126 = .ok (.iaload, 1) := dk_46 (dk_at dksL_law_5 10 rfl rfl)
theorem dL_law_127 : decode cL_law 127 = .ok (.invokevirtual 18, 3) := dk_182 0 18 (dk_at dksL_law_5 11 rfl rfl)
theorem dL_law_130 : decode cL_law 130 = .ok (.aload_n 2, 1) := dk_44 (dk_at dksL_law_5 14 rfl rfl)
theorem dL_law_131 : decode cL_law 131 = .ok (.aload_n 0, 1) := dk_42 (dk_at dksL_law_5 15 rfl rfl)
theorem dL_law_132 : decode cL_law 132 = .ok (.iload_n 3, 1) := dk_29 (dk_at dksL_law_5 16 rfl rfl)
theorem dL_law_133 : decode cL_law 133 = .ok (.iconst 1, 1) := dk_4 (dk_at dksL_law_5 17 rfl rfl)
theorem dL_law_134 : decode cL_law 134 = .ok (.iadd, 1) := dk_96 (dk_at dksL_law_5 18 rfl rfl)
theorem dL_law_135 : decode cL_law 135 = .ok (.iaload, 1) := dk_46 (dk_at dksL_law_5 19 rfl rfl)
theorem dL_law_136 : decode cL_law 136 = .ok (.invokevirtual 22, 3) := dk_182 0 22 (dk_at dksL_law_5 20 rfl rfl)
theorem dL_law_139 : decode cL_law 139 = .ok (.goto 80, 3) := dk_167 0 80 (dk_at dksL_law_6 0 rfl rfl)
theorem dL_law_142 : decode cL_law 142 = .ok (.aload_n 1, 1) := dk_43 (dk_at dksL_law_6 3 rfl rfl)
theorem dL_law_143 : decode cL_law 143 = .ok (.invokevirtual 23, 3) := dk_182 0 23 (dk_at dksL_law_6 4 rfl rfl)
theorem dL_law_146 : decode cL_law 146 = .ok (.aload_n 2, 1) := dk_44 (dk_at dksL_law_6 7 rfl rfl)
theorem dL_law_147 : decode cL_law 147 = .ok (.invokevirtual 27, 3) := dk_182 0 27 (dk_at dksL_law_6 8 rfl rfl)
theorem dL_law_150 : decode cL_law 150 = .ok (.if_icmp .eq 69, 3) := dk_159 0 69 (dk_at dksL_law_6 11 rfl rfl)
theorem dL_law_153 : decode cL_law 153 = .ok (.iconst 0, 1) := dk_3 (dk_at dksL_law_6 14 rfl rfl)
theorem dL_law_154 : decode cL_law 154 = .ok (.ireturn, 1) := dk_172 (dk_at dksL_law_6 15 rfl rfl)
theorem dL_law_155 : decode cL_law 155 = .ok (.aload_n 1, 1) := dk_43 (dk_at dksL_law_6 16 rfl rfl)
theorem dL_law_156 : decode cL_law 156 = .ok (.aload_n 0, 1) := dk_42 (dk_at dksL_law_6 17 rfl rfl)
theorem dL_law_157 : decode cL_law 157 = .ok (.iload_n 3, 1) := dk_29 (dk_at dksL_law_6 18 rfl rfl)
theorem dL_law_158 : decode cL_law 158 = .ok (.iconst 1, 1) := dk_4 (dk_at dksL_law_6 19 rfl rfl)
theorem dL_law_159 : decode cL_law 159 = .ok (.iadd, 1) := dk_96 (dk_at dksL_law_6 20 rfl rfl)
theorem dL_law_160 : decode cL_law 160 = .ok (.iaload, 1) := dk_46 (dk_at dksL_law_6 21 rfl rfl)
theorem dL_law_161 : decode cL_law 161 = .ok (.aload_n 0, 1) := dk_42 (dk_at dksL_law_6 22 rfl rfl)
theorem dL_law_162 : decode cL_law 162 = .ok (.iload_n 3, 1) := dk_29 (dk_at dksL_law_6 23 rfl rfl)
theorem dL_law_163 : decode cL_law 163 = .ok (.iconst 2, 1) := dk_5 (dk_at dksL_law_7 0 rfl rfl)
theorem dL_law_164 : decode cL_law 164 = .ok (.iadd, 1) := dk_96 (dk_at dksL_law_7 1 rfl rfl)
theorem dL_law_165 : decode cL_law 165 = .ok (.iaload, 1) := dk_46 (dk_at dksL_law_7 2 rfl rfl)
theorem dL_law_166 : decode cL_law 166 = .ok (.invokevirtual 28, 3) := dk_182 0 28 (dk_at dksL_law_7 3 rfl rfl)
theorem dL_law_169 : decode cL_law 169 = .ok (.aload_n 2, 1) := dk_44 (dk_at dksL_law_7 6 rfl rfl)
theorem dL_law_170 : decode cL_law 170 = .ok (.aload_n 0, 1) := dk_42 (dk_at dksL_law_7 7 rfl rfl)
theorem dL_law_171 : decode cL_law 171 = .ok (.iload_n 3, 1) := dk_29 (dk_at dksL_law_7 8 rfl rfl)
theorem dL_law_172 : decode cL_law 172 = .ok (.iconst 1, 1) := dk_4 (dk_at dksL_law_7 9 rfl rfl)
theorem dL_law_173 : decode cL_law 173 = .ok (.iadd, 1) := dk_96 (dk_at dksL_law_7 10 rfl rfl)
theorem dL_law_174 : decode cL_law 174 = .ok (.iaload, 1) := dk_46 (dk_at dksL_law_7 11 rfl rfl)
theorem dL_law_175 : decode cL_law 175 = .ok (.aload_n 0, 1) := dk_42 (dk_at dksL_law_7 12 rfl rfl)
theorem dL_law_176 : decode cL_law 176 = .ok (.iload_n 3, 1) := dk_29 (dk_at dksL_law_7 13 rfl rfl)
theorem dL_law_177 : decode cL_law 177 = .ok (.iconst 2, 1) := dk_5 (dk_at dksL_law_7 14 rfl rfl)
theorem dL_law_178 : decode cL_law 178 = .ok (.iadd, 1) := dk_96 (dk_at dksL_law_7 15 rfl rfl)
theorem dL_law_179 : decode cL_law 179 = .ok (.iaload, 1) := dk_46 (dk_at dksL_law_7 16 rfl rfl)
theorem dL_law_180 : decode cL_law 180 = .ok (.invokevirtual 32, 3) := dk_182 0 32 (dk_at dksL_law_7 17 rfl rfl)
theorem dL_law_183 : decode cL_law 183 = .ok (.if_icmp .eq 36, 3) := dk_159 0 36 (dk_at dksL_law_7 20 rfl rfl)
theorem dL_law_186 : decode cL_law 186 = .ok (.iconst 0, 1) := dk_3 (dk_at dksL_law_7 23 rfl rfl)
theorem dL_law_187 : decode cL_law 187 = .ok (.ireturn, 1) := dk_172 (dk_at dksL_law_8 0 rfl rfl)
theorem dL_law_188 : decode cL_law 188 = .ok (.aload_n 1, 1) := dk_43 (dk_at dksL_law_8 1 rfl rfl)
theorem dL_law_189 : decode cL_law 189 = .ok (.aload_n 0, 1) := dk_42 (dk_at dksL_law_8 2 rfl rfl)
theorem dL_law_190 : decode cL_law 190 = .ok (.iload_n 3, 1) := dk_29 (dk_at dksL_law_8 3 rfl rfl)
theorem dL_law_191 : decode cL_law 191 = .ok (.iconst 1, 1) := dk_4 (dk_at dksL_law_8 4 rfl rfl)
theorem dL_law_192 : decode cL_law 192 = .ok (.iadd, 1) := dk_96 (dk_at dksL_law_8 5 rfl rfl)
theorem dL_law_193 : decode cL_law 193 = .ok (.iaload, 1) := dk_46 (dk_at dksL_law_8 6 rfl rfl)
theorem dL_law_194 : decode cL_law 194 = .ok (.aload_n 0, 1) := dk_42 (dk_at dksL_law_8 7 rfl rfl)
theorem dL_law_195 : decode cL_law 195 = .ok (.iload_n 3, 1) := dk_29 (dk_at dksL_law_8 8 rfl rfl)
theorem dL_law_196 : decode cL_law 196 = .ok (.iconst 2, 1) := dk_5 (dk_at dksL_law_8 9 rfl rfl)
theorem dL_law_197 : decode cL_law 197 = .ok (.iadd, 1) := dk_96 (dk_at dksL_law_8 10 rfl rfl)
theorem dL_law_198 : decode cL_law 198 = .ok (.iaload, 1) := dk_46 (dk_at dksL_law_8 11 rfl rfl)
theorem dL_law_199 : decode cL_law 199 = .ok (.invokevirtual 33, 3) := dk_182 0 33 (dk_at dksL_law_8 12 rfl rfl)
theorem dL_law_202 : decode cL_law 202 = .ok (.aload_n 2, 1) := dk_44 (dk_at dksL_law_8 15 rfl rfl)
theorem dL_law_203 : decode cL_law 203 = .ok (.aload_n 0, 1) := dk_42 (dk_at dksL_law_8 16 rfl rfl)
theorem dL_law_204 : decode cL_law 204 = .ok (.iload_n 3, 1) := dk_29 (dk_at dksL_law_8 17 rfl rfl)
theorem dL_law_205 : decode cL_law 205 = .ok (.iconst 1, 1) := dk_4 (dk_at dksL_law_8 18 rfl rfl)
theorem dL_law_206 : decode cL_law 206 = .ok (.iadd, 1) := dk_96 (dk_at dksL_law_8 19 rfl rfl)
theorem dL_law_207 : decode cL_law 207 = .ok (.iaload, 1) := dk_46 (dk_at dksL_law_8 20 rfl rfl)
theorem dL_law_208 : decode cL_law 208 = .ok (.aload_n 0, 1) := dk_42 (dk_at dksL_law_8 21 rfl rfl)
theorem dL_law_209 : decode cL_law 209 = .ok (.iload_n 3, 1) := dk_29 (dk_at dksL_law_8 22 rfl rfl)
theorem dL_law_210 : decode cL_law 210 = .ok (.iconst 2, 1) := dk_5 (dk_at dksL_law_8 23 rfl rfl)
theorem dL_law_211 : decode cL_law 211 = .ok (.iadd, 1) := dk_96 (dk_at dksL_law_9 0 rfl rfl)
theorem dL_law_212 : decode cL_law 212 = .ok (.iaload, 1) := dk_46 (dk_at dksL_law_9 1 rfl rfl)
theorem dL_law_213 : decode cL_law 213 = .ok (.invokevirtual 37, 3) := dk_182 0 37 (dk_at dksL_law_9 2 rfl rfl)
theorem dL_law_216 : decode cL_law 216 = .ok (.goto 3, 3) := dk_167 0 3 (dk_at dksL_law_9 5 rfl rfl)
theorem dL_law_219 : decode cL_law 219 = .ok (.iinc 3 6, 3) := dk_132 3 6 (dk_at dksL_law_9 8 rfl rfl)
theorem dL_law_222 : decode cL_law 222 = .ok (.goto (-204), 3) := dk_167 255 52 (dk_at dksL_law_9 11 rfl rfl)
theorem dL_law_225 : decode cL_law 225 = .ok (.iconst 1, 1) := dk_4 (dk_at dksL_law_9 14 rfl rfl)
theorem dL_law_226 : decode cL_law 226 = .ok (.ireturn, 1) := dk_172 (dk_at dksL_law_9 15 rfl rfl)
end
section
/-! the pure picture of both classes: size n, bytes f; a step of the checker, the checker -/
def wt_w (a b c d : Int32) (k : Nat) : Int32 := if k < 4 then a else if k < 8 then b else if k < 12 then c else d
def wt_by (w : Int32) (k : Nat) : Int32 := (w.toUInt32 >>> ((nI (24 - 8 * (k % 4))).toUInt32 &&& Int32.toUInt32 31)).toInt32.toInt8.toInt32
def wt_pt (f : Nat → Int32) (n : Nat) (a b c d : Int32) : Nat → (Nat → Int32)
  | 0 => f
  | k + 1 => upd (wt_pt f n a b c d k) (n + k) (wt_by (wt_w a b c d k) k)
def wt_wd (f : Nat → Int32) (j : Nat) (w : Int32) : Nat → Int32 := upd (upd (upd (upd f j (wt_by w 0)) (j + 1) (wt_by w 1)) (j + 2) (wt_by w 2)) (j + 3) (wt_by w 3)
theorem wt_wd4 (f : Nat → Int32) (n : Nat) (a b c d : Int32) : wt_wd (wt_wd (wt_wd (wt_wd f n a) (n + 4) b) (n + 8) c) (n + 12) d = wt_pt f n a b c d 16 := rfl
/-- every cell is a byte -/
def wt_B (f : Nat → Int32) : Prop := ∀ j, -128 ≤ (f j).toInt ∧ (f j).toInt ≤ 127
theorem wt_B0 : wt_B (fun _ => 0) := fun _ => (by decide : -128 ≤ (0 : Int32).toInt ∧ (0 : Int32).toInt ≤ 127)
theorem wt_b8 (x : Int32) : -128 ≤ x.toInt8.toInt32.toInt ∧ x.toInt8.toInt32.toInt ≤ 127 := by
  have h1 : x.toInt8.toInt32.toInt = x.toInt8.toInt := by simp
  have h2 := x.toInt8.minValue_le_toInt
  have h3 := x.toInt8.toInt_le
  have h4 : (Int8.minValue).toInt = -128 := rfl
  have h5 : (Int8.maxValue).toInt = 127 := rfl
  omega
theorem wt_Bu {f : Nat → Int32} (h : wt_B f) (j : Nat) (x : Int32) : wt_B (upd f j x.toInt8.toInt32) := by
  intro i
  unfold upd
  split
  · exact wt_b8 x
  · exact h i
theorem wt_Bp {f : Nat → Int32} (h : wt_B f) (n : Nat) (a b c d : Int32) : ∀ k, wt_B (wt_pt f n a b c d k)
  | 0 => h
  | k + 1 => wt_Bu (wt_Bp h n a b c d k) _ _
theorem wt_idem (x : Int32) : x.toInt8.toInt32.toInt8.toInt32 = x.toInt8.toInt32 := by simp
theorem wt_8eq {x y : Int32} (h : x.toInt % 256 = y.toInt % 256) : x.toInt8.toInt32 = y.toInt8.toInt32 := by
  have : x.toInt8 = y.toInt8 := by
    apply Int8.toInt_inj.mp
    rw [Int32.toInt_toInt8, Int32.toInt_toInt8]
    unfold Int.bmod
    have h2 : x.toInt % ((2 ^ 8 : Nat) : Int) = y.toInt % ((2 ^ 8 : Nat) : Int) := h
    rw [h2]
  rw [this]
theorem wt_ti (x : Int32) : x.toInt = if 2 * x.toBitVec.toNat < 2 ^ 32 then (x.toBitVec.toNat : Int) else (x.toBitVec.toNat : Int) - ((2 ^ 32 : Nat) : Int) := BitVec.toInt_eq_toNat_cond x.toBitVec
theorem wt_shb (w s u : Int32) (k : Nat) (hk : k = 24 ∨ k = 16 ∨ k = 8) (hs : (s.toBitVec.smod 32).toNat = k) (hu : ((u.toUInt32 &&& Int32.toUInt32 31).toBitVec % 32).toNat = k) : (w >>> s).toInt8.toInt32 = (w.toUInt32 >>> (u.toUInt32 &&& Int32.toUInt32 31)).toInt32.toInt8.toInt32 := by
  apply wt_8eq
  have h1 := pk_shr w s k hs
  have h2 := pk_ushr w u k hu
  have h3 := wt_ti w
  have h4 := wt_ti (w.toUInt32 >>> (u.toUInt32 &&& Int32.toUInt32 31)).toInt32
  rw [h2] at h4
  rw [h1, h4, Int.shiftRight_eq_div_pow, h3]
  have h5 := w.toBitVec.isLt
  rcases hk with rfl | rfl | rfl <;> (simp only [Nat.reducePow]; split <;> split <;> omega)
theorem wt_by0 (w : Int32) : (w >>> (nI 24 &&& 31)).toInt8.toInt32 = wt_by w 0 := wt_shb w _ (nI 24) 24 (Or.inl rfl) (by decide) (by decide)
theorem wt_by1 (w : Int32) : (w >>> (nI 16 &&& 31)).toInt8.toInt32 = wt_by w 1 := wt_shb w _ (nI 16) 16 (Or.inr (Or.inl rfl)) (by decide) (by decide)
theorem wt_by2 (w : Int32) : (w >>> (nI 8 &&& 31)).toInt8.toInt32 = wt_by w 2 := wt_shb w _ (nI 8) 8 (Or.inr (Or.inr rfl)) (by decide) (by decide)
theorem wt_by3 (w : Int32) : w.toInt8.toInt32 = wt_by w 3 := by
  unfold wt_by
  apply wt_8eq
  have h2 := pk_ushr w (nI 0) 0 (by decide)
  have h3 := wt_ti w
  have h4 := wt_ti (w.toUInt32 >>> ((nI 0).toUInt32 &&& Int32.toUInt32 31)).toInt32
  rw [h2] at h4
  have h6 : (24 - 8 * (3 % 4)) = 0 := by decide
  rw [h6, h4, h3]
  simp
/-- the remainder that both classes take -/
def wt_rm (x : Int32) (n : Nat) : Nat := (x.toBitVec.toNat % 2 ^ 31) % n
theorem wt_rm_lt (x : Int32) {n : Nat} (h : 0 < n) : wt_rm x n < n := Nat.mod_lt _ h
theorem wt_rm_eq (x : Int32) {n : Nat} (h0 : 0 < n) (h : n < 2 ^ 31) : (x &&& 2147483647) - (x &&& 2147483647) / nI n * nI n = nI (wt_rm x n) := by
  rw [pk_and x 31 (by decide)]
  exact pk_rem (Nat.mod_lt _ (by decide)) h0 h
/-- the byte at j, unsigned -/
def wt_u (f : Nat → Int32) (j : Nat) : Nat := (f j).toBitVec.toNat % 2 ^ 8
theorem wt_u_lt (f : Nat → Int32) (j : Nat) : wt_u f j < 256 := Nat.mod_lt _ (by decide)
theorem wt_and (f : Nat → Int32) (j : Nat) : f j &&& 255 = nI (wt_u f j) := pk_and (f j) 8 (by decide)
theorem wt_t {f : Nat → Int32} (h : wt_B f) (j : Nat) : (wt_u f j < 128 ∧ (f j).toInt = wt_u f j) ∨ (128 ≤ wt_u f j ∧ wt_u f j < 256 ∧ (f j).toInt = (wt_u f j : Int) - 256) := by
  have h1 := wt_ti (f j)
  have h2 := h j
  have h3 := (f j).toBitVec.isLt
  unfold wt_u
  simp only [Nat.reducePow] at *
  split at h1 <;> omega
def wt_c (f : Nat → Int32) (j : Nat) : Prop := 128 ≤ wt_u f j ∧ wt_u f j < 192
/-- the length of the form that begins at i, 0: it is none, or runs past e -/
def wt_st (f : Nat → Int32) (i e : Nat) : Nat :=
  if wt_u f i < 128 then 1
  else if wt_u f i < 194 then 0
  else if wt_u f i < 224 then (if i + 1 < e ∧ 128 ≤ wt_u f (i + 1) ∧ wt_u f (i + 1) < 192 then 2 else 0)
  else if wt_u f i < 240 then (if i + 2 < e ∧ 128 ≤ wt_u f (i + 1) ∧ wt_u f (i + 1) < 192 ∧ 128 ≤ wt_u f (i + 2) ∧ wt_u f (i + 2) < 192 ∧ (wt_u f i = 224 → 160 ≤ wt_u f (i + 1)) ∧ (wt_u f i = 237 → wt_u f (i + 1) < 160) then 3 else 0)
  else (if i + 3 < e ∧ 128 ≤ wt_u f (i + 1) ∧ wt_u f (i + 1) < 192 ∧ 128 ≤ wt_u f (i + 2) ∧ wt_u f (i + 2) < 192 ∧ 128 ≤ wt_u f (i + 3) ∧ wt_u f (i + 3) < 192 ∧ wt_u f i < 245 ∧ (wt_u f i = 240 → 144 ≤ wt_u f (i + 1)) ∧ (wt_u f i = 244 → wt_u f (i + 1) < 144) then 4 else 0)
/-- well formed from i to e -/
def wt_ok (f : Nat → Int32) (e : Nat) : Nat → Nat → Int32
  | 0, _ => 1
  | n + 1, i => if e ≤ i then 1 else if wt_st f i e = 0 then 0 else wt_ok f e n (i + wt_st f i e)
theorem wt_ok_end {f : Nat → Int32} {e n i : Nat} (h : e ≤ i) : wt_ok f e n i = 1 := by
  cases n with
  | zero => rfl
  | succ n => simp only [wt_ok, if_pos h]
theorem wt_ok_no {f : Nat → Int32} {e n i : Nat} (h : i < e) (h0 : wt_st f i e = 0) : wt_ok f e (n + 1) i = 0 := by
  simp only [wt_ok, if_neg (Nat.not_le.mpr h), if_pos h0]
theorem wt_ok_go {f : Nat → Int32} {e n i k : Nat} (h : i < e) (h0 : wt_st f i e = k + 1) : wt_ok f e (n + 1) i = wt_ok f e n (i + (k + 1)) := by
  simp only [wt_ok, if_neg (Nat.not_le.mpr h), h0, if_neg (Nat.succ_ne_zero k)]
theorem wt_trick : ∀ a, a < 16 → ∀ b, b < 64 → ((((Int32.ofInt (((240 + a : Nat) : Int) - 256)) <<< (nI 28 &&& 31)) + (Int32.ofInt (((128 + b : Nat) : Int) - 256) - (-112))) >>> (nI 30 &&& 31) = 0 ↔ (a < 5 ∧ (a = 0 → 16 ≤ b) ∧ (a = 4 → b < 16))) := by decide +kernel
theorem wt_tr {f : Nat → Int32} (h : wt_B f) {i j : Nat} (h1 : 240 ≤ wt_u f i) (h2 : 128 ≤ wt_u f j) (h3 : wt_u f j < 192) : (((f i) <<< (nI 28 &&& 31)) + (f j - (-112))) >>> (nI 30 &&& 31) = 0 ↔ (wt_u f i < 245 ∧ (wt_u f i = 240 → 144 ≤ wt_u f j) ∧ (wt_u f i = 244 → wt_u f j < 144)) := by
  have t1 := wt_t h i
  have t2 := wt_t h j
  have e1 : f i = Int32.ofInt (((240 + (wt_u f i - 240) : Nat) : Int) - 256) := by
    rw [show ((240 + (wt_u f i - 240) : Nat) : Int) - 256 = (f i).toInt by omega, Int32.ofInt_toInt]
  have e2 : f j = Int32.ofInt (((128 + (wt_u f j - 128) : Nat) : Int) - 256) := by
    rw [show ((128 + (wt_u f j - 128) : Nat) : Int) - 256 = (f j).toInt by omega, Int32.ofInt_toInt]
  have g := wt_trick (wt_u f i - 240) (by omega) (wt_u f j - 128) (by omega)
  rw [← e1, ← e2] at g
  rw [g]
  omega
theorem wt_lt {x K : Int32} {k : Int} (h : x < K) (hk : K.toInt = k) : x.toInt < k := hk ▸ Int32.lt_iff_toInt_lt.mp h
theorem wt_nlt {x K : Int32} {k : Int} (h : ¬ x < K) (hk : K.toInt = k) : k ≤ x.toInt := Int.not_lt.mp (fun q => h (Int32.lt_iff_toInt_lt.mpr (hk ▸ q)))
theorem wt_le {x K : Int32} {k : Int} (h : x ≤ K) (hk : K.toInt = k) : x.toInt ≤ k := hk ▸ Int32.le_iff_toInt_le.mp h
theorem wt_nle {x K : Int32} {k : Int} (h : ¬ x ≤ K) (hk : K.toInt = k) : k < x.toInt := Int.not_le.mp (fun q => h (Int32.le_iff_toInt_le.mpr (hk ▸ q)))
theorem wt_gt {x K : Int32} {k : Int} (h : K < x) (hk : K.toInt = k) : k < x.toInt := hk ▸ Int32.lt_iff_toInt_lt.mp h
theorem wt_ngt {x K : Int32} {k : Int} (h : ¬ K < x) (hk : K.toInt = k) : x.toInt ≤ k := Int.not_lt.mp (fun q => h (Int32.lt_iff_toInt_lt.mpr (hk ▸ q)))
theorem wt_ge {x K : Int32} {k : Int} (h : K ≤ x) (hk : K.toInt = k) : k ≤ x.toInt := hk ▸ Int32.le_iff_toInt_le.mp h
theorem wt_nge {x K : Int32} {k : Int} (h : ¬ K ≤ x) (hk : K.toInt = k) : x.toInt < k := Int.not_le.mp (fun q => h (Int32.le_iff_toInt_le.mpr (hk ▸ q)))
theorem wt_eq {x K : Int32} {k : Int} (h : x = K) (hk : K.toInt = k) : x.toInt = k := hk ▸ congrArg Int32.toInt h
theorem wt_ne {x K : Int32} {k : Int} (h : ¬ x = K) (hk : K.toInt = k) : x.toInt ≠ k := fun q => h (Int32.toInt_inj.mp (hk ▸ q))
theorem wt_or (v c : Nat) (h : v < 2 ^ 24) : (nI v <<< (nI 6 &&& 31)) ||| (nI c &&& 63) = nI (v * 64 + c % 64) := by
  rw [pk_shlN (nI 6 &&& 31) 6 (by decide) (by omega), pk_and (nI c) 6 (by decide)]
  apply Int32.toBitVec_inj.mp
  apply BitVec.eq_of_toNat_eq
  have h3 : (nI c).toBitVec.toNat % 2 ^ 6 = c % 64 := by
    have : (nI c).toBitVec.toNat = c % 2 ^ 32 := by simp [nI]
    rw [this]; omega
  rw [h3, Int32.toBitVec_or, BitVec.toNat_or, pk_tn (by omega), pk_tn (by omega), pk_tn (by omega)]
  have := Nat.two_pow_add_eq_or_of_lt (i := 6) (b := c % 64) (by omega) v
  rw [Nat.mul_comm v (2 ^ 6)]
  omega
end
section
/-! rows of this claim over the kit's: a number's other name; a byte read and written at a Nat place; the world of one object; the classes -/
section WTR
variable {p : Program} {l : Launch} {e : Env} {R : Room} {s : State} {m : MethodId} {args : Array Value} {below : List Frame} {meth : Method} {c : Code} {H : Heap} {locs : List Loc} {cells slots : Nat} {Q : State → Prop}
variable {cc : ByteArray} {pc : Nat} {ls : Array Slot} {rest : List Value} {D : va_G} {cl : List vw_C} {A : Nat → Prop} {a : Nat} {tys : List (ClassId × FieldType)} {ws : va_W} {H0 : Heap}
theorem wt_to {x : Int32} (y : Int32) (h : x = y) (k : W p l e R s m args below meth c H locs cells slots Q (F0 m pc ls (.int y :: rest))) : W p l e R s m args below meth c H locs cells slots Q (F0 m pc ls (.int x :: rest)) := h ▸ k
theorem wt_bald (hexec : p.tables.exec = Jvm.exec) (hb : c.code = cc) (hK : va_K D cl tys s) (hP : va_P D cl ws H) (q0 t0 : Nat) {cA : ClassId} {f : Nat → Int32} (ha : ws[q0]? = some (a, .inl (cA, 4096, .inl f))) (ht : tys[t0]? = some (cA, .byte)) {j : Nat} (hj : j < 4096) (hdg : decode cc pc = .ok (.baload, 1))
    (kk : W p l e R s m args below meth c H locs cells slots Q (F0 m (pc + 1) ls (.int (f j) :: rest))) : W p l e R s m args below meth c H locs cells slots Q (F0 m pc ls (.int (nI j) :: .ref a :: rest)) := by
  have hj2 : j < 2 ^ 31 := Nat.lt_trans hj (Nat.lt_of_lt_of_le (Nat.le_of_ble_eq_true rfl : 4096 < 2 ^ 31) (Nat.le_refl _))
  refine va_bald hexec hb hK hP q0 t0 ha ht (vp_in_nI hj (Nat.le_of_ble_eq_true rfl)) hdg ?_
  rw [nI_clamp hj2]
  exact kk
theorem wt_bast (hexec : p.tables.exec = Jvm.exec) (hb : c.code = cc) (hK : va_K D cl tys s) (hP : va_P D cl ws H) (hD : va_D A ws) (hS : va_S A H0 H locs) (q0 t0 : Nat) {cA : ClassId} {f : Nat → Int32} (ha : ws[q0]? = some (a, .inl (cA, 4096, .inl f))) (ht : tys[t0]? = some (cA, .byte)) {j : Nat} {x y : Int32} (hxy : x.toInt8.toInt32 = y) (hj : j < 4096) (hdg : decode cc pc = .ok (.bastore, 1))
    (kk : ∀ (H1 : Heap) (locs1 : List Loc), va_P D cl (ws.set q0 (a, .inl (cA, 4096, .inl (upd f j y)))) H1 → va_D A (ws.set q0 (a, .inl (cA, 4096, .inl (upd f j y)))) → va_S A H0 H1 locs1 → W p l e R s m args below meth c H1 locs1 cells slots Q (F0 m (pc + 1) ls rest)) : W p l e R s m args below meth c H locs cells slots Q (F0 m pc ls (.int y :: .int (nI j) :: .ref a :: rest)) := by
  have hj2 : j < 2 ^ 31 := Nat.lt_trans hj (Nat.lt_of_lt_of_le (Nat.le_of_ble_eq_true rfl : 4096 < 2 ^ 31) (Nat.le_refl _))
  subst hxy
  refine va_bast hexec hb hK hP hD hS q0 t0 ha ht (vp_in_nI hj (Nat.le_of_ble_eq_true rfl)) hdg (fun H1 locs1 h1 h2 h3 => ?_)
  rw [nI_clamp hj2, vp_nar_byte, wt_idem] at h1 h2
  exact kk H1 locs1 h1 h2 h3
end WTR
abbrev vwCl : List vw_C := [(RX0, TX0, 2), (RX1, TX1, 2)]
/-- the cells of one object: its class, its address, its array's, the array's class, the size, the bytes -/
abbrev wt_o (ci h0 qa : Nat) (dB : ClassId) (n : Nat) (f : Nat → Int32) : va_W := [(h0, .inr (ci, [.ref qa, .int (nI n)])), (qa, .inl (dB, 4096, .inl f))]
abbrev wt_a (qa : Nat) (dB : ClassId) (f : Nat → Int32) : va_W := [(qa, .inl (dB, 4096, .inl f))]
/-- the world behind a method of the object -/
abbrev Bo (ci : Nat) (dC : Nat → ClassId) (dI : Nat → Nat → Nat) (A : Nat → Prop) (h0 qa : Nat) (dB : ClassId) (u : Nat × (Nat → Int32)) (t : State) : Prop := va_P (dC, dI) vwCl (wt_o ci h0 qa dB u.1 u.2) t.heap ∧ va_K (dC, dI) vwCl [(dB, .byte)] t ∧ va_D A (wt_o ci h0 qa dB u.1 u.2)
/-- the world behind a method of the array alone -/
abbrev Ba (dC : Nat → ClassId) (dI : Nat → Nat → Nat) (A : Nat → Prop) (qa : Nat) (dB : ClassId) (f : Nat → Int32) (t : State) : Prop := va_P (dC, dI) vwCl (wt_a qa dB f) t.heap ∧ va_K (dC, dI) vwCl [(dB, .byte)] t ∧ va_D A (wt_a qa dB f)
/-- what sign leaves -/
def wt_sg (n : Nat) (f : Nat → Int32) (x y : Int32) : Nat → Int32 := if 0 < n then upd f (wt_rm x n) y.toInt8.toInt32 else f
/-- what put answers and leaves -/
def wt_pr (n : Nat) : Int32 := if n ≤ 4080 then 1 else 0
def wt_pn (n : Nat) : Nat := if n ≤ 4080 then n + 16 else n
def wt_pf (n : Nat) (f : Nat → Int32) (a b c d : Int32) : Nat → Int32 := if n ≤ 4080 then wt_pt f n a b c d 16 else f
/-- what fair answers -/
def wt_fa (n : Nat) (f : Nat → Int32) (x y : Int32) : Int32 := wt_ok f (wt_rm x (n + 1) + wt_rm y (n - wt_rm x (n + 1) + 1)) (wt_rm y (n - wt_rm x (n + 1) + 1)) (wt_rm x (n + 1))
theorem wt_ok01 (f : Nat → Int32) (e : Nat) : ∀ n i, wt_ok f e n i = 0 ∨ wt_ok f e n i = 1
  | 0, _ => Or.inr rfl
  | n + 1, i => by
    unfold wt_ok
    split
    · exact Or.inr rfl
    · split
      · exact Or.inl rfl
      · exact wt_ok01 f e n _
theorem wt_okz (f : Nat → Int32) (e n i : Nat) : narrow .boolean (.int (wt_ok f e n i)) = .int (wt_ok f e n i) := by
  rcases wt_ok01 f e n i with h | h <;> rw [h] <;> rfl
end
section
/-! X0: size, from, count, trim, sign -/
set_option maxHeartbeats 4000000 in
set_option maxRecDepth 100000 in
/-- X0.size -/
theorem cX0_size_met (l : Launch) (dC : Nat → ClassId) (dI : Nat → Nat → Nat) (h0 qa : Nat) (dB : ClassId) (sz n : Nat) (f : Nat → Int32)  : Met l yX0_size (ws_ yX0_size cX0_size 1 (some .int)) ({ frames := 0, cells := 0, slots := 0, locals := 0 }) (va_Pc [.ref h0] (fun U => U.heap.size = sz ∧ va_P (dC, dI) vwCl (wt_o 0 h0 qa dB n f) U.heap ∧ va_K (dC, dI) vwCl [(dB, .byte)] U ∧ va_D (fun _ => True) (wt_o 0 h0 qa dB n f))) (va_Qi (fun (r : Int32) (u : Nat × (Nat → Int32)) => r = nI n ∧ u = (n, f)) (Bo 0 dC dI (va_A (wt_o 0 h0 qa dB n f) sz) h0 qa dB) (va_A (wt_o 0 h0 qa dB n f) sz)) 0 0 (va_A (wt_o 0 h0 qa dB n f) sz) := by
  refine Met.ofW (cc := cX0_size) (maxL := 1) (ret := (some .int)) (by decide) rfl ?_
  intro p e s m args below meth c s₁ B hml hv
  obtain ⟨rfl, hsz, hP, hK, hD0⟩ := hv
  have hx := B.exec
  have hb := B.bytes
  have hr := B.returns
  have hts := atoms_spec (ws := ws_ yX0_size cX0_size 1 (some .int)) B.pre
  have hts : ∀ w ∈ lw_all, w.before _ s = true := fun w h => hts w (List.mem_cons_of_mem _ h)
  have hown : s.vm.findClass RX0 = some m.cls := findClass_of_methodNamed B.named
  have hlocks := B.notSynchronized
  subst hsz
  have hD := hD0.self (sz := s.heap.size)
  generalize hAe : va_A (wt_o 0 h0 qa dB n f) s.heap.size = A at hD ⊢
  have hA : ∀ q : Nat, s.heap.size ≤ q → A q := fun q h => by rw [← hAe]; exact Or.inr h
  have hS : va_S A s.heap s.heap [] := va_S.rf
  have hP : va_P (dC, dI) vwCl (wt_o 0 h0 qa dB n f) s.heap := hP
  have hl := lv_entry ([.ref h0]) (n := 1) (Nat.le_of_ble_eq_true rfl)
  rw [lg_entry_eq]
  generalize (lg_sl ([.ref h0]) ++ List.replicate (1 - (lg_sl ([.ref h0])).length) Slot.unset).toArray = ls at hl ⊢
  have hl : lv_has ls 1 [(0, .ref h0)] := hl
  refine lv_aload_n hx hb dX0_size_0 rfl (lv_at hl 0 rfl) ?_
  refine va_get (D := (dC, dI)) (ci := 0) (v := .int (nI n)) (C := RX0) (T := TX0) (N := 2) hx hb hts in_X0 hown hK hP 0 rfl rfl 1 (by decide) (hts _ q24) (fun _ h9 => h9) rfl dX0_size_1 ?_
  exact W.iret (v := nI n) hx hb hr (fun t ht hW => ⟨⟨nI n, (n, f), rfl, ⟨rfl, rfl⟩, by rw [ht]; exact hP, va_K.moved hW.alike hK, hD⟩, hS.F ht⟩) hS.2.2 dX0_size_4
set_option maxHeartbeats 4000000 in
set_option maxRecDepth 100000 in
/-- X0.from -/
theorem cX0_from_met (l : Launch) (dC : Nat → ClassId) (dI : Nat → Nat → Nat) (h0 qa : Nat) (dB : ClassId) (sz n : Nat) (f : Nat → Int32) (hn : n ≤ 4096) (p0 : Int32) : Met l yX0_from (ws_ yX0_from cX0_from 2 (some .int)) ({ frames := 0, cells := 0, slots := 0, locals := 0 }) (va_Pc [.ref h0, .int p0] (fun U => U.heap.size = sz ∧ va_P (dC, dI) vwCl (wt_o 0 h0 qa dB n f) U.heap ∧ va_K (dC, dI) vwCl [(dB, .byte)] U ∧ va_D (fun _ => True) (wt_o 0 h0 qa dB n f))) (va_Qi (fun (r : Int32) (u : Nat × (Nat → Int32)) => r = nI (wt_rm p0 (n + 1)) ∧ u = (n, f)) (Bo 0 dC dI (va_A (wt_o 0 h0 qa dB n f) sz) h0 qa dB) (va_A (wt_o 0 h0 qa dB n f) sz)) 0 0 (va_A (wt_o 0 h0 qa dB n f) sz) := by
  refine Met.ofW (cc := cX0_from) (maxL := 2) (ret := (some .int)) (by decide) rfl ?_
  intro p e s m args below meth c s₁ B hml hv
  obtain ⟨rfl, hsz, hP, hK, hD0⟩ := hv
  have hx := B.exec
  have hb := B.bytes
  have hr := B.returns
  have hts := atoms_spec (ws := ws_ yX0_from cX0_from 2 (some .int)) B.pre
  have hts : ∀ w ∈ lw_all, w.before _ s = true := fun w h => hts w (List.mem_cons_of_mem _ h)
  have hown : s.vm.findClass RX0 = some m.cls := findClass_of_methodNamed B.named
  have hlocks := B.notSynchronized
  subst hsz
  have hD := hD0.self (sz := s.heap.size)
  generalize hAe : va_A (wt_o 0 h0 qa dB n f) s.heap.size = A at hD ⊢
  have hA : ∀ q : Nat, s.heap.size ≤ q → A q := fun q h => by rw [← hAe]; exact Or.inr h
  have hS : va_S A s.heap s.heap [] := va_S.rf
  have hP : va_P (dC, dI) vwCl (wt_o 0 h0 qa dB n f) s.heap := hP
  have hl := lv_entry ([.ref h0, .int p0]) (n := 2) (Nat.le_of_ble_eq_true rfl)
  rw [lg_entry_eq]
  generalize (lg_sl ([.ref h0, .int p0]) ++ List.replicate (2 - (lg_sl ([.ref h0, .int p0])).length) Slot.unset).toArray = ls at hl ⊢
  have hl : lv_has ls 2 [(0, .ref h0), (1, .int p0)] := hl
  refine lv_iload_n hx hb dX0_from_0 rfl (lv_at hl 1 rfl) ?_
  refine lv_ldc (own := RX0) hx hb hown (hts _ q47) dX0_from_1 ?_
  refine lv_iand hx hb dX0_from_3 ?_
  refine lv_aload_n hx hb dX0_from_4 rfl (lv_at hl 0 rfl) ?_
  refine va_get (D := (dC, dI)) (ci := 0) (v := .int (nI n)) (C := RX0) (T := TX0) (N := 2) hx hb hts in_X0 hown hK hP 0 rfl rfl 1 (by decide) (hts _ q24) (fun _ h9 => h9) rfl dX0_from_5 ?_
  refine lv_iconst (v := nI 1) hx hb dX0_from_8 (by decide +kernel) ?_
  refine lv_iadd hx hb dX0_from_9 ?_
  refine wt_to (nI (n + 1)) (nI_add n 1) ?_
  refine lv_irem hx hb dX0_from_10 (nI_ne0 (by omega) (by omega)) ?_
  refine wt_to (nI (wt_rm p0 (n + 1))) (wt_rm_eq p0 (by omega) (by omega)) ?_
  exact W.iret (v := nI (wt_rm p0 (n + 1))) hx hb hr (fun t ht hW => ⟨⟨nI (wt_rm p0 (n + 1)), (n, f), rfl, ⟨rfl, rfl⟩, by rw [ht]; exact hP, va_K.moved hW.alike hK, hD⟩, hS.F ht⟩) hS.2.2 dX0_from_11
set_option maxHeartbeats 4000000 in
set_option maxRecDepth 100000 in
/-- X0.count -/
theorem cX0_count_met (l : Launch) (dC : Nat → ClassId) (dI : Nat → Nat → Nat) (h0 qa : Nat) (dB : ClassId) (sz n : Nat) (f : Nat → Int32) (hn : n ≤ 4096) (i : Nat) (hi : i ≤ n) (p1 : Int32) : Met l yX0_count (ws_ yX0_count cX0_count 3 (some .int)) ({ frames := 0, cells := 0, slots := 0, locals := 0 }) (va_Pc [.ref h0, .int (nI i), .int p1] (fun U => U.heap.size = sz ∧ va_P (dC, dI) vwCl (wt_o 0 h0 qa dB n f) U.heap ∧ va_K (dC, dI) vwCl [(dB, .byte)] U ∧ va_D (fun _ => True) (wt_o 0 h0 qa dB n f))) (va_Qi (fun (r : Int32) (u : Nat × (Nat → Int32)) => r = nI (wt_rm p1 (n - i + 1)) ∧ u = (n, f)) (Bo 0 dC dI (va_A (wt_o 0 h0 qa dB n f) sz) h0 qa dB) (va_A (wt_o 0 h0 qa dB n f) sz)) 0 0 (va_A (wt_o 0 h0 qa dB n f) sz) := by
  refine Met.ofW (cc := cX0_count) (maxL := 3) (ret := (some .int)) (by decide) rfl ?_
  intro p e s m args below meth c s₁ B hml hv
  obtain ⟨rfl, hsz, hP, hK, hD0⟩ := hv
  have hx := B.exec
  have hb := B.bytes
  have hr := B.returns
  have hts := atoms_spec (ws := ws_ yX0_count cX0_count 3 (some .int)) B.pre
  have hts : ∀ w ∈ lw_all, w.before _ s = true := fun w h => hts w (List.mem_cons_of_mem _ h)
  have hown : s.vm.findClass RX0 = some m.cls := findClass_of_methodNamed B.named
  have hlocks := B.notSynchronized
  subst hsz
  have hD := hD0.self (sz := s.heap.size)
  generalize hAe : va_A (wt_o 0 h0 qa dB n f) s.heap.size = A at hD ⊢
  have hA : ∀ q : Nat, s.heap.size ≤ q → A q := fun q h => by rw [← hAe]; exact Or.inr h
  have hS : va_S A s.heap s.heap [] := va_S.rf
  have hP : va_P (dC, dI) vwCl (wt_o 0 h0 qa dB n f) s.heap := hP
  have hl := lv_entry ([.ref h0, .int (nI i), .int p1]) (n := 3) (Nat.le_of_ble_eq_true rfl)
  rw [lg_entry_eq]
  generalize (lg_sl ([.ref h0, .int (nI i), .int p1]) ++ List.replicate (3 - (lg_sl ([.ref h0, .int (nI i), .int p1])).length) Slot.unset).toArray = ls at hl ⊢
  have hl : lv_has ls 3 [(0, .ref h0), (1, .int (nI i)), (2, .int p1)] := hl
  refine lv_iload_n hx hb dX0_count_0 rfl (lv_at hl 2 rfl) ?_
  refine lv_ldc (own := RX0) hx hb hown (hts _ q47) dX0_count_1 ?_
  refine lv_iand hx hb dX0_count_3 ?_
  refine lv_aload_n hx hb dX0_count_4 rfl (lv_at hl 0 rfl) ?_
  refine va_get (D := (dC, dI)) (ci := 0) (v := .int (nI n)) (C := RX0) (T := TX0) (N := 2) hx hb hts in_X0 hown hK hP 0 rfl rfl 1 (by decide) (hts _ q24) (fun _ h9 => h9) rfl dX0_count_5 ?_
  refine lv_iload_n hx hb dX0_count_8 rfl (lv_at hl 1 rfl) ?_
  refine lv_isub hx hb dX0_count_9 ?_
  refine wt_to (nI (n - i)) (pk_sub hi) ?_
  refine lv_iconst (v := nI 1) hx hb dX0_count_10 (by decide +kernel) ?_
  refine lv_iadd hx hb dX0_count_11 ?_
  refine wt_to (nI (n - i + 1)) (nI_add (n - i) 1) ?_
  refine lv_irem hx hb dX0_count_12 (nI_ne0 (by omega) (by omega)) ?_
  refine wt_to (nI (wt_rm p1 (n - i + 1))) (wt_rm_eq p1 (by omega) (by omega)) ?_
  exact W.iret (v := nI (wt_rm p1 (n - i + 1))) hx hb hr (fun t ht hW => ⟨⟨nI (wt_rm p1 (n - i + 1)), (n, f), rfl, ⟨rfl, rfl⟩, by rw [ht]; exact hP, va_K.moved hW.alike hK, hD⟩, hS.F ht⟩) hS.2.2 dX0_count_13
set_option maxHeartbeats 4000000 in
set_option maxRecDepth 100000 in
/-- X0.trim -/
theorem cX0_trim_met (l : Launch) (dC : Nat → ClassId) (dI : Nat → Nat → Nat) (h0 qa : Nat) (dB : ClassId) (sz n : Nat) (f : Nat → Int32) (hn : n ≤ 4096) (p0 : Int32) : Met l yX0_trim (ws_ yX0_trim cX0_trim 2 none) ({ frames := 1, cells := 0, slots := 0, locals := 21 }) (va_Pc [.ref h0, .int p0] (fun U => U.heap.size = sz ∧ va_P (dC, dI) vwCl (wt_o 0 h0 qa dB n f) U.heap ∧ va_K (dC, dI) vwCl [(dB, .byte)] U ∧ va_D (fun _ => True) (wt_o 0 h0 qa dB n f))) (va_Qv (fun (u : Nat × (Nat → Int32)) => u = (wt_rm p0 (n + 1), f)) (Bo 0 dC dI (va_A (wt_o 0 h0 qa dB n f) sz) h0 qa dB) (va_A (wt_o 0 h0 qa dB n f) sz)) 0 0 (va_A (wt_o 0 h0 qa dB n f) sz) := by
  refine Met.ofW (cc := cX0_trim) (maxL := 2) (ret := none) (by decide) rfl ?_
  intro p e s m args below meth c s₁ B hml hv
  obtain ⟨rfl, hsz, hP, hK, hD0⟩ := hv
  have hx := B.exec
  have hb := B.bytes
  have hr := B.returns
  have hts := atoms_spec (ws := ws_ yX0_trim cX0_trim 2 none) B.pre
  have hts : ∀ w ∈ lw_all, w.before _ s = true := fun w h => hts w (List.mem_cons_of_mem _ h)
  have hown : s.vm.findClass RX0 = some m.cls := findClass_of_methodNamed B.named
  have hlocks := B.notSynchronized
  subst hsz
  have hD := hD0.self (sz := s.heap.size)
  generalize hAe : va_A (wt_o 0 h0 qa dB n f) s.heap.size = A at hD ⊢
  have hA : ∀ q : Nat, s.heap.size ≤ q → A q := fun q h => by rw [← hAe]; exact Or.inr h
  have hS : va_S A s.heap s.heap [] := va_S.rf
  have hP : va_P (dC, dI) vwCl (wt_o 0 h0 qa dB n f) s.heap := hP
  have hl := lv_entry ([.ref h0, .int p0]) (n := 2) (Nat.le_of_ble_eq_true rfl)
  rw [lg_entry_eq]
  generalize (lg_sl ([.ref h0, .int p0]) ++ List.replicate (2 - (lg_sl ([.ref h0, .int p0])).length) Slot.unset).toArray = ls at hl ⊢
  have hl : lv_has ls 2 [(0, .ref h0), (1, .int p0)] := hl
  refine lv_aload_n hx hb dX0_trim_0 rfl (lv_at hl 0 rfl) ?_
  refine lv_aload_n hx hb dX0_trim_1 rfl (lv_at hl 0 rfl) ?_
  refine lv_iload_n hx hb dX0_trim_2 rfl (lv_at hl 1 rfl) ?_
  have hPc := hP.sub (ws' := (wt_o 0 h0 qa dB n f)) [0, 1] rfl
  have hDc := hD.sub (ws' := (wt_o 0 h0 qa dB n f)) [0, 1] (by decide) rfl
  have hFc := va_free (wc := (wt_o 0 h0 qa dB n f)) hD hS hA [0, 1] rfl
  refine va_calli (va_runV (As := [.int p0]) (rest := [.ref h0]) ⟨hx, hb, hml, hown, hts⟩ (cX0_from_met l dC dI h0 qa dB s.heap.size n f hn p0) (cwV 1 hts (lw_V q43 q45 qs1 q7 q46) rfl rfl rfl (by decide +kernel) ⟨Nat.le_of_ble_eq_true rfl, Nat.le_of_ble_eq_true rfl⟩) ⟨fun a U g mk q => by obtain ⟨q0, q1, qP, qK, qD⟩ := q; exact ⟨q0, q1, qP, va_K.moved (u := U) (U := U.calling g mk a) (Vm.Alike.refl U.vm) qK, qD⟩, va_recv hK hPc (ci := 0) (q0 := 0) rfl rfl, fun U hU hW => ⟨rfl, by rw [hU], by rw [hU]; exact hPc, va_K.moved hW.alike (hK.sub [0] rfl), hDc.weaken (fun _ _ _ _ => trivial)⟩⟩ rfl rfl hl.1 rfl (lv_room (Nat.le_of_ble_eq_true rfl)) dX0_trim_3 ⟨Nat.le_of_ble_eq_true rfl, Nat.le_of_ble_eq_true rfl⟩) hS (fun q _ h => hFc q h) hFc (fun r_3 u_3 t H1 locs ht hvm hw hB hz1 hk1 hS => ?_)
  obtain ⟨hP1, -, hD1⟩ := hB
  rw [ht] at hP1
  obtain ⟨rfl, hw2⟩ := hw
  obtain rfl := hw2.symm
  obtain ⟨hP, hD⟩ := va_join (wr := []) (w1 := (wt_o 0 h0 qa dB n f)) hP hD [0, 1] [] rfl rfl (by decide) (by decide) hk1 hFc hP1 hD1
  generalize H1 = H at hP hS ⊢
  have hP : va_P (dC, dI) vwCl (wt_o 0 h0 qa dB n f) H := hP
  have hD : va_D A (wt_o 0 h0 qa dB n f) := hD
  refine va_put (D := (dC, dI)) (ci := 0) (v := .int (nI (wt_rm p0 (n + 1)))) (ty := .int) (C := RX0) (T := TX0) (N := 2) hx hb hts in_X0 tyX0 tyX0_ok nmX0 hown hK hP hD hS 0 rfl rfl 1 (by decide) (hts _ q24) (fun _ h9 => h9) rfl (by decide +kernel) rfl rfl (Nat.le_of_ble_eq_true rfl) dX0_trim_6 (fun H locs hP hD hS => ?_)
  have hP : va_P (dC, dI) vwCl (wt_o 0 h0 qa dB (wt_rm p0 (n + 1)) f) H := hP
  have hD : va_D A (wt_o 0 h0 qa dB (wt_rm p0 (n + 1)) f) := hD
  exact W.vret hx hb hr (fun t ht hW => ⟨⟨(wt_rm p0 (n + 1), f), rfl, rfl, by rw [ht]; exact hP, va_K.moved hW.alike hK, hD⟩, hS.F ht⟩) hS.2.2 dX0_trim_9
set_option maxHeartbeats 4000000 in
set_option maxRecDepth 100000 in
/-- X0.sign -/
theorem cX0_sign_met (l : Launch) (dC : Nat → ClassId) (dI : Nat → Nat → Nat) (h0 qa : Nat) (dB : ClassId) (sz n : Nat) (f : Nat → Int32) (hn : n ≤ 4096) (p0 p1 : Int32) : Met l yX0_sign (ws_ yX0_sign cX0_sign 4 none) ({ frames := 0, cells := 0, slots := 0, locals := 0 }) (va_Pc [.ref h0, .int p0, .int p1] (fun U => U.heap.size = sz ∧ va_P (dC, dI) vwCl (wt_o 0 h0 qa dB n f) U.heap ∧ va_K (dC, dI) vwCl [(dB, .byte)] U ∧ va_D (fun _ => True) (wt_o 0 h0 qa dB n f))) (va_Qv (fun (u : Nat × (Nat → Int32)) => u = (n, wt_sg n f p0 p1)) (Bo 0 dC dI (va_A (wt_o 0 h0 qa dB n f) sz) h0 qa dB) (va_A (wt_o 0 h0 qa dB n f) sz)) 0 0 (va_A (wt_o 0 h0 qa dB n f) sz) := by
  refine Met.ofW (cc := cX0_sign) (maxL := 4) (ret := none) (by decide) rfl ?_
  intro p e s m args below meth c s₁ B hml hv
  obtain ⟨rfl, hsz, hP, hK, hD0⟩ := hv
  have hx := B.exec
  have hb := B.bytes
  have hr := B.returns
  have hts := atoms_spec (ws := ws_ yX0_sign cX0_sign 4 none) B.pre
  have hts : ∀ w ∈ lw_all, w.before _ s = true := fun w h => hts w (List.mem_cons_of_mem _ h)
  have hown : s.vm.findClass RX0 = some m.cls := findClass_of_methodNamed B.named
  have hlocks := B.notSynchronized
  subst hsz
  have hD := hD0.self (sz := s.heap.size)
  generalize hAe : va_A (wt_o 0 h0 qa dB n f) s.heap.size = A at hD ⊢
  have hA : ∀ q : Nat, s.heap.size ≤ q → A q := fun q h => by rw [← hAe]; exact Or.inr h
  have hS : va_S A s.heap s.heap [] := va_S.rf
  have hP : va_P (dC, dI) vwCl (wt_o 0 h0 qa dB n f) s.heap := hP
  have hl := lv_entry ([.ref h0, .int p0, .int p1]) (n := 4) (Nat.le_of_ble_eq_true rfl)
  rw [lg_entry_eq]
  generalize (lg_sl ([.ref h0, .int p0, .int p1]) ++ List.replicate (4 - (lg_sl ([.ref h0, .int p0, .int p1])).length) Slot.unset).toArray = ls at hl ⊢
  have hl : lv_has ls 4 [(0, .ref h0), (1, .int p0), (2, .int p1)] := hl
  refine lv_aload_n hx hb dX0_sign_0 rfl (lv_at hl 0 rfl) ?_
  refine va_get (D := (dC, dI)) (ci := 0) (v := .int (nI n)) (C := RX0) (T := TX0) (N := 2) hx hb hts in_X0 hown hK hP 0 rfl rfl 1 (by decide) (hts _ q24) (fun _ h9 => h9) rfl dX0_sign_1 ?_
  refine lv_if_le (tgt := 25) hx hb dX0_sign_4 (by decide) (fun c_4 => ?_) (fun c_4 => ?_)
  · have h0n : n = 0 := by
      rcases Nat.eq_zero_or_pos n with q | q
      · exact q
      · exact absurd c_4 (nI_nle q (by omega))
    have hsg : wt_sg n f p0 p1 = f := by unfold wt_sg; rw [if_neg (by omega)]
    exact W.vret hx hb hr (fun t ht hW => ⟨⟨(n, f), rfl, by rw [hsg], by rw [ht]; exact hP, va_K.moved hW.alike hK, hD⟩, hS.F ht⟩) hS.2.2 dX0_sign_25
  · have h0n : 0 < n := Nat.pos_of_ne_zero (fun q => c_4 (by rw [q]; decide))
    have hsg : wt_sg n f p0 p1 = upd f (wt_rm p0 n) p1.toInt8.toInt32 := by unfold wt_sg; rw [if_pos h0n]
    refine lv_iload_n hx hb dX0_sign_7 rfl (lv_at hl 1 rfl) ?_
    refine lv_ldc (own := RX0) hx hb hown (hts _ q47) dX0_sign_8 ?_
    refine lv_iand hx hb dX0_sign_10 ?_
    refine lv_aload_n hx hb dX0_sign_11 rfl (lv_at hl 0 rfl) ?_
    refine va_get (D := (dC, dI)) (ci := 0) (v := .int (nI n)) (C := RX0) (T := TX0) (N := 2) hx hb hts in_X0 hown hK hP 0 rfl rfl 1 (by decide) (hts _ q24) (fun _ h9 => h9) rfl dX0_sign_12 ?_
    refine lv_irem hx hb dX0_sign_15 (nI_ne0 h0n (by omega)) ?_
    refine wt_to (nI (wt_rm p0 n)) (wt_rm_eq p0 h0n (by omega)) ?_
    refine lv_istore_n (lv' := [(3, .int (nI (wt_rm p0 n))), (0, .ref h0), (1, .int p0), (2, .int p1)]) hx hb dX0_sign_16 rfl hl (by decide) rfl (fun ls hl => ?_)
    refine lv_aload_n hx hb dX0_sign_17 rfl (lv_at hl 1 rfl) ?_
    refine va_get (D := (dC, dI)) (ci := 0) (v := .ref qa) (C := RX0) (T := TX0) (N := 2) hx hb hts in_X0 hown hK hP 0 rfl rfl 0 (by decide) (hts _ q23) (fun _ h9 => h9) rfl dX0_sign_18 ?_
    refine lv_iload_n hx hb dX0_sign_21 rfl (lv_at hl 0 rfl) ?_
    refine lv_iload_n hx hb dX0_sign_22 rfl (lv_at hl 3 rfl) ?_
    refine lv_i2b hx hb dX0_sign_23 rfl ?_
    refine wt_bast hx hb hK hP hD hS 1 0 rfl rfl (rfl) (Nat.lt_of_lt_of_le (wt_rm_lt p0 h0n) hn) dX0_sign_24 (fun H locs hP hD hS => ?_)
    have hP : va_P (dC, dI) vwCl (wt_o 0 h0 qa dB n (upd f (wt_rm p0 n) p1.toInt8.toInt32)) H := hP
    have hD : va_D A (wt_o 0 h0 qa dB n (upd f (wt_rm p0 n) p1.toInt8.toInt32)) := hD
    exact W.vret hx hb hr (fun t ht hW => ⟨⟨(n, (upd f (wt_rm p0 n) p1.toInt8.toInt32)), rfl, by rw [hsg], by rw [ht]; exact hP, va_K.moved hW.alike hK, hD⟩, hS.F ht⟩) hS.2.2 dX0_sign_25
end
section
/-! X1: size, first, many, trim, sign -/
set_option maxHeartbeats 4000000 in
set_option maxRecDepth 100000 in
/-- X1.size -/
theorem cX1_size_met (l : Launch) (dC : Nat → ClassId) (dI : Nat → Nat → Nat) (h0 qa : Nat) (dB : ClassId) (sz n : Nat) (f : Nat → Int32)  : Met l yX1_size (ws_ yX1_size cX1_size 1 (some .int)) ({ frames := 0, cells := 0, slots := 0, locals := 0 }) (va_Pc [.ref h0] (fun U => U.heap.size = sz ∧ va_P (dC, dI) vwCl (wt_o 1 h0 qa dB n f) U.heap ∧ va_K (dC, dI) vwCl [(dB, .byte)] U ∧ va_D (fun _ => True) (wt_o 1 h0 qa dB n f))) (va_Qi (fun (r : Int32) (u : Nat × (Nat → Int32)) => r = nI n ∧ u = (n, f)) (Bo 1 dC dI (va_A (wt_o 1 h0 qa dB n f) sz) h0 qa dB) (va_A (wt_o 1 h0 qa dB n f) sz)) 0 0 (va_A (wt_o 1 h0 qa dB n f) sz) := by
  refine Met.ofW (cc := cX1_size) (maxL := 1) (ret := (some .int)) (by decide) rfl ?_
  intro p e s m args below meth c s₁ B hml hv
  obtain ⟨rfl, hsz, hP, hK, hD0⟩ := hv
  have hx := B.exec
  have hb := B.bytes
  have hr := B.returns
  have hts := atoms_spec (ws := ws_ yX1_size cX1_size 1 (some .int)) B.pre
  have hts : ∀ w ∈ lw_all, w.before _ s = true := fun w h => hts w (List.mem_cons_of_mem _ h)
  have hown : s.vm.findClass RX1 = some m.cls := findClass_of_methodNamed B.named
  have hlocks := B.notSynchronized
  subst hsz
  have hD := hD0.self (sz := s.heap.size)
  generalize hAe : va_A (wt_o 1 h0 qa dB n f) s.heap.size = A at hD ⊢
  have hA : ∀ q : Nat, s.heap.size ≤ q → A q := fun q h => by rw [← hAe]; exact Or.inr h
  have hS : va_S A s.heap s.heap [] := va_S.rf
  have hP : va_P (dC, dI) vwCl (wt_o 1 h0 qa dB n f) s.heap := hP
  have hl := lv_entry ([.ref h0]) (n := 1) (Nat.le_of_ble_eq_true rfl)
  rw [lg_entry_eq]
  generalize (lg_sl ([.ref h0]) ++ List.replicate (1 - (lg_sl ([.ref h0])).length) Slot.unset).toArray = ls at hl ⊢
  have hl : lv_has ls 1 [(0, .ref h0)] := hl
  refine lv_aload_n hx hb dX1_size_0 rfl (lv_at hl 0 rfl) ?_
  refine va_get (D := (dC, dI)) (ci := 1) (v := .int (nI n)) (C := RX1) (T := TX1) (N := 2) hx hb hts in_X1 hown hK hP 0 rfl rfl 1 (by decide) (hts _ q145) (fun _ h9 => h9) rfl dX1_size_1 ?_
  exact W.iret (v := nI n) hx hb hr (fun t ht hW => ⟨⟨nI n, (n, f), rfl, ⟨rfl, rfl⟩, by rw [ht]; exact hP, va_K.moved hW.alike hK, hD⟩, hS.F ht⟩) hS.2.2 dX1_size_4
set_option maxHeartbeats 4000000 in
set_option maxRecDepth 100000 in
/-- X1.first -/
theorem cX1_first_met (l : Launch) (dC : Nat → ClassId) (dI : Nat → Nat → Nat) (h0 qa : Nat) (dB : ClassId) (sz n : Nat) (f : Nat → Int32) (hn : n ≤ 4096) (p0 : Int32) : Met l yX1_first (ws_ yX1_first cX1_first 2 (some .int)) ({ frames := 0, cells := 0, slots := 0, locals := 0 }) (va_Pc [.ref h0, .int p0] (fun U => U.heap.size = sz ∧ va_P (dC, dI) vwCl (wt_o 1 h0 qa dB n f) U.heap ∧ va_K (dC, dI) vwCl [(dB, .byte)] U ∧ va_D (fun _ => True) (wt_o 1 h0 qa dB n f))) (va_Qi (fun (r : Int32) (u : Nat × (Nat → Int32)) => r = nI (wt_rm p0 (n + 1)) ∧ u = (n, f)) (Bo 1 dC dI (va_A (wt_o 1 h0 qa dB n f) sz) h0 qa dB) (va_A (wt_o 1 h0 qa dB n f) sz)) 0 0 (va_A (wt_o 1 h0 qa dB n f) sz) := by
  refine Met.ofW (cc := cX1_first) (maxL := 2) (ret := (some .int)) (by decide) rfl ?_
  intro p e s m args below meth c s₁ B hml hv
  obtain ⟨rfl, hsz, hP, hK, hD0⟩ := hv
  have hx := B.exec
  have hb := B.bytes
  have hr := B.returns
  have hts := atoms_spec (ws := ws_ yX1_first cX1_first 2 (some .int)) B.pre
  have hts : ∀ w ∈ lw_all, w.before _ s = true := fun w h => hts w (List.mem_cons_of_mem _ h)
  have hown : s.vm.findClass RX1 = some m.cls := findClass_of_methodNamed B.named
  have hlocks := B.notSynchronized
  subst hsz
  have hD := hD0.self (sz := s.heap.size)
  generalize hAe : va_A (wt_o 1 h0 qa dB n f) s.heap.size = A at hD ⊢
  have hA : ∀ q : Nat, s.heap.size ≤ q → A q := fun q h => by rw [← hAe]; exact Or.inr h
  have hS : va_S A s.heap s.heap [] := va_S.rf
  have hP : va_P (dC, dI) vwCl (wt_o 1 h0 qa dB n f) s.heap := hP
  have hl := lv_entry ([.ref h0, .int p0]) (n := 2) (Nat.le_of_ble_eq_true rfl)
  rw [lg_entry_eq]
  generalize (lg_sl ([.ref h0, .int p0]) ++ List.replicate (2 - (lg_sl ([.ref h0, .int p0])).length) Slot.unset).toArray = ls at hl ⊢
  have hl : lv_has ls 2 [(0, .ref h0), (1, .int p0)] := hl
  refine lv_iload_n hx hb dX1_first_0 rfl (lv_at hl 1 rfl) ?_
  refine lv_ldc (own := RX1) hx hb hown (hts _ q163) dX1_first_1 ?_
  refine lv_iand hx hb dX1_first_3 ?_
  refine lv_aload_n hx hb dX1_first_4 rfl (lv_at hl 0 rfl) ?_
  refine va_get (D := (dC, dI)) (ci := 1) (v := .int (nI n)) (C := RX1) (T := TX1) (N := 2) hx hb hts in_X1 hown hK hP 0 rfl rfl 1 (by decide) (hts _ q145) (fun _ h9 => h9) rfl dX1_first_5 ?_
  refine lv_iconst (v := nI 1) hx hb dX1_first_8 (by decide +kernel) ?_
  refine lv_iadd hx hb dX1_first_9 ?_
  refine wt_to (nI (n + 1)) (nI_add n 1) ?_
  refine lv_irem hx hb dX1_first_10 (nI_ne0 (by omega) (by omega)) ?_
  refine wt_to (nI (wt_rm p0 (n + 1))) (wt_rm_eq p0 (by omega) (by omega)) ?_
  exact W.iret (v := nI (wt_rm p0 (n + 1))) hx hb hr (fun t ht hW => ⟨⟨nI (wt_rm p0 (n + 1)), (n, f), rfl, ⟨rfl, rfl⟩, by rw [ht]; exact hP, va_K.moved hW.alike hK, hD⟩, hS.F ht⟩) hS.2.2 dX1_first_11
set_option maxHeartbeats 4000000 in
set_option maxRecDepth 100000 in
/-- X1.many -/
theorem cX1_many_met (l : Launch) (dC : Nat → ClassId) (dI : Nat → Nat → Nat) (h0 qa : Nat) (dB : ClassId) (sz n : Nat) (f : Nat → Int32) (hn : n ≤ 4096) (i : Nat) (hi : i ≤ n) (p1 : Int32) : Met l yX1_many (ws_ yX1_many cX1_many 3 (some .int)) ({ frames := 0, cells := 0, slots := 0, locals := 0 }) (va_Pc [.ref h0, .int (nI i), .int p1] (fun U => U.heap.size = sz ∧ va_P (dC, dI) vwCl (wt_o 1 h0 qa dB n f) U.heap ∧ va_K (dC, dI) vwCl [(dB, .byte)] U ∧ va_D (fun _ => True) (wt_o 1 h0 qa dB n f))) (va_Qi (fun (r : Int32) (u : Nat × (Nat → Int32)) => r = nI (wt_rm p1 (n - i + 1)) ∧ u = (n, f)) (Bo 1 dC dI (va_A (wt_o 1 h0 qa dB n f) sz) h0 qa dB) (va_A (wt_o 1 h0 qa dB n f) sz)) 0 0 (va_A (wt_o 1 h0 qa dB n f) sz) := by
  refine Met.ofW (cc := cX1_many) (maxL := 3) (ret := (some .int)) (by decide) rfl ?_
  intro p e s m args below meth c s₁ B hml hv
  obtain ⟨rfl, hsz, hP, hK, hD0⟩ := hv
  have hx := B.exec
  have hb := B.bytes
  have hr := B.returns
  have hts := atoms_spec (ws := ws_ yX1_many cX1_many 3 (some .int)) B.pre
  have hts : ∀ w ∈ lw_all, w.before _ s = true := fun w h => hts w (List.mem_cons_of_mem _ h)
  have hown : s.vm.findClass RX1 = some m.cls := findClass_of_methodNamed B.named
  have hlocks := B.notSynchronized
  subst hsz
  have hD := hD0.self (sz := s.heap.size)
  generalize hAe : va_A (wt_o 1 h0 qa dB n f) s.heap.size = A at hD ⊢
  have hA : ∀ q : Nat, s.heap.size ≤ q → A q := fun q h => by rw [← hAe]; exact Or.inr h
  have hS : va_S A s.heap s.heap [] := va_S.rf
  have hP : va_P (dC, dI) vwCl (wt_o 1 h0 qa dB n f) s.heap := hP
  have hl := lv_entry ([.ref h0, .int (nI i), .int p1]) (n := 3) (Nat.le_of_ble_eq_true rfl)
  rw [lg_entry_eq]
  generalize (lg_sl ([.ref h0, .int (nI i), .int p1]) ++ List.replicate (3 - (lg_sl ([.ref h0, .int (nI i), .int p1])).length) Slot.unset).toArray = ls at hl ⊢
  have hl : lv_has ls 3 [(0, .ref h0), (1, .int (nI i)), (2, .int p1)] := hl
  refine lv_iload_n hx hb dX1_many_0 rfl (lv_at hl 2 rfl) ?_
  refine lv_ldc (own := RX1) hx hb hown (hts _ q163) dX1_many_1 ?_
  refine lv_iand hx hb dX1_many_3 ?_
  refine lv_aload_n hx hb dX1_many_4 rfl (lv_at hl 0 rfl) ?_
  refine va_get (D := (dC, dI)) (ci := 1) (v := .int (nI n)) (C := RX1) (T := TX1) (N := 2) hx hb hts in_X1 hown hK hP 0 rfl rfl 1 (by decide) (hts _ q145) (fun _ h9 => h9) rfl dX1_many_5 ?_
  refine lv_iload_n hx hb dX1_many_8 rfl (lv_at hl 1 rfl) ?_
  refine lv_isub hx hb dX1_many_9 ?_
  refine wt_to (nI (n - i)) (pk_sub hi) ?_
  refine lv_iconst (v := nI 1) hx hb dX1_many_10 (by decide +kernel) ?_
  refine lv_iadd hx hb dX1_many_11 ?_
  refine wt_to (nI (n - i + 1)) (nI_add (n - i) 1) ?_
  refine lv_irem hx hb dX1_many_12 (nI_ne0 (by omega) (by omega)) ?_
  refine wt_to (nI (wt_rm p1 (n - i + 1))) (wt_rm_eq p1 (by omega) (by omega)) ?_
  exact W.iret (v := nI (wt_rm p1 (n - i + 1))) hx hb hr (fun t ht hW => ⟨⟨nI (wt_rm p1 (n - i + 1)), (n, f), rfl, ⟨rfl, rfl⟩, by rw [ht]; exact hP, va_K.moved hW.alike hK, hD⟩, hS.F ht⟩) hS.2.2 dX1_many_13
set_option maxHeartbeats 4000000 in
set_option maxRecDepth 100000 in
/-- X1.trim -/
theorem cX1_trim_met (l : Launch) (dC : Nat → ClassId) (dI : Nat → Nat → Nat) (h0 qa : Nat) (dB : ClassId) (sz n : Nat) (f : Nat → Int32) (hn : n ≤ 4096) (p0 : Int32) : Met l yX1_trim (ws_ yX1_trim cX1_trim 2 none) ({ frames := 1, cells := 0, slots := 0, locals := 21 }) (va_Pc [.ref h0, .int p0] (fun U => U.heap.size = sz ∧ va_P (dC, dI) vwCl (wt_o 1 h0 qa dB n f) U.heap ∧ va_K (dC, dI) vwCl [(dB, .byte)] U ∧ va_D (fun _ => True) (wt_o 1 h0 qa dB n f))) (va_Qv (fun (u : Nat × (Nat → Int32)) => u = (wt_rm p0 (n + 1), f)) (Bo 1 dC dI (va_A (wt_o 1 h0 qa dB n f) sz) h0 qa dB) (va_A (wt_o 1 h0 qa dB n f) sz)) 0 0 (va_A (wt_o 1 h0 qa dB n f) sz) := by
  refine Met.ofW (cc := cX1_trim) (maxL := 2) (ret := none) (by decide) rfl ?_
  intro p e s m args below meth c s₁ B hml hv
  obtain ⟨rfl, hsz, hP, hK, hD0⟩ := hv
  have hx := B.exec
  have hb := B.bytes
  have hr := B.returns
  have hts := atoms_spec (ws := ws_ yX1_trim cX1_trim 2 none) B.pre
  have hts : ∀ w ∈ lw_all, w.before _ s = true := fun w h => hts w (List.mem_cons_of_mem _ h)
  have hown : s.vm.findClass RX1 = some m.cls := findClass_of_methodNamed B.named
  have hlocks := B.notSynchronized
  subst hsz
  have hD := hD0.self (sz := s.heap.size)
  generalize hAe : va_A (wt_o 1 h0 qa dB n f) s.heap.size = A at hD ⊢
  have hA : ∀ q : Nat, s.heap.size ≤ q → A q := fun q h => by rw [← hAe]; exact Or.inr h
  have hS : va_S A s.heap s.heap [] := va_S.rf
  have hP : va_P (dC, dI) vwCl (wt_o 1 h0 qa dB n f) s.heap := hP
  have hl := lv_entry ([.ref h0, .int p0]) (n := 2) (Nat.le_of_ble_eq_true rfl)
  rw [lg_entry_eq]
  generalize (lg_sl ([.ref h0, .int p0]) ++ List.replicate (2 - (lg_sl ([.ref h0, .int p0])).length) Slot.unset).toArray = ls at hl ⊢
  have hl : lv_has ls 2 [(0, .ref h0), (1, .int p0)] := hl
  refine lv_aload_n hx hb dX1_trim_0 rfl (lv_at hl 0 rfl) ?_
  refine lv_aload_n hx hb dX1_trim_1 rfl (lv_at hl 0 rfl) ?_
  refine lv_iload_n hx hb dX1_trim_2 rfl (lv_at hl 1 rfl) ?_
  have hPc := hP.sub (ws' := (wt_o 1 h0 qa dB n f)) [0, 1] rfl
  have hDc := hD.sub (ws' := (wt_o 1 h0 qa dB n f)) [0, 1] (by decide) rfl
  have hFc := va_free (wc := (wt_o 1 h0 qa dB n f)) hD hS hA [0, 1] rfl
  refine va_calli (va_runV (As := [.int p0]) (rest := [.ref h0]) ⟨hx, hb, hml, hown, hts⟩ (cX1_first_met l dC dI h0 qa dB s.heap.size n f hn p0) (cwV 1 hts (lw_V q159 q161 qs4 q8 q162) rfl rfl rfl (by decide +kernel) ⟨Nat.le_of_ble_eq_true rfl, Nat.le_of_ble_eq_true rfl⟩) ⟨fun a U g mk q => by obtain ⟨q0, q1, qP, qK, qD⟩ := q; exact ⟨q0, q1, qP, va_K.moved (u := U) (U := U.calling g mk a) (Vm.Alike.refl U.vm) qK, qD⟩, va_recv hK hPc (ci := 1) (q0 := 0) rfl rfl, fun U hU hW => ⟨rfl, by rw [hU], by rw [hU]; exact hPc, va_K.moved hW.alike (hK.sub [0] rfl), hDc.weaken (fun _ _ _ _ => trivial)⟩⟩ rfl rfl hl.1 rfl (lv_room (Nat.le_of_ble_eq_true rfl)) dX1_trim_3 ⟨Nat.le_of_ble_eq_true rfl, Nat.le_of_ble_eq_true rfl⟩) hS (fun q _ h => hFc q h) hFc (fun r_3 u_3 t H1 locs ht hvm hw hB hz1 hk1 hS => ?_)
  obtain ⟨hP1, -, hD1⟩ := hB
  rw [ht] at hP1
  obtain ⟨rfl, hw2⟩ := hw
  obtain rfl := hw2.symm
  obtain ⟨hP, hD⟩ := va_join (wr := []) (w1 := (wt_o 1 h0 qa dB n f)) hP hD [0, 1] [] rfl rfl (by decide) (by decide) hk1 hFc hP1 hD1
  generalize H1 = H at hP hS ⊢
  have hP : va_P (dC, dI) vwCl (wt_o 1 h0 qa dB n f) H := hP
  have hD : va_D A (wt_o 1 h0 qa dB n f) := hD
  refine va_put (D := (dC, dI)) (ci := 1) (v := .int (nI (wt_rm p0 (n + 1)))) (ty := .int) (C := RX1) (T := TX1) (N := 2) hx hb hts in_X1 tyX1 tyX1_ok nmX1 hown hK hP hD hS 0 rfl rfl 1 (by decide) (hts _ q145) (fun _ h9 => h9) rfl (by decide +kernel) rfl rfl (Nat.le_of_ble_eq_true rfl) dX1_trim_6 (fun H locs hP hD hS => ?_)
  have hP : va_P (dC, dI) vwCl (wt_o 1 h0 qa dB (wt_rm p0 (n + 1)) f) H := hP
  have hD : va_D A (wt_o 1 h0 qa dB (wt_rm p0 (n + 1)) f) := hD
  exact W.vret hx hb hr (fun t ht hW => ⟨⟨(wt_rm p0 (n + 1), f), rfl, rfl, by rw [ht]; exact hP, va_K.moved hW.alike hK, hD⟩, hS.F ht⟩) hS.2.2 dX1_trim_9
set_option maxHeartbeats 4000000 in
set_option maxRecDepth 100000 in
/-- X1.sign -/
theorem cX1_sign_met (l : Launch) (dC : Nat → ClassId) (dI : Nat → Nat → Nat) (h0 qa : Nat) (dB : ClassId) (sz n : Nat) (f : Nat → Int32) (hn : n ≤ 4096) (p0 p1 : Int32) : Met l yX1_sign (ws_ yX1_sign cX1_sign 3 none) ({ frames := 0, cells := 0, slots := 0, locals := 0 }) (va_Pc [.ref h0, .int p0, .int p1] (fun U => U.heap.size = sz ∧ va_P (dC, dI) vwCl (wt_o 1 h0 qa dB n f) U.heap ∧ va_K (dC, dI) vwCl [(dB, .byte)] U ∧ va_D (fun _ => True) (wt_o 1 h0 qa dB n f))) (va_Qv (fun (u : Nat × (Nat → Int32)) => u = (n, wt_sg n f p0 p1)) (Bo 1 dC dI (va_A (wt_o 1 h0 qa dB n f) sz) h0 qa dB) (va_A (wt_o 1 h0 qa dB n f) sz)) 0 0 (va_A (wt_o 1 h0 qa dB n f) sz) := by
  refine Met.ofW (cc := cX1_sign) (maxL := 3) (ret := none) (by decide) rfl ?_
  intro p e s m args below meth c s₁ B hml hv
  obtain ⟨rfl, hsz, hP, hK, hD0⟩ := hv
  have hx := B.exec
  have hb := B.bytes
  have hr := B.returns
  have hts := atoms_spec (ws := ws_ yX1_sign cX1_sign 3 none) B.pre
  have hts : ∀ w ∈ lw_all, w.before _ s = true := fun w h => hts w (List.mem_cons_of_mem _ h)
  have hown : s.vm.findClass RX1 = some m.cls := findClass_of_methodNamed B.named
  have hlocks := B.notSynchronized
  subst hsz
  have hD := hD0.self (sz := s.heap.size)
  generalize hAe : va_A (wt_o 1 h0 qa dB n f) s.heap.size = A at hD ⊢
  have hA : ∀ q : Nat, s.heap.size ≤ q → A q := fun q h => by rw [← hAe]; exact Or.inr h
  have hS : va_S A s.heap s.heap [] := va_S.rf
  have hP : va_P (dC, dI) vwCl (wt_o 1 h0 qa dB n f) s.heap := hP
  have hl := lv_entry ([.ref h0, .int p0, .int p1]) (n := 3) (Nat.le_of_ble_eq_true rfl)
  rw [lg_entry_eq]
  generalize (lg_sl ([.ref h0, .int p0, .int p1]) ++ List.replicate (3 - (lg_sl ([.ref h0, .int p0, .int p1])).length) Slot.unset).toArray = ls at hl ⊢
  have hl : lv_has ls 3 [(0, .ref h0), (1, .int p0), (2, .int p1)] := hl
  refine lv_aload_n hx hb dX1_sign_0 rfl (lv_at hl 0 rfl) ?_
  refine va_get (D := (dC, dI)) (ci := 1) (v := .int (nI n)) (C := RX1) (T := TX1) (N := 2) hx hb hts in_X1 hown hK hP 0 rfl rfl 1 (by decide) (hts _ q145) (fun _ h9 => h9) rfl dX1_sign_1 ?_
  refine lv_if_le (tgt := 23) hx hb dX1_sign_4 (by decide) (fun c_4 => ?_) (fun c_4 => ?_)
  · have h0n : n = 0 := by
      rcases Nat.eq_zero_or_pos n with q | q
      · exact q
      · exact absurd c_4 (nI_nle q (by omega))
    have hsg : wt_sg n f p0 p1 = f := by unfold wt_sg; rw [if_neg (by omega)]
    exact W.vret hx hb hr (fun t ht hW => ⟨⟨(n, f), rfl, by rw [hsg], by rw [ht]; exact hP, va_K.moved hW.alike hK, hD⟩, hS.F ht⟩) hS.2.2 dX1_sign_23
  · have h0n : 0 < n := Nat.pos_of_ne_zero (fun q => c_4 (by rw [q]; decide))
    have hsg : wt_sg n f p0 p1 = upd f (wt_rm p0 n) p1.toInt8.toInt32 := by unfold wt_sg; rw [if_pos h0n]
    refine lv_aload_n hx hb dX1_sign_7 rfl (lv_at hl 0 rfl) ?_
    refine va_get (D := (dC, dI)) (ci := 1) (v := .ref qa) (C := RX1) (T := TX1) (N := 2) hx hb hts in_X1 hown hK hP 0 rfl rfl 0 (by decide) (hts _ q144) (fun _ h9 => h9) rfl dX1_sign_8 ?_
    refine lv_iload_n hx hb dX1_sign_11 rfl (lv_at hl 1 rfl) ?_
    refine lv_ldc (own := RX1) hx hb hown (hts _ q163) dX1_sign_12 ?_
    refine lv_iand hx hb dX1_sign_14 ?_
    refine lv_aload_n hx hb dX1_sign_15 rfl (lv_at hl 0 rfl) ?_
    refine va_get (D := (dC, dI)) (ci := 1) (v := .int (nI n)) (C := RX1) (T := TX1) (N := 2) hx hb hts in_X1 hown hK hP 0 rfl rfl 1 (by decide) (hts _ q145) (fun _ h9 => h9) rfl dX1_sign_16 ?_
    refine lv_irem hx hb dX1_sign_19 (nI_ne0 h0n (by omega)) ?_
    refine wt_to (nI (wt_rm p0 n)) (wt_rm_eq p0 h0n (by omega)) ?_
    refine lv_iload_n hx hb dX1_sign_20 rfl (lv_at hl 2 rfl) ?_
    refine lv_i2b hx hb dX1_sign_21 rfl ?_
    refine wt_bast hx hb hK hP hD hS 1 0 rfl rfl (rfl) (Nat.lt_of_lt_of_le (wt_rm_lt p0 h0n) hn) dX1_sign_22 (fun H locs hP hD hS => ?_)
    have hP : va_P (dC, dI) vwCl (wt_o 1 h0 qa dB n (upd f (wt_rm p0 n) p1.toInt8.toInt32)) H := hP
    have hD : va_D A (wt_o 1 h0 qa dB n (upd f (wt_rm p0 n) p1.toInt8.toInt32)) := hD
    exact W.vret hx hb hr (fun t ht hW => ⟨⟨(n, (upd f (wt_rm p0 n) p1.toInt8.toInt32)), rfl, by rw [hsg], by rw [ht]; exact hP, va_K.moved hW.alike hK, hD⟩, hS.F ht⟩) hS.2.2 dX1_sign_23
end
section
set_option maxHeartbeats 4000000 in
set_option maxRecDepth 100000 in
/-- X0(): size 0, 4096 zeros -/
theorem cX0_init_met (l : Launch) (dC : Nat → ClassId) (dI : Nat → Nat → Nat) (h0 sz : Nat) : Met l yX0_init (ws_ yX0_init cX0_init 1 none) ({ frames := 1, cells := 1, slots := 4096, locals := 12 }) (va_Pc [.ref h0] (fun U => U.heap.size = sz ∧ va_P (dC, dI) vwCl ([(h0, .inr (0, [.null, .int 0]))]) U.heap ∧ va_K (dC, dI) vwCl [] U ∧ va_D (fun _ => True) ([(h0, .inr (0, [.null, .int 0]))]))) (va_Qv (fun _ : Unit => True) (fun (_ : Unit) (t : State) => ∃ (qa : Nat) (dB : ClassId), va_P (dC, dI) vwCl (wt_o 0 h0 qa dB 0 (fun _ => 0)) t.heap ∧ va_K (dC, dI) vwCl [(dB, .byte)] t ∧ va_D (va_A ([(h0, .inr (0, [.null, .int 0]))]) sz) (wt_o 0 h0 qa dB 0 (fun _ => 0))) (va_A ([(h0, .inr (0, [.null, .int 0]))]) sz)) 1 4096 (va_A ([(h0, .inr (0, [.null, .int 0]))]) sz) := by
  refine Met.ofW (cc := cX0_init) (maxL := 1) (ret := none) (by decide) rfl ?_
  intro p e s m args below meth c s₁ B hml hv
  obtain ⟨rfl, hsz, hP, hK, hD0⟩ := hv
  have hx := B.exec
  have hb := B.bytes
  have hr := B.returns
  have hts := atoms_spec (ws := ws_ yX0_init cX0_init 1 none) B.pre
  have hts : ∀ w ∈ lw_all, w.before _ s = true := fun w h => hts w (List.mem_cons_of_mem _ h)
  have hown : s.vm.findClass RX0 = some m.cls := findClass_of_methodNamed B.named
  have hlocks := B.notSynchronized
  have hin : meth.name = "<init>" := (name_of_methodNamed B.named B.method).1
  subst hsz
  have hD := hD0.self (sz := s.heap.size)
  generalize hAe : va_A ([(h0, .inr (0, [.null, .int 0]))]) s.heap.size = A at hD ⊢
  have hA : ∀ q : Nat, s.heap.size ≤ q → A q := fun q h => by rw [← hAe]; exact Or.inr h
  have hS : va_S A s.heap s.heap [] := va_S.rf
  have hP : va_P (dC, dI) vwCl ([(h0, .inr (0, [.null, .int 0]))]) s.heap := hP
  have hl := lv_entry ([.ref h0]) (n := 1) (Nat.le_of_ble_eq_true rfl)
  rw [lg_entry_eq]
  generalize (lg_sl ([.ref h0]) ++ List.replicate (1 - (lg_sl ([.ref h0])).length) Slot.unset).toArray = ls at hl ⊢
  have hl : lv_has ls 1 [(0, .ref h0)] := hl
  refine lv_aload_n hx hb dX0_init_0 rfl (lv_at hl 0 rfl) ?_
  refine W.objInit hx hb hown (hts _ q20) (hts _ q21) (hts _ q22) rfl (by rw [hml]; exact hl.1) rfl dX0_init_1 (Nat.le_of_ble_eq_true rfl) (Nat.le_of_ble_eq_true rfl) ?_
  refine W.eq (g2 := F0 m 4 ls []) rfl ?_
  refine lv_aload_n hx hb dX0_init_4 rfl (lv_at hl 0 rfl) ?_
  refine lv_sipush (v := nI 4096) hx hb dX0_init_5 (by decide +kernel) ?_
  refine va_newa (atype := .byte) (ty := .byte) (N' := 4096) (a0 := (4096, .inl (fun _ => 0))) hx hb (hts _ q30) rfl hK hP hD hS hA (fun _ => rfl) (nI_pos (Nat.le_of_ble_eq_true rfl)) (nI_clamp (Nat.le_of_ble_eq_true rfl)) (Nat.le_of_ble_eq_true rfl) (Nat.le_of_ble_eq_true rfl) (Nat.le_of_ble_eq_true rfl) dX0_init_8 (fun qa dB H hK hP hD hS => ?_)
  refine va_putF (D := (dC, dI)) (ci := 0) (v := .ref qa) (ty := .array .byte) (C := RX0) (T := TX0) (N := 2) hx hb hts in_X0 tyX0 tyX0_ok nmX0 hown hK hP hD hS 0 rfl rfl 0 (by decide) (hts _ q23) (fun _ h9 => h9) rfl hin rfl (by decide +kernel) rfl rfl (Nat.le_of_ble_eq_true rfl) dX0_init_10 (fun H locs hP hD hS => ?_)
  have hP : va_P (dC, dI) vwCl (wt_o 0 h0 qa dB 0 (fun _ => 0)) H := hP
  have hD : va_D A (wt_o 0 h0 qa dB 0 (fun _ => 0)) := hD
  have hK : va_K (dC, dI) vwCl [(dB, .byte)] s := hK
  refine W.widen (k := 1) (n := 4096) (Nat.le_refl _) (Nat.le_of_ble_eq_true rfl) ?_
  exact W.vret hx hb hr (fun t ht hW => ⟨⟨(), rfl, trivial, qa, dB, by rw [ht]; exact hP, va_K.moved hW.alike hK, hD⟩, hS.F ht⟩) hS.2.2 dX0_init_13
set_option maxHeartbeats 4000000 in
set_option maxRecDepth 100000 in
/-- X1(): size 0, 4096 zeros -/
theorem cX1_init_met (l : Launch) (dC : Nat → ClassId) (dI : Nat → Nat → Nat) (h0 sz : Nat) : Met l yX1_init (ws_ yX1_init cX1_init 1 none) ({ frames := 1, cells := 1, slots := 4096, locals := 12 }) (va_Pc [.ref h0] (fun U => U.heap.size = sz ∧ va_P (dC, dI) vwCl ([(h0, .inr (1, [.null, .int 0]))]) U.heap ∧ va_K (dC, dI) vwCl [] U ∧ va_D (fun _ => True) ([(h0, .inr (1, [.null, .int 0]))]))) (va_Qv (fun _ : Unit => True) (fun (_ : Unit) (t : State) => ∃ (qa : Nat) (dB : ClassId), va_P (dC, dI) vwCl (wt_o 1 h0 qa dB 0 (fun _ => 0)) t.heap ∧ va_K (dC, dI) vwCl [(dB, .byte)] t ∧ va_D (va_A ([(h0, .inr (1, [.null, .int 0]))]) sz) (wt_o 1 h0 qa dB 0 (fun _ => 0))) (va_A ([(h0, .inr (1, [.null, .int 0]))]) sz)) 1 4096 (va_A ([(h0, .inr (1, [.null, .int 0]))]) sz) := by
  refine Met.ofW (cc := cX1_init) (maxL := 1) (ret := none) (by decide) rfl ?_
  intro p e s m args below meth c s₁ B hml hv
  obtain ⟨rfl, hsz, hP, hK, hD0⟩ := hv
  have hx := B.exec
  have hb := B.bytes
  have hr := B.returns
  have hts := atoms_spec (ws := ws_ yX1_init cX1_init 1 none) B.pre
  have hts : ∀ w ∈ lw_all, w.before _ s = true := fun w h => hts w (List.mem_cons_of_mem _ h)
  have hown : s.vm.findClass RX1 = some m.cls := findClass_of_methodNamed B.named
  have hlocks := B.notSynchronized
  have hin : meth.name = "<init>" := (name_of_methodNamed B.named B.method).1
  subst hsz
  have hD := hD0.self (sz := s.heap.size)
  generalize hAe : va_A ([(h0, .inr (1, [.null, .int 0]))]) s.heap.size = A at hD ⊢
  have hA : ∀ q : Nat, s.heap.size ≤ q → A q := fun q h => by rw [← hAe]; exact Or.inr h
  have hS : va_S A s.heap s.heap [] := va_S.rf
  have hP : va_P (dC, dI) vwCl ([(h0, .inr (1, [.null, .int 0]))]) s.heap := hP
  have hl := lv_entry ([.ref h0]) (n := 1) (Nat.le_of_ble_eq_true rfl)
  rw [lg_entry_eq]
  generalize (lg_sl ([.ref h0]) ++ List.replicate (1 - (lg_sl ([.ref h0])).length) Slot.unset).toArray = ls at hl ⊢
  have hl : lv_has ls 1 [(0, .ref h0)] := hl
  refine lv_aload_n hx hb dX1_init_0 rfl (lv_at hl 0 rfl) ?_
  refine W.objInit hx hb hown (hts _ q143) (hts _ q21) (hts _ q22) rfl (by rw [hml]; exact hl.1) rfl dX1_init_1 (Nat.le_of_ble_eq_true rfl) (Nat.le_of_ble_eq_true rfl) ?_
  refine W.eq (g2 := F0 m 4 ls []) rfl ?_
  refine lv_aload_n hx hb dX1_init_4 rfl (lv_at hl 0 rfl) ?_
  refine lv_sipush (v := nI 4096) hx hb dX1_init_5 (by decide +kernel) ?_
  refine va_newa (atype := .byte) (ty := .byte) (N' := 4096) (a0 := (4096, .inl (fun _ => 0))) hx hb (hts _ q30) rfl hK hP hD hS hA (fun _ => rfl) (nI_pos (Nat.le_of_ble_eq_true rfl)) (nI_clamp (Nat.le_of_ble_eq_true rfl)) (Nat.le_of_ble_eq_true rfl) (Nat.le_of_ble_eq_true rfl) (Nat.le_of_ble_eq_true rfl) dX1_init_8 (fun qa dB H hK hP hD hS => ?_)
  refine va_putF (D := (dC, dI)) (ci := 1) (v := .ref qa) (ty := .array .byte) (C := RX1) (T := TX1) (N := 2) hx hb hts in_X1 tyX1 tyX1_ok nmX1 hown hK hP hD hS 0 rfl rfl 0 (by decide) (hts _ q144) (fun _ h9 => h9) rfl hin rfl (by decide +kernel) rfl rfl (Nat.le_of_ble_eq_true rfl) dX1_init_10 (fun H locs hP hD hS => ?_)
  have hP : va_P (dC, dI) vwCl (wt_o 1 h0 qa dB 0 (fun _ => 0)) H := hP
  have hD : va_D A (wt_o 1 h0 qa dB 0 (fun _ => 0)) := hD
  have hK : va_K (dC, dI) vwCl [(dB, .byte)] s := hK
  refine W.widen (k := 1) (n := 4096) (Nat.le_refl _) (Nat.le_of_ble_eq_true rfl) ?_
  exact W.vret hx hb hr (fun t ht hW => ⟨⟨(), rfl, trivial, qa, dB, by rw [ht]; exact hP, va_K.moved hW.alike hK, hD⟩, hS.F ht⟩) hS.2.2 dX1_init_13
end
section
set_option maxHeartbeats 4000000 in
set_option maxRecDepth 100000 in
/-- WireText.word -/
theorem cX0_word_met (l : Launch) (dC : Nat → ClassId) (dI : Nat → Nat → Nat) (h0 qa : Nat) (dB : ClassId) (sz n : Nat) (f : Nat → Int32) (j : Nat) (hj : j + 4 ≤ 4096) (w : Int32) : Met l yX0_word (ws_ yX0_word cX0_word 3 none) ({ frames := 0, cells := 0, slots := 0, locals := 0 }) (va_Pc [.ref h0, .int (nI j), .int w] (fun U => U.heap.size = sz ∧ va_P (dC, dI) vwCl (wt_o 0 h0 qa dB n f) U.heap ∧ va_K (dC, dI) vwCl [(dB, .byte)] U ∧ va_D (fun _ => True) (wt_o 0 h0 qa dB n f))) (va_Qv (fun (u : Nat × (Nat → Int32)) => u = (n, wt_wd f j w)) (Bo 0 dC dI (va_A (wt_o 0 h0 qa dB n f) sz) h0 qa dB) (va_A (wt_o 0 h0 qa dB n f) sz)) 0 0 (va_A (wt_o 0 h0 qa dB n f) sz) := by
  refine Met.ofW (cc := cX0_word) (maxL := 3) (ret := none) (by decide) rfl ?_
  intro p e s m args below meth c s₁ B hml hv
  obtain ⟨rfl, hsz, hP, hK, hD0⟩ := hv
  have hx := B.exec
  have hb := B.bytes
  have hr := B.returns
  have hts := atoms_spec (ws := ws_ yX0_word cX0_word 3 none) B.pre
  have hts : ∀ w ∈ lw_all, w.before _ s = true := fun w h => hts w (List.mem_cons_of_mem _ h)
  have hown : s.vm.findClass RX0 = some m.cls := findClass_of_methodNamed B.named
  have hlocks := B.notSynchronized
  subst hsz
  have hD := hD0.self (sz := s.heap.size)
  generalize hAe : va_A (wt_o 0 h0 qa dB n f) s.heap.size = A at hD ⊢
  have hA : ∀ q : Nat, s.heap.size ≤ q → A q := fun q h => by rw [← hAe]; exact Or.inr h
  have hS : va_S A s.heap s.heap [] := va_S.rf
  have hP : va_P (dC, dI) vwCl (wt_o 0 h0 qa dB n f) s.heap := hP
  have hl := lv_entry ([.ref h0, .int (nI j), .int w]) (n := 3) (Nat.le_of_ble_eq_true rfl)
  rw [lg_entry_eq]
  generalize (lg_sl ([.ref h0, .int (nI j), .int w]) ++ List.replicate (3 - (lg_sl ([.ref h0, .int (nI j), .int w])).length) Slot.unset).toArray = ls at hl ⊢
  have hl : lv_has ls 3 [(0, .ref h0), (1, .int (nI j)), (2, .int w)] := hl
  refine lv_aload_n hx hb dX0_word_0 rfl (lv_at hl 0 rfl) ?_
  refine va_get (D := (dC, dI)) (ci := 0) (v := .ref qa) (C := RX0) (T := TX0) (N := 2) hx hb hts in_X0 hown hK hP 0 rfl rfl 0 (by decide) (hts _ q23) (fun _ h9 => h9) rfl dX0_word_1 ?_
  refine lv_iload_n hx hb dX0_word_4 rfl (lv_at hl 1 rfl) ?_
  refine lv_iload_n hx hb dX0_word_5 rfl (lv_at hl 2 rfl) ?_
  refine lv_bipush (v := nI 24) hx hb dX0_word_6 (by decide +kernel) ?_
  refine lv_ishr hx hb dX0_word_8 ?_
  refine lv_i2b hx hb dX0_word_9 rfl ?_
  refine wt_to (wt_by w 0) (wt_by0 w) ?_
  refine wt_bast hx hb hK hP hD hS 1 0 rfl rfl (rfl) (by omega) dX0_word_10 (fun H locs hP hD hS => ?_)
  have hP : va_P (dC, dI) vwCl (wt_o 0 h0 qa dB n (upd f j (wt_by w 0))) H := hP
  have hD : va_D A (wt_o 0 h0 qa dB n (upd f j (wt_by w 0))) := hD
  refine lv_aload_n hx hb dX0_word_11 rfl (lv_at hl 0 rfl) ?_
  refine va_get (D := (dC, dI)) (ci := 0) (v := .ref qa) (C := RX0) (T := TX0) (N := 2) hx hb hts in_X0 hown hK hP 0 rfl rfl 0 (by decide) (hts _ q23) (fun _ h9 => h9) rfl dX0_word_12 ?_
  refine lv_iload_n hx hb dX0_word_15 rfl (lv_at hl 1 rfl) ?_
  refine lv_iconst (v := nI 1) hx hb dX0_word_16 (by decide +kernel) ?_
  refine lv_iadd hx hb dX0_word_17 ?_
  refine wt_to (nI (j + 1)) (nI_add j 1) ?_
  refine lv_iload_n hx hb dX0_word_18 rfl (lv_at hl 2 rfl) ?_
  refine lv_bipush (v := nI 16) hx hb dX0_word_19 (by decide +kernel) ?_
  refine lv_ishr hx hb dX0_word_21 ?_
  refine lv_i2b hx hb dX0_word_22 rfl ?_
  refine wt_to (wt_by w 1) (wt_by1 w) ?_
  refine wt_bast hx hb hK hP hD hS 1 0 rfl rfl (rfl) (by omega) dX0_word_23 (fun H locs hP hD hS => ?_)
  have hP : va_P (dC, dI) vwCl (wt_o 0 h0 qa dB n (upd (upd f j (wt_by w 0)) (j + 1) (wt_by w 1))) H := hP
  have hD : va_D A (wt_o 0 h0 qa dB n (upd (upd f j (wt_by w 0)) (j + 1) (wt_by w 1))) := hD
  refine lv_aload_n hx hb dX0_word_24 rfl (lv_at hl 0 rfl) ?_
  refine va_get (D := (dC, dI)) (ci := 0) (v := .ref qa) (C := RX0) (T := TX0) (N := 2) hx hb hts in_X0 hown hK hP 0 rfl rfl 0 (by decide) (hts _ q23) (fun _ h9 => h9) rfl dX0_word_25 ?_
  refine lv_iload_n hx hb dX0_word_28 rfl (lv_at hl 1 rfl) ?_
  refine lv_iconst (v := nI 2) hx hb dX0_word_29 (by decide +kernel) ?_
  refine lv_iadd hx hb dX0_word_30 ?_
  refine wt_to (nI (j + 2)) (nI_add j 2) ?_
  refine lv_iload_n hx hb dX0_word_31 rfl (lv_at hl 2 rfl) ?_
  refine lv_bipush (v := nI 8) hx hb dX0_word_32 (by decide +kernel) ?_
  refine lv_ishr hx hb dX0_word_34 ?_
  refine lv_i2b hx hb dX0_word_35 rfl ?_
  refine wt_to (wt_by w 2) (wt_by2 w) ?_
  refine wt_bast hx hb hK hP hD hS 1 0 rfl rfl (rfl) (by omega) dX0_word_36 (fun H locs hP hD hS => ?_)
  have hP : va_P (dC, dI) vwCl (wt_o 0 h0 qa dB n (upd (upd (upd f j (wt_by w 0)) (j + 1) (wt_by w 1)) (j + 2) (wt_by w 2))) H := hP
  have hD : va_D A (wt_o 0 h0 qa dB n (upd (upd (upd f j (wt_by w 0)) (j + 1) (wt_by w 1)) (j + 2) (wt_by w 2))) := hD
  refine lv_aload_n hx hb dX0_word_37 rfl (lv_at hl 0 rfl) ?_
  refine va_get (D := (dC, dI)) (ci := 0) (v := .ref qa) (C := RX0) (T := TX0) (N := 2) hx hb hts in_X0 hown hK hP 0 rfl rfl 0 (by decide) (hts _ q23) (fun _ h9 => h9) rfl dX0_word_38 ?_
  refine lv_iload_n hx hb dX0_word_41 rfl (lv_at hl 1 rfl) ?_
  refine lv_iconst (v := nI 3) hx hb dX0_word_42 (by decide +kernel) ?_
  refine lv_iadd hx hb dX0_word_43 ?_
  refine wt_to (nI (j + 3)) (nI_add j 3) ?_
  refine lv_iload_n hx hb dX0_word_44 rfl (lv_at hl 2 rfl) ?_
  refine lv_i2b hx hb dX0_word_45 rfl ?_
  refine wt_to (wt_by w 3) (wt_by3 w) ?_
  refine wt_bast hx hb hK hP hD hS 1 0 rfl rfl (rfl) (by omega) dX0_word_46 (fun H locs hP hD hS => ?_)
  have hP : va_P (dC, dI) vwCl (wt_o 0 h0 qa dB n (upd (upd (upd (upd f j (wt_by w 0)) (j + 1) (wt_by w 1)) (j + 2) (wt_by w 2)) (j + 3) (wt_by w 3))) H := hP
  have hD : va_D A (wt_o 0 h0 qa dB n (upd (upd (upd (upd f j (wt_by w 0)) (j + 1) (wt_by w 1)) (j + 2) (wt_by w 2)) (j + 3) (wt_by w 3))) := hD
  exact W.vret hx hb hr (fun t ht hW => ⟨⟨(n, (upd (upd (upd (upd f j (wt_by w 0)) (j + 1) (wt_by w 1)) (j + 2) (wt_by w 2)) (j + 3) (wt_by w 3))), rfl, rfl, by rw [ht]; exact hP, va_K.moved hW.alike hK, hD⟩, hS.F ht⟩) hS.2.2 dX0_word_47
set_option maxHeartbeats 4000000 in
set_option maxRecDepth 100000 in
/-- WireText.put -/
theorem cX0_put_met (l : Launch) (dC : Nat → ClassId) (dI : Nat → Nat → Nat) (h0 qa : Nat) (dB : ClassId) (sz n : Nat) (f : Nat → Int32) (hn : n ≤ 4096) (a b c0 d : Int32) : Met l yX0_put (ws_ yX0_put cX0_put 5 (some .boolean)) ({ frames := 1, cells := 0, slots := 0, locals := 22 }) (va_Pc [.ref h0, .int a, .int b, .int c0, .int d] (fun U => U.heap.size = sz ∧ va_P (dC, dI) vwCl (wt_o 0 h0 qa dB n f) U.heap ∧ va_K (dC, dI) vwCl [(dB, .byte)] U ∧ va_D (fun _ => True) (wt_o 0 h0 qa dB n f))) (va_Qi (fun (r : Int32) (u : Nat × (Nat → Int32)) => r = wt_pr n ∧ u = (wt_pn n, wt_pf n f a b c0 d)) (Bo 0 dC dI (va_A (wt_o 0 h0 qa dB n f) sz) h0 qa dB) (va_A (wt_o 0 h0 qa dB n f) sz)) 0 0 (va_A (wt_o 0 h0 qa dB n f) sz) := by
  refine Met.ofW (cc := cX0_put) (maxL := 5) (ret := (some .boolean)) (by decide) rfl ?_
  intro p e s m args below meth c s₁ B hml hv
  obtain ⟨rfl, hsz, hP, hK, hD0⟩ := hv
  have hx := B.exec
  have hb := B.bytes
  have hr := B.returns
  have hts := atoms_spec (ws := ws_ yX0_put cX0_put 5 (some .boolean)) B.pre
  have hts : ∀ w ∈ lw_all, w.before _ s = true := fun w h => hts w (List.mem_cons_of_mem _ h)
  have hown : s.vm.findClass RX0 = some m.cls := findClass_of_methodNamed B.named
  have hlocks := B.notSynchronized
  subst hsz
  have hD := hD0.self (sz := s.heap.size)
  generalize hAe : va_A (wt_o 0 h0 qa dB n f) s.heap.size = A at hD ⊢
  have hA : ∀ q : Nat, s.heap.size ≤ q → A q := fun q h => by rw [← hAe]; exact Or.inr h
  have hS : va_S A s.heap s.heap [] := va_S.rf
  have hP : va_P (dC, dI) vwCl (wt_o 0 h0 qa dB n f) s.heap := hP
  have hl := lv_entry ([.ref h0, .int a, .int b, .int c0, .int d]) (n := 5) (Nat.le_of_ble_eq_true rfl)
  rw [lg_entry_eq]
  generalize (lg_sl ([.ref h0, .int a, .int b, .int c0, .int d]) ++ List.replicate (5 - (lg_sl ([.ref h0, .int a, .int b, .int c0, .int d])).length) Slot.unset).toArray = ls at hl ⊢
  have hl : lv_has ls 5 [(0, .ref h0), (1, .int a), (2, .int b), (3, .int c0), (4, .int d)] := hl
  refine lv_aload_n hx hb dX0_put_0 rfl (lv_at hl 0 rfl) ?_
  refine va_get (D := (dC, dI)) (ci := 0) (v := .int (nI n)) (C := RX0) (T := TX0) (N := 2) hx hb hts in_X0 hown hK hP 0 rfl rfl 1 (by decide) (hts _ q24) (fun _ h9 => h9) rfl dX0_put_1 ?_
  refine lv_aload_n hx hb dX0_put_4 rfl (lv_at hl 0 rfl) ?_
  refine va_get (D := (dC, dI)) (ci := 0) (v := .ref qa) (C := RX0) (T := TX0) (N := 2) hx hb hts in_X0 hown hK hP 0 rfl rfl 0 (by decide) (hts _ q23) (fun _ h9 => h9) rfl dX0_put_5 ?_
  refine va_alen (v := nI 4096) hx hb hK hP 1 0 rfl rfl rfl dX0_put_8 ?_
  refine lv_bipush (v := nI 16) hx hb dX0_put_9 (by decide +kernel) ?_
  refine lv_isub hx hb dX0_put_11 ?_
  refine wt_to (nI 4080) (by decide +kernel) ?_
  refine lv_icmp_le (tgt := 17) hx hb dX0_put_12 (by decide) (fun c_12 => ?_) (fun c_12 => ?_)
  · have h1 : n ≤ 4080 := (nI_leI (by omega) (by omega)).mp c_12
    refine lv_aload_n hx hb dX0_put_17 rfl (lv_at hl 0 rfl) ?_
    refine lv_aload_n hx hb dX0_put_18 rfl (lv_at hl 0 rfl) ?_
    refine va_get (D := (dC, dI)) (ci := 0) (v := .int (nI n)) (C := RX0) (T := TX0) (N := 2) hx hb hts in_X0 hown hK hP 0 rfl rfl 1 (by decide) (hts _ q24) (fun _ h9 => h9) rfl dX0_put_19 ?_
    refine lv_iload_n hx hb dX0_put_22 rfl (lv_at hl 1 rfl) ?_
    have hPc := hP.sub (ws' := (wt_o 0 h0 qa dB n f)) [0, 1] rfl
    have hDc := hD.sub (ws' := (wt_o 0 h0 qa dB n f)) [0, 1] (by decide) rfl
    have hFc := va_free (wc := (wt_o 0 h0 qa dB n f)) hD hS hA [0, 1] rfl
    refine va_callv (va_runV (As := [.int (nI n), .int a]) (rest := []) ⟨hx, hb, hml, hown, hts⟩ (cX0_word_met l dC dI h0 qa dB s.heap.size n f n (by omega) a) (cwV 2 hts (lw_V q35 q37 qs0 q7 q38) rfl rfl rfl (by decide +kernel) ⟨Nat.le_of_ble_eq_true rfl, Nat.le_of_ble_eq_true rfl⟩) ⟨fun a U g mk q => by obtain ⟨q0, q1, qP, qK, qD⟩ := q; exact ⟨q0, q1, qP, va_K.moved (u := U) (U := U.calling g mk a) (Vm.Alike.refl U.vm) qK, qD⟩, va_recv hK hPc (ci := 0) (q0 := 0) rfl rfl, fun U hU hW => ⟨rfl, by rw [hU], by rw [hU]; exact hPc, va_K.moved hW.alike (hK.sub [0] rfl), hDc.weaken (fun _ _ _ _ => trivial)⟩⟩ rfl rfl hl.1 rfl (lv_room (Nat.le_of_ble_eq_true rfl)) dX0_put_23 ⟨Nat.le_of_ble_eq_true rfl, Nat.le_of_ble_eq_true rfl⟩) hS (fun q _ h => hFc q h) hFc (fun u_23 t H1 locs ht hvm hw hB hz1 hk1 hS => ?_)
    obtain ⟨hP1, -, hD1⟩ := hB
    rw [ht] at hP1
    obtain rfl := hw.symm
    obtain ⟨hP, hD⟩ := va_join (wr := []) (w1 := (wt_o 0 h0 qa dB n (wt_wd f n a))) hP hD [0, 1] [] rfl rfl (by decide) (by decide) hk1 hFc hP1 hD1
    generalize H1 = H at hP hS ⊢
    have hP : va_P (dC, dI) vwCl (wt_o 0 h0 qa dB n (wt_wd f n a)) H := hP
    have hD : va_D A (wt_o 0 h0 qa dB n (wt_wd f n a)) := hD
    refine lv_aload_n hx hb dX0_put_26 rfl (lv_at hl 0 rfl) ?_
    refine lv_aload_n hx hb dX0_put_27 rfl (lv_at hl 0 rfl) ?_
    refine va_get (D := (dC, dI)) (ci := 0) (v := .int (nI n)) (C := RX0) (T := TX0) (N := 2) hx hb hts in_X0 hown hK hP 0 rfl rfl 1 (by decide) (hts _ q24) (fun _ h9 => h9) rfl dX0_put_28 ?_
    refine lv_iconst (v := nI 4) hx hb dX0_put_31 (by decide +kernel) ?_
    refine lv_iadd hx hb dX0_put_32 ?_
    refine wt_to (nI (n + 4)) (nI_add n 4) ?_
    refine lv_iload_n hx hb dX0_put_33 rfl (lv_at hl 2 rfl) ?_
    have hPc := hP.sub (ws' := (wt_o 0 h0 qa dB n (wt_wd f n a))) [0, 1] rfl
    have hDc := hD.sub (ws' := (wt_o 0 h0 qa dB n (wt_wd f n a))) [0, 1] (by decide) rfl
    have hFc := va_free (wc := (wt_o 0 h0 qa dB n (wt_wd f n a))) hD hS hA [0, 1] rfl
    refine va_callv (va_runV (As := [.int (nI (n + 4)), .int b]) (rest := []) ⟨hx, hb, hml, hown, hts⟩ (cX0_word_met l dC dI h0 qa dB H.size n (wt_wd f n a) (n + 4) (by omega) b) (cwV 2 hts (lw_V q35 q37 qs0 q7 q38) rfl rfl rfl (by decide +kernel) ⟨Nat.le_of_ble_eq_true rfl, Nat.le_of_ble_eq_true rfl⟩) ⟨fun a U g mk q => by obtain ⟨q0, q1, qP, qK, qD⟩ := q; exact ⟨q0, q1, qP, va_K.moved (u := U) (U := U.calling g mk a) (Vm.Alike.refl U.vm) qK, qD⟩, va_recv hK hPc (ci := 0) (q0 := 0) rfl rfl, fun U hU hW => ⟨rfl, by rw [hU], by rw [hU]; exact hPc, va_K.moved hW.alike (hK.sub [0] rfl), hDc.weaken (fun _ _ _ _ => trivial)⟩⟩ rfl rfl hl.1 rfl (lv_room (Nat.le_of_ble_eq_true rfl)) dX0_put_34 ⟨Nat.le_of_ble_eq_true rfl, Nat.le_of_ble_eq_true rfl⟩) hS (fun q _ h => hFc q h) hFc (fun u_34 t H1 locs ht hvm hw hB hz1 hk1 hS => ?_)
    obtain ⟨hP1, -, hD1⟩ := hB
    rw [ht] at hP1
    obtain rfl := hw.symm
    obtain ⟨hP, hD⟩ := va_join (wr := []) (w1 := (wt_o 0 h0 qa dB n (wt_wd (wt_wd f n a) (n + 4) b))) hP hD [0, 1] [] rfl rfl (by decide) (by decide) hk1 hFc hP1 hD1
    generalize H1 = H at hP hS ⊢
    have hP : va_P (dC, dI) vwCl (wt_o 0 h0 qa dB n (wt_wd (wt_wd f n a) (n + 4) b)) H := hP
    have hD : va_D A (wt_o 0 h0 qa dB n (wt_wd (wt_wd f n a) (n + 4) b)) := hD
    refine lv_aload_n hx hb dX0_put_37 rfl (lv_at hl 0 rfl) ?_
    refine lv_aload_n hx hb dX0_put_38 rfl (lv_at hl 0 rfl) ?_
    refine va_get (D := (dC, dI)) (ci := 0) (v := .int (nI n)) (C := RX0) (T := TX0) (N := 2) hx hb hts in_X0 hown hK hP 0 rfl rfl 1 (by decide) (hts _ q24) (fun _ h9 => h9) rfl dX0_put_39 ?_
    refine lv_bipush (v := nI 8) hx hb dX0_put_42 (by decide +kernel) ?_
    refine lv_iadd hx hb dX0_put_44 ?_
    refine wt_to (nI (n + 8)) (nI_add n 8) ?_
    refine lv_iload_n hx hb dX0_put_45 rfl (lv_at hl 3 rfl) ?_
    have hPc := hP.sub (ws' := (wt_o 0 h0 qa dB n (wt_wd (wt_wd f n a) (n + 4) b))) [0, 1] rfl
    have hDc := hD.sub (ws' := (wt_o 0 h0 qa dB n (wt_wd (wt_wd f n a) (n + 4) b))) [0, 1] (by decide) rfl
    have hFc := va_free (wc := (wt_o 0 h0 qa dB n (wt_wd (wt_wd f n a) (n + 4) b))) hD hS hA [0, 1] rfl
    refine va_callv (va_runV (As := [.int (nI (n + 8)), .int c0]) (rest := []) ⟨hx, hb, hml, hown, hts⟩ (cX0_word_met l dC dI h0 qa dB H.size n (wt_wd (wt_wd f n a) (n + 4) b) (n + 8) (by omega) c0) (cwV 2 hts (lw_V q35 q37 qs0 q7 q38) rfl rfl rfl (by decide +kernel) ⟨Nat.le_of_ble_eq_true rfl, Nat.le_of_ble_eq_true rfl⟩) ⟨fun a U g mk q => by obtain ⟨q0, q1, qP, qK, qD⟩ := q; exact ⟨q0, q1, qP, va_K.moved (u := U) (U := U.calling g mk a) (Vm.Alike.refl U.vm) qK, qD⟩, va_recv hK hPc (ci := 0) (q0 := 0) rfl rfl, fun U hU hW => ⟨rfl, by rw [hU], by rw [hU]; exact hPc, va_K.moved hW.alike (hK.sub [0] rfl), hDc.weaken (fun _ _ _ _ => trivial)⟩⟩ rfl rfl hl.1 rfl (lv_room (Nat.le_of_ble_eq_true rfl)) dX0_put_46 ⟨Nat.le_of_ble_eq_true rfl, Nat.le_of_ble_eq_true rfl⟩) hS (fun q _ h => hFc q h) hFc (fun u_46 t H1 locs ht hvm hw hB hz1 hk1 hS => ?_)
    obtain ⟨hP1, -, hD1⟩ := hB
    rw [ht] at hP1
    obtain rfl := hw.symm
    obtain ⟨hP, hD⟩ := va_join (wr := []) (w1 := (wt_o 0 h0 qa dB n (wt_wd (wt_wd (wt_wd f n a) (n + 4) b) (n + 8) c0))) hP hD [0, 1] [] rfl rfl (by decide) (by decide) hk1 hFc hP1 hD1
    generalize H1 = H at hP hS ⊢
    have hP : va_P (dC, dI) vwCl (wt_o 0 h0 qa dB n (wt_wd (wt_wd (wt_wd f n a) (n + 4) b) (n + 8) c0)) H := hP
    have hD : va_D A (wt_o 0 h0 qa dB n (wt_wd (wt_wd (wt_wd f n a) (n + 4) b) (n + 8) c0)) := hD
    refine lv_aload_n hx hb dX0_put_49 rfl (lv_at hl 0 rfl) ?_
    refine lv_aload_n hx hb dX0_put_50 rfl (lv_at hl 0 rfl) ?_
    refine va_get (D := (dC, dI)) (ci := 0) (v := .int (nI n)) (C := RX0) (T := TX0) (N := 2) hx hb hts in_X0 hown hK hP 0 rfl rfl 1 (by decide) (hts _ q24) (fun _ h9 => h9) rfl dX0_put_51 ?_
    refine lv_bipush (v := nI 12) hx hb dX0_put_54 (by decide +kernel) ?_
    refine lv_iadd hx hb dX0_put_56 ?_
    refine wt_to (nI (n + 12)) (nI_add n 12) ?_
    refine lv_iload hx hb dX0_put_57 (lv_at hl 4 rfl) ?_
    have hPc := hP.sub (ws' := (wt_o 0 h0 qa dB n (wt_wd (wt_wd (wt_wd f n a) (n + 4) b) (n + 8) c0))) [0, 1] rfl
    have hDc := hD.sub (ws' := (wt_o 0 h0 qa dB n (wt_wd (wt_wd (wt_wd f n a) (n + 4) b) (n + 8) c0))) [0, 1] (by decide) rfl
    have hFc := va_free (wc := (wt_o 0 h0 qa dB n (wt_wd (wt_wd (wt_wd f n a) (n + 4) b) (n + 8) c0))) hD hS hA [0, 1] rfl
    refine va_callv (va_runV (As := [.int (nI (n + 12)), .int d]) (rest := []) ⟨hx, hb, hml, hown, hts⟩ (cX0_word_met l dC dI h0 qa dB H.size n (wt_wd (wt_wd (wt_wd f n a) (n + 4) b) (n + 8) c0) (n + 12) (by omega) d) (cwV 2 hts (lw_V q35 q37 qs0 q7 q38) rfl rfl rfl (by decide +kernel) ⟨Nat.le_of_ble_eq_true rfl, Nat.le_of_ble_eq_true rfl⟩) ⟨fun a U g mk q => by obtain ⟨q0, q1, qP, qK, qD⟩ := q; exact ⟨q0, q1, qP, va_K.moved (u := U) (U := U.calling g mk a) (Vm.Alike.refl U.vm) qK, qD⟩, va_recv hK hPc (ci := 0) (q0 := 0) rfl rfl, fun U hU hW => ⟨rfl, by rw [hU], by rw [hU]; exact hPc, va_K.moved hW.alike (hK.sub [0] rfl), hDc.weaken (fun _ _ _ _ => trivial)⟩⟩ rfl rfl hl.1 rfl (lv_room (Nat.le_of_ble_eq_true rfl)) dX0_put_59 ⟨Nat.le_of_ble_eq_true rfl, Nat.le_of_ble_eq_true rfl⟩) hS (fun q _ h => hFc q h) hFc (fun u_59 t H1 locs ht hvm hw hB hz1 hk1 hS => ?_)
    obtain ⟨hP1, -, hD1⟩ := hB
    rw [ht] at hP1
    obtain rfl := hw.symm
    obtain ⟨hP, hD⟩ := va_join (wr := []) (w1 := (wt_o 0 h0 qa dB n (wt_wd (wt_wd (wt_wd (wt_wd f n a) (n + 4) b) (n + 8) c0) (n + 12) d))) hP hD [0, 1] [] rfl rfl (by decide) (by decide) hk1 hFc hP1 hD1
    generalize H1 = H at hP hS ⊢
    have hP : va_P (dC, dI) vwCl (wt_o 0 h0 qa dB n (wt_wd (wt_wd (wt_wd (wt_wd f n a) (n + 4) b) (n + 8) c0) (n + 12) d)) H := hP
    have hD : va_D A (wt_o 0 h0 qa dB n (wt_wd (wt_wd (wt_wd (wt_wd f n a) (n + 4) b) (n + 8) c0) (n + 12) d)) := hD
    refine lv_aload_n hx hb dX0_put_62 rfl (lv_at hl 0 rfl) ?_
    refine lv_dup hx hb dX0_put_63 rfl ?_
    refine va_get (D := (dC, dI)) (ci := 0) (v := .int (nI n)) (C := RX0) (T := TX0) (N := 2) hx hb hts in_X0 hown hK hP 0 rfl rfl 1 (by decide) (hts _ q24) (fun _ h9 => h9) rfl dX0_put_64 ?_
    refine lv_bipush (v := nI 16) hx hb dX0_put_67 (by decide +kernel) ?_
    refine lv_iadd hx hb dX0_put_69 ?_
    refine wt_to (nI (n + 16)) (nI_add n 16) ?_
    refine va_put (D := (dC, dI)) (ci := 0) (v := .int (nI (n + 16))) (ty := .int) (C := RX0) (T := TX0) (N := 2) hx hb hts in_X0 tyX0 tyX0_ok nmX0 hown hK hP hD hS 0 rfl rfl 1 (by decide) (hts _ q24) (fun _ h9 => h9) rfl (by decide +kernel) rfl rfl (Nat.le_of_ble_eq_true rfl) dX0_put_70 (fun H locs hP hD hS => ?_)
    have hP : va_P (dC, dI) vwCl (wt_o 0 h0 qa dB (n + 16) (wt_wd (wt_wd (wt_wd (wt_wd f n a) (n + 4) b) (n + 8) c0) (n + 12) d)) H := hP
    have hD : va_D A (wt_o 0 h0 qa dB (n + 16) (wt_wd (wt_wd (wt_wd (wt_wd f n a) (n + 4) b) (n + 8) c0) (n + 12) d)) := hD
    refine lv_iconst (v := 1) hx hb dX0_put_73 (by decide +kernel) ?_
    have hu : (n + 16, (wt_wd (wt_wd (wt_wd (wt_wd f n a) (n + 4) b) (n + 8) c0) (n + 12) d)) = (wt_pn n, wt_pf n f a b c0 d) := by unfold wt_pn wt_pf; rw [if_pos h1, if_pos h1]; rfl
    exact W.zret (v := 1) hx hb hr (rfl) (fun t ht hW => ⟨⟨1, (n + 16, (wt_wd (wt_wd (wt_wd (wt_wd f n a) (n + 4) b) (n + 8) c0) (n + 12) d)), rfl, ⟨by unfold wt_pr; rw [if_pos h1], hu⟩, by rw [ht]; exact hP, va_K.moved hW.alike hK, hD⟩, hS.F ht⟩) hS.2.2 dX0_put_74
  · have h1 : ¬ n ≤ 4080 := fun q => c_12 (nI_le q (by omega))
    refine lv_iconst (v := 0) hx hb dX0_put_15 (by decide +kernel) ?_
    exact W.zret (v := 0) hx hb hr (rfl) (fun t ht hW => ⟨⟨0, (n, f), rfl, ⟨by unfold wt_pr; rw [if_neg h1], by unfold wt_pn wt_pf; rw [if_neg h1, if_neg h1]⟩, by rw [ht]; exact hP, va_K.moved hW.alike hK, hD⟩, hS.F ht⟩) hS.2.2 dX0_put_16
end
section
set_option maxHeartbeats 4000000 in
set_option maxRecDepth 100000 in
/-- WireTextModel.put's loop at its head: k bytes written -/
theorem wt_loopP {p : Program} {l : Launch} {e : Env} {R : Room} {s : State} {m : MethodId} {args : Array Value} {below : List Frame} {meth : Method} {c : Code} {cells slots : Nat} {Q : State → Prop} {dC : Nat → ClassId} {dI : Nat → Nat → Nat} {A : Nat → Prop} {H0 : Heap} {h0 qa : Nat} {dB : ClassId} {n : Nat} {f : Nat → Int32} {a b c0 d : Int32} (hx : p.tables.exec = Jvm.exec) (hb : c.code = cX1_put) (hown : s.vm.findClass RX1 = some m.cls) (hts : ∀ w ∈ lw_all, w.before args s = true) (hK : va_K (dC, dI) vwCl [(dB, .byte)] s) (hn : n ≤ 4080)
    (kk : ∀ (H : Heap) (locs : List Loc) (ls : Array Slot), va_P (dC, dI) vwCl (wt_o 1 h0 qa dB n (wt_pt f n a b c0 d 16)) H → va_D A (wt_o 1 h0 qa dB n (wt_pt f n a b c0 d 16)) → va_S A H0 H locs → lv_has ls 7 [(0, .ref h0)] → W p l e R s m args below meth c H locs cells slots Q (F0 m 93 ls [])) :
    ∀ (r k : Nat), k + r = 16 → ∀ (H : Heap) (locs : List Loc) (ls : Array Slot), va_P (dC, dI) vwCl (wt_o 1 h0 qa dB n (wt_pt f n a b c0 d k)) H → va_D A (wt_o 1 h0 qa dB n (wt_pt f n a b c0 d k)) → va_S A H0 H locs → lv_has ls 7 [(5, .int (nI k)), (0, .ref h0), (1, .int a), (2, .int b), (3, .int c0), (4, .int d)] → W p l e R s m args below meth c H locs cells slots Q (F0 m 18 ls []) := by
  intro r
  induction r with
  | zero =>
    intro k hk H locs ls hP hD hS hl
    obtain rfl : k = 16 := hk
    refine lv_iload hx hb dX1_put_18 (lv_at hl 0 rfl) ?_
    refine lv_bipush (v := nI 16) hx hb dX1_put_20 (by decide +kernel) ?_
    refine lv_icmp_ge (tgt := 93) hx hb dX1_put_22 (by decide) (fun c_22 => ?_) (fun c_22 => ?_)
    · exact kk H locs ls hP hD hS (lv_sub hl [1] rfl)
    · exact absurd (Int32.le_refl _) c_22
  | succ r ih =>
    intro k hk H locs ls hP hD hS hl
    have hk16 : k < 16 := by omega
    have tail : W p l e R s m args below meth c H locs cells slots Q (F0 m 59 ls [.int (wt_w a b c0 d k)]) := by
      refine lv_istore (lv' := [(6, .int (wt_w a b c0 d k)), (5, .int (nI k)), (0, .ref h0), (1, .int a), (2, .int b), (3, .int c0), (4, .int d)]) hx hb dX1_put_59 hl (by decide) rfl (fun ls hl => ?_)
      refine lv_aload_n hx hb dX1_put_61 rfl (lv_at hl 2 rfl) ?_
      refine va_get (D := (dC, dI)) (ci := 1) (v := .ref qa) (C := RX1) (T := TX1) (N := 2) hx hb hts in_X1 hown hK hP 0 rfl rfl 0 (by decide) (hts _ q144) (fun _ h9 => h9) rfl dX1_put_62 ?_
      refine lv_aload_n hx hb dX1_put_65 rfl (lv_at hl 2 rfl) ?_
      refine va_get (D := (dC, dI)) (ci := 1) (v := .int (nI n)) (C := RX1) (T := TX1) (N := 2) hx hb hts in_X1 hown hK hP 0 rfl rfl 1 (by decide) (hts _ q145) (fun _ h9 => h9) rfl dX1_put_66 ?_
      refine lv_iload hx hb dX1_put_69 (lv_at hl 1 rfl) ?_
      refine lv_iadd hx hb dX1_put_71 ?_
      refine wt_to (nI (n + k)) (nI_add n k) ?_
      refine lv_iload hx hb dX1_put_72 (lv_at hl 0 rfl) ?_
      refine lv_bipush (v := nI 24) hx hb dX1_put_74 (by decide +kernel) ?_
      refine lv_bipush (v := nI 8) hx hb dX1_put_76 (by decide +kernel) ?_
      refine lv_iload hx hb dX1_put_78 (lv_at hl 1 rfl) ?_
      refine lv_iconst (v := nI 3) hx hb dX1_put_80 (by decide +kernel) ?_
      refine lv_iand hx hb dX1_put_81 ?_
      refine wt_to (nI (k % 4)) (pk_andN (by omega) 2 (by decide)) ?_
      refine lv_imul hx hb dX1_put_82 ?_
      refine wt_to (nI (8 * (k % 4))) (pk_mul 8 (k % 4)) ?_
      refine lv_isub hx hb dX1_put_83 ?_
      refine wt_to (nI (24 - 8 * (k % 4))) (pk_sub (by omega)) ?_
      refine lv_iushr hx hb dX1_put_84 rfl ?_
      refine lv_i2b hx hb dX1_put_85 rfl ?_
      refine wt_to (wt_by (wt_w a b c0 d k) k) (rfl) ?_
      refine wt_bast hx hb hK hP hD hS 1 0 rfl rfl (rfl) (by omega) dX1_put_86 (fun H locs hP hD hS => ?_)
      have hP : va_P (dC, dI) vwCl (wt_o 1 h0 qa dB n (wt_pt f n a b c0 d (k + 1))) H := hP
      have hD : va_D A (wt_o 1 h0 qa dB n (wt_pt f n a b c0 d (k + 1))) := hD
      refine lv_iinc (v := (nI (k + 1))) (lv' := [(5, .int (nI (k + 1))), (6, .int (wt_w a b c0 d k)), (0, .ref h0), (1, .int a), (2, .int b), (3, .int c0), (4, .int d)]) hx hb dX1_put_87 hl (k := 1) rfl (nI_1 k) (by decide) rfl (fun ls hl => ?_)
      refine lv_goto (tgt := 18) hx hb dX1_put_90 (by decide) ?_
      exact ih (k + 1) (by omega) H locs ls hP hD hS (lv_sub hl [0, 2, 3, 4, 5, 6] rfl)
    refine lv_iload hx hb dX1_put_18 (lv_at hl 0 rfl) ?_
    refine lv_bipush (v := nI 16) hx hb dX1_put_20 (by decide +kernel) ?_
    refine lv_icmp_ge (tgt := 93) hx hb dX1_put_22 (by decide) (fun c_22 => ?_) (fun c_22 => ?_)
    · exact absurd c_22 (nI_ge hk16 (by omega))
    · refine lv_iload hx hb dX1_put_25 (lv_at hl 0 rfl) ?_
      refine lv_iconst (v := nI 4) hx hb dX1_put_27 (by decide +kernel) ?_
      refine lv_icmp_ge (tgt := 35) hx hb dX1_put_28 (by decide) (fun c_28 => ?_) (fun c_28 => ?_)
      · have h4 : 4 ≤ k := (nI_leI (by omega) (by omega)).mp c_28
        refine lv_iload hx hb dX1_put_35 (lv_at hl 0 rfl) ?_
        refine lv_bipush (v := nI 8) hx hb dX1_put_37 (by decide +kernel) ?_
        refine lv_icmp_ge (tgt := 46) hx hb dX1_put_39 (by decide) (fun c_39 => ?_) (fun c_39 => ?_)
        · have h8 : 8 ≤ k := (nI_leI (by omega) (by omega)).mp c_39
          refine lv_iload hx hb dX1_put_46 (lv_at hl 0 rfl) ?_
          refine lv_bipush (v := nI 12) hx hb dX1_put_48 (by decide +kernel) ?_
          refine lv_icmp_ge (tgt := 57) hx hb dX1_put_50 (by decide) (fun c_50 => ?_) (fun c_50 => ?_)
          · have h12 : 12 ≤ k := (nI_leI (by omega) (by omega)).mp c_50
            refine lv_iload hx hb dX1_put_57 (lv_at hl 5 rfl) ?_
            rw [show wt_w a b c0 d k = d by unfold wt_w; rw [if_neg (by omega), if_neg (by omega), if_neg (by omega)]] at tail
            exact tail
          · have h12 : k < 12 := Nat.lt_of_not_le (fun q => c_50 (nI_le q (by omega)))
            refine lv_iload_n hx hb dX1_put_53 rfl (lv_at hl 4 rfl) ?_
            refine lv_goto (tgt := 59) hx hb dX1_put_54 (by decide) ?_
            rw [show wt_w a b c0 d k = c0 by unfold wt_w; rw [if_neg (by omega), if_neg (by omega), if_pos h12]] at tail
            exact tail
        · have h8 : k < 8 := Nat.lt_of_not_le (fun q => c_39 (nI_le q (by omega)))
          refine lv_iload_n hx hb dX1_put_42 rfl (lv_at hl 3 rfl) ?_
          refine lv_goto (tgt := 59) hx hb dX1_put_43 (by decide) ?_
          rw [show wt_w a b c0 d k = b by unfold wt_w; rw [if_neg (by omega), if_pos h8]] at tail
          exact tail
      · have h4 : k < 4 := Nat.lt_of_not_le (fun q => c_28 (nI_le q (by omega)))
        refine lv_iload_n hx hb dX1_put_31 rfl (lv_at hl 2 rfl) ?_
        refine lv_goto (tgt := 59) hx hb dX1_put_32 (by decide) ?_
        rw [show wt_w a b c0 d k = a by unfold wt_w; rw [if_pos h4]] at tail
        exact tail
set_option maxHeartbeats 4000000 in
set_option maxRecDepth 100000 in
/-- WireTextModel.put -/
theorem cX1_put_met (l : Launch) (dC : Nat → ClassId) (dI : Nat → Nat → Nat) (h0 qa : Nat) (dB : ClassId) (sz n : Nat) (f : Nat → Int32) (hn : n ≤ 4096) (a b c0 d : Int32) : Met l yX1_put (ws_ yX1_put cX1_put 7 (some .boolean)) ({ frames := 0, cells := 0, slots := 0, locals := 0 }) (va_Pc [.ref h0, .int a, .int b, .int c0, .int d] (fun U => U.heap.size = sz ∧ va_P (dC, dI) vwCl (wt_o 1 h0 qa dB n f) U.heap ∧ va_K (dC, dI) vwCl [(dB, .byte)] U ∧ va_D (fun _ => True) (wt_o 1 h0 qa dB n f))) (va_Qi (fun (r : Int32) (u : Nat × (Nat → Int32)) => r = wt_pr n ∧ u = (wt_pn n, wt_pf n f a b c0 d)) (Bo 1 dC dI (va_A (wt_o 1 h0 qa dB n f) sz) h0 qa dB) (va_A (wt_o 1 h0 qa dB n f) sz)) 0 0 (va_A (wt_o 1 h0 qa dB n f) sz) := by
  refine Met.ofW (cc := cX1_put) (maxL := 7) (ret := (some .boolean)) (by decide) rfl ?_
  intro p e s m args below meth c s₁ B hml hv
  obtain ⟨rfl, hsz, hP, hK, hD0⟩ := hv
  have hx := B.exec
  have hb := B.bytes
  have hr := B.returns
  have hts := atoms_spec (ws := ws_ yX1_put cX1_put 7 (some .boolean)) B.pre
  have hts : ∀ w ∈ lw_all, w.before _ s = true := fun w h => hts w (List.mem_cons_of_mem _ h)
  have hown : s.vm.findClass RX1 = some m.cls := findClass_of_methodNamed B.named
  have hlocks := B.notSynchronized
  subst hsz
  have hD := hD0.self (sz := s.heap.size)
  generalize hAe : va_A (wt_o 1 h0 qa dB n f) s.heap.size = A at hD ⊢
  have hA : ∀ q : Nat, s.heap.size ≤ q → A q := fun q h => by rw [← hAe]; exact Or.inr h
  have hS : va_S A s.heap s.heap [] := va_S.rf
  have hP : va_P (dC, dI) vwCl (wt_o 1 h0 qa dB n f) s.heap := hP
  have hl := lv_entry ([.ref h0, .int a, .int b, .int c0, .int d]) (n := 7) (Nat.le_of_ble_eq_true rfl)
  rw [lg_entry_eq]
  generalize (lg_sl ([.ref h0, .int a, .int b, .int c0, .int d]) ++ List.replicate (7 - (lg_sl ([.ref h0, .int a, .int b, .int c0, .int d])).length) Slot.unset).toArray = ls at hl ⊢
  have hl : lv_has ls 7 [(0, .ref h0), (1, .int a), (2, .int b), (3, .int c0), (4, .int d)] := hl
  refine lv_aload_n hx hb dX1_put_0 rfl (lv_at hl 0 rfl) ?_
  refine va_get (D := (dC, dI)) (ci := 1) (v := .int (nI n)) (C := RX1) (T := TX1) (N := 2) hx hb hts in_X1 hown hK hP 0 rfl rfl 1 (by decide) (hts _ q145) (fun _ h9 => h9) rfl dX1_put_1 ?_
  refine lv_bipush (v := nI 16) hx hb dX1_put_4 (by decide +kernel) ?_
  refine lv_iadd hx hb dX1_put_6 ?_
  refine wt_to (nI (n + 16)) (nI_add n 16) ?_
  refine lv_sipush (v := nI 4096) hx hb dX1_put_7 (by decide +kernel) ?_
  refine lv_icmp_le (tgt := 15) hx hb dX1_put_10 (by decide) (fun c_10 => ?_) (fun c_10 => ?_)
  · have h1 : n ≤ 4080 := by have := (nI_leI (a := n + 16) (b := 4096) (by omega) (by omega)).mp c_10; omega
    refine lv_iconst (v := nI 0) hx hb dX1_put_15 (by decide +kernel) ?_
    refine lv_istore (lv' := [(5, .int (nI 0)), (0, .ref h0), (1, .int a), (2, .int b), (3, .int c0), (4, .int d)]) hx hb dX1_put_16 hl (by decide) rfl (fun ls hl => ?_)
    refine wt_loopP (l := l) (h0 := h0) (qa := qa) (dB := dB) (n := n) (f := f) (a := a) (b := b) (c0 := c0) (d := d) hx hb hown hts hK h1 (fun H locs ls hP hD hS hl => ?_) 16 0 rfl _ _ ls hP hD hS hl
    refine lv_aload_n hx hb dX1_put_93 rfl (lv_at hl 0 rfl) ?_
    refine lv_aload_n hx hb dX1_put_94 rfl (lv_at hl 0 rfl) ?_
    refine va_get (D := (dC, dI)) (ci := 1) (v := .int (nI n)) (C := RX1) (T := TX1) (N := 2) hx hb hts in_X1 hown hK hP 0 rfl rfl 1 (by decide) (hts _ q145) (fun _ h9 => h9) rfl dX1_put_95 ?_
    refine lv_bipush (v := nI 16) hx hb dX1_put_98 (by decide +kernel) ?_
    refine lv_iadd hx hb dX1_put_100 ?_
    refine wt_to (nI (n + 16)) (nI_add n 16) ?_
    refine va_put (D := (dC, dI)) (ci := 1) (v := .int (nI (n + 16))) (ty := .int) (C := RX1) (T := TX1) (N := 2) hx hb hts in_X1 tyX1 tyX1_ok nmX1 hown hK hP hD hS 0 rfl rfl 1 (by decide) (hts _ q145) (fun _ h9 => h9) rfl (by decide +kernel) rfl rfl (Nat.le_of_ble_eq_true rfl) dX1_put_101 (fun H locs hP hD hS => ?_)
    have hP : va_P (dC, dI) vwCl (wt_o 1 h0 qa dB (n + 16) (wt_pt f n a b c0 d 16)) H := hP
    have hD : va_D A (wt_o 1 h0 qa dB (n + 16) (wt_pt f n a b c0 d 16)) := hD
    refine lv_iconst (v := 1) hx hb dX1_put_104 (by decide +kernel) ?_
    have hu : (n + 16, wt_pt f n a b c0 d 16) = (wt_pn n, wt_pf n f a b c0 d) := by unfold wt_pn wt_pf; rw [if_pos h1, if_pos h1]
    exact W.zret (v := 1) hx hb hr (rfl) (fun t ht hW => ⟨⟨1, (n + 16, wt_pt f n a b c0 d 16), rfl, ⟨by unfold wt_pr; rw [if_pos h1], hu⟩, by rw [ht]; exact hP, va_K.moved hW.alike hK, hD⟩, hS.F ht⟩) hS.2.2 dX1_put_105
  · have h1 : ¬ n ≤ 4080 := fun q => c_10 (nI_le (a := n + 16) (b := 4096) (by omega) (by omega))
    refine lv_iconst (v := 0) hx hb dX1_put_13 (by decide +kernel) ?_
    exact W.zret (v := 0) hx hb hr (rfl) (fun t ht hW => ⟨⟨0, (n, f), rfl, ⟨by unfold wt_pr; rw [if_neg h1], by unfold wt_pn wt_pf; rw [if_neg h1, if_neg h1]⟩, by rw [ht]; exact hP, va_K.moved hW.alike hK, hD⟩, hS.F ht⟩) hS.2.2 dX1_put_14
end
section
set_option maxHeartbeats 4000000 in
set_option maxRecDepth 100000 in
/-- Preconditions.checkPositionIndexes: in range, nothing -/
theorem cX3_check_met (l : Launch) (dC : Nat → ClassId) (dI : Nat → Nat → Nat) (qa : Nat) (dB : ClassId) (sz : Nat) (f : Nat → Int32) (i j k : Nat) (hij : i ≤ j) (hjk : j ≤ k) (hk : k ≤ 4096) : Met l yX3_checkPositionIndexes (ws_ yX3_checkPositionIndexes cX3_checkPositionIndexes 3 none) ({ frames := 0, cells := 0, slots := 0, locals := 0 }) (va_Pc [.int (nI i), .int (nI j), .int (nI k)] (fun U => U.heap.size = sz ∧ va_P (dC, dI) vwCl (wt_a qa dB f) U.heap ∧ va_K (dC, dI) vwCl [(dB, .byte)] U ∧ va_D (fun _ => True) (wt_a qa dB f))) (va_Qv (fun (u : Nat → Int32) => u = f) (Ba dC dI (va_A (wt_a qa dB f) sz) qa dB) (va_A (wt_a qa dB f) sz)) 0 0 (va_A (wt_a qa dB f) sz) := by
  refine Met.ofW (cc := cX3_checkPositionIndexes) (maxL := 3) (ret := none) (by decide) rfl ?_
  intro p e s m args below meth c s₁ B hml hv
  obtain ⟨rfl, hsz, hP, hK, hD0⟩ := hv
  have hx := B.exec
  have hb := B.bytes
  have hr := B.returns
  have hts := atoms_spec (ws := ws_ yX3_checkPositionIndexes cX3_checkPositionIndexes 3 none) B.pre
  have hts : ∀ w ∈ lw_all, w.before _ s = true := fun w h => hts w (List.mem_cons_of_mem _ h)
  have hown : s.vm.findClass RX3 = some m.cls := findClass_of_methodNamed B.named
  have hlocks := B.notSynchronized
  subst hsz
  have hD := hD0.self (sz := s.heap.size)
  generalize hAe : va_A (wt_a qa dB f) s.heap.size = A at hD ⊢
  have hA : ∀ q : Nat, s.heap.size ≤ q → A q := fun q h => by rw [← hAe]; exact Or.inr h
  have hS : va_S A s.heap s.heap [] := va_S.rf
  have hP : va_P (dC, dI) vwCl (wt_a qa dB f) s.heap := hP
  have hl := lv_entry ([.int (nI i), .int (nI j), .int (nI k)]) (n := 3) (Nat.le_of_ble_eq_true rfl)
  rw [lg_entry_eq]
  generalize (lg_sl ([.int (nI i), .int (nI j), .int (nI k)]) ++ List.replicate (3 - (lg_sl ([.int (nI i), .int (nI j), .int (nI k)])).length) Slot.unset).toArray = ls at hl ⊢
  have hl : lv_has ls 3 [(0, .int (nI i)), (1, .int (nI j)), (2, .int (nI k))] := hl
  refine lv_iload_n hx hb dX3_checkPositionIndexes_0 rfl (lv_at hl 0 rfl) ?_
  refine lv_if_lt (tgt := 14) hx hb dX3_checkPositionIndexes_1 (by decide) (fun c_1 => ?_) (fun c_1 => ?_)
  · exact absurd c_1 (nI_pos (by omega))
  · refine lv_iload_n hx hb dX3_checkPositionIndexes_4 rfl (lv_at hl 1 rfl) ?_
    refine lv_iload_n hx hb dX3_checkPositionIndexes_5 rfl (lv_at hl 0 rfl) ?_
    refine lv_icmp_lt (tgt := 14) hx hb dX3_checkPositionIndexes_6 (by decide) (fun c_6 => ?_) (fun c_6 => ?_)
    · exact absurd c_6 (nI_nlt hij (by omega))
    · refine lv_iload_n hx hb dX3_checkPositionIndexes_9 rfl (lv_at hl 1 rfl) ?_
      refine lv_iload_n hx hb dX3_checkPositionIndexes_10 rfl (lv_at hl 2 rfl) ?_
      refine lv_icmp_le (tgt := 24) hx hb dX3_checkPositionIndexes_11 (by decide) (fun c_11 => ?_) (fun c_11 => ?_)
      · exact W.vret hx hb hr (fun t ht hW => ⟨⟨f, rfl, rfl, by rw [ht]; exact hP, va_K.moved hW.alike hK, hD⟩, hS.F ht⟩) hS.2.2 dX3_checkPositionIndexes_24
      · exact absurd (nI_le hjk (by omega)) c_11
set_option maxHeartbeats 4000000 in
set_option maxRecDepth 100000 in
/-- Utf8.isWellFormedSlowPath's loop at its head -/
theorem wt_loopS {p : Program} {l : Launch} {e : Env} {R : Room} {s : State} {m : MethodId} {args : Array Value} {below : List Frame} {meth : Method} {c : Code} {cells slots : Nat} {Q : State → Prop} {dC : Nat → ClassId} {dI : Nat → Nat → Nat} {H : Heap} {locs : List Loc} {qa : Nat} {dB : ClassId} {f : Nat → Int32} {en : Nat} {res : Int32} (hx : p.tables.exec = Jvm.exec) (hb : c.code = cX2_isWellFormedSlowPath) (hK : va_K (dC, dI) vwCl [(dB, .byte)] s) (hP : va_P (dC, dI) vwCl (wt_a qa dB f) H) (hB : wt_B f) (he : en ≤ 4096)
    (kret : ∀ (pc : Nat) (ls : Array Slot) (v : Int32), decode cX2_isWellFormedSlowPath pc = .ok (.ireturn, 1) → v = res → W p l e R s m args below meth c H locs cells slots Q (F0 m pc ls [.int v])) :
    ∀ (n i : Nat), i ≤ en → en ≤ i + n → wt_ok f en n i = res → ∀ (ls : Array Slot), lv_has ls 6 [(0, .ref qa), (2, .int (nI en)), (3, .int (nI i))] → W p l e R s m args below meth c H locs cells slots Q (F0 m 2 ls []) := by
  intro n
  induction n with
  | zero =>
    intro i hi hin hres ls hl
    refine lv_iload_n hx hb dX2_isWellFormedSlowPath_2 rfl (lv_at hl 2 rfl) ?_
    refine lv_iload_n hx hb dX2_isWellFormedSlowPath_3 rfl (lv_at hl 1 rfl) ?_
    refine lv_icmp_lt (tgt := 9) hx hb dX2_isWellFormedSlowPath_4 (by decide) (fun c_4 => ?_) (fun c_4 => ?_)
    · exact absurd c_4 (nI_nlt (by omega) (by omega))
    · refine lv_iconst (v := 1) hx hb dX2_isWellFormedSlowPath_7 (by decide +kernel) ?_
      exact kret 8 _ 1 dX2_isWellFormedSlowPath_8 (by rw [← hres, wt_ok_end (by omega)])
  | succ n ih =>
    intro i hi hin hres ls hl
    refine lv_iload_n hx hb dX2_isWellFormedSlowPath_2 rfl (lv_at hl 2 rfl) ?_
    refine lv_iload_n hx hb dX2_isWellFormedSlowPath_3 rfl (lv_at hl 1 rfl) ?_
    refine lv_icmp_lt (tgt := 9) hx hb dX2_isWellFormedSlowPath_4 (by decide) (fun c_4 => ?_) (fun c_4 => ?_)
    · have hie : i < en := (nI_ltI (by omega) (by omega)).mp c_4
      have t0 := wt_t hB i
      refine lv_aload_n hx hb dX2_isWellFormedSlowPath_9 rfl (lv_at hl 0 rfl) ?_
      refine lv_iload_n hx hb dX2_isWellFormedSlowPath_10 rfl (lv_at hl 2 rfl) ?_
      refine lv_iinc (v := (nI (i + 1))) (lv' := [(3, .int (nI (i + 1))), (0, .ref qa), (2, .int (nI en))]) hx hb dX2_isWellFormedSlowPath_11 hl (k := 2) rfl (nI_1 i) (by decide) rfl (fun ls hl => ?_)
      refine wt_bald hx hb hK hP 0 0 rfl rfl (by omega) dX2_isWellFormedSlowPath_14 ?_
      refine lv_dup hx hb dX2_isWellFormedSlowPath_15 rfl ?_
      refine lv_istore (lv' := [(4, .int (f i)), (3, .int (nI (i + 1))), (0, .ref qa), (2, .int (nI en))]) hx hb dX2_isWellFormedSlowPath_16 hl (by decide) rfl (fun ls hl => ?_)
      refine lv_if_ge (tgt := 2) hx hb dX2_isWellFormedSlowPath_18 (by decide) (fun c_18 => ?_) (fun c_18 => ?_)
      · have g_18 : 0 ≤ (f i).toInt := wt_ge c_18 (by decide)
        exact ih (i + 1) (by omega) (by omega) (by rw [← hres]; exact (wt_ok_go (k := 0) hie (by unfold wt_st; (repeat' split) <;> omega)).symm) ls (lv_sub hl [2, 3, 1] rfl)
      · have g_18 : (f i).toInt < 0 := wt_nge c_18 (by decide)
        refine lv_iload hx hb dX2_isWellFormedSlowPath_21 (lv_at hl 0 rfl) ?_
        refine lv_bipush (v := -32) hx hb dX2_isWellFormedSlowPath_23 (by decide +kernel) ?_
        refine lv_icmp_ge (tgt := 55) hx hb dX2_isWellFormedSlowPath_25 (by decide) (fun c_25 => ?_) (fun c_25 => ?_)
        · have g_25 : -32 ≤ (f i).toInt := wt_ge c_25 (by decide)
          refine lv_iload hx hb dX2_isWellFormedSlowPath_55 (lv_at hl 0 rfl) ?_
          refine lv_bipush (v := -16) hx hb dX2_isWellFormedSlowPath_57 (by decide +kernel) ?_
          refine lv_icmp_ge (tgt := 130) hx hb dX2_isWellFormedSlowPath_59 (by decide) (fun c_59 => ?_) (fun c_59 => ?_)
          · have g_59 : -16 ≤ (f i).toInt := wt_ge c_59 (by decide)
            refine lv_iload_n hx hb dX2_isWellFormedSlowPath_130 rfl (lv_at hl 1 rfl) ?_
            refine lv_iconst (v := nI 2) hx hb dX2_isWellFormedSlowPath_131 (by decide +kernel) ?_
            refine lv_iadd hx hb dX2_isWellFormedSlowPath_132 ?_
            refine wt_to (nI (i + 3)) (nI_add (i + 1) 2) ?_
            refine lv_iload_n hx hb dX2_isWellFormedSlowPath_133 rfl (lv_at hl 3 rfl) ?_
            refine lv_icmp_lt (tgt := 139) hx hb dX2_isWellFormedSlowPath_134 (by decide) (fun c_134 => ?_) (fun c_134 => ?_)
            · have g_134 : i + 3 < en := (nI_ltI (by omega) (by omega)).mp c_134
              have t1 := wt_t hB (i + 1)
              refine lv_aload_n hx hb dX2_isWellFormedSlowPath_139 rfl (lv_at hl 2 rfl) ?_
              refine lv_iload_n hx hb dX2_isWellFormedSlowPath_140 rfl (lv_at hl 1 rfl) ?_
              refine lv_iinc (v := (nI (i + 2))) (lv' := [(3, .int (nI (i + 2))), (4, .int (f i)), (0, .ref qa), (2, .int (nI en))]) hx hb dX2_isWellFormedSlowPath_141 hl (k := 1) rfl (nI_1 (i + 1)) (by decide) rfl (fun ls hl => ?_)
              refine wt_bald hx hb hK hP 0 0 rfl rfl (by omega) dX2_isWellFormedSlowPath_144 ?_
              refine lv_istore (lv' := [(5, .int (f (i + 1))), (3, .int (nI (i + 2))), (4, .int (f i)), (0, .ref qa), (2, .int (nI en))]) hx hb dX2_isWellFormedSlowPath_145 hl (by decide) rfl (fun ls hl => ?_)
              refine lv_iload hx hb dX2_isWellFormedSlowPath_147 (lv_at hl 0 rfl) ?_
              refine lv_bipush (v := -65) hx hb dX2_isWellFormedSlowPath_149 (by decide +kernel) ?_
              refine lv_icmp_gt (tgt := 193) hx hb dX2_isWellFormedSlowPath_151 (by decide) (fun c_151 => ?_) (fun c_151 => ?_)
              · have g_151 : -65 < (f (i + 1)).toInt := wt_gt c_151 (by decide)
                refine lv_iconst (v := 0) hx hb dX2_isWellFormedSlowPath_193 (by decide +kernel) ?_
                exact kret 194 _ 0 dX2_isWellFormedSlowPath_194 (by rw [← hres, wt_ok_no hie (by unfold wt_st; (repeat' split) <;> omega)])
              · have g_151 : (f (i + 1)).toInt ≤ -65 := wt_ngt c_151 (by decide)
                have tr := wt_tr hB (i := i) (j := i + 1) (by omega) (by omega) (by omega)
                refine lv_iload hx hb dX2_isWellFormedSlowPath_154 (lv_at hl 2 rfl) ?_
                refine lv_bipush (v := nI 28) hx hb dX2_isWellFormedSlowPath_156 (by decide +kernel) ?_
                refine lv_ishl hx hb dX2_isWellFormedSlowPath_158 ?_
                refine lv_iload hx hb dX2_isWellFormedSlowPath_159 (lv_at hl 0 rfl) ?_
                refine lv_bipush (v := -112) hx hb dX2_isWellFormedSlowPath_161 (by decide +kernel) ?_
                refine lv_isub hx hb dX2_isWellFormedSlowPath_163 ?_
                refine lv_iadd hx hb dX2_isWellFormedSlowPath_164 ?_
                refine lv_bipush (v := nI 30) hx hb dX2_isWellFormedSlowPath_165 (by decide +kernel) ?_
                refine lv_ishr hx hb dX2_isWellFormedSlowPath_167 ?_
                refine lv_if_ne (tgt := 193) hx hb dX2_isWellFormedSlowPath_168 (by decide) (fun c_168 => ?_) (fun c_168 => ?_)
                · have tr2 : ¬ (wt_u f i < 245 ∧ (wt_u f i = 240 → 144 ≤ wt_u f (i + 1)) ∧ (wt_u f i = 244 → wt_u f (i + 1) < 144)) := fun z => c_168 (tr.mpr z)
                  clear tr
                  refine lv_iconst (v := 0) hx hb dX2_isWellFormedSlowPath_193 (by decide +kernel) ?_
                  exact kret 194 _ 0 dX2_isWellFormedSlowPath_194 (by rw [← hres, wt_ok_no hie (by unfold wt_st; (repeat' split) <;> omega)])
                · have tr2 := tr.mp c_168
                  clear tr
                  have t2 := wt_t hB (i + 2)
                  refine lv_aload_n hx hb dX2_isWellFormedSlowPath_171 rfl (lv_at hl 3 rfl) ?_
                  refine lv_iload_n hx hb dX2_isWellFormedSlowPath_172 rfl (lv_at hl 1 rfl) ?_
                  refine lv_iinc (v := (nI (i + 3))) (lv' := [(3, .int (nI (i + 3))), (5, .int (f (i + 1))), (4, .int (f i)), (0, .ref qa), (2, .int (nI en))]) hx hb dX2_isWellFormedSlowPath_173 hl (k := 1) rfl (nI_1 (i + 2)) (by decide) rfl (fun ls hl => ?_)
                  refine wt_bald hx hb hK hP 0 0 rfl rfl (by omega) dX2_isWellFormedSlowPath_176 ?_
                  refine lv_bipush (v := -65) hx hb dX2_isWellFormedSlowPath_177 (by decide +kernel) ?_
                  refine lv_icmp_gt (tgt := 193) hx hb dX2_isWellFormedSlowPath_179 (by decide) (fun c_179 => ?_) (fun c_179 => ?_)
                  · have g_179 : -65 < (f (i + 2)).toInt := wt_gt c_179 (by decide)
                    refine lv_iconst (v := 0) hx hb dX2_isWellFormedSlowPath_193 (by decide +kernel) ?_
                    exact kret 194 _ 0 dX2_isWellFormedSlowPath_194 (by rw [← hres, wt_ok_no hie (by unfold wt_st; (repeat' split) <;> omega)])
                  · have g_179 : (f (i + 2)).toInt ≤ -65 := wt_ngt c_179 (by decide)
                    have t3 := wt_t hB (i + 3)
                    refine lv_aload_n hx hb dX2_isWellFormedSlowPath_182 rfl (lv_at hl 3 rfl) ?_
                    refine lv_iload_n hx hb dX2_isWellFormedSlowPath_183 rfl (lv_at hl 0 rfl) ?_
                    refine lv_iinc (v := (nI (i + 4))) (lv' := [(3, .int (nI (i + 4))), (5, .int (f (i + 1))), (4, .int (f i)), (0, .ref qa), (2, .int (nI en))]) hx hb dX2_isWellFormedSlowPath_184 hl (k := 0) rfl (nI_1 (i + 3)) (by decide) rfl (fun ls hl => ?_)
                    refine wt_bald hx hb hK hP 0 0 rfl rfl (by omega) dX2_isWellFormedSlowPath_187 ?_
                    refine lv_bipush (v := -65) hx hb dX2_isWellFormedSlowPath_188 (by decide +kernel) ?_
                    refine lv_icmp_le (tgt := 195) hx hb dX2_isWellFormedSlowPath_190 (by decide) (fun c_190 => ?_) (fun c_190 => ?_)
                    · have g_190 : (f (i + 3)).toInt ≤ -65 := wt_le c_190 (by decide)
                      refine lv_goto (tgt := 2) hx hb dX2_isWellFormedSlowPath_195 (by decide) ?_
                      exact ih (i + 4) (by omega) (by omega) (by rw [← hres]; exact (wt_ok_go (k := 3) hie (by unfold wt_st; (repeat' split) <;> omega)).symm) ls (lv_sub hl [3, 4, 0] rfl)
                    · have g_190 : -65 < (f (i + 3)).toInt := wt_nle c_190 (by decide)
                      refine lv_iconst (v := 0) hx hb dX2_isWellFormedSlowPath_193 (by decide +kernel) ?_
                      exact kret 194 _ 0 dX2_isWellFormedSlowPath_194 (by rw [← hres, wt_ok_no hie (by unfold wt_st; (repeat' split) <;> omega)])
            · have g_134 : ¬ i + 3 < en := fun z => c_134 (nI_lt z (by omega))
              refine lv_iconst (v := 0) hx hb dX2_isWellFormedSlowPath_137 (by decide +kernel) ?_
              exact kret 138 _ 0 dX2_isWellFormedSlowPath_138 (by rw [← hres, wt_ok_no hie (by unfold wt_st; (repeat' split) <;> omega)])
          · have g_59 : (f i).toInt < -16 := wt_nge c_59 (by decide)
            refine lv_iload_n hx hb dX2_isWellFormedSlowPath_62 rfl (lv_at hl 1 rfl) ?_
            refine lv_iconst (v := nI 1) hx hb dX2_isWellFormedSlowPath_63 (by decide +kernel) ?_
            refine lv_iadd hx hb dX2_isWellFormedSlowPath_64 ?_
            refine wt_to (nI (i + 2)) (nI_add (i + 1) 1) ?_
            refine lv_iload_n hx hb dX2_isWellFormedSlowPath_65 rfl (lv_at hl 3 rfl) ?_
            refine lv_icmp_lt (tgt := 71) hx hb dX2_isWellFormedSlowPath_66 (by decide) (fun c_66 => ?_) (fun c_66 => ?_)
            · have g_66 : i + 2 < en := (nI_ltI (by omega) (by omega)).mp c_66
              have t1 := wt_t hB (i + 1)
              have t2 := wt_t hB (i + 2)
              refine lv_aload_n hx hb dX2_isWellFormedSlowPath_71 rfl (lv_at hl 2 rfl) ?_
              refine lv_iload_n hx hb dX2_isWellFormedSlowPath_72 rfl (lv_at hl 1 rfl) ?_
              refine lv_iinc (v := (nI (i + 2))) (lv' := [(3, .int (nI (i + 2))), (4, .int (f i)), (0, .ref qa), (2, .int (nI en))]) hx hb dX2_isWellFormedSlowPath_73 hl (k := 1) rfl (nI_1 (i + 1)) (by decide) rfl (fun ls hl => ?_)
              refine wt_bald hx hb hK hP 0 0 rfl rfl (by omega) dX2_isWellFormedSlowPath_76 ?_
              refine lv_istore (lv' := [(5, .int (f (i + 1))), (3, .int (nI (i + 2))), (4, .int (f i)), (0, .ref qa), (2, .int (nI en))]) hx hb dX2_isWellFormedSlowPath_77 hl (by decide) rfl (fun ls hl => ?_)
              refine lv_iload hx hb dX2_isWellFormedSlowPath_79 (lv_at hl 0 rfl) ?_
              refine lv_bipush (v := -65) hx hb dX2_isWellFormedSlowPath_81 (by decide +kernel) ?_
              refine lv_icmp_gt (tgt := 125) hx hb dX2_isWellFormedSlowPath_83 (by decide) (fun c_83 => ?_) (fun c_83 => ?_)
              · have g_83 : -65 < (f (i + 1)).toInt := wt_gt c_83 (by decide)
                refine lv_iconst (v := 0) hx hb dX2_isWellFormedSlowPath_125 (by decide +kernel) ?_
                exact kret 126 _ 0 dX2_isWellFormedSlowPath_126 (by rw [← hres, wt_ok_no hie (by unfold wt_st; (repeat' split) <;> omega)])
              · have g_83 : (f (i + 1)).toInt ≤ -65 := wt_ngt c_83 (by decide)
                have t114 : (wt_u f i = 224 → 160 ≤ wt_u f (i + 1)) → (wt_u f i = 237 → wt_u f (i + 1) < 160) → W p l e R s m args below meth c H locs cells slots Q (F0 m 114 ls []) := by
                  intro k1 k2
                  refine lv_aload_n hx hb dX2_isWellFormedSlowPath_114 rfl (lv_at hl 3 rfl) ?_
                  refine lv_iload_n hx hb dX2_isWellFormedSlowPath_115 rfl (lv_at hl 1 rfl) ?_
                  refine lv_iinc (v := (nI (i + 3))) (lv' := [(3, .int (nI (i + 3))), (5, .int (f (i + 1))), (4, .int (f i)), (0, .ref qa), (2, .int (nI en))]) hx hb dX2_isWellFormedSlowPath_116 hl (k := 1) rfl (nI_1 (i + 2)) (by decide) rfl (fun ls hl => ?_)
                  refine wt_bald hx hb hK hP 0 0 rfl rfl (by omega) dX2_isWellFormedSlowPath_119 ?_
                  refine lv_bipush (v := -65) hx hb dX2_isWellFormedSlowPath_120 (by decide +kernel) ?_
                  refine lv_icmp_le (tgt := 127) hx hb dX2_isWellFormedSlowPath_122 (by decide) (fun c_122 => ?_) (fun c_122 => ?_)
                  · have g_122 : (f (i + 2)).toInt ≤ -65 := wt_le c_122 (by decide)
                    refine lv_goto (tgt := 195) hx hb dX2_isWellFormedSlowPath_127 (by decide) ?_
                    refine lv_goto (tgt := 2) hx hb dX2_isWellFormedSlowPath_195 (by decide) ?_
                    exact ih (i + 3) (by omega) (by omega) (by rw [← hres]; exact (wt_ok_go (k := 2) hie (by unfold wt_st; (repeat' split) <;> omega)).symm) ls (lv_sub hl [3, 4, 0] rfl)
                  · have g_122 : -65 < (f (i + 2)).toInt := wt_nle c_122 (by decide)
                    refine lv_iconst (v := 0) hx hb dX2_isWellFormedSlowPath_125 (by decide +kernel) ?_
                    exact kret 126 _ 0 dX2_isWellFormedSlowPath_126 (by rw [← hres, wt_ok_no hie (by unfold wt_st; (repeat' split) <;> omega)])
                have t100 : (wt_u f i = 224 → 160 ≤ wt_u f (i + 1)) → W p l e R s m args below meth c H locs cells slots Q (F0 m 100 ls []) := by
                  intro k1
                  refine lv_iload hx hb dX2_isWellFormedSlowPath_100 (lv_at hl 2 rfl) ?_
                  refine lv_bipush (v := -19) hx hb dX2_isWellFormedSlowPath_102 (by decide +kernel) ?_
                  refine lv_icmp_ne (tgt := 114) hx hb dX2_isWellFormedSlowPath_104 (by decide) (fun c_104 => ?_) (fun c_104 => ?_)
                  · have g_104 : (f i).toInt ≠ -19 := wt_ne c_104 (by decide)
                    exact t114 k1 (by omega)
                  · have g_104 : (f i).toInt = -19 := wt_eq c_104 (by decide)
                    refine lv_iload hx hb dX2_isWellFormedSlowPath_107 (lv_at hl 0 rfl) ?_
                    refine lv_bipush (v := -96) hx hb dX2_isWellFormedSlowPath_109 (by decide +kernel) ?_
                    refine lv_icmp_ge (tgt := 125) hx hb dX2_isWellFormedSlowPath_111 (by decide) (fun c_111 => ?_) (fun c_111 => ?_)
                    · have g_111 : -96 ≤ (f (i + 1)).toInt := wt_ge c_111 (by decide)
                      refine lv_iconst (v := 0) hx hb dX2_isWellFormedSlowPath_125 (by decide +kernel) ?_
                      exact kret 126 _ 0 dX2_isWellFormedSlowPath_126 (by rw [← hres, wt_ok_no hie (by unfold wt_st; (repeat' split) <;> omega)])
                    · have g_111 : (f (i + 1)).toInt < -96 := wt_nge c_111 (by decide)
                      exact t114 k1 (by omega)
                refine lv_iload hx hb dX2_isWellFormedSlowPath_86 (lv_at hl 2 rfl) ?_
                refine lv_bipush (v := -32) hx hb dX2_isWellFormedSlowPath_88 (by decide +kernel) ?_
                refine lv_icmp_ne (tgt := 100) hx hb dX2_isWellFormedSlowPath_90 (by decide) (fun c_90 => ?_) (fun c_90 => ?_)
                · have g_90 : (f i).toInt ≠ -32 := wt_ne c_90 (by decide)
                  exact t100 (by omega)
                · have g_90 : (f i).toInt = -32 := wt_eq c_90 (by decide)
                  refine lv_iload hx hb dX2_isWellFormedSlowPath_93 (lv_at hl 0 rfl) ?_
                  refine lv_bipush (v := -96) hx hb dX2_isWellFormedSlowPath_95 (by decide +kernel) ?_
                  refine lv_icmp_lt (tgt := 125) hx hb dX2_isWellFormedSlowPath_97 (by decide) (fun c_97 => ?_) (fun c_97 => ?_)
                  · have g_97 : (f (i + 1)).toInt < -96 := wt_lt c_97 (by decide)
                    refine lv_iconst (v := 0) hx hb dX2_isWellFormedSlowPath_125 (by decide +kernel) ?_
                    exact kret 126 _ 0 dX2_isWellFormedSlowPath_126 (by rw [← hres, wt_ok_no hie (by unfold wt_st; (repeat' split) <;> omega)])
                  · have g_97 : -96 ≤ (f (i + 1)).toInt := wt_nlt c_97 (by decide)
                    exact t100 (by omega)
            · have g_66 : ¬ i + 2 < en := fun z => c_66 (nI_lt z (by omega))
              refine lv_iconst (v := 0) hx hb dX2_isWellFormedSlowPath_69 (by decide +kernel) ?_
              exact kret 70 _ 0 dX2_isWellFormedSlowPath_70 (by rw [← hres, wt_ok_no hie (by unfold wt_st; (repeat' split) <;> omega)])
        · have g_25 : (f i).toInt < -32 := wt_nge c_25 (by decide)
          refine lv_iload_n hx hb dX2_isWellFormedSlowPath_28 rfl (lv_at hl 1 rfl) ?_
          refine lv_iload_n hx hb dX2_isWellFormedSlowPath_29 rfl (lv_at hl 3 rfl) ?_
          refine lv_icmp_ne (tgt := 35) hx hb dX2_isWellFormedSlowPath_30 (by decide) (fun c_30 => ?_) (fun c_30 => ?_)
          · have g_30 : i + 1 ≠ en := fun z => c_30 (by rw [z])
            have t1 := wt_t hB (i + 1)
            refine lv_iload hx hb dX2_isWellFormedSlowPath_35 (lv_at hl 0 rfl) ?_
            refine lv_bipush (v := -62) hx hb dX2_isWellFormedSlowPath_37 (by decide +kernel) ?_
            refine lv_icmp_lt (tgt := 53) hx hb dX2_isWellFormedSlowPath_39 (by decide) (fun c_39 => ?_) (fun c_39 => ?_)
            · have g_39 : (f i).toInt < -62 := wt_lt c_39 (by decide)
              refine lv_iconst (v := 0) hx hb dX2_isWellFormedSlowPath_53 (by decide +kernel) ?_
              exact kret 54 _ 0 dX2_isWellFormedSlowPath_54 (by rw [← hres, wt_ok_no hie (by unfold wt_st; (repeat' split) <;> omega)])
            · have g_39 : -62 ≤ (f i).toInt := wt_nlt c_39 (by decide)
              refine lv_aload_n hx hb dX2_isWellFormedSlowPath_42 rfl (lv_at hl 2 rfl) ?_
              refine lv_iload_n hx hb dX2_isWellFormedSlowPath_43 rfl (lv_at hl 1 rfl) ?_
              refine lv_iinc (v := (nI (i + 2))) (lv' := [(3, .int (nI (i + 2))), (4, .int (f i)), (0, .ref qa), (2, .int (nI en))]) hx hb dX2_isWellFormedSlowPath_44 hl (k := 1) rfl (nI_1 (i + 1)) (by decide) rfl (fun ls hl => ?_)
              refine wt_bald hx hb hK hP 0 0 rfl rfl (by omega) dX2_isWellFormedSlowPath_47 ?_
              refine lv_bipush (v := -65) hx hb dX2_isWellFormedSlowPath_48 (by decide +kernel) ?_
              refine lv_icmp_le (tgt := 195) hx hb dX2_isWellFormedSlowPath_50 (by decide) (fun c_50 => ?_) (fun c_50 => ?_)
              · have g_50 : (f (i + 1)).toInt ≤ -65 := wt_le c_50 (by decide)
                refine lv_goto (tgt := 2) hx hb dX2_isWellFormedSlowPath_195 (by decide) ?_
                exact ih (i + 2) (by omega) (by omega) (by rw [← hres]; exact (wt_ok_go (k := 1) hie (by unfold wt_st; (repeat' split) <;> omega)).symm) ls (lv_sub hl [2, 3, 0] rfl)
              · have g_50 : -65 < (f (i + 1)).toInt := wt_nle c_50 (by decide)
                refine lv_iconst (v := 0) hx hb dX2_isWellFormedSlowPath_53 (by decide +kernel) ?_
                exact kret 54 _ 0 dX2_isWellFormedSlowPath_54 (by rw [← hres, wt_ok_no hie (by unfold wt_st; (repeat' split) <;> omega)])
          · have g_30 : i + 1 = en := (nI_eq (by omega) (by omega)).mp c_30
            refine lv_iconst (v := 0) hx hb dX2_isWellFormedSlowPath_33 (by decide +kernel) ?_
            exact kret 34 _ 0 dX2_isWellFormedSlowPath_34 (by rw [← hres, wt_ok_no hie (by unfold wt_st; (repeat' split) <;> omega)])
    · have h_4 : en ≤ i := Nat.not_lt.mp (fun z => c_4 (nI_lt z (by omega)))
      refine lv_iconst (v := 1) hx hb dX2_isWellFormedSlowPath_7 (by decide +kernel) ?_
      exact kret 8 _ 1 dX2_isWellFormedSlowPath_8 (by rw [← hres, wt_ok_end (by omega)])
set_option maxHeartbeats 4000000 in
set_option maxRecDepth 100000 in
/-- Utf8.isWellFormedSlowPath -/
theorem cX2_slow_met (l : Launch) (dC : Nat → ClassId) (dI : Nat → Nat → Nat) (qa : Nat) (dB : ClassId) (sz : Nat) (f : Nat → Int32) (hB : wt_B f) (i en : Nat) (hi : i ≤ en) (he : en ≤ 4096) : Met l yX2_isWellFormedSlowPath (ws_ yX2_isWellFormedSlowPath cX2_isWellFormedSlowPath 6 (some .boolean)) ({ frames := 0, cells := 0, slots := 0, locals := 0 }) (va_Pc [.ref qa, .int (nI i), .int (nI en)] (fun U => U.heap.size = sz ∧ va_P (dC, dI) vwCl (wt_a qa dB f) U.heap ∧ va_K (dC, dI) vwCl [(dB, .byte)] U ∧ va_D (fun _ => True) (wt_a qa dB f))) (va_Qi (fun (r : Int32) (u : Nat → Int32) => r = wt_ok f en (en - i) i ∧ u = f) (Ba dC dI (va_A (wt_a qa dB f) sz) qa dB) (va_A (wt_a qa dB f) sz)) 0 0 (va_A (wt_a qa dB f) sz) := by
  refine Met.ofW (cc := cX2_isWellFormedSlowPath) (maxL := 6) (ret := (some .boolean)) (by decide) rfl ?_
  intro p e s m args below meth c s₁ B hml hv
  obtain ⟨rfl, hsz, hP, hK, hD0⟩ := hv
  have hx := B.exec
  have hb := B.bytes
  have hr := B.returns
  have hts := atoms_spec (ws := ws_ yX2_isWellFormedSlowPath cX2_isWellFormedSlowPath 6 (some .boolean)) B.pre
  have hts : ∀ w ∈ lw_all, w.before _ s = true := fun w h => hts w (List.mem_cons_of_mem _ h)
  have hown : s.vm.findClass RX2 = some m.cls := findClass_of_methodNamed B.named
  have hlocks := B.notSynchronized
  subst hsz
  have hD := hD0.self (sz := s.heap.size)
  generalize hAe : va_A (wt_a qa dB f) s.heap.size = A at hD ⊢
  have hA : ∀ q : Nat, s.heap.size ≤ q → A q := fun q h => by rw [← hAe]; exact Or.inr h
  have hS : va_S A s.heap s.heap [] := va_S.rf
  have hP : va_P (dC, dI) vwCl (wt_a qa dB f) s.heap := hP
  have hl := lv_entry ([.ref qa, .int (nI i), .int (nI en)]) (n := 6) (Nat.le_of_ble_eq_true rfl)
  rw [lg_entry_eq]
  generalize (lg_sl ([.ref qa, .int (nI i), .int (nI en)]) ++ List.replicate (6 - (lg_sl ([.ref qa, .int (nI i), .int (nI en)])).length) Slot.unset).toArray = ls at hl ⊢
  have hl : lv_has ls 6 [(0, .ref qa), (1, .int (nI i)), (2, .int (nI en))] := hl
  refine lv_iload_n hx hb dX2_isWellFormedSlowPath_0 rfl (lv_at hl 1 rfl) ?_
  refine lv_istore_n (lv' := [(3, .int (nI i)), (0, .ref qa), (1, .int (nI i)), (2, .int (nI en))]) hx hb dX2_isWellFormedSlowPath_1 rfl hl (by decide) rfl (fun ls hl => ?_)
  exact wt_loopS (l := l) (res := wt_ok f en (en - i) i) hx hb hK hP hB he (fun pc ls v hd hv => by rw [hv]; exact W.zret (v := wt_ok f en (en - i) i) hx hb hr (wt_okz _ _ _ _) (fun t ht hW => ⟨⟨_, f, rfl, ⟨rfl, rfl⟩, by rw [ht]; exact hP, va_K.moved hW.alike hK, hD⟩, hS.F ht⟩) hS.2.2 hd) (en - i) i hi (by omega) rfl ls (lv_sub hl [1, 3, 0] rfl)
end
section
set_option maxHeartbeats 4000000 in
set_option maxRecDepth 100000 in
/-- Utf8.isWellFormed's loop at its head -/
theorem wt_loopI {p : Program} {l : Launch} {e : Env} {R : Room} {s : State} {m : MethodId} {args : Array Value} {below : List Frame} {meth : Method} {c : Code} {cells slots : Nat} {Q : State → Prop} {dC : Nat → ClassId} {dI : Nat → Nat → Nat} {H : Heap} {locs : List Loc} {qa : Nat} {dB : ClassId} {f : Nat → Int32} {en : Nat} {res : Int32} (hx : p.tables.exec = Jvm.exec) (hb : c.code = cX2_isWellFormed) (hK : va_K (dC, dI) vwCl [(dB, .byte)] s) (hP : va_P (dC, dI) vwCl (wt_a qa dB f) H) (hB : wt_B f) (he : en ≤ 4096)
    (kret : ∀ (ls : Array Slot), res = 1 → W p l e R s m args below meth c H locs cells slots Q (F0 m 42 ls [.int 1]))
    (kslow : ∀ (i : Nat) (ls : Array Slot), i ≤ en → wt_ok f en (en - i) i = res → lv_has ls 5 [(0, .ref qa), (3, .int (nI en)), (4, .int (nI i))] → W p l e R s m args below meth c H locs cells slots Q (F0 m 27 ls [])) :
    ∀ (n i : Nat), i + n = en → wt_ok f en n i = res → ∀ (ls : Array Slot), lv_has ls 5 [(0, .ref qa), (3, .int (nI en)), (4, .int (nI i))] → W p l e R s m args below meth c H locs cells slots Q (F0 m 14 ls []) := by
  intro n
  induction n with
  | zero =>
    intro i hin hres ls hl
    refine lv_iload hx hb dX2_isWellFormed_14 (lv_at hl 2 rfl) ?_
    refine lv_iload_n hx hb dX2_isWellFormed_16 rfl (lv_at hl 1 rfl) ?_
    refine lv_icmp_ge (tgt := 41) hx hb dX2_isWellFormed_17 (by decide) (fun c_17 => ?_) (fun c_17 => ?_)
    · refine lv_iconst (v := 1) hx hb dX2_isWellFormed_41 (by decide +kernel) ?_
      exact kret _ (by rw [← hres, wt_ok_end (by omega)])
    · exact absurd (nI_le (by omega) (by omega)) c_17
  | succ n ih =>
    intro i hin hres ls hl
    refine lv_iload hx hb dX2_isWellFormed_14 (lv_at hl 2 rfl) ?_
    refine lv_iload_n hx hb dX2_isWellFormed_16 rfl (lv_at hl 1 rfl) ?_
    refine lv_icmp_ge (tgt := 41) hx hb dX2_isWellFormed_17 (by decide) (fun c_17 => ?_) (fun c_17 => ?_)
    · exact absurd c_17 (nI_ge (by omega) (by omega))
    · have hie : i < en := by omega
      have t0 := wt_t hB i
      refine lv_aload_n hx hb dX2_isWellFormed_20 rfl (lv_at hl 0 rfl) ?_
      refine lv_iload hx hb dX2_isWellFormed_21 (lv_at hl 2 rfl) ?_
      refine wt_bald hx hb hK hP 0 0 rfl rfl (by omega) dX2_isWellFormed_23 ?_
      refine lv_if_ge (tgt := 35) hx hb dX2_isWellFormed_24 (by decide) (fun c_24 => ?_) (fun c_24 => ?_)
      · have g_24 : 0 ≤ (f i).toInt := wt_ge c_24 (by decide)
        refine lv_iinc (v := (nI (i + 1))) (lv' := [(4, .int (nI (i + 1))), (0, .ref qa), (3, .int (nI en))]) hx hb dX2_isWellFormed_35 hl (k := 2) rfl (nI_1 i) (by decide) rfl (fun ls hl => ?_)
        refine lv_goto (tgt := 14) hx hb dX2_isWellFormed_38 (by decide) ?_
        exact ih (i + 1) (by omega) (by rw [← hres]; exact (wt_ok_go (k := 0) hie (by unfold wt_st; (repeat' split) <;> omega)).symm) ls (lv_sub hl [1, 2, 0] rfl)
      · exact kslow i ls (by omega) (by rw [← hres, show en - i = n + 1 by omega]) hl
set_option maxHeartbeats 4000000 in
set_option maxRecDepth 100000 in
/-- Utf8.isWellFormed -/
theorem cX2_isw_met (l : Launch) (dC : Nat → ClassId) (dI : Nat → Nat → Nat) (qa : Nat) (dB : ClassId) (sz : Nat) (f : Nat → Int32) (hB : wt_B f) (i k : Nat) (hik : i + k ≤ 4096) : Met l yX2_isWellFormed (ws_ yX2_isWellFormed cX2_isWellFormed 5 (some .boolean)) ({ frames := 1, cells := 0, slots := 0, locals := 25 }) (va_Pc [.ref qa, .int (nI i), .int (nI k)] (fun U => U.heap.size = sz ∧ va_P (dC, dI) vwCl (wt_a qa dB f) U.heap ∧ va_K (dC, dI) vwCl [(dB, .byte)] U ∧ va_D (fun _ => True) (wt_a qa dB f))) (va_Qi (fun (r : Int32) (u : Nat → Int32) => r = wt_ok f (i + k) k i ∧ u = f) (Ba dC dI (va_A (wt_a qa dB f) sz) qa dB) (va_A (wt_a qa dB f) sz)) 0 0 (va_A (wt_a qa dB f) sz) := by
  refine Met.ofW (cc := cX2_isWellFormed) (maxL := 5) (ret := (some .boolean)) (by decide) rfl ?_
  intro p e s m args below meth c s₁ B hml hv
  obtain ⟨rfl, hsz, hP, hK, hD0⟩ := hv
  have hx := B.exec
  have hb := B.bytes
  have hr := B.returns
  have hts := atoms_spec (ws := ws_ yX2_isWellFormed cX2_isWellFormed 5 (some .boolean)) B.pre
  have hts : ∀ w ∈ lw_all, w.before _ s = true := fun w h => hts w (List.mem_cons_of_mem _ h)
  have hown : s.vm.findClass RX2 = some m.cls := findClass_of_methodNamed B.named
  have hlocks := B.notSynchronized
  subst hsz
  have hD := hD0.self (sz := s.heap.size)
  generalize hAe : va_A (wt_a qa dB f) s.heap.size = A at hD ⊢
  have hA : ∀ q : Nat, s.heap.size ≤ q → A q := fun q h => by rw [← hAe]; exact Or.inr h
  have hS : va_S A s.heap s.heap [] := va_S.rf
  have hP : va_P (dC, dI) vwCl (wt_a qa dB f) s.heap := hP
  have hl := lv_entry ([.ref qa, .int (nI i), .int (nI k)]) (n := 5) (Nat.le_of_ble_eq_true rfl)
  rw [lg_entry_eq]
  generalize (lg_sl ([.ref qa, .int (nI i), .int (nI k)]) ++ List.replicate (5 - (lg_sl ([.ref qa, .int (nI i), .int (nI k)])).length) Slot.unset).toArray = ls at hl ⊢
  have hl : lv_has ls 5 [(0, .ref qa), (1, .int (nI i)), (2, .int (nI k))] := hl
  refine lv_iload_n hx hb dX2_isWellFormed_0 rfl (lv_at hl 1 rfl) ?_
  refine lv_iload_n hx hb dX2_isWellFormed_1 rfl (lv_at hl 2 rfl) ?_
  refine lv_iadd hx hb dX2_isWellFormed_2 ?_
  refine wt_to (nI (i + k)) (nI_add i k) ?_
  refine lv_istore_n (lv' := [(3, .int (nI (i + k))), (0, .ref qa), (1, .int (nI i)), (2, .int (nI k))]) hx hb dX2_isWellFormed_3 rfl hl (by decide) rfl (fun ls hl => ?_)
  refine lv_iload_n hx hb dX2_isWellFormed_4 rfl (lv_at hl 2 rfl) ?_
  refine lv_iload_n hx hb dX2_isWellFormed_5 rfl (lv_at hl 0 rfl) ?_
  refine lv_aload_n hx hb dX2_isWellFormed_6 rfl (lv_at hl 1 rfl) ?_
  refine va_alen (v := nI 4096) hx hb hK hP 0 0 rfl rfl rfl dX2_isWellFormed_7 ?_
  have hPc := hP.sub (ws' := (wt_a qa dB f)) [0] rfl
  have hDc := hD.sub (ws' := (wt_a qa dB f)) [0] (by decide) rfl
  have hFc := va_free (wc := (wt_a qa dB f)) hD hS hA [0] rfl
  refine va_callv (va_runS (As := [.int (nI i), .int (nI (i + k)), .int (nI 4096)]) (rest := []) ⟨hx, hb, hml, hown, hts⟩ (cX3_check_met l dC dI qa dB s.heap.size f i (i + k) 4096 (by omega) (by omega) (by omega)) (va_cwS 3 hts (lw_S q63 q64 q10 q65) rfl rfl rfl (by decide +kernel) ⟨Nat.le_of_ble_eq_true rfl, Nat.le_of_ble_eq_true rfl⟩) ⟨fun a U g mk q => by obtain ⟨q0, q1, qP, qK, qD⟩ := q; exact ⟨q0, q1, qP, va_K.moved (u := U) (U := U.calling g mk a) (Vm.Alike.refl U.vm) qK, qD⟩, fun U hU hW => ⟨rfl, by rw [hU], by rw [hU]; exact hPc, va_K.moved hW.alike (hK.sub [0] rfl), hDc.weaken (fun _ _ _ _ => trivial)⟩⟩ rfl rfl hl.1 rfl (lv_room (Nat.le_of_ble_eq_true rfl)) dX2_isWellFormed_8 ⟨Nat.le_of_ble_eq_true rfl, Nat.le_of_ble_eq_true rfl⟩) hS (fun q _ h => hFc q h) hFc (fun u_8 t H1 locs ht hvm hw hB hz1 hk1 hS => ?_)
  obtain ⟨hP1, -, hD1⟩ := hB
  rw [ht] at hP1
  obtain rfl := hw.symm
  obtain ⟨hP, hD⟩ := va_join (wr := []) (w1 := (wt_a qa dB f)) hP hD [0] [] rfl rfl (by decide) (by decide) hk1 hFc hP1 hD1
  generalize H1 = H at hP hS ⊢
  have hP : va_P (dC, dI) vwCl (wt_a qa dB f) H := hP
  have hD : va_D A (wt_a qa dB f) := hD
  refine lv_iload_n hx hb dX2_isWellFormed_11 rfl (lv_at hl 2 rfl) ?_
  refine lv_istore (lv' := [(4, .int (nI i)), (3, .int (nI (i + k))), (0, .ref qa), (1, .int (nI i)), (2, .int (nI k))]) hx hb dX2_isWellFormed_12 hl (by decide) rfl (fun ls hl => ?_)
  refine wt_loopI (l := l) (en := i + k) (res := wt_ok f (i + k) k i) hx hb hK hP hB hik (fun ls hv => ?_) (fun j ls hj hv hl => ?_) k i rfl rfl ls (lv_sub hl [2, 1, 0] rfl)
  · exact W.zret (v := 1) hx hb hr rfl (fun t ht hW => ⟨⟨1, f, rfl, ⟨hv.symm, rfl⟩, by rw [ht]; exact hP, va_K.moved hW.alike hK, hD⟩, hS.F ht⟩) hS.2.2 dX2_isWellFormed_42
  · refine lv_aload_n hx hb dX2_isWellFormed_27 rfl (lv_at hl 0 rfl) ?_
    refine lv_iload hx hb dX2_isWellFormed_28 (lv_at hl 2 rfl) ?_
    refine lv_iload_n hx hb dX2_isWellFormed_30 rfl (lv_at hl 1 rfl) ?_
    have hPc := hP.sub (ws' := (wt_a qa dB f)) [0] rfl
    have hDc := hD.sub (ws' := (wt_a qa dB f)) [0] (by decide) rfl
    have hFc := va_free (wc := (wt_a qa dB f)) hD hS hA [0] rfl
    refine va_calli (va_runS (As := [.ref qa, .int (nI j), .int (nI (i + k))]) (rest := []) ⟨hx, hb, hml, hown, hts⟩ (cX2_slow_met l dC dI qa dB H.size f hB j (i + k) hj hik) (va_cwS 3 hts (lw_S q131 q132 q9 q133) rfl rfl rfl (by decide +kernel) ⟨Nat.le_of_ble_eq_true rfl, Nat.le_of_ble_eq_true rfl⟩) ⟨fun a U g mk q => by obtain ⟨q0, q1, qP, qK, qD⟩ := q; exact ⟨q0, q1, qP, va_K.moved (u := U) (U := U.calling g mk a) (Vm.Alike.refl U.vm) qK, qD⟩, fun U hU hW => ⟨rfl, by rw [hU], by rw [hU]; exact hPc, va_K.moved hW.alike (hK.sub [0] rfl), hDc.weaken (fun _ _ _ _ => trivial)⟩⟩ rfl rfl hl.1 rfl (lv_room (Nat.le_of_ble_eq_true rfl)) dX2_isWellFormed_31 ⟨Nat.le_of_ble_eq_true rfl, Nat.le_of_ble_eq_true rfl⟩) hS (fun q _ h => hFc q h) hFc (fun r_31 u_31 t H1 locs ht hvm hw hB hz1 hk1 hS => ?_)
    obtain ⟨hP1, -, hD1⟩ := hB
    rw [ht] at hP1
    obtain ⟨rfl, hw2⟩ := hw
    obtain rfl := hw2.symm
    obtain ⟨hP, hD⟩ := va_join (wr := []) (w1 := (wt_a qa dB f)) hP hD [0] [] rfl rfl (by decide) (by decide) hk1 hFc hP1 hD1
    generalize H1 = H at hP hS ⊢
    have hP : va_P (dC, dI) vwCl (wt_a qa dB f) H := hP
    have hD : va_D A (wt_a qa dB f) := hD
    exact W.zret (v := wt_ok f (i + k) (i + k - j) j) hx hb hr (wt_okz _ _ _ _) (fun t ht hW => ⟨⟨_, f, rfl, ⟨hv, rfl⟩, by rw [ht]; exact hP, va_K.moved hW.alike hK, hD⟩, hS.F ht⟩) hS.2.2 dX2_isWellFormed_34
set_option maxHeartbeats 4000000 in
set_option maxRecDepth 100000 in
/-- WireText.fair -/
theorem cX0_fair_met (l : Launch) (dC : Nat → ClassId) (dI : Nat → Nat → Nat) (h0 qa : Nat) (dB : ClassId) (sz n : Nat) (f : Nat → Int32) (hn : n ≤ 4096) (hB : wt_B f) (p0 p1 : Int32) : Met l yX0_fair (ws_ yX0_fair cX0_fair 4 (some .boolean)) ({ frames := 2, cells := 0, slots := 0, locals := 49 }) (va_Pc [.ref h0, .int p0, .int p1] (fun U => U.heap.size = sz ∧ va_P (dC, dI) vwCl (wt_o 0 h0 qa dB n f) U.heap ∧ va_K (dC, dI) vwCl [(dB, .byte)] U ∧ va_D (fun _ => True) (wt_o 0 h0 qa dB n f))) (va_Qi (fun (r : Int32) (u : Nat × (Nat → Int32)) => r = wt_fa n f p0 p1 ∧ u = (n, f)) (Bo 0 dC dI (va_A (wt_o 0 h0 qa dB n f) sz) h0 qa dB) (va_A (wt_o 0 h0 qa dB n f) sz)) 0 0 (va_A (wt_o 0 h0 qa dB n f) sz) := by
  refine Met.ofW (cc := cX0_fair) (maxL := 4) (ret := (some .boolean)) (by decide) rfl ?_
  intro p e s m args below meth c s₁ B hml hv
  obtain ⟨rfl, hsz, hP, hK, hD0⟩ := hv
  have hx := B.exec
  have hb := B.bytes
  have hr := B.returns
  have hts := atoms_spec (ws := ws_ yX0_fair cX0_fair 4 (some .boolean)) B.pre
  have hts : ∀ w ∈ lw_all, w.before _ s = true := fun w h => hts w (List.mem_cons_of_mem _ h)
  have hown : s.vm.findClass RX0 = some m.cls := findClass_of_methodNamed B.named
  have hlocks := B.notSynchronized
  subst hsz
  have hD := hD0.self (sz := s.heap.size)
  generalize hAe : va_A (wt_o 0 h0 qa dB n f) s.heap.size = A at hD ⊢
  have hA : ∀ q : Nat, s.heap.size ≤ q → A q := fun q h => by rw [← hAe]; exact Or.inr h
  have hS : va_S A s.heap s.heap [] := va_S.rf
  have hP : va_P (dC, dI) vwCl (wt_o 0 h0 qa dB n f) s.heap := hP
  have hl := lv_entry ([.ref h0, .int p0, .int p1]) (n := 4) (Nat.le_of_ble_eq_true rfl)
  rw [lg_entry_eq]
  generalize (lg_sl ([.ref h0, .int p0, .int p1]) ++ List.replicate (4 - (lg_sl ([.ref h0, .int p0, .int p1])).length) Slot.unset).toArray = ls at hl ⊢
  have hl : lv_has ls 4 [(0, .ref h0), (1, .int p0), (2, .int p1)] := hl
  refine lv_aload_n hx hb dX0_fair_0 rfl (lv_at hl 0 rfl) ?_
  refine lv_iload_n hx hb dX0_fair_1 rfl (lv_at hl 1 rfl) ?_
  have hPc := hP.sub (ws' := (wt_o 0 h0 qa dB n f)) [0, 1] rfl
  have hDc := hD.sub (ws' := (wt_o 0 h0 qa dB n f)) [0, 1] (by decide) rfl
  have hFc := va_free (wc := (wt_o 0 h0 qa dB n f)) hD hS hA [0, 1] rfl
  refine va_calli (va_runV (As := [.int p0]) (rest := []) ⟨hx, hb, hml, hown, hts⟩ (cX0_from_met l dC dI h0 qa dB s.heap.size n f hn p0) (cwV 1 hts (lw_V q43 q45 qs1 q7 q46) rfl rfl rfl (by decide +kernel) ⟨Nat.le_of_ble_eq_true rfl, Nat.le_of_ble_eq_true rfl⟩) ⟨fun a U g mk q => by obtain ⟨q0, q1, qP, qK, qD⟩ := q; exact ⟨q0, q1, qP, va_K.moved (u := U) (U := U.calling g mk a) (Vm.Alike.refl U.vm) qK, qD⟩, va_recv hK hPc (ci := 0) (q0 := 0) rfl rfl, fun U hU hW => ⟨rfl, by rw [hU], by rw [hU]; exact hPc, va_K.moved hW.alike (hK.sub [0] rfl), hDc.weaken (fun _ _ _ _ => trivial)⟩⟩ rfl rfl hl.1 rfl (lv_room (Nat.le_of_ble_eq_true rfl)) dX0_fair_2 ⟨Nat.le_of_ble_eq_true rfl, Nat.le_of_ble_eq_true rfl⟩) hS (fun q _ h => hFc q h) hFc (fun r_2 u_2 t H1 locs ht hvm hw hB hz1 hk1 hS => ?_)
  obtain ⟨hP1, -, hD1⟩ := hB
  rw [ht] at hP1
  obtain ⟨rfl, hw2⟩ := hw
  obtain rfl := hw2.symm
  obtain ⟨hP, hD⟩ := va_join (wr := []) (w1 := (wt_o 0 h0 qa dB n f)) hP hD [0, 1] [] rfl rfl (by decide) (by decide) hk1 hFc hP1 hD1
  generalize H1 = H at hP hS ⊢
  have hP : va_P (dC, dI) vwCl (wt_o 0 h0 qa dB n f) H := hP
  have hD : va_D A (wt_o 0 h0 qa dB n f) := hD
  obtain ⟨i, ei⟩ : ∃ i, i = wt_rm p0 (n + 1) := ⟨_, rfl⟩
  rw [← ei]
  have hi : i < n + 1 := by rw [ei]; exact wt_rm_lt p0 (by omega)
  refine lv_istore_n (lv' := [(3, .int (nI i)), (0, .ref h0), (1, .int p0), (2, .int p1)]) hx hb dX0_fair_5 rfl hl (by decide) rfl (fun ls hl => ?_)
  refine lv_aload_n hx hb dX0_fair_6 rfl (lv_at hl 1 rfl) ?_
  refine va_get (D := (dC, dI)) (ci := 0) (v := .ref qa) (C := RX0) (T := TX0) (N := 2) hx hb hts in_X0 hown hK hP 0 rfl rfl 0 (by decide) (hts _ q23) (fun _ h9 => h9) rfl dX0_fair_7 ?_
  refine lv_iload_n hx hb dX0_fair_10 rfl (lv_at hl 0 rfl) ?_
  refine lv_aload_n hx hb dX0_fair_11 rfl (lv_at hl 1 rfl) ?_
  refine lv_iload_n hx hb dX0_fair_12 rfl (lv_at hl 0 rfl) ?_
  refine lv_iload_n hx hb dX0_fair_13 rfl (lv_at hl 3 rfl) ?_
  have hPc := hP.sub (ws' := (wt_o 0 h0 qa dB n f)) [0, 1] rfl
  have hDc := hD.sub (ws' := (wt_o 0 h0 qa dB n f)) [0, 1] (by decide) rfl
  have hFc := va_free (wc := (wt_o 0 h0 qa dB n f)) hD hS hA [0, 1] rfl
  refine va_calli (va_runV (As := [.int (nI i), .int p1]) (rest := [.int (nI i), .ref qa]) ⟨hx, hb, hml, hown, hts⟩ (cX0_count_met l dC dI h0 qa dB H.size n f hn i (by omega) p1) (cwV 2 hts (lw_V q56 q58 qs2 q7 q59) rfl rfl rfl (by decide +kernel) ⟨Nat.le_of_ble_eq_true rfl, Nat.le_of_ble_eq_true rfl⟩) ⟨fun a U g mk q => by obtain ⟨q0, q1, qP, qK, qD⟩ := q; exact ⟨q0, q1, qP, va_K.moved (u := U) (U := U.calling g mk a) (Vm.Alike.refl U.vm) qK, qD⟩, va_recv hK hPc (ci := 0) (q0 := 0) rfl rfl, fun U hU hW => ⟨rfl, by rw [hU], by rw [hU]; exact hPc, va_K.moved hW.alike (hK.sub [0] rfl), hDc.weaken (fun _ _ _ _ => trivial)⟩⟩ rfl rfl hl.1 rfl (lv_room (Nat.le_of_ble_eq_true rfl)) dX0_fair_14 ⟨Nat.le_of_ble_eq_true rfl, Nat.le_of_ble_eq_true rfl⟩) hS (fun q _ h => hFc q h) hFc (fun r_14 u_14 t H1 locs ht hvm hw hB hz1 hk1 hS => ?_)
  obtain ⟨hP1, -, hD1⟩ := hB
  rw [ht] at hP1
  obtain ⟨rfl, hw2⟩ := hw
  obtain rfl := hw2.symm
  obtain ⟨hP, hD⟩ := va_join (wr := []) (w1 := (wt_o 0 h0 qa dB n f)) hP hD [0, 1] [] rfl rfl (by decide) (by decide) hk1 hFc hP1 hD1
  generalize H1 = H at hP hS ⊢
  have hP : va_P (dC, dI) vwCl (wt_o 0 h0 qa dB n f) H := hP
  have hD : va_D A (wt_o 0 h0 qa dB n f) := hD
  obtain ⟨k, ek⟩ : ∃ k, k = wt_rm p1 (n - i + 1) := ⟨_, rfl⟩
  rw [← ek]
  have hk : k < n - i + 1 := by rw [ek]; exact wt_rm_lt p1 (by omega)
  have hPc := hP.sub (ws' := (wt_a qa dB f)) [1] rfl
  have hDc := hD.sub (ws' := (wt_a qa dB f)) [1] (by decide) rfl
  have hFc := va_free (wc := (wt_a qa dB f)) hD hS hA [1] rfl
  refine va_calli (va_runS (As := [.ref qa, .int (nI i), .int (nI k)]) (rest := []) ⟨hx, hb, hml, hown, hts⟩ (cX2_isw_met l dC dI qa dB H.size f hB i k (by omega)) (va_cwS 3 hts (lw_S q60 q61 q9 q62) rfl rfl rfl (by decide +kernel) ⟨Nat.le_of_ble_eq_true rfl, Nat.le_of_ble_eq_true rfl⟩) ⟨fun a U g mk q => by obtain ⟨q0, q1, qP, qK, qD⟩ := q; exact ⟨q0, q1, qP, va_K.moved (u := U) (U := U.calling g mk a) (Vm.Alike.refl U.vm) qK, qD⟩, fun U hU hW => ⟨rfl, by rw [hU], by rw [hU]; exact hPc, va_K.moved hW.alike (hK.sub [0] rfl), hDc.weaken (fun _ _ _ _ => trivial)⟩⟩ rfl rfl hl.1 rfl (lv_room (Nat.le_of_ble_eq_true rfl)) dX0_fair_17 ⟨Nat.le_of_ble_eq_true rfl, Nat.le_of_ble_eq_true rfl⟩) hS (fun q _ h => hFc q h) hFc (fun r_17 u_17 t H1 locs ht hvm hw hB hz1 hk1 hS => ?_)
  obtain ⟨hP1, -, hD1⟩ := hB
  rw [ht] at hP1
  obtain ⟨rfl, hw2⟩ := hw
  obtain rfl := hw2.symm
  obtain ⟨hP, hD⟩ := va_join (wr := [(h0, .inr (0, [.ref qa, .int (nI n)]))]) (w1 := (wt_a qa dB f)) hP hD [1] [0] rfl rfl (by decide) (by decide) hk1 hFc hP1 hD1
  generalize H1 = H at hP hS ⊢
  have hP : va_P (dC, dI) vwCl (wt_o 0 h0 qa dB n f) H := hP
  have hD : va_D A (wt_o 0 h0 qa dB n f) := hD
  exact W.zret (v := wt_ok f (i + k) k i) hx hb hr (wt_okz _ _ _ _) (fun t ht hW => ⟨⟨wt_ok f (i + k) k i, (n, f), rfl, ⟨by unfold wt_fa; rw [← ei, ← ek], rfl⟩, by rw [ht]; exact hP, va_K.moved hW.alike hK, hD⟩, hS.F ht⟩) hS.2.2 dX0_fair_20
end
section
/-! the reference's own step, in plain Lean: class of the first byte, value so far, and what wt_st says of it -/
def wt_cl (mm u : Nat) : Prop := (mm = 0 ∧ u < 128) ∨ (mm = 1 ∧ 194 ≤ u ∧ u < 224) ∨ (mm = 2 ∧ 224 ≤ u ∧ u < 240) ∨ (mm = 3 ∧ 240 ≤ u ∧ u < 245)
def wt_vv (f : Nat → Int32) (i mm : Nat) : Nat → Nat
  | 0 => if mm = 0 then wt_u f i else if mm = 1 then wt_u f i % 32 else if mm = 2 then wt_u f i % 16 else wt_u f i % 8
  | k + 1 => wt_vv f i mm k * 64 + wt_u f (i + (k + 1)) % 64
theorem wt_vv_lt (f : Nat → Int32) (i mm : Nat) : ∀ k, wt_vv f i mm k < 256 * 64 ^ k
  | 0 => by
    have := wt_u_lt f i
    unfold wt_vv
    (repeat' split) <;> omega
  | k + 1 => by
    have := wt_vv_lt f i mm k
    unfold wt_vv
    rw [Nat.pow_succ]
    omega
theorem wt_vv_lt3 (f : Nat → Int32) (i mm : Nat) {k : Nat} (h : k ≤ 3) : wt_vv f i mm k < 67108864 := by
  have h1 := wt_vv_lt f i mm k
  have h2 : 64 ^ k ≤ 64 ^ 3 := Nat.pow_le_pow_right (by decide) h
  omega
theorem wt_vv_lt2 (f : Nat → Int32) (i mm : Nat) {k : Nat} (h : k ≤ 2) : wt_vv f i mm k < 2 ^ 24 := by
  have h1 := wt_vv_lt f i mm k
  have h2 : 64 ^ k ≤ 64 ^ 2 := Nat.pow_le_pow_right (by decide) h
  omega
def wt_gd (mm v : Nat) : Prop := (mm = 2 → 2048 ≤ v ∧ (v < 55296 ∨ 57343 < v)) ∧ (mm = 3 → 65536 ≤ v ∧ v ≤ 1114111)
theorem wt_l_no {f : Nat → Int32} {i en : Nat} (h : 128 ≤ wt_u f i) (h2 : wt_u f i < 194 ∨ 245 ≤ wt_u f i) : wt_st f i en = 0 := by
  unfold wt_st
  (repeat' split) <;> omega
theorem wt_l_end {f : Nat → Int32} {i en mm : Nat} (hc : wt_cl mm (wt_u f i)) (h : i < en) (h2 : en ≤ i + mm) : wt_st f i en = 0 := by
  unfold wt_cl at hc
  unfold wt_st
  (repeat' split) <;> omega
theorem wt_l_bad {f : Nat → Int32} {i en mm t : Nat} (hc : wt_cl mm (wt_u f i)) (h1 : 1 ≤ t) (h2 : t ≤ mm) (h : ¬ (128 ≤ wt_u f (i + t) ∧ wt_u f (i + t) < 192)) : wt_st f i en = 0 := by
  unfold wt_cl at hc
  have ht : t = 1 ∨ t = 2 ∨ t = 3 := by omega
  rcases ht with rfl | rfl | rfl <;> (unfold wt_st; (repeat' split) <;> omega)
theorem wt_vv1 (f : Nat → Int32) (i : Nat) : wt_vv f i 1 1 = (wt_u f i % 32) * 64 + wt_u f (i + 1) % 64 := rfl
theorem wt_vv2 (f : Nat → Int32) (i : Nat) : wt_vv f i 2 2 = ((wt_u f i % 16) * 64 + wt_u f (i + 1) % 64) * 64 + wt_u f (i + 2) % 64 := rfl
theorem wt_vv3 (f : Nat → Int32) (i : Nat) : wt_vv f i 3 3 = (((wt_u f i % 8) * 64 + wt_u f (i + 1) % 64) * 64 + wt_u f (i + 2) % 64) * 64 + wt_u f (i + 3) % 64 := rfl
theorem wt_l_fin {f : Nat → Int32} {i en mm : Nat} (hc : wt_cl mm (wt_u f i)) (h : i + mm < en) (hk : ∀ t, 1 ≤ t → t ≤ mm → 128 ≤ wt_u f (i + t) ∧ wt_u f (i + t) < 192) (hg : wt_gd mm (wt_vv f i mm mm)) : wt_st f i en = mm + 1 := by
  unfold wt_gd at hg
  rcases hc with ⟨rfl, h1⟩ | ⟨rfl, h1, h2⟩ | ⟨rfl, h1, h2⟩ | ⟨rfl, h1, h2⟩
  · unfold wt_st
    (repeat' split) <;> omega
  · have k1 := hk 1 (by omega) (by omega)
    unfold wt_st
    (repeat' split) <;> omega
  · have k1 := hk 1 (by omega) (by omega)
    have k2 := hk 2 (by omega) (by omega)
    have hv := wt_vv2 f i
    have hg := hg.1 rfl
    unfold wt_st
    (repeat' split) <;> omega
  · have k1 := hk 1 (by omega) (by omega)
    have k2 := hk 2 (by omega) (by omega)
    have k3 := hk 3 (by omega) (by omega)
    have hv := wt_vv3 f i
    have hg := hg.2 rfl
    unfold wt_st
    (repeat' split) <;> omega
theorem wt_l_not {f : Nat → Int32} {i en mm : Nat} (hc : wt_cl mm (wt_u f i)) (hk : ∀ t, 1 ≤ t → t ≤ mm → 128 ≤ wt_u f (i + t) ∧ wt_u f (i + t) < 192) (hg : ¬ wt_gd mm (wt_vv f i mm mm)) : wt_st f i en = 0 := by
  unfold wt_gd at hg
  rcases hc with ⟨rfl, h1⟩ | ⟨rfl, h1, h2⟩ | ⟨rfl, h1, h2⟩ | ⟨rfl, h1, h2⟩
  · exact absurd ⟨fun z => absurd z (by decide), fun z => absurd z (by decide)⟩ hg
  · exact absurd ⟨fun z => absurd z (by decide), fun z => absurd z (by decide)⟩ hg
  · have k1 := hk 1 (by omega) (by omega)
    have k2 := hk 2 (by omega) (by omega)
    have hv := wt_vv2 f i
    unfold wt_st
    (repeat' split) <;> omega
  · have k1 := hk 1 (by omega) (by omega)
    have k2 := hk 2 (by omega) (by omega)
    have k3 := hk 3 (by omega) (by omega)
    have hv := wt_vv3 f i
    unfold wt_st
    (repeat' split) <;> omega
end
section
set_option maxHeartbeats 4000000 in
set_option maxRecDepth 100000 in
/-- WireTextModel.fair's inner loop: k following bytes read -/
theorem wt_loopK {p : Program} {l : Launch} {e : Env} {R : Room} {s : State} {m : MethodId} {args : Array Value} {below : List Frame} {meth : Method} {c : Code} {cells slots : Nat} {Q : State → Prop} {dC : Nat → ClassId} {dI : Nat → Nat → Nat} {H : Heap} {locs : List Loc} {h0 qa n0 : Nat} {dB : ClassId} {f : Nat → Int32} {i en mm : Nat} (hx : p.tables.exec = Jvm.exec) (hb : c.code = cX1_fair) (hown : s.vm.findClass RX1 = some m.cls) (hts : ∀ w ∈ lw_all, w.before args s = true) (hK : va_K (dC, dI) vwCl [(dB, .byte)] s) (hP : va_P (dC, dI) vwCl (wt_o 1 h0 qa dB n0 f) H) (hm : mm ≤ 3) (hi : i + mm < en) (he : en ≤ 4096)
    (kexit : ∀ (ls : Array Slot), (∀ t, 1 ≤ t → t ≤ mm → 128 ≤ wt_u f (i + t) ∧ wt_u f (i + t) < 192) → lv_has ls 10 [(0, .ref h0), (3, .int (nI i)), (4, .int (nI en)), (6, .int (nI mm)), (7, .int (nI (wt_vv f i mm mm)))] → W p l e R s m args below meth c H locs cells slots Q (F0 m 213 ls []))
    (kbad : ∀ (t : Nat) (ls : Array Slot), 1 ≤ t → t ≤ mm → ¬ (128 ≤ wt_u f (i + t) ∧ wt_u f (i + t) < 192) → W p l e R s m args below meth c H locs cells slots Q (F0 m 192 ls [])) :
    ∀ (r k : Nat), k + r = mm → (∀ t, 1 ≤ t → t ≤ k → 128 ≤ wt_u f (i + t) ∧ wt_u f (i + t) < 192) → ∀ (ls : Array Slot), lv_has ls 10 [(0, .ref h0), (3, .int (nI i)), (4, .int (nI en)), (6, .int (nI mm)), (7, .int (nI (wt_vv f i mm k))), (8, .int (nI (k + 1)))] → W p l e R s m args below meth c H locs cells slots Q (F0 m 161 ls []) := by
  intro r
  induction r with
  | zero =>
    intro k hk hc ls hl
    obtain rfl : k = mm := hk
    refine lv_iload hx hb dX1_fair_161 (lv_at hl 5 rfl) ?_
    refine lv_iload hx hb dX1_fair_163 (lv_at hl 3 rfl) ?_
    refine lv_icmp_gt (tgt := 213) hx hb dX1_fair_165 (by decide) (fun c_165 => ?_) (fun c_165 => ?_)
    · exact kexit ls hc (lv_sub hl [0, 1, 2, 3, 4] rfl)
    · exact absurd (nI_lt (by omega) (by omega)) c_165
  | succ r ih =>
    intro k hk hc ls hl
    have hkm : k < mm := by omega
    have hu := wt_u_lt f (i + (k + 1))
    refine lv_iload hx hb dX1_fair_161 (lv_at hl 5 rfl) ?_
    refine lv_iload hx hb dX1_fair_163 (lv_at hl 3 rfl) ?_
    refine lv_icmp_gt (tgt := 213) hx hb dX1_fair_165 (by decide) (fun c_165 => ?_) (fun c_165 => ?_)
    · exact absurd c_165 (nI_nlt (by omega) (by omega))
    · refine lv_aload_n hx hb dX1_fair_168 rfl (lv_at hl 0 rfl) ?_
      refine va_get (D := (dC, dI)) (ci := 1) (v := .ref qa) (C := RX1) (T := TX1) (N := 2) hx hb hts in_X1 hown hK hP 0 rfl rfl 0 (by decide) (hts _ q144) (fun _ h9 => h9) rfl dX1_fair_169 ?_
      refine lv_iload_n hx hb dX1_fair_172 rfl (lv_at hl 1 rfl) ?_
      refine lv_iload hx hb dX1_fair_173 (lv_at hl 5 rfl) ?_
      refine lv_iadd hx hb dX1_fair_175 ?_
      refine wt_to (nI (i + (k + 1))) (nI_add i (k + 1)) ?_
      refine wt_bald hx hb hK hP 1 0 rfl rfl (by omega) dX1_fair_176 ?_
      refine lv_sipush (v := 255) hx hb dX1_fair_177 (by decide +kernel) ?_
      refine lv_iand hx hb dX1_fair_180 ?_
      refine wt_to (nI (wt_u f (i + (k + 1)))) (wt_and f (i + (k + 1))) ?_
      refine lv_istore (lv' := [(9, .int (nI (wt_u f (i + (k + 1))))), (0, .ref h0), (3, .int (nI i)), (4, .int (nI en)), (6, .int (nI mm)), (7, .int (nI (wt_vv f i mm k))), (8, .int (nI (k + 1)))]) hx hb dX1_fair_181 hl (by decide) rfl (fun ls hl => ?_)
      refine lv_iload hx hb dX1_fair_183 (lv_at hl 0 rfl) ?_
      refine lv_bipush (v := nI 6) hx hb dX1_fair_185 (by decide +kernel) ?_
      refine lv_ishr hx hb dX1_fair_187 ?_
      refine wt_to (nI (wt_u f (i + (k + 1)) / 2 ^ 6)) (pk_shrN (by omega) (nI 6 &&& 31) 6 (by decide)) ?_
      refine lv_iconst (v := nI 2) hx hb dX1_fair_188 (by decide +kernel) ?_
      refine lv_icmp_eq (tgt := 194) hx hb dX1_fair_189 (by decide) (fun c_189 => ?_) (fun c_189 => ?_)
      · have g_189 : wt_u f (i + (k + 1)) / 2 ^ 6 = 2 := (nI_eq (by omega) (by omega)).mp c_189
        refine lv_iload hx hb dX1_fair_194 (lv_at hl 5 rfl) ?_
        refine lv_bipush (v := nI 6) hx hb dX1_fair_196 (by decide +kernel) ?_
        refine lv_ishl hx hb dX1_fair_198 ?_
        refine lv_iload hx hb dX1_fair_199 (lv_at hl 0 rfl) ?_
        refine lv_bipush (v := 63) hx hb dX1_fair_201 (by decide +kernel) ?_
        refine lv_iand hx hb dX1_fair_203 ?_
        refine lv_ior hx hb dX1_fair_204 ?_
        refine wt_to (nI (wt_vv f i mm (k + 1))) (wt_or (wt_vv f i mm k) (wt_u f (i + (k + 1))) (wt_vv_lt2 f i mm (by omega))) ?_
        refine lv_istore (lv' := [(7, .int (nI (wt_vv f i mm (k + 1)))), (9, .int (nI (wt_u f (i + (k + 1))))), (0, .ref h0), (3, .int (nI i)), (4, .int (nI en)), (6, .int (nI mm)), (8, .int (nI (k + 1)))]) hx hb dX1_fair_205 hl (by decide) rfl (fun ls hl => ?_)
        refine lv_iinc (v := (nI (k + 1 + 1))) (lv' := [(8, .int (nI (k + 1 + 1))), (7, .int (nI (wt_vv f i mm (k + 1)))), (9, .int (nI (wt_u f (i + (k + 1))))), (0, .ref h0), (3, .int (nI i)), (4, .int (nI en)), (6, .int (nI mm))]) hx hb dX1_fair_207 hl (k := 6) rfl (nI_1 (k + 1)) (by decide) rfl (fun ls hl => ?_)
        refine lv_goto (tgt := 161) hx hb dX1_fair_210 (by decide) ?_
        have hc2 : ∀ t, 1 ≤ t → t ≤ k + 1 → 128 ≤ wt_u f (i + t) ∧ wt_u f (i + t) < 192 := by
          intro t a1 a2
          rcases Nat.lt_or_ge k t with z | z
          · obtain rfl : t = k + 1 := by omega
            omega
          · exact hc t a1 z
        exact ih (k + 1) (by omega) hc2 ls (lv_sub hl [3, 4, 5, 6, 1, 0] rfl)
      · exact kbad (k + 1) ls (by omega) (by omega) (fun z => c_189 ((nI_eq (by omega) (by omega)).mpr (by omega)))
set_option maxHeartbeats 4000000 in
set_option maxRecDepth 100000 in
/-- WireTextModel.fair's loop at its head -/
theorem wt_loopF {p : Program} {l : Launch} {e : Env} {R : Room} {s : State} {m : MethodId} {args : Array Value} {below : List Frame} {meth : Method} {c : Code} {cells slots : Nat} {Q : State → Prop} {dC : Nat → ClassId} {dI : Nat → Nat → Nat} {H : Heap} {locs : List Loc} {h0 qa n0 : Nat} {dB : ClassId} {f : Nat → Int32} {en : Nat} {res : Int32} (hx : p.tables.exec = Jvm.exec) (hb : c.code = cX1_fair) (hown : s.vm.findClass RX1 = some m.cls) (hts : ∀ w ∈ lw_all, w.before args s = true) (hK : va_K (dC, dI) vwCl [(dB, .byte)] s) (hP : va_P (dC, dI) vwCl (wt_o 1 h0 qa dB n0 f) H) (he : en ≤ 4096)
    (kret : ∀ (pc : Nat) (ls : Array Slot) (v : Int32), decode cX1_fair pc = .ok (.ireturn, 1) → v = res → W p l e R s m args below meth c H locs cells slots Q (F0 m pc ls [.int v])) :
    ∀ (n i : Nat), i ≤ en → en ≤ i + n → wt_ok f en n i = res → ∀ (ls : Array Slot), lv_has ls 10 [(0, .ref h0), (3, .int (nI i)), (4, .int (nI en))] → W p l e R s m args below meth c H locs cells slots Q (F0 m 16 ls []) := by
  intro n
  induction n with
  | zero =>
    intro i hi hin hres ls hl
    refine lv_iload_n hx hb dX1_fair_16 rfl (lv_at hl 1 rfl) ?_
    refine lv_iload hx hb dX1_fair_17 (lv_at hl 2 rfl) ?_
    refine lv_icmp_ge (tgt := 273) hx hb dX1_fair_19 (by decide) (fun c_19 => ?_) (fun c_19 => ?_)
    · refine lv_iconst (v := 1) hx hb dX1_fair_273 (by decide +kernel) ?_
      exact kret 274 _ 1 dX1_fair_274 (by rw [← hres, wt_ok_end (by omega)])
    · exact absurd (nI_le (by omega) (by omega)) c_19
  | succ n ih =>
    intro i hi hin hres ls hl
    have hu := wt_u_lt f i
    refine lv_iload_n hx hb dX1_fair_16 rfl (lv_at hl 1 rfl) ?_
    refine lv_iload hx hb dX1_fair_17 (lv_at hl 2 rfl) ?_
    refine lv_icmp_ge (tgt := 273) hx hb dX1_fair_19 (by decide) (fun c_19 => ?_) (fun c_19 => ?_)
    · have h_19 : en ≤ i := (nI_leI (by omega) (by omega)).mp c_19
      refine lv_iconst (v := 1) hx hb dX1_fair_273 (by decide +kernel) ?_
      exact kret 274 _ 1 dX1_fair_274 (by rw [← hres, wt_ok_end (by omega)])
    · have hie : i < en := Nat.lt_of_not_le (fun z => c_19 (nI_le z (by omega)))
      refine lv_aload_n hx hb dX1_fair_22 rfl (lv_at hl 0 rfl) ?_
      refine va_get (D := (dC, dI)) (ci := 1) (v := .ref qa) (C := RX1) (T := TX1) (N := 2) hx hb hts in_X1 hown hK hP 0 rfl rfl 0 (by decide) (hts _ q144) (fun _ h9 => h9) rfl dX1_fair_23 ?_
      refine lv_iload_n hx hb dX1_fair_26 rfl (lv_at hl 1 rfl) ?_
      refine wt_bald hx hb hK hP 1 0 rfl rfl (by omega) dX1_fair_27 ?_
      refine lv_sipush (v := 255) hx hb dX1_fair_28 (by decide +kernel) ?_
      refine lv_iand hx hb dX1_fair_31 ?_
      refine wt_to (nI (wt_u f i)) (wt_and f i) ?_
      refine lv_istore (lv' := [(5, .int (nI (wt_u f i))), (0, .ref h0), (3, .int (nI i)), (4, .int (nI en))]) hx hb dX1_fair_32 hl (by decide) rfl (fun ls hl => ?_)
      have tm1 : 128 ≤ wt_u f i → (wt_u f i < 194 ∨ 245 ≤ wt_u f i) → W p l e R s m args below meth c H locs cells slots Q (F0 m 95 ls [.int (-1)]) := by
        intro h1 h2
        refine lv_istore (lv' := [(6, .int (-1)), (5, .int (nI (wt_u f i))), (0, .ref h0), (3, .int (nI i)), (4, .int (nI en))]) hx hb dX1_fair_95 hl (by decide) rfl (fun ls hl => ?_)
        refine lv_iload hx hb dX1_fair_97 (lv_at hl 0 rfl) ?_
        refine lv_if_lt (tgt := 111) hx hb dX1_fair_99 (by decide) (fun c_99 => ?_) (fun c_99 => ?_)
        · refine lv_iconst (v := 0) hx hb dX1_fair_111 (by decide +kernel) ?_
          exact kret 112 _ 0 dX1_fair_112 (by rw [← hres, wt_ok_no hie (wt_l_no h1 h2)])
        · exact absurd (by decide) c_99
      have t95 : ∀ (mm : Nat), mm ≤ 3 → wt_cl mm (wt_u f i) → W p l e R s m args below meth c H locs cells slots Q (F0 m 95 ls [.int (nI mm)]) := by
        intro mm hm hc
        refine lv_istore (lv' := [(6, .int (nI mm)), (5, .int (nI (wt_u f i))), (0, .ref h0), (3, .int (nI i)), (4, .int (nI en))]) hx hb dX1_fair_95 hl (by decide) rfl (fun ls hl => ?_)
        refine lv_iload hx hb dX1_fair_97 (lv_at hl 0 rfl) ?_
        refine lv_if_lt (tgt := 111) hx hb dX1_fair_99 (by decide) (fun c_99 => ?_) (fun c_99 => ?_)
        · exact absurd c_99 (nI_pos (by omega))
        · refine lv_iload_n hx hb dX1_fair_102 rfl (lv_at hl 3 rfl) ?_
          refine lv_iload hx hb dX1_fair_103 (lv_at hl 0 rfl) ?_
          refine lv_iadd hx hb dX1_fair_105 ?_
          refine wt_to (nI (i + mm)) (nI_add i mm) ?_
          refine lv_iload hx hb dX1_fair_106 (lv_at hl 4 rfl) ?_
          refine lv_icmp_lt (tgt := 113) hx hb dX1_fair_108 (by decide) (fun c_108 => ?_) (fun c_108 => ?_)
          · have h2 : i + mm < en := (nI_ltI (by omega) (by omega)).mp c_108
            have t156 : W p l e R s m args below meth c H locs cells slots Q (F0 m 156 ls [.int (nI (wt_vv f i mm 0))]) := by
              refine lv_istore (lv' := [(7, .int (nI (wt_vv f i mm 0))), (6, .int (nI mm)), (5, .int (nI (wt_u f i))), (0, .ref h0), (3, .int (nI i)), (4, .int (nI en))]) hx hb dX1_fair_156 hl (by decide) rfl (fun ls hl => ?_)
              refine lv_iconst (v := nI 1) hx hb dX1_fair_158 (by decide +kernel) ?_
              refine lv_istore (lv' := [(8, .int (nI (0 + 1))), (7, .int (nI (wt_vv f i mm 0))), (6, .int (nI mm)), (5, .int (nI (wt_u f i))), (0, .ref h0), (3, .int (nI i)), (4, .int (nI en))]) hx hb dX1_fair_159 hl (by decide) rfl (fun ls hl => ?_)
              refine wt_loopK (l := l) (i := i) (en := en) (mm := mm) hx hb hown hts hK hP hm h2 he (fun ls hco hl => ?_) (fun t ls a1 a2 a3 => ?_) mm 0 (Nat.zero_add mm) (fun t a1 a2 => absurd a1 (by omega)) ls (lv_sub hl [4, 5, 6, 2, 1, 0] rfl)
              · have hv := wt_vv_lt3 f i mm hm
                have t263 : wt_gd mm (wt_vv f i mm mm) → W p l e R s m args below meth c H locs cells slots Q (F0 m 263 ls []) := by
                  intro hg
                  refine lv_iload_n hx hb dX1_fair_263 rfl (lv_at hl 1 rfl) ?_
                  refine lv_iload hx hb dX1_fair_264 (lv_at hl 3 rfl) ?_
                  refine lv_iadd hx hb dX1_fair_266 ?_
                  refine wt_to (nI (i + mm)) (nI_add i mm) ?_
                  refine lv_iconst (v := nI 1) hx hb dX1_fair_267 (by decide +kernel) ?_
                  refine lv_iadd hx hb dX1_fair_268 ?_
                  refine wt_to (nI (i + (mm + 1))) (nI_add (i + mm) 1) ?_
                  refine lv_istore_n (lv' := [(3, .int (nI (i + (mm + 1)))), (0, .ref h0), (4, .int (nI en)), (6, .int (nI mm)), (7, .int (nI (wt_vv f i mm mm)))]) hx hb dX1_fair_269 rfl hl (by decide) rfl (fun ls hl => ?_)
                  refine lv_goto (tgt := 16) hx hb dX1_fair_270 (by decide) ?_
                  exact ih (i + (mm + 1)) (by omega) (by omega) (by rw [← hres]; exact (wt_ok_go hie (wt_l_fin hc h2 hco hg)).symm) ls (lv_sub hl [1, 0, 2] rfl)
                have t261 : ¬ wt_gd mm (wt_vv f i mm mm) → W p l e R s m args below meth c H locs cells slots Q (F0 m 261 ls []) := by
                  intro hg
                  refine lv_iconst (v := 0) hx hb dX1_fair_261 (by decide +kernel) ?_
                  exact kret 262 _ 0 dX1_fair_262 (by rw [← hres, wt_ok_no hie (wt_l_not hc hco hg)])
                have t241 : (mm = 2 → 2048 ≤ (wt_vv f i mm mm) ∧ ((wt_vv f i mm mm) < 55296 ∨ 57343 < (wt_vv f i mm mm))) → W p l e R s m args below meth c H locs cells slots Q (F0 m 241 ls []) := by
                  intro hg1
                  refine lv_iload hx hb dX1_fair_241 (lv_at hl 3 rfl) ?_
                  refine lv_iconst (v := nI 3) hx hb dX1_fair_243 (by decide +kernel) ?_
                  refine lv_icmp_ne (tgt := 263) hx hb dX1_fair_244 (by decide) (fun c_244 => ?_) (fun c_244 => ?_)
                  · exact t263 ⟨hg1, fun z => absurd (by rw [z]) c_244⟩
                  · have hm3 : mm = 3 := (nI_eq (by omega) (by omega)).mp c_244
                    refine lv_iload hx hb dX1_fair_247 (lv_at hl 4 rfl) ?_
                    refine lv_ldc (own := RX1) hx hb hown (hts _ q182) dX1_fair_249 ?_
                    refine lv_icmp_lt (tgt := 261) hx hb dX1_fair_251 (by decide) (fun c_251 => ?_) (fun c_251 => ?_)
                    · have h5 : (wt_vv f i mm mm) < 65536 := (nI_ltI (b := 65536) (by omega) (by omega)).mp c_251
                      exact t261 (fun z => absurd (z.2 hm3).1 (by omega))
                    · have h5 : 65536 ≤ (wt_vv f i mm mm) := Nat.not_lt.mp (fun z => c_251 (nI_lt (b := 65536) z (by omega)))
                      refine lv_iload hx hb dX1_fair_254 (lv_at hl 4 rfl) ?_
                      refine lv_ldc (own := RX1) hx hb hown (hts _ q183) dX1_fair_256 ?_
                      refine lv_icmp_le (tgt := 263) hx hb dX1_fair_258 (by decide) (fun c_258 => ?_) (fun c_258 => ?_)
                      · have h6 : (wt_vv f i mm mm) ≤ 1114111 := (nI_leI (b := 1114111) (by omega) (by omega)).mp c_258
                        exact t263 ⟨hg1, fun _ => ⟨h5, h6⟩⟩
                      · have h6 : ¬ (wt_vv f i mm mm) ≤ 1114111 := fun z => c_258 (nI_le (b := 1114111) z (by omega))
                        exact t261 (fun z => h6 (z.2 hm3).2)
                refine lv_iload hx hb dX1_fair_213 (lv_at hl 3 rfl) ?_
                refine lv_iconst (v := nI 2) hx hb dX1_fair_215 (by decide +kernel) ?_
                refine lv_icmp_ne (tgt := 241) hx hb dX1_fair_216 (by decide) (fun c_216 => ?_) (fun c_216 => ?_)
                · exact t241 (fun z => absurd (by rw [z]) c_216)
                · have hm2 : mm = 2 := (nI_eq (by omega) (by omega)).mp c_216
                  refine lv_iload hx hb dX1_fair_219 (lv_at hl 4 rfl) ?_
                  refine lv_sipush (v := nI 2048) hx hb dX1_fair_221 (by decide +kernel) ?_
                  refine lv_icmp_lt (tgt := 261) hx hb dX1_fair_224 (by decide) (fun c_224 => ?_) (fun c_224 => ?_)
                  · have h5 : (wt_vv f i mm mm) < 2048 := (nI_ltI (b := 2048) (by omega) (by omega)).mp c_224
                    exact t261 (fun z => absurd (z.1 hm2).1 (by omega))
                  · have h5 : 2048 ≤ (wt_vv f i mm mm) := Nat.not_lt.mp (fun z => c_224 (nI_lt (b := 2048) z (by omega)))
                    refine lv_iload hx hb dX1_fair_227 (lv_at hl 4 rfl) ?_
                    refine lv_ldc (own := RX1) hx hb hown (hts _ q180) dX1_fair_229 ?_
                    refine lv_icmp_lt (tgt := 241) hx hb dX1_fair_231 (by decide) (fun c_231 => ?_) (fun c_231 => ?_)
                    · have h6 : (wt_vv f i mm mm) < 55296 := (nI_ltI (b := 55296) (by omega) (by omega)).mp c_231
                      exact t241 (fun _ => ⟨h5, Or.inl h6⟩)
                    · have h6 : 55296 ≤ (wt_vv f i mm mm) := Nat.not_lt.mp (fun z => c_231 (nI_lt (b := 55296) z (by omega)))
                      refine lv_iload hx hb dX1_fair_234 (lv_at hl 4 rfl) ?_
                      refine lv_ldc (own := RX1) hx hb hown (hts _ q181) dX1_fair_236 ?_
                      refine lv_icmp_le (tgt := 261) hx hb dX1_fair_238 (by decide) (fun c_238 => ?_) (fun c_238 => ?_)
                      · have h7 : (wt_vv f i mm mm) ≤ 57343 := (nI_leI (b := 57343) (by omega) (by omega)).mp c_238
                        exact t261 (fun z => absurd (z.1 hm2).2 (by omega))
                      · have h7 : ¬ (wt_vv f i mm mm) ≤ 57343 := fun z => c_238 (nI_le (b := 57343) z (by omega))
                        exact t241 (fun _ => ⟨h5, Or.inr (by omega)⟩)
              · refine lv_iconst (v := 0) hx hb dX1_fair_192 (by decide +kernel) ?_
                exact kret 193 _ 0 dX1_fair_193 (by rw [← hres, wt_ok_no hie (wt_l_bad hc a1 a2 a3)])
            refine lv_iload hx hb dX1_fair_113 (lv_at hl 0 rfl) ?_
            refine lv_if_ne (tgt := 123) hx hb dX1_fair_115 (by decide) (fun c_115 => ?_) (fun c_115 => ?_)
            · have hm0 : ¬ mm = 0 := fun z => c_115 (by rw [z]; rfl)
              refine lv_iload hx hb dX1_fair_123 (lv_at hl 0 rfl) ?_
              refine lv_iconst (v := nI 1) hx hb dX1_fair_125 (by decide +kernel) ?_
              refine lv_icmp_ne (tgt := 137) hx hb dX1_fair_126 (by decide) (fun c_126 => ?_) (fun c_126 => ?_)
              · have hm1 : ¬ mm = 1 := fun z => c_126 (by rw [z])
                refine lv_iload hx hb dX1_fair_137 (lv_at hl 0 rfl) ?_
                refine lv_iconst (v := nI 2) hx hb dX1_fair_139 (by decide +kernel) ?_
                refine lv_icmp_ne (tgt := 151) hx hb dX1_fair_140 (by decide) (fun c_140 => ?_) (fun c_140 => ?_)
                · have hm2 : ¬ mm = 2 := fun z => c_140 (by rw [z])
                  refine lv_iload hx hb dX1_fair_151 (lv_at hl 1 rfl) ?_
                  refine lv_bipush (v := nI 7) hx hb dX1_fair_153 (by decide +kernel) ?_
                  refine lv_iand hx hb dX1_fair_155 ?_
                  refine wt_to (nI (wt_u f i % 8)) (pk_andN (by omega) 3 (by decide)) ?_
                  rw [show wt_vv f i mm 0 = wt_u f i % 8 by unfold wt_vv; rw [if_neg hm0, if_neg hm1, if_neg hm2]] at t156
                  exact t156
                · have hm2 : mm = 2 := (nI_eq (b := 2) (by omega) (by omega)).mp c_140
                  refine lv_iload hx hb dX1_fair_143 (lv_at hl 1 rfl) ?_
                  refine lv_bipush (v := nI 15) hx hb dX1_fair_145 (by decide +kernel) ?_
                  refine lv_iand hx hb dX1_fair_147 ?_
                  refine wt_to (nI (wt_u f i % 16)) (pk_andN (by omega) 4 (by decide)) ?_
                  refine lv_goto (tgt := 156) hx hb dX1_fair_148 (by decide) ?_
                  rw [show wt_vv f i mm 0 = wt_u f i % 16 by unfold wt_vv; rw [if_neg hm0, if_neg hm1, if_pos hm2]] at t156
                  exact t156
              · have hm1 : mm = 1 := (nI_eq (b := 1) (by omega) (by omega)).mp c_126
                refine lv_iload hx hb dX1_fair_129 (lv_at hl 1 rfl) ?_
                refine lv_bipush (v := nI 31) hx hb dX1_fair_131 (by decide +kernel) ?_
                refine lv_iand hx hb dX1_fair_133 ?_
                refine wt_to (nI (wt_u f i % 32)) (pk_andN (by omega) 5 (by decide)) ?_
                refine lv_goto (tgt := 156) hx hb dX1_fair_134 (by decide) ?_
                rw [show wt_vv f i mm 0 = wt_u f i % 32 by unfold wt_vv; rw [if_neg hm0, if_pos hm1]] at t156
                exact t156
            · have hm0 : mm = 0 := (nI_eq (b := 0) (by omega) (by omega)).mp c_115
              refine lv_iload hx hb dX1_fair_118 (lv_at hl 1 rfl) ?_
              refine lv_goto (tgt := 156) hx hb dX1_fair_120 (by decide) ?_
              rw [show wt_vv f i mm 0 = wt_u f i by unfold wt_vv; rw [if_pos hm0]] at t156
              exact t156
          · have h2 : en ≤ i + mm := Nat.not_lt.mp (fun z => c_108 (nI_lt z (by omega)))
            refine lv_iconst (v := 0) hx hb dX1_fair_111 (by decide +kernel) ?_
            exact kret 112 _ 0 dX1_fair_112 (by rw [← hres, wt_ok_no hie (wt_l_end hc hie h2)])
      refine lv_iload hx hb dX1_fair_34 (lv_at hl 0 rfl) ?_
      refine lv_sipush (v := nI 128) hx hb dX1_fair_36 (by decide +kernel) ?_
      refine lv_icmp_ge (tgt := 46) hx hb dX1_fair_39 (by decide) (fun c_39 => ?_) (fun c_39 => ?_)
      · have u_39 : 128 ≤ wt_u f i := (nI_leI (by omega) (by omega)).mp c_39
        refine lv_iload hx hb dX1_fair_46 (lv_at hl 0 rfl) ?_
        refine lv_sipush (v := nI 194) hx hb dX1_fair_48 (by decide +kernel) ?_
        refine lv_icmp_ge (tgt := 58) hx hb dX1_fair_51 (by decide) (fun c_51 => ?_) (fun c_51 => ?_)
        · have u_51 : 194 ≤ wt_u f i := (nI_leI (by omega) (by omega)).mp c_51
          refine lv_iload hx hb dX1_fair_58 (lv_at hl 0 rfl) ?_
          refine lv_sipush (v := nI 224) hx hb dX1_fair_60 (by decide +kernel) ?_
          refine lv_icmp_ge (tgt := 70) hx hb dX1_fair_63 (by decide) (fun c_63 => ?_) (fun c_63 => ?_)
          · have u_63 : 224 ≤ wt_u f i := (nI_leI (by omega) (by omega)).mp c_63
            refine lv_iload hx hb dX1_fair_70 (lv_at hl 0 rfl) ?_
            refine lv_sipush (v := nI 240) hx hb dX1_fair_72 (by decide +kernel) ?_
            refine lv_icmp_ge (tgt := 82) hx hb dX1_fair_75 (by decide) (fun c_75 => ?_) (fun c_75 => ?_)
            · have u_75 : 240 ≤ wt_u f i := (nI_leI (by omega) (by omega)).mp c_75
              refine lv_iload hx hb dX1_fair_82 (lv_at hl 0 rfl) ?_
              refine lv_sipush (v := nI 245) hx hb dX1_fair_84 (by decide +kernel) ?_
              refine lv_icmp_ge (tgt := 94) hx hb dX1_fair_87 (by decide) (fun c_87 => ?_) (fun c_87 => ?_)
              · have u_87 : 245 ≤ wt_u f i := (nI_leI (by omega) (by omega)).mp c_87
                refine lv_iconst (v := -1) hx hb dX1_fair_94 (by decide +kernel) ?_
                exact tm1 (by omega) (by omega)
              · have u_87 : wt_u f i < 245 := Nat.lt_of_not_le (fun z => c_87 (nI_le z (by omega)))
                refine lv_iconst (v := nI 3) hx hb dX1_fair_90 (by decide +kernel) ?_
                refine lv_goto (tgt := 95) hx hb dX1_fair_91 (by decide) ?_
                exact t95 3 (by omega) (by unfold wt_cl; omega)
            · have u_75 : wt_u f i < 240 := Nat.lt_of_not_le (fun z => c_75 (nI_le z (by omega)))
              refine lv_iconst (v := nI 2) hx hb dX1_fair_78 (by decide +kernel) ?_
              refine lv_goto (tgt := 95) hx hb dX1_fair_79 (by decide) ?_
              exact t95 2 (by omega) (by unfold wt_cl; omega)
          · have u_63 : wt_u f i < 224 := Nat.lt_of_not_le (fun z => c_63 (nI_le z (by omega)))
            refine lv_iconst (v := nI 1) hx hb dX1_fair_66 (by decide +kernel) ?_
            refine lv_goto (tgt := 95) hx hb dX1_fair_67 (by decide) ?_
            exact t95 1 (by omega) (by unfold wt_cl; omega)
        · have u_51 : wt_u f i < 194 := Nat.lt_of_not_le (fun z => c_51 (nI_le z (by omega)))
          refine lv_iconst (v := -1) hx hb dX1_fair_54 (by decide +kernel) ?_
          refine lv_goto (tgt := 95) hx hb dX1_fair_55 (by decide) ?_
          exact tm1 (by omega) (by omega)
      · have u_39 : wt_u f i < 128 := Nat.lt_of_not_le (fun z => c_39 (nI_le z (by omega)))
        refine lv_iconst (v := nI 0) hx hb dX1_fair_42 (by decide +kernel) ?_
        refine lv_goto (tgt := 95) hx hb dX1_fair_43 (by decide) ?_
        exact t95 0 (by omega) (by unfold wt_cl; omega)
set_option maxHeartbeats 4000000 in
set_option maxRecDepth 100000 in
/-- WireTextModel.fair -/
theorem cX1_fair_met (l : Launch) (dC : Nat → ClassId) (dI : Nat → Nat → Nat) (h0 qa : Nat) (dB : ClassId) (sz n : Nat) (f : Nat → Int32) (hn : n ≤ 4096) (p0 p1 : Int32) : Met l yX1_fair (ws_ yX1_fair cX1_fair 10 (some .boolean)) ({ frames := 1, cells := 0, slots := 0, locals := 22 }) (va_Pc [.ref h0, .int p0, .int p1] (fun U => U.heap.size = sz ∧ va_P (dC, dI) vwCl (wt_o 1 h0 qa dB n f) U.heap ∧ va_K (dC, dI) vwCl [(dB, .byte)] U ∧ va_D (fun _ => True) (wt_o 1 h0 qa dB n f))) (va_Qi (fun (r : Int32) (u : Nat × (Nat → Int32)) => r = wt_fa n f p0 p1 ∧ u = (n, f)) (Bo 1 dC dI (va_A (wt_o 1 h0 qa dB n f) sz) h0 qa dB) (va_A (wt_o 1 h0 qa dB n f) sz)) 0 0 (va_A (wt_o 1 h0 qa dB n f) sz) := by
  refine Met.ofW (cc := cX1_fair) (maxL := 10) (ret := (some .boolean)) (by decide) rfl ?_
  intro p e s m args below meth c s₁ B hml hv
  obtain ⟨rfl, hsz, hP, hK, hD0⟩ := hv
  have hx := B.exec
  have hb := B.bytes
  have hr := B.returns
  have hts := atoms_spec (ws := ws_ yX1_fair cX1_fair 10 (some .boolean)) B.pre
  have hts : ∀ w ∈ lw_all, w.before _ s = true := fun w h => hts w (List.mem_cons_of_mem _ h)
  have hown : s.vm.findClass RX1 = some m.cls := findClass_of_methodNamed B.named
  have hlocks := B.notSynchronized
  subst hsz
  have hD := hD0.self (sz := s.heap.size)
  generalize hAe : va_A (wt_o 1 h0 qa dB n f) s.heap.size = A at hD ⊢
  have hA : ∀ q : Nat, s.heap.size ≤ q → A q := fun q h => by rw [← hAe]; exact Or.inr h
  have hS : va_S A s.heap s.heap [] := va_S.rf
  have hP : va_P (dC, dI) vwCl (wt_o 1 h0 qa dB n f) s.heap := hP
  have hl := lv_entry ([.ref h0, .int p0, .int p1]) (n := 10) (Nat.le_of_ble_eq_true rfl)
  rw [lg_entry_eq]
  generalize (lg_sl ([.ref h0, .int p0, .int p1]) ++ List.replicate (10 - (lg_sl ([.ref h0, .int p0, .int p1])).length) Slot.unset).toArray = ls at hl ⊢
  have hl : lv_has ls 10 [(0, .ref h0), (1, .int p0), (2, .int p1)] := hl
  refine lv_aload_n hx hb dX1_fair_0 rfl (lv_at hl 0 rfl) ?_
  refine lv_iload_n hx hb dX1_fair_1 rfl (lv_at hl 1 rfl) ?_
  have hPc := hP.sub (ws' := (wt_o 1 h0 qa dB n f)) [0, 1] rfl
  have hDc := hD.sub (ws' := (wt_o 1 h0 qa dB n f)) [0, 1] (by decide) rfl
  have hFc := va_free (wc := (wt_o 1 h0 qa dB n f)) hD hS hA [0, 1] rfl
  refine va_calli (va_runV (As := [.int p0]) (rest := []) ⟨hx, hb, hml, hown, hts⟩ (cX1_first_met l dC dI h0 qa dB s.heap.size n f hn p0) (cwV 1 hts (lw_V q159 q161 qs4 q8 q162) rfl rfl rfl (by decide +kernel) ⟨Nat.le_of_ble_eq_true rfl, Nat.le_of_ble_eq_true rfl⟩) ⟨fun a U g mk q => by obtain ⟨q0, q1, qP, qK, qD⟩ := q; exact ⟨q0, q1, qP, va_K.moved (u := U) (U := U.calling g mk a) (Vm.Alike.refl U.vm) qK, qD⟩, va_recv hK hPc (ci := 1) (q0 := 0) rfl rfl, fun U hU hW => ⟨rfl, by rw [hU], by rw [hU]; exact hPc, va_K.moved hW.alike (hK.sub [0] rfl), hDc.weaken (fun _ _ _ _ => trivial)⟩⟩ rfl rfl hl.1 rfl (lv_room (Nat.le_of_ble_eq_true rfl)) dX1_fair_2 ⟨Nat.le_of_ble_eq_true rfl, Nat.le_of_ble_eq_true rfl⟩) hS (fun q _ h => hFc q h) hFc (fun r_2 u_2 t H1 locs ht hvm hw hB hz1 hk1 hS => ?_)
  obtain ⟨hP1, -, hD1⟩ := hB
  rw [ht] at hP1
  obtain ⟨rfl, hw2⟩ := hw
  obtain rfl := hw2.symm
  obtain ⟨hP, hD⟩ := va_join (wr := []) (w1 := (wt_o 1 h0 qa dB n f)) hP hD [0, 1] [] rfl rfl (by decide) (by decide) hk1 hFc hP1 hD1
  generalize H1 = H at hP hS ⊢
  have hP : va_P (dC, dI) vwCl (wt_o 1 h0 qa dB n f) H := hP
  have hD : va_D A (wt_o 1 h0 qa dB n f) := hD
  obtain ⟨i, ei⟩ : ∃ i, i = wt_rm p0 (n + 1) := ⟨_, rfl⟩
  rw [← ei]
  have hi : i < n + 1 := by rw [ei]; exact wt_rm_lt p0 (by omega)
  refine lv_istore_n (lv' := [(3, .int (nI i)), (0, .ref h0), (1, .int p0), (2, .int p1)]) hx hb dX1_fair_5 rfl hl (by decide) rfl (fun ls hl => ?_)
  refine lv_iload_n hx hb dX1_fair_6 rfl (lv_at hl 0 rfl) ?_
  refine lv_aload_n hx hb dX1_fair_7 rfl (lv_at hl 1 rfl) ?_
  refine lv_iload_n hx hb dX1_fair_8 rfl (lv_at hl 0 rfl) ?_
  refine lv_iload_n hx hb dX1_fair_9 rfl (lv_at hl 3 rfl) ?_
  have hPc := hP.sub (ws' := (wt_o 1 h0 qa dB n f)) [0, 1] rfl
  have hDc := hD.sub (ws' := (wt_o 1 h0 qa dB n f)) [0, 1] (by decide) rfl
  have hFc := va_free (wc := (wt_o 1 h0 qa dB n f)) hD hS hA [0, 1] rfl
  refine va_calli (va_runV (As := [.int (nI i), .int p1]) (rest := [.int (nI i)]) ⟨hx, hb, hml, hown, hts⟩ (cX1_many_met l dC dI h0 qa dB H.size n f hn i (by omega) p1) (cwV 2 hts (lw_V q176 q178 qs5 q8 q179) rfl rfl rfl (by decide +kernel) ⟨Nat.le_of_ble_eq_true rfl, Nat.le_of_ble_eq_true rfl⟩) ⟨fun a U g mk q => by obtain ⟨q0, q1, qP, qK, qD⟩ := q; exact ⟨q0, q1, qP, va_K.moved (u := U) (U := U.calling g mk a) (Vm.Alike.refl U.vm) qK, qD⟩, va_recv hK hPc (ci := 1) (q0 := 0) rfl rfl, fun U hU hW => ⟨rfl, by rw [hU], by rw [hU]; exact hPc, va_K.moved hW.alike (hK.sub [0] rfl), hDc.weaken (fun _ _ _ _ => trivial)⟩⟩ rfl rfl hl.1 rfl (lv_room (Nat.le_of_ble_eq_true rfl)) dX1_fair_10 ⟨Nat.le_of_ble_eq_true rfl, Nat.le_of_ble_eq_true rfl⟩) hS (fun q _ h => hFc q h) hFc (fun r_10 u_10 t H1 locs ht hvm hw hB hz1 hk1 hS => ?_)
  obtain ⟨hP1, -, hD1⟩ := hB
  rw [ht] at hP1
  obtain ⟨rfl, hw2⟩ := hw
  obtain rfl := hw2.symm
  obtain ⟨hP, hD⟩ := va_join (wr := []) (w1 := (wt_o 1 h0 qa dB n f)) hP hD [0, 1] [] rfl rfl (by decide) (by decide) hk1 hFc hP1 hD1
  generalize H1 = H at hP hS ⊢
  have hP : va_P (dC, dI) vwCl (wt_o 1 h0 qa dB n f) H := hP
  have hD : va_D A (wt_o 1 h0 qa dB n f) := hD
  obtain ⟨k, ek⟩ : ∃ k, k = wt_rm p1 (n - i + 1) := ⟨_, rfl⟩
  rw [← ek]
  have hk : k < n - i + 1 := by rw [ek]; exact wt_rm_lt p1 (by omega)
  refine lv_iadd hx hb dX1_fair_13 ?_
  refine wt_to (nI (i + k)) (nI_add i k) ?_
  refine lv_istore (lv' := [(4, .int (nI (i + k))), (3, .int (nI i)), (0, .ref h0), (1, .int p0), (2, .int p1)]) hx hb dX1_fair_14 hl (by decide) rfl (fun ls hl => ?_)
  exact wt_loopF (l := l) (en := i + k) (res := wt_ok f (i + k) k i) hx hb hown hts hK hP (by omega) (fun pc ls v hd hv => by rw [hv]; exact W.zret (v := wt_ok f (i + k) k i) hx hb hr (wt_okz _ _ _ _) (fun t ht hW => ⟨⟨_, (n, f), rfl, ⟨by unfold wt_fa; rw [← ei, ← ek], rfl⟩, by rw [ht]; exact hP, va_K.moved hW.alike hK, hD⟩, hS.F ht⟩) hS.2.2 hd) k i (by omega) (by omega) rfl ls (lv_sub hl [2, 1, 0] rfl)
end
section
/-! THE CLAIM OUT OF ONE WALK OF THE LAW'S BODY. Your part is whole_start (and what it stands on); all else here is the same for every law, but numbers. -/
def R_law : String := "WireTextLaw"
def lw_P (b : Addr) (xs : List Int32) (args : Array Value) (s : State) : Prop := args = #[.ref b] ∧ s.IntsAt b xs ∧ xs.length ≤ 384 ∧ (Jvm.Cond.and given_1 narrow_1).before args s = true
def lw_Q (_ : Array Value) (s : State) (o : Outcome) (t : State) : Prop := o = .returned (some (.int 1)) ∧ Framed s o t [] 600000 7290000
def lw_Z (below : List Frame) (a : Array Value) (s : State) : State → Prop := fun t => ∃ o, t.status = .running ∧ Ended t below o ∧ lw_Q a s o t
/-- the law's own end, with 1 on the stack, nothing written that was there before, its room as the claim has it -/
theorem lw_ret {p : Program} {l : Launch} {e : Env} {s : State} {m : MethodId} {below : List Frame} {meth : Method} {c : Code} {b : Nat} (hx : p.tables.exec = Jvm.exec) (hb : c.code = code) (hr : meth.sig.returnType = ret) (hlocks : meth.locks = false) {pc : Nat} {H : Heap} {ls : Array Slot} (hdg : decode code pc = .ok (.ireturn, 1)) : W p l e room_1 s m #[Value.ref b] below meth c H [] 600000 7290000 (lw_Z below #[Value.ref b] s) (F0 m pc ls [.int 1]) := by
  intro T hT X
  obtain ⟨fs, hret, hrun, hended, hW, hframe⟩ := X.leave (v := some (.int 1)) (hlocks := hlocks) (fun h => by rw [hr] at h; cases h)
  have hmeth' : T.vm.method? m = some meth := X.method'
  refine ⟨T.setFrames fs, ?_, .returned (some (.int 1)), hrun, hended, rfl, ⟨_, rfl⟩, hW, hframe⟩
  jvm_step X.here [X.here.top, hx, hb, hdg, hmeth', hr, ret, narrow_b1]
  (try refine ⟨rfl, ?_⟩); (try refine ⟨rfl, ?_⟩)
  first | (intro acts; rw [hret _ acts rfl rfl rfl]) | rw [hret _ _ rfl rfl rfl]
  exact Steps.refl _
/-- what holds at the law's entry: the machine, the code, the tables' words (any of lw_tbl by 'hts w (by decide +kernel)'), the script of L ints xs at the cell b, what the Statement gives of the start (any of its parts by flat_of_before) -/
def lw_At (p : Program) (s : State) (m : MethodId) (meth : Method) (c : Code) (b L : Nat) (xs : Nat → Int32) : Prop :=
  p.tables.exec = Jvm.exec ∧ c.code = code ∧ meth.sig.returnType = ret ∧ c.maxLocals = 4 ∧ s.vm.findClass R_law = some m.cls ∧ (∀ w ∈ lw_tbl, w.before #[Value.ref b] s = true) ∧ va_X b L xs s s.heap ∧ b < s.heap.size ∧ meth.locks = false ∧ (Jvm.Cond.and given_1 narrow_1).before #[Value.ref b] s = true
section WTL
variable {p : Program} {l : Launch} {e : Env} {R : Room} {s : State} {m : MethodId} {args : Array Value} {below : List Frame} {meth : Method} {c : Code} {H : Heap} {locs : List Loc} {cells slots : Nat} {Q : State → Prop}
variable {cc : ByteArray} {pc : Nat} {ls : Array Slot} {rest : List Value} {A : Nat → Prop} {H0 : Heap}
theorem wt_sld (hexec : p.tables.exec = Jvm.exec) (hb : c.code = cc) {b L : Nat} {xs : Nat → Int32} (hX : va_X b L xs s H0) (hbl : b < H0.size) (hbA : ¬ A b) (hS : va_S A H0 H locs) {j : Nat} (hj : j < L) (hL : L ≤ 384) (hdg : decode cc pc = .ok (.iaload, 1))
    (kk : W p l e R s m args below meth c H locs cells slots Q (F0 m (pc + 1) ls (.int (xs j) :: rest))) : W p l e R s m args below meth c H locs cells slots Q (F0 m pc ls (.int (nI j) :: .ref b :: rest)) := by
  refine va_sld hexec hb hX hbl hbA hS (vp_in_nI hj (by omega)) hdg ?_
  rw [nI_clamp (by omega)]
  exact kk
end WTL
theorem wt_gi {L i : Nat} (hL : L ≤ 384) (hi : i ≤ 400) (h : ¬ nI L - nI 6 < nI i) : i + 6 ≤ L := by
  have h1 : ¬ (nI L - nI 6).toInt < (nI i).toInt := fun z => h (Int32.lt_iff_toInt_lt.mpr z)
  rw [pk_sub_toInt (by omega) (by omega), nI_toInt (by omega)] at h1
  omega
theorem wt_pnle {n : Nat} (h : n ≤ 4096) : wt_pn n ≤ 4096 := by unfold wt_pn; split <;> omega
theorem wt_pfB {n : Nat} {f : Nat → Int32} (h : wt_B f) (a b c d : Int32) : wt_B (wt_pf n f a b c d) := by
  unfold wt_pf
  split
  · exact wt_Bp h n a b c d 16
  · exact h
theorem wt_sgB {n : Nat} {f : Nat → Int32} (h : wt_B f) (x y : Int32) : wt_B (wt_sg n f x y) := by
  unfold wt_sg
  split
  · exact wt_Bu h _ _
  · exact h
end
section
set_option maxHeartbeats 4000000 in
set_option maxRecDepth 100000 in
/-- the law's loop at its head: both objects hold the size n and the bytes f -/
theorem law_loop {p : Program} {l : Launch} {e : Env} {s : State} {m : MethodId} {below : List Frame} {meth : Method} {c : Code} {b L : Nat} {xs : Nat → Int32} {dC : Nat → ClassId} {dI : Nat → Nat → Nat} {x0 qx y0 qy : Nat} {dx dy : ClassId} (hL : L ≤ 384) (C0 : lw_At p s m meth c b L xs) (hK : va_K (dC, dI) vwCl [(dx, .byte), (dy, .byte)] s) :
    ∀ (r i : Nat), i ≤ L + 6 → L + 7 ≤ i + r → ∀ (n : Nat) (f : Nat → Int32), n ≤ 4096 → wt_B f → ∀ (H : Heap) (locs : List Loc) (ls : Array Slot), va_P (dC, dI) vwCl (wt_o 0 x0 qx dx n f ++ wt_o 1 y0 qy dy n f) H → va_D (fun q : Nat => s.heap.size ≤ q) (wt_o 0 x0 qx dx n f ++ wt_o 1 y0 qy dy n f) → va_S (fun q : Nat => s.heap.size ≤ q) s.heap H locs → lv_has ls 4 [(0, .ref b), (1, .ref x0), (2, .ref y0), (3, .int (nI i))] → W p l e room_1 s m #[Value.ref b] below meth c H locs 600000 7290000 (lw_Z below #[Value.ref b] s) (F0 m 18 ls []) := by
  obtain ⟨hx, hb, hr, hml, hown, hts0, hX, hbl, hlocks, hgv⟩ := id C0
  have hts : ∀ w ∈ lw_all, w.before #[Value.ref b] s = true := fun w h => hts0 w (lw_all_tbl h)
  have hA : ∀ q : Nat, s.heap.size ≤ q → (fun q : Nat => s.heap.size ≤ q) q := fun _ h => h
  have hbA : ¬ (fun q : Nat => s.heap.size ≤ q) b := Nat.not_le.mpr hbl
  intro r
  induction r with
  | zero =>
    intro i h1 h2
    exact absurd h2 (by omega)
  | succ r ih =>
    intro i hi hir n f hn hB H locs ls hP hD hS hl
    refine lv_iload_n hx hb dL_law_18 rfl (lv_at hl 3 rfl) ?_
    refine lv_aload_n hx hb dL_law_19 rfl (lv_at hl 0 rfl) ?_
    refine va_slen hx hb hX hbl hbA hS dL_law_20 ?_
    refine lv_bipush (v := nI 6) hx hb dL_law_21 (by decide +kernel) ?_
    refine lv_isub hx hb dL_law_23 ?_
    refine lv_icmp_gt (tgt := 225) hx hb dL_law_24 (by decide) (fun c_24 => ?_) (fun c_24 => ?_)
    · refine lv_iconst (v := 1) hx hb dL_law_225 (by decide +kernel) ?_
      refine va_forget hS.2.2 ?_
      exact lw_ret hx hb hr hlocks dL_law_226
    · have h6 : i + 6 ≤ L := wt_gi hL (by omega) c_24
      have t219 : ∀ (n : Nat) (f : Nat → Int32), n ≤ 4096 → wt_B f → ∀ (H : Heap) (locs : List Loc), va_P (dC, dI) vwCl (wt_o 0 x0 qx dx n f ++ wt_o 1 y0 qy dy n f) H → va_D (fun q : Nat => s.heap.size ≤ q) (wt_o 0 x0 qx dx n f ++ wt_o 1 y0 qy dy n f) → va_S (fun q : Nat => s.heap.size ≤ q) s.heap H locs → W p l e room_1 s m #[Value.ref b] below meth c H locs 600000 7290000 (lw_Z below #[Value.ref b] s) (F0 m 219 ls []) := by
        intro n f hn hB H locs hP hD hS
        refine lv_iinc (v := (nI (i + 6))) (lv' := [(3, .int (nI (i + 6))), (0, .ref b), (1, .ref x0), (2, .ref y0)]) hx hb dL_law_219 hl (k := 3) rfl (nI_add i 6) (by decide) rfl (fun ls hl => ?_)
        refine lv_goto (tgt := 18) hx hb dL_law_222 (by decide) ?_
        exact ih (i + 6) (by omega) (by omega) n f hn hB H locs ls hP hD hS (lv_sub hl [1, 2, 3, 0] rfl)
      refine lv_aload_n hx hb dL_law_27 rfl (lv_at hl 0 rfl) ?_
      refine lv_iload_n hx hb dL_law_28 rfl (lv_at hl 3 rfl) ?_
      refine wt_sld hx hb hX hbl hbA hS (j := i) (by omega) hL dL_law_29 ?_
      refine lv_bipush (v := nI 15) hx hb dL_law_30 (by decide +kernel) ?_
      refine lv_iand hx hb dL_law_32 ?_
      obtain ⟨k, hk, ek⟩ := pk_andE (xs i) (m := nI 15) 4 (by decide)
      rw [ek]
      rcases (show k = 0 ∨ k = 1 ∨ k = 2 ∨ k = 3 ∨ k = 4 ∨ 5 ≤ k by omega) with rfl | rfl | rfl | rfl | rfl | h5
      · refine lv_tableIn (off := 35) (tgt := 68) hx hb dL_law_33 (by decide) (by decide) (by decide) (by decide) ?_
        refine lv_aload_n hx hb dL_law_68 rfl (lv_at hl 1 rfl) ?_
        refine lv_aload_n hx hb dL_law_69 rfl (lv_at hl 0 rfl) ?_
        refine lv_iload_n hx hb dL_law_70 rfl (lv_at hl 3 rfl) ?_
        refine lv_iconst (v := nI 1) hx hb dL_law_71 (by decide +kernel) ?_
        refine lv_iadd hx hb dL_law_72 ?_
        refine wt_to (nI (i + 1)) (nI_add i 1) ?_
        refine wt_sld hx hb hX hbl hbA hS (j := i + 1) (by omega) hL dL_law_73 ?_
        refine lv_aload_n hx hb dL_law_74 rfl (lv_at hl 0 rfl) ?_
        refine lv_iload_n hx hb dL_law_75 rfl (lv_at hl 3 rfl) ?_
        refine lv_iconst (v := nI 2) hx hb dL_law_76 (by decide +kernel) ?_
        refine lv_iadd hx hb dL_law_77 ?_
        refine wt_to (nI (i + 2)) (nI_add i 2) ?_
        refine wt_sld hx hb hX hbl hbA hS (j := i + 2) (by omega) hL dL_law_78 ?_
        refine lv_aload_n hx hb dL_law_79 rfl (lv_at hl 0 rfl) ?_
        refine lv_iload_n hx hb dL_law_80 rfl (lv_at hl 3 rfl) ?_
        refine lv_iconst (v := nI 3) hx hb dL_law_81 (by decide +kernel) ?_
        refine lv_iadd hx hb dL_law_82 ?_
        refine wt_to (nI (i + 3)) (nI_add i 3) ?_
        refine wt_sld hx hb hX hbl hbA hS (j := i + 3) (by omega) hL dL_law_83 ?_
        refine lv_aload_n hx hb dL_law_84 rfl (lv_at hl 0 rfl) ?_
        refine lv_iload_n hx hb dL_law_85 rfl (lv_at hl 3 rfl) ?_
        refine lv_iconst (v := nI 4) hx hb dL_law_86 (by decide +kernel) ?_
        refine lv_iadd hx hb dL_law_87 ?_
        refine wt_to (nI (i + 4)) (nI_add i 4) ?_
        refine wt_sld hx hb hX hbl hbA hS (j := i + 4) (by omega) hL dL_law_88 ?_
        have hPc := hP.sub (ws' := (wt_o 0 x0 qx dx n f)) [0, 1] rfl
        have hDc := hD.sub (ws' := (wt_o 0 x0 qx dx n f)) [0, 1] (by decide) rfl
        have hFc := va_free (wc := (wt_o 0 x0 qx dx n f)) hD hS hA [0, 1] rfl
        refine va_calli (va_runV (As := [.int (xs (i + 1)), .int (xs (i + 2)), .int (xs (i + 3)), .int (xs (i + 4))]) (rest := []) ⟨hx, hb, hml, hown, hts⟩ (cX0_put_met l dC dI x0 qx dx H.size n f hn (xs (i + 1)) (xs (i + 2)) (xs (i + 3)) (xs (i + 4))) (cwV 4 hts (lw_V q31 q32 q33 q7 q34) rfl rfl rfl (by decide +kernel) ⟨Nat.le_of_ble_eq_true rfl, Nat.le_of_ble_eq_true rfl⟩) ⟨fun a U g mk q => by obtain ⟨q0, q1, qP, qK, qD⟩ := q; exact ⟨q0, q1, qP, va_K.moved (u := U) (U := U.calling g mk a) (Vm.Alike.refl U.vm) qK, qD⟩, va_recv hK hPc (ci := 0) (q0 := 0) rfl rfl, fun U hU hW => ⟨rfl, by rw [hU], by rw [hU]; exact hPc, va_K.moved hW.alike (hK.sub [0] rfl), hDc.weaken (fun _ _ _ _ => trivial)⟩⟩ rfl rfl hl.1 rfl (lv_room (Nat.le_of_ble_eq_true rfl)) dL_law_89 ⟨Nat.le_of_ble_eq_true rfl, Nat.le_of_ble_eq_true rfl⟩) hS (fun q _ h => hFc q h) hFc (fun r_89 u_89 t H1 locs ht hvm hw hB hz1 hk1 hS => ?_)
        obtain ⟨hP1, -, hD1⟩ := hB
        rw [ht] at hP1
        obtain ⟨rfl, hw2⟩ := hw
        obtain rfl := hw2.symm
        obtain ⟨hP, hD⟩ := va_join (wr := (wt_o 1 y0 qy dy n f)) (w1 := (wt_o 0 x0 qx dx (wt_pn n) (wt_pf n f (xs (i + 1)) (xs (i + 2)) (xs (i + 3)) (xs (i + 4))))) hP hD [0, 1] [2, 3] rfl rfl (by decide) (by decide) hk1 hFc hP1 hD1
        generalize H1 = H at hP hS ⊢
        have hP := hP.sub (ws' := (wt_o 0 x0 qx dx (wt_pn n) (wt_pf n f (xs (i + 1)) (xs (i + 2)) (xs (i + 3)) (xs (i + 4))) ++ wt_o 1 y0 qy dy n f)) [2, 3, 0, 1] rfl
        have hD := hD.sub (ws' := (wt_o 0 x0 qx dx (wt_pn n) (wt_pf n f (xs (i + 1)) (xs (i + 2)) (xs (i + 3)) (xs (i + 4))) ++ wt_o 1 y0 qy dy n f)) [2, 3, 0, 1] (by decide) rfl
        refine lv_aload_n hx hb dL_law_92 rfl (lv_at hl 2 rfl) ?_
        refine lv_aload_n hx hb dL_law_93 rfl (lv_at hl 0 rfl) ?_
        refine lv_iload_n hx hb dL_law_94 rfl (lv_at hl 3 rfl) ?_
        refine lv_iconst (v := nI 1) hx hb dL_law_95 (by decide +kernel) ?_
        refine lv_iadd hx hb dL_law_96 ?_
        refine wt_to (nI (i + 1)) (nI_add i 1) ?_
        refine wt_sld hx hb hX hbl hbA hS (j := i + 1) (by omega) hL dL_law_97 ?_
        refine lv_aload_n hx hb dL_law_98 rfl (lv_at hl 0 rfl) ?_
        refine lv_iload_n hx hb dL_law_99 rfl (lv_at hl 3 rfl) ?_
        refine lv_iconst (v := nI 2) hx hb dL_law_100 (by decide +kernel) ?_
        refine lv_iadd hx hb dL_law_101 ?_
        refine wt_to (nI (i + 2)) (nI_add i 2) ?_
        refine wt_sld hx hb hX hbl hbA hS (j := i + 2) (by omega) hL dL_law_102 ?_
        refine lv_aload_n hx hb dL_law_103 rfl (lv_at hl 0 rfl) ?_
        refine lv_iload_n hx hb dL_law_104 rfl (lv_at hl 3 rfl) ?_
        refine lv_iconst (v := nI 3) hx hb dL_law_105 (by decide +kernel) ?_
        refine lv_iadd hx hb dL_law_106 ?_
        refine wt_to (nI (i + 3)) (nI_add i 3) ?_
        refine wt_sld hx hb hX hbl hbA hS (j := i + 3) (by omega) hL dL_law_107 ?_
        refine lv_aload_n hx hb dL_law_108 rfl (lv_at hl 0 rfl) ?_
        refine lv_iload_n hx hb dL_law_109 rfl (lv_at hl 3 rfl) ?_
        refine lv_iconst (v := nI 4) hx hb dL_law_110 (by decide +kernel) ?_
        refine lv_iadd hx hb dL_law_111 ?_
        refine wt_to (nI (i + 4)) (nI_add i 4) ?_
        refine wt_sld hx hb hX hbl hbA hS (j := i + 4) (by omega) hL dL_law_112 ?_
        have hPc := hP.sub (ws' := (wt_o 1 y0 qy dy n f)) [2, 3] rfl
        have hDc := hD.sub (ws' := (wt_o 1 y0 qy dy n f)) [2, 3] (by decide) rfl
        have hFc := va_free (wc := (wt_o 1 y0 qy dy n f)) hD hS hA [2, 3] rfl
        refine va_calli (va_runV (As := [.int (xs (i + 1)), .int (xs (i + 2)), .int (xs (i + 3)), .int (xs (i + 4))]) (rest := [.int (wt_pr n)]) ⟨hx, hb, hml, hown, hts⟩ (cX1_put_met l dC dI y0 qy dy H.size n f hn (xs (i + 1)) (xs (i + 2)) (xs (i + 3)) (xs (i + 4))) (cwV 4 hts (lw_V q151 q152 q153 q8 q154) rfl rfl rfl (by decide +kernel) ⟨Nat.le_of_ble_eq_true rfl, Nat.le_of_ble_eq_true rfl⟩) ⟨fun a U g mk q => by obtain ⟨q0, q1, qP, qK, qD⟩ := q; exact ⟨q0, q1, qP, va_K.moved (u := U) (U := U.calling g mk a) (Vm.Alike.refl U.vm) qK, qD⟩, va_recv hK hPc (ci := 1) (q0 := 0) rfl rfl, fun U hU hW => ⟨rfl, by rw [hU], by rw [hU]; exact hPc, va_K.moved hW.alike (hK.sub [1] rfl), hDc.weaken (fun _ _ _ _ => trivial)⟩⟩ rfl rfl hl.1 rfl (lv_room (Nat.le_of_ble_eq_true rfl)) dL_law_113 ⟨Nat.le_of_ble_eq_true rfl, Nat.le_of_ble_eq_true rfl⟩) hS (fun q _ h => hFc q h) hFc (fun r_113 u_113 t H1 locs ht hvm hw hB hz1 hk1 hS => ?_)
        obtain ⟨hP1, -, hD1⟩ := hB
        rw [ht] at hP1
        obtain ⟨rfl, hw2⟩ := hw
        obtain rfl := hw2.symm
        obtain ⟨hP, hD⟩ := va_join (wr := (wt_o 0 x0 qx dx (wt_pn n) (wt_pf n f (xs (i + 1)) (xs (i + 2)) (xs (i + 3)) (xs (i + 4))))) (w1 := (wt_o 1 y0 qy dy (wt_pn n) (wt_pf n f (xs (i + 1)) (xs (i + 2)) (xs (i + 3)) (xs (i + 4))))) hP hD [2, 3] [0, 1] rfl rfl (by decide) (by decide) hk1 hFc hP1 hD1
        generalize H1 = H at hP hS ⊢
        have hP := hP.sub (ws' := (wt_o 0 x0 qx dx (wt_pn n) (wt_pf n f (xs (i + 1)) (xs (i + 2)) (xs (i + 3)) (xs (i + 4))) ++ wt_o 1 y0 qy dy (wt_pn n) (wt_pf n f (xs (i + 1)) (xs (i + 2)) (xs (i + 3)) (xs (i + 4))))) [0, 1, 2, 3] rfl
        have hD := hD.sub (ws' := (wt_o 0 x0 qx dx (wt_pn n) (wt_pf n f (xs (i + 1)) (xs (i + 2)) (xs (i + 3)) (xs (i + 4))) ++ wt_o 1 y0 qy dy (wt_pn n) (wt_pf n f (xs (i + 1)) (xs (i + 2)) (xs (i + 3)) (xs (i + 4))))) [0, 1, 2, 3] (by decide) rfl
        refine lv_icmp_eq (tgt := 219) hx hb dL_law_116 (by decide) (fun c_116 => ?_) (fun c_116 => ?_)
        · exact t219 _ _ (wt_pnle hn) (wt_pfB hB _ _ _ _) _ _ hP hD hS
        · exact absurd rfl c_116
      · refine lv_tableIn (off := 88) (tgt := 121) hx hb dL_law_33 (by decide) (by decide) (by decide) (by decide) ?_
        refine lv_aload_n hx hb dL_law_121 rfl (lv_at hl 1 rfl) ?_
        refine lv_aload_n hx hb dL_law_122 rfl (lv_at hl 0 rfl) ?_
        refine lv_iload_n hx hb dL_law_123 rfl (lv_at hl 3 rfl) ?_
        refine lv_iconst (v := nI 1) hx hb dL_law_124 (by decide +kernel) ?_
        refine lv_iadd hx hb dL_law_125 ?_
        refine wt_to (nI (i + 1)) (nI_add i 1) ?_
        refine wt_sld hx hb hX hbl hbA hS (j := i + 1) (by omega) hL dL_law_126 ?_
        have hPc := hP.sub (ws' := (wt_o 0 x0 qx dx n f)) [0, 1] rfl
        have hDc := hD.sub (ws' := (wt_o 0 x0 qx dx n f)) [0, 1] (by decide) rfl
        have hFc := va_free (wc := (wt_o 0 x0 qx dx n f)) hD hS hA [0, 1] rfl
        refine va_callv (va_runV (As := [.int (xs (i + 1))]) (rest := []) ⟨hx, hb, hml, hown, hts⟩ (cX0_trim_met l dC dI x0 qx dx H.size n f hn (xs (i + 1))) (cwV 1 hts (lw_V q39 q40 q41 q7 q42) rfl rfl rfl (by decide +kernel) ⟨Nat.le_of_ble_eq_true rfl, Nat.le_of_ble_eq_true rfl⟩) ⟨fun a U g mk q => by obtain ⟨q0, q1, qP, qK, qD⟩ := q; exact ⟨q0, q1, qP, va_K.moved (u := U) (U := U.calling g mk a) (Vm.Alike.refl U.vm) qK, qD⟩, va_recv hK hPc (ci := 0) (q0 := 0) rfl rfl, fun U hU hW => ⟨rfl, by rw [hU], by rw [hU]; exact hPc, va_K.moved hW.alike (hK.sub [0] rfl), hDc.weaken (fun _ _ _ _ => trivial)⟩⟩ rfl rfl hl.1 rfl (lv_room (Nat.le_of_ble_eq_true rfl)) dL_law_127 ⟨Nat.le_of_ble_eq_true rfl, Nat.le_of_ble_eq_true rfl⟩) hS (fun q _ h => hFc q h) hFc (fun u_127 t H1 locs ht hvm hw hB hz1 hk1 hS => ?_)
        obtain ⟨hP1, -, hD1⟩ := hB
        rw [ht] at hP1
        obtain rfl := hw.symm
        obtain ⟨hP, hD⟩ := va_join (wr := (wt_o 1 y0 qy dy n f)) (w1 := (wt_o 0 x0 qx dx (wt_rm (xs (i + 1)) (n + 1)) f)) hP hD [0, 1] [2, 3] rfl rfl (by decide) (by decide) hk1 hFc hP1 hD1
        generalize H1 = H at hP hS ⊢
        have hP := hP.sub (ws' := (wt_o 0 x0 qx dx (wt_rm (xs (i + 1)) (n + 1)) f ++ wt_o 1 y0 qy dy n f)) [2, 3, 0, 1] rfl
        have hD := hD.sub (ws' := (wt_o 0 x0 qx dx (wt_rm (xs (i + 1)) (n + 1)) f ++ wt_o 1 y0 qy dy n f)) [2, 3, 0, 1] (by decide) rfl
        refine lv_aload_n hx hb dL_law_130 rfl (lv_at hl 2 rfl) ?_
        refine lv_aload_n hx hb dL_law_131 rfl (lv_at hl 0 rfl) ?_
        refine lv_iload_n hx hb dL_law_132 rfl (lv_at hl 3 rfl) ?_
        refine lv_iconst (v := nI 1) hx hb dL_law_133 (by decide +kernel) ?_
        refine lv_iadd hx hb dL_law_134 ?_
        refine wt_to (nI (i + 1)) (nI_add i 1) ?_
        refine wt_sld hx hb hX hbl hbA hS (j := i + 1) (by omega) hL dL_law_135 ?_
        have hPc := hP.sub (ws' := (wt_o 1 y0 qy dy n f)) [2, 3] rfl
        have hDc := hD.sub (ws' := (wt_o 1 y0 qy dy n f)) [2, 3] (by decide) rfl
        have hFc := va_free (wc := (wt_o 1 y0 qy dy n f)) hD hS hA [2, 3] rfl
        refine va_callv (va_runV (As := [.int (xs (i + 1))]) (rest := []) ⟨hx, hb, hml, hown, hts⟩ (cX1_trim_met l dC dI y0 qy dy H.size n f hn (xs (i + 1))) (cwV 1 hts (lw_V q155 q156 q157 q8 q158) rfl rfl rfl (by decide +kernel) ⟨Nat.le_of_ble_eq_true rfl, Nat.le_of_ble_eq_true rfl⟩) ⟨fun a U g mk q => by obtain ⟨q0, q1, qP, qK, qD⟩ := q; exact ⟨q0, q1, qP, va_K.moved (u := U) (U := U.calling g mk a) (Vm.Alike.refl U.vm) qK, qD⟩, va_recv hK hPc (ci := 1) (q0 := 0) rfl rfl, fun U hU hW => ⟨rfl, by rw [hU], by rw [hU]; exact hPc, va_K.moved hW.alike (hK.sub [1] rfl), hDc.weaken (fun _ _ _ _ => trivial)⟩⟩ rfl rfl hl.1 rfl (lv_room (Nat.le_of_ble_eq_true rfl)) dL_law_136 ⟨Nat.le_of_ble_eq_true rfl, Nat.le_of_ble_eq_true rfl⟩) hS (fun q _ h => hFc q h) hFc (fun u_136 t H1 locs ht hvm hw hB hz1 hk1 hS => ?_)
        obtain ⟨hP1, -, hD1⟩ := hB
        rw [ht] at hP1
        obtain rfl := hw.symm
        obtain ⟨hP, hD⟩ := va_join (wr := (wt_o 0 x0 qx dx (wt_rm (xs (i + 1)) (n + 1)) f)) (w1 := (wt_o 1 y0 qy dy (wt_rm (xs (i + 1)) (n + 1)) f)) hP hD [2, 3] [0, 1] rfl rfl (by decide) (by decide) hk1 hFc hP1 hD1
        generalize H1 = H at hP hS ⊢
        have hP := hP.sub (ws' := (wt_o 0 x0 qx dx (wt_rm (xs (i + 1)) (n + 1)) f ++ wt_o 1 y0 qy dy (wt_rm (xs (i + 1)) (n + 1)) f)) [0, 1, 2, 3] rfl
        have hD := hD.sub (ws' := (wt_o 0 x0 qx dx (wt_rm (xs (i + 1)) (n + 1)) f ++ wt_o 1 y0 qy dy (wt_rm (xs (i + 1)) (n + 1)) f)) [0, 1, 2, 3] (by decide) rfl
        refine lv_goto (tgt := 219) hx hb dL_law_139 (by decide) ?_
        exact t219 _ _ (by have := wt_rm_lt (xs (i + 1)) (n := n + 1) (by omega); omega) hB _ _ hP hD hS
      · refine lv_tableIn (off := 109) (tgt := 142) hx hb dL_law_33 (by decide) (by decide) (by decide) (by decide) ?_
        refine lv_aload_n hx hb dL_law_142 rfl (lv_at hl 1 rfl) ?_
        have hPc := hP.sub (ws' := (wt_o 0 x0 qx dx n f)) [0, 1] rfl
        have hDc := hD.sub (ws' := (wt_o 0 x0 qx dx n f)) [0, 1] (by decide) rfl
        have hFc := va_free (wc := (wt_o 0 x0 qx dx n f)) hD hS hA [0, 1] rfl
        refine va_calli (va_runV (As := []) (rest := []) ⟨hx, hb, hml, hown, hts⟩ (cX0_size_met l dC dI x0 qx dx H.size n f) (cwV 0 hts (lw_V q48 q49 q50 q7 q51) rfl rfl rfl (by decide +kernel) ⟨Nat.le_of_ble_eq_true rfl, Nat.le_of_ble_eq_true rfl⟩) ⟨fun a U g mk q => by obtain ⟨q0, q1, qP, qK, qD⟩ := q; exact ⟨q0, q1, qP, va_K.moved (u := U) (U := U.calling g mk a) (Vm.Alike.refl U.vm) qK, qD⟩, va_recv hK hPc (ci := 0) (q0 := 0) rfl rfl, fun U hU hW => ⟨rfl, by rw [hU], by rw [hU]; exact hPc, va_K.moved hW.alike (hK.sub [0] rfl), hDc.weaken (fun _ _ _ _ => trivial)⟩⟩ rfl rfl hl.1 rfl (lv_room (Nat.le_of_ble_eq_true rfl)) dL_law_143 ⟨Nat.le_of_ble_eq_true rfl, Nat.le_of_ble_eq_true rfl⟩) hS (fun q _ h => hFc q h) hFc (fun r_143 u_143 t H1 locs ht hvm hw hB hz1 hk1 hS => ?_)
        obtain ⟨hP1, -, hD1⟩ := hB
        rw [ht] at hP1
        obtain ⟨rfl, hw2⟩ := hw
        obtain rfl := hw2.symm
        obtain ⟨hP, hD⟩ := va_join (wr := (wt_o 1 y0 qy dy n f)) (w1 := (wt_o 0 x0 qx dx n f)) hP hD [0, 1] [2, 3] rfl rfl (by decide) (by decide) hk1 hFc hP1 hD1
        generalize H1 = H at hP hS ⊢
        have hP := hP.sub (ws' := (wt_o 0 x0 qx dx n f ++ wt_o 1 y0 qy dy n f)) [2, 3, 0, 1] rfl
        have hD := hD.sub (ws' := (wt_o 0 x0 qx dx n f ++ wt_o 1 y0 qy dy n f)) [2, 3, 0, 1] (by decide) rfl
        refine lv_aload_n hx hb dL_law_146 rfl (lv_at hl 2 rfl) ?_
        have hPc := hP.sub (ws' := (wt_o 1 y0 qy dy n f)) [2, 3] rfl
        have hDc := hD.sub (ws' := (wt_o 1 y0 qy dy n f)) [2, 3] (by decide) rfl
        have hFc := va_free (wc := (wt_o 1 y0 qy dy n f)) hD hS hA [2, 3] rfl
        refine va_calli (va_runV (As := []) (rest := [.int (nI n)]) ⟨hx, hb, hml, hown, hts⟩ (cX1_size_met l dC dI y0 qy dy H.size n f) (cwV 0 hts (lw_V q164 q165 q166 q8 q167) rfl rfl rfl (by decide +kernel) ⟨Nat.le_of_ble_eq_true rfl, Nat.le_of_ble_eq_true rfl⟩) ⟨fun a U g mk q => by obtain ⟨q0, q1, qP, qK, qD⟩ := q; exact ⟨q0, q1, qP, va_K.moved (u := U) (U := U.calling g mk a) (Vm.Alike.refl U.vm) qK, qD⟩, va_recv hK hPc (ci := 1) (q0 := 0) rfl rfl, fun U hU hW => ⟨rfl, by rw [hU], by rw [hU]; exact hPc, va_K.moved hW.alike (hK.sub [1] rfl), hDc.weaken (fun _ _ _ _ => trivial)⟩⟩ rfl rfl hl.1 rfl (lv_room (Nat.le_of_ble_eq_true rfl)) dL_law_147 ⟨Nat.le_of_ble_eq_true rfl, Nat.le_of_ble_eq_true rfl⟩) hS (fun q _ h => hFc q h) hFc (fun r_147 u_147 t H1 locs ht hvm hw hB hz1 hk1 hS => ?_)
        obtain ⟨hP1, -, hD1⟩ := hB
        rw [ht] at hP1
        obtain ⟨rfl, hw2⟩ := hw
        obtain rfl := hw2.symm
        obtain ⟨hP, hD⟩ := va_join (wr := (wt_o 0 x0 qx dx n f)) (w1 := (wt_o 1 y0 qy dy n f)) hP hD [2, 3] [0, 1] rfl rfl (by decide) (by decide) hk1 hFc hP1 hD1
        generalize H1 = H at hP hS ⊢
        have hP := hP.sub (ws' := (wt_o 0 x0 qx dx n f ++ wt_o 1 y0 qy dy n f)) [0, 1, 2, 3] rfl
        have hD := hD.sub (ws' := (wt_o 0 x0 qx dx n f ++ wt_o 1 y0 qy dy n f)) [0, 1, 2, 3] (by decide) rfl
        refine lv_icmp_eq (tgt := 219) hx hb dL_law_150 (by decide) (fun c_150 => ?_) (fun c_150 => ?_)
        · exact t219 _ _ hn hB _ _ hP hD hS
        · exact absurd rfl c_150
      · refine lv_tableIn (off := 122) (tgt := 155) hx hb dL_law_33 (by decide) (by decide) (by decide) (by decide) ?_
        refine lv_aload_n hx hb dL_law_155 rfl (lv_at hl 1 rfl) ?_
        refine lv_aload_n hx hb dL_law_156 rfl (lv_at hl 0 rfl) ?_
        refine lv_iload_n hx hb dL_law_157 rfl (lv_at hl 3 rfl) ?_
        refine lv_iconst (v := nI 1) hx hb dL_law_158 (by decide +kernel) ?_
        refine lv_iadd hx hb dL_law_159 ?_
        refine wt_to (nI (i + 1)) (nI_add i 1) ?_
        refine wt_sld hx hb hX hbl hbA hS (j := i + 1) (by omega) hL dL_law_160 ?_
        refine lv_aload_n hx hb dL_law_161 rfl (lv_at hl 0 rfl) ?_
        refine lv_iload_n hx hb dL_law_162 rfl (lv_at hl 3 rfl) ?_
        refine lv_iconst (v := nI 2) hx hb dL_law_163 (by decide +kernel) ?_
        refine lv_iadd hx hb dL_law_164 ?_
        refine wt_to (nI (i + 2)) (nI_add i 2) ?_
        refine wt_sld hx hb hX hbl hbA hS (j := i + 2) (by omega) hL dL_law_165 ?_
        have hPc := hP.sub (ws' := (wt_o 0 x0 qx dx n f)) [0, 1] rfl
        have hDc := hD.sub (ws' := (wt_o 0 x0 qx dx n f)) [0, 1] (by decide) rfl
        have hFc := va_free (wc := (wt_o 0 x0 qx dx n f)) hD hS hA [0, 1] rfl
        refine va_calli (va_runV (As := [.int (xs (i + 1)), .int (xs (i + 2))]) (rest := []) ⟨hx, hb, hml, hown, hts⟩ (cX0_fair_met l dC dI x0 qx dx H.size n f hn hB (xs (i + 1)) (xs (i + 2))) (cwV 2 hts (lw_V q52 q53 q54 q7 q55) rfl rfl rfl (by decide +kernel) ⟨Nat.le_of_ble_eq_true rfl, Nat.le_of_ble_eq_true rfl⟩) ⟨fun a U g mk q => by obtain ⟨q0, q1, qP, qK, qD⟩ := q; exact ⟨q0, q1, qP, va_K.moved (u := U) (U := U.calling g mk a) (Vm.Alike.refl U.vm) qK, qD⟩, va_recv hK hPc (ci := 0) (q0 := 0) rfl rfl, fun U hU hW => ⟨rfl, by rw [hU], by rw [hU]; exact hPc, va_K.moved hW.alike (hK.sub [0] rfl), hDc.weaken (fun _ _ _ _ => trivial)⟩⟩ rfl rfl hl.1 rfl (lv_room (Nat.le_of_ble_eq_true rfl)) dL_law_166 ⟨Nat.le_of_ble_eq_true rfl, Nat.le_of_ble_eq_true rfl⟩) hS (fun q _ h => hFc q h) hFc (fun r_166 u_166 t H1 locs ht hvm hw hB hz1 hk1 hS => ?_)
        obtain ⟨hP1, -, hD1⟩ := hB
        rw [ht] at hP1
        obtain ⟨rfl, hw2⟩ := hw
        obtain rfl := hw2.symm
        obtain ⟨hP, hD⟩ := va_join (wr := (wt_o 1 y0 qy dy n f)) (w1 := (wt_o 0 x0 qx dx n f)) hP hD [0, 1] [2, 3] rfl rfl (by decide) (by decide) hk1 hFc hP1 hD1
        generalize H1 = H at hP hS ⊢
        have hP := hP.sub (ws' := (wt_o 0 x0 qx dx n f ++ wt_o 1 y0 qy dy n f)) [2, 3, 0, 1] rfl
        have hD := hD.sub (ws' := (wt_o 0 x0 qx dx n f ++ wt_o 1 y0 qy dy n f)) [2, 3, 0, 1] (by decide) rfl
        refine lv_aload_n hx hb dL_law_169 rfl (lv_at hl 2 rfl) ?_
        refine lv_aload_n hx hb dL_law_170 rfl (lv_at hl 0 rfl) ?_
        refine lv_iload_n hx hb dL_law_171 rfl (lv_at hl 3 rfl) ?_
        refine lv_iconst (v := nI 1) hx hb dL_law_172 (by decide +kernel) ?_
        refine lv_iadd hx hb dL_law_173 ?_
        refine wt_to (nI (i + 1)) (nI_add i 1) ?_
        refine wt_sld hx hb hX hbl hbA hS (j := i + 1) (by omega) hL dL_law_174 ?_
        refine lv_aload_n hx hb dL_law_175 rfl (lv_at hl 0 rfl) ?_
        refine lv_iload_n hx hb dL_law_176 rfl (lv_at hl 3 rfl) ?_
        refine lv_iconst (v := nI 2) hx hb dL_law_177 (by decide +kernel) ?_
        refine lv_iadd hx hb dL_law_178 ?_
        refine wt_to (nI (i + 2)) (nI_add i 2) ?_
        refine wt_sld hx hb hX hbl hbA hS (j := i + 2) (by omega) hL dL_law_179 ?_
        have hPc := hP.sub (ws' := (wt_o 1 y0 qy dy n f)) [2, 3] rfl
        have hDc := hD.sub (ws' := (wt_o 1 y0 qy dy n f)) [2, 3] (by decide) rfl
        have hFc := va_free (wc := (wt_o 1 y0 qy dy n f)) hD hS hA [2, 3] rfl
        refine va_calli (va_runV (As := [.int (xs (i + 1)), .int (xs (i + 2))]) (rest := [.int (wt_fa n f (xs (i + 1)) (xs (i + 2)))]) ⟨hx, hb, hml, hown, hts⟩ (cX1_fair_met l dC dI y0 qy dy H.size n f hn (xs (i + 1)) (xs (i + 2))) (cwV 2 hts (lw_V q172 q173 q174 q8 q175) rfl rfl rfl (by decide +kernel) ⟨Nat.le_of_ble_eq_true rfl, Nat.le_of_ble_eq_true rfl⟩) ⟨fun a U g mk q => by obtain ⟨q0, q1, qP, qK, qD⟩ := q; exact ⟨q0, q1, qP, va_K.moved (u := U) (U := U.calling g mk a) (Vm.Alike.refl U.vm) qK, qD⟩, va_recv hK hPc (ci := 1) (q0 := 0) rfl rfl, fun U hU hW => ⟨rfl, by rw [hU], by rw [hU]; exact hPc, va_K.moved hW.alike (hK.sub [1] rfl), hDc.weaken (fun _ _ _ _ => trivial)⟩⟩ rfl rfl hl.1 rfl (lv_room (Nat.le_of_ble_eq_true rfl)) dL_law_180 ⟨Nat.le_of_ble_eq_true rfl, Nat.le_of_ble_eq_true rfl⟩) hS (fun q _ h => hFc q h) hFc (fun r_180 u_180 t H1 locs ht hvm hw hB hz1 hk1 hS => ?_)
        obtain ⟨hP1, -, hD1⟩ := hB
        rw [ht] at hP1
        obtain ⟨rfl, hw2⟩ := hw
        obtain rfl := hw2.symm
        obtain ⟨hP, hD⟩ := va_join (wr := (wt_o 0 x0 qx dx n f)) (w1 := (wt_o 1 y0 qy dy n f)) hP hD [2, 3] [0, 1] rfl rfl (by decide) (by decide) hk1 hFc hP1 hD1
        generalize H1 = H at hP hS ⊢
        have hP := hP.sub (ws' := (wt_o 0 x0 qx dx n f ++ wt_o 1 y0 qy dy n f)) [0, 1, 2, 3] rfl
        have hD := hD.sub (ws' := (wt_o 0 x0 qx dx n f ++ wt_o 1 y0 qy dy n f)) [0, 1, 2, 3] (by decide) rfl
        refine lv_icmp_eq (tgt := 219) hx hb dL_law_183 (by decide) (fun c_183 => ?_) (fun c_183 => ?_)
        · exact t219 _ _ hn hB _ _ hP hD hS
        · exact absurd rfl c_183
      · refine lv_tableIn (off := 155) (tgt := 188) hx hb dL_law_33 (by decide) (by decide) (by decide) (by decide) ?_
        refine lv_aload_n hx hb dL_law_188 rfl (lv_at hl 1 rfl) ?_
        refine lv_aload_n hx hb dL_law_189 rfl (lv_at hl 0 rfl) ?_
        refine lv_iload_n hx hb dL_law_190 rfl (lv_at hl 3 rfl) ?_
        refine lv_iconst (v := nI 1) hx hb dL_law_191 (by decide +kernel) ?_
        refine lv_iadd hx hb dL_law_192 ?_
        refine wt_to (nI (i + 1)) (nI_add i 1) ?_
        refine wt_sld hx hb hX hbl hbA hS (j := i + 1) (by omega) hL dL_law_193 ?_
        refine lv_aload_n hx hb dL_law_194 rfl (lv_at hl 0 rfl) ?_
        refine lv_iload_n hx hb dL_law_195 rfl (lv_at hl 3 rfl) ?_
        refine lv_iconst (v := nI 2) hx hb dL_law_196 (by decide +kernel) ?_
        refine lv_iadd hx hb dL_law_197 ?_
        refine wt_to (nI (i + 2)) (nI_add i 2) ?_
        refine wt_sld hx hb hX hbl hbA hS (j := i + 2) (by omega) hL dL_law_198 ?_
        have hPc := hP.sub (ws' := (wt_o 0 x0 qx dx n f)) [0, 1] rfl
        have hDc := hD.sub (ws' := (wt_o 0 x0 qx dx n f)) [0, 1] (by decide) rfl
        have hFc := va_free (wc := (wt_o 0 x0 qx dx n f)) hD hS hA [0, 1] rfl
        refine va_callv (va_runV (As := [.int (xs (i + 1)), .int (xs (i + 2))]) (rest := []) ⟨hx, hb, hml, hown, hts⟩ (cX0_sign_met l dC dI x0 qx dx H.size n f hn (xs (i + 1)) (xs (i + 2))) (cwV 2 hts (lw_V q134 q135 q136 q7 q137) rfl rfl rfl (by decide +kernel) ⟨Nat.le_of_ble_eq_true rfl, Nat.le_of_ble_eq_true rfl⟩) ⟨fun a U g mk q => by obtain ⟨q0, q1, qP, qK, qD⟩ := q; exact ⟨q0, q1, qP, va_K.moved (u := U) (U := U.calling g mk a) (Vm.Alike.refl U.vm) qK, qD⟩, va_recv hK hPc (ci := 0) (q0 := 0) rfl rfl, fun U hU hW => ⟨rfl, by rw [hU], by rw [hU]; exact hPc, va_K.moved hW.alike (hK.sub [0] rfl), hDc.weaken (fun _ _ _ _ => trivial)⟩⟩ rfl rfl hl.1 rfl (lv_room (Nat.le_of_ble_eq_true rfl)) dL_law_199 ⟨Nat.le_of_ble_eq_true rfl, Nat.le_of_ble_eq_true rfl⟩) hS (fun q _ h => hFc q h) hFc (fun u_199 t H1 locs ht hvm hw hB hz1 hk1 hS => ?_)
        obtain ⟨hP1, -, hD1⟩ := hB
        rw [ht] at hP1
        obtain rfl := hw.symm
        obtain ⟨hP, hD⟩ := va_join (wr := (wt_o 1 y0 qy dy n f)) (w1 := (wt_o 0 x0 qx dx n (wt_sg n f (xs (i + 1)) (xs (i + 2))))) hP hD [0, 1] [2, 3] rfl rfl (by decide) (by decide) hk1 hFc hP1 hD1
        generalize H1 = H at hP hS ⊢
        have hP := hP.sub (ws' := (wt_o 0 x0 qx dx n (wt_sg n f (xs (i + 1)) (xs (i + 2))) ++ wt_o 1 y0 qy dy n f)) [2, 3, 0, 1] rfl
        have hD := hD.sub (ws' := (wt_o 0 x0 qx dx n (wt_sg n f (xs (i + 1)) (xs (i + 2))) ++ wt_o 1 y0 qy dy n f)) [2, 3, 0, 1] (by decide) rfl
        refine lv_aload_n hx hb dL_law_202 rfl (lv_at hl 2 rfl) ?_
        refine lv_aload_n hx hb dL_law_203 rfl (lv_at hl 0 rfl) ?_
        refine lv_iload_n hx hb dL_law_204 rfl (lv_at hl 3 rfl) ?_
        refine lv_iconst (v := nI 1) hx hb dL_law_205 (by decide +kernel) ?_
        refine lv_iadd hx hb dL_law_206 ?_
        refine wt_to (nI (i + 1)) (nI_add i 1) ?_
        refine wt_sld hx hb hX hbl hbA hS (j := i + 1) (by omega) hL dL_law_207 ?_
        refine lv_aload_n hx hb dL_law_208 rfl (lv_at hl 0 rfl) ?_
        refine lv_iload_n hx hb dL_law_209 rfl (lv_at hl 3 rfl) ?_
        refine lv_iconst (v := nI 2) hx hb dL_law_210 (by decide +kernel) ?_
        refine lv_iadd hx hb dL_law_211 ?_
        refine wt_to (nI (i + 2)) (nI_add i 2) ?_
        refine wt_sld hx hb hX hbl hbA hS (j := i + 2) (by omega) hL dL_law_212 ?_
        have hPc := hP.sub (ws' := (wt_o 1 y0 qy dy n f)) [2, 3] rfl
        have hDc := hD.sub (ws' := (wt_o 1 y0 qy dy n f)) [2, 3] (by decide) rfl
        have hFc := va_free (wc := (wt_o 1 y0 qy dy n f)) hD hS hA [2, 3] rfl
        refine va_callv (va_runV (As := [.int (xs (i + 1)), .int (xs (i + 2))]) (rest := []) ⟨hx, hb, hml, hown, hts⟩ (cX1_sign_met l dC dI y0 qy dy H.size n f hn (xs (i + 1)) (xs (i + 2))) (cwV 2 hts (lw_V q168 q169 q170 q8 q171) rfl rfl rfl (by decide +kernel) ⟨Nat.le_of_ble_eq_true rfl, Nat.le_of_ble_eq_true rfl⟩) ⟨fun a U g mk q => by obtain ⟨q0, q1, qP, qK, qD⟩ := q; exact ⟨q0, q1, qP, va_K.moved (u := U) (U := U.calling g mk a) (Vm.Alike.refl U.vm) qK, qD⟩, va_recv hK hPc (ci := 1) (q0 := 0) rfl rfl, fun U hU hW => ⟨rfl, by rw [hU], by rw [hU]; exact hPc, va_K.moved hW.alike (hK.sub [1] rfl), hDc.weaken (fun _ _ _ _ => trivial)⟩⟩ rfl rfl hl.1 rfl (lv_room (Nat.le_of_ble_eq_true rfl)) dL_law_213 ⟨Nat.le_of_ble_eq_true rfl, Nat.le_of_ble_eq_true rfl⟩) hS (fun q _ h => hFc q h) hFc (fun u_213 t H1 locs ht hvm hw hB hz1 hk1 hS => ?_)
        obtain ⟨hP1, -, hD1⟩ := hB
        rw [ht] at hP1
        obtain rfl := hw.symm
        obtain ⟨hP, hD⟩ := va_join (wr := (wt_o 0 x0 qx dx n (wt_sg n f (xs (i + 1)) (xs (i + 2))))) (w1 := (wt_o 1 y0 qy dy n (wt_sg n f (xs (i + 1)) (xs (i + 2))))) hP hD [2, 3] [0, 1] rfl rfl (by decide) (by decide) hk1 hFc hP1 hD1
        generalize H1 = H at hP hS ⊢
        have hP := hP.sub (ws' := (wt_o 0 x0 qx dx n (wt_sg n f (xs (i + 1)) (xs (i + 2))) ++ wt_o 1 y0 qy dy n (wt_sg n f (xs (i + 1)) (xs (i + 2))))) [0, 1, 2, 3] rfl
        have hD := hD.sub (ws' := (wt_o 0 x0 qx dx n (wt_sg n f (xs (i + 1)) (xs (i + 2))) ++ wt_o 1 y0 qy dy n (wt_sg n f (xs (i + 1)) (xs (i + 2))))) [0, 1, 2, 3] (by decide) rfl
        refine lv_goto (tgt := 219) hx hb dL_law_216 (by decide) ?_
        exact t219 _ _ hn (wt_sgB hB _ _) _ _ hP hD hS
      · refine lv_tableOut (tgt := 219) hx hb dL_law_33 (Or.inr (by rw [nI_toInt (by omega)]; omega)) (by decide) ?_
        exact t219 n f hn hB _ _ hP hD hS
end
section
set_option maxHeartbeats 4000000 in
set_option maxRecDepth 100000 in
theorem whole_start {p : Program} {e : Env} {s : State} {m : MethodId} {below : List Frame} {meth : Method} {c : Code} (l : Launch) (hflags : l.flags = flags0) {b L : Nat} {xs : Nat → Int32} (hL : L ≤ 384) (C0 : lw_At p s m meth c b L xs) : W p l e room_1 s m #[Value.ref b] below meth c s.heap [] 0 0 (lw_Z below #[Value.ref b] s) (entryFrame m ([Value.ref b] : List Value).toArray 4) := by
  obtain ⟨hx, hb, hr, hml, hown, hts0, hX, hbl, hlocks, hgv⟩ := id C0
  have hts : ∀ w ∈ lw_all, w.before #[Value.ref b] s = true := fun w h => hts0 w (lw_all_tbl h)
  have hA : ∀ q : Nat, s.heap.size ≤ q → (fun q : Nat => s.heap.size ≤ q) q := fun _ h => h
  have hbA : ¬ (fun q : Nat => s.heap.size ≤ q) b := Nat.not_le.mpr hbl
  obtain ⟨c0_, iS0, hKn0⟩ := u_known (C := RX0) (T := TX0) (N := 2) (n := 2) hts in_X0 (hts _ q16)
  obtain ⟨c1_, iS1, hKn1⟩ := u_known (C := RX1) (T := TX1) (N := 2) (n := 2) hts in_X1 (hts _ q139)
  obtain ⟨dC, dI, hKc⟩ : ∃ (dC : Nat → ClassId) (dI : Nat → Nat → Nat), ∀ (k : Nat) (q : vw_C), vwCl[k]? = some q → u_Kn s q.1 q.2.1 q.2.2 (dC k) (dI k) := by
    refine ⟨fun k => if k = 0 then c0_ else c1_, fun k => if k = 0 then iS0 else iS1, ?_⟩
    intro k q hq
    match k, hq with
    | 0, hq => cases hq; exact hKn0
    | 1, hq => cases hq; exact hKn1
    | k + 2, hq => simp [vwCl] at hq
  have hS : va_S (fun q : Nat => s.heap.size ≤ q) s.heap s.heap [] := va_S.rf
  have hK : va_K (dC, dI) vwCl [] s := ⟨hKc, fun k q h => by simp at h⟩
  have hP : va_P (dC, dI) vwCl [] s.heap := fun k q h => by simp at h
  have hD : va_D (fun q : Nat => s.heap.size ≤ q) [] := ⟨fun i j p q h => by simp at h, fun k q h => by simp at h⟩
  have hl := lv_entry ([.ref b]) (n := 4) (Nat.le_of_ble_eq_true rfl)
  rw [lg_entry_eq]
  generalize (lg_sl ([.ref b]) ++ List.replicate (4 - (lg_sl ([.ref b])).length) Slot.unset).toArray = ls at hl ⊢
  have hl : lv_has ls 4 [(0, .ref b)] := hl
  refine va_new (ci := 0) (fs := [.null, .int 0]) (C := RX0) (T := TX0) (N := 2) hx hb hts in_X0 tyX0 tyX0_ok hown (hts _ q15) (hts _ q16) (hts _ q7) hK hP hD hS hA rfl (fun j hj => by rcases (show j = 0 ∨ j = 1 by omega) with rfl | rfl <;> rfl) (Nat.le_of_ble_eq_true rfl) (Nat.le_of_ble_eq_true rfl) dL_law_0 (fun x0 H hP hD hS => ?_)
  have hP : va_P (dC, dI) vwCl ([(x0, .inr (0, [.null, .int 0]))]) H := hP
  have hD : va_D (fun q : Nat => s.heap.size ≤ q) ([(x0, .inr (0, [.null, .int 0]))]) := hD
  refine W.widen (k := 1) (n := 2) (Nat.le_of_ble_eq_true rfl) (Nat.le_of_ble_eq_true rfl) ?_
  refine lv_dup hx hb dL_law_3 rfl ?_
  have hPc := hP.sub (ws' := [(x0, .inr (0, [.null, .int 0]))]) [0] rfl
  have hDc := hD.sub (ws' := [(x0, .inr (0, [.null, .int 0]))]) [0] (by decide) rfl
  have hFc := va_free (wc := [(x0, .inr (0, [.null, .int 0]))]) hD hS hA [0] rfl
  refine va_callv (va_runI (As := []) (rest := [.ref x0]) ⟨hx, hb, hml, hown, hts⟩ (cX0_init_met l dC dI x0 H.size) (cwI 0 hts (lw_meth q19) rfl rfl rfl (hts _ q7) (hts _ q17) (hts _ q18) rfl (by decide +kernel) ⟨Nat.le_of_ble_eq_true rfl, Nat.le_of_ble_eq_true rfl⟩) ⟨fun a U g mk q => by obtain ⟨q0, q1, qP, qK, qD⟩ := q; exact ⟨q0, q1, qP, va_K.moved (u := U) (U := U.calling g mk a) (Vm.Alike.refl U.vm) qK, qD⟩, fun U hU hW => ⟨rfl, by rw [hU], by rw [hU]; exact hPc, va_K.moved hW.alike (hK.sub [] rfl), hDc.weaken (fun _ _ _ _ => trivial)⟩⟩ rfl rfl hl.1 rfl (lv_room (Nat.le_of_ble_eq_true rfl)) dL_law_4 ⟨Nat.le_of_ble_eq_true rfl, Nat.le_of_ble_eq_true rfl⟩) hS (fun q _ h => hFc q h) hFc (fun u t H1 locs ht hvm hw hB hz1 hk1 hS => ?_)
  obtain ⟨qx, dx, hP1, hK1, hD1⟩ := hB
  rw [ht] at hP1
  have hK1 := va_K.moved hvm.symm hK1
  obtain ⟨hP, hD⟩ := va_join (wr := []) (w1 := (wt_o 0 x0 qx dx 0 (fun _ => 0))) hP hD [0] [] rfl rfl (by decide) (by decide) hk1 hFc hP1 hD1
  have hK := hK.app hK1
  generalize H1 = H at hP hS ⊢
  have hP : va_P (dC, dI) vwCl ((wt_o 0 x0 qx dx 0 (fun _ => 0))) H := hP
  have hD : va_D (fun q : Nat => s.heap.size ≤ q) ((wt_o 0 x0 qx dx 0 (fun _ => 0))) := hD
  refine W.widen (k := 2) (n := 4098) (Nat.le_of_ble_eq_true rfl) (Nat.le_of_ble_eq_true rfl) ?_
  refine lv_astore_n (lv' := [(1, .ref x0), (0, .ref b)]) hx hb dL_law_7 rfl hl (by decide) rfl (fun ls hl => ?_)
  refine va_new (ci := 1) (fs := [.null, .int 0]) (C := RX1) (T := TX1) (N := 2) hx hb hts in_X1 tyX1 tyX1_ok hown (hts _ q138) (hts _ q139) (hts _ q8) hK hP hD hS hA rfl (fun j hj => by rcases (show j = 0 ∨ j = 1 by omega) with rfl | rfl <;> rfl) (Nat.le_of_ble_eq_true rfl) (Nat.le_of_ble_eq_true rfl) dL_law_8 (fun y0 H hP hD hS => ?_)
  have hP : va_P (dC, dI) vwCl ((wt_o 0 x0 qx dx 0 (fun _ => 0)) ++ [(y0, .inr (1, [.null, .int 0]))]) H := hP
  have hD : va_D (fun q : Nat => s.heap.size ≤ q) ((wt_o 0 x0 qx dx 0 (fun _ => 0)) ++ [(y0, .inr (1, [.null, .int 0]))]) := hD
  refine W.widen (k := 3) (n := 4100) (Nat.le_of_ble_eq_true rfl) (Nat.le_of_ble_eq_true rfl) ?_
  refine lv_dup hx hb dL_law_11 rfl ?_
  have hPc := hP.sub (ws' := [(y0, .inr (1, [.null, .int 0]))]) [2] rfl
  have hDc := hD.sub (ws' := [(y0, .inr (1, [.null, .int 0]))]) [2] (by decide) rfl
  have hFc := va_free (wc := [(y0, .inr (1, [.null, .int 0]))]) hD hS hA [2] rfl
  refine va_callv (va_runI (As := []) (rest := [.ref y0]) ⟨hx, hb, hml, hown, hts⟩ (cX1_init_met l dC dI y0 H.size) (cwI 0 hts (lw_meth q142) rfl rfl rfl (hts _ q8) (hts _ q140) (hts _ q141) rfl (by decide +kernel) ⟨Nat.le_of_ble_eq_true rfl, Nat.le_of_ble_eq_true rfl⟩) ⟨fun a U g mk q => by obtain ⟨q0, q1, qP, qK, qD⟩ := q; exact ⟨q0, q1, qP, va_K.moved (u := U) (U := U.calling g mk a) (Vm.Alike.refl U.vm) qK, qD⟩, fun U hU hW => ⟨rfl, by rw [hU], by rw [hU]; exact hPc, va_K.moved hW.alike (hK.sub [] rfl), hDc.weaken (fun _ _ _ _ => trivial)⟩⟩ rfl rfl hl.1 rfl (lv_room (Nat.le_of_ble_eq_true rfl)) dL_law_12 ⟨Nat.le_of_ble_eq_true rfl, Nat.le_of_ble_eq_true rfl⟩) hS (fun q _ h => hFc q h) hFc (fun u t H1 locs ht hvm hw hB hz1 hk1 hS => ?_)
  obtain ⟨qy, dy, hP1, hK1, hD1⟩ := hB
  rw [ht] at hP1
  have hK1 := va_K.moved hvm.symm hK1
  obtain ⟨hP, hD⟩ := va_join (wr := (wt_o 0 x0 qx dx 0 (fun _ => 0))) (w1 := (wt_o 1 y0 qy dy 0 (fun _ => 0))) hP hD [2] [0, 1] rfl rfl (by decide) (by decide) hk1 hFc hP1 hD1
  have hK := hK.app hK1
  generalize H1 = H at hP hS ⊢
  have hP : va_P (dC, dI) vwCl ((wt_o 0 x0 qx dx 0 (fun _ => 0)) ++ (wt_o 1 y0 qy dy 0 (fun _ => 0))) H := hP
  have hD : va_D (fun q : Nat => s.heap.size ≤ q) ((wt_o 0 x0 qx dx 0 (fun _ => 0)) ++ (wt_o 1 y0 qy dy 0 (fun _ => 0))) := hD
  refine W.widen (k := 600000) (n := 7290000) (Nat.le_of_ble_eq_true rfl) (Nat.le_of_ble_eq_true rfl) ?_
  refine lv_astore_n (lv' := [(2, .ref y0), (1, .ref x0), (0, .ref b)]) hx hb dL_law_15 rfl hl (by decide) rfl (fun ls hl => ?_)
  refine lv_iconst (v := nI 0) hx hb dL_law_16 (by decide +kernel) ?_
  refine lv_istore_n (lv' := [(3, .int (nI 0)), (2, .ref y0), (1, .ref x0), (0, .ref b)]) hx hb dL_law_17 rfl hl (by decide) rfl (fun ls hl => ?_)
  have hK : va_K (dC, dI) vwCl [(dx, .byte), (dy, .byte)] s := hK
  exact law_loop hL C0 hK (L + 7) 0 (by omega) (by omega) 0 (fun _ => 0) (by omega) wt_B0 _ _ ls hP hD hS (lv_sub hl [3, 2, 1, 0] rfl)
-- ===== YOUR PART ENDS =====
set_option maxHeartbeats 4000000 in
theorem lw_walk (l : Launch) (hflags : l.flags = flags0) (b : Addr) (xs : List Int32) : MetFree l x (headSpec (Jvm.Cond.code x code maxLocals ret :: tables_1) room_1) (lw_P b xs) (fun _ _ _ _ _ => True) lw_Q := by
  refine MetFree.of_bodyS (code := code) (maxLocals := maxLocals) (ret := ret) (by decide) ?_ ?_
  · intro args s m h hn
    obtain ⟨meth, c, h1, h2, h3, h4, h5, h6, -, -⟩ := Cond.code_spec hn (atoms_spec (ws := Jvm.Cond.code x code maxLocals ret :: tables_1) h _ List.mem_cons_self)
    exact ⟨meth, c, h1, h2, h3, h4, h5, h6⟩
  · intro p e s m args below meth c s₁ B hml0 hP _
    obtain ⟨rfl, hx, hbd, hgv⟩ := hP
    obtain ⟨scr, harrAt, hlist, hof, hsmall⟩ := hx
    obtain ⟨hcb, hkn, -, -⟩ := State.arrayAt?_spec harrAt
    have hown : s.vm.findClass R_law = some m.cls := findClass_of_methodNamed B.named
    have hts0 : ∀ c ∈ (Jvm.Cond.code x code maxLocals ret :: tables_1), c.before #[Value.ref b] s = true := atoms_spec (ws := Jvm.Cond.code x code maxLocals ret :: tables_1) B.pre
    have hts : ∀ w ∈ lw_tbl, w.before #[Value.ref b] s = true := k2_hts_sels lw_privs (fun w hw => hts0 w (List.mem_cons_of_mem _ hw)) lw_privs_ok
    have hml : c.maxLocals = 4 := B.maxLocals_eq (hts0 _ List.mem_cons_self)
    have X₀ : Stand p l e room_1 s m #[Value.ref b] below meth c s₁ [] 0 0 := Stand.of_body B
    have hh0 : s₁.heap = s.heap := by rw [B.state]; rfl
    have hsz : scr.slots.size = xs.length := by rw [← Array.length_toList, hlist, List.length_map]
    have hval : ∀ j : Nat, j < xs.length → scr.slots[j]? = some (.int (xs.getD j 0)) := fun j hj => by
      rw [← Array.getElem?_toList, hlist]
      simp [hj]
    have hbl : b < s.heap.size := (Array.getElem?_eq_some_iff.mp hcb).1
    have hX : va_X b xs.length (fun j => xs.getD j 0) s s.heap := ⟨scr, hcb, hof, hkn, hsz, hval⟩
    have K : W p l e room_1 s m #[Value.ref b] below meth c s₁.heap [] 0 0 (lw_Z below #[Value.ref b] s) (entryFrame m ([Value.ref b] : List Value).toArray 4) := by
      rw [hh0]
      exact whole_start l hflags hbd ⟨B.exec, B.bytes, B.returns, hml, hown, hts, hX, hbl, B.notSynchronized, hgv⟩
    obtain ⟨t, a1, o, b1, b2, b3⟩ := K s₁ rfl X₀
    exact ⟨t, o, a1, b1, b2, b3⟩
theorem lw_pre_spec {args : Array Value} {s : State} (h : (Jvm.Cond.and given_1 narrow_1).before args s = true) (hr : rest_1_c.before args s = true) : ∃ (b : Addr) (xs : List Int32), lw_P b xs args s := by
  have hs := flat_of_before _ h
  have hq := flat_of_before _ hr
  have hc : (Cond.count 1).before args s = true := hs _ (by decide +kernel)
  have harr : (Cond.arrayOf (.arg 0) .int).before args s = true := hs _ (by decide +kernel)
  have hle : (Cond.le (.length (.arg 0)) (.int 384)).before args s = true := hs _ (by decide +kernel)
  have hlen : (Cond.isInt (.length (.arg 0))).before args s = true := hq _ (by decide +kernel)
  have hall : (Cond.all (.arg 0) (.isInt (.elem (.arg 0) (.index 0)))).before args s = true := hq _ (by decide +kernel)
  obtain ⟨b, xs, hb, hx⟩ := State.ints_of_pre rfl harr hlen hall
  have hsm : xs.length < 2 ^ 31 := hx.choose_spec.2.2.2
  have hev : (Term.length (.arg 0)).eval args s none [] s = some (.int xs.length.toInt32) := hx.length_eval hb
  have hv := Cond.le_ints hev (show (Term.int 384).eval args s none [] s = some (.int 384) from rfl)
  have hd : xs.length.toInt32 ≤ 384 := by
    simpa [Cond.before, Cond.holds, hv] using hle
  have hN : xs.length ≤ 384 := (Int32.ofNat_le_ofNat hsm (by decide)).mp (show Int32.ofNat xs.length ≤ Int32.ofNat 384 from hd)
  exact ⟨b, xs, Cond.one_arg hc (show args[0]? = some (.ref b) from hb), hx, hN, h⟩
theorem lw_comes (l : Launch) (hflags : l.flags = flags0) : Comes l x (Jvm.Cond.code x code maxLocals ret :: tables_1) room_1 (fun tb e args s => Calls_1 tb e args s ∧ rest_1 tb e args s ∧ Pre_1 tb e args s)
    (fun _ _ args s o t => lw_Q args s o t) := by
  intro p e ha hc hk s m args below hf hfit hheap happ hpre
  obtain ⟨b, xs, hP⟩ := lw_pre_spec hpre.2.2 hpre.2.1
  obtain ⟨k, o, h1, h2, h3, hQ⟩ := lw_walk l hflags b xs p e ha hc hk s m args below hf ((Spec.applies_iff_loose hf).mp happ).1 hP trivial
  exact ⟨k, o, h1, h2, h3, hQ⟩
theorem lw_frame {s t : State} {o : Outcome} {args : Array Value} (h : Framed s o t [] 600000 7290000) :
    Framed s o t (fieldLocs frame_1_writes args s ++ arrayLocs frame_1_arrays args s ++ staticLocs frame_1_statics s) 600000 7290000 := h
theorem lw_limb (L : Cond) (hL : ∀ (args : Array Value) (s t : State), L.after args s (.returned (some (.int 1))) t = true) :
    ArmFor flags0 classFile x code maxLocals ret World_1 tables_1 room_1 Calls_1 rest_1 Pre_1
      (fun tb e a s o t => postC L tb e a s o t ∧ Framed s o t (fieldLocs frame_1_writes a s ++ arrayLocs frame_1_arrays a s ++ staticLocs frame_1_statics s) 600000 7290000) := by
  intro l hflags _ _ p e ha hc hk s m args below hf hfit hheap happ hpre
  obtain ⟨k, o, h1, h2, h3, rfl, hF⟩ := lw_comes l hflags p e ha hc hk s m args below hf hfit hheap happ hpre
  exact ⟨k, _, h1, h2, h3, hL args s _, lw_frame hF⟩
theorem i_vc : Claimed_1_1 ∧ Claimed_1_2 := ⟨lw_limb limb_1_1 (fun args s t => by simp [limb_1_1, Cond.after, Cond.holds, Cond.value]), lw_limb limb_1_2 (fun args s t => Cond.after_iff.mpr (by
  first | (rw [show limb_1_2 = Cond.eq .result (.int 1) from rfl, Cond.eq_ints (x := 1) (y := 1) rfl rfl]; simp; done) | (simp [limb_1_2, Cond.value, Term.eval]; done)))⟩
end
