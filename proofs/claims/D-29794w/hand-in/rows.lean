section
-- ===== PART A: goes FIRST, ahead of the names: the tables' words, and 'selects' of the private methods out of them =====
/-- a private method of a class that the tables say can be made, by its rows of tables_1 -/
def lw_okq (q : MethodName × Nat) : Prop := (q.1.cls ≠ "java/lang/invoke/MethodHandle" ∧ q.1.cls ≠ "java/lang/invoke/VarHandle") ∧ Cond.instantiable q.1.cls q.2 ∈ tables_1 ∧ Cond.privateMethod q.1 ∈ tables_1 ∧ Cond.instanceMethod q.1 ∈ tables_1
def lw_privs : List (MethodName × Nat) := []
def lw_tbl : List Cond := k2_sels lw_privs ++ tables_1
theorem lw_privs_ok : ∀ q ∈ lw_privs, lw_okq q := fun _ h => absurd h List.not_mem_nil
-- ===== ONE list of words for every method: the tables' words that hold all through a run =====
def lw_all : List Cond := lw_tbl.filter goodWord
/-- a word of the tables by its place: claim/WORDS.tsv -/
theorem lw_w {w : Cond} (i : Nat) (h : lw_tbl[i]? = some w) (g : goodWord w = true) : w ∈ lw_all := List.mem_filter.mpr ⟨List.mem_of_getElem? h, g⟩
theorem lw_all_tbl {w : Cond} (h : w ∈ lw_all) : w ∈ lw_tbl := (List.mem_filter.mp h).1
theorem lw_self : GoodIn lw_all lw_all := fun w h => ⟨h, good_of_word (List.mem_filter.mp h).2⟩
/-- a class's field words, by their places -/
theorem lw_in (ws : List Cond) (ps : List Nat) (hp : ws = ps.filterMap (fun i => lw_tbl[i]?)) (hg : ws.all goodWord = true) : ∀ w ∈ ws, w ∈ lw_all := by
  intro w h
  have h1 := List.all_eq_true.mp hg w h
  rw [hp] at h
  obtain ⟨i, -, hi⟩ := List.mem_filterMap.mp h
  exact lw_w i hi h1
/-- the words of a contract for the method y with code b, L locals, answer r -/
abbrev ws_ (y : MethodName) (b : ByteArray) (L : Nat) (r : Option FieldType) : List Cond := Cond.code y b L r :: lw_all
theorem lw_meth {y : MethodName} {b : ByteArray} {L : Nat} {r : Option FieldType} (h : Cond.code y b L r ∈ lw_all) : GoodIn lw_all (ws_ y b L r) := by
  intro w hw
  rcases List.mem_cons.mp hw with e | e
  · rw [e]
    exact lw_self _ h
  · exact lw_self _ e
theorem lw_app {a c : List Cond} (ha : ∀ w ∈ a, w ∈ lw_all) (hc : GoodIn lw_all c) : GoodIn lw_all (a ++ c) := by
  intro w hw
  rcases List.mem_append.mp hw with e | e
  · exact lw_self w (ha w e)
  · exact hc w e
/-- what a call through an object asks: cwV n hts (lw_V ..) -/
theorem lw_V {own : String} {idx : Nat} {C : String} {y : MethodName} {b : ByteArray} {L : Nat} {r : Option FieldType} (h1 : Cond.methodLink own idx y ∈ lw_all) (h2 : Cond.instanceMethod y ∈ lw_all) (h3 : Cond.selects C y y ∈ lw_all) (h4 : Cond.initialized C ∈ lw_all) (h5 : Cond.code y b L r ∈ lw_all) : GoodIn lw_all (wsV own idx C y (ws_ y b L r)) := by
  refine lw_app ?_ (lw_meth h5)
  intro w hw
  simp only [List.mem_cons, List.not_mem_nil, or_false] at hw
  rcases hw with e | e | e | e
  · rw [e]; exact h1
  · rw [e]; exact h2
  · rw [e]; exact h3
  · rw [e]; exact h4
/-- what a static call asks: va_cwS n hts (lw_S ..) -/
theorem lw_S {own : String} {idx : Nat} {y : MethodName} {b : ByteArray} {L : Nat} {r : Option FieldType} (h1 : Cond.methodLink own idx y ∈ lw_all) (h2 : Cond.static y ∈ lw_all) (h3 : Cond.initialized y.cls ∈ lw_all) (h4 : Cond.code y b L r ∈ lw_all) : GoodIn lw_all (va_wsS own idx y (ws_ y b L r)) := by
  refine lw_app ?_ (lw_meth h4)
  intro w hw
  simp only [List.mem_cons, List.not_mem_nil, or_false] at hw
  rcases hw with e | e | e
  · rw [e]; exact h1
  · rw [e]; exact h2
  · rw [e]; exact h3
/-- the words of a contract for a method WITH HANDLERS (hh: its table) -/
abbrev wsW_ (y : MethodName) (b : ByteArray) (L : Nat) (r : Option FieldType) (hh : List (Nat × Nat × Nat × Nat)) : List Cond := Cond.codeWith y b L r hh :: lw_all
theorem lw_methW {y : MethodName} {b : ByteArray} {L : Nat} {r : Option FieldType} {hh : List (Nat × Nat × Nat × Nat)} (h : Cond.codeWith y b L r hh ∈ lw_all) : GoodIn lw_all (wsW_ y b L r hh) := by
  intro w hw
  rcases List.mem_cons.mp hw with e | e
  · rw [e]
    exact lw_self _ h
  · exact lw_self _ e
/-- any list of words by their places (lw_in), good -/
theorem lw_good {ws : List Cond} (h : ∀ w ∈ ws, w ∈ lw_all) : GoodIn lw_all ws := fun w hw => lw_self w (h w hw)
/-- what a call of a method with handlers asks: vx_cwVW n hts (lw_VW ..), vx_cwSW n hts (lw_SW ..) -/
theorem lw_VW {own : String} {idx : Nat} {C : String} {y : MethodName} {b : ByteArray} {L : Nat} {r : Option FieldType} {hh : List (Nat × Nat × Nat × Nat)} (h1 : Cond.methodLink own idx y ∈ lw_all) (h2 : Cond.instanceMethod y ∈ lw_all) (h3 : Cond.selects C y y ∈ lw_all) (h4 : Cond.initialized C ∈ lw_all) (h5 : Cond.codeWith y b L r hh ∈ lw_all) : GoodIn lw_all (wsV own idx C y (wsW_ y b L r hh)) := by
  refine lw_app ?_ (lw_methW h5)
  intro w hw
  simp only [List.mem_cons, List.not_mem_nil, or_false] at hw
  rcases hw with e | e | e | e
  · rw [e]; exact h1
  · rw [e]; exact h2
  · rw [e]; exact h3
  · rw [e]; exact h4
theorem lw_SW {own : String} {idx : Nat} {y : MethodName} {b : ByteArray} {L : Nat} {r : Option FieldType} {hh : List (Nat × Nat × Nat × Nat)} (h1 : Cond.methodLink own idx y ∈ lw_all) (h2 : Cond.static y ∈ lw_all) (h3 : Cond.initialized y.cls ∈ lw_all) (h4 : Cond.codeWith y b L r hh ∈ lw_all) : GoodIn lw_all (va_wsS own idx y (wsW_ y b L r hh)) := by
  refine lw_app ?_ (lw_methW h4)
  intro w hw
  simp only [List.mem_cons, List.not_mem_nil, or_false] at hw
  rcases hw with e | e | e
  · rw [e]; exact h1
  · rw [e]; exact h2
  · rw [e]; exact h3
/-- a word by its place in its run of the tables -/
theorem lw_at {r : List Cond} (hr : ∀ w ∈ r, w ∈ lw_tbl) {w : Cond} (i : Nat) (h : r[i]? = some w) : w ∈ lw_tbl := hr w (List.mem_of_getElem? h)
theorem lw_g {w : Cond} (h : w ∈ lw_tbl) (g : goodWord w = true) : w ∈ lw_all := List.mem_filter.mpr ⟨h, g⟩
theorem lw_ms : ∀ w ∈ k2_sels lw_privs, w ∈ lw_tbl := fun w h => show w ∈ k2_sels lw_privs ++ tables_1 from List.mem_append_left _ h
theorem lw_m0 : ∀ w ∈ tables_1, w ∈ lw_tbl := fun w h => show w ∈ k2_sels lw_privs ++ tables_1 from List.mem_append_right (k2_sels lw_privs) h
/-! DECODE ROWS BY BYTES: one lemma an opcode; a method's code is cut into short pieces once, and a row reads its own piece alone. -/
set_option maxRecDepth 100000
/-- the code has just these bytes from pc on -/
def DkAt (code : ByteArray) (pc : Nat) (bs : List UInt8) : Prop := ∀ (j : Nat) (b : UInt8), bs[j]? = some b → code.data.toList[pc + j]? = some b
/-- the piece W has the bytes bs from its place j on -/
def dkIn (W : List UInt8) (j : Nat) (bs : List UInt8) : Bool := decide ((W.drop j).take bs.length = bs)
theorem dk_seg {l W T : List UInt8} {o o2 : Nat} (h : l.drop o = W ++ T) (n : Nat) (hn : W.length = n) (ho : o + n = o2) : l.drop o2 = T := by
  subst ho
  rw [← List.drop_drop, h, List.drop_left' hn]
theorem dk_at {code : ByteArray} {W T bs : List UInt8} {o pc : Nat} (h : code.data.toList.drop o = W ++ T) (j : Nat) (hp : o + j = pc) (hw : dkIn W j bs = true) : DkAt code pc bs := by
  subst hp
  intro i b e
  have h1 := of_decide_eq_true hw
  have h2 : i < bs.length := (List.getElem?_eq_some_iff.mp e).1
  have h3 : W[j + i]? = some b := by
    rw [← h1, List.getElem?_take, if_pos h2, List.getElem?_drop] at e
    exact e
  have h4 : j + i < W.length := (List.getElem?_eq_some_iff.mp h3).1
  have h5 : (code.data.toList.drop o)[j + i]? = some b := by
    rw [h, List.getElem?_append_left h4]
    exact h3
  rw [List.getElem?_drop, ← Nat.add_assoc] at h5
  exact h5
theorem dk_u1 {A : ByteArray} {p : Nat} {b : UInt8} (h : A.data.toList[p]? = some b) : (Reader.u1 : Reader DecodeError Nat) A p = .ok (b.toNat, p + 1) := by
  obtain ⟨h1, h2⟩ := List.getElem?_eq_some_iff.mp h
  have h3 : p < A.size := by simpa using h1
  have h4 : A[p]'h3 = b := h2
  have e : (Reader.u1 : Reader DecodeError Nat) A p = (if h : p < A.size then .ok (A[p].toNat, p + 1) else .error (HasTruncated.truncated p)) := by
    show (do if h : p < A.size then do set (p + 1); Pure.pure A[p].toNat else MonadExcept.throw (HasTruncated.truncated p) : Reader DecodeError Nat) A p = _
    by_cases hi : p < A.size
    · rw [dif_pos hi, dif_pos hi]; rfl
    · rw [dif_neg hi, dif_neg hi]; rfl
  rw [e, dif_pos h3, h4]
theorem dk_bind {α β : Type} {r : Reader DecodeError α} {f : α → Reader DecodeError β} {A : ByteArray} {p s : Nat} {a : α} (h : r A p = .ok (a, s)) : (r >>= f) A p = f a A s := by
  show (do let (a, s) ← r A p; f a A s : Except DecodeError (β × Nat)) = _
  rw [h]
  rfl
theorem dk_map {α β : Type} {r : Reader DecodeError α} {g : α → β} {A : ByteArray} {p s : Nat} {a : α} (h : r A p = .ok (a, s)) : (g <$> r) A p = .ok (g a, s) := by
  show (do let (a, s) ← r A p; .ok (g a, s) : Except DecodeError (β × Nat)) = _
  rw [h]
  rfl
theorem dk_u2 {A : ByteArray} {p : Nat} {a b : UInt8} (h : A.data.toList[p]? = some a) (h2 : A.data.toList[p + 1]? = some b) : (Reader.u2 : Reader DecodeError Nat) A p = .ok (a.toNat * 256 + b.toNat, p + 2) := by
  show (Reader.u1 >>= fun hi => Reader.u1 >>= fun lo => Pure.pure (hi * 256 + lo) : Reader DecodeError Nat) A p = _
  rw [dk_bind (dk_u1 h), dk_bind (dk_u1 h2)]
  rfl
theorem dk_of {code : ByteArray} {pc n : Nat} {i : Instr} (h : Decoder.instr pc code pc = .ok (i, pc + n)) : decode code pc = .ok (i, n) := by
  have e : decode code pc = (match Decoder.instr pc code pc with | .error x => .error x | .ok (j, s) => .ok (j, s - pc)) := by
    show (do let (j, s) ← Decoder.instr pc code pc; Pure.pure (j, s - pc) : Except DecodeError (Instr × Nat)) = _
    cases Decoder.instr pc code pc <;> rfl
  rw [e, h]
  show Except.ok (i, pc + n - pc) = _
  rw [Nat.add_sub_cancel_left]
theorem dk_2 {code : ByteArray} {pc : Nat} (h : DkAt code pc [2]) : decode code pc = .ok (.iconst (-1), 1) := dk_of ((dk_bind (dk_u1 (h 0 _ rfl))).trans rfl)
theorem dk_3 {code : ByteArray} {pc : Nat} (h : DkAt code pc [3]) : decode code pc = .ok (.iconst 0, 1) := dk_of ((dk_bind (dk_u1 (h 0 _ rfl))).trans rfl)
theorem dk_4 {code : ByteArray} {pc : Nat} (h : DkAt code pc [4]) : decode code pc = .ok (.iconst 1, 1) := dk_of ((dk_bind (dk_u1 (h 0 _ rfl))).trans rfl)
theorem dk_5 {code : ByteArray} {pc : Nat} (h : DkAt code pc [5]) : decode code pc = .ok (.iconst 2, 1) := dk_of ((dk_bind (dk_u1 (h 0 _ rfl))).trans rfl)
theorem dk_6 {code : ByteArray} {pc : Nat} (h : DkAt code pc [6]) : decode code pc = .ok (.iconst 3, 1) := dk_of ((dk_bind (dk_u1 (h 0 _ rfl))).trans rfl)
theorem dk_7 {code : ByteArray} {pc : Nat} (h : DkAt code pc [7]) : decode code pc = .ok (.iconst 4, 1) := dk_of ((dk_bind (dk_u1 (h 0 _ rfl))).trans rfl)
theorem dk_16 {code : ByteArray} {pc : Nat} (a : UInt8) (h : DkAt code pc [16, a]) : decode code pc = .ok (.bipush (Reader.signed 8 a.toNat), 2) := dk_of ((dk_bind (dk_u1 (h 0 _ rfl))).trans ((dk_bind (dk_map (dk_u1 (h 1 _ rfl)))).trans rfl))
theorem dk_17 {code : ByteArray} {pc : Nat} (a b : UInt8) (h : DkAt code pc [17, a, b]) : decode code pc = .ok (.sipush (Reader.signed 16 (a.toNat * 256 + b.toNat)), 3) := dk_of ((dk_bind (dk_u1 (h 0 _ rfl))).trans ((dk_bind (dk_map (dk_u2 (h 1 _ rfl) (h 2 _ rfl)))).trans rfl))
theorem dk_18 {code : ByteArray} {pc : Nat} (a : UInt8) (h : DkAt code pc [18, a]) : decode code pc = .ok (.ldc a.toNat, 2) := dk_of ((dk_bind (dk_u1 (h 0 _ rfl))).trans ((dk_bind (dk_u1 (h 1 _ rfl))).trans rfl))
theorem dk_21 {code : ByteArray} {pc : Nat} (a : UInt8) (h : DkAt code pc [21, a]) : decode code pc = .ok (.iload a.toNat, 2) := dk_of ((dk_bind (dk_u1 (h 0 _ rfl))).trans ((dk_bind (dk_u1 (h 1 _ rfl))).trans rfl))
theorem dk_25 {code : ByteArray} {pc : Nat} (a : UInt8) (h : DkAt code pc [25, a]) : decode code pc = .ok (.aload a.toNat, 2) := dk_of ((dk_bind (dk_u1 (h 0 _ rfl))).trans ((dk_bind (dk_u1 (h 1 _ rfl))).trans rfl))
theorem dk_26 {code : ByteArray} {pc : Nat} (h : DkAt code pc [26]) : decode code pc = .ok (.iload_n 0, 1) := dk_of ((dk_bind (dk_u1 (h 0 _ rfl))).trans rfl)
theorem dk_27 {code : ByteArray} {pc : Nat} (h : DkAt code pc [27]) : decode code pc = .ok (.iload_n 1, 1) := dk_of ((dk_bind (dk_u1 (h 0 _ rfl))).trans rfl)
theorem dk_28 {code : ByteArray} {pc : Nat} (h : DkAt code pc [28]) : decode code pc = .ok (.iload_n 2, 1) := dk_of ((dk_bind (dk_u1 (h 0 _ rfl))).trans rfl)
theorem dk_29 {code : ByteArray} {pc : Nat} (h : DkAt code pc [29]) : decode code pc = .ok (.iload_n 3, 1) := dk_of ((dk_bind (dk_u1 (h 0 _ rfl))).trans rfl)
theorem dk_42 {code : ByteArray} {pc : Nat} (h : DkAt code pc [42]) : decode code pc = .ok (.aload_n 0, 1) := dk_of ((dk_bind (dk_u1 (h 0 _ rfl))).trans rfl)
theorem dk_43 {code : ByteArray} {pc : Nat} (h : DkAt code pc [43]) : decode code pc = .ok (.aload_n 1, 1) := dk_of ((dk_bind (dk_u1 (h 0 _ rfl))).trans rfl)
theorem dk_44 {code : ByteArray} {pc : Nat} (h : DkAt code pc [44]) : decode code pc = .ok (.aload_n 2, 1) := dk_of ((dk_bind (dk_u1 (h 0 _ rfl))).trans rfl)
theorem dk_45 {code : ByteArray} {pc : Nat} (h : DkAt code pc [45]) : decode code pc = .ok (.aload_n 3, 1) := dk_of ((dk_bind (dk_u1 (h 0 _ rfl))).trans rfl)
theorem dk_46 {code : ByteArray} {pc : Nat} (h : DkAt code pc [46]) : decode code pc = .ok (.iaload, 1) := dk_of ((dk_bind (dk_u1 (h 0 _ rfl))).trans rfl)
theorem dk_50 {code : ByteArray} {pc : Nat} (h : DkAt code pc [50]) : decode code pc = .ok (.aaload, 1) := dk_of ((dk_bind (dk_u1 (h 0 _ rfl))).trans rfl)
theorem dk_53 {code : ByteArray} {pc : Nat} (h : DkAt code pc [53]) : decode code pc = .ok (.saload, 1) := dk_of ((dk_bind (dk_u1 (h 0 _ rfl))).trans rfl)
theorem dk_54 {code : ByteArray} {pc : Nat} (a : UInt8) (h : DkAt code pc [54, a]) : decode code pc = .ok (.istore a.toNat, 2) := dk_of ((dk_bind (dk_u1 (h 0 _ rfl))).trans ((dk_bind (dk_u1 (h 1 _ rfl))).trans rfl))
theorem dk_58 {code : ByteArray} {pc : Nat} (a : UInt8) (h : DkAt code pc [58, a]) : decode code pc = .ok (.astore a.toNat, 2) := dk_of ((dk_bind (dk_u1 (h 0 _ rfl))).trans ((dk_bind (dk_u1 (h 1 _ rfl))).trans rfl))
theorem dk_60 {code : ByteArray} {pc : Nat} (h : DkAt code pc [60]) : decode code pc = .ok (.istore_n 1, 1) := dk_of ((dk_bind (dk_u1 (h 0 _ rfl))).trans rfl)
theorem dk_61 {code : ByteArray} {pc : Nat} (h : DkAt code pc [61]) : decode code pc = .ok (.istore_n 2, 1) := dk_of ((dk_bind (dk_u1 (h 0 _ rfl))).trans rfl)
theorem dk_62 {code : ByteArray} {pc : Nat} (h : DkAt code pc [62]) : decode code pc = .ok (.istore_n 3, 1) := dk_of ((dk_bind (dk_u1 (h 0 _ rfl))).trans rfl)
theorem dk_76 {code : ByteArray} {pc : Nat} (h : DkAt code pc [76]) : decode code pc = .ok (.astore_n 1, 1) := dk_of ((dk_bind (dk_u1 (h 0 _ rfl))).trans rfl)
theorem dk_77 {code : ByteArray} {pc : Nat} (h : DkAt code pc [77]) : decode code pc = .ok (.astore_n 2, 1) := dk_of ((dk_bind (dk_u1 (h 0 _ rfl))).trans rfl)
theorem dk_78 {code : ByteArray} {pc : Nat} (h : DkAt code pc [78]) : decode code pc = .ok (.astore_n 3, 1) := dk_of ((dk_bind (dk_u1 (h 0 _ rfl))).trans rfl)
theorem dk_79 {code : ByteArray} {pc : Nat} (h : DkAt code pc [79]) : decode code pc = .ok (.iastore, 1) := dk_of ((dk_bind (dk_u1 (h 0 _ rfl))).trans rfl)
theorem dk_83 {code : ByteArray} {pc : Nat} (h : DkAt code pc [83]) : decode code pc = .ok (.aastore, 1) := dk_of ((dk_bind (dk_u1 (h 0 _ rfl))).trans rfl)
theorem dk_86 {code : ByteArray} {pc : Nat} (h : DkAt code pc [86]) : decode code pc = .ok (.sastore, 1) := dk_of ((dk_bind (dk_u1 (h 0 _ rfl))).trans rfl)
theorem dk_89 {code : ByteArray} {pc : Nat} (h : DkAt code pc [89]) : decode code pc = .ok (.dup, 1) := dk_of ((dk_bind (dk_u1 (h 0 _ rfl))).trans rfl)
theorem dk_96 {code : ByteArray} {pc : Nat} (h : DkAt code pc [96]) : decode code pc = .ok (.iadd, 1) := dk_of ((dk_bind (dk_u1 (h 0 _ rfl))).trans rfl)
theorem dk_100 {code : ByteArray} {pc : Nat} (h : DkAt code pc [100]) : decode code pc = .ok (.isub, 1) := dk_of ((dk_bind (dk_u1 (h 0 _ rfl))).trans rfl)
theorem dk_104 {code : ByteArray} {pc : Nat} (h : DkAt code pc [104]) : decode code pc = .ok (.imul, 1) := dk_of ((dk_bind (dk_u1 (h 0 _ rfl))).trans rfl)
theorem dk_112 {code : ByteArray} {pc : Nat} (h : DkAt code pc [112]) : decode code pc = .ok (.irem, 1) := dk_of ((dk_bind (dk_u1 (h 0 _ rfl))).trans rfl)
theorem dk_120 {code : ByteArray} {pc : Nat} (h : DkAt code pc [120]) : decode code pc = .ok (.ishl, 1) := dk_of ((dk_bind (dk_u1 (h 0 _ rfl))).trans rfl)
theorem dk_122 {code : ByteArray} {pc : Nat} (h : DkAt code pc [122]) : decode code pc = .ok (.ishr, 1) := dk_of ((dk_bind (dk_u1 (h 0 _ rfl))).trans rfl)
theorem dk_126 {code : ByteArray} {pc : Nat} (h : DkAt code pc [126]) : decode code pc = .ok (.iand, 1) := dk_of ((dk_bind (dk_u1 (h 0 _ rfl))).trans rfl)
theorem dk_132 {code : ByteArray} {pc : Nat} (a b : UInt8) (h : DkAt code pc [132, a, b]) : decode code pc = .ok (.iinc a.toNat (Reader.signed 8 b.toNat), 3) := dk_of ((dk_bind (dk_u1 (h 0 _ rfl))).trans ((dk_bind (dk_u1 (h 1 _ rfl))).trans ((dk_bind (dk_map (dk_u1 (h 2 _ rfl)))).trans rfl)))
theorem dk_147 {code : ByteArray} {pc : Nat} (h : DkAt code pc [147]) : decode code pc = .ok (.i2s, 1) := dk_of ((dk_bind (dk_u1 (h 0 _ rfl))).trans rfl)
theorem dk_153 {code : ByteArray} {pc : Nat} (a b : UInt8) (h : DkAt code pc [153, a, b]) : decode code pc = .ok (.ifCond .eq (Reader.signed 16 (a.toNat * 256 + b.toNat)), 3) := dk_of ((dk_bind (dk_u1 (h 0 _ rfl))).trans ((dk_bind (dk_map (dk_u2 (h 1 _ rfl) (h 2 _ rfl)))).trans rfl))
theorem dk_154 {code : ByteArray} {pc : Nat} (a b : UInt8) (h : DkAt code pc [154, a, b]) : decode code pc = .ok (.ifCond .ne (Reader.signed 16 (a.toNat * 256 + b.toNat)), 3) := dk_of ((dk_bind (dk_u1 (h 0 _ rfl))).trans ((dk_bind (dk_map (dk_u2 (h 1 _ rfl) (h 2 _ rfl)))).trans rfl))
theorem dk_156 {code : ByteArray} {pc : Nat} (a b : UInt8) (h : DkAt code pc [156, a, b]) : decode code pc = .ok (.ifCond .ge (Reader.signed 16 (a.toNat * 256 + b.toNat)), 3) := dk_of ((dk_bind (dk_u1 (h 0 _ rfl))).trans ((dk_bind (dk_map (dk_u2 (h 1 _ rfl) (h 2 _ rfl)))).trans rfl))
theorem dk_159 {code : ByteArray} {pc : Nat} (a b : UInt8) (h : DkAt code pc [159, a, b]) : decode code pc = .ok (.if_icmp .eq (Reader.signed 16 (a.toNat * 256 + b.toNat)), 3) := dk_of ((dk_bind (dk_u1 (h 0 _ rfl))).trans ((dk_bind (dk_map (dk_u2 (h 1 _ rfl) (h 2 _ rfl)))).trans rfl))
theorem dk_160 {code : ByteArray} {pc : Nat} (a b : UInt8) (h : DkAt code pc [160, a, b]) : decode code pc = .ok (.if_icmp .ne (Reader.signed 16 (a.toNat * 256 + b.toNat)), 3) := dk_of ((dk_bind (dk_u1 (h 0 _ rfl))).trans ((dk_bind (dk_map (dk_u2 (h 1 _ rfl) (h 2 _ rfl)))).trans rfl))
theorem dk_161 {code : ByteArray} {pc : Nat} (a b : UInt8) (h : DkAt code pc [161, a, b]) : decode code pc = .ok (.if_icmp .lt (Reader.signed 16 (a.toNat * 256 + b.toNat)), 3) := dk_of ((dk_bind (dk_u1 (h 0 _ rfl))).trans ((dk_bind (dk_map (dk_u2 (h 1 _ rfl) (h 2 _ rfl)))).trans rfl))
theorem dk_162 {code : ByteArray} {pc : Nat} (a b : UInt8) (h : DkAt code pc [162, a, b]) : decode code pc = .ok (.if_icmp .ge (Reader.signed 16 (a.toNat * 256 + b.toNat)), 3) := dk_of ((dk_bind (dk_u1 (h 0 _ rfl))).trans ((dk_bind (dk_map (dk_u2 (h 1 _ rfl) (h 2 _ rfl)))).trans rfl))
theorem dk_163 {code : ByteArray} {pc : Nat} (a b : UInt8) (h : DkAt code pc [163, a, b]) : decode code pc = .ok (.if_icmp .gt (Reader.signed 16 (a.toNat * 256 + b.toNat)), 3) := dk_of ((dk_bind (dk_u1 (h 0 _ rfl))).trans ((dk_bind (dk_map (dk_u2 (h 1 _ rfl) (h 2 _ rfl)))).trans rfl))
theorem dk_167 {code : ByteArray} {pc : Nat} (a b : UInt8) (h : DkAt code pc [167, a, b]) : decode code pc = .ok (.goto (Reader.signed 16 (a.toNat * 256 + b.toNat)), 3) := dk_of ((dk_bind (dk_u1 (h 0 _ rfl))).trans ((dk_bind (dk_map (dk_u2 (h 1 _ rfl) (h 2 _ rfl)))).trans rfl))
theorem dk_172 {code : ByteArray} {pc : Nat} (h : DkAt code pc [172]) : decode code pc = .ok (.ireturn, 1) := dk_of ((dk_bind (dk_u1 (h 0 _ rfl))).trans rfl)
theorem dk_176 {code : ByteArray} {pc : Nat} (h : DkAt code pc [176]) : decode code pc = .ok (.areturn, 1) := dk_of ((dk_bind (dk_u1 (h 0 _ rfl))).trans rfl)
theorem dk_177 {code : ByteArray} {pc : Nat} (h : DkAt code pc [177]) : decode code pc = .ok (.return_, 1) := dk_of ((dk_bind (dk_u1 (h 0 _ rfl))).trans rfl)
theorem dk_178 {code : ByteArray} {pc : Nat} (a b : UInt8) (h : DkAt code pc [178, a, b]) : decode code pc = .ok (.getstatic (a.toNat * 256 + b.toNat), 3) := dk_of ((dk_bind (dk_u1 (h 0 _ rfl))).trans ((dk_bind (dk_u2 (h 1 _ rfl) (h 2 _ rfl))).trans rfl))
theorem dk_180 {code : ByteArray} {pc : Nat} (a b : UInt8) (h : DkAt code pc [180, a, b]) : decode code pc = .ok (.getfield (a.toNat * 256 + b.toNat), 3) := dk_of ((dk_bind (dk_u1 (h 0 _ rfl))).trans ((dk_bind (dk_u2 (h 1 _ rfl) (h 2 _ rfl))).trans rfl))
theorem dk_181 {code : ByteArray} {pc : Nat} (a b : UInt8) (h : DkAt code pc [181, a, b]) : decode code pc = .ok (.putfield (a.toNat * 256 + b.toNat), 3) := dk_of ((dk_bind (dk_u1 (h 0 _ rfl))).trans ((dk_bind (dk_u2 (h 1 _ rfl) (h 2 _ rfl))).trans rfl))
theorem dk_182 {code : ByteArray} {pc : Nat} (a b : UInt8) (h : DkAt code pc [182, a, b]) : decode code pc = .ok (.invokevirtual (a.toNat * 256 + b.toNat), 3) := dk_of ((dk_bind (dk_u1 (h 0 _ rfl))).trans ((dk_bind (dk_u2 (h 1 _ rfl) (h 2 _ rfl))).trans rfl))
theorem dk_183 {code : ByteArray} {pc : Nat} (a b : UInt8) (h : DkAt code pc [183, a, b]) : decode code pc = .ok (.invokespecial (a.toNat * 256 + b.toNat), 3) := dk_of ((dk_bind (dk_u1 (h 0 _ rfl))).trans ((dk_bind (dk_u2 (h 1 _ rfl) (h 2 _ rfl))).trans rfl))
theorem dk_184 {code : ByteArray} {pc : Nat} (a b : UInt8) (h : DkAt code pc [184, a, b]) : decode code pc = .ok (.invokestatic (a.toNat * 256 + b.toNat), 3) := dk_of ((dk_bind (dk_u1 (h 0 _ rfl))).trans ((dk_bind (dk_u2 (h 1 _ rfl) (h 2 _ rfl))).trans rfl))
theorem dk_187 {code : ByteArray} {pc : Nat} (a b : UInt8) (h : DkAt code pc [187, a, b]) : decode code pc = .ok (.new (a.toNat * 256 + b.toNat), 3) := dk_of ((dk_bind (dk_u1 (h 0 _ rfl))).trans ((dk_bind (dk_u2 (h 1 _ rfl) (h 2 _ rfl))).trans rfl))
theorem dk_188_8 {code : ByteArray} {pc : Nat} (h : DkAt code pc [188, 8]) : decode code pc = .ok (.newarray .byte, 2) := dk_of ((dk_bind (dk_u1 (h 0 _ rfl))).trans ((dk_bind (dk_u1 (h 1 _ rfl))).trans rfl))
theorem dk_188_9 {code : ByteArray} {pc : Nat} (h : DkAt code pc [188, 9]) : decode code pc = .ok (.newarray .short, 2) := dk_of ((dk_bind (dk_u1 (h 0 _ rfl))).trans ((dk_bind (dk_u1 (h 1 _ rfl))).trans rfl))
theorem dk_189 {code : ByteArray} {pc : Nat} (a b : UInt8) (h : DkAt code pc [189, a, b]) : decode code pc = .ok (.anewarray (a.toNat * 256 + b.toNat), 3) := dk_of ((dk_bind (dk_u1 (h 0 _ rfl))).trans ((dk_bind (dk_u2 (h 1 _ rfl) (h 2 _ rfl))).trans rfl))
theorem dk_190 {code : ByteArray} {pc : Nat} (h : DkAt code pc [190]) : decode code pc = .ok (.arraylength, 1) := dk_of ((dk_bind (dk_u1 (h 0 _ rfl))).trans rfl)
end
section
/-! java/lang/Object -/
set_option maxRecDepth 100000
def RJ0 : String := "java/lang/Object"
abbrev cJ0_init : ByteArray := object_method_1_code
def yJ0_init : MethodName := ⟨RJ0, "<init>", "()V"⟩
theorem dJ0_init_0 : decode cJ0_init 0 = .ok (.return_, 1) := by decide +kernel
theorem q31 : (Jvm.Cond.instanceMethod ({ cls := "java/lang/Object", name := "<init>", desc := "()V" } : Jvm.MethodName)) ∈ lw_all := lw_g (lw_at lw_m0 31 rfl) rfl
theorem q32 : (Jvm.Cond.code ({ cls := "java/lang/Object", name := "<init>", desc := "()V" } : Jvm.MethodName) object_method_1_code (1 : Nat) (Option.none : Option Jvm.ClassFile.FieldType)) ∈ lw_all := lw_g (lw_at lw_m0 32 rfl) rfl
/-! Reduce -/
set_option maxRecDepth 100000
def RX3 : String := "Reduce"
abbrev cX3_montgomeryReduce : ByteArray := prog_6_method_2_code
def yX3_montgomeryReduce : MethodName := ⟨RX3, "montgomeryReduce", "(I)S"⟩
def dkwX3_montgomeryReduce_0 : List UInt8 := [26, 18, 9, 104, 147, 60, 27, 17, 13, 1, 104, 61, 26, 28, 100, 61, 28, 16, 16, 122, 61, 28, 147, 172]
abbrev dktX3_montgomeryReduce_0 : List UInt8 := dkwX3_montgomeryReduce_0 ++ []
theorem dksX3_montgomeryReduce_0 : cX3_montgomeryReduce.data.toList.drop 0 = dktX3_montgomeryReduce_0 := by decide +kernel
theorem dX3_montgomeryReduce_0 : decode cX3_montgomeryReduce 0 = .ok (.iload_n 0, 1) := dk_26 (dk_at dksX3_montgomeryReduce_0 0 rfl rfl)
theorem dX3_montgomeryReduce_1 : decode cX3_montgomeryReduce 1 = .ok (.ldc 9, 2) := dk_18 9 (dk_at dksX3_montgomeryReduce_0 1 rfl rfl)
theorem dX3_montgomeryReduce_3 : decode cX3_montgomeryReduce 3 = .ok (.imul, 1) := dk_104 (dk_at dksX3_montgomeryReduce_0 3 rfl rfl)
theorem dX3_montgomeryReduce_4 : decode cX3_montgomeryReduce 4 = .ok (.i2s, 1) := dk_147 (dk_at dksX3_montgomeryReduce_0 4 rfl rfl)
theorem dX3_montgomeryReduce_5 : decode cX3_montgomeryReduce 5 = .ok (.istore_n 1, 1) := dk_60 (dk_at dksX3_montgomeryReduce_0 5 rfl rfl)
theorem dX3_montgomeryReduce_6 : decode cX3_montgomeryReduce 6 = .ok (.iload_n 1, 1) := dk_27 (dk_at dksX3_montgomeryReduce_0 6 rfl rfl)
theorem dX3_montgomeryReduce_7 : decode cX3_montgomeryReduce 7 = .ok (.sipush 3329, 3) := dk_17 13 1 (dk_at dksX3_montgomeryReduce_0 7 rfl rfl)
theorem dX3_montgomeryReduce_10 : decode cX3_montgomeryReduce 10 = .ok (.imul, 1) := dk_104 (dk_at dksX3_montgomeryReduce_0 10 rfl rfl)
theorem dX3_montgomeryReduce_11 : decode cX3_montgomeryReduce 11 = .ok (.istore_n 2, 1) := dk_61 (dk_at dksX3_montgomeryReduce_0 11 rfl rfl)
theorem dX3_montgomeryReduce_12 : decode cX3_montgomeryReduce 12 = .ok (.iload_n 0, 1) := dk_26 (dk_at dksX3_montgomeryReduce_0 12 rfl rfl)
theorem dX3_montgomeryReduce_13 : decode cX3_montgomeryReduce 13 = .ok (.iload_n 2, 1) := dk_28 (dk_at dksX3_montgomeryReduce_0 13 rfl rfl)
theorem dX3_montgomeryReduce_14 : decode cX3_montgomeryReduce 14 = .ok (.isub, 1) := dk_100 (dk_at dksX3_montgomeryReduce_0 14 rfl rfl)
theorem dX3_montgomeryReduce_15 : decode cX3_montgomeryReduce 15 = .ok (.istore_n 2, 1) := dk_61 (dk_at dksX3_montgomeryReduce_0 15 rfl rfl)
theorem dX3_montgomeryReduce_16 : decode cX3_montgomeryReduce 16 = .ok (.iload_n 2, 1) := dk_28 (dk_at dksX3_montgomeryReduce_0 16 rfl rfl)
theorem dX3_montgomeryReduce_17 : decode cX3_montgomeryReduce 17 = .ok (.bipush 16, 2) := dk_16 16 (dk_at dksX3_montgomeryReduce_0 17 rfl rfl)
theorem dX3_montgomeryReduce_19 : decode cX3_montgomeryReduce 19 = .ok (.ishr, 1) := dk_122 (dk_at dksX3_montgomeryReduce_0 19 rfl rfl)
theorem dX3_montgomeryReduce_20 : decode cX3_montgomeryReduce 20 = .ok (.istore_n 2, 1) := dk_61 (dk_at dksX3_montgomeryReduce_0 20 rfl rfl)
theorem dX3_montgomeryReduce_21 : decode cX3_montgomeryReduce 21 = .ok (.iload_n 2, 1) := dk_28 (dk_at dksX3_montgomeryReduce_0 21 rfl rfl)
theorem dX3_montgomeryReduce_22 : decode cX3_montgomeryReduce 22 = .ok (.i2s, 1) := dk_147 (dk_at dksX3_montgomeryReduce_0 22 rfl rfl)
theorem dX3_montgomeryReduce_23 : decode cX3_montgomeryReduce 23 = .ok (.ireturn, 1) := dk_172 (dk_at dksX3_montgomeryReduce_0 23 rfl rfl)
abbrev cX3_barrettReduce : ByteArray := prog_6_method_3_code
def yX3_barrettReduce : MethodName := ⟨RX3, "barrettReduce", "(S)S"⟩
def dkwX3_barrettReduce_0 : List UInt8 := [17, 78, 191, 60, 27, 26, 104, 16, 26, 122, 147, 61, 28, 17, 13, 1, 104, 147, 61, 26, 28, 100, 147, 172]
abbrev dktX3_barrettReduce_0 : List UInt8 := dkwX3_barrettReduce_0 ++ []
theorem dksX3_barrettReduce_0 : cX3_barrettReduce.data.toList.drop 0 = dktX3_barrettReduce_0 := by decide +kernel
theorem dX3_barrettReduce_0 : decode cX3_barrettReduce 0 = .ok (.sipush 20159, 3) := dk_17 78 191 (dk_at dksX3_barrettReduce_0 0 rfl rfl)
theorem dX3_barrettReduce_3 : decode cX3_barrettReduce 3 = .ok (.istore_n 1, 1) := dk_60 (dk_at dksX3_barrettReduce_0 3 rfl rfl)
theorem dX3_barrettReduce_4 : decode cX3_barrettReduce 4 = .ok (.iload_n 1, 1) := dk_27 (dk_at dksX3_barrettReduce_0 4 rfl rfl)
theorem dX3_barrettReduce_5 : decode cX3_barrettReduce 5 = .ok (.iload_n 0, 1) := dk_26 (dk_at dksX3_barrettReduce_0 5 rfl rfl)
theorem dX3_barrettReduce_6 : decode cX3_barrettReduce 6 = .ok (.imul, 1) := dk_104 (dk_at dksX3_barrettReduce_0 6 rfl rfl)
theorem dX3_barrettReduce_7 : decode cX3_barrettReduce 7 = .ok (.bipush 26, 2) := dk_16 26 (dk_at dksX3_barrettReduce_0 7 rfl rfl)
theorem dX3_barrettReduce_9 : decode cX3_barrettReduce 9 = .ok (.ishr, 1) := dk_122 (dk_at dksX3_barrettReduce_0 9 rfl rfl)
theorem dX3_barrettReduce_10 : decode cX3_barrettReduce 10 = .ok (.i2s, 1) := dk_147 (dk_at dksX3_barrettReduce_0 10 rfl rfl)
theorem dX3_barrettReduce_11 : decode cX3_barrettReduce 11 = .ok (.istore_n 2, 1) := dk_61 (dk_at dksX3_barrettReduce_0 11 rfl rfl)
theorem dX3_barrettReduce_12 : decode cX3_barrettReduce 12 = .ok (.iload_n 2, 1) := dk_28 (dk_at dksX3_barrettReduce_0 12 rfl rfl)
theorem dX3_barrettReduce_13 : decode cX3_barrettReduce 13 = .ok (.sipush 3329, 3) := dk_17 13 1 (dk_at dksX3_barrettReduce_0 13 rfl rfl)
theorem dX3_barrettReduce_16 : decode cX3_barrettReduce 16 = .ok (.imul, 1) := dk_104 (dk_at dksX3_barrettReduce_0 16 rfl rfl)
theorem dX3_barrettReduce_17 : decode cX3_barrettReduce 17 = .ok (.i2s, 1) := dk_147 (dk_at dksX3_barrettReduce_0 17 rfl rfl)
theorem dX3_barrettReduce_18 : decode cX3_barrettReduce 18 = .ok (.istore_n 2, 1) := dk_61 (dk_at dksX3_barrettReduce_0 18 rfl rfl)
theorem dX3_barrettReduce_19 : decode cX3_barrettReduce 19 = .ok (.iload_n 0, 1) := dk_26 (dk_at dksX3_barrettReduce_0 19 rfl rfl)
theorem dX3_barrettReduce_20 : decode cX3_barrettReduce 20 = .ok (.iload_n 2, 1) := dk_28 (dk_at dksX3_barrettReduce_0 20 rfl rfl)
theorem dX3_barrettReduce_21 : decode cX3_barrettReduce 21 = .ok (.isub, 1) := dk_100 (dk_at dksX3_barrettReduce_0 21 rfl rfl)
theorem dX3_barrettReduce_22 : decode cX3_barrettReduce 22 = .ok (.i2s, 1) := dk_147 (dk_at dksX3_barrettReduce_0 22 rfl rfl)
theorem dX3_barrettReduce_23 : decode cX3_barrettReduce 23 = .ok (.ireturn, 1) := dk_172 (dk_at dksX3_barrettReduce_0 23 rfl rfl)
theorem q3 : (Jvm.Cond.initialized "Reduce") ∈ lw_all := lw_g (lw_at lw_m0 3 rfl) rfl
theorem q55 : (Jvm.Cond.static ({ cls := "Reduce", name := "montgomeryReduce", desc := "(I)S" } : Jvm.MethodName)) ∈ lw_all := lw_g (lw_at lw_m0 55 rfl) rfl
theorem q56 : (Jvm.Cond.code ({ cls := "Reduce", name := "montgomeryReduce", desc := "(I)S" } : Jvm.MethodName) prog_6_method_2_code (3 : Nat) (Option.some Jvm.ClassFile.FieldType.short)) ∈ lw_all := lw_g (lw_at lw_m0 56 rfl) rfl
theorem q57 : (Jvm.Cond.constant "Reduce" (9 : Nat) (62209 : Int32)) ∈ lw_all := lw_g (lw_at lw_m0 57 rfl) rfl
theorem q63 : (Jvm.Cond.static ({ cls := "Reduce", name := "barrettReduce", desc := "(S)S" } : Jvm.MethodName)) ∈ lw_all := lw_g (lw_at lw_m0 63 rfl) rfl
theorem q64 : (Jvm.Cond.code ({ cls := "Reduce", name := "barrettReduce", desc := "(S)S" } : Jvm.MethodName) prog_6_method_3_code (3 : Nat) (Option.some Jvm.ClassFile.FieldType.short)) ∈ lw_all := lw_g (lw_at lw_m0 64 rfl) rfl
/-! Ntt -/
set_option maxRecDepth 100000
def RX4 : String := "Ntt"
abbrev cX4_ntt : ByteArray := prog_4_method_3_code
def yX4_ntt : MethodName := ⟨RX4, "ntt", "([S)V"⟩
def dkwX4_ntt_4 : List UInt8 := [29, 4, 122, 62, 167, 255, 164, 177]
abbrev dktX4_ntt_4 : List UInt8 := dkwX4_ntt_4 ++ []
def dkwX4_ntt_3 : List UInt8 := [86, 42, 27, 21, 6, 21, 7, 96, 147, 86, 132, 1, 1, 167, 255, 208, 27, 29, 96, 54, 4, 167, 255, 179]
abbrev dktX4_ntt_3 : List UInt8 := dkwX4_ntt_3 ++ dktX4_ntt_4
def dkwX4_ntt_2 : List UInt8 := [54, 6, 21, 5, 42, 27, 29, 96, 53, 184, 0, 19, 54, 7, 42, 27, 29, 96, 21, 6, 21, 7, 100, 147]
abbrev dktX4_ntt_2 : List UInt8 := dkwX4_ntt_2 ++ dktX4_ntt_3
def dkwX4_ntt_1 : List UInt8 := [178, 0, 13, 28, 132, 2, 1, 53, 54, 5, 21, 4, 60, 27, 21, 4, 29, 96, 162, 0, 46, 42, 27, 53]
abbrev dktX4_ntt_1 : List UInt8 := dkwX4_ntt_1 ++ dktX4_ntt_2
def dkwX4_ntt_0 : List UInt8 := [4, 61, 17, 0, 128, 62, 29, 5, 161, 0, 93, 3, 54, 4, 21, 4, 17, 1, 0, 162, 0, 75]
abbrev dktX4_ntt_0 : List UInt8 := dkwX4_ntt_0 ++ dktX4_ntt_1
theorem dksX4_ntt_0 : cX4_ntt.data.toList.drop 0 = dktX4_ntt_0 := by decide +kernel
theorem dksX4_ntt_1 : cX4_ntt.data.toList.drop 22 = dktX4_ntt_1 := dk_seg dksX4_ntt_0 22 rfl rfl
theorem dksX4_ntt_2 : cX4_ntt.data.toList.drop 46 = dktX4_ntt_2 := dk_seg dksX4_ntt_1 24 rfl rfl
theorem dksX4_ntt_3 : cX4_ntt.data.toList.drop 70 = dktX4_ntt_3 := dk_seg dksX4_ntt_2 24 rfl rfl
theorem dksX4_ntt_4 : cX4_ntt.data.toList.drop 94 = dktX4_ntt_4 := dk_seg dksX4_ntt_3 24 rfl rfl
theorem dX4_ntt_0 : decode cX4_ntt 0 = .ok (.iconst 1, 1) := dk_4 (dk_at dksX4_ntt_0 0 rfl rfl)
theorem dX4_ntt_1 : decode cX4_ntt 1 = .ok (.istore_n 2, 1) := dk_61 (dk_at dksX4_ntt_0 1 rfl rfl)
theorem dX4_ntt_2 : decode cX4_ntt 2 = .ok (.sipush 128, 3) := dk_17 0 128 (dk_at dksX4_ntt_0 2 rfl rfl)
theorem dX4_ntt_5 : decode cX4_ntt 5 = .ok (.istore_n 3, 1) := dk_62 (dk_at dksX4_ntt_0 5 rfl rfl)
theorem dX4_ntt_6 : decode cX4_ntt 6 = .ok (.iload_n 3, 1) := dk_29 (dk_at dksX4_ntt_0 6 rfl rfl)
theorem dX4_ntt_7 : decode cX4_ntt 7 = .ok (.iconst 2, 1) := dk_5 (dk_at dksX4_ntt_0 7 rfl rfl)
theorem dX4_ntt_8 : decode cX4_ntt 8 = .ok (.if_icmp .lt 93, 3) := dk_161 0 93 (dk_at dksX4_ntt_0 8 rfl rfl)
theorem dX4_ntt_11 : decode cX4_ntt 11 = .ok (.iconst 0, 1) := dk_3 (dk_at dksX4_ntt_0 11 rfl rfl)
theorem dX4_ntt_12 : decode cX4_ntt 12 = .ok (.istore 4, 2) := dk_54 4 (dk_at dksX4_ntt_0 12 rfl rfl)
theorem dX4_ntt_14 : decode cX4_ntt 14 = .ok (.iload 4, 2) := dk_21 4 (dk_at dksX4_ntt_0 14 rfl rfl)
theorem dX4_ntt_16 : decode cX4_ntt 16 = .ok (.sipush 256, 3) := dk_17 1 0 (dk_at dksX4_ntt_0 16 rfl rfl)
theorem dX4_ntt_19 : decode cX4_ntt 19 = .ok (.if_icmp .ge 75, 3) := dk_162 0 75 (dk_at dksX4_ntt_0 19 rfl rfl)
theorem dX4_ntt_22 : decode cX4_ntt 22 = .ok (.getstatic 13, 3) := dk_178 0 13 (dk_at dksX4_ntt_1 0 rfl rfl)
theorem dX4_ntt_25 : decode cX4_ntt 25 = .ok (.iload_n 2, 1) := dk_28 (dk_at dksX4_ntt_1 3 rfl rfl)
theorem dX4_ntt_26 : decode cX4_ntt 26 = .ok (.iinc 2 1, 3) := dk_132 2 1 (dk_at dksX4_ntt_1 4 rfl rfl)
theorem dX4_ntt_29 : decode cX4_ntt 29 = .ok (.saload, 1) := dk_53 (dk_at dksX4_ntt_1 7 rfl rfl)
theorem dX4_ntt_30 : decode cX4_ntt 30 = .ok (.istore 5, 2) := dk_54 5 (dk_at dksX4_ntt_1 8 rfl rfl)
theorem dX4_ntt_32 : decode cX4_ntt 32 = .ok (.iload 4, 2) := dk_21 4 (dk_at dksX4_ntt_1 10 rfl rfl)
theorem dX4_ntt_34 : decode cX4_ntt 34 = .ok (.istore_n 1, 1) := dk_60 (dk_at dksX4_ntt_1 12 rfl rfl)
theorem dX4_ntt_35 : decode cX4_ntt 35 = .ok (.iload_n 1, 1) := dk_27 (dk_at dksX4_ntt_1 13 rfl rfl)
theorem dX4_ntt_36 : decode cX4_ntt 36 = .ok (.iload 4, 2) := dk_21 4 (dk_at dksX4_ntt_1 14 rfl rfl)
theorem dX4_ntt_38 : decode cX4_ntt 38 = .ok (.iload_n 3, 1) := dk_29 (dk_at dksX4_ntt_1 16 rfl rfl)
theorem dX4_ntt_39 : decode cX4_ntt 39 = .ok (.iadd, 1) := dk_96 (dk_at dksX4_ntt_1 17 rfl rfl)
theorem dX4_ntt_40 : decode cX4_ntt 40 = .ok (.if_icmp .ge 46, 3) := dk_162 0 46 (dk_at dksX4_ntt_1 18 rfl rfl)
theorem dX4_ntt_43 : decode cX4_ntt 43 = .ok (.aload_n 0, 1) := dk_42 (dk_at dksX4_ntt_1 21 rfl rfl)
theorem dX4_ntt_44 : decode cX4_ntt 44 = .ok (.iload_n 1, 1) := dk_27 (dk_at dksX4_ntt_1 22 rfl rfl)
theorem dX4_ntt_45 : decode cX4_ntt 45 = .ok (.saload, 1) := dk_53 (dk_at dksX4_ntt_1 23 rfl rfl)
theorem dX4_ntt_46 : decode cX4_ntt 46 = .ok (.istore 6, 2) := dk_54 6 (dk_at dksX4_ntt_2 0 rfl rfl)
theorem dX4_ntt_48 : decode cX4_ntt 48 = .ok (.iload 5, 2) := dk_21 5 (dk_at dksX4_ntt_2 2 rfl rfl)
theorem dX4_ntt_50 : decode cX4_ntt 50 = .ok (.aload_n 0, 1) := dk_42 (dk_at dksX4_ntt_2 4 rfl rfl)
theorem dX4_ntt_51 : decode cX4_ntt 51 = .ok (.iload_n 1, 1) := dk_27 (dk_at dksX4_ntt_2 5 rfl rfl)
theorem dX4_ntt_52 : decode cX4_ntt 52 = .ok (.iload_n 3, 1) := dk_29 (dk_at dksX4_ntt_2 6 rfl rfl)
theorem dX4_ntt_53 : decode cX4_ntt 53 = .ok (.iadd, 1) := dk_96 (dk_at dksX4_ntt_2 7 rfl rfl)
theorem dX4_ntt_54 : decode cX4_ntt 54 = .ok (.saload, 1) := dk_53 (dk_at dksX4_ntt_2 8 rfl rfl)
theorem dX4_ntt_55 : decode cX4_ntt 55 = .ok (.invokestatic 19, 3) := dk_184 0 19 (dk_at dksX4_ntt_2 9 rfl rfl)
theorem dX4_ntt_58 : decode cX4_ntt 58 = .ok (.istore 7, 2) := dk_54 7 (dk_at dksX4_ntt_2 12 rfl rfl)
theorem dX4_ntt_60 : decode cX4_ntt 60 = .ok (.aload_n 0, 1) := dk_42 (dk_at dksX4_ntt_2 14 rfl rfl)
theorem dX4_ntt_61 : decode cX4_ntt 61 = .ok (.iload_n 1, 1) := dk_27 (dk_at dksX4_ntt_2 15 rfl rfl)
theorem dX4_ntt_62 : decode cX4_ntt 62 = .ok (.iload_n 3, 1) := dk_29 (dk_at dksX4_ntt_2 16 rfl rfl)
theorem dX4_ntt_63 : decode cX4_ntt 63 = .ok (.iadd, 1) := dk_96 (dk_at dksX4_ntt_2 17 rfl rfl)
theorem dX4_ntt_64 : decode cX4_ntt 64 = .ok (.iload 6, 2) := dk_21 6 (dk_at dksX4_ntt_2 18 rfl rfl)
theorem dX4_ntt_66 : decode cX4_ntt 66 = .ok (.iload 7, 2) := dk_21 7 (dk_at dksX4_ntt_2 20 rfl rfl)
theorem dX4_ntt_68 : decode cX4_ntt 68 = .ok (.isub, 1) := dk_100 (dk_at dksX4_ntt_2 22 rfl rfl)
theorem dX4_ntt_69 : decode cX4_ntt 69 = .ok (.i2s, 1) := dk_147 (dk_at dksX4_ntt_2 23 rfl rfl)
theorem dX4_ntt_70 : decode cX4_ntt 70 = .ok (.sastore, 1) := dk_86 (dk_at dksX4_ntt_3 0 rfl rfl)
theorem dX4_ntt_71 : decode cX4_ntt 71 = .ok (.aload_n 0, 1) := dk_42 (dk_at dksX4_ntt_3 1 rfl rfl)
theorem dX4_ntt_72 : decode cX4_ntt 72 = .ok (.iload_n 1, 1) := dk_27 (dk_at dksX4_ntt_3 2 rfl rfl)
theorem dX4_ntt_73 : decode cX4_ntt 73 = .ok (.iload 6, 2) := dk_21 6 (dk_at dksX4_ntt_3 3 rfl rfl)
theorem dX4_ntt_75 : decode cX4_ntt 75 = .ok (.iload 7, 2) := dk_21 7 (dk_at dksX4_ntt_3 5 rfl rfl)
theorem dX4_ntt_77 : decode cX4_ntt 77 = .ok (.iadd, 1) := dk_96 (dk_at dksX4_ntt_3 7 rfl rfl)
theorem dX4_ntt_78 : decode cX4_ntt 78 = .ok (.i2s, 1) := dk_147 (dk_at dksX4_ntt_3 8 rfl rfl)
theorem dX4_ntt_79 : decode cX4_ntt 79 = .ok (.sastore, 1) := dk_86 (dk_at dksX4_ntt_3 9 rfl rfl)
theorem dX4_ntt_80 : decode cX4_ntt 80 = .ok (.iinc 1 1, 3) := dk_132 1 1 (dk_at dksX4_ntt_3 10 rfl rfl)
theorem dX4_ntt_83 : decode cX4_ntt 83 = .ok (.goto (-48), 3) := dk_167 255 208 (dk_at dksX4_ntt_3 13 rfl rfl)
theorem dX4_ntt_86 : decode cX4_ntt 86 = .ok (.iload_n 1, 1) := dk_27 (dk_at dksX4_ntt_3 16 rfl rfl)
theorem dX4_ntt_87 : decode cX4_ntt 87 = .ok (.iload_n 3, 1) := dk_29 (dk_at dksX4_ntt_3 17 rfl rfl)
theorem dX4_ntt_88 : decode cX4_ntt 88 = .ok (.iadd, 1) := dk_96 (dk_at dksX4_ntt_3 18 rfl rfl)
theorem dX4_ntt_89 : decode cX4_ntt 89 = .ok (.istore 4, 2) := dk_54 4 (dk_at dksX4_ntt_3 19 rfl rfl)
theorem dX4_ntt_91 : decode cX4_ntt 91 = .ok (.goto (-77), 3) := dk_167 255 179 (dk_at dksX4_ntt_3 21 rfl rfl)
theorem dX4_ntt_94 : decode cX4_ntt 94 = .ok (.iload_n 3, 1) := dk_29 (dk_at dksX4_ntt_4 0 rfl rfl)
theorem dX4_ntt_95 : decode cX4_ntt 95 = .ok (.iconst 1, 1) := dk_4 (dk_at dksX4_ntt_4 1 rfl rfl)
theorem dX4_ntt_96 : decode cX4_ntt 96 = .ok (.ishr, 1) := dk_122 (dk_at dksX4_ntt_4 2 rfl rfl)
theorem dX4_ntt_97 : decode cX4_ntt 97 = .ok (.istore_n 3, 1) := dk_62 (dk_at dksX4_ntt_4 3 rfl rfl)
theorem dX4_ntt_98 : decode cX4_ntt 98 = .ok (.goto (-92), 3) := dk_167 255 164 (dk_at dksX4_ntt_4 4 rfl rfl)
theorem dX4_ntt_101 : decode cX4_ntt 101 = .ok (.return_, 1) := dk_177 (dk_at dksX4_ntt_4 7 rfl rfl)
abbrev cX4_mulMont : ByteArray := prog_4_method_2_code
def yX4_mulMont : MethodName := ⟨RX4, "mulMont", "(SS)S"⟩
def dkwX4_mulMont_0 : List UInt8 := [26, 27, 104, 184, 0, 7, 172]
abbrev dktX4_mulMont_0 : List UInt8 := dkwX4_mulMont_0 ++ []
theorem dksX4_mulMont_0 : cX4_mulMont.data.toList.drop 0 = dktX4_mulMont_0 := by decide +kernel
theorem dX4_mulMont_0 : decode cX4_mulMont 0 = .ok (.iload_n 0, 1) := dk_26 (dk_at dksX4_mulMont_0 0 rfl rfl)
theorem dX4_mulMont_1 : decode cX4_mulMont 1 = .ok (.iload_n 1, 1) := dk_27 (dk_at dksX4_mulMont_0 1 rfl rfl)
theorem dX4_mulMont_2 : decode cX4_mulMont 2 = .ok (.imul, 1) := dk_104 (dk_at dksX4_mulMont_0 2 rfl rfl)
theorem dX4_mulMont_3 : decode cX4_mulMont 3 = .ok (.invokestatic 7, 3) := dk_184 0 7 (dk_at dksX4_mulMont_0 3 rfl rfl)
theorem dX4_mulMont_6 : decode cX4_mulMont 6 = .ok (.ireturn, 1) := dk_172 (dk_at dksX4_mulMont_0 6 rfl rfl)
abbrev cX4_baseMult : ByteArray := prog_4_method_5_code
def yX4_baseMult : MethodName := ⟨RX4, "baseMult", "([SISSSSS)V"⟩
def dkwX4_baseMult_2 : List UInt8 := [21, 4, 184, 0, 19, 96, 147, 54, 8, 42, 27, 4, 96, 21, 8, 86, 177]
abbrev dktX4_baseMult_2 : List UInt8 := dkwX4_baseMult_2 ++ []
def dkwX4_baseMult_1 : List UInt8 := [184, 0, 19, 96, 147, 54, 7, 42, 27, 21, 7, 86, 28, 21, 5, 184, 0, 19, 54, 8, 21, 8, 29]
abbrev dktX4_baseMult_1 : List UInt8 := dkwX4_baseMult_1 ++ dktX4_baseMult_2
def dkwX4_baseMult_0 : List UInt8 := [29, 21, 5, 184, 0, 19, 54, 7, 21, 7, 21, 6, 184, 0, 19, 54, 7, 21, 7, 28, 21, 4]
abbrev dktX4_baseMult_0 : List UInt8 := dkwX4_baseMult_0 ++ dktX4_baseMult_1
theorem dksX4_baseMult_0 : cX4_baseMult.data.toList.drop 0 = dktX4_baseMult_0 := by decide +kernel
theorem dksX4_baseMult_1 : cX4_baseMult.data.toList.drop 22 = dktX4_baseMult_1 := dk_seg dksX4_baseMult_0 22 rfl rfl
theorem dksX4_baseMult_2 : cX4_baseMult.data.toList.drop 45 = dktX4_baseMult_2 := dk_seg dksX4_baseMult_1 23 rfl rfl
theorem dX4_baseMult_0 : decode cX4_baseMult 0 = .ok (.iload_n 3, 1) := dk_29 (dk_at dksX4_baseMult_0 0 rfl rfl)
theorem dX4_baseMult_1 : decode cX4_baseMult 1 = .ok (.iload 5, 2) := dk_21 5 (dk_at dksX4_baseMult_0 1 rfl rfl)
theorem dX4_baseMult_3 : decode cX4_baseMult 3 = .ok (.invokestatic 19, 3) := dk_184 0 19 (dk_at dksX4_baseMult_0 3 rfl rfl)
theorem dX4_baseMult_6 : decode cX4_baseMult 6 = .ok (.istore 7, 2) := dk_54 7 (dk_at dksX4_baseMult_0 6 rfl rfl)
theorem dX4_baseMult_8 : decode cX4_baseMult 8 = .ok (.iload 7, 2) := dk_21 7 (dk_at dksX4_baseMult_0 8 rfl rfl)
theorem dX4_baseMult_10 : decode cX4_baseMult 10 = .ok (.iload 6, 2) := dk_21 6 (dk_at dksX4_baseMult_0 10 rfl rfl)
theorem dX4_baseMult_12 : decode cX4_baseMult 12 = .ok (.invokestatic 19, 3) := dk_184 0 19 (dk_at dksX4_baseMult_0 12 rfl rfl)
theorem dX4_baseMult_15 : decode cX4_baseMult 15 = .ok (.istore 7, 2) := dk_54 7 (dk_at dksX4_baseMult_0 15 rfl rfl)
theorem dX4_baseMult_17 : decode cX4_baseMult 17 = .ok (.iload 7, 2) := dk_21 7 (dk_at dksX4_baseMult_0 17 rfl rfl)
theorem dX4_baseMult_19 : decode cX4_baseMult 19 = .ok (.iload_n 2, 1) := dk_28 (dk_at dksX4_baseMult_0 19 rfl rfl)
theorem dX4_baseMult_20 : decode cX4_baseMult 20 = .ok (.iload 4, 2) := dk_21 4 (dk_at dksX4_baseMult_0 20 rfl rfl)
theorem dX4_baseMult_22 : decode cX4_baseMult 22 = .ok (.invokestatic 19, 3) := dk_184 0 19 (dk_at dksX4_baseMult_1 0 rfl rfl)
theorem dX4_baseMult_25 : decode cX4_baseMult 25 = .ok (.iadd, 1) := dk_96 (dk_at dksX4_baseMult_1 3 rfl rfl)
theorem dX4_baseMult_26 : decode cX4_baseMult 26 = .ok (.i2s, 1) := dk_147 (dk_at dksX4_baseMult_1 4 rfl rfl)
theorem dX4_baseMult_27 : decode cX4_baseMult 27 = .ok (.istore 7, 2) := dk_54 7 (dk_at dksX4_baseMult_1 5 rfl rfl)
theorem dX4_baseMult_29 : decode cX4_baseMult 29 = .ok (.aload_n 0, 1) := dk_42 (dk_at dksX4_baseMult_1 7 rfl rfl)
theorem dX4_baseMult_30 : decode cX4_baseMult 30 = .ok (.iload_n 1, 1) := dk_27 (dk_at dksX4_baseMult_1 8 rfl rfl)
theorem dX4_baseMult_31 : decode cX4_baseMult 31 = .ok (.iload 7, 2) := dk_21 7 (dk_at dksX4_baseMult_1 9 rfl rfl)
theorem dX4_baseMult_33 : decode cX4_baseMult 33 = .ok (.sastore, 1) := dk_86 (dk_at dksX4_baseMult_1 11 rfl rfl)
theorem dX4_baseMult_34 : decode cX4_baseMult 34 = .ok (.iload_n 2, 1) := dk_28 (dk_at dksX4_baseMult_1 12 rfl rfl)
theorem dX4_baseMult_35 : decode cX4_baseMult 35 = .ok (.iload 5, 2) := dk_21 5 (dk_at dksX4_baseMult_1 13 rfl rfl)
theorem dX4_baseMult_37 : decode cX4_baseMult 37 = .ok (.invokestatic 19, 3) := dk_184 0 19 (dk_at dksX4_baseMult_1 15 rfl rfl)
theorem dX4_baseMult_40 : decode cX4_baseMult 40 = .ok (.istore 8, 2) := dk_54 8 (dk_at dksX4_baseMult_1 18 rfl rfl)
theorem dX4_baseMult_42 : decode cX4_baseMult 42 = .ok (.iload 8, 2) := dk_21 8 (dk_at dksX4_baseMult_1 20 rfl rfl)
theorem dX4_baseMult_44 : decode cX4_baseMult 44 = .ok (.iload_n 3, 1) := dk_29 (dk_at dksX4_baseMult_1 22 rfl rfl)
theorem dX4_baseMult_45 : decode cX4_baseMult 45 = .ok (.iload 4, 2) := dk_21 4 (dk_at dksX4_baseMult_2 0 rfl rfl)
theorem dX4_baseMult_47 : decode cX4_baseMult 47 = .ok (.invokestatic 19, 3) := dk_184 0 19 (dk_at dksX4_baseMult_2 2 rfl rfl)
theorem dX4_baseMult_50 : decode cX4_baseMult 50 = .ok (.iadd, 1) := dk_96 (dk_at dksX4_baseMult_2 5 rfl rfl)
theorem dX4_baseMult_51 : decode cX4_baseMult 51 = .ok (.i2s, 1) := dk_147 (dk_at dksX4_baseMult_2 6 rfl rfl)
theorem dX4_baseMult_52 : decode cX4_baseMult 52 = .ok (.istore 8, 2) := dk_54 8 (dk_at dksX4_baseMult_2 7 rfl rfl)
theorem dX4_baseMult_54 : decode cX4_baseMult 54 = .ok (.aload_n 0, 1) := dk_42 (dk_at dksX4_baseMult_2 9 rfl rfl)
theorem dX4_baseMult_55 : decode cX4_baseMult 55 = .ok (.iload_n 1, 1) := dk_27 (dk_at dksX4_baseMult_2 10 rfl rfl)
theorem dX4_baseMult_56 : decode cX4_baseMult 56 = .ok (.iconst 1, 1) := dk_4 (dk_at dksX4_baseMult_2 11 rfl rfl)
theorem dX4_baseMult_57 : decode cX4_baseMult 57 = .ok (.iadd, 1) := dk_96 (dk_at dksX4_baseMult_2 12 rfl rfl)
theorem dX4_baseMult_58 : decode cX4_baseMult 58 = .ok (.iload 8, 2) := dk_21 8 (dk_at dksX4_baseMult_2 13 rfl rfl)
theorem dX4_baseMult_60 : decode cX4_baseMult 60 = .ok (.sastore, 1) := dk_86 (dk_at dksX4_baseMult_2 15 rfl rfl)
theorem dX4_baseMult_61 : decode cX4_baseMult 61 = .ok (.return_, 1) := dk_177 (dk_at dksX4_baseMult_2 16 rfl rfl)
abbrev cX4_invNtt : ByteArray := prog_4_method_4_code
def yX4_invNtt : MethodName := ⟨RX4, "invNtt", "([S)V"⟩
def dkwX4_invNtt_5 : List UInt8 := [178, 0, 23, 16, 127, 53, 184, 0, 19, 86, 132, 3, 1, 167, 255, 231, 177]
abbrev dktX4_invNtt_5 : List UInt8 := dkwX4_invNtt_5 ++ []
def dkwX4_invNtt_4 : List UInt8 := [167, 255, 176, 29, 4, 120, 62, 167, 255, 159, 3, 62, 29, 17, 1, 0, 162, 0, 24, 42, 29, 42, 29, 53]
abbrev dktX4_invNtt_4 : List UInt8 := dkwX4_invNtt_4 ++ dktX4_invNtt_5
def dkwX4_invNtt_3 : List UInt8 := [96, 21, 5, 21, 6, 21, 7, 100, 147, 184, 0, 19, 86, 132, 1, 1, 167, 255, 205, 27, 29, 96, 54, 4]
abbrev dktX4_invNtt_3 : List UInt8 := dkwX4_invNtt_3 ++ dktX4_invNtt_4
def dkwX4_invNtt_2 : List UInt8 := [54, 6, 42, 27, 29, 96, 53, 54, 7, 42, 27, 21, 6, 21, 7, 96, 147, 184, 0, 26, 86, 42, 27, 29]
abbrev dktX4_invNtt_2 : List UInt8 := dkwX4_invNtt_2 ++ dktX4_invNtt_3
def dkwX4_invNtt_1 : List UInt8 := [178, 0, 23, 28, 132, 2, 1, 53, 54, 5, 21, 4, 60, 27, 21, 4, 29, 96, 162, 0, 49, 42, 27, 53]
abbrev dktX4_invNtt_1 : List UInt8 := dkwX4_invNtt_1 ++ dktX4_invNtt_2
def dkwX4_invNtt_0 : List UInt8 := [3, 61, 5, 62, 29, 17, 0, 128, 163, 0, 96, 3, 54, 4, 21, 4, 17, 1, 0, 162, 0, 78]
abbrev dktX4_invNtt_0 : List UInt8 := dkwX4_invNtt_0 ++ dktX4_invNtt_1
theorem dksX4_invNtt_0 : cX4_invNtt.data.toList.drop 0 = dktX4_invNtt_0 := by decide +kernel
theorem dksX4_invNtt_1 : cX4_invNtt.data.toList.drop 22 = dktX4_invNtt_1 := dk_seg dksX4_invNtt_0 22 rfl rfl
theorem dksX4_invNtt_2 : cX4_invNtt.data.toList.drop 46 = dktX4_invNtt_2 := dk_seg dksX4_invNtt_1 24 rfl rfl
theorem dksX4_invNtt_3 : cX4_invNtt.data.toList.drop 70 = dktX4_invNtt_3 := dk_seg dksX4_invNtt_2 24 rfl rfl
theorem dksX4_invNtt_4 : cX4_invNtt.data.toList.drop 94 = dktX4_invNtt_4 := dk_seg dksX4_invNtt_3 24 rfl rfl
theorem dksX4_invNtt_5 : cX4_invNtt.data.toList.drop 118 = dktX4_invNtt_5 := dk_seg dksX4_invNtt_4 24 rfl rfl
theorem dX4_invNtt_0 : decode cX4_invNtt 0 = .ok (.iconst 0, 1) := dk_3 (dk_at dksX4_invNtt_0 0 rfl rfl)
theorem dX4_invNtt_1 : decode cX4_invNtt 1 = .ok (.istore_n 2, 1) := dk_61 (dk_at dksX4_invNtt_0 1 rfl rfl)
theorem dX4_invNtt_2 : decode cX4_invNtt 2 = .ok (.iconst 2, 1) := dk_5 (dk_at dksX4_invNtt_0 2 rfl rfl)
theorem dX4_invNtt_3 : decode cX4_invNtt 3 = .ok (.istore_n 3, 1) := dk_62 (dk_at dksX4_invNtt_0 3 rfl rfl)
theorem dX4_invNtt_4 : decode cX4_invNtt 4 = .ok (.iload_n 3, 1) := dk_29 (dk_at dksX4_invNtt_0 4 rfl rfl)
theorem dX4_invNtt_5 : decode cX4_invNtt 5 = .ok (.sipush 128, 3) := dk_17 0 128 (dk_at dksX4_invNtt_0 5 rfl rfl)
theorem dX4_invNtt_8 : decode cX4_invNtt 8 = .ok (.if_icmp .gt 96, 3) := dk_163 0 96 (dk_at dksX4_invNtt_0 8 rfl rfl)
theorem dX4_invNtt_11 : decode cX4_invNtt 11 = .ok (.iconst 0, 1) := dk_3 (dk_at dksX4_invNtt_0 11 rfl rfl)
theorem dX4_invNtt_12 : decode cX4_invNtt 12 = .ok (.istore 4, 2) := dk_54 4 (dk_at dksX4_invNtt_0 12 rfl rfl)
theorem dX4_invNtt_14 : decode cX4_invNtt 14 = .ok (.iload 4, 2) := dk_21 4 (dk_at dksX4_invNtt_0 14 rfl rfl)
theorem dX4_invNtt_16 : decode cX4_invNtt 16 = .ok (.sipush 256, 3) := dk_17 1 0 (dk_at dksX4_invNtt_0 16 rfl rfl)
theorem dX4_invNtt_19 : decode cX4_invNtt 19 = .ok (.if_icmp .ge 78, 3) := dk_162 0 78 (dk_at dksX4_invNtt_0 19 rfl rfl)
theorem dX4_invNtt_22 : decode cX4_invNtt 22 = .ok (.getstatic 23, 3) := dk_178 0 23 (dk_at dksX4_invNtt_1 0 rfl rfl)
theorem dX4_invNtt_25 : decode cX4_invNtt 25 = .ok (.iload_n 2, 1) := dk_28 (dk_at dksX4_invNtt_1 3 rfl rfl)
theorem dX4_invNtt_26 : decode cX4_invNtt 26 = .ok (.iinc 2 1, 3) := dk_132 2 1 (dk_at dksX4_invNtt_1 4 rfl rfl)
theorem dX4_invNtt_29 : decode cX4_invNtt 29 = .ok (.saload, 1) := dk_53 (dk_at dksX4_invNtt_1 7 rfl rfl)
theorem dX4_invNtt_30 : decode cX4_invNtt 30 = .ok (.istore 5, 2) := dk_54 5 (dk_at dksX4_invNtt_1 8 rfl rfl)
theorem dX4_invNtt_32 : decode cX4_invNtt 32 = .ok (.iload 4, 2) := dk_21 4 (dk_at dksX4_invNtt_1 10 rfl rfl)
theorem dX4_invNtt_34 : decode cX4_invNtt 34 = .ok (.istore_n 1, 1) := dk_60 (dk_at dksX4_invNtt_1 12 rfl rfl)
theorem dX4_invNtt_35 : decode cX4_invNtt 35 = .ok (.iload_n 1, 1) := dk_27 (dk_at dksX4_invNtt_1 13 rfl rfl)
theorem dX4_invNtt_36 : decode cX4_invNtt 36 = .ok (.iload 4, 2) := dk_21 4 (dk_at dksX4_invNtt_1 14 rfl rfl)
theorem dX4_invNtt_38 : decode cX4_invNtt 38 = .ok (.iload_n 3, 1) := dk_29 (dk_at dksX4_invNtt_1 16 rfl rfl)
theorem dX4_invNtt_39 : decode cX4_invNtt 39 = .ok (.iadd, 1) := dk_96 (dk_at dksX4_invNtt_1 17 rfl rfl)
theorem dX4_invNtt_40 : decode cX4_invNtt 40 = .ok (.if_icmp .ge 49, 3) := dk_162 0 49 (dk_at dksX4_invNtt_1 18 rfl rfl)
theorem dX4_invNtt_43 : decode cX4_invNtt 43 = .ok (.aload_n 0, 1) := dk_42 (dk_at dksX4_invNtt_1 21 rfl rfl)
theorem dX4_invNtt_44 : decode cX4_invNtt 44 = .ok (.iload_n 1, 1) := dk_27 (dk_at dksX4_invNtt_1 22 rfl rfl)
theorem dX4_invNtt_45 : decode cX4_invNtt 45 = .ok (.saload, 1) := dk_53 (dk_at dksX4_invNtt_1 23 rfl rfl)
theorem dX4_invNtt_46 : decode cX4_invNtt 46 = .ok (.istore 6, 2) := dk_54 6 (dk_at dksX4_invNtt_2 0 rfl rfl)
theorem dX4_invNtt_48 : decode cX4_invNtt 48 = .ok (.aload_n 0, 1) := dk_42 (dk_at dksX4_invNtt_2 2 rfl rfl)
theorem dX4_invNtt_49 : decode cX4_invNtt 49 = .ok (.iload_n 1, 1) := dk_27 (dk_at dksX4_invNtt_2 3 rfl rfl)
theorem dX4_invNtt_50 : decode cX4_invNtt 50 = .ok (.iload_n 3, 1) := dk_29 (dk_at dksX4_invNtt_2 4 rfl rfl)
theorem dX4_invNtt_51 : decode cX4_invNtt 51 = .ok (.iadd, 1) := dk_96 (dk_at dksX4_invNtt_2 5 rfl rfl)
theorem dX4_invNtt_52 : decode cX4_invNtt 52 = .ok (.saload, 1) := dk_53 (dk_at dksX4_invNtt_2 6 rfl rfl)
theorem dX4_invNtt_53 : decode cX4_invNtt 53 = .ok (.istore 7, 2) := dk_54 7 (dk_at dksX4_invNtt_2 7 rfl rfl)
theorem dX4_invNtt_55 : decode cX4_invNtt 55 = .ok (.aload_n 0, 1) := dk_42 (dk_at dksX4_invNtt_2 9 rfl rfl)
theorem dX4_invNtt_56 : decode cX4_invNtt 56 = .ok (.iload_n 1, 1) := dk_27 (dk_at dksX4_invNtt_2 10 rfl rfl)
theorem dX4_invNtt_57 : decode cX4_invNtt 57 = .ok (.iload 6, 2) := dk_21 6 (dk_at dksX4_invNtt_2 11 rfl rfl)
theorem dX4_invNtt_59 : decode cX4_invNtt 59 = .ok (.iload 7, 2) := dk_21 7 (dk_at dksX4_invNtt_2 13 rfl rfl)
theorem dX4_invNtt_61 : decode cX4_invNtt 61 = .ok (.iadd, 1) := dk_96 (dk_at dksX4_invNtt_2 15 rfl rfl)
theorem dX4_invNtt_62 : decode cX4_invNtt 62 = .ok (.i2s, 1) := dk_147 (dk_at dksX4_invNtt_2 16 rfl rfl)
theorem dX4_invNtt_63 : decode cX4_invNtt 63 = .ok (.invokestatic 26, 3) := dk_184 0 26 (dk_at dksX4_invNtt_2 17 rfl rfl)
theorem dX4_invNtt_66 : decode cX4_invNtt 66 = .ok (.sastore, 1) := dk_86 (dk_at dksX4_invNtt_2 20 rfl rfl)
theorem dX4_invNtt_67 : decode cX4_invNtt 67 = .ok (.aload_n 0, 1) := dk_42 (dk_at dksX4_invNtt_2 21 rfl rfl)
theorem dX4_invNtt_68 : decode cX4_invNtt 68 = .ok (.iload_n 1, 1) := dk_27 (dk_at dksX4_invNtt_2 22 rfl rfl)
theorem dX4_invNtt_69 : decode cX4_invNtt 69 = .ok (.iload_n 3, 1) := dk_29 (dk_at dksX4_invNtt_2 23 rfl rfl)
theorem dX4_invNtt_70 : decode cX4_invNtt 70 = .ok (.iadd, 1) := dk_96 (dk_at dksX4_invNtt_3 0 rfl rfl)
theorem dX4_invNtt_71 : decode cX4_invNtt 71 = .ok (.iload 5, 2) := dk_21 5 (dk_at dksX4_invNtt_3 1 rfl rfl)
theorem dX4_invNtt_73 : decode cX4_invNtt 73 = .ok (.iload 6, 2) := dk_21 6 (dk_at dksX4_invNtt_3 3 rfl rfl)
theorem dX4_invNtt_75 : decode cX4_invNtt 75 = .ok (.iload 7, 2) := dk_21 7 (dk_at dksX4_invNtt_3 5 rfl rfl)
theorem dX4_invNtt_77 : decode cX4_invNtt 77 = .ok (.isub, 1) := dk_100 (dk_at dksX4_invNtt_3 7 rfl rfl)
theorem dX4_invNtt_78 : decode cX4_invNtt 78 = .ok (.i2s, 1) := dk_147 (dk_at dksX4_invNtt_3 8 rfl rfl)
theorem dX4_invNtt_79 : decode cX4_invNtt 79 = .ok (.invokestatic 19, 3) := dk_184 0 19 (dk_at dksX4_invNtt_3 9 rfl rfl)
theorem dX4_invNtt_82 : decode cX4_invNtt 82 = .ok (.sastore, 1) := dk_86 (dk_at dksX4_invNtt_3 12 rfl rfl)
theorem dX4_invNtt_83 : decode cX4_invNtt 83 = .ok (.iinc 1 1, 3) := dk_132 1 1 (dk_at dksX4_invNtt_3 13 rfl rfl)
theorem dX4_invNtt_86 : decode cX4_invNtt 86 = .ok (.goto (-51), 3) := dk_167 255 205 (dk_at dksX4_invNtt_3 16 rfl rfl)
theorem dX4_invNtt_89 : decode cX4_invNtt 89 = .ok (.iload_n 1, 1) := dk_27 (dk_at dksX4_invNtt_3 19 rfl rfl)
theorem dX4_invNtt_90 : decode cX4_invNtt 90 = .ok (.iload_n 3, 1) := dk_29 (dk_at dksX4_invNtt_3 20 rfl rfl)
theorem dX4_invNtt_91 : decode cX4_invNtt 91 = .ok (.iadd, 1) := dk_96 (dk_at dksX4_invNtt_3 21 rfl rfl)
theorem dX4_invNtt_92 : decode cX4_invNtt 92 = .ok (.istore 4, 2) := dk_54 4 (dk_at dksX4_invNtt_3 22 rfl rfl)
theorem dX4_invNtt_94 : decode cX4_invNtt 94 = .ok (.goto (-80), 3) := dk_167 255 176 (dk_at dksX4_invNtt_4 0 rfl rfl)
theorem dX4_invNtt_97 : decode cX4_invNtt 97 = .ok (.iload_n 3, 1) := dk_29 (dk_at dksX4_invNtt_4 3 rfl rfl)
theorem dX4_invNtt_98 : decode cX4_invNtt 98 = .ok (.iconst 1, 1) := dk_4 (dk_at dksX4_invNtt_4 4 rfl rfl)
theorem dX4_invNtt_99 : decode cX4_invNtt 99 = .ok (.ishl, 1) := dk_120 (dk_at dksX4_invNtt_4 5 rfl rfl)
theorem dX4_invNtt_100 : decode cX4_invNtt 100 = .ok (.istore_n 3, 1) := dk_62 (dk_at dksX4_invNtt_4 6 rfl rfl)
theorem dX4_invNtt_101 : decode cX4_invNtt 101 = .ok (.goto (-97), 3) := dk_167 255 159 (dk_at dksX4_invNtt_4 7 rfl rfl)
theorem dX4_invNtt_104 : decode cX4_invNtt 104 = .ok (.iconst 0, 1) := dk_3 (dk_at dksX4_invNtt_4 10 rfl rfl)
theorem dX4_invNtt_105 : decode cX4_invNtt 105 = .ok (.istore_n 3, 1) := dk_62 (dk_at dksX4_invNtt_4 11 rfl rfl)
theorem dX4_invNtt_106 : decode cX4_invNtt 106 = .ok (.iload_n 3, 1) := dk_29 (dk_at dksX4_invNtt_4 12 rfl rfl)
theorem dX4_invNtt_107 : decode cX4_invNtt 107 = .ok (.sipush 256, 3) := dk_17 1 0 (dk_at dksX4_invNtt_4 13 rfl rfl)
theorem dX4_invNtt_110 : decode cX4_invNtt 110 = .ok (.if_icmp .ge 24, 3) := dk_162 0 24 (dk_at dksX4_invNtt_4 16 rfl rfl)
theorem dX4_invNtt_113 : decode cX4_invNtt 113 = .ok (.aload_n 0, 1) := dk_42 (dk_at dksX4_invNtt_4 19 rfl rfl)
theorem dX4_invNtt_114 : decode cX4_invNtt 114 = .ok (.iload_n 3, 1) := dk_29 (dk_at dksX4_invNtt_4 20 rfl rfl)
theorem dX4_invNtt_115 : decode cX4_invNtt 115 = .ok (.aload_n 0, 1) := dk_42 (dk_at dksX4_invNtt_4 21 rfl rfl)
theorem dX4_invNtt_116 : decode cX4_invNtt 116 = .ok (.iload_n 3, 1) := dk_29 (dk_at dksX4_invNtt_4 22 rfl rfl)
theorem dX4_invNtt_117 : decode cX4_invNtt 117 = .ok (.saload, 1) := dk_53 (dk_at dksX4_invNtt_4 23 rfl rfl)
theorem dX4_invNtt_118 : decode cX4_invNtt 118 = .ok (.getstatic 23, 3) := dk_178 0 23 (dk_at dksX4_invNtt_5 0 rfl rfl)
theorem dX4_invNtt_121 : decode cX4_invNtt 121 = .ok (.bipush 127, 2) := dk_16 127 (dk_at dksX4_invNtt_5 3 rfl rfl)
theorem dX4_invNtt_123 : decode cX4_invNtt 123 = .ok (.saload, 1) := dk_53 (dk_at dksX4_invNtt_5 5 rfl rfl)
theorem dX4_invNtt_124 : decode cX4_invNtt 124 = .ok (.invokestatic 19, 3) := dk_184 0 19 (dk_at dksX4_invNtt_5 6 rfl rfl)
theorem dX4_invNtt_127 : decode cX4_invNtt 127 = .ok (.sastore, 1) := dk_86 (dk_at dksX4_invNtt_5 9 rfl rfl)
theorem dX4_invNtt_128 : decode cX4_invNtt 128 = .ok (.iinc 3 1, 3) := dk_132 3 1 (dk_at dksX4_invNtt_5 10 rfl rfl)
theorem dX4_invNtt_131 : decode cX4_invNtt 131 = .ok (.goto (-25), 3) := dk_167 255 231 (dk_at dksX4_invNtt_5 13 rfl rfl)
theorem dX4_invNtt_134 : decode cX4_invNtt 134 = .ok (.return_, 1) := dk_177 (dk_at dksX4_invNtt_5 16 rfl rfl)
theorem q4 : (Jvm.Cond.initialized "Ntt") ∈ lw_all := lw_g (lw_at lw_m0 4 rfl) rfl
theorem q47 : (Jvm.Cond.static ({ cls := "Ntt", name := "ntt", desc := "([S)V" } : Jvm.MethodName)) ∈ lw_all := lw_g (lw_at lw_m0 47 rfl) rfl
theorem q48 : (Jvm.Cond.code ({ cls := "Ntt", name := "ntt", desc := "([S)V" } : Jvm.MethodName) prog_4_method_3_code (8 : Nat) (Option.none : Option Jvm.ClassFile.FieldType)) ∈ lw_all := lw_g (lw_at lw_m0 48 rfl) rfl
theorem q49 : (Jvm.Cond.fieldLink "Ntt" (13 : Nat) "Ntt" "ZETAS" "[S") ∈ lw_all := lw_g (lw_at lw_m0 49 rfl) rfl
theorem q50 : (Jvm.Cond.laysStatic "Ntt" "ZETAS" "[S") ∈ lw_tbl := lw_at lw_m0 50 rfl
theorem q51 : (Jvm.Cond.methodLink "Ntt" (19 : Nat) ({ cls := "Ntt", name := "mulMont", desc := "(SS)S" } : Jvm.MethodName)) ∈ lw_all := lw_g (lw_at lw_m0 51 rfl) rfl
theorem q52 : (Jvm.Cond.static ({ cls := "Ntt", name := "mulMont", desc := "(SS)S" } : Jvm.MethodName)) ∈ lw_all := lw_g (lw_at lw_m0 52 rfl) rfl
theorem q53 : (Jvm.Cond.code ({ cls := "Ntt", name := "mulMont", desc := "(SS)S" } : Jvm.MethodName) prog_4_method_2_code (2 : Nat) (Option.some Jvm.ClassFile.FieldType.short)) ∈ lw_all := lw_g (lw_at lw_m0 53 rfl) rfl
theorem q54 : (Jvm.Cond.methodLink "Ntt" (7 : Nat) ({ cls := "Reduce", name := "montgomeryReduce", desc := "(I)S" } : Jvm.MethodName)) ∈ lw_all := lw_g (lw_at lw_m0 54 rfl) rfl
theorem q71 : (Jvm.Cond.static ({ cls := "Ntt", name := "baseMult", desc := "([SISSSSS)V" } : Jvm.MethodName)) ∈ lw_all := lw_g (lw_at lw_m0 71 rfl) rfl
theorem q72 : (Jvm.Cond.code ({ cls := "Ntt", name := "baseMult", desc := "([SISSSSS)V" } : Jvm.MethodName) prog_4_method_5_code (9 : Nat) (Option.none : Option Jvm.ClassFile.FieldType)) ∈ lw_all := lw_g (lw_at lw_m0 72 rfl) rfl
theorem q79 : (Jvm.Cond.static ({ cls := "Ntt", name := "invNtt", desc := "([S)V" } : Jvm.MethodName)) ∈ lw_all := lw_g (lw_at lw_m0 79 rfl) rfl
theorem q80 : (Jvm.Cond.code ({ cls := "Ntt", name := "invNtt", desc := "([S)V" } : Jvm.MethodName) prog_4_method_4_code (8 : Nat) (Option.none : Option Jvm.ClassFile.FieldType)) ∈ lw_all := lw_g (lw_at lw_m0 80 rfl) rfl
theorem q81 : (Jvm.Cond.fieldLink "Ntt" (23 : Nat) "Ntt" "ZETAS_INV" "[S") ∈ lw_all := lw_g (lw_at lw_m0 81 rfl) rfl
theorem q82 : (Jvm.Cond.laysStatic "Ntt" "ZETAS_INV" "[S") ∈ lw_tbl := lw_at lw_m0 82 rfl
theorem q83 : (Jvm.Cond.methodLink "Ntt" (26 : Nat) ({ cls := "Reduce", name := "barrettReduce", desc := "(S)S" } : Jvm.MethodName)) ∈ lw_all := lw_g (lw_at lw_m0 83 rfl) rfl
/-! Poly -/
set_option maxRecDepth 100000
def RX2 : String := "Poly"
def TX2 : u_T := fun k => match k with
  | _ => ("Poly", "coeffs", "[S", true)
def tyX2 : Nat → FieldType := fun k => match k with
  | _ => .array .short
abbrev wsX20 : List Cond := u_ws RX2 TX2 1
theorem nmX2 : ∀ a, a < 1 → ∀ b, b < 1 → a ≠ b → (TX2 a).2.1 ≠ (TX2 b).2.1 := by decide +kernel
theorem tyX2_ok : ∀ k, k < 1 → parseFieldDescriptor (TX2 k).2.2.1 = some (tyX2 k) := by decide +kernel
abbrev cX2_setCoeffIndex : ByteArray := prog_5_method_3_code
def yX2_setCoeffIndex : MethodName := ⟨RX2, "setCoeffIndex", "(IS)V"⟩
def dkwX2_setCoeffIndex_0 : List UInt8 := [42, 180, 0, 9, 27, 28, 86, 177]
abbrev dktX2_setCoeffIndex_0 : List UInt8 := dkwX2_setCoeffIndex_0 ++ []
theorem dksX2_setCoeffIndex_0 : cX2_setCoeffIndex.data.toList.drop 0 = dktX2_setCoeffIndex_0 := by decide +kernel
theorem dX2_setCoeffIndex_0 : decode cX2_setCoeffIndex 0 = .ok (.aload_n 0, 1) := dk_42 (dk_at dksX2_setCoeffIndex_0 0 rfl rfl)
theorem dX2_setCoeffIndex_1 : decode cX2_setCoeffIndex 1 = .ok (.getfield 9, 3) := dk_180 0 9 (dk_at dksX2_setCoeffIndex_0 1 rfl rfl)
theorem dX2_setCoeffIndex_4 : decode cX2_setCoeffIndex 4 = .ok (.iload_n 1, 1) := dk_27 (dk_at dksX2_setCoeffIndex_0 4 rfl rfl)
theorem dX2_setCoeffIndex_5 : decode cX2_setCoeffIndex 5 = .ok (.iload_n 2, 1) := dk_28 (dk_at dksX2_setCoeffIndex_0 5 rfl rfl)
theorem dX2_setCoeffIndex_6 : decode cX2_setCoeffIndex 6 = .ok (.sastore, 1) := dk_86 (dk_at dksX2_setCoeffIndex_0 6 rfl rfl)
theorem dX2_setCoeffIndex_7 : decode cX2_setCoeffIndex 7 = .ok (.return_, 1) := dk_177 (dk_at dksX2_setCoeffIndex_0 7 rfl rfl)
abbrev cX2_init : ByteArray := prog_5_method_1_code
def yX2_init : MethodName := ⟨RX2, "<init>", "()V"⟩
def dkwX2_init_0 : List UInt8 := [42, 183, 0, 1, 42, 17, 1, 0, 188, 9, 181, 0, 9, 177]
abbrev dktX2_init_0 : List UInt8 := dkwX2_init_0 ++ []
theorem dksX2_init_0 : cX2_init.data.toList.drop 0 = dktX2_init_0 := by decide +kernel
theorem dX2_init_0 : decode cX2_init 0 = .ok (.aload_n 0, 1) := dk_42 (dk_at dksX2_init_0 0 rfl rfl)
theorem dX2_init_1 : decode cX2_init 1 = .ok (.invokespecial 1, 3) := dk_183 0 1 (dk_at dksX2_init_0 1 rfl rfl)
theorem dX2_init_4 : decode cX2_init 4 = .ok (.aload_n 0, 1) := dk_42 (dk_at dksX2_init_0 4 rfl rfl)
theorem dX2_init_5 : decode cX2_init 5 = .ok (.sipush 256, 3) := dk_17 1 0 (dk_at dksX2_init_0 5 rfl rfl)
theorem dX2_init_8 : decode cX2_init 8 = .ok (.newarray .short, 2) := dk_188_9 (dk_at dksX2_init_0 8 rfl rfl)
theorem dX2_init_10 : decode cX2_init 10 = .ok (.putfield 9, 3) := dk_181 0 9 (dk_at dksX2_init_0 10 rfl rfl)
theorem dX2_init_13 : decode cX2_init 13 = .ok (.return_, 1) := dk_177 (dk_at dksX2_init_0 13 rfl rfl)
abbrev cX2_getCoeffIndex : ByteArray := prog_5_method_2_code
def yX2_getCoeffIndex : MethodName := ⟨RX2, "getCoeffIndex", "(I)S"⟩
def dkwX2_getCoeffIndex_0 : List UInt8 := [42, 180, 0, 9, 27, 53, 172]
abbrev dktX2_getCoeffIndex_0 : List UInt8 := dkwX2_getCoeffIndex_0 ++ []
theorem dksX2_getCoeffIndex_0 : cX2_getCoeffIndex.data.toList.drop 0 = dktX2_getCoeffIndex_0 := by decide +kernel
theorem dX2_getCoeffIndex_0 : decode cX2_getCoeffIndex 0 = .ok (.aload_n 0, 1) := dk_42 (dk_at dksX2_getCoeffIndex_0 0 rfl rfl)
theorem dX2_getCoeffIndex_1 : decode cX2_getCoeffIndex 1 = .ok (.getfield 9, 3) := dk_180 0 9 (dk_at dksX2_getCoeffIndex_0 1 rfl rfl)
theorem dX2_getCoeffIndex_4 : decode cX2_getCoeffIndex 4 = .ok (.iload_n 1, 1) := dk_27 (dk_at dksX2_getCoeffIndex_0 4 rfl rfl)
theorem dX2_getCoeffIndex_5 : decode cX2_getCoeffIndex 5 = .ok (.saload, 1) := dk_53 (dk_at dksX2_getCoeffIndex_0 5 rfl rfl)
theorem dX2_getCoeffIndex_6 : decode cX2_getCoeffIndex 6 = .ok (.ireturn, 1) := dk_172 (dk_at dksX2_getCoeffIndex_0 6 rfl rfl)
abbrev cX2_polyNtt : ByteArray := prog_5_method_4_code
def yX2_polyNtt : MethodName := ⟨RX2, "polyNtt", "()V"⟩
def dkwX2_polyNtt_0 : List UInt8 := [42, 180, 0, 9, 184, 0, 15, 42, 182, 0, 21, 177]
abbrev dktX2_polyNtt_0 : List UInt8 := dkwX2_polyNtt_0 ++ []
theorem dksX2_polyNtt_0 : cX2_polyNtt.data.toList.drop 0 = dktX2_polyNtt_0 := by decide +kernel
theorem dX2_polyNtt_0 : decode cX2_polyNtt 0 = .ok (.aload_n 0, 1) := dk_42 (dk_at dksX2_polyNtt_0 0 rfl rfl)
theorem dX2_polyNtt_1 : decode cX2_polyNtt 1 = .ok (.getfield 9, 3) := dk_180 0 9 (dk_at dksX2_polyNtt_0 1 rfl rfl)
theorem dX2_polyNtt_4 : decode cX2_polyNtt 4 = .ok (.invokestatic 15, 3) := dk_184 0 15 (dk_at dksX2_polyNtt_0 4 rfl rfl)
theorem dX2_polyNtt_7 : decode cX2_polyNtt 7 = .ok (.aload_n 0, 1) := dk_42 (dk_at dksX2_polyNtt_0 7 rfl rfl)
theorem dX2_polyNtt_8 : decode cX2_polyNtt 8 = .ok (.invokevirtual 21, 3) := dk_182 0 21 (dk_at dksX2_polyNtt_0 8 rfl rfl)
theorem dX2_polyNtt_11 : decode cX2_polyNtt 11 = .ok (.return_, 1) := dk_177 (dk_at dksX2_polyNtt_0 11 rfl rfl)
abbrev cX2_reduce : ByteArray := prog_5_method_6_code
def yX2_reduce : MethodName := ⟨RX2, "reduce", "()V"⟩
def dkwX2_reduce_1 : List UInt8 := [132, 1, 1, 167, 255, 231, 177]
abbrev dktX2_reduce_1 : List UInt8 := dkwX2_reduce_1 ++ []
def dkwX2_reduce_0 : List UInt8 := [3, 60, 27, 17, 1, 0, 162, 0, 24, 42, 180, 0, 9, 27, 42, 180, 0, 9, 27, 53, 184, 0, 27, 86]
abbrev dktX2_reduce_0 : List UInt8 := dkwX2_reduce_0 ++ dktX2_reduce_1
theorem dksX2_reduce_0 : cX2_reduce.data.toList.drop 0 = dktX2_reduce_0 := by decide +kernel
theorem dksX2_reduce_1 : cX2_reduce.data.toList.drop 24 = dktX2_reduce_1 := dk_seg dksX2_reduce_0 24 rfl rfl
theorem dX2_reduce_0 : decode cX2_reduce 0 = .ok (.iconst 0, 1) := dk_3 (dk_at dksX2_reduce_0 0 rfl rfl)
theorem dX2_reduce_1 : decode cX2_reduce 1 = .ok (.istore_n 1, 1) := dk_60 (dk_at dksX2_reduce_0 1 rfl rfl)
theorem dX2_reduce_2 : decode cX2_reduce 2 = .ok (.iload_n 1, 1) := dk_27 (dk_at dksX2_reduce_0 2 rfl rfl)
theorem dX2_reduce_3 : decode cX2_reduce 3 = .ok (.sipush 256, 3) := dk_17 1 0 (dk_at dksX2_reduce_0 3 rfl rfl)
theorem dX2_reduce_6 : decode cX2_reduce 6 = .ok (.if_icmp .ge 24, 3) := dk_162 0 24 (dk_at dksX2_reduce_0 6 rfl rfl)
theorem dX2_reduce_9 : decode cX2_reduce 9 = .ok (.aload_n 0, 1) := dk_42 (dk_at dksX2_reduce_0 9 rfl rfl)
theorem dX2_reduce_10 : decode cX2_reduce 10 = .ok (.getfield 9, 3) := dk_180 0 9 (dk_at dksX2_reduce_0 10 rfl rfl)
theorem dX2_reduce_13 : decode cX2_reduce 13 = .ok (.iload_n 1, 1) := dk_27 (dk_at dksX2_reduce_0 13 rfl rfl)
theorem dX2_reduce_14 : decode cX2_reduce 14 = .ok (.aload_n 0, 1) := dk_42 (dk_at dksX2_reduce_0 14 rfl rfl)
theorem dX2_reduce_15 : decode cX2_reduce 15 = .ok (.getfield 9, 3) := dk_180 0 9 (dk_at dksX2_reduce_0 15 rfl rfl)
theorem dX2_reduce_18 : decode cX2_reduce 18 = .ok (.iload_n 1, 1) := dk_27 (dk_at dksX2_reduce_0 18 rfl rfl)
theorem dX2_reduce_19 : decode cX2_reduce 19 = .ok (.saload, 1) := dk_53 (dk_at dksX2_reduce_0 19 rfl rfl)
theorem dX2_reduce_20 : decode cX2_reduce 20 = .ok (.invokestatic 27, 3) := dk_184 0 27 (dk_at dksX2_reduce_0 20 rfl rfl)
theorem dX2_reduce_23 : decode cX2_reduce 23 = .ok (.sastore, 1) := dk_86 (dk_at dksX2_reduce_0 23 rfl rfl)
theorem dX2_reduce_24 : decode cX2_reduce 24 = .ok (.iinc 1 1, 3) := dk_132 1 1 (dk_at dksX2_reduce_1 0 rfl rfl)
theorem dX2_reduce_27 : decode cX2_reduce 27 = .ok (.goto (-25), 3) := dk_167 255 231 (dk_at dksX2_reduce_1 3 rfl rfl)
theorem dX2_reduce_30 : decode cX2_reduce 30 = .ok (.return_, 1) := dk_177 (dk_at dksX2_reduce_1 6 rfl rfl)
abbrev cX2_baseMultMontgomery : ByteArray := prog_5_method_7_code
def yX2_baseMultMontgomery : MethodName := ⟨RX2, "baseMultMontgomery", "(LPoly;LPoly;LPoly;)V"⟩
def dkwX2_baseMultMontgomery_5 : List UInt8 := [132, 3, 1, 167, 255, 138, 177]
abbrev dktX2_baseMultMontgomery_5 : List UInt8 := dkwX2_baseMultMontgomery_5 ++ []
def dkwX2_baseMultMontgomery_4 : List UInt8 := [7, 29, 104, 6, 96, 182, 0, 33, 2, 178, 0, 37, 16, 64, 29, 96, 53, 104, 147, 184, 0, 40]
abbrev dktX2_baseMultMontgomery_4 : List UInt8 := dkwX2_baseMultMontgomery_4 ++ dktX2_baseMultMontgomery_5
def dkwX2_baseMultMontgomery_3 : List UInt8 := [5, 96, 182, 0, 33, 43, 7, 29, 104, 6, 96, 182, 0, 33, 44, 7, 29, 104, 5, 96, 182, 0, 33, 44]
abbrev dktX2_baseMultMontgomery_3 : List UInt8 := dkwX2_baseMultMontgomery_3 ++ dktX2_baseMultMontgomery_4
def dkwX2_baseMultMontgomery_2 : List UInt8 := [178, 0, 37, 16, 64, 29, 96, 53, 184, 0, 40, 42, 180, 0, 9, 7, 29, 104, 5, 96, 43, 7, 29, 104]
abbrev dktX2_baseMultMontgomery_2 : List UInt8 := dkwX2_baseMultMontgomery_2 ++ dktX2_baseMultMontgomery_3
def dkwX2_baseMultMontgomery_1 : List UInt8 := [29, 104, 4, 96, 182, 0, 33, 44, 7, 29, 104, 182, 0, 33, 44, 7, 29, 104, 4, 96, 182, 0, 33]
abbrev dktX2_baseMultMontgomery_1 : List UInt8 := dkwX2_baseMultMontgomery_1 ++ dktX2_baseMultMontgomery_2
def dkwX2_baseMultMontgomery_0 : List UInt8 := [3, 62, 29, 16, 64, 162, 0, 118, 42, 180, 0, 9, 7, 29, 104, 43, 7, 29, 104, 182, 0, 33, 43, 7]
abbrev dktX2_baseMultMontgomery_0 : List UInt8 := dkwX2_baseMultMontgomery_0 ++ dktX2_baseMultMontgomery_1
theorem dksX2_baseMultMontgomery_0 : cX2_baseMultMontgomery.data.toList.drop 0 = dktX2_baseMultMontgomery_0 := by decide +kernel
theorem dksX2_baseMultMontgomery_1 : cX2_baseMultMontgomery.data.toList.drop 24 = dktX2_baseMultMontgomery_1 := dk_seg dksX2_baseMultMontgomery_0 24 rfl rfl
theorem dksX2_baseMultMontgomery_2 : cX2_baseMultMontgomery.data.toList.drop 47 = dktX2_baseMultMontgomery_2 := dk_seg dksX2_baseMultMontgomery_1 23 rfl rfl
theorem dksX2_baseMultMontgomery_3 : cX2_baseMultMontgomery.data.toList.drop 71 = dktX2_baseMultMontgomery_3 := dk_seg dksX2_baseMultMontgomery_2 24 rfl rfl
theorem dksX2_baseMultMontgomery_4 : cX2_baseMultMontgomery.data.toList.drop 95 = dktX2_baseMultMontgomery_4 := dk_seg dksX2_baseMultMontgomery_3 24 rfl rfl
theorem dksX2_baseMultMontgomery_5 : cX2_baseMultMontgomery.data.toList.drop 117 = dktX2_baseMultMontgomery_5 := dk_seg dksX2_baseMultMontgomery_4 22 rfl rfl
theorem dX2_baseMultMontgomery_0 : decode cX2_baseMultMontgomery 0 = .ok (.iconst 0, 1) := dk_3 (dk_at dksX2_baseMultMontgomery_0 0 rfl rfl)
theorem dX2_baseMultMontgomery_1 : decode cX2_baseMultMontgomery 1 = .ok (.istore_n 3, 1) := dk_62 (dk_at dksX2_baseMultMontgomery_0 1 rfl rfl)
theorem dX2_baseMultMontgomery_2 : decode cX2_baseMultMontgomery 2 = .ok (.iload_n 3, 1) := dk_29 (dk_at dksX2_baseMultMontgomery_0 2 rfl rfl)
theorem dX2_baseMultMontgomery_3 : decode cX2_baseMultMontgomery 3 = .ok (.bipush 64, 2) := dk_16 64 (dk_at dksX2_baseMultMontgomery_0 3 rfl rfl)
theorem dX2_baseMultMontgomery_5 : decode cX2_baseMultMontgomery 5 = .ok (.if_icmp .ge 118, 3) := dk_162 0 118 (dk_at dksX2_baseMultMontgomery_0 5 rfl rfl)
theorem dX2_baseMultMontgomery_8 : decode cX2_baseMultMontgomery 8 = .ok (.aload_n 0, 1) := dk_42 (dk_at dksX2_baseMultMontgomery_0 8 rfl rfl)
theorem dX2_baseMultMontgomery_9 : decode cX2_baseMultMontgomery 9 = .ok (.getfield 9, 3) := dk_180 0 9 (dk_at dksX2_baseMultMontgomery_0 9 rfl rfl)
theorem dX2_baseMultMontgomery_12 : decode cX2_baseMultMontgomery 12 = .ok (.iconst 4, 1) := dk_7 (dk_at dksX2_baseMultMontgomery_0 12 rfl rfl)
theorem dX2_baseMultMontgomery_13 : decode cX2_baseMultMontgomery 13 = .ok (.iload_n 3, 1) := dk_29 (dk_at dksX2_baseMultMontgomery_0 13 rfl rfl)
theorem dX2_baseMultMontgomery_14 : decode cX2_baseMultMontgomery 14 = .ok (.imul, 1) := dk_104 (dk_at dksX2_baseMultMontgomery_0 14 rfl rfl)
theorem dX2_baseMultMontgomery_15 : decode cX2_baseMultMontgomery 15 = .ok (.aload_n 1, 1) := dk_43 (dk_at dksX2_baseMultMontgomery_0 15 rfl rfl)
theorem dX2_baseMultMontgomery_16 : decode cX2_baseMultMontgomery 16 = .ok (.iconst 4, 1) := dk_7 (dk_at dksX2_baseMultMontgomery_0 16 rfl rfl)
theorem dX2_baseMultMontgomery_17 : decode cX2_baseMultMontgomery 17 = .ok (.iload_n 3, 1) := dk_29 (dk_at dksX2_baseMultMontgomery_0 17 rfl rfl)
theorem dX2_baseMultMontgomery_18 : decode cX2_baseMultMontgomery 18 = .ok (.imul, 1) := dk_104 (dk_at dksX2_baseMultMontgomery_0 18 rfl rfl)
theorem dX2_baseMultMontgomery_19 : decode cX2_baseMultMontgomery 19 = .ok (.invokevirtual 33, 3) := dk_182 0 33 (dk_at dksX2_baseMultMontgomery_0 19 rfl rfl)
theorem dX2_baseMultMontgomery_22 : decode cX2_baseMultMontgomery 22 = .ok (.aload_n 1, 1) := dk_43 (dk_at dksX2_baseMultMontgomery_0 22 rfl rfl)
theorem dX2_baseMultMontgomery_23 : decode cX2_baseMultMontgomery 23 = .ok (.iconst 4, 1) := dk_7 (dk_at dksX2_baseMultMontgomery_0 23 rfl rfl)
theorem dX2_baseMultMontgomery_24 : decode cX2_baseMultMontgomery 24 = .ok (.iload_n 3, 1) := dk_29 (dk_at dksX2_baseMultMontgomery_1 0 rfl rfl)
theorem dX2_baseMultMontgomery_25 : decode cX2_baseMultMontgomery 25 = .ok (.imul, 1) := dk_104 (dk_at dksX2_baseMultMontgomery_1 1 rfl rfl)
theorem dX2_baseMultMontgomery_26 : decode cX2_baseMultMontgomery 26 = .ok (.iconst 1, 1) := dk_4 (dk_at dksX2_baseMultMontgomery_1 2 rfl rfl)
theorem dX2_baseMultMontgomery_27 : decode cX2_baseMultMontgomery 27 = .ok (.iadd, 1) := dk_96 (dk_at dksX2_baseMultMontgomery_1 3 rfl rfl)
theorem dX2_baseMultMontgomery_28 : decode cX2_baseMultMontgomery 28 = .ok (.invokevirtual 33, 3) := dk_182 0 33 (dk_at dksX2_baseMultMontgomery_1 4 rfl rfl)
theorem dX2_baseMultMontgomery_31 : decode cX2_baseMultMontgomery 31 = .ok (.aload_n 2, 1) := dk_44 (dk_at dksX2_baseMultMontgomery_1 7 rfl rfl)
theorem dX2_baseMultMontgomery_32 : decode cX2_baseMultMontgomery 32 = .ok (.iconst 4, 1) := dk_7 (dk_at dksX2_baseMultMontgomery_1 8 rfl rfl)
theorem dX2_baseMultMontgomery_33 : decode cX2_baseMultMontgomery 33 = .ok (.iload_n 3, 1) := dk_29 (dk_at dksX2_baseMultMontgomery_1 9 rfl rfl)
theorem dX2_baseMultMontgomery_34 : decode cX2_baseMultMontgomery 34 = .ok (.imul, 1) := dk_104 (dk_at dksX2_baseMultMontgomery_1 10 rfl rfl)
theorem dX2_baseMultMontgomery_35 : decode cX2_baseMultMontgomery 35 = .ok (.invokevirtual 33, 3) := dk_182 0 33 (dk_at dksX2_baseMultMontgomery_1 11 rfl rfl)
theorem dX2_baseMultMontgomery_38 : decode cX2_baseMultMontgomery 38 = .ok (.aload_n 2, 1) := dk_44 (dk_at dksX2_baseMultMontgomery_1 14 rfl rfl)
theorem dX2_baseMultMontgomery_39 : decode cX2_baseMultMontgomery 39 = .ok (.iconst 4, 1) := dk_7 (dk_at dksX2_baseMultMontgomery_1 15 rfl rfl)
theorem dX2_baseMultMontgomery_40 : decode cX2_baseMultMontgomery 40 = .ok (.iload_n 3, 1) := dk_29 (dk_at dksX2_baseMultMontgomery_1 16 rfl rfl)
theorem dX2_baseMultMontgomery_41 : decode cX2_baseMultMontgomery 41 = .ok (.imul, 1) := dk_104 (dk_at dksX2_baseMultMontgomery_1 17 rfl rfl)
theorem dX2_baseMultMontgomery_42 : decode cX2_baseMultMontgomery 42 = .ok (.iconst 1, 1) := dk_4 (dk_at dksX2_baseMultMontgomery_1 18 rfl rfl)
theorem dX2_baseMultMontgomery_43 : decode cX2_baseMultMontgomery 43 = .ok (.iadd, 1) := dk_96 (dk_at dksX2_baseMultMontgomery_1 19 rfl rfl)
theorem dX2_baseMultMontgomery_44 : decode cX2_baseMultMontgomery 44 = .ok (.invokevirtual 33, 3) := dk_182 0 33 (dk_at dksX2_baseMultMontgomery_1 20 rfl rfl)
theorem dX2_baseMultMontgomery_47 : decode cX2_baseMultMontgomery 47 = .ok (.getstatic 37, 3) := dk_178 0 37 (dk_at dksX2_baseMultMontgomery_2 0 rfl rfl)
theorem dX2_baseMultMontgomery_50 : decode cX2_baseMultMontgomery 50 = .ok (.bipush 64, 2) := dk_16 64 (dk_at dksX2_baseMultMontgomery_2 3 rfl rfl)
theorem dX2_baseMultMontgomery_52 : decode cX2_baseMultMontgomery 52 = .ok (.iload_n 3, 1) := dk_29 (dk_at dksX2_baseMultMontgomery_2 5 rfl rfl)
theorem dX2_baseMultMontgomery_53 : decode cX2_baseMultMontgomery 53 = .ok (.iadd, 1) := dk_96 (dk_at dksX2_baseMultMontgomery_2 6 rfl rfl)
theorem dX2_baseMultMontgomery_54 : decode cX2_baseMultMontgomery 54 = .ok (.saload, 1) := dk_53 (dk_at dksX2_baseMultMontgomery_2 7 rfl rfl)
theorem dX2_baseMultMontgomery_55 : decode cX2_baseMultMontgomery 55 = .ok (.invokestatic 40, 3) := dk_184 0 40 (dk_at dksX2_baseMultMontgomery_2 8 rfl rfl)
theorem dX2_baseMultMontgomery_58 : decode cX2_baseMultMontgomery 58 = .ok (.aload_n 0, 1) := dk_42 (dk_at dksX2_baseMultMontgomery_2 11 rfl rfl)
theorem dX2_baseMultMontgomery_59 : decode cX2_baseMultMontgomery 59 = .ok (.getfield 9, 3) := dk_180 0 9 (dk_at dksX2_baseMultMontgomery_2 12 rfl rfl)
theorem dX2_baseMultMontgomery_62 : decode cX2_baseMultMontgomery 62 = .ok (.iconst 4, 1) := dk_7 (dk_at dksX2_baseMultMontgomery_2 15 rfl rfl)
theorem dX2_baseMultMontgomery_63 : decode cX2_baseMultMontgomery 63 = .ok (.iload_n 3, 1) := dk_29 (dk_at dksX2_baseMultMontgomery_2 16 rfl rfl)
theorem dX2_baseMultMontgomery_64 : decode cX2_baseMultMontgomery 64 = .ok (.imul, 1) := dk_104 (dk_at dksX2_baseMultMontgomery_2 17 rfl rfl)
theorem dX2_baseMultMontgomery_65 : decode cX2_baseMultMontgomery 65 = .ok (.iconst 2, 1) := dk_5 (dk_at dksX2_baseMultMontgomery_2 18 rfl rfl)
theorem dX2_baseMultMontgomery_66 : decode cX2_baseMultMontgomery 66 = .ok (.iadd, 1) := dk_96 (dk_at dksX2_baseMultMontgomery_2 19 rfl rfl)
theorem dX2_baseMultMontgomery_67 : decode cX2_baseMultMontgomery 67 = .ok (.aload_n 1, 1) := dk_43 (dk_at dksX2_baseMultMontgomery_2 20 rfl rfl)
theorem dX2_baseMultMontgomery_68 : decode cX2_baseMultMontgomery 68 = .ok (.iconst 4, 1) := dk_7 (dk_at dksX2_baseMultMontgomery_2 21 rfl rfl)
theorem dX2_baseMultMontgomery_69 : decode cX2_baseMultMontgomery 69 = .ok (.iload_n 3, 1) := dk_29 (dk_at dksX2_baseMultMontgomery_2 22 rfl rfl)
theorem dX2_baseMultMontgomery_70 : decode cX2_baseMultMontgomery 70 = .ok (.imul, 1) := dk_104 (dk_at dksX2_baseMultMontgomery_2 23 rfl rfl)
theorem dX2_baseMultMontgomery_71 : decode cX2_baseMultMontgomery 71 = .ok (.iconst 2, 1) := dk_5 (dk_at dksX2_baseMultMontgomery_3 0 rfl rfl)
theorem dX2_baseMultMontgomery_72 : decode cX2_baseMultMontgomery 72 = .ok (.iadd, 1) := dk_96 (dk_at dksX2_baseMultMontgomery_3 1 rfl rfl)
theorem dX2_baseMultMontgomery_73 : decode cX2_baseMultMontgomery 73 = .ok (.invokevirtual 33, 3) := dk_182 0 33 (dk_at dksX2_baseMultMontgomery_3 2 rfl rfl)
theorem dX2_baseMultMontgomery_76 : decode cX2_baseMultMontgomery 76 = .ok (.aload_n 1, 1) := dk_43 (dk_at dksX2_baseMultMontgomery_3 5 rfl rfl)
theorem dX2_baseMultMontgomery_77 : decode cX2_baseMultMontgomery 77 = .ok (.iconst 4, 1) := dk_7 (dk_at dksX2_baseMultMontgomery_3 6 rfl rfl)
theorem dX2_baseMultMontgomery_78 : decode cX2_baseMultMontgomery 78 = .ok (.iload_n 3, 1) := dk_29 (dk_at dksX2_baseMultMontgomery_3 7 rfl rfl)
theorem dX2_baseMultMontgomery_79 : decode cX2_baseMultMontgomery 79 = .ok (.imul, 1) := dk_104 (dk_at dksX2_baseMultMontgomery_3 8 rfl rfl)
theorem dX2_baseMultMontgomery_80 : decode cX2_baseMultMontgomery 80 = .ok (.iconst 3, 1) := dk_6 (dk_at dksX2_baseMultMontgomery_3 9 rfl rfl)
theorem dX2_baseMultMontgomery_81 : decode cX2_baseMultMontgomery 81 = .ok (.iadd, 1) := dk_96 (dk_at dksX2_baseMultMontgomery_3 10 rfl rfl)
theorem dX2_baseMultMontgomery_82 : decode cX2_baseMultMontgomery 82 = .ok (.invokevirtual 33, 3) := dk_182 0 33 (dk_at dksX2_baseMultMontgomery_3 11 rfl rfl)
theorem dX2_baseMultMontgomery_85 : decode cX2_baseMultMontgomery 85 = .ok (.aload_n 2, 1) := dk_44 (dk_at dksX2_baseMultMontgomery_3 14 rfl rfl)
theorem dX2_baseMultMontgomery_86 : decode cX2_baseMultMontgomery 86 = .ok (.iconst 4, 1) := dk_7 (dk_at dksX2_baseMultMontgomery_3 15 rfl rfl)
theorem dX2_baseMultMontgomery_87 : decode cX2_baseMultMontgomery 87 = .ok (.iload_n 3, 1) := dk_29 (dk_at dksX2_baseMultMontgomery_3 16 rfl rfl)
theorem dX2_baseMultMontgomery_88 : decode cX2_baseMultMontgomery 88 = .ok (.imul, 1) := dk_104 (dk_at dksX2_baseMultMontgomery_3 17 rfl rfl)
theorem dX2_baseMultMontgomery_89 : decode cX2_baseMultMontgomery 89 = .ok (.iconst 2, 1) := dk_5 (dk_at dksX2_baseMultMontgomery_3 18 rfl rfl)
theorem dX2_baseMultMontgomery_90 : decode cX2_baseMultMontgomery 90 = .ok (.iadd, 1) := dk_96 (dk_at dksX2_baseMultMontgomery_3 19 rfl rfl)
theorem dX2_baseMultMontgomery_91 : decode cX2_baseMultMontgomery 91 = .ok (.invokevirtual 33, 3) := dk_182 0 33 (dk_at dksX2_baseMultMontgomery_3 20 rfl rfl)
theorem dX2_baseMultMontgomery_94 : decode cX2_baseMultMontgomery 94 = .ok (.aload_n 2, 1) := dk_44 (dk_at dksX2_baseMultMontgomery_3 23 rfl rfl)
theorem dX2_baseMultMontgomery_95 : decode cX2_baseMultMontgomery 95 = .ok (.iconst 4, 1) := dk_7 (dk_at dksX2_baseMultMontgomery_4 0 rfl rfl)
theorem dX2_baseMultMontgomery_96 : decode cX2_baseMultMontgomery 96 = .ok (.iload_n 3, 1) := dk_29 (dk_at dksX2_baseMultMontgomery_4 1 rfl rfl)
theorem dX2_baseMultMontgomery_97 : decode cX2_baseMultMontgomery 97 = .ok (.imul, 1) := dk_104 (dk_at dksX2_baseMultMontgomery_4 2 rfl rfl)
theorem dX2_baseMultMontgomery_98 : decode cX2_baseMultMontgomery 98 = .ok (.iconst 3, 1) := dk_6 (dk_at dksX2_baseMultMontgomery_4 3 rfl rfl)
theorem dX2_baseMultMontgomery_99 : decode cX2_baseMultMontgomery 99 = .ok (.iadd, 1) := dk_96 (dk_at dksX2_baseMultMontgomery_4 4 rfl rfl)
theorem dX2_baseMultMontgomery_100 : decode cX2_baseMultMontgomery 100 = .ok (.invokevirtual 33, 3) := dk_182 0 33 (dk_at dksX2_baseMultMontgomery_4 5 rfl rfl)
theorem dX2_baseMultMontgomery_103 : decode cX2_baseMultMontgomery 103 = .ok (.iconst (-1), 1) := dk_2 (dk_at dksX2_baseMultMontgomery_4 8 rfl rfl)
theorem dX2_baseMultMontgomery_104 : decode cX2_baseMultMontgomery 104 = .ok (.getstatic 37, 3) := dk_178 0 37 (dk_at dksX2_baseMultMontgomery_4 9 rfl rfl)
theorem dX2_baseMultMontgomery_107 : decode cX2_baseMultMontgomery 107 = .ok (.bipush 64, 2) := dk_16 64 (dk_at dksX2_baseMultMontgomery_4 12 rfl rfl)
theorem dX2_baseMultMontgomery_109 : decode cX2_baseMultMontgomery 109 = .ok (.iload_n 3, 1) := dk_29 (dk_at dksX2_baseMultMontgomery_4 14 rfl rfl)
theorem dX2_baseMultMontgomery_110 : decode cX2_baseMultMontgomery 110 = .ok (.iadd, 1) := dk_96 (dk_at dksX2_baseMultMontgomery_4 15 rfl rfl)
theorem dX2_baseMultMontgomery_111 : decode cX2_baseMultMontgomery 111 = .ok (.saload, 1) := dk_53 (dk_at dksX2_baseMultMontgomery_4 16 rfl rfl)
theorem dX2_baseMultMontgomery_112 : decode cX2_baseMultMontgomery 112 = .ok (.imul, 1) := dk_104 (dk_at dksX2_baseMultMontgomery_4 17 rfl rfl)
theorem dX2_baseMultMontgomery_113 : decode cX2_baseMultMontgomery 113 = .ok (.i2s, 1) := dk_147 (dk_at dksX2_baseMultMontgomery_4 18 rfl rfl)
theorem dX2_baseMultMontgomery_114 : decode cX2_baseMultMontgomery 114 = .ok (.invokestatic 40, 3) := dk_184 0 40 (dk_at dksX2_baseMultMontgomery_4 19 rfl rfl)
theorem dX2_baseMultMontgomery_117 : decode cX2_baseMultMontgomery 117 = .ok (.iinc 3 1, 3) := dk_132 3 1 (dk_at dksX2_baseMultMontgomery_5 0 rfl rfl)
theorem dX2_baseMultMontgomery_120 : decode cX2_baseMultMontgomery 120 = .ok (.goto (-118), 3) := dk_167 255 138 (dk_at dksX2_baseMultMontgomery_5 3 rfl rfl)
theorem dX2_baseMultMontgomery_123 : decode cX2_baseMultMontgomery 123 = .ok (.return_, 1) := dk_177 (dk_at dksX2_baseMultMontgomery_5 6 rfl rfl)
abbrev cX2_polyInverseNttToMont : ByteArray := prog_5_method_5_code
def yX2_polyInverseNttToMont : MethodName := ⟨RX2, "polyInverseNttToMont", "()V"⟩
def dkwX2_polyInverseNttToMont_0 : List UInt8 := [42, 180, 0, 9, 184, 0, 24, 177]
abbrev dktX2_polyInverseNttToMont_0 : List UInt8 := dkwX2_polyInverseNttToMont_0 ++ []
theorem dksX2_polyInverseNttToMont_0 : cX2_polyInverseNttToMont.data.toList.drop 0 = dktX2_polyInverseNttToMont_0 := by decide +kernel
theorem dX2_polyInverseNttToMont_0 : decode cX2_polyInverseNttToMont 0 = .ok (.aload_n 0, 1) := dk_42 (dk_at dksX2_polyInverseNttToMont_0 0 rfl rfl)
theorem dX2_polyInverseNttToMont_1 : decode cX2_polyInverseNttToMont 1 = .ok (.getfield 9, 3) := dk_180 0 9 (dk_at dksX2_polyInverseNttToMont_0 1 rfl rfl)
theorem dX2_polyInverseNttToMont_4 : decode cX2_polyInverseNttToMont 4 = .ok (.invokestatic 24, 3) := dk_184 0 24 (dk_at dksX2_polyInverseNttToMont_0 4 rfl rfl)
theorem dX2_polyInverseNttToMont_7 : decode cX2_polyInverseNttToMont 7 = .ok (.return_, 1) := dk_177 (dk_at dksX2_polyInverseNttToMont_0 7 rfl rfl)
abbrev cX2_add : ByteArray := prog_5_method_8_code
def yX2_add : MethodName := ⟨RX2, "add", "(LPoly;)V"⟩
def dkwX2_add_1 : List UInt8 := [28, 53, 96, 147, 86, 132, 2, 1, 167, 255, 226, 177]
abbrev dktX2_add_1 : List UInt8 := dkwX2_add_1 ++ []
def dkwX2_add_0 : List UInt8 := [3, 61, 28, 17, 1, 0, 162, 0, 29, 42, 180, 0, 9, 28, 42, 180, 0, 9, 28, 53, 43, 180, 0, 9]
abbrev dktX2_add_0 : List UInt8 := dkwX2_add_0 ++ dktX2_add_1
theorem dksX2_add_0 : cX2_add.data.toList.drop 0 = dktX2_add_0 := by decide +kernel
theorem dksX2_add_1 : cX2_add.data.toList.drop 24 = dktX2_add_1 := dk_seg dksX2_add_0 24 rfl rfl
theorem dX2_add_0 : decode cX2_add 0 = .ok (.iconst 0, 1) := dk_3 (dk_at dksX2_add_0 0 rfl rfl)
theorem dX2_add_1 : decode cX2_add 1 = .ok (.istore_n 2, 1) := dk_61 (dk_at dksX2_add_0 1 rfl rfl)
theorem dX2_add_2 : decode cX2_add 2 = .ok (.iload_n 2, 1) := dk_28 (dk_at dksX2_add_0 2 rfl rfl)
theorem dX2_add_3 : decode cX2_add 3 = .ok (.sipush 256, 3) := dk_17 1 0 (dk_at dksX2_add_0 3 rfl rfl)
theorem dX2_add_6 : decode cX2_add 6 = .ok (.if_icmp .ge 29, 3) := dk_162 0 29 (dk_at dksX2_add_0 6 rfl rfl)
theorem dX2_add_9 : decode cX2_add 9 = .ok (.aload_n 0, 1) := dk_42 (dk_at dksX2_add_0 9 rfl rfl)
theorem dX2_add_10 : decode cX2_add 10 = .ok (.getfield 9, 3) := dk_180 0 9 (dk_at dksX2_add_0 10 rfl rfl)
theorem dX2_add_13 : decode cX2_add 13 = .ok (.iload_n 2, 1) := dk_28 (dk_at dksX2_add_0 13 rfl rfl)
theorem dX2_add_14 : decode cX2_add 14 = .ok (.aload_n 0, 1) := dk_42 (dk_at dksX2_add_0 14 rfl rfl)
theorem dX2_add_15 : decode cX2_add 15 = .ok (.getfield 9, 3) := dk_180 0 9 (dk_at dksX2_add_0 15 rfl rfl)
theorem dX2_add_18 : decode cX2_add 18 = .ok (.iload_n 2, 1) := dk_28 (dk_at dksX2_add_0 18 rfl rfl)
theorem dX2_add_19 : decode cX2_add 19 = .ok (.saload, 1) := dk_53 (dk_at dksX2_add_0 19 rfl rfl)
theorem dX2_add_20 : decode cX2_add 20 = .ok (.aload_n 1, 1) := dk_43 (dk_at dksX2_add_0 20 rfl rfl)
theorem dX2_add_21 : decode cX2_add 21 = .ok (.getfield 9, 3) := dk_180 0 9 (dk_at dksX2_add_0 21 rfl rfl)
theorem dX2_add_24 : decode cX2_add 24 = .ok (.iload_n 2, 1) := dk_28 (dk_at dksX2_add_1 0 rfl rfl)
theorem dX2_add_25 : decode cX2_add 25 = .ok (.saload, 1) := dk_53 (dk_at dksX2_add_1 1 rfl rfl)
theorem dX2_add_26 : decode cX2_add 26 = .ok (.iadd, 1) := dk_96 (dk_at dksX2_add_1 2 rfl rfl)
theorem dX2_add_27 : decode cX2_add 27 = .ok (.i2s, 1) := dk_147 (dk_at dksX2_add_1 3 rfl rfl)
theorem dX2_add_28 : decode cX2_add 28 = .ok (.sastore, 1) := dk_86 (dk_at dksX2_add_1 4 rfl rfl)
theorem dX2_add_29 : decode cX2_add 29 = .ok (.iinc 2 1, 3) := dk_132 2 1 (dk_at dksX2_add_1 5 rfl rfl)
theorem dX2_add_32 : decode cX2_add 32 = .ok (.goto (-30), 3) := dk_167 255 226 (dk_at dksX2_add_1 8 rfl rfl)
theorem dX2_add_35 : decode cX2_add 35 = .ok (.return_, 1) := dk_177 (dk_at dksX2_add_1 11 rfl rfl)
theorem q2 : (Jvm.Cond.initialized "Poly") ∈ lw_all := lw_g (lw_at lw_m0 2 rfl) rfl
theorem q11 : (Jvm.Cond.instanceMethod ({ cls := "Poly", name := "setCoeffIndex", desc := "(IS)V" } : Jvm.MethodName)) ∈ lw_all := lw_g (lw_at lw_m0 11 rfl) rfl
theorem q12 : (Jvm.Cond.selects "Poly" ({ cls := "Poly", name := "setCoeffIndex", desc := "(IS)V" } : Jvm.MethodName) ({ cls := "Poly", name := "setCoeffIndex", desc := "(IS)V" } : Jvm.MethodName)) ∈ lw_all := lw_g (lw_at lw_m0 12 rfl) rfl
theorem q13 : (Jvm.Cond.code ({ cls := "Poly", name := "setCoeffIndex", desc := "(IS)V" } : Jvm.MethodName) prog_5_method_3_code (3 : Nat) (Option.none : Option Jvm.ClassFile.FieldType)) ∈ lw_all := lw_g (lw_at lw_m0 13 rfl) rfl
theorem q26 : (Jvm.Cond.instantiable "Poly" (1 : Nat)) ∈ lw_all := lw_g (lw_at lw_m0 26 rfl) rfl
theorem q28 : (Jvm.Cond.instanceMethod ({ cls := "Poly", name := "<init>", desc := "()V" } : Jvm.MethodName)) ∈ lw_all := lw_g (lw_at lw_m0 28 rfl) rfl
theorem q29 : (Jvm.Cond.code ({ cls := "Poly", name := "<init>", desc := "()V" } : Jvm.MethodName) prog_5_method_1_code (1 : Nat) (Option.none : Option Jvm.ClassFile.FieldType)) ∈ lw_all := lw_g (lw_at lw_m0 29 rfl) rfl
theorem q30 : (Jvm.Cond.methodLink "Poly" (1 : Nat) ({ cls := "java/lang/Object", name := "<init>", desc := "()V" } : Jvm.MethodName)) ∈ lw_all := lw_g (lw_at lw_m0 30 rfl) rfl
theorem q33 : (Jvm.Cond.fieldLink "Poly" (9 : Nat) "Poly" "coeffs" "[S") ∈ lw_all := lw_g (lw_at lw_m0 33 rfl) rfl
theorem q34 : (Jvm.Cond.laysFinal "Poly" "Poly" "coeffs" "[S") ∈ lw_all := lw_g (lw_at lw_m0 34 rfl) rfl
theorem q35 : (Jvm.Cond.soleField "Poly" "coeffs") ∈ lw_all := lw_g (lw_at lw_m0 35 rfl) rfl
theorem q36 : (Jvm.Cond.superclass "Poly" "java/lang/Object") ∈ lw_all := lw_g (lw_at lw_m0 36 rfl) rfl
theorem q39 : (Jvm.Cond.instanceMethod ({ cls := "Poly", name := "getCoeffIndex", desc := "(I)S" } : Jvm.MethodName)) ∈ lw_all := lw_g (lw_at lw_m0 39 rfl) rfl
theorem q40 : (Jvm.Cond.selects "Poly" ({ cls := "Poly", name := "getCoeffIndex", desc := "(I)S" } : Jvm.MethodName) ({ cls := "Poly", name := "getCoeffIndex", desc := "(I)S" } : Jvm.MethodName)) ∈ lw_all := lw_g (lw_at lw_m0 40 rfl) rfl
theorem q41 : (Jvm.Cond.code ({ cls := "Poly", name := "getCoeffIndex", desc := "(I)S" } : Jvm.MethodName) prog_5_method_2_code (2 : Nat) (Option.some Jvm.ClassFile.FieldType.short)) ∈ lw_all := lw_g (lw_at lw_m0 41 rfl) rfl
theorem q43 : (Jvm.Cond.instanceMethod ({ cls := "Poly", name := "polyNtt", desc := "()V" } : Jvm.MethodName)) ∈ lw_all := lw_g (lw_at lw_m0 43 rfl) rfl
theorem q44 : (Jvm.Cond.selects "Poly" ({ cls := "Poly", name := "polyNtt", desc := "()V" } : Jvm.MethodName) ({ cls := "Poly", name := "polyNtt", desc := "()V" } : Jvm.MethodName)) ∈ lw_all := lw_g (lw_at lw_m0 44 rfl) rfl
theorem q45 : (Jvm.Cond.code ({ cls := "Poly", name := "polyNtt", desc := "()V" } : Jvm.MethodName) prog_5_method_4_code (1 : Nat) (Option.none : Option Jvm.ClassFile.FieldType)) ∈ lw_all := lw_g (lw_at lw_m0 45 rfl) rfl
theorem q46 : (Jvm.Cond.methodLink "Poly" (15 : Nat) ({ cls := "Ntt", name := "ntt", desc := "([S)V" } : Jvm.MethodName)) ∈ lw_all := lw_g (lw_at lw_m0 46 rfl) rfl
theorem q58 : (Jvm.Cond.methodLink "Poly" (21 : Nat) ({ cls := "Poly", name := "reduce", desc := "()V" } : Jvm.MethodName)) ∈ lw_all := lw_g (lw_at lw_m0 58 rfl) rfl
theorem q59 : (Jvm.Cond.instanceMethod ({ cls := "Poly", name := "reduce", desc := "()V" } : Jvm.MethodName)) ∈ lw_all := lw_g (lw_at lw_m0 59 rfl) rfl
theorem q60 : (Jvm.Cond.selects "Poly" ({ cls := "Poly", name := "reduce", desc := "()V" } : Jvm.MethodName) ({ cls := "Poly", name := "reduce", desc := "()V" } : Jvm.MethodName)) ∈ lw_all := lw_g (lw_at lw_m0 60 rfl) rfl
theorem q61 : (Jvm.Cond.code ({ cls := "Poly", name := "reduce", desc := "()V" } : Jvm.MethodName) prog_5_method_6_code (2 : Nat) (Option.none : Option Jvm.ClassFile.FieldType)) ∈ lw_all := lw_g (lw_at lw_m0 61 rfl) rfl
theorem q62 : (Jvm.Cond.methodLink "Poly" (27 : Nat) ({ cls := "Reduce", name := "barrettReduce", desc := "(S)S" } : Jvm.MethodName)) ∈ lw_all := lw_g (lw_at lw_m0 62 rfl) rfl
theorem q66 : (Jvm.Cond.static ({ cls := "Poly", name := "baseMultMontgomery", desc := "(LPoly;LPoly;LPoly;)V" } : Jvm.MethodName)) ∈ lw_all := lw_g (lw_at lw_m0 66 rfl) rfl
theorem q67 : (Jvm.Cond.code ({ cls := "Poly", name := "baseMultMontgomery", desc := "(LPoly;LPoly;LPoly;)V" } : Jvm.MethodName) prog_5_method_7_code (4 : Nat) (Option.none : Option Jvm.ClassFile.FieldType)) ∈ lw_all := lw_g (lw_at lw_m0 67 rfl) rfl
theorem q68 : (Jvm.Cond.methodLink "Poly" (33 : Nat) ({ cls := "Poly", name := "getCoeffIndex", desc := "(I)S" } : Jvm.MethodName)) ∈ lw_all := lw_g (lw_at lw_m0 68 rfl) rfl
theorem q69 : (Jvm.Cond.fieldLink "Poly" (37 : Nat) "Ntt" "ZETAS" "[S") ∈ lw_all := lw_g (lw_at lw_m0 69 rfl) rfl
theorem q70 : (Jvm.Cond.methodLink "Poly" (40 : Nat) ({ cls := "Ntt", name := "baseMult", desc := "([SISSSSS)V" } : Jvm.MethodName)) ∈ lw_all := lw_g (lw_at lw_m0 70 rfl) rfl
theorem q75 : (Jvm.Cond.instanceMethod ({ cls := "Poly", name := "polyInverseNttToMont", desc := "()V" } : Jvm.MethodName)) ∈ lw_all := lw_g (lw_at lw_m0 75 rfl) rfl
theorem q76 : (Jvm.Cond.selects "Poly" ({ cls := "Poly", name := "polyInverseNttToMont", desc := "()V" } : Jvm.MethodName) ({ cls := "Poly", name := "polyInverseNttToMont", desc := "()V" } : Jvm.MethodName)) ∈ lw_all := lw_g (lw_at lw_m0 76 rfl) rfl
theorem q77 : (Jvm.Cond.code ({ cls := "Poly", name := "polyInverseNttToMont", desc := "()V" } : Jvm.MethodName) prog_5_method_5_code (1 : Nat) (Option.none : Option Jvm.ClassFile.FieldType)) ∈ lw_all := lw_g (lw_at lw_m0 77 rfl) rfl
theorem q78 : (Jvm.Cond.methodLink "Poly" (24 : Nat) ({ cls := "Ntt", name := "invNtt", desc := "([S)V" } : Jvm.MethodName)) ∈ lw_all := lw_g (lw_at lw_m0 78 rfl) rfl
theorem q92 : (Jvm.Cond.instanceMethod ({ cls := "Poly", name := "add", desc := "(LPoly;)V" } : Jvm.MethodName)) ∈ lw_all := lw_g (lw_at lw_m0 92 rfl) rfl
theorem q93 : (Jvm.Cond.selects "Poly" ({ cls := "Poly", name := "add", desc := "(LPoly;)V" } : Jvm.MethodName) ({ cls := "Poly", name := "add", desc := "(LPoly;)V" } : Jvm.MethodName)) ∈ lw_all := lw_g (lw_at lw_m0 93 rfl) rfl
theorem q94 : (Jvm.Cond.code ({ cls := "Poly", name := "add", desc := "(LPoly;)V" } : Jvm.MethodName) prog_5_method_8_code (3 : Nat) (Option.none : Option Jvm.ClassFile.FieldType)) ∈ lw_all := lw_g (lw_at lw_m0 94 rfl) rfl
theorem in_X2 : ∀ w ∈ wsX20, w ∈ lw_all := lw_in wsX20 [34] (by decide +kernel) (by decide +kernel)
end
section
/-! LatticeRing -/
set_option maxRecDepth 100000
def RX1 : String := "LatticeRing"
def TX1 : u_T := fun k => match k with
  | 0 => ("LatticeRing", "file", "[LPoly;", true)
  | _ => ("LatticeRing", "text", "[B", true)
def tyX1 : Nat → FieldType := fun k => match k with
  | 0 => .array (.object "Poly")
  | _ => .array .byte
abbrev wsX10 : List Cond := u_ws RX1 TX1 2
theorem nmX1 : ∀ a, a < 2 → ∀ b, b < 2 → a ≠ b → (TX1 a).2.1 ≠ (TX1 b).2.1 := by decide +kernel
theorem tyX1_ok : ∀ k, k < 2 → parseFieldDescriptor (TX1 k).2.2.1 = some (tyX1 k) := by decide +kernel
abbrev cX1_put : ByteArray := prog_1_method_4_code
def yX1_put : MethodName := ⟨RX1, "put", "(III)V"⟩
def dkwX1_put_1 : List UInt8 := [182, 0, 24, 177]
abbrev dktX1_put_1 : List UInt8 := dkwX1_put_1 ++ []
def dkwX1_put_0 : List UInt8 := [42, 180, 0, 10, 27, 6, 126, 50, 28, 17, 0, 255, 126, 29, 18, 28, 126, 17, 13, 1, 112, 147]
abbrev dktX1_put_0 : List UInt8 := dkwX1_put_0 ++ dktX1_put_1
theorem dksX1_put_0 : cX1_put.data.toList.drop 0 = dktX1_put_0 := by decide +kernel
theorem dksX1_put_1 : cX1_put.data.toList.drop 22 = dktX1_put_1 := dk_seg dksX1_put_0 22 rfl rfl
theorem dX1_put_0 : decode cX1_put 0 = .ok (.aload_n 0, 1) := dk_42 (dk_at dksX1_put_0 0 rfl rfl)
theorem dX1_put_1 : decode cX1_put 1 = .ok (.getfield 10, 3) := dk_180 0 10 (dk_at dksX1_put_0 1 rfl rfl)
theorem dX1_put_4 : decode cX1_put 4 = .ok (.iload_n 1, 1) := dk_27 (dk_at dksX1_put_0 4 rfl rfl)
theorem dX1_put_5 : decode cX1_put 5 = .ok (.iconst 3, 1) := dk_6 (dk_at dksX1_put_0 5 rfl rfl)
theorem dX1_put_6 : decode cX1_put 6 = .ok (.iand, 1) := dk_126 (dk_at dksX1_put_0 6 rfl rfl)
theorem dX1_put_7 : decode cX1_put 7 = .ok (.aaload, 1) := dk_50 (dk_at dksX1_put_0 7 rfl rfl)
theorem dX1_put_8 : decode cX1_put 8 = .ok (.iload_n 2, 1) := dk_28 (dk_at dksX1_put_0 8 rfl rfl)
theorem dX1_put_9 : decode cX1_put 9 = .ok (.sipush 255, 3) := dk_17 0 255 (dk_at dksX1_put_0 9 rfl rfl)
theorem dX1_put_12 : decode cX1_put 12 = .ok (.iand, 1) := dk_126 (dk_at dksX1_put_0 12 rfl rfl)
theorem dX1_put_13 : decode cX1_put 13 = .ok (.iload_n 3, 1) := dk_29 (dk_at dksX1_put_0 13 rfl rfl)
theorem dX1_put_14 : decode cX1_put 14 = .ok (.ldc 28, 2) := dk_18 28 (dk_at dksX1_put_0 14 rfl rfl)
theorem dX1_put_16 : decode cX1_put 16 = .ok (.iand, 1) := dk_126 (dk_at dksX1_put_0 16 rfl rfl)
theorem dX1_put_17 : decode cX1_put 17 = .ok (.sipush 3329, 3) := dk_17 13 1 (dk_at dksX1_put_0 17 rfl rfl)
theorem dX1_put_20 : decode cX1_put 20 = .ok (.irem, 1) := dk_112 (dk_at dksX1_put_0 20 rfl rfl)
theorem dX1_put_21 : decode cX1_put 21 = .ok (.i2s, 1) := dk_147 (dk_at dksX1_put_0 21 rfl rfl)
theorem dX1_put_22 : decode cX1_put 22 = .ok (.invokevirtual 24, 3) := dk_182 0 24 (dk_at dksX1_put_1 0 rfl rfl)
theorem dX1_put_25 : decode cX1_put 25 = .ok (.return_, 1) := dk_177 (dk_at dksX1_put_1 3 rfl rfl)
abbrev cX1_spread : ByteArray := prog_1_method_5_code
def yX1_spread : MethodName := ⟨RX1, "spread", "(III)V"⟩
def dkwX1_spread_1 : List UInt8 := [29, 104, 96, 18, 28, 126, 17, 13, 1, 112, 147, 182, 0, 24, 132, 4, 1, 167, 255, 218, 177]
abbrev dktX1_spread_1 : List UInt8 := dkwX1_spread_1 ++ []
def dkwX1_spread_0 : List UInt8 := [3, 54, 4, 21, 4, 17, 1, 0, 162, 0, 36, 42, 180, 0, 10, 27, 6, 126, 50, 21, 4, 28, 21, 4]
abbrev dktX1_spread_0 : List UInt8 := dkwX1_spread_0 ++ dktX1_spread_1
theorem dksX1_spread_0 : cX1_spread.data.toList.drop 0 = dktX1_spread_0 := by decide +kernel
theorem dksX1_spread_1 : cX1_spread.data.toList.drop 24 = dktX1_spread_1 := dk_seg dksX1_spread_0 24 rfl rfl
theorem dX1_spread_0 : decode cX1_spread 0 = .ok (.iconst 0, 1) := dk_3 (dk_at dksX1_spread_0 0 rfl rfl)
theorem dX1_spread_1 : decode cX1_spread 1 = .ok (.istore 4, 2) := dk_54 4 (dk_at dksX1_spread_0 1 rfl rfl)
theorem dX1_spread_3 : decode cX1_spread 3 = .ok (.iload 4, 2) := dk_21 4 (dk_at dksX1_spread_0 3 rfl rfl)
theorem dX1_spread_5 : decode cX1_spread 5 = .ok (.sipush 256, 3) := dk_17 1 0 (dk_at dksX1_spread_0 5 rfl rfl)
theorem dX1_spread_8 : decode cX1_spread 8 = .ok (.if_icmp .ge 36, 3) := dk_162 0 36 (dk_at dksX1_spread_0 8 rfl rfl)
theorem dX1_spread_11 : decode cX1_spread 11 = .ok (.aload_n 0, 1) := dk_42 (dk_at dksX1_spread_0 11 rfl rfl)
theorem dX1_spread_12 : decode cX1_spread 12 = .ok (.getfield 10, 3) := dk_180 0 10 (dk_at dksX1_spread_0 12 rfl rfl)
theorem dX1_spread_15 : decode cX1_spread 15 = .ok (.iload_n 1, 1) := dk_27 (dk_at dksX1_spread_0 15 rfl rfl)
theorem dX1_spread_16 : decode cX1_spread 16 = .ok (.iconst 3, 1) := dk_6 (dk_at dksX1_spread_0 16 rfl rfl)
theorem dX1_spread_17 : decode cX1_spread 17 = .ok (.iand, 1) := dk_126 (dk_at dksX1_spread_0 17 rfl rfl)
theorem dX1_spread_18 : decode cX1_spread 18 = .ok (.aaload, 1) := dk_50 (dk_at dksX1_spread_0 18 rfl rfl)
theorem dX1_spread_19 : decode cX1_spread 19 = .ok (.iload 4, 2) := dk_21 4 (dk_at dksX1_spread_0 19 rfl rfl)
theorem dX1_spread_21 : decode cX1_spread 21 = .ok (.iload_n 2, 1) := dk_28 (dk_at dksX1_spread_0 21 rfl rfl)
theorem dX1_spread_22 : decode cX1_spread 22 = .ok (.iload 4, 2) := dk_21 4 (dk_at dksX1_spread_0 22 rfl rfl)
theorem dX1_spread_24 : decode cX1_spread 24 = .ok (.iload_n 3, 1) := dk_29 (dk_at dksX1_spread_1 0 rfl rfl)
theorem dX1_spread_25 : decode cX1_spread 25 = .ok (.imul, 1) := dk_104 (dk_at dksX1_spread_1 1 rfl rfl)
theorem dX1_spread_26 : decode cX1_spread 26 = .ok (.iadd, 1) := dk_96 (dk_at dksX1_spread_1 2 rfl rfl)
theorem dX1_spread_27 : decode cX1_spread 27 = .ok (.ldc 28, 2) := dk_18 28 (dk_at dksX1_spread_1 3 rfl rfl)
theorem dX1_spread_29 : decode cX1_spread 29 = .ok (.iand, 1) := dk_126 (dk_at dksX1_spread_1 5 rfl rfl)
theorem dX1_spread_30 : decode cX1_spread 30 = .ok (.sipush 3329, 3) := dk_17 13 1 (dk_at dksX1_spread_1 6 rfl rfl)
theorem dX1_spread_33 : decode cX1_spread 33 = .ok (.irem, 1) := dk_112 (dk_at dksX1_spread_1 9 rfl rfl)
theorem dX1_spread_34 : decode cX1_spread 34 = .ok (.i2s, 1) := dk_147 (dk_at dksX1_spread_1 10 rfl rfl)
theorem dX1_spread_35 : decode cX1_spread 35 = .ok (.invokevirtual 24, 3) := dk_182 0 24 (dk_at dksX1_spread_1 11 rfl rfl)
theorem dX1_spread_38 : decode cX1_spread 38 = .ok (.iinc 4 1, 3) := dk_132 4 1 (dk_at dksX1_spread_1 14 rfl rfl)
theorem dX1_spread_41 : decode cX1_spread 41 = .ok (.goto (-38), 3) := dk_167 255 218 (dk_at dksX1_spread_1 17 rfl rfl)
theorem dX1_spread_44 : decode cX1_spread 44 = .ok (.return_, 1) := dk_177 (dk_at dksX1_spread_1 20 rfl rfl)
abbrev cX1_multiply : ByteArray := prog_1_method_6_code
def yX1_multiply : MethodName := ⟨RX1, "multiply", "(III)V"⟩
def dkwX1_multiply_3 : List UInt8 := [180, 0, 10, 27, 6, 126, 25, 6, 83, 177]
abbrev dktX1_multiply_3 : List UInt8 := dkwX1_multiply_3 ++ []
def dkwX1_multiply_2 : List UInt8 := [25, 4, 25, 5, 184, 0, 36, 25, 6, 182, 0, 40, 25, 6, 182, 0, 43, 25, 6, 184, 0, 46, 42]
abbrev dktX1_multiply_2 : List UInt8 := dkwX1_multiply_2 ++ dktX1_multiply_3
def dkwX1_multiply_1 : List UInt8 := [58, 5, 187, 0, 7, 89, 183, 0, 9, 58, 6, 25, 4, 182, 0, 33, 25, 5, 182, 0, 33, 25, 6]
abbrev dktX1_multiply_1 : List UInt8 := dkwX1_multiply_1 ++ dktX1_multiply_2
def dkwX1_multiply_0 : List UInt8 := [42, 180, 0, 10, 28, 6, 126, 50, 184, 0, 29, 58, 4, 42, 180, 0, 10, 29, 6, 126, 50, 184, 0, 29]
abbrev dktX1_multiply_0 : List UInt8 := dkwX1_multiply_0 ++ dktX1_multiply_1
theorem dksX1_multiply_0 : cX1_multiply.data.toList.drop 0 = dktX1_multiply_0 := by decide +kernel
theorem dksX1_multiply_1 : cX1_multiply.data.toList.drop 24 = dktX1_multiply_1 := dk_seg dksX1_multiply_0 24 rfl rfl
theorem dksX1_multiply_2 : cX1_multiply.data.toList.drop 47 = dktX1_multiply_2 := dk_seg dksX1_multiply_1 23 rfl rfl
theorem dksX1_multiply_3 : cX1_multiply.data.toList.drop 70 = dktX1_multiply_3 := dk_seg dksX1_multiply_2 23 rfl rfl
theorem dX1_multiply_0 : decode cX1_multiply 0 = .ok (.aload_n 0, 1) := dk_42 (dk_at dksX1_multiply_0 0 rfl rfl)
theorem dX1_multiply_1 : decode cX1_multiply 1 = .ok (.getfield 10, 3) := dk_180 0 10 (dk_at dksX1_multiply_0 1 rfl rfl)
theorem dX1_multiply_4 : decode cX1_multiply 4 = .ok (.iload_n 2, 1) := dk_28 (dk_at dksX1_multiply_0 4 rfl rfl)
theorem dX1_multiply_5 : decode cX1_multiply 5 = .ok (.iconst 3, 1) := dk_6 (dk_at dksX1_multiply_0 5 rfl rfl)
theorem dX1_multiply_6 : decode cX1_multiply 6 = .ok (.iand, 1) := dk_126 (dk_at dksX1_multiply_0 6 rfl rfl)
theorem dX1_multiply_7 : decode cX1_multiply 7 = .ok (.aaload, 1) := dk_50 (dk_at dksX1_multiply_0 7 rfl rfl)
theorem dX1_multiply_8 : decode cX1_multiply 8 = .ok (.invokestatic 29, 3) := dk_184 0 29 (dk_at dksX1_multiply_0 8 rfl rfl)
theorem dX1_multiply_11 : decode cX1_multiply 11 = .ok (.astore 4, 2) := dk_58 4 (dk_at dksX1_multiply_0 11 rfl rfl)
theorem dX1_multiply_13 : decode cX1_multiply 13 = .ok (.aload_n 0, 1) := dk_42 (dk_at dksX1_multiply_0 13 rfl rfl)
theorem dX1_multiply_14 : decode cX1_multiply 14 = .ok (.getfield 10, 3) := dk_180 0 10 (dk_at dksX1_multiply_0 14 rfl rfl)
theorem dX1_multiply_17 : decode cX1_multiply 17 = .ok (.iload_n 3, 1) := dk_29 (dk_at dksX1_multiply_0 17 rfl rfl)
theorem dX1_multiply_18 : decode cX1_multiply 18 = .ok (.iconst 3, 1) := dk_6 (dk_at dksX1_multiply_0 18 rfl rfl)
theorem dX1_multiply_19 : decode cX1_multiply 19 = .ok (.iand, 1) := dk_126 (dk_at dksX1_multiply_0 19 rfl rfl)
theorem dX1_multiply_20 : decode cX1_multiply 20 = .ok (.aaload, 1) := dk_50 (dk_at dksX1_multiply_0 20 rfl rfl)
theorem dX1_multiply_21 : decode cX1_multiply 21 = .ok (.invokestatic 29, 3) := dk_184 0 29 (dk_at dksX1_multiply_0 21 rfl rfl)
theorem dX1_multiply_24 : decode cX1_multiply 24 = .ok (.astore 5, 2) := dk_58 5 (dk_at dksX1_multiply_1 0 rfl rfl)
theorem dX1_multiply_26 : decode cX1_multiply 26 = .ok (.new 7, 3) := dk_187 0 7 (dk_at dksX1_multiply_1 2 rfl rfl)
theorem dX1_multiply_29 : decode cX1_multiply 29 = .ok (.dup, 1) := dk_89 (dk_at dksX1_multiply_1 5 rfl rfl)
theorem dX1_multiply_30 : decode cX1_multiply 30 = .ok (.invokespecial 9, 3) := dk_183 0 9 (dk_at dksX1_multiply_1 6 rfl rfl)
theorem dX1_multiply_33 : decode cX1_multiply 33 = .ok (.astore 6, 2) := dk_58 6 (dk_at dksX1_multiply_1 9 rfl rfl)
theorem dX1_multiply_35 : decode cX1_multiply 35 = .ok (.aload 4, 2) := dk_25 4 (dk_at dksX1_multiply_1 11 rfl rfl)
theorem dX1_multiply_37 : decode cX1_multiply 37 = .ok (.invokevirtual 33, 3) := dk_182 0 33 (dk_at dksX1_multiply_1 13 rfl rfl)
theorem dX1_multiply_40 : decode cX1_multiply 40 = .ok (.aload 5, 2) := dk_25 5 (dk_at dksX1_multiply_1 16 rfl rfl)
theorem dX1_multiply_42 : decode cX1_multiply 42 = .ok (.invokevirtual 33, 3) := dk_182 0 33 (dk_at dksX1_multiply_1 18 rfl rfl)
theorem dX1_multiply_45 : decode cX1_multiply 45 = .ok (.aload 6, 2) := dk_25 6 (dk_at dksX1_multiply_1 21 rfl rfl)
theorem dX1_multiply_47 : decode cX1_multiply 47 = .ok (.aload 4, 2) := dk_25 4 (dk_at dksX1_multiply_2 0 rfl rfl)
theorem dX1_multiply_49 : decode cX1_multiply 49 = .ok (.aload 5, 2) := dk_25 5 (dk_at dksX1_multiply_2 2 rfl rfl)
theorem dX1_multiply_51 : decode cX1_multiply 51 = .ok (.invokestatic 36, 3) := dk_184 0 36 (dk_at dksX1_multiply_2 4 rfl rfl)
theorem dX1_multiply_54 : decode cX1_multiply 54 = .ok (.aload 6, 2) := dk_25 6 (dk_at dksX1_multiply_2 7 rfl rfl)
theorem dX1_multiply_56 : decode cX1_multiply 56 = .ok (.invokevirtual 40, 3) := dk_182 0 40 (dk_at dksX1_multiply_2 9 rfl rfl)
theorem dX1_multiply_59 : decode cX1_multiply 59 = .ok (.aload 6, 2) := dk_25 6 (dk_at dksX1_multiply_2 12 rfl rfl)
theorem dX1_multiply_61 : decode cX1_multiply 61 = .ok (.invokevirtual 43, 3) := dk_182 0 43 (dk_at dksX1_multiply_2 14 rfl rfl)
theorem dX1_multiply_64 : decode cX1_multiply 64 = .ok (.aload 6, 2) := dk_25 6 (dk_at dksX1_multiply_2 17 rfl rfl)
theorem dX1_multiply_66 : decode cX1_multiply 66 = .ok (.invokestatic 46, 3) := dk_184 0 46 (dk_at dksX1_multiply_2 19 rfl rfl)
theorem dX1_multiply_69 : decode cX1_multiply 69 = .ok (.aload_n 0, 1) := dk_42 (dk_at dksX1_multiply_2 22 rfl rfl)
theorem dX1_multiply_70 : decode cX1_multiply 70 = .ok (.getfield 10, 3) := dk_180 0 10 (dk_at dksX1_multiply_3 0 rfl rfl)
theorem dX1_multiply_73 : decode cX1_multiply 73 = .ok (.iload_n 1, 1) := dk_27 (dk_at dksX1_multiply_3 3 rfl rfl)
theorem dX1_multiply_74 : decode cX1_multiply 74 = .ok (.iconst 3, 1) := dk_6 (dk_at dksX1_multiply_3 4 rfl rfl)
theorem dX1_multiply_75 : decode cX1_multiply 75 = .ok (.iand, 1) := dk_126 (dk_at dksX1_multiply_3 5 rfl rfl)
theorem dX1_multiply_76 : decode cX1_multiply 76 = .ok (.aload 6, 2) := dk_25 6 (dk_at dksX1_multiply_3 6 rfl rfl)
theorem dX1_multiply_78 : decode cX1_multiply 78 = .ok (.aastore, 1) := dk_83 (dk_at dksX1_multiply_3 8 rfl rfl)
theorem dX1_multiply_79 : decode cX1_multiply 79 = .ok (.return_, 1) := dk_177 (dk_at dksX1_multiply_3 9 rfl rfl)
abbrev cX1_copy : ByteArray := prog_1_method_3_code
def yX1_copy : MethodName := ⟨RX1, "copy", "(LPoly;)LPoly;"⟩
def dkwX1_copy_1 : List UInt8 := [182, 0, 24, 132, 2, 1, 167, 255, 236, 43, 176]
abbrev dktX1_copy_1 : List UInt8 := dkwX1_copy_1 ++ []
def dkwX1_copy_0 : List UInt8 := [187, 0, 7, 89, 183, 0, 9, 76, 3, 61, 28, 17, 1, 0, 162, 0, 19, 43, 28, 42, 28, 182, 0, 20]
abbrev dktX1_copy_0 : List UInt8 := dkwX1_copy_0 ++ dktX1_copy_1
theorem dksX1_copy_0 : cX1_copy.data.toList.drop 0 = dktX1_copy_0 := by decide +kernel
theorem dksX1_copy_1 : cX1_copy.data.toList.drop 24 = dktX1_copy_1 := dk_seg dksX1_copy_0 24 rfl rfl
theorem dX1_copy_0 : decode cX1_copy 0 = .ok (.new 7, 3) := dk_187 0 7 (dk_at dksX1_copy_0 0 rfl rfl)
theorem dX1_copy_3 : decode cX1_copy 3 = .ok (.dup, 1) := dk_89 (dk_at dksX1_copy_0 3 rfl rfl)
theorem dX1_copy_4 : decode cX1_copy 4 = .ok (.invokespecial 9, 3) := dk_183 0 9 (dk_at dksX1_copy_0 4 rfl rfl)
theorem dX1_copy_7 : decode cX1_copy 7 = .ok (.astore_n 1, 1) := dk_76 (dk_at dksX1_copy_0 7 rfl rfl)
theorem dX1_copy_8 : decode cX1_copy 8 = .ok (.iconst 0, 1) := dk_3 (dk_at dksX1_copy_0 8 rfl rfl)
theorem dX1_copy_9 : decode cX1_copy 9 = .ok (.istore_n 2, 1) := dk_61 (dk_at dksX1_copy_0 9 rfl rfl)
theorem dX1_copy_10 : decode cX1_copy 10 = .ok (.iload_n 2, 1) := dk_28 (dk_at dksX1_copy_0 10 rfl rfl)
theorem dX1_copy_11 : decode cX1_copy 11 = .ok (.sipush 256, 3) := dk_17 1 0 (dk_at dksX1_copy_0 11 rfl rfl)
theorem dX1_copy_14 : decode cX1_copy 14 = .ok (.if_icmp .ge 19, 3) := dk_162 0 19 (dk_at dksX1_copy_0 14 rfl rfl)
theorem dX1_copy_17 : decode cX1_copy 17 = .ok (.aload_n 1, 1) := dk_43 (dk_at dksX1_copy_0 17 rfl rfl)
theorem dX1_copy_18 : decode cX1_copy 18 = .ok (.iload_n 2, 1) := dk_28 (dk_at dksX1_copy_0 18 rfl rfl)
theorem dX1_copy_19 : decode cX1_copy 19 = .ok (.aload_n 0, 1) := dk_42 (dk_at dksX1_copy_0 19 rfl rfl)
theorem dX1_copy_20 : decode cX1_copy 20 = .ok (.iload_n 2, 1) := dk_28 (dk_at dksX1_copy_0 20 rfl rfl)
theorem dX1_copy_21 : decode cX1_copy 21 = .ok (.invokevirtual 20, 3) := dk_182 0 20 (dk_at dksX1_copy_0 21 rfl rfl)
theorem dX1_copy_24 : decode cX1_copy 24 = .ok (.invokevirtual 24, 3) := dk_182 0 24 (dk_at dksX1_copy_1 0 rfl rfl)
theorem dX1_copy_27 : decode cX1_copy 27 = .ok (.iinc 2 1, 3) := dk_132 2 1 (dk_at dksX1_copy_1 3 rfl rfl)
theorem dX1_copy_30 : decode cX1_copy 30 = .ok (.goto (-20), 3) := dk_167 255 236 (dk_at dksX1_copy_1 6 rfl rfl)
theorem dX1_copy_33 : decode cX1_copy 33 = .ok (.aload_n 1, 1) := dk_43 (dk_at dksX1_copy_1 9 rfl rfl)
theorem dX1_copy_34 : decode cX1_copy 34 = .ok (.areturn, 1) := dk_176 (dk_at dksX1_copy_1 10 rfl rfl)
abbrev cX1_fair : ByteArray := prog_1_method_2_code
def yX1_fair : MethodName := ⟨RX1, "fair", "(LPoly;)V"⟩
def dkwX1_fair_1 : List UInt8 := [156, 0, 11, 28, 17, 13, 1, 96, 167, 0, 4, 28, 147, 182, 0, 24, 132, 1, 1, 167, 255, 217, 177]
abbrev dktX1_fair_1 : List UInt8 := dkwX1_fair_1 ++ []
def dkwX1_fair_0 : List UInt8 := [3, 60, 27, 17, 1, 0, 162, 0, 38, 42, 27, 182, 0, 20, 17, 13, 1, 112, 61, 42, 27, 28]
abbrev dktX1_fair_0 : List UInt8 := dkwX1_fair_0 ++ dktX1_fair_1
theorem dksX1_fair_0 : cX1_fair.data.toList.drop 0 = dktX1_fair_0 := by decide +kernel
theorem dksX1_fair_1 : cX1_fair.data.toList.drop 22 = dktX1_fair_1 := dk_seg dksX1_fair_0 22 rfl rfl
theorem dX1_fair_0 : decode cX1_fair 0 = .ok (.iconst 0, 1) := dk_3 (dk_at dksX1_fair_0 0 rfl rfl)
theorem dX1_fair_1 : decode cX1_fair 1 = .ok (.istore_n 1, 1) := dk_60 (dk_at dksX1_fair_0 1 rfl rfl)
theorem dX1_fair_2 : decode cX1_fair 2 = .ok (.iload_n 1, 1) := dk_27 (dk_at dksX1_fair_0 2 rfl rfl)
theorem dX1_fair_3 : decode cX1_fair 3 = .ok (.sipush 256, 3) := dk_17 1 0 (dk_at dksX1_fair_0 3 rfl rfl)
theorem dX1_fair_6 : decode cX1_fair 6 = .ok (.if_icmp .ge 38, 3) := dk_162 0 38 (dk_at dksX1_fair_0 6 rfl rfl)
theorem dX1_fair_9 : decode cX1_fair 9 = .ok (.aload_n 0, 1) := dk_42 (dk_at dksX1_fair_0 9 rfl rfl)
theorem dX1_fair_10 : decode cX1_fair 10 = .ok (.iload_n 1, 1) := dk_27 (dk_at dksX1_fair_0 10 rfl rfl)
theorem dX1_fair_11 : decode cX1_fair 11 = .ok (.invokevirtual 20, 3) := dk_182 0 20 (dk_at dksX1_fair_0 11 rfl rfl)
theorem dX1_fair_14 : decode cX1_fair 14 = .ok (.sipush 3329, 3) := dk_17 13 1 (dk_at dksX1_fair_0 14 rfl rfl)
theorem dX1_fair_17 : decode cX1_fair 17 = .ok (.irem, 1) := dk_112 (dk_at dksX1_fair_0 17 rfl rfl)
theorem dX1_fair_18 : decode cX1_fair 18 = .ok (.istore_n 2, 1) := dk_61 (dk_at dksX1_fair_0 18 rfl rfl)
theorem dX1_fair_19 : decode cX1_fair 19 = .ok (.aload_n 0, 1) := dk_42 (dk_at dksX1_fair_0 19 rfl rfl)
theorem dX1_fair_20 : decode cX1_fair 20 = .ok (.iload_n 1, 1) := dk_27 (dk_at dksX1_fair_0 20 rfl rfl)
theorem dX1_fair_21 : decode cX1_fair 21 = .ok (.iload_n 2, 1) := dk_28 (dk_at dksX1_fair_0 21 rfl rfl)
theorem dX1_fair_22 : decode cX1_fair 22 = .ok (.ifCond .ge 11, 3) := dk_156 0 11 (dk_at dksX1_fair_1 0 rfl rfl)
theorem dX1_fair_25 : decode cX1_fair 25 = .ok (.iload_n 2, 1) := dk_28 (dk_at dksX1_fair_1 3 rfl rfl)
theorem dX1_fair_26 : decode cX1_fair 26 = .ok (.sipush 3329, 3) := dk_17 13 1 (dk_at dksX1_fair_1 4 rfl rfl)
theorem dX1_fair_29 : decode cX1_fair 29 = .ok (.iadd, 1) := dk_96 (dk_at dksX1_fair_1 7 rfl rfl)
theorem dX1_fair_30 : decode cX1_fair 30 = .ok (.goto 4, 3) := dk_167 0 4 (dk_at dksX1_fair_1 8 rfl rfl)
theorem dX1_fair_33 : decode cX1_fair 33 = .ok (.iload_n 2, 1) := dk_28 (dk_at dksX1_fair_1 11 rfl rfl)
theorem dX1_fair_34 : decode cX1_fair 34 = .ok (.i2s, 1) := dk_147 (dk_at dksX1_fair_1 12 rfl rfl)
theorem dX1_fair_35 : decode cX1_fair 35 = .ok (.invokevirtual 24, 3) := dk_182 0 24 (dk_at dksX1_fair_1 13 rfl rfl)
theorem dX1_fair_38 : decode cX1_fair 38 = .ok (.iinc 1 1, 3) := dk_132 1 1 (dk_at dksX1_fair_1 16 rfl rfl)
theorem dX1_fair_41 : decode cX1_fair 41 = .ok (.goto (-39), 3) := dk_167 255 217 (dk_at dksX1_fair_1 19 rfl rfl)
theorem dX1_fair_44 : decode cX1_fair 44 = .ok (.return_, 1) := dk_177 (dk_at dksX1_fair_1 22 rfl rfl)
abbrev cX1_add : ByteArray := prog_1_method_7_code
def yX1_add : MethodName := ⟨RX1, "add", "(II)V"⟩
def dkwX1_add_1 : List UInt8 := [45, 182, 0, 40, 45, 184, 0, 46, 42, 180, 0, 10, 27, 6, 126, 45, 83, 177]
abbrev dktX1_add_1 : List UInt8 := dkwX1_add_1 ++ []
def dkwX1_add_0 : List UInt8 := [42, 180, 0, 10, 27, 6, 126, 50, 184, 0, 29, 78, 45, 42, 180, 0, 10, 28, 6, 126, 50, 182, 0, 50]
abbrev dktX1_add_0 : List UInt8 := dkwX1_add_0 ++ dktX1_add_1
theorem dksX1_add_0 : cX1_add.data.toList.drop 0 = dktX1_add_0 := by decide +kernel
theorem dksX1_add_1 : cX1_add.data.toList.drop 24 = dktX1_add_1 := dk_seg dksX1_add_0 24 rfl rfl
theorem dX1_add_0 : decode cX1_add 0 = .ok (.aload_n 0, 1) := dk_42 (dk_at dksX1_add_0 0 rfl rfl)
theorem dX1_add_1 : decode cX1_add 1 = .ok (.getfield 10, 3) := dk_180 0 10 (dk_at dksX1_add_0 1 rfl rfl)
theorem dX1_add_4 : decode cX1_add 4 = .ok (.iload_n 1, 1) := dk_27 (dk_at dksX1_add_0 4 rfl rfl)
theorem dX1_add_5 : decode cX1_add 5 = .ok (.iconst 3, 1) := dk_6 (dk_at dksX1_add_0 5 rfl rfl)
theorem dX1_add_6 : decode cX1_add 6 = .ok (.iand, 1) := dk_126 (dk_at dksX1_add_0 6 rfl rfl)
theorem dX1_add_7 : decode cX1_add 7 = .ok (.aaload, 1) := dk_50 (dk_at dksX1_add_0 7 rfl rfl)
theorem dX1_add_8 : decode cX1_add 8 = .ok (.invokestatic 29, 3) := dk_184 0 29 (dk_at dksX1_add_0 8 rfl rfl)
theorem dX1_add_11 : decode cX1_add 11 = .ok (.astore_n 3, 1) := dk_78 (dk_at dksX1_add_0 11 rfl rfl)
theorem dX1_add_12 : decode cX1_add 12 = .ok (.aload_n 3, 1) := dk_45 (dk_at dksX1_add_0 12 rfl rfl)
theorem dX1_add_13 : decode cX1_add 13 = .ok (.aload_n 0, 1) := dk_42 (dk_at dksX1_add_0 13 rfl rfl)
theorem dX1_add_14 : decode cX1_add 14 = .ok (.getfield 10, 3) := dk_180 0 10 (dk_at dksX1_add_0 14 rfl rfl)
theorem dX1_add_17 : decode cX1_add 17 = .ok (.iload_n 2, 1) := dk_28 (dk_at dksX1_add_0 17 rfl rfl)
theorem dX1_add_18 : decode cX1_add 18 = .ok (.iconst 3, 1) := dk_6 (dk_at dksX1_add_0 18 rfl rfl)
theorem dX1_add_19 : decode cX1_add 19 = .ok (.iand, 1) := dk_126 (dk_at dksX1_add_0 19 rfl rfl)
theorem dX1_add_20 : decode cX1_add 20 = .ok (.aaload, 1) := dk_50 (dk_at dksX1_add_0 20 rfl rfl)
theorem dX1_add_21 : decode cX1_add 21 = .ok (.invokevirtual 50, 3) := dk_182 0 50 (dk_at dksX1_add_0 21 rfl rfl)
theorem dX1_add_24 : decode cX1_add 24 = .ok (.aload_n 3, 1) := dk_45 (dk_at dksX1_add_1 0 rfl rfl)
theorem dX1_add_25 : decode cX1_add 25 = .ok (.invokevirtual 40, 3) := dk_182 0 40 (dk_at dksX1_add_1 1 rfl rfl)
theorem dX1_add_28 : decode cX1_add 28 = .ok (.aload_n 3, 1) := dk_45 (dk_at dksX1_add_1 4 rfl rfl)
theorem dX1_add_29 : decode cX1_add 29 = .ok (.invokestatic 46, 3) := dk_184 0 46 (dk_at dksX1_add_1 5 rfl rfl)
theorem dX1_add_32 : decode cX1_add 32 = .ok (.aload_n 0, 1) := dk_42 (dk_at dksX1_add_1 8 rfl rfl)
theorem dX1_add_33 : decode cX1_add 33 = .ok (.getfield 10, 3) := dk_180 0 10 (dk_at dksX1_add_1 9 rfl rfl)
theorem dX1_add_36 : decode cX1_add 36 = .ok (.iload_n 1, 1) := dk_27 (dk_at dksX1_add_1 12 rfl rfl)
theorem dX1_add_37 : decode cX1_add 37 = .ok (.iconst 3, 1) := dk_6 (dk_at dksX1_add_1 13 rfl rfl)
theorem dX1_add_38 : decode cX1_add 38 = .ok (.iand, 1) := dk_126 (dk_at dksX1_add_1 14 rfl rfl)
theorem dX1_add_39 : decode cX1_add 39 = .ok (.aload_n 3, 1) := dk_45 (dk_at dksX1_add_1 15 rfl rfl)
theorem dX1_add_40 : decode cX1_add 40 = .ok (.aastore, 1) := dk_83 (dk_at dksX1_add_1 16 rfl rfl)
theorem dX1_add_41 : decode cX1_add 41 = .ok (.return_, 1) := dk_177 (dk_at dksX1_add_1 17 rfl rfl)
abbrev cX1_coefficient : ByteArray := prog_1_method_8_code
def yX1_coefficient : MethodName := ⟨RX1, "coefficient", "(II)I"⟩
def dkwX1_coefficient_0 : List UInt8 := [42, 180, 0, 10, 27, 6, 126, 50, 28, 17, 0, 255, 126, 182, 0, 20, 172]
abbrev dktX1_coefficient_0 : List UInt8 := dkwX1_coefficient_0 ++ []
theorem dksX1_coefficient_0 : cX1_coefficient.data.toList.drop 0 = dktX1_coefficient_0 := by decide +kernel
theorem dX1_coefficient_0 : decode cX1_coefficient 0 = .ok (.aload_n 0, 1) := dk_42 (dk_at dksX1_coefficient_0 0 rfl rfl)
theorem dX1_coefficient_1 : decode cX1_coefficient 1 = .ok (.getfield 10, 3) := dk_180 0 10 (dk_at dksX1_coefficient_0 1 rfl rfl)
theorem dX1_coefficient_4 : decode cX1_coefficient 4 = .ok (.iload_n 1, 1) := dk_27 (dk_at dksX1_coefficient_0 4 rfl rfl)
theorem dX1_coefficient_5 : decode cX1_coefficient 5 = .ok (.iconst 3, 1) := dk_6 (dk_at dksX1_coefficient_0 5 rfl rfl)
theorem dX1_coefficient_6 : decode cX1_coefficient 6 = .ok (.iand, 1) := dk_126 (dk_at dksX1_coefficient_0 6 rfl rfl)
theorem dX1_coefficient_7 : decode cX1_coefficient 7 = .ok (.aaload, 1) := dk_50 (dk_at dksX1_coefficient_0 7 rfl rfl)
theorem dX1_coefficient_8 : decode cX1_coefficient 8 = .ok (.iload_n 2, 1) := dk_28 (dk_at dksX1_coefficient_0 8 rfl rfl)
theorem dX1_coefficient_9 : decode cX1_coefficient 9 = .ok (.sipush 255, 3) := dk_17 0 255 (dk_at dksX1_coefficient_0 9 rfl rfl)
theorem dX1_coefficient_12 : decode cX1_coefficient 12 = .ok (.iand, 1) := dk_126 (dk_at dksX1_coefficient_0 12 rfl rfl)
theorem dX1_coefficient_13 : decode cX1_coefficient 13 = .ok (.invokevirtual 20, 3) := dk_182 0 20 (dk_at dksX1_coefficient_0 13 rfl rfl)
theorem dX1_coefficient_16 : decode cX1_coefficient 16 = .ok (.ireturn, 1) := dk_172 (dk_at dksX1_coefficient_0 16 rfl rfl)
abbrev cX1_init : ByteArray := prog_1_method_1_code
def yX1_init : MethodName := ⟨RX1, "<init>", "()V"⟩
def dkwX1_init_2 : List UInt8 := [83, 181, 0, 10, 42, 17, 1, 128, 188, 8, 181, 0, 16, 177]
abbrev dktX1_init_2 : List UInt8 := dkwX1_init_2 ++ []
def dkwX1_init_1 : List UInt8 := [89, 183, 0, 9, 83, 89, 5, 187, 0, 7, 89, 183, 0, 9, 83, 89, 6, 187, 0, 7, 89, 183, 0, 9]
abbrev dktX1_init_1 : List UInt8 := dkwX1_init_1 ++ dktX1_init_2
def dkwX1_init_0 : List UInt8 := [42, 183, 0, 1, 42, 7, 189, 0, 7, 89, 3, 187, 0, 7, 89, 183, 0, 9, 83, 89, 4, 187, 0, 7]
abbrev dktX1_init_0 : List UInt8 := dkwX1_init_0 ++ dktX1_init_1
theorem dksX1_init_0 : cX1_init.data.toList.drop 0 = dktX1_init_0 := by decide +kernel
theorem dksX1_init_1 : cX1_init.data.toList.drop 24 = dktX1_init_1 := dk_seg dksX1_init_0 24 rfl rfl
theorem dksX1_init_2 : cX1_init.data.toList.drop 48 = dktX1_init_2 := dk_seg dksX1_init_1 24 rfl rfl
theorem dX1_init_0 : decode cX1_init 0 = .ok (.aload_n 0, 1) := dk_42 (dk_at dksX1_init_0 0 rfl rfl)
theorem dX1_init_1 : decode cX1_init 1 = .ok (.invokespecial 1, 3) := dk_183 0 1 (dk_at dksX1_init_0 1 rfl rfl)
theorem dX1_init_4 : decode cX1_init 4 = .ok (.aload_n 0, 1) := dk_42 (dk_at dksX1_init_0 4 rfl rfl)
theorem dX1_init_5 : decode cX1_init 5 = .ok (.iconst 4, 1) := dk_7 (dk_at dksX1_init_0 5 rfl rfl)
theorem dX1_init_6 : decode cX1_init 6 = .ok (.anewarray 7, 3) := dk_189 0 7 (dk_at dksX1_init_0 6 rfl rfl)
theorem dX1_init_9 : decode cX1_init 9 = .ok (.dup, 1) := dk_89 (dk_at dksX1_init_0 9 rfl rfl)
theorem dX1_init_10 : decode cX1_init 10 = .ok (.iconst 0, 1) := dk_3 (dk_at dksX1_init_0 10 rfl rfl)
theorem dX1_init_11 : decode cX1_init 11 = .ok (.new 7, 3) := dk_187 0 7 (dk_at dksX1_init_0 11 rfl rfl)
theorem dX1_init_14 : decode cX1_init 14 = .ok (.dup, 1) := dk_89 (dk_at dksX1_init_0 14 rfl rfl)
theorem dX1_init_15 : decode cX1_init 15 = .ok (.invokespecial 9, 3) := dk_183 0 9 (dk_at dksX1_init_0 15 rfl rfl)
theorem dX1_init_18 : decode cX1_init 18 = .ok (.aastore, 1) := dk_83 (dk_at dksX1_init_0 18 rfl rfl)
theorem dX1_init_19 : decode cX1_init 19 = .ok (.dup, 1) := dk_89 (dk_at dksX1_init_0 19 rfl rfl)
theorem dX1_init_20 : decode cX1_init 20 = .ok (.iconst 1, 1) := dk_4 (dk_at dksX1_init_0 20 rfl rfl)
theorem dX1_init_21 : decode cX1_init 21 = .ok (.new 7, 3) := dk_187 0 7 (dk_at dksX1_init_0 21 rfl rfl)
theorem dX1_init_24 : decode cX1_init 24 = .ok (.dup, 1) := dk_89 (dk_at dksX1_init_1 0 rfl rfl)
theorem dX1_init_25 : decode cX1_init 25 = .ok (.invokespecial 9, 3) := dk_183 0 9 (dk_at dksX1_init_1 1 rfl rfl)
theorem dX1_init_28 : decode cX1_init 28 = .ok (.aastore, 1) := dk_83 (dk_at dksX1_init_1 4 rfl rfl)
theorem dX1_init_29 : decode cX1_init 29 = .ok (.dup, 1) := dk_89 (dk_at dksX1_init_1 5 rfl rfl)
theorem dX1_init_30 : decode cX1_init 30 = .ok (.iconst 2, 1) := dk_5 (dk_at dksX1_init_1 6 rfl rfl)
theorem dX1_init_31 : decode cX1_init 31 = .ok (.new 7, 3) := dk_187 0 7 (dk_at dksX1_init_1 7 rfl rfl)
theorem dX1_init_34 : decode cX1_init 34 = .ok (.dup, 1) := dk_89 (dk_at dksX1_init_1 10 rfl rfl)
theorem dX1_init_35 : decode cX1_init 35 = .ok (.invokespecial 9, 3) := dk_183 0 9 (dk_at dksX1_init_1 11 rfl rfl)
theorem dX1_init_38 : decode cX1_init 38 = .ok (.aastore, 1) := dk_83 (dk_at dksX1_init_1 14 rfl rfl)
theorem dX1_init_39 : decode cX1_init 39 = .ok (.dup, 1) := dk_89 (dk_at dksX1_init_1 15 rfl rfl)
theorem dX1_init_40 : decode cX1_init 40 = .ok (.iconst 3, 1) := dk_6 (dk_at dksX1_init_1 16 rfl rfl)
theorem dX1_init_41 : decode cX1_init 41 = .ok (.new 7, 3) := dk_187 0 7 (dk_at dksX1_init_1 17 rfl rfl)
theorem dX1_init_44 : decode cX1_init 44 = .ok (.dup, 1) := dk_89 (dk_at dksX1_init_1 20 rfl rfl)
theorem dX1_init_45 : decode cX1_init 45 = .ok (.invokespecial 9, 3) := dk_183 0 9 (dk_at dksX1_init_1 21 rfl rfl)
theorem dX1_init_48 : decode cX1_init 48 = .ok (.aastore, 1) := dk_83 (dk_at dksX1_init_2 0 rfl rfl)
theorem dX1_init_49 : decode cX1_init 49 = .ok (.putfield 10, 3) := dk_181 0 10 (dk_at dksX1_init_2 1 rfl rfl)
theorem dX1_init_52 : decode cX1_init 52 = .ok (.aload_n 0, 1) := dk_42 (dk_at dksX1_init_2 4 rfl rfl)
theorem dX1_init_53 : decode cX1_init 53 = .ok (.sipush 384, 3) := dk_17 1 128 (dk_at dksX1_init_2 5 rfl rfl)
theorem dX1_init_56 : decode cX1_init 56 = .ok (.newarray .byte, 2) := dk_188_8 (dk_at dksX1_init_2 8 rfl rfl)
theorem dX1_init_58 : decode cX1_init 58 = .ok (.putfield 16, 3) := dk_181 0 16 (dk_at dksX1_init_2 10 rfl rfl)
theorem dX1_init_61 : decode cX1_init 61 = .ok (.return_, 1) := dk_177 (dk_at dksX1_init_2 13 rfl rfl)
theorem q1 : (Jvm.Cond.initialized "LatticeRing") ∈ lw_all := lw_g (lw_at lw_m0 1 rfl) rfl
theorem q6 : (Jvm.Cond.instanceMethod ({ cls := "LatticeRing", name := "put", desc := "(III)V" } : Jvm.MethodName)) ∈ lw_all := lw_g (lw_at lw_m0 6 rfl) rfl
theorem q7 : (Jvm.Cond.selects "LatticeRing" ({ cls := "LatticeRing", name := "put", desc := "(III)V" } : Jvm.MethodName) ({ cls := "LatticeRing", name := "put", desc := "(III)V" } : Jvm.MethodName)) ∈ lw_all := lw_g (lw_at lw_m0 7 rfl) rfl
theorem q8 : (Jvm.Cond.code ({ cls := "LatticeRing", name := "put", desc := "(III)V" } : Jvm.MethodName) prog_1_method_4_code (4 : Nat) (Option.none : Option Jvm.ClassFile.FieldType)) ∈ lw_all := lw_g (lw_at lw_m0 8 rfl) rfl
theorem q9 : (Jvm.Cond.constant "LatticeRing" (28 : Nat) (2147483647 : Int32)) ∈ lw_all := lw_g (lw_at lw_m0 9 rfl) rfl
theorem q10 : (Jvm.Cond.methodLink "LatticeRing" (24 : Nat) ({ cls := "Poly", name := "setCoeffIndex", desc := "(IS)V" } : Jvm.MethodName)) ∈ lw_all := lw_g (lw_at lw_m0 10 rfl) rfl
theorem q15 : (Jvm.Cond.instanceMethod ({ cls := "LatticeRing", name := "spread", desc := "(III)V" } : Jvm.MethodName)) ∈ lw_all := lw_g (lw_at lw_m0 15 rfl) rfl
theorem q16 : (Jvm.Cond.selects "LatticeRing" ({ cls := "LatticeRing", name := "spread", desc := "(III)V" } : Jvm.MethodName) ({ cls := "LatticeRing", name := "spread", desc := "(III)V" } : Jvm.MethodName)) ∈ lw_all := lw_g (lw_at lw_m0 16 rfl) rfl
theorem q17 : (Jvm.Cond.code ({ cls := "LatticeRing", name := "spread", desc := "(III)V" } : Jvm.MethodName) prog_1_method_5_code (5 : Nat) (Option.none : Option Jvm.ClassFile.FieldType)) ∈ lw_all := lw_g (lw_at lw_m0 17 rfl) rfl
theorem q19 : (Jvm.Cond.instanceMethod ({ cls := "LatticeRing", name := "multiply", desc := "(III)V" } : Jvm.MethodName)) ∈ lw_all := lw_g (lw_at lw_m0 19 rfl) rfl
theorem q20 : (Jvm.Cond.selects "LatticeRing" ({ cls := "LatticeRing", name := "multiply", desc := "(III)V" } : Jvm.MethodName) ({ cls := "LatticeRing", name := "multiply", desc := "(III)V" } : Jvm.MethodName)) ∈ lw_all := lw_g (lw_at lw_m0 20 rfl) rfl
theorem q21 : (Jvm.Cond.code ({ cls := "LatticeRing", name := "multiply", desc := "(III)V" } : Jvm.MethodName) prog_1_method_6_code (7 : Nat) (Option.none : Option Jvm.ClassFile.FieldType)) ∈ lw_all := lw_g (lw_at lw_m0 21 rfl) rfl
theorem q22 : (Jvm.Cond.methodLink "LatticeRing" (29 : Nat) ({ cls := "LatticeRing", name := "copy", desc := "(LPoly;)LPoly;" } : Jvm.MethodName)) ∈ lw_all := lw_g (lw_at lw_m0 22 rfl) rfl
theorem q23 : (Jvm.Cond.static ({ cls := "LatticeRing", name := "copy", desc := "(LPoly;)LPoly;" } : Jvm.MethodName)) ∈ lw_all := lw_g (lw_at lw_m0 23 rfl) rfl
theorem q24 : (Jvm.Cond.code ({ cls := "LatticeRing", name := "copy", desc := "(LPoly;)LPoly;" } : Jvm.MethodName) prog_1_method_3_code (3 : Nat) (Option.some (Jvm.ClassFile.FieldType.object "Poly"))) ∈ lw_all := lw_g (lw_at lw_m0 24 rfl) rfl
theorem q25 : (Jvm.Cond.classLink "LatticeRing" (7 : Nat) "Poly") ∈ lw_all := lw_g (lw_at lw_m0 25 rfl) rfl
theorem q27 : (Jvm.Cond.methodLink "LatticeRing" (9 : Nat) ({ cls := "Poly", name := "<init>", desc := "()V" } : Jvm.MethodName)) ∈ lw_all := lw_g (lw_at lw_m0 27 rfl) rfl
theorem q38 : (Jvm.Cond.methodLink "LatticeRing" (20 : Nat) ({ cls := "Poly", name := "getCoeffIndex", desc := "(I)S" } : Jvm.MethodName)) ∈ lw_all := lw_g (lw_at lw_m0 38 rfl) rfl
theorem q42 : (Jvm.Cond.methodLink "LatticeRing" (33 : Nat) ({ cls := "Poly", name := "polyNtt", desc := "()V" } : Jvm.MethodName)) ∈ lw_all := lw_g (lw_at lw_m0 42 rfl) rfl
theorem q65 : (Jvm.Cond.methodLink "LatticeRing" (36 : Nat) ({ cls := "Poly", name := "baseMultMontgomery", desc := "(LPoly;LPoly;LPoly;)V" } : Jvm.MethodName)) ∈ lw_all := lw_g (lw_at lw_m0 65 rfl) rfl
theorem q73 : (Jvm.Cond.methodLink "LatticeRing" (40 : Nat) ({ cls := "Poly", name := "reduce", desc := "()V" } : Jvm.MethodName)) ∈ lw_all := lw_g (lw_at lw_m0 73 rfl) rfl
theorem q74 : (Jvm.Cond.methodLink "LatticeRing" (43 : Nat) ({ cls := "Poly", name := "polyInverseNttToMont", desc := "()V" } : Jvm.MethodName)) ∈ lw_all := lw_g (lw_at lw_m0 74 rfl) rfl
theorem q84 : (Jvm.Cond.methodLink "LatticeRing" (46 : Nat) ({ cls := "LatticeRing", name := "fair", desc := "(LPoly;)V" } : Jvm.MethodName)) ∈ lw_all := lw_g (lw_at lw_m0 84 rfl) rfl
theorem q85 : (Jvm.Cond.static ({ cls := "LatticeRing", name := "fair", desc := "(LPoly;)V" } : Jvm.MethodName)) ∈ lw_all := lw_g (lw_at lw_m0 85 rfl) rfl
theorem q86 : (Jvm.Cond.code ({ cls := "LatticeRing", name := "fair", desc := "(LPoly;)V" } : Jvm.MethodName) prog_1_method_2_code (3 : Nat) (Option.none : Option Jvm.ClassFile.FieldType)) ∈ lw_all := lw_g (lw_at lw_m0 86 rfl) rfl
theorem q88 : (Jvm.Cond.instanceMethod ({ cls := "LatticeRing", name := "add", desc := "(II)V" } : Jvm.MethodName)) ∈ lw_all := lw_g (lw_at lw_m0 88 rfl) rfl
theorem q89 : (Jvm.Cond.selects "LatticeRing" ({ cls := "LatticeRing", name := "add", desc := "(II)V" } : Jvm.MethodName) ({ cls := "LatticeRing", name := "add", desc := "(II)V" } : Jvm.MethodName)) ∈ lw_all := lw_g (lw_at lw_m0 89 rfl) rfl
theorem q90 : (Jvm.Cond.code ({ cls := "LatticeRing", name := "add", desc := "(II)V" } : Jvm.MethodName) prog_1_method_7_code (4 : Nat) (Option.none : Option Jvm.ClassFile.FieldType)) ∈ lw_all := lw_g (lw_at lw_m0 90 rfl) rfl
theorem q91 : (Jvm.Cond.methodLink "LatticeRing" (50 : Nat) ({ cls := "Poly", name := "add", desc := "(LPoly;)V" } : Jvm.MethodName)) ∈ lw_all := lw_g (lw_at lw_m0 91 rfl) rfl
theorem q96 : (Jvm.Cond.instanceMethod ({ cls := "LatticeRing", name := "coefficient", desc := "(II)I" } : Jvm.MethodName)) ∈ lw_all := lw_g (lw_at lw_m0 96 rfl) rfl
theorem q97 : (Jvm.Cond.selects "LatticeRing" ({ cls := "LatticeRing", name := "coefficient", desc := "(II)I" } : Jvm.MethodName) ({ cls := "LatticeRing", name := "coefficient", desc := "(II)I" } : Jvm.MethodName)) ∈ lw_all := lw_g (lw_at lw_m0 97 rfl) rfl
theorem q98 : (Jvm.Cond.code ({ cls := "LatticeRing", name := "coefficient", desc := "(II)I" } : Jvm.MethodName) prog_1_method_8_code (3 : Nat) (Option.some Jvm.ClassFile.FieldType.int)) ∈ lw_all := lw_g (lw_at lw_m0 98 rfl) rfl
theorem q106 : (Jvm.Cond.instantiable "LatticeRing" (2 : Nat)) ∈ lw_all := lw_g (lw_at lw_m0 106 rfl) rfl
theorem q108 : (Jvm.Cond.instanceMethod ({ cls := "LatticeRing", name := "<init>", desc := "()V" } : Jvm.MethodName)) ∈ lw_all := lw_g (lw_at lw_m0 108 rfl) rfl
theorem q109 : (Jvm.Cond.code ({ cls := "LatticeRing", name := "<init>", desc := "()V" } : Jvm.MethodName) prog_1_method_1_code (1 : Nat) (Option.none : Option Jvm.ClassFile.FieldType)) ∈ lw_all := lw_g (lw_at lw_m0 109 rfl) rfl
theorem q110 : (Jvm.Cond.methodLink "LatticeRing" (1 : Nat) ({ cls := "java/lang/Object", name := "<init>", desc := "()V" } : Jvm.MethodName)) ∈ lw_all := lw_g (lw_at lw_m0 110 rfl) rfl
theorem q112 : (Jvm.Cond.fieldLink "LatticeRing" (10 : Nat) "LatticeRing" "file" "[LPoly;") ∈ lw_all := lw_g (lw_at lw_m0 112 rfl) rfl
theorem q113 : (Jvm.Cond.fieldLink "LatticeRing" (16 : Nat) "LatticeRing" "text" "[B") ∈ lw_all := lw_g (lw_at lw_m0 113 rfl) rfl
theorem q114 : (Jvm.Cond.laysFinal "LatticeRing" "LatticeRing" "file" "[LPoly;") ∈ lw_all := lw_g (lw_at lw_m0 114 rfl) rfl
theorem q115 : (Jvm.Cond.soleField "LatticeRing" "file") ∈ lw_all := lw_g (lw_at lw_m0 115 rfl) rfl
theorem q116 : (Jvm.Cond.laysFinal "LatticeRing" "LatticeRing" "text" "[B") ∈ lw_all := lw_g (lw_at lw_m0 116 rfl) rfl
theorem q117 : (Jvm.Cond.soleField "LatticeRing" "text") ∈ lw_all := lw_g (lw_at lw_m0 117 rfl) rfl
theorem q118 : (Jvm.Cond.superclass "LatticeRing" "java/lang/Object") ∈ lw_all := lw_g (lw_at lw_m0 118 rfl) rfl
theorem in_X1 : ∀ w ∈ wsX10, w ∈ lw_all := lw_in wsX10 [114, 116] (by decide +kernel) (by decide +kernel)
/-! LatticeRingLaw -/
set_option maxRecDepth 100000
def RX0 : String := "LatticeRingLaw"
abbrev cX0_cell : ByteArray := method_2_code
def yX0_cell : MethodName := ⟨RX0, "cell", "([II)I"⟩
def dkwX0_cell_0 : List UInt8 := [27, 42, 190, 162, 0, 9, 42, 27, 46, 167, 0, 4, 3, 172]
abbrev dktX0_cell_0 : List UInt8 := dkwX0_cell_0 ++ []
theorem dksX0_cell_0 : cX0_cell.data.toList.drop 0 = dktX0_cell_0 := by decide +kernel
theorem dX0_cell_0 : decode cX0_cell 0 = .ok (.iload_n 1, 1) := dk_27 (dk_at dksX0_cell_0 0 rfl rfl)
theorem dX0_cell_1 : decode cX0_cell 1 = .ok (.aload_n 0, 1) := dk_42 (dk_at dksX0_cell_0 1 rfl rfl)
theorem dX0_cell_2 : decode cX0_cell 2 = .ok (.arraylength, 1) := dk_190 (dk_at dksX0_cell_0 2 rfl rfl)
theorem dX0_cell_3 : decode cX0_cell 3 = .ok (.if_icmp .ge 9, 3) := dk_162 0 9 (dk_at dksX0_cell_0 3 rfl rfl)
theorem dX0_cell_6 : decode cX0_cell 6 = .ok (.aload_n 0, 1) := dk_42 (dk_at dksX0_cell_0 6 rfl rfl)
theorem dX0_cell_7 : decode cX0_cell 7 = .ok (.iload_n 1, 1) := dk_27 (dk_at dksX0_cell_0 7 rfl rfl)
theorem dX0_cell_8 : decode cX0_cell 8 = .ok (.iaload, 1) := dk_46 (dk_at dksX0_cell_0 8 rfl rfl)
theorem dX0_cell_9 : decode cX0_cell 9 = .ok (.goto 4, 3) := dk_167 0 4 (dk_at dksX0_cell_0 9 rfl rfl)
theorem dX0_cell_12 : decode cX0_cell 12 = .ok (.iconst 0, 1) := dk_3 (dk_at dksX0_cell_0 12 rfl rfl)
theorem dX0_cell_13 : decode cX0_cell 13 = .ok (.ireturn, 1) := dk_172 (dk_at dksX0_cell_0 13 rfl rfl)
abbrev cX0_three : ByteArray := method_3_code
def yX0_three : MethodName := ⟨RX0, "three", "([I)LLatticeRing;"⟩
def dkwX0_three_3 : List UInt8 := [132, 2, 2, 167, 255, 228, 43, 6, 3, 3, 182, 0, 16, 43, 176]
abbrev dktX0_three_3 : List UInt8 := dkwX0_three_3 ++ []
def dkwX0_three_2 : List UInt8 := [42, 190, 162, 0, 26, 43, 28, 4, 122, 4, 126, 42, 28, 46, 42, 28, 4, 96, 46, 182, 0, 20]
abbrev dktX0_three_2 : List UInt8 := dkwX0_three_2 ++ dktX0_three_3
def dkwX0_three_1 : List UInt8 := [42, 5, 28, 104, 4, 96, 184, 0, 10, 182, 0, 16, 132, 2, 1, 167, 255, 227, 16, 6, 61, 28, 4, 96]
abbrev dktX0_three_1 : List UInt8 := dkwX0_three_1 ++ dktX0_three_2
def dkwX0_three_0 : List UInt8 := [187, 0, 7, 89, 183, 0, 9, 76, 3, 61, 28, 6, 162, 0, 30, 43, 28, 42, 5, 28, 104, 184, 0, 10]
abbrev dktX0_three_0 : List UInt8 := dkwX0_three_0 ++ dktX0_three_1
theorem dksX0_three_0 : cX0_three.data.toList.drop 0 = dktX0_three_0 := by decide +kernel
theorem dksX0_three_1 : cX0_three.data.toList.drop 24 = dktX0_three_1 := dk_seg dksX0_three_0 24 rfl rfl
theorem dksX0_three_2 : cX0_three.data.toList.drop 48 = dktX0_three_2 := dk_seg dksX0_three_1 24 rfl rfl
theorem dksX0_three_3 : cX0_three.data.toList.drop 70 = dktX0_three_3 := dk_seg dksX0_three_2 22 rfl rfl
theorem dX0_three_0 : decode cX0_three 0 = .ok (.new 7, 3) := dk_187 0 7 (dk_at dksX0_three_0 0 rfl rfl)
theorem dX0_three_3 : decode cX0_three 3 = .ok (.dup, 1) := dk_89 (dk_at dksX0_three_0 3 rfl rfl)
theorem dX0_three_4 : decode cX0_three 4 = .ok (.invokespecial 9, 3) := dk_183 0 9 (dk_at dksX0_three_0 4 rfl rfl)
theorem dX0_three_7 : decode cX0_three 7 = .ok (.astore_n 1, 1) := dk_76 (dk_at dksX0_three_0 7 rfl rfl)
theorem dX0_three_8 : decode cX0_three 8 = .ok (.iconst 0, 1) := dk_3 (dk_at dksX0_three_0 8 rfl rfl)
theorem dX0_three_9 : decode cX0_three 9 = .ok (.istore_n 2, 1) := dk_61 (dk_at dksX0_three_0 9 rfl rfl)
theorem dX0_three_10 : decode cX0_three 10 = .ok (.iload_n 2, 1) := dk_28 (dk_at dksX0_three_0 10 rfl rfl)
theorem dX0_three_11 : decode cX0_three 11 = .ok (.iconst 3, 1) := dk_6 (dk_at dksX0_three_0 11 rfl rfl)
theorem dX0_three_12 : decode cX0_three 12 = .ok (.if_icmp .ge 30, 3) := dk_162 0 30 (dk_at dksX0_three_0 12 rfl rfl)
theorem dX0_three_15 : decode cX0_three 15 = .ok (.aload_n 1, 1) := dk_43 (dk_at dksX0_three_0 15 rfl rfl)
theorem dX0_three_16 : decode cX0_three 16 = .ok (.iload_n 2, 1) := dk_28 (dk_at dksX0_three_0 16 rfl rfl)
theorem dX0_three_17 : decode cX0_three 17 = .ok (.aload_n 0, 1) := dk_42 (dk_at dksX0_three_0 17 rfl rfl)
theorem dX0_three_18 : decode cX0_three 18 = .ok (.iconst 2, 1) := dk_5 (dk_at dksX0_three_0 18 rfl rfl)
theorem dX0_three_19 : decode cX0_three 19 = .ok (.iload_n 2, 1) := dk_28 (dk_at dksX0_three_0 19 rfl rfl)
theorem dX0_three_20 : decode cX0_three 20 = .ok (.imul, 1) := dk_104 (dk_at dksX0_three_0 20 rfl rfl)
theorem dX0_three_21 : decode cX0_three 21 = .ok (.invokestatic 10, 3) := dk_184 0 10 (dk_at dksX0_three_0 21 rfl rfl)
theorem dX0_three_24 : decode cX0_three 24 = .ok (.aload_n 0, 1) := dk_42 (dk_at dksX0_three_1 0 rfl rfl)
theorem dX0_three_25 : decode cX0_three 25 = .ok (.iconst 2, 1) := dk_5 (dk_at dksX0_three_1 1 rfl rfl)
theorem dX0_three_26 : decode cX0_three 26 = .ok (.iload_n 2, 1) := dk_28 (dk_at dksX0_three_1 2 rfl rfl)
theorem dX0_three_27 : decode cX0_three 27 = .ok (.imul, 1) := dk_104 (dk_at dksX0_three_1 3 rfl rfl)
theorem dX0_three_28 : decode cX0_three 28 = .ok (.iconst 1, 1) := dk_4 (dk_at dksX0_three_1 4 rfl rfl)
theorem dX0_three_29 : decode cX0_three 29 = .ok (.iadd, 1) := dk_96 (dk_at dksX0_three_1 5 rfl rfl)
theorem dX0_three_30 : decode cX0_three 30 = .ok (.invokestatic 10, 3) := dk_184 0 10 (dk_at dksX0_three_1 6 rfl rfl)
theorem dX0_three_33 : decode cX0_three 33 = .ok (.invokevirtual 16, 3) := dk_182 0 16 (dk_at dksX0_three_1 9 rfl rfl)
theorem dX0_three_36 : decode cX0_three 36 = .ok (.iinc 2 1, 3) := dk_132 2 1 (dk_at dksX0_three_1 12 rfl rfl)
theorem dX0_three_39 : decode cX0_three 39 = .ok (.goto (-29), 3) := dk_167 255 227 (dk_at dksX0_three_1 15 rfl rfl)
theorem dX0_three_42 : decode cX0_three 42 = .ok (.bipush 6, 2) := dk_16 6 (dk_at dksX0_three_1 18 rfl rfl)
theorem dX0_three_44 : decode cX0_three 44 = .ok (.istore_n 2, 1) := dk_61 (dk_at dksX0_three_1 20 rfl rfl)
theorem dX0_three_45 : decode cX0_three 45 = .ok (.iload_n 2, 1) := dk_28 (dk_at dksX0_three_1 21 rfl rfl)
theorem dX0_three_46 : decode cX0_three 46 = .ok (.iconst 1, 1) := dk_4 (dk_at dksX0_three_1 22 rfl rfl)
theorem dX0_three_47 : decode cX0_three 47 = .ok (.iadd, 1) := dk_96 (dk_at dksX0_three_1 23 rfl rfl)
theorem dX0_three_48 : decode cX0_three 48 = .ok (.aload_n 0, 1) := dk_42 (dk_at dksX0_three_2 0 rfl rfl)
theorem dX0_three_49 : decode cX0_three 49 = .ok (.arraylength, 1) := dk_190 (dk_at dksX0_three_2 1 rfl rfl)
theorem dX0_three_50 : decode cX0_three 50 = .ok (.if_icmp .ge 26, 3) := dk_162 0 26 (dk_at dksX0_three_2 2 rfl rfl)
theorem dX0_three_53 : decode cX0_three 53 = .ok (.aload_n 1, 1) := dk_43 (dk_at dksX0_three_2 5 rfl rfl)
theorem dX0_three_54 : decode cX0_three 54 = .ok (.iload_n 2, 1) := dk_28 (dk_at dksX0_three_2 6 rfl rfl)
theorem dX0_three_55 : decode cX0_three 55 = .ok (.iconst 1, 1) := dk_4 (dk_at dksX0_three_2 7 rfl rfl)
theorem dX0_three_56 : decode cX0_three 56 = .ok (.ishr, 1) := dk_122 (dk_at dksX0_three_2 8 rfl rfl)
theorem dX0_three_57 : decode cX0_three 57 = .ok (.iconst 1, 1) := dk_4 (dk_at dksX0_three_2 9 rfl rfl)
theorem dX0_three_58 : decode cX0_three 58 = .ok (.iand, 1) := dk_126 (dk_at dksX0_three_2 10 rfl rfl)
theorem dX0_three_59 : decode cX0_three 59 = .ok (.aload_n 0, 1) := dk_42 (dk_at dksX0_three_2 11 rfl rfl)
theorem dX0_three_60 : decode cX0_three 60 = .ok (.iload_n 2, 1) := dk_28 (dk_at dksX0_three_2 12 rfl rfl)
theorem dX0_three_61 : decode cX0_three 61 = .ok (.iaload, 1) := dk_46 (dk_at dksX0_three_2 13 rfl rfl)
theorem dX0_three_62 : decode cX0_three 62 = .ok (.aload_n 0, 1) := dk_42 (dk_at dksX0_three_2 14 rfl rfl)
theorem dX0_three_63 : decode cX0_three 63 = .ok (.iload_n 2, 1) := dk_28 (dk_at dksX0_three_2 15 rfl rfl)
theorem dX0_three_64 : decode cX0_three 64 = .ok (.iconst 1, 1) := dk_4 (dk_at dksX0_three_2 16 rfl rfl)
theorem dX0_three_65 : decode cX0_three 65 = .ok (.iadd, 1) := dk_96 (dk_at dksX0_three_2 17 rfl rfl)
theorem dX0_three_66 : decode cX0_three 66 = .ok (.iaload, 1) := dk_46 (dk_at dksX0_three_2 18 rfl rfl)
theorem dX0_three_67 : decode cX0_three 67 = .ok (.invokevirtual 20, 3) := dk_182 0 20 (dk_at dksX0_three_2 19 rfl rfl)
theorem dX0_three_70 : decode cX0_three 70 = .ok (.iinc 2 2, 3) := dk_132 2 2 (dk_at dksX0_three_3 0 rfl rfl)
theorem dX0_three_73 : decode cX0_three 73 = .ok (.goto (-28), 3) := dk_167 255 228 (dk_at dksX0_three_3 3 rfl rfl)
theorem dX0_three_76 : decode cX0_three 76 = .ok (.aload_n 1, 1) := dk_43 (dk_at dksX0_three_3 6 rfl rfl)
theorem dX0_three_77 : decode cX0_three 77 = .ok (.iconst 3, 1) := dk_6 (dk_at dksX0_three_3 7 rfl rfl)
theorem dX0_three_78 : decode cX0_three 78 = .ok (.iconst 0, 1) := dk_3 (dk_at dksX0_three_3 8 rfl rfl)
theorem dX0_three_79 : decode cX0_three 79 = .ok (.iconst 0, 1) := dk_3 (dk_at dksX0_three_3 9 rfl rfl)
theorem dX0_three_80 : decode cX0_three 80 = .ok (.invokevirtual 16, 3) := dk_182 0 16 (dk_at dksX0_three_3 10 rfl rfl)
theorem dX0_three_83 : decode cX0_three 83 = .ok (.aload_n 1, 1) := dk_43 (dk_at dksX0_three_3 13 rfl rfl)
theorem dX0_three_84 : decode cX0_three 84 = .ok (.areturn, 1) := dk_176 (dk_at dksX0_three_3 14 rfl rfl)
abbrev cX0_same : ByteArray := method_4_code
def yX0_same : MethodName := ⟨RX0, "same", "(LLatticeRing;ILLatticeRing;I)Z"⟩
def dkwX0_same_1 : List UInt8 := [182, 0, 23, 159, 0, 5, 3, 172, 132, 4, 1, 167, 255, 226, 4, 172]
abbrev dktX0_same_1 : List UInt8 := dkwX0_same_1 ++ []
def dkwX0_same_0 : List UInt8 := [3, 54, 4, 21, 4, 17, 1, 0, 162, 0, 28, 42, 27, 21, 4, 182, 0, 23, 44, 29, 21, 4]
abbrev dktX0_same_0 : List UInt8 := dkwX0_same_0 ++ dktX0_same_1
theorem dksX0_same_0 : cX0_same.data.toList.drop 0 = dktX0_same_0 := by decide +kernel
theorem dksX0_same_1 : cX0_same.data.toList.drop 22 = dktX0_same_1 := dk_seg dksX0_same_0 22 rfl rfl
theorem dX0_same_0 : decode cX0_same 0 = .ok (.iconst 0, 1) := dk_3 (dk_at dksX0_same_0 0 rfl rfl)
theorem dX0_same_1 : decode cX0_same 1 = .ok (.istore 4, 2) := dk_54 4 (dk_at dksX0_same_0 1 rfl rfl)
theorem dX0_same_3 : decode cX0_same 3 = .ok (.iload 4, 2) := dk_21 4 (dk_at dksX0_same_0 3 rfl rfl)
theorem dX0_same_5 : decode cX0_same 5 = .ok (.sipush 256, 3) := dk_17 1 0 (dk_at dksX0_same_0 5 rfl rfl)
theorem dX0_same_8 : decode cX0_same 8 = .ok (.if_icmp .ge 28, 3) := dk_162 0 28 (dk_at dksX0_same_0 8 rfl rfl)
theorem dX0_same_11 : decode cX0_same 11 = .ok (.aload_n 0, 1) := dk_42 (dk_at dksX0_same_0 11 rfl rfl)
theorem dX0_same_12 : decode cX0_same 12 = .ok (.iload_n 1, 1) := dk_27 (dk_at dksX0_same_0 12 rfl rfl)
theorem dX0_same_13 : decode cX0_same 13 = .ok (.iload 4, 2) := dk_21 4 (dk_at dksX0_same_0 13 rfl rfl)
theorem dX0_same_15 : decode cX0_same 15 = .ok (.invokevirtual 23, 3) := dk_182 0 23 (dk_at dksX0_same_0 15 rfl rfl)
theorem dX0_same_18 : decode cX0_same 18 = .ok (.aload_n 2, 1) := dk_44 (dk_at dksX0_same_0 18 rfl rfl)
theorem dX0_same_19 : decode cX0_same 19 = .ok (.iload_n 3, 1) := dk_29 (dk_at dksX0_same_0 19 rfl rfl)
theorem dX0_same_20 : decode cX0_same 20 = .ok (.iload 4, 2) := dk_21 4 (dk_at dksX0_same_0 20 rfl rfl)
theorem dX0_same_22 : decode cX0_same 22 = .ok (.invokevirtual 23, 3) := dk_182 0 23 (dk_at dksX0_same_1 0 rfl rfl)
theorem dX0_same_25 : decode cX0_same 25 = .ok (.if_icmp .eq 5, 3) := dk_159 0 5 (dk_at dksX0_same_1 3 rfl rfl)
theorem dX0_same_28 : decode cX0_same 28 = .ok (.iconst 0, 1) := dk_3 (dk_at dksX0_same_1 6 rfl rfl)
theorem dX0_same_29 : decode cX0_same 29 = .ok (.ireturn, 1) := dk_172 (dk_at dksX0_same_1 7 rfl rfl)
theorem dX0_same_30 : decode cX0_same 30 = .ok (.iinc 4 1, 3) := dk_132 4 1 (dk_at dksX0_same_1 8 rfl rfl)
theorem dX0_same_33 : decode cX0_same 33 = .ok (.goto (-30), 3) := dk_167 255 226 (dk_at dksX0_same_1 11 rfl rfl)
theorem dX0_same_36 : decode cX0_same 36 = .ok (.iconst 1, 1) := dk_4 (dk_at dksX0_same_1 14 rfl rfl)
theorem dX0_same_37 : decode cX0_same 37 = .ok (.ireturn, 1) := dk_172 (dk_at dksX0_same_1 15 rfl rfl)
theorem q0 : (Jvm.Cond.initialized "LatticeRingLaw") ∈ lw_all := lw_g (lw_at lw_m0 0 rfl) rfl
theorem q5 : (Jvm.Cond.methodLink "LatticeRingLaw" (20 : Nat) ({ cls := "LatticeRing", name := "put", desc := "(III)V" } : Jvm.MethodName)) ∈ lw_all := lw_g (lw_at lw_m0 5 rfl) rfl
theorem q14 : (Jvm.Cond.methodLink "LatticeRingLaw" (16 : Nat) ({ cls := "LatticeRing", name := "spread", desc := "(III)V" } : Jvm.MethodName)) ∈ lw_all := lw_g (lw_at lw_m0 14 rfl) rfl
theorem q18 : (Jvm.Cond.methodLink "LatticeRingLaw" (38 : Nat) ({ cls := "LatticeRing", name := "multiply", desc := "(III)V" } : Jvm.MethodName)) ∈ lw_all := lw_g (lw_at lw_m0 18 rfl) rfl
theorem q87 : (Jvm.Cond.methodLink "LatticeRingLaw" (34 : Nat) ({ cls := "LatticeRing", name := "add", desc := "(II)V" } : Jvm.MethodName)) ∈ lw_all := lw_g (lw_at lw_m0 87 rfl) rfl
theorem q95 : (Jvm.Cond.methodLink "LatticeRingLaw" (23 : Nat) ({ cls := "LatticeRing", name := "coefficient", desc := "(II)I" } : Jvm.MethodName)) ∈ lw_all := lw_g (lw_at lw_m0 95 rfl) rfl
theorem q99 : (Jvm.Cond.methodLink "LatticeRingLaw" (10 : Nat) ({ cls := "LatticeRingLaw", name := "cell", desc := "([II)I" } : Jvm.MethodName)) ∈ lw_all := lw_g (lw_at lw_m0 99 rfl) rfl
theorem q100 : (Jvm.Cond.static ({ cls := "LatticeRingLaw", name := "cell", desc := "([II)I" } : Jvm.MethodName)) ∈ lw_all := lw_g (lw_at lw_m0 100 rfl) rfl
theorem q101 : (Jvm.Cond.code ({ cls := "LatticeRingLaw", name := "cell", desc := "([II)I" } : Jvm.MethodName) method_2_code (2 : Nat) (Option.some Jvm.ClassFile.FieldType.int)) ∈ lw_all := lw_g (lw_at lw_m0 101 rfl) rfl
theorem q102 : (Jvm.Cond.methodLink "LatticeRingLaw" (27 : Nat) ({ cls := "LatticeRingLaw", name := "three", desc := "([I)LLatticeRing;" } : Jvm.MethodName)) ∈ lw_all := lw_g (lw_at lw_m0 102 rfl) rfl
theorem q103 : (Jvm.Cond.static ({ cls := "LatticeRingLaw", name := "three", desc := "([I)LLatticeRing;" } : Jvm.MethodName)) ∈ lw_all := lw_g (lw_at lw_m0 103 rfl) rfl
theorem q104 : (Jvm.Cond.code ({ cls := "LatticeRingLaw", name := "three", desc := "([I)LLatticeRing;" } : Jvm.MethodName) method_3_code (3 : Nat) (Option.some (Jvm.ClassFile.FieldType.object "LatticeRing"))) ∈ lw_all := lw_g (lw_at lw_m0 104 rfl) rfl
theorem q105 : (Jvm.Cond.classLink "LatticeRingLaw" (7 : Nat) "LatticeRing") ∈ lw_all := lw_g (lw_at lw_m0 105 rfl) rfl
theorem q107 : (Jvm.Cond.methodLink "LatticeRingLaw" (9 : Nat) ({ cls := "LatticeRing", name := "<init>", desc := "()V" } : Jvm.MethodName)) ∈ lw_all := lw_g (lw_at lw_m0 107 rfl) rfl
theorem q120 : (Jvm.Cond.methodLink "LatticeRingLaw" (41 : Nat) ({ cls := "LatticeRingLaw", name := "same", desc := "(LLatticeRing;ILLatticeRing;I)Z" } : Jvm.MethodName)) ∈ lw_all := lw_g (lw_at lw_m0 120 rfl) rfl
theorem q121 : (Jvm.Cond.static ({ cls := "LatticeRingLaw", name := "same", desc := "(LLatticeRing;ILLatticeRing;I)Z" } : Jvm.MethodName)) ∈ lw_all := lw_g (lw_at lw_m0 121 rfl) rfl
theorem q122 : (Jvm.Cond.code ({ cls := "LatticeRingLaw", name := "same", desc := "(LLatticeRing;ILLatticeRing;I)Z" } : Jvm.MethodName) method_4_code (5 : Nat) (Option.some Jvm.ClassFile.FieldType.boolean)) ∈ lw_all := lw_g (lw_at lw_m0 122 rfl) rfl
theorem q123 : (Jvm.Cond.classLink "LatticeRingLaw" (31 : Nat) "[[I") ∈ lw_all := lw_g (lw_at lw_m0 123 rfl) rfl
theorem q125 : (Jvm.Cond.constant "LatticeRingLaw" (33 : Nat) (2147483647 : Int32)) ∈ lw_all := lw_g (lw_at lw_m0 125 rfl) rfl
theorem q37 : (Jvm.Cond.arrayClass Jvm.ClassFile.FieldType.short) ∈ lw_all := lw_g (lw_at lw_m0 37 rfl) rfl
set_option maxRecDepth 100000
theorem q111 : (Jvm.Cond.arrayOver (Jvm.ClassFile.FieldType.object "Poly")) ∈ lw_tbl := lw_at lw_m0 111 rfl
theorem q119 : (Jvm.Cond.arrayClass Jvm.ClassFile.FieldType.byte) ∈ lw_all := lw_g (lw_at lw_m0 119 rfl) rfl
theorem q124 : (Jvm.Cond.arrayOver (Jvm.ClassFile.FieldType.array Jvm.ClassFile.FieldType.int)) ∈ lw_tbl := lw_at lw_m0 124 rfl
theorem q126 : (Jvm.Cond.arrayClass Jvm.ClassFile.FieldType.int) ∈ lw_all := lw_g (lw_at lw_m0 126 rfl) rfl
/-! the law's own entry -/
set_option maxRecDepth 100000
abbrev cL_law : ByteArray := code
def dkwL_law_21 : List UInt8 := [44, 6, 184, 0, 41, 172]
abbrev dktL_law_21 : List UInt8 := dkwL_law_21 ++ []
def dkwL_law_20 : List UInt8 := [182, 0, 38, 44, 6, 5, 182, 0, 34, 43, 3, 4, 182, 0, 34, 43, 6, 3, 5, 182, 0, 38, 43, 6]
abbrev dktL_law_20 : List UInt8 := dkwL_law_20 ++ dktL_law_21
def dkwL_law_19 : List UInt8 := [182, 0, 23, 96, 17, 13, 1, 112, 153, 0, 5, 3, 172, 44, 6, 3, 5, 182, 0, 38, 44, 5, 4, 5]
abbrev dktL_law_19 : List UInt8 := dkwL_law_19 ++ dktL_law_20
def dkwL_law_18 : List UInt8 := [159, 0, 5, 3, 172, 132, 6, 1, 167, 255, 224, 43, 6, 3, 182, 0, 23, 43, 3, 17, 0, 255]
abbrev dktL_law_18 : List UInt8 := dkwL_law_18 ++ dktL_law_19
def dkwL_law_17 : List UInt8 := [21, 6, 17, 0, 255, 162, 0, 30, 43, 6, 21, 6, 4, 96, 182, 0, 23, 43, 3, 21, 6, 182, 0, 23]
abbrev dktL_law_17 : List UInt8 := dkwL_law_17 ++ dktL_law_18
def dkwL_law_16 : List UInt8 := [43, 6, 3, 3, 182, 0, 16, 43, 6, 4, 4, 182, 0, 20, 43, 6, 3, 6, 182, 0, 38, 3, 54, 6]
abbrev dktL_law_16 : List UInt8 := dkwL_law_16 ++ dktL_law_17
def dkwL_law_15 : List UInt8 := [3, 4, 182, 0, 20, 43, 6, 3, 6, 182, 0, 38, 43, 6, 43, 3, 184, 0, 41, 154, 0, 5, 3, 172]
abbrev dktL_law_15 : List UInt8 := dkwL_law_15 ++ dktL_law_16
def dkwL_law_14 : List UInt8 := [182, 0, 38, 43, 6, 44, 6, 184, 0, 41, 154, 0, 5, 3, 172, 43, 6, 3, 3, 182, 0, 16, 43, 6]
abbrev dktL_law_14 : List UInt8 := dkwL_law_14 ++ dktL_law_15
def dkwL_law_13 : List UInt8 := [154, 0, 5, 3, 172, 43, 6, 6, 5, 182, 0, 38, 44, 6, 4, 5, 182, 0, 38, 44, 6, 3, 6]
abbrev dktL_law_13 : List UInt8 := dkwL_law_13 ++ dktL_law_14
def dkwL_law_12 : List UInt8 := [167, 255, 197, 43, 6, 3, 4, 182, 0, 38, 44, 6, 4, 3, 182, 0, 38, 43, 6, 44, 6, 184, 0, 41]
abbrev dktL_law_12 : List UInt8 := dkwL_law_12 ++ dktL_law_13
def dkwL_law_11 : List UInt8 := [21, 7, 160, 0, 16, 25, 4, 4, 21, 6, 182, 0, 23, 21, 7, 159, 0, 5, 3, 172, 132, 6, 1]
abbrev dktL_law_11 : List UInt8 := dkwL_law_11 ++ dktL_law_12
def dkwL_law_10 : List UInt8 := [182, 0, 23, 43, 4, 21, 6, 182, 0, 23, 96, 17, 13, 1, 112, 54, 7, 45, 3, 21, 6, 182, 0, 23]
abbrev dktL_law_10 : List UInt8 := dkwL_law_10 ++ dktL_law_11
def dkwL_law_9 : List UInt8 := [25, 4, 4, 3, 182, 0, 34, 3, 54, 6, 21, 6, 17, 1, 0, 162, 0, 57, 43, 3, 21, 6]
abbrev dktL_law_9 : List UInt8 := dkwL_law_9 ++ dktL_law_10
def dkwL_law_8 : List UInt8 := [159, 0, 5, 3, 172, 132, 7, 1, 167, 255, 224, 132, 6, 1, 167, 255, 209, 45, 3, 4, 182, 0, 34]
abbrev dktL_law_8 : List UInt8 := dkwL_law_8 ++ dktL_law_9
def dkwL_law_7 : List UInt8 := [21, 7, 17, 1, 0, 162, 0, 30, 43, 21, 6, 21, 7, 182, 0, 23, 25, 5, 21, 6, 50, 21, 7, 46]
abbrev dktL_law_7 : List UInt8 := dkwL_law_7 ++ dktL_law_8
def dkwL_law_6 : List UInt8 := [17, 13, 1, 112, 79, 132, 6, 2, 167, 255, 213, 3, 54, 6, 21, 6, 6, 162, 0, 47, 3, 54, 7]
abbrev dktL_law_6 : List UInt8 := dkwL_law_6 ++ dktL_law_7
def dkwL_law_5 : List UInt8 := [21, 6, 4, 122, 4, 126, 50, 42, 21, 6, 46, 17, 0, 255, 126, 42, 21, 6, 4, 96, 46, 18, 33, 126]
abbrev dktL_law_5 : List UInt8 := dkwL_law_5 ++ dktL_law_6
def dkwL_law_4 : List UInt8 := [167, 255, 208, 132, 6, 1, 167, 255, 193, 16, 6, 54, 6, 21, 6, 4, 96, 42, 190, 162, 0, 40, 25, 5]
abbrev dktL_law_4 : List UInt8 := dkwL_law_4 ++ dktL_law_5
def dkwL_law_3 : List UInt8 := [5, 21, 6, 104, 4, 96, 184, 0, 10, 104, 96, 18, 33, 126, 17, 13, 1, 112, 79, 132, 7, 1]
abbrev dktL_law_3 : List UInt8 := dkwL_law_3 ++ dktL_law_4
def dkwL_law_2 : List UInt8 := [17, 1, 0, 162, 0, 46, 25, 5, 21, 6, 50, 21, 7, 42, 5, 21, 6, 104, 184, 0, 10, 21, 7, 42]
abbrev dktL_law_2 : List UInt8 := dkwL_law_2 ++ dktL_law_3
def dkwL_law_1 : List UInt8 := [17, 1, 0, 197, 0, 31, 2, 58, 5, 3, 54, 6, 21, 6, 6, 162, 0, 63, 3, 54, 7, 21, 7]
abbrev dktL_law_1 : List UInt8 := dkwL_law_1 ++ dktL_law_2
def dkwL_law_0 : List UInt8 := [42, 184, 0, 27, 76, 42, 184, 0, 27, 77, 42, 184, 0, 27, 78, 42, 184, 0, 27, 58, 4, 6]
abbrev dktL_law_0 : List UInt8 := dkwL_law_0 ++ dktL_law_1
theorem dksL_law_0 : cL_law.data.toList.drop 0 = dktL_law_0 := by decide +kernel
theorem dksL_law_1 : cL_law.data.toList.drop 22 = dktL_law_1 := dk_seg dksL_law_0 22 rfl rfl
theorem dksL_law_2 : cL_law.data.toList.drop 45 = dktL_law_2 := dk_seg dksL_law_1 23 rfl rfl
theorem dksL_law_3 : cL_law.data.toList.drop 69 = dktL_law_3 := dk_seg dksL_law_2 24 rfl rfl
theorem dksL_law_4 : cL_law.data.toList.drop 91 = dktL_law_4 := dk_seg dksL_law_3 22 rfl rfl
theorem dksL_law_5 : cL_law.data.toList.drop 115 = dktL_law_5 := dk_seg dksL_law_4 24 rfl rfl
theorem dksL_law_6 : cL_law.data.toList.drop 139 = dktL_law_6 := dk_seg dksL_law_5 24 rfl rfl
theorem dksL_law_7 : cL_law.data.toList.drop 162 = dktL_law_7 := dk_seg dksL_law_6 23 rfl rfl
theorem dksL_law_8 : cL_law.data.toList.drop 186 = dktL_law_8 := dk_seg dksL_law_7 24 rfl rfl
theorem dksL_law_9 : cL_law.data.toList.drop 209 = dktL_law_9 := dk_seg dksL_law_8 23 rfl rfl
theorem dksL_law_10 : cL_law.data.toList.drop 231 = dktL_law_10 := dk_seg dksL_law_9 22 rfl rfl
theorem dksL_law_11 : cL_law.data.toList.drop 255 = dktL_law_11 := dk_seg dksL_law_10 24 rfl rfl
theorem dksL_law_12 : cL_law.data.toList.drop 278 = dktL_law_12 := dk_seg dksL_law_11 23 rfl rfl
theorem dksL_law_13 : cL_law.data.toList.drop 302 = dktL_law_13 := dk_seg dksL_law_12 24 rfl rfl
theorem dksL_law_14 : cL_law.data.toList.drop 325 = dktL_law_14 := dk_seg dksL_law_13 23 rfl rfl
theorem dksL_law_15 : cL_law.data.toList.drop 349 = dktL_law_15 := dk_seg dksL_law_14 24 rfl rfl
theorem dksL_law_16 : cL_law.data.toList.drop 373 = dktL_law_16 := dk_seg dksL_law_15 24 rfl rfl
theorem dksL_law_17 : cL_law.data.toList.drop 397 = dktL_law_17 := dk_seg dksL_law_16 24 rfl rfl
theorem dksL_law_18 : cL_law.data.toList.drop 421 = dktL_law_18 := dk_seg dksL_law_17 24 rfl rfl
theorem dksL_law_19 : cL_law.data.toList.drop 443 = dktL_law_19 := dk_seg dksL_law_18 22 rfl rfl
theorem dksL_law_20 : cL_law.data.toList.drop 467 = dktL_law_20 := dk_seg dksL_law_19 24 rfl rfl
theorem dksL_law_21 : cL_law.data.toList.drop 491 = dktL_law_21 := dk_seg dksL_law_20 24 rfl rfl
theorem dL_law_0 : decode cL_law 0 = .ok (.aload_n 0, 1) := dk_42 (dk_at dksL_law_0 0 rfl rfl)
theorem dL_law_1 : decode cL_law 1 = .ok (.invokestatic 27, 3) := dk_184 0 27 (dk_at dksL_law_0 1 rfl rfl)
theorem dL_law_4 : decode cL_law 4 = .ok (.astore_n 1, 1) := dk_76 (dk_at dksL_law_0 4 rfl rfl)
theorem dL_law_5 : decode cL_law 5 = .ok (.aload_n 0, 1) := dk_42 (dk_at dksL_law_0 5 rfl rfl)
theorem dL_law_6 : decode cL_law 6 = .ok (.invokestatic 27, 3) := dk_184 0 27 (dk_at dksL_law_0 6 rfl rfl)
theorem dL_law_9 : decode cL_law 9 = .ok (.astore_n 2, 1) := dk_77 (dk_at dksL_law_0 9 rfl rfl)
theorem dL_law_10 : decode cL_law 10 = .ok (.aload_n 0, 1) := dk_42 (dk_at dksL_law_0 10 rfl rfl)
theorem dL_law_11 : decode cL_law 11 = .ok (.invokestatic 27, 3) := dk_184 0 27 (dk_at dksL_law_0 11 rfl rfl)
theorem dL_law_14 : decode cL_law 14 = .ok (.astore_n 3, 1) := dk_78 (dk_at dksL_law_0 14 rfl rfl)
theorem dL_law_15 : decode cL_law 15 = .ok (.aload_n 0, 1) := dk_42 (dk_at dksL_law_0 15 rfl rfl)
theorem dL_law_16 : decode cL_law 16 = .ok (.invokestatic 27, 3) := dk_184 0 27 (dk_at dksL_law_0 16 rfl rfl)
theorem dL_law_19 : decode cL_law 19 = .ok (.astore 4, 2) := dk_58 4 (dk_at dksL_law_0 19 rfl rfl)
theorem dL_law_21 : decode cL_law 21 = .ok (.iconst 3, 1) := dk_6 (dk_at dksL_law_0 21 rfl rfl)
theorem dL_law_22 : decode cL_law 22 = .ok (.sipush 256, 3) := dk_17 1 0 (dk_at dksL_law_1 0 rfl rfl)
theorem dL_law_25 : decode cL_law 25 = .ok (.multianewarray 31 2, 4) := by decide +kernel
theorem dL_law_29 : decode cL_law 29 = .ok (.astore 5, 2) := dk_58 5 (dk_at dksL_law_1 7 rfl rfl)
theorem dL_law_31 : decode cL_law 31 = .ok (.iconst 0, 1) := dk_3 (dk_at dksL_law_1 9 rfl rfl)
theorem dL_law_32 : decode cL_law 32 = .ok (.istore 6, 2) := dk_54 6 (dk_at dksL_law_1 10 rfl rfl)
theorem dL_law_34 : decode cL_law 34 = .ok (.iload 6, 2) := dk_21 6 (dk_at dksL_law_1 12 rfl rfl)
theorem dL_law_36 : decode cL_law 36 = .ok (.iconst 3, 1) := dk_6 (dk_at dksL_law_1 14 rfl rfl)
theorem dL_law_37 : decode cL_law 37 = .ok (.if_icmp .ge 63, 3) := dk_162 0 63 (dk_at dksL_law_1 15 rfl rfl)
theorem dL_law_40 : decode cL_law 40 = .ok (.iconst 0, 1) := dk_3 (dk_at dksL_law_1 18 rfl rfl)
theorem dL_law_41 : decode cL_law 41 = .ok (.istore 7, 2) := dk_54 7 (dk_at dksL_law_1 19 rfl rfl)
theorem dL_law_43 : decode cL_law 43 = .ok (.iload 7, 2) := dk_21 7 (dk_at dksL_law_1 21 rfl rfl)
theorem dL_law_45 : decode cL_law 45 = .ok (.sipush 256, 3) := dk_17 1 0 (dk_at dksL_law_2 0 rfl rfl)
theorem dL_law_48 : decode cL_law 48 = .ok (.if_icmp .ge 46, 3) := dk_162 0 46 (dk_at dksL_law_2 3 rfl rfl)
theorem dL_law_51 : decode cL_law 51 = .ok (.aload 5, 2) := dk_25 5 (dk_at dksL_law_2 6 rfl rfl)
theorem dL_law_53 : decode cL_law 53 = .ok (.iload 6, 2) := dk_21 6 (dk_at dksL_law_2 8 rfl rfl)
theorem dL_law_55 : decode cL_law 55 = .ok (.aaload, 1) := dk_50 (dk_at dksL_law_2 10 rfl rfl)
theorem dL_law_56 : decode cL_law 56 = .ok (.iload 7, 2) := dk_21 7 (dk_at dksL_law_2 11 rfl rfl)
theorem dL_law_58 : decode cL_law 58 = .ok (.aload_n 0, 1) := dk_42 (dk_at dksL_law_2 13 rfl rfl)
theorem dL_law_59 : decode cL_law 59 = .ok (.iconst 2, 1) := dk_5 (dk_at dksL_law_2 14 rfl rfl)
theorem dL_law_60 : decode cL_law 60 = .ok (.iload 6, 2) := dk_21 6 (dk_at dksL_law_2 15 rfl rfl)
theorem dL_law_62 : decode cL_law 62 = .ok (.imul, 1) := dk_104 (dk_at dksL_law_2 17 rfl rfl)
theorem dL_law_63 : decode cL_law 63 = .ok (.invokestatic 10, 3) := dk_184 0 10 (dk_at dksL_law_2 18 rfl rfl)
theorem dL_law_66 : decode cL_law 66 = .ok (.iload 7, 2) := dk_21 7 (dk_at dksL_law_2 21 rfl rfl)
theorem dL_law_68 : decode cL_law 68 = .ok (.aload_n 0, 1) := dk_42 (dk_at dksL_law_2 23 rfl rfl)
theorem dL_law_69 : decode cL_law 69 = .ok (.iconst 2, 1) := dk_5 (dk_at dksL_law_3 0 rfl rfl)
theorem dL_law_70 : decode cL_law 70 = .ok (.iload 6, 2) := dk_21 6 (dk_at dksL_law_3 1 rfl rfl)
theorem dL_law_72 : decode cL_law 72 = .ok (.imul, 1) := dk_104 (dk_at dksL_law_3 3 rfl rfl)
theorem dL_law_73 : decode cL_law 73 = .ok (.iconst 1, 1) := dk_4 (dk_at dksL_law_3 4 rfl rfl)
theorem dL_law_74 : decode cL_law 74 = .ok (.iadd, 1) := dk_96 (dk_at dksL_law_3 5 rfl rfl)
theorem dL_law_75 : decode cL_law 75 = .ok (.invokestatic 10, 3) := dk_184 0 10 (dk_at dksL_law_3 6 rfl rfl)
theorem dL_law_78 : decode cL_law 78 = .ok (.imul, 1) := dk_104 (dk_at dksL_law_3 9 rfl rfl)
theorem dL_law_79 : decode cL_law 79 = .ok (.iadd, 1) := dk_96 (dk_at dksL_law_3 10 rfl rfl)
theorem dL_law_80 : decode cL_law 80 = .ok (.ldc 33, 2) := dk_18 33 (dk_at dksL_law_3 11 rfl rfl)
theorem dL_law_82 : decode cL_law 82 = .ok (.iand, 1) := dk_126 (dk_at dksL_law_3 13 rfl rfl)
theorem dL_law_83 : decode cL_law 83 = .ok (.sipush 3329, 3) := dk_17 13 1 (dk_at dksL_law_3 14 rfl rfl)
theorem dL_law_86 : decode cL_law 86 = .ok (.irem, 1) := dk_112 (dk_at dksL_law_3 17 rfl rfl)
theorem dL_law_87 : decode cL_law 87 = .ok (.iastore, 1) := dk_79 (dk_at dksL_law_3 18 rfl rfl)
theorem dL_law_88 : decode cL_law 88 = .ok (.iinc 7 1, 3) := dk_132 7 1 (dk_at dksL_law_3 19 rfl rfl)
theorem dL_law_91 : decode cL_law 91 = .ok (.goto (-48), 3) := dk_167 255 208 (dk_at dksL_law_4 0 rfl rfl)
theorem dL_law_94 : decode cL_law 94 = .ok (.iinc 6 1, 3) := dk_132 6 1 (dk_at dksL_law_4 3 rfl rfl)
theorem dL_law_97 : decode cL_law 97 = .ok (.goto (-63), 3) := dk_167 255 193 (dk_at dksL_law_4 6 rfl rfl)
theorem dL_law_100 : decode cL_law 100 = .ok (.bipush 6, 2) := dk_16 6 (dk_at dksL_law_4 9 rfl rfl)
theorem dL_law_102 : decode cL_law 102 = .ok (.istore 6, 2) := dk_54 6 (dk_at dksL_law_4 11 rfl rfl)
theorem dL_law_104 : decode cL_law 104 = .ok (.iload 6, 2) := dk_21 6 (dk_at dksL_law_4 13 rfl rfl)
theorem dL_law_106 : decode cL_law 106 = .ok (.iconst 1, 1) := dk_4 (dk_at dksL_law_4 15 rfl rfl)
theorem dL_law_107 : decode cL_law 107 = .ok (.iadd, 1) := dk_96 (dk_at dksL_law_4 16 rfl rfl)
theorem dL_law_108 : decode cL_law 108 = .ok (.aload_n 0, 1) := dk_42 (dk_at dksL_law_4 17 rfl rfl)
theorem dL_law_109 : decode cL_law 109 = .ok (.arraylength, 1) := dk_190 (dk_at dksL_law_4 18 rfl rfl)
theorem dL_law_110 : decode cL_law 110 = .ok (.if_icmp .ge 40, 3) := dk_162 0 40 (dk_at dksL_law_4 19 rfl rfl)
theorem dL_law_113 : decode cL_law 113 = .ok (.aload 5, 2) := dk_25 5 (dk_at dksL_law_4 22 rfl rfl)
theorem dL_law_115 : decode cL_law 115 = .ok (.iload 6, 2) := dk_21 6 (dk_at dksL_law_5 0 rfl rfl)
theorem dL_law_117 : decode cL_law 117 = .ok (.iconst 1, 1) := dk_4 (dk_at dksL_law_5 2 rfl rfl)
theorem dL_law_118 : decode cL_law 118 = .ok (.ishr, 1) := dk_122 (dk_at dksL_law_5 3 rfl rfl)
theorem dL_law_119 : decode cL_law 119 = .ok (.iconst 1, 1) := dk_4 (dk_at dksL_law_5 4 rfl rfl)
theorem dL_law_120 : decode cL_law 120 = .ok (.iand, 1) := dk_126 (dk_at dksL_law_5 5 rfl rfl)
theorem dL_law_121 : decode cL_law 121 = .ok (.aaload, 1) := dk_50 (dk_at dksL_law_5 6 rfl rfl)
theorem dL_law_122 : decode cL_law 122 = .ok (.aload_n 0, 1) := dk_42 (dk_at dksL_law_5 7 rfl rfl)
theorem dL_law_123 : decode cL_law 123 = .ok (.iload 6, 2) := dk_21 6 (dk_at dksL_law_5 8 rfl rfl)
theorem dL_law_125 : decode cL_law 125 = .ok (.iaload, 1) := dk_46 (dk_at dksL_law_5 10 rfl rfl)
theorem dL_law_126 : decode cL_law 126 = .ok (.sipush 255, 3) := dk_17 0 255 (dk_at dksL_law_5 11 rfl rfl)
theorem dL_law_129 : decode cL_law 129 = .ok (.iand, 1) := dk_126 (dk_at dksL_law_5 14 rfl rfl)
theorem dL_law_130 : decode cL_law 130 = .ok (.aload_n 0, 1) := dk_42 (dk_at dksL_law_5 15 rfl rfl)
theorem dL_law_131 : decode cL_law 131 = .ok (.iload 6, 2) := dk_21 6 (dk_at dksL_law_5 16 rfl rfl)
theorem dL_law_133 : decode cL_law 133 = .ok (.iconst 1, 1) := dk_4 (dk_at dksL_law_5 18 rfl rfl)
theorem dL_law_134 : decode cL_law 134 = .ok (.iadd, 1) := dk_96 (dk_at dksL_law_5 19 rfl rfl)
theorem dL_law_135 : decode cL_law 135 = .ok (.iaload, 1) := dk_46 (dk_at dksL_law_5 20 rfl rfl)
theorem dL_law_136 : decode cL_law 136 = .ok (.ldc 33, 2) := dk_18 33 (dk_at dksL_law_5 21 rfl rfl)
theorem dL_law_138 : decode cL_law 138 = .ok (.iand, 1) := dk_126 (dk_at dksL_law_5 23 rfl rfl)
theorem dL_law_139 : decode cL_law 139 = .ok (.sipush 3329, 3) := dk_17 13 1 (dk_at dksL_law_6 0 rfl rfl)
theorem dL_law_142 : decode cL_law 142 = .ok (.irem, 1) := dk_112 (dk_at dksL_law_6 3 rfl rfl)
theorem dL_law_143 : decode cL_law 143 = .ok (.iastore, 1) := dk_79 (dk_at dksL_law_6 4 rfl rfl)
theorem dL_law_144 : decode cL_law 144 = .ok (.iinc 6 2, 3) := dk_132 6 2 (dk_at dksL_law_6 5 rfl rfl)
theorem dL_law_147 : decode cL_law 147 = .ok (.goto (-43), 3) := dk_167 255 213 (dk_at dksL_law_6 8 rfl rfl)
theorem dL_law_150 : decode cL_law 150 = .ok (.iconst 0, 1) := dk_3 (dk_at dksL_law_6 11 rfl rfl)
theorem dL_law_151 : decode cL_law 151 = .ok (.istore 6, 2) := dk_54 6 (dk_at dksL_law_6 12 rfl rfl)
theorem dL_law_153 : decode cL_law 153 = .ok (.iload 6, 2) := dk_21 6 (dk_at dksL_law_6 14 rfl rfl)
theorem dL_law_155 : decode cL_law 155 = .ok (.iconst 3, 1) := dk_6 (dk_at dksL_law_6 16 rfl rfl)
theorem dL_law_156 : decode cL_law 156 = .ok (.if_icmp .ge 47, 3) := dk_162 0 47 (dk_at dksL_law_6 17 rfl rfl)
theorem dL_law_159 : decode cL_law 159 = .ok (.iconst 0, 1) := dk_3 (dk_at dksL_law_6 20 rfl rfl)
theorem dL_law_160 : decode cL_law 160 = .ok (.istore 7, 2) := dk_54 7 (dk_at dksL_law_6 21 rfl rfl)
theorem dL_law_162 : decode cL_law 162 = .ok (.iload 7, 2) := dk_21 7 (dk_at dksL_law_7 0 rfl rfl)
theorem dL_law_164 : decode cL_law 164 = .ok (.sipush 256, 3) := dk_17 1 0 (dk_at dksL_law_7 2 rfl rfl)
theorem dL_law_167 : decode cL_law 167 = .ok (.if_icmp .ge 30, 3) := dk_162 0 30 (dk_at dksL_law_7 5 rfl rfl)
theorem dL_law_170 : decode cL_law 170 = .ok (.aload_n 1, 1) := dk_43 (dk_at dksL_law_7 8 rfl rfl)
theorem dL_law_171 : decode cL_law 171 = .ok (.iload 6, 2) := dk_21 6 (dk_at dksL_law_7 9 rfl rfl)
theorem dL_law_173 : decode cL_law 173 = .ok (.iload 7, 2) := dk_21 7 (dk_at dksL_law_7 11 rfl rfl)
theorem dL_law_175 : decode cL_law 175 = .ok (.invokevirtual 23, 3) := dk_182 0 23 (dk_at dksL_law_7 13 rfl rfl)
theorem dL_law_178 : decode cL_law 178 = .ok (.aload 5, 2) := dk_25 5 (dk_at dksL_law_7 16 rfl rfl)
theorem dL_law_180 : decode cL_law 180 = .ok (.iload 6, 2) := dk_21 6 (dk_at dksL_law_7 18 rfl rfl)
theorem dL_law_182 : decode cL_law 182 = .ok (.aaload, 1) := dk_50 (dk_at dksL_law_7 20 rfl rfl)
theorem dL_law_183 : decode cL_law 183 = .ok (.iload 7, 2) := dk_21 7 (dk_at dksL_law_7 21 rfl rfl)
theorem dL_law_185 : decode cL_law 185 = .ok (.iaload, 1) := dk_46 (dk_at dksL_law_7 23 rfl rfl)
theorem dL_law_186 : decode cL_law 186 = .ok (.if_icmp .eq 5, 3) := dk_159 0 5 (dk_at dksL_law_8 0 rfl rfl)
theorem dL_law_189 : decode cL_law 189 = .ok (.iconst 0, 1) := dk_3 (dk_at dksL_law_8 3 rfl rfl)
theorem dL_law_190 : decode cL_law 190 = .ok (.ireturn, 1) := dk_172 (dk_at dksL_law_8 4 rfl rfl)
theorem dL_law_191 : decode cL_law 191 = .ok (.iinc 7 1, 3) := dk_132 7 1 (dk_at dksL_law_8 5 rfl rfl)
theorem dL_law_194 : decode cL_law 194 = .ok (.goto (-32), 3) := dk_167 255 224 (dk_at dksL_law_8 8 rfl rfl)
theorem dL_law_197 : decode cL_law 197 = .ok (.iinc 6 1, 3) := dk_132 6 1 (dk_at dksL_law_8 11 rfl rfl)
theorem dL_law_200 : decode cL_law 200 = .ok (.goto (-47), 3) := dk_167 255 209 (dk_at dksL_law_8 14 rfl rfl)
theorem dL_law_203 : decode cL_law 203 = .ok (.aload_n 3, 1) := dk_45 (dk_at dksL_law_8 17 rfl rfl)
theorem dL_law_204 : decode cL_law 204 = .ok (.iconst 0, 1) := dk_3 (dk_at dksL_law_8 18 rfl rfl)
theorem dL_law_205 : decode cL_law 205 = .ok (.iconst 1, 1) := dk_4 (dk_at dksL_law_8 19 rfl rfl)
theorem dL_law_206 : decode cL_law 206 = .ok (.invokevirtual 34, 3) := dk_182 0 34 (dk_at dksL_law_8 20 rfl rfl)
theorem dL_law_209 : decode cL_law 209 = .ok (.aload 4, 2) := dk_25 4 (dk_at dksL_law_9 0 rfl rfl)
theorem dL_law_211 : decode cL_law 211 = .ok (.iconst 1, 1) := dk_4 (dk_at dksL_law_9 2 rfl rfl)
theorem dL_law_212 : decode cL_law 212 = .ok (.iconst 0, 1) := dk_3 (dk_at dksL_law_9 3 rfl rfl)
theorem dL_law_213 : decode cL_law 213 = .ok (.invokevirtual 34, 3) := dk_182 0 34 (dk_at dksL_law_9 4 rfl rfl)
theorem dL_law_216 : decode cL_law 216 = .ok (.iconst 0, 1) := dk_3 (dk_at dksL_law_9 7 rfl rfl)
theorem dL_law_217 : decode cL_law 217 = .ok (.istore 6, 2) := dk_54 6 (dk_at dksL_law_9 8 rfl rfl)
theorem dL_law_219 : decode cL_law 219 = .ok (.iload 6, 2) := dk_21 6 (dk_at dksL_law_9 10 rfl rfl)
theorem dL_law_221 : decode cL_law 221 = .ok (.sipush 256, 3) := dk_17 1 0 (dk_at dksL_law_9 12 rfl rfl)
theorem dL_law_224 : decode cL_law 224 = .ok (.if_icmp .ge 57, 3) := dk_162 0 57 (dk_at dksL_law_9 15 rfl rfl)
theorem dL_law_227 : decode cL_law 227 = .ok (.aload_n 1, 1) := dk_43 (dk_at dksL_law_9 18 rfl rfl)
theorem dL_law_228 : decode cL_law 228 = .ok (.iconst 0, 1) := dk_3 (dk_at dksL_law_9 19 rfl rfl)
theorem dL_law_229 : decode cL_law 229 = .ok (.iload 6, 2) := dk_21 6 (dk_at dksL_law_9 20 rfl rfl)
theorem dL_law_231 : decode cL_law 231 = .ok (.invokevirtual 23, 3) := dk_182 0 23 (dk_at dksL_law_10 0 rfl rfl)
theorem dL_law_234 : decode cL_law 234 = .ok (.aload_n 1, 1) := dk_43 (dk_at dksL_law_10 3 rfl rfl)
theorem dL_law_235 : decode cL_law 235 = .ok (.iconst 1, 1) := dk_4 (dk_at dksL_law_10 4 rfl rfl)
theorem dL_law_236 : decode cL_law 236 = .ok (.iload 6, 2) := dk_21 6 (dk_at dksL_law_10 5 rfl rfl)
theorem dL_law_238 : decode cL_law 238 = .ok (.invokevirtual 23, 3) := dk_182 0 23 (dk_at dksL_law_10 7 rfl rfl)
theorem dL_law_241 : decode cL_law 241 = .ok (.iadd, 1) := dk_96 (dk_at dksL_law_10 10 rfl rfl)
theorem dL_law_242 : decode cL_law 242 = .ok (.sipush 3329, 3) := dk_17 13 1 (dk_at dksL_law_10 11 rfl rfl)
theorem dL_law_245 : decode cL_law 245 = .ok (.irem, 1) := dk_112 (dk_at dksL_law_10 14 rfl rfl)
theorem dL_law_246 : decode cL_law 246 = .ok (.istore 7, 2) := dk_54 7 (dk_at dksL_law_10 15 rfl rfl)
theorem dL_law_248 : decode cL_law 248 = .ok (.aload_n 3, 1) := dk_45 (dk_at dksL_law_10 17 rfl rfl)
theorem dL_law_249 : decode cL_law 249 = .ok (.iconst 0, 1) := dk_3 (dk_at dksL_law_10 18 rfl rfl)
theorem dL_law_250 : decode cL_law 250 = .ok (.iload 6, 2) := dk_21 6 (dk_at dksL_law_10 19 rfl rfl)
theorem dL_law_252 : decode cL_law 252 = .ok (.invokevirtual 23, 3) := dk_182 0 23 (dk_at dksL_law_10 21 rfl rfl)
theorem dL_law_255 : decode cL_law 255 = .ok (.iload 7, 2) := dk_21 7 (dk_at dksL_law_11 0 rfl rfl)
theorem dL_law_257 : decode cL_law 257 = .ok (.if_icmp .ne 16, 3) := dk_160 0 16 (dk_at dksL_law_11 2 rfl rfl)
theorem dL_law_260 : decode cL_law 260 = .ok (.aload 4, 2) := dk_25 4 (dk_at dksL_law_11 5 rfl rfl)
theorem dL_law_262 : decode cL_law 262 = .ok (.iconst 1, 1) := dk_4 (dk_at dksL_law_11 7 rfl rfl)
theorem dL_law_263 : decode cL_law 263 = .ok (.iload 6, 2) := dk_21 6 (dk_at dksL_law_11 8 rfl rfl)
theorem dL_law_265 : decode cL_law 265 = .ok (.invokevirtual 23, 3) := dk_182 0 23 (dk_at dksL_law_11 10 rfl rfl)
theorem dL_law_268 : decode cL_law 268 = .ok (.iload 7, 2) := dk_21 7 (dk_at dksL_law_11 13 rfl rfl)
theorem dL_law_270 : decode cL_law 270 = .ok (.if_icmp .eq 5, 3) := dk_159 0 5 (dk_at dksL_law_11 15 rfl rfl)
theorem dL_law_273 : decode cL_law 273 = .ok (.iconst 0, 1) := dk_3 (dk_at dksL_law_11 18 rfl rfl)
theorem dL_law_274 : decode cL_law 274 = .ok (.ireturn, 1) := dk_172 (dk_at dksL_law_11 19 rfl rfl)
theorem dL_law_275 : decode cL_law 275 = .ok (.iinc 6 1, 3) := dk_132 6 1 (dk_at dksL_law_11 20 rfl rfl)
theorem dL_law_278 : decode cL_law 278 = .ok (.goto (-59), 3) := dk_167 255 197 (dk_at dksL_law_12 0 rfl rfl)
theorem dL_law_281 : decode cL_law 281 = .ok (.aload_n 1, 1) := dk_43 (dk_at dksL_law_12 3 rfl rfl)
theorem dL_law_282 : decode cL_law 282 = .ok (.iconst 3, 1) := dk_6 (dk_at dksL_law_12 4 rfl rfl)
theorem dL_law_283 : decode cL_law 283 = .ok (.iconst 0, 1) := dk_3 (dk_at dksL_law_12 5 rfl rfl)
theorem dL_law_284 : decode cL_law 284 = .ok (.iconst 1, 1) := dk_4 (dk_at dksL_law_12 6 rfl rfl)
theorem dL_law_285 : decode cL_law 285 = .ok (.invokevirtual 38, 3) := dk_182 0 38 (dk_at dksL_law_12 7 rfl rfl)
theorem dL_law_288 : decode cL_law 288 = .ok (.aload_n 2, 1) := dk_44 (dk_at dksL_law_12 10 rfl rfl)
theorem dL_law_289 : decode cL_law 289 = .ok (.iconst 3, 1) := dk_6 (dk_at dksL_law_12 11 rfl rfl)
theorem dL_law_290 : decode cL_law 290 = .ok (.iconst 1, 1) := dk_4 (dk_at dksL_law_12 12 rfl rfl)
theorem dL_law_291 : decode cL_law 291 = .ok (.iconst 0, 1) := dk_3 (dk_at dksL_law_12 13 rfl rfl)
theorem dL_law_292 : decode cL_law 292 = .ok (.invokevirtual 38, 3) := dk_182 0 38 (dk_at dksL_law_12 14 rfl rfl)
theorem dL_law_295 : decode cL_law 295 = .ok (.aload_n 1, 1) := dk_43 (dk_at dksL_law_12 17 rfl rfl)
theorem dL_law_296 : decode cL_law 296 = .ok (.iconst 3, 1) := dk_6 (dk_at dksL_law_12 18 rfl rfl)
theorem dL_law_297 : decode cL_law 297 = .ok (.aload_n 2, 1) := dk_44 (dk_at dksL_law_12 19 rfl rfl)
theorem dL_law_298 : decode cL_law 298 = .ok (.iconst 3, 1) := dk_6 (dk_at dksL_law_12 20 rfl rfl)
theorem dL_law_299 : decode cL_law 299 = .ok (.invokestatic 41, 3) := dk_184 0 41 (dk_at dksL_law_12 21 rfl rfl)
theorem dL_law_302 : decode cL_law 302 = .ok (.ifCond .ne 5, 3) := dk_154 0 5 (dk_at dksL_law_13 0 rfl rfl)
theorem dL_law_305 : decode cL_law 305 = .ok (.iconst 0, 1) := dk_3 (dk_at dksL_law_13 3 rfl rfl)
theorem dL_law_306 : decode cL_law 306 = .ok (.ireturn, 1) := dk_172 (dk_at dksL_law_13 4 rfl rfl)
theorem dL_law_307 : decode cL_law 307 = .ok (.aload_n 1, 1) := dk_43 (dk_at dksL_law_13 5 rfl rfl)
theorem dL_law_308 : decode cL_law 308 = .ok (.iconst 3, 1) := dk_6 (dk_at dksL_law_13 6 rfl rfl)
theorem dL_law_309 : decode cL_law 309 = .ok (.iconst 3, 1) := dk_6 (dk_at dksL_law_13 7 rfl rfl)
theorem dL_law_310 : decode cL_law 310 = .ok (.iconst 2, 1) := dk_5 (dk_at dksL_law_13 8 rfl rfl)
theorem dL_law_311 : decode cL_law 311 = .ok (.invokevirtual 38, 3) := dk_182 0 38 (dk_at dksL_law_13 9 rfl rfl)
theorem dL_law_314 : decode cL_law 314 = .ok (.aload_n 2, 1) := dk_44 (dk_at dksL_law_13 12 rfl rfl)
theorem dL_law_315 : decode cL_law 315 = .ok (.iconst 3, 1) := dk_6 (dk_at dksL_law_13 13 rfl rfl)
theorem dL_law_316 : decode cL_law 316 = .ok (.iconst 1, 1) := dk_4 (dk_at dksL_law_13 14 rfl rfl)
theorem dL_law_317 : decode cL_law 317 = .ok (.iconst 2, 1) := dk_5 (dk_at dksL_law_13 15 rfl rfl)
theorem dL_law_318 : decode cL_law 318 = .ok (.invokevirtual 38, 3) := dk_182 0 38 (dk_at dksL_law_13 16 rfl rfl)
theorem dL_law_321 : decode cL_law 321 = .ok (.aload_n 2, 1) := dk_44 (dk_at dksL_law_13 19 rfl rfl)
theorem dL_law_322 : decode cL_law 322 = .ok (.iconst 3, 1) := dk_6 (dk_at dksL_law_13 20 rfl rfl)
theorem dL_law_323 : decode cL_law 323 = .ok (.iconst 0, 1) := dk_3 (dk_at dksL_law_13 21 rfl rfl)
theorem dL_law_324 : decode cL_law 324 = .ok (.iconst 3, 1) := dk_6 (dk_at dksL_law_13 22 rfl rfl)
theorem dL_law_325 : decode cL_law 325 = .ok (.invokevirtual 38, 3) := dk_182 0 38 (dk_at dksL_law_14 0 rfl rfl)
theorem dL_law_328 : decode cL_law 328 = .ok (.aload_n 1, 1) := dk_43 (dk_at dksL_law_14 3 rfl rfl)
theorem dL_law_329 : decode cL_law 329 = .ok (.iconst 3, 1) := dk_6 (dk_at dksL_law_14 4 rfl rfl)
theorem dL_law_330 : decode cL_law 330 = .ok (.aload_n 2, 1) := dk_44 (dk_at dksL_law_14 5 rfl rfl)
theorem dL_law_331 : decode cL_law 331 = .ok (.iconst 3, 1) := dk_6 (dk_at dksL_law_14 6 rfl rfl)
theorem dL_law_332 : decode cL_law 332 = .ok (.invokestatic 41, 3) := dk_184 0 41 (dk_at dksL_law_14 7 rfl rfl)
theorem dL_law_335 : decode cL_law 335 = .ok (.ifCond .ne 5, 3) := dk_154 0 5 (dk_at dksL_law_14 10 rfl rfl)
theorem dL_law_338 : decode cL_law 338 = .ok (.iconst 0, 1) := dk_3 (dk_at dksL_law_14 13 rfl rfl)
theorem dL_law_339 : decode cL_law 339 = .ok (.ireturn, 1) := dk_172 (dk_at dksL_law_14 14 rfl rfl)
theorem dL_law_340 : decode cL_law 340 = .ok (.aload_n 1, 1) := dk_43 (dk_at dksL_law_14 15 rfl rfl)
theorem dL_law_341 : decode cL_law 341 = .ok (.iconst 3, 1) := dk_6 (dk_at dksL_law_14 16 rfl rfl)
theorem dL_law_342 : decode cL_law 342 = .ok (.iconst 0, 1) := dk_3 (dk_at dksL_law_14 17 rfl rfl)
theorem dL_law_343 : decode cL_law 343 = .ok (.iconst 0, 1) := dk_3 (dk_at dksL_law_14 18 rfl rfl)
theorem dL_law_344 : decode cL_law 344 = .ok (.invokevirtual 16, 3) := dk_182 0 16 (dk_at dksL_law_14 19 rfl rfl)
theorem dL_law_347 : decode cL_law 347 = .ok (.aload_n 1, 1) := dk_43 (dk_at dksL_law_14 22 rfl rfl)
theorem dL_law_348 : decode cL_law 348 = .ok (.iconst 3, 1) := dk_6 (dk_at dksL_law_14 23 rfl rfl)
theorem dL_law_349 : decode cL_law 349 = .ok (.iconst 0, 1) := dk_3 (dk_at dksL_law_15 0 rfl rfl)
theorem dL_law_350 : decode cL_law 350 = .ok (.iconst 1, 1) := dk_4 (dk_at dksL_law_15 1 rfl rfl)
theorem dL_law_351 : decode cL_law 351 = .ok (.invokevirtual 20, 3) := dk_182 0 20 (dk_at dksL_law_15 2 rfl rfl)
theorem dL_law_354 : decode cL_law 354 = .ok (.aload_n 1, 1) := dk_43 (dk_at dksL_law_15 5 rfl rfl)
theorem dL_law_355 : decode cL_law 355 = .ok (.iconst 3, 1) := dk_6 (dk_at dksL_law_15 6 rfl rfl)
theorem dL_law_356 : decode cL_law 356 = .ok (.iconst 0, 1) := dk_3 (dk_at dksL_law_15 7 rfl rfl)
theorem dL_law_357 : decode cL_law 357 = .ok (.iconst 3, 1) := dk_6 (dk_at dksL_law_15 8 rfl rfl)
theorem dL_law_358 : decode cL_law 358 = .ok (.invokevirtual 38, 3) := dk_182 0 38 (dk_at dksL_law_15 9 rfl rfl)
theorem dL_law_361 : decode cL_law 361 = .ok (.aload_n 1, 1) := dk_43 (dk_at dksL_law_15 12 rfl rfl)
theorem dL_law_362 : decode cL_law 362 = .ok (.iconst 3, 1) := dk_6 (dk_at dksL_law_15 13 rfl rfl)
theorem dL_law_363 : decode cL_law 363 = .ok (.aload_n 1, 1) := dk_43 (dk_at dksL_law_15 14 rfl rfl)
theorem dL_law_364 : decode cL_law 364 = .ok (.iconst 0, 1) := dk_3 (dk_at dksL_law_15 15 rfl rfl)
theorem dL_law_365 : decode cL_law 365 = .ok (.invokestatic 41, 3) := dk_184 0 41 (dk_at dksL_law_15 16 rfl rfl)
theorem dL_law_368 : decode cL_law 368 = .ok (.ifCond .ne 5, 3) := dk_154 0 5 (dk_at dksL_law_15 19 rfl rfl)
theorem dL_law_371 : decode cL_law 371 = .ok (.iconst 0, 1) := dk_3 (dk_at dksL_law_15 22 rfl rfl)
theorem dL_law_372 : decode cL_law 372 = .ok (.ireturn, 1) := dk_172 (dk_at dksL_law_15 23 rfl rfl)
theorem dL_law_373 : decode cL_law 373 = .ok (.aload_n 1, 1) := dk_43 (dk_at dksL_law_16 0 rfl rfl)
theorem dL_law_374 : decode cL_law 374 = .ok (.iconst 3, 1) := dk_6 (dk_at dksL_law_16 1 rfl rfl)
theorem dL_law_375 : decode cL_law 375 = .ok (.iconst 0, 1) := dk_3 (dk_at dksL_law_16 2 rfl rfl)
theorem dL_law_376 : decode cL_law 376 = .ok (.iconst 0, 1) := dk_3 (dk_at dksL_law_16 3 rfl rfl)
theorem dL_law_377 : decode cL_law 377 = .ok (.invokevirtual 16, 3) := dk_182 0 16 (dk_at dksL_law_16 4 rfl rfl)
theorem dL_law_380 : decode cL_law 380 = .ok (.aload_n 1, 1) := dk_43 (dk_at dksL_law_16 7 rfl rfl)
theorem dL_law_381 : decode cL_law 381 = .ok (.iconst 3, 1) := dk_6 (dk_at dksL_law_16 8 rfl rfl)
theorem dL_law_382 : decode cL_law 382 = .ok (.iconst 1, 1) := dk_4 (dk_at dksL_law_16 9 rfl rfl)
theorem dL_law_383 : decode cL_law 383 = .ok (.iconst 1, 1) := dk_4 (dk_at dksL_law_16 10 rfl rfl)
theorem dL_law_384 : decode cL_law 384 = .ok (.invokevirtual 20, 3) := dk_182 0 20 (dk_at dksL_law_16 11 rfl rfl)
theorem dL_law_387 : decode cL_law 387 = .ok (.aload_n 1, 1) := dk_43 (dk_at dksL_law_16 14 rfl rfl)
theorem dL_law_388 : decode cL_law 388 = .ok (.iconst 3, 1) := dk_6 (dk_at dksL_law_16 15 rfl rfl)
theorem dL_law_389 : decode cL_law 389 = .ok (.iconst 0, 1) := dk_3 (dk_at dksL_law_16 16 rfl rfl)
theorem dL_law_390 : decode cL_law 390 = .ok (.iconst 3, 1) := dk_6 (dk_at dksL_law_16 17 rfl rfl)
theorem dL_law_391 : decode cL_law 391 = .ok (.invokevirtual 38, 3) := dk_182 0 38 (dk_at dksL_law_16 18 rfl rfl)
theorem dL_law_394 : decode cL_law 394 = .ok (.iconst 0, 1) := dk_3 (dk_at dksL_law_16 21 rfl rfl)
theorem dL_law_395 : decode cL_law 395 = .ok (.istore 6, 2) := dk_54 6 (dk_at dksL_law_16 22 rfl rfl)
theorem dL_law_397 : decode cL_law 397 = .ok (.iload 6, 2) := dk_21 6 (dk_at dksL_law_17 0 rfl rfl)
theorem dL_law_399 : decode cL_law 399 = .ok (.sipush 255, 3) := dk_17 0 255 (dk_at dksL_law_17 2 rfl rfl)
theorem dL_law_402 : decode cL_law 402 = .ok (.if_icmp .ge 30, 3) := dk_162 0 30 (dk_at dksL_law_17 5 rfl rfl)
theorem dL_law_405 : decode cL_law 405 = .ok (.aload_n 1, 1) := dk_43 (dk_at dksL_law_17 8 rfl rfl)
theorem dL_law_406 : decode cL_law 406 = .ok (.iconst 3, 1) := dk_6 (dk_at dksL_law_17 9 rfl rfl)
theorem dL_law_407 : decode cL_law 407 = .ok (.iload 6, 2) := dk_21 6 (dk_at dksL_law_17 10 rfl rfl)
theorem dL_law_409 : decode cL_law 409 = .ok (.iconst 1, 1) := dk_4 (dk_at dksL_law_17 12 rfl rfl)
theorem dL_law_410 : decode cL_law 410 = .ok (.iadd, 1) := dk_96 (dk_at dksL_law_17 13 rfl rfl)
theorem dL_law_411 : decode cL_law 411 = .ok (.invokevirtual 23, 3) := dk_182 0 23 (dk_at dksL_law_17 14 rfl rfl)
theorem dL_law_414 : decode cL_law 414 = .ok (.aload_n 1, 1) := dk_43 (dk_at dksL_law_17 17 rfl rfl)
theorem dL_law_415 : decode cL_law 415 = .ok (.iconst 0, 1) := dk_3 (dk_at dksL_law_17 18 rfl rfl)
theorem dL_law_416 : decode cL_law 416 = .ok (.iload 6, 2) := dk_21 6 (dk_at dksL_law_17 19 rfl rfl)
theorem dL_law_418 : decode cL_law 418 = .ok (.invokevirtual 23, 3) := dk_182 0 23 (dk_at dksL_law_17 21 rfl rfl)
theorem dL_law_421 : decode cL_law 421 = .ok (.if_icmp .eq 5, 3) := dk_159 0 5 (dk_at dksL_law_18 0 rfl rfl)
theorem dL_law_424 : decode cL_law 424 = .ok (.iconst 0, 1) := dk_3 (dk_at dksL_law_18 3 rfl rfl)
theorem dL_law_425 : decode cL_law 425 = .ok (.ireturn, 1) := dk_172 (dk_at dksL_law_18 4 rfl rfl)
theorem dL_law_426 : decode cL_law 426 = .ok (.iinc 6 1, 3) := dk_132 6 1 (dk_at dksL_law_18 5 rfl rfl)
theorem dL_law_429 : decode cL_law 429 = .ok (.goto (-32), 3) := dk_167 255 224 (dk_at dksL_law_18 8 rfl rfl)
theorem dL_law_432 : decode cL_law 432 = .ok (.aload_n 1, 1) := dk_43 (dk_at dksL_law_18 11 rfl rfl)
theorem dL_law_433 : decode cL_law 433 = .ok (.iconst 3, 1) := dk_6 (dk_at dksL_law_18 12 rfl rfl)
theorem dL_law_434 : decode cL_law 434 = .ok (.iconst 0, 1) := dk_3 (dk_at dksL_law_18 13 rfl rfl)
theorem dL_law_435 : decode cL_law 435 = .ok (.invokevirtual 23, 3) := dk_182 0 23 (dk_at dksL_law_18 14 rfl rfl)
theorem dL_law_438 : decode cL_law 438 = .ok (.aload_n 1, 1) := dk_43 (dk_at dksL_law_18 17 rfl rfl)
theorem dL_law_439 : decode cL_law 439 = .ok (.iconst 0, 1) := dk_3 (dk_at dksL_law_18 18 rfl rfl)
theorem dL_law_440 : decode cL_law 440 = .ok (.sipush 255, 3) := dk_17 0 255 (dk_at dksL_law_18 19 rfl rfl)
theorem dL_law_443 : decode cL_law 443 = .ok (.invokevirtual 23, 3) := dk_182 0 23 (dk_at dksL_law_19 0 rfl rfl)
theorem dL_law_446 : decode cL_law 446 = .ok (.iadd, 1) := dk_96 (dk_at dksL_law_19 3 rfl rfl)
theorem dL_law_447 : decode cL_law 447 = .ok (.sipush 3329, 3) := dk_17 13 1 (dk_at dksL_law_19 4 rfl rfl)
theorem dL_law_450 : decode cL_law 450 = .ok (.irem, 1) := dk_112 (dk_at dksL_law_19 7 rfl rfl)
theorem dL_law_451 : decode cL_law 451 = .ok (.ifCond .eq 5, 3) := dk_153 0 5 (dk_at dksL_law_19 8 rfl rfl)
theorem dL_law_454 : decode cL_law 454 = .ok (.iconst 0, 1) := dk_3 (dk_at dksL_law_19 11 rfl rfl)
theorem dL_law_455 : decode cL_law 455 = .ok (.ireturn, 1) := dk_172 (dk_at dksL_law_19 12 rfl rfl)
theorem dL_law_456 : decode cL_law 456 = .ok (.aload_n 2, 1) := dk_44 (dk_at dksL_law_19 13 rfl rfl)
theorem dL_law_457 : decode cL_law 457 = .ok (.iconst 3, 1) := dk_6 (dk_at dksL_law_19 14 rfl rfl)
theorem dL_law_458 : decode cL_law 458 = .ok (.iconst 0, 1) := dk_3 (dk_at dksL_law_19 15 rfl rfl)
theorem dL_law_459 : decode cL_law 459 = .ok (.iconst 2, 1) := dk_5 (dk_at dksL_law_19 16 rfl rfl)
theorem dL_law_460 : decode cL_law 460 = .ok (.invokevirtual 38, 3) := dk_182 0 38 (dk_at dksL_law_19 17 rfl rfl)
theorem dL_law_463 : decode cL_law 463 = .ok (.aload_n 2, 1) := dk_44 (dk_at dksL_law_19 20 rfl rfl)
theorem dL_law_464 : decode cL_law 464 = .ok (.iconst 2, 1) := dk_5 (dk_at dksL_law_19 21 rfl rfl)
theorem dL_law_465 : decode cL_law 465 = .ok (.iconst 1, 1) := dk_4 (dk_at dksL_law_19 22 rfl rfl)
theorem dL_law_466 : decode cL_law 466 = .ok (.iconst 2, 1) := dk_5 (dk_at dksL_law_19 23 rfl rfl)
theorem dL_law_467 : decode cL_law 467 = .ok (.invokevirtual 38, 3) := dk_182 0 38 (dk_at dksL_law_20 0 rfl rfl)
theorem dL_law_470 : decode cL_law 470 = .ok (.aload_n 2, 1) := dk_44 (dk_at dksL_law_20 3 rfl rfl)
theorem dL_law_471 : decode cL_law 471 = .ok (.iconst 3, 1) := dk_6 (dk_at dksL_law_20 4 rfl rfl)
theorem dL_law_472 : decode cL_law 472 = .ok (.iconst 2, 1) := dk_5 (dk_at dksL_law_20 5 rfl rfl)
theorem dL_law_473 : decode cL_law 473 = .ok (.invokevirtual 34, 3) := dk_182 0 34 (dk_at dksL_law_20 6 rfl rfl)
theorem dL_law_476 : decode cL_law 476 = .ok (.aload_n 1, 1) := dk_43 (dk_at dksL_law_20 9 rfl rfl)
theorem dL_law_477 : decode cL_law 477 = .ok (.iconst 0, 1) := dk_3 (dk_at dksL_law_20 10 rfl rfl)
theorem dL_law_478 : decode cL_law 478 = .ok (.iconst 1, 1) := dk_4 (dk_at dksL_law_20 11 rfl rfl)
theorem dL_law_479 : decode cL_law 479 = .ok (.invokevirtual 34, 3) := dk_182 0 34 (dk_at dksL_law_20 12 rfl rfl)
theorem dL_law_482 : decode cL_law 482 = .ok (.aload_n 1, 1) := dk_43 (dk_at dksL_law_20 15 rfl rfl)
theorem dL_law_483 : decode cL_law 483 = .ok (.iconst 3, 1) := dk_6 (dk_at dksL_law_20 16 rfl rfl)
theorem dL_law_484 : decode cL_law 484 = .ok (.iconst 0, 1) := dk_3 (dk_at dksL_law_20 17 rfl rfl)
theorem dL_law_485 : decode cL_law 485 = .ok (.iconst 2, 1) := dk_5 (dk_at dksL_law_20 18 rfl rfl)
theorem dL_law_486 : decode cL_law 486 = .ok (.invokevirtual 38, 3) := dk_182 0 38 (dk_at dksL_law_20 19 rfl rfl)
theorem dL_law_489 : decode cL_law 489 = .ok (.aload_n 1, 1) := dk_43 (dk_at dksL_law_20 22 rfl rfl)
theorem dL_law_490 : decode cL_law 490 = .ok (.iconst 3, 1) := dk_6 (dk_at dksL_law_20 23 rfl rfl)
theorem dL_law_491 : decode cL_law 491 = .ok (.aload_n 2, 1) := dk_44 (dk_at dksL_law_21 0 rfl rfl)
theorem dL_law_492 : decode cL_law 492 = .ok (.iconst 3, 1) := dk_6 (dk_at dksL_law_21 1 rfl rfl)
theorem dL_law_493 : decode cL_law 493 = .ok (.invokestatic 41, 3) := dk_184 0 41 (dk_at dksL_law_21 2 rfl rfl)
theorem dL_law_496 : decode cL_law 496 = .ok (.ireturn, 1) := dk_172 (dk_at dksL_law_21 5 rfl rfl)
end
section
/-! own kit: heaps by single cells; calls whose effect is said by a relation between the heap ahead and the heap behind -/
abbrev vwCl : List vw_C := [(RX1, TX1, 2), (RX2, TX2, 1)]
/-- the classes: 0 LatticeRing, 1 Poly; the array classes short[], Poly[], int[] -/
abbrev lr_G : Type := va_G × ClassId × ClassId × ClassId
def lr_K (G : lr_G) (U : State) : Prop := va_K G.1 vwCl [(G.2.1, .short), (G.2.2.1, .object "Poly"), (G.2.2.2, .int)] U ∧ va_AO "Poly" U
theorem lr_K.moved {G : lr_G} {u U : State} (hvm : u.vm.Alike U.vm) (h : lr_K G u) : lr_K G U := ⟨va_K.moved hvm h.1, va_AO.moved hvm h.2⟩
theorem lr_K.arrS {G : lr_G} {U : State} (h : lr_K G U) : ArrOfT U G.2.1 .short := (h.1.2 0 _ rfl).1
theorem lr_K.arrQ {G : lr_G} {U : State} (h : lr_K G U) : ArrOfT U G.2.2.1 (.object "Poly") := (h.1.2 1 _ rfl).1
theorem lr_K.arrI {G : lr_G} {U : State} (h : lr_K G U) : ArrOfT U G.2.2.2 .int := (h.1.2 2 _ rfl).1
theorem lr_K.nmS {G : lr_G} {U : State} (h : lr_K G U) : U.vm.findClass ("[" ++ FieldType.short.toString) = some G.2.1 := (h.1.2 0 _ rfl).2
theorem lr_K.nmI {G : lr_G} {U : State} (h : lr_K G U) : U.vm.findClass ("[" ++ FieldType.int.toString) = some G.2.2.2 := (h.1.2 2 _ rfl).2
theorem lr_K.raQ {G : lr_G} {U : State} (h : lr_K G U) : ∃ (kA : Class) (comp : ClassId), U.vm.classes[G.2.2.1]? = some kA ∧ kA.kind = .array comp (.object "Poly") ∧ U.vm.findClass "Poly" = some comp ∧ U.vm.findClass ("[" ++ (FieldType.object "Poly").toString) = some G.2.2.1 := (h.1.2 1 _ rfl).2
-- the two tables
def lr_zl : List Nat := [2285, 2571, 2970, 1812, 1493, 1422, 287, 202, 3158, 622, 1577, 182, 962, 2127, 1855, 1468, 573, 2004, 264, 383, 2500, 1458, 1727, 3199, 2648, 1017, 732, 608, 1787, 411, 3124, 1758, 1223, 652, 2777, 1015, 2036, 1491, 3047, 1785, 516, 3321, 3009, 2663, 1711, 2167, 126, 1469, 2476, 3239, 3058, 830, 107, 1908, 3082, 2378, 2931, 961, 1821, 2604, 448, 2264, 677, 2054, 2226, 430, 555, 843, 2078, 871, 1550, 105, 422, 587, 177, 3094, 3038, 2869, 1574, 1653, 3083, 778, 1159, 3182, 2552, 1483, 2727, 1119, 1739, 644, 2457, 349, 418, 329, 3173, 3254, 817, 1097, 603, 610, 1322, 2044, 1864, 384, 2114, 3193, 1218, 1994, 2455, 220, 2142, 1670, 2144, 1799, 2051, 794, 1819, 2475, 2459, 478, 3221, 3021, 996, 991, 958, 1869, 1522, 1628]
def lr_zm : List Nat := [1701, 1807, 1460, 2371, 2338, 2333, 308, 108, 2851, 870, 854, 1510, 2535, 1278, 1530, 1185, 1659, 1187, 3109, 874, 1335, 2111, 136, 1215, 2945, 1465, 1285, 2007, 2719, 2726, 2232, 2512, 75, 156, 3000, 2911, 2980, 872, 2685, 1590, 2210, 602, 1846, 777, 147, 2170, 2551, 246, 1676, 1755, 460, 291, 235, 3152, 2742, 2907, 3224, 1779, 2458, 1251, 2486, 2774, 2899, 1103, 1275, 2652, 1065, 2881, 725, 1508, 2368, 398, 951, 247, 1421, 3222, 2499, 271, 90, 853, 1860, 3203, 1162, 1618, 666, 320, 8, 2813, 1544, 282, 1838, 1293, 2314, 552, 2677, 2106, 1571, 205, 2918, 1542, 2721, 2597, 2312, 681, 130, 1602, 1871, 829, 2946, 3065, 1325, 2756, 1861, 1474, 1202, 2367, 3147, 1752, 2707, 171, 3127, 3042, 1907, 1836, 1517, 359, 758, 1441]
def lr_z (j : Nat) : Int32 := nI (lr_zl.getD j 0)
def lr_zi (j : Nat) : Int32 := nI (lr_zm.getD j 0)
/-- the tables' places and contents, none of them a cell of A -/
def lr_T (A : Nat → Prop) (U : State) (H : Heap) : Prop := ∃ z1 z2 : Nat, va_Z "Ntt" "ZETAS" "[S" (.ref z1) A U H ∧ va_T .short z1 128 (fun j => .int (lr_z j)) A U H ∧ va_Z "Ntt" "ZETAS_INV" "[S" (.ref z2) A U H ∧ va_T .short z2 128 (fun j => .int (lr_zi j)) A U H
theorem lr_T.moved {A : Nat → Prop} {u U : State} {H : Heap} (hvm : u.vm.Alike U.vm) (h : lr_T A u H) : lr_T A U H := by
  obtain ⟨z1, z2, h1, h2, h3, h4⟩ := h
  exact ⟨z1, z2, va_Z.moved hvm h1, va_T.moved hvm h2, va_Z.moved hvm h3, va_T.moved hvm h4⟩
theorem lr_T.kept {A : Nat → Prop} {U : State} {H H1 : Heap} (h : lr_T A U H) (hq : ∀ a : Nat, a < H.size → ¬ A a → H1[a]? = H[a]?) : lr_T A U H1 := by
  obtain ⟨z1, z2, h1, h2, h3, h4⟩ := h
  exact ⟨z1, z2, h1.kept hq, h2.kept hq, h3.kept hq, h4.kept hq⟩
theorem lr_T.narrow {A B : Nat → Prop} {U : State} {H : Heap} (h : lr_T A U H) (hAB : ∀ q, B q → A q) : lr_T B U H := by
  obtain ⟨z1, z2, h1, h2, h3, h4⟩ := h
  exact ⟨z1, z2, h1.narrow hAB, h2.narrow hAB, h3.narrow hAB, h4.narrow hAB⟩
/-- what a method of ours is started with: a picture of the heap, the classes, the tables -/
def lr_B (G : lr_G) (A : Nat → Prop) (Φ : Heap → Prop) (U : State) : Prop := Φ U.heap ∧ lr_K G U ∧ lr_T A U U.heap
theorem lr_B.blind {G : lr_G} {A : Nat → Prop} {Φ : Heap → Prop} {As : List Value} : FrameBlind (va_Pc As (lr_B G A Φ)) := fun a U g mk q => by
  obtain ⟨q0, q1, q2, q3⟩ := q
  exact ⟨q0, q1, lr_K.moved (u := U) (U := U.calling g mk a) (Vm.Alike.refl U.vm) q2, lr_T.moved (u := U) (U := U.calling g mk a) (Vm.Alike.refl U.vm) q3⟩
theorem lr_B.mk {G : lr_G} {A A0 : Nat → Prop} {Φ : Heap → Prop} {As : List Value} {s : State} {H : Heap} {locs : List Loc} (hΦ : Φ H) (hK : lr_K G s) (hT : lr_T A0 s s.heap) (hS : va_S A0 s.heap H locs) (hA : ∀ q, A q → A0 q) : ∀ U : State, U.heap = H → s.WarmedH U.vm → va_Pc As (lr_B G A Φ) As.toArray U := by
  intro U hU hW
  refine ⟨rfl, by rw [hU]; exact hΦ, hK.moved hW.alike, ?_⟩
  rw [hU]
  exact ((hT.kept (fun a h1 h2 => hS.2.1 a h1 h2)).moved hW.alike).narrow hA
theorem lr_preS {G : lr_G} {A A0 : Nat → Prop} {Φ : Heap → Prop} {As : List Value} {s : State} {H : Heap} {locs : List Loc} (hΦ : Φ H) (hK : lr_K G s) (hT : lr_T A0 s s.heap) (hS : va_S A0 s.heap H locs) (hA : ∀ q, A q → A0 q) : PreS s H (va_Pc As (lr_B G A Φ)) As :=
  ⟨lr_B.blind, lr_B.mk hΦ hK hT hS hA⟩
theorem lr_P1 {D : va_G} {cl : List vw_C} {q : Nat × va_E} {H : Heap} (h : va_at D cl q H) : va_P D cl [q] H := by
  intro k x hk
  match k, hk with
  | 0, hk => cases hk; exact h
  | k + 1, hk => simp at hk
theorem lr_preV {G : lr_G} {A A0 : Nat → Prop} {Φ : Heap → Prop} {As : List Value} {s : State} {H : Heap} {locs : List Loc} {h ci : Nat} {fs : List Value} {q : vw_C} (hat : va_at G.1 vwCl (h, .inr (ci, fs)) H) (hci : vwCl[ci]? = some q) (hΦ : Φ H) (hK : lr_K G s) (hT : lr_T A0 s s.heap) (hS : va_S A0 s.heap H locs) (hA : ∀ q, A q → A0 q) : PreV s H q.1 h (va_Pc (.ref h :: As) (lr_B G A Φ)) As :=
  ⟨lr_B.blind, va_recv hK.1 (lr_P1 hat) hci (q0 := 0) rfl, lr_B.mk hΦ hK hT hS hA⟩
/-- one cell has changed -/
def lr_HS (x : Nat) (C : Cell) (H0 H : Heap) : Prop := H[x]? = some C ∧ H.size = H0.size ∧ ∀ q : Nat, q ≠ x → H[q]? = H0[q]?
theorem lr_HS.rf {x : Nat} {C : Cell} {H : Heap} (h : H[x]? = some C) : lr_HS x C H H := ⟨h, rfl, fun _ _ => rfl⟩
theorem lr_HS.trans {x : Nat} {C C' : Cell} {H0 H H1 : Heap} (h : lr_HS x C H0 H) (h1 : lr_HS x C' H H1) : lr_HS x C' H0 H1 := ⟨h1.1, h1.2.1.trans h.2.1, fun q n => (h1.2.2 q n).trans (h.2.2 q n)⟩
theorem lr_HS.to {x : Nat} {C C' : Cell} {H0 H : Heap} (h : lr_HS x C H0 H) (e : C = C') : lr_HS x C' H0 H := e ▸ h
def lr_L (x : Nat) (locs : List Loc) : Prop := ∀ q ∈ locs, q.base = x
theorem lr_L.nil {x : Nat} : lr_L x [] := fun _ h => by cases h
theorem lr_L.app {x : Nat} {l1 l2 : List Loc} (h : lr_L x l1) (h2 : ∀ q ∈ l2, q.base = x) : lr_L x (l1 ++ l2) := fun q hq => by
  rcases List.mem_append.mp hq with a | a
  · exact h q a
  · exact h2 q a
theorem lr_L.add {x k : Nat} {l1 : List Loc} (h : lr_L x l1) : lr_L x (l1 ++ [⟨x, k⟩]) := h.app (fun q hq => by rw [List.mem_singleton.mp hq])
theorem lr_HS.S {x : Nat} {C : Cell} {H0 H : Heap} {locs : List Loc} (h : lr_HS x C H0 H) (hl : lr_L x locs) : va_S (fun q => q = x) H0 H locs := ⟨Nat.le_of_eq h.2.1.symm, fun q _ n => h.2.2 q n, hl⟩
theorem lr_HS.at {x h ci : Nat} {fs : List Value} {C : Cell} {H0 H : Heap} {G : lr_G} (e : lr_HS x C H0 H) (n : h ≠ x) (ha : va_at G.1 vwCl (h, .inr (ci, fs)) H0) : va_at G.1 vwCl (h, .inr (ci, fs)) H := ha.kept (e.2.2 h n)
/-- an array of shorts (256 of them in all of ours) -/
abbrev lr_S (G : lr_G) (f : Nat → Int32) : Cell := vp_cell G.2.1 (256, .inl f)
theorem lr_cell {cA : ClassId} {n : Nat} {f g : Nat → Int32} (h : ∀ j, j < n → f j = g j) : vp_cell cA (n, .inl f) = vp_cell cA (n, .inl g) := by
  show arrV cA n (fun j => .int (f j)) = arrV cA n (fun j => .int (g j))
  unfold arrV
  congr 1
  congr 1
  funext j
  show Value.int (f j.1) = Value.int (g j.1)
  rw [h j.1 j.2]
/-- a Poly at h whose array stands at x -/
def lr_PO (G : lr_G) (h x : Nat) (f : Nat → Int32) (H : Heap) : Prop := va_at G.1 vwCl (h, .inr (1, [.ref x])) H ∧ H[x]? = some (lr_S G f) ∧ h ≠ x
theorem lr_PO.set {G : lr_G} {h x : Nat} {f g : Nat → Int32} {H H1 : Heap} (p : lr_PO G h x f H) (e : lr_HS x (lr_S G g) H H1) : lr_PO G h x g H1 := ⟨e.at p.2.2 p.1, e.1, p.2.2⟩
theorem lr_PO.kept {G : lr_G} {h x : Nat} {f : Nat → Int32} {H H1 : Heap} (p : lr_PO G h x f H) (e1 : H1[h]? = H[h]?) (e2 : H1[x]? = H[x]?) : lr_PO G h x f H1 := ⟨p.1.kept e1, e2.trans p.2.1, p.2.2⟩
theorem lr_PO.lt {G : lr_G} {h x : Nat} {f : Nat → Int32} {H : Heap} (p : lr_PO G h x f H) : h < H.size ∧ x < H.size := ⟨p.1.lt, (Array.getElem?_eq_some_iff.mp p.2.1).1⟩
theorem lr_PO.to {G : lr_G} {h x : Nat} {f g : Nat → Int32} {H : Heap} (p : lr_PO G h x f H) (e : ∀ j, j < 256 → f j = g j) : lr_PO G h x g H := ⟨p.1, by rw [p.2.1]; exact congrArg some (lr_cell e), p.2.2⟩
-- what a method's end says
def lr_Qv (Ψ : Heap → Heap → Prop) : Array Value → State → Outcome → State → Prop := fun _ st oc t => oc = .returned none ∧ Ψ st.heap t.heap
def lr_Qa (Ψ : Nat → Heap → Heap → Prop) : Array Value → State → Outcome → State → Prop := fun _ st oc t => ∃ a : Nat, oc = .returned (some (.ref a)) ∧ Ψ a st.heap t.heap
abbrev lr_r0 : Room := { frames := 0, cells := 0, slots := 0, locals := 0 }
theorem lr_inc (i : Nat) : nI i + Int32.ofInt 1 = nI (i + 1) := nI_1 i
theorem lr_s16 (x : Int32) : x.toInt16.toInt32.toInt16.toInt32 = x.toInt16.toInt32 := pk_vs x
section LRW
variable {p : Program} {l : Launch} {e : Env} {R : Room} {s : State} {m : MethodId} {args : Array Value} {below : List Frame} {meth : Method} {c : Code} {H : Heap} {locs : List Loc} {cells slots : Nat} {Q : State → Prop}
variable {cc : ByteArray} {pc : Nat} {ls : Array Slot} {rest st0 : List Value} {G : lr_G} {mc ms : Nat} {free : Addr → Prop} {a : Array Value}
theorem lr_v {Ψ : Heap → Heap → Prop} (hr : va_Run p l e R s m args below meth c H locs cells slots mc ms (F0 m pc ls st0) rest (lr_Qv Ψ a) free)
    (kk : ∀ (H1 : Heap) (L : List Loc), Ψ H H1 → (∀ q ∈ L, free q.base) → W p l e R s m args below meth c H1 (locs ++ L) (cells + mc) (slots + ms) Q (F0 m (pc + 3) ls rest)) : W p l e R s m args below meth c H locs cells slots Q (F0 m pc ls st0) := by
  intro T hT X
  obtain ⟨v, st₀, t, T', L, h0, X', hL, e1, e2, ⟨hv, hp⟩, st⟩ := hr T hT X
  cases hv
  rw [h0, ← e1] at hp
  obtain ⟨t2, a1, b1⟩ := kk T'.heap L hp hL T' rfl X'
  exact ⟨t2, st t2 a1, b1⟩
theorem lr_a {Ψ : Nat → Heap → Heap → Prop} (hr : va_Run p l e R s m args below meth c H locs cells slots mc ms (F0 m pc ls st0) rest (lr_Qa Ψ a) free)
    (kk : ∀ (r : Nat) (H1 : Heap) (L : List Loc), Ψ r H H1 → (∀ q ∈ L, free q.base) → W p l e R s m args below meth c H1 (locs ++ L) (cells + mc) (slots + ms) Q (F0 m (pc + 3) ls (.ref r :: rest))) : W p l e R s m args below meth c H locs cells slots Q (F0 m pc ls st0) := by
  intro T hT X
  obtain ⟨v, st₀, t, T', L, h0, X', hL, e1, e2, ⟨r, hv, hp⟩, st⟩ := hr T hT X
  cases hv
  rw [h0, ← e1] at hp
  obtain ⟨t2, a1, b1⟩ := kk r T'.heap L hp hL T' rfl X'
  exact ⟨t2, st t2 a1, b1⟩
/-- a pure call: the answer is r0, the heap stays -/
theorem lr_i {r0 : Int32} (hr : va_Run p l e R s m args below meth c H locs cells slots 0 0 (F0 m pc ls st0) rest (vp_Si (fun r => r = r0) a) (fun _ => False))
    (kk : W p l e R s m args below meth c H locs cells slots Q (F0 m (pc + 3) ls (.int r0 :: rest))) : W p l e R s m args below meth c H locs cells slots Q (F0 m pc ls st0) :=
  vp_callSi hr.run (fun r h => by rw [h]; exact kk)
theorem lr_for (Inv : Nat → Heap → List Loc → Array Slot → Prop) (N : Nat) (hexit : ∀ (H : Heap) (locs : List Loc) (ls : Array Slot), Inv N H locs ls → W p l e R s m args below meth c H locs cells slots Q (F0 m pc ls rest))
    (hstep : ∀ (i : Nat), i < N → ∀ (H : Heap) (locs : List Loc) (ls : Array Slot), Inv i H locs ls → (∀ (H' : Heap) (locs' : List Loc) (ls' : Array Slot), Inv (i + 1) H' locs' ls' → W p l e R s m args below meth c H' locs' cells slots Q (F0 m pc ls' rest)) → W p l e R s m args below meth c H locs cells slots Q (F0 m pc ls rest))
    (i : Nat) (hi : i ≤ N) (hI : Inv i H locs ls) : W p l e R s m args below meth c H locs cells slots Q (F0 m pc ls rest) := by
  have key : ∀ (n i : Nat), i + n = N → ∀ (H : Heap) (locs : List Loc) (ls : Array Slot), Inv i H locs ls → W p l e R s m args below meth c H locs cells slots Q (F0 m pc ls rest) := by
    intro n
    induction n with
    | zero =>
      intro i h H locs ls hI
      have : i = N := by omega
      subst this
      exact hexit H locs ls hI
    | succ n ih =>
      intro i h H locs ls hI
      exact hstep i (by omega) H locs ls hI (fun H' locs' ls' h' => ih (i + 1) (by omega) H' locs' ls' h')
  exact key (N - i) i (by omega) H locs ls hI
-- branches whose way is known
theorem lr_ge_t (hx : p.tables.exec = Jvm.exec) (hb : c.code = cc) {x y : Int32} {off : Int} {tgt : Nat} (hdg : decode cc pc = .ok (.if_icmp .ge off, 3)) (ht : (pc : Int) + off = (tgt : Int)) (h : y ≤ x) (kt : W p l e R s m args below meth c H locs cells slots Q (F0 m tgt ls rest)) : W p l e R s m args below meth c H locs cells slots Q (F0 m pc ls (.int y :: .int x :: rest)) := lv_icmp_ge hx hb hdg ht (fun _ => kt) (fun q => absurd h q)
theorem lr_ge_f (hx : p.tables.exec = Jvm.exec) (hb : c.code = cc) {x y : Int32} {off : Int} {tgt : Nat} (hdg : decode cc pc = .ok (.if_icmp .ge off, 3)) (ht : (pc : Int) + off = (tgt : Int)) (h : ¬ y ≤ x) (kf : W p l e R s m args below meth c H locs cells slots Q (F0 m (pc + 3) ls rest)) : W p l e R s m args below meth c H locs cells slots Q (F0 m pc ls (.int y :: .int x :: rest)) := lv_icmp_ge hx hb hdg ht (fun q => absurd q h) (fun _ => kf)
theorem lr_lt_t (hx : p.tables.exec = Jvm.exec) (hb : c.code = cc) {x y : Int32} {off : Int} {tgt : Nat} (hdg : decode cc pc = .ok (.if_icmp .lt off, 3)) (ht : (pc : Int) + off = (tgt : Int)) (h : x < y) (kt : W p l e R s m args below meth c H locs cells slots Q (F0 m tgt ls rest)) : W p l e R s m args below meth c H locs cells slots Q (F0 m pc ls (.int y :: .int x :: rest)) := lv_icmp_lt hx hb hdg ht (fun _ => kt) (fun q => absurd h q)
theorem lr_lt_f (hx : p.tables.exec = Jvm.exec) (hb : c.code = cc) {x y : Int32} {off : Int} {tgt : Nat} (hdg : decode cc pc = .ok (.if_icmp .lt off, 3)) (ht : (pc : Int) + off = (tgt : Int)) (h : ¬ x < y) (kf : W p l e R s m args below meth c H locs cells slots Q (F0 m (pc + 3) ls rest)) : W p l e R s m args below meth c H locs cells slots Q (F0 m pc ls (.int y :: .int x :: rest)) := lv_icmp_lt hx hb hdg ht (fun q => absurd q h) (fun _ => kf)
theorem lr_gt_t (hx : p.tables.exec = Jvm.exec) (hb : c.code = cc) {x y : Int32} {off : Int} {tgt : Nat} (hdg : decode cc pc = .ok (.if_icmp .gt off, 3)) (ht : (pc : Int) + off = (tgt : Int)) (h : y < x) (kt : W p l e R s m args below meth c H locs cells slots Q (F0 m tgt ls rest)) : W p l e R s m args below meth c H locs cells slots Q (F0 m pc ls (.int y :: .int x :: rest)) := lv_icmp_gt hx hb hdg ht (fun _ => kt) (fun q => absurd h q)
theorem lr_gt_f (hx : p.tables.exec = Jvm.exec) (hb : c.code = cc) {x y : Int32} {off : Int} {tgt : Nat} (hdg : decode cc pc = .ok (.if_icmp .gt off, 3)) (ht : (pc : Int) + off = (tgt : Int)) (h : ¬ y < x) (kf : W p l e R s m args below meth c H locs cells slots Q (F0 m (pc + 3) ls rest)) : W p l e R s m args below meth c H locs cells slots Q (F0 m pc ls (.int y :: .int x :: rest)) := lv_icmp_gt hx hb hdg ht (fun q => absurd q h) (fun _ => kf)
theorem lr_eq_t (hx : p.tables.exec = Jvm.exec) (hb : c.code = cc) {x y : Int32} {off : Int} {tgt : Nat} (hdg : decode cc pc = .ok (.if_icmp .eq off, 3)) (ht : (pc : Int) + off = (tgt : Int)) (h : x = y) (kt : W p l e R s m args below meth c H locs cells slots Q (F0 m tgt ls rest)) : W p l e R s m args below meth c H locs cells slots Q (F0 m pc ls (.int y :: .int x :: rest)) := lv_icmp_eq hx hb hdg ht (fun _ => kt) (fun q => absurd h q)
theorem lr_ne_f (hx : p.tables.exec = Jvm.exec) (hb : c.code = cc) {x y : Int32} {off : Int} {tgt : Nat} (hdg : decode cc pc = .ok (.if_icmp .ne off, 3)) (ht : (pc : Int) + off = (tgt : Int)) (h : x = y) (kf : W p l e R s m args below meth c H locs cells slots Q (F0 m (pc + 3) ls rest)) : W p l e R s m args below meth c H locs cells slots Q (F0 m pc ls (.int y :: .int x :: rest)) := lv_icmp_ne hx hb hdg ht (fun q => absurd h q) (fun _ => kf)
-- arrays of shorts
theorem lr_ald (hx : p.tables.exec = Jvm.exec) (hb : c.code = cc) (hK : lr_K G s) {a n k : Nat} {f : Nat → Int32} (hc : H[a]? = some (vp_cell G.2.1 (n, .inl f))) {i : Int32} (hi : i = nI k) (hk : k < n) (hn : n < 2 ^ 31) (hdg : decode cc pc = .ok (.saload, 1))
    (kk : W p l e R s m args below meth c H locs cells slots Q (F0 m (pc + 1) ls (.int (f k) :: rest))) : W p l e R s m args below meth c H locs cells slots Q (F0 m pc ls (.int i :: .ref a :: rest)) := by
  subst hi
  have hin : vp_in (nI k) n := vp_in_nI hk hn
  have hcl : (nI k).toNatClampNeg = k := nI_clamp (Nat.lt_trans hk hn)
  exact W.sald (v := .int (f k)) hx hb hc (hK.arrS n (fun j => .int (f j))) (fun q => by cases q) (by show ¬ (nI k < 0 ∨ (arrV _ _ _).slots.size ≤ _); rw [arrV_size]; exact hin) (by rw [hcl]; show (arrV _ _ _).slots[_]? = _; rw [arrV_read _ _ hk]) rfl rfl hdg kk
theorem lr_ast (hx : p.tables.exec = Jvm.exec) (hb : c.code = cc) (hK : lr_K G s) {a n k : Nat} {f : Nat → Int32} (hc : H[a]? = some (vp_cell G.2.1 (n, .inl f))) {i x v : Int32} (hi : i = nI k) (hk : k < n) (hn : n < 2 ^ 31) (hv : x.toInt16.toInt32 = v) (hdg : decode cc pc = .ok (.sastore, 1))
    (kk : ∀ H1 : Heap, lr_HS a (vp_cell G.2.1 (n, .inl (upd f k v))) H H1 → W p l e R s m args below meth c H1 (locs ++ [⟨a, k⟩]) cells slots Q (F0 m (pc + 1) ls rest)) : W p l e R s m args below meth c H locs cells slots Q (F0 m pc ls (.int x :: .int i :: .ref a :: rest)) := by
  subst hi; subst hv
  have hin : vp_in (nI k) n := vp_in_nI hk hn
  have hcl : (nI k).toNatClampNeg = k := nI_clamp (Nat.lt_trans hk hn)
  refine W.sast hx hb hc (hK.arrS n (fun j => .int (f j))) (fun q => by cases q) (by show ¬ (nI k < 0 ∨ (arrV _ _ _).slots.size ≤ _); rw [arrV_size]; exact hin) rfl rfl hdg fun H1 e z oq => ?_
  rw [hcl] at e ⊢
  refine kk H1 ⟨?_, z, oq⟩
  rw [e, vp_cell_i, vp_cell_i, arrV_store]
  congr 2
  funext q
  by_cases hq : q = k
  · subst hq
    simp [updV, upd, narrow_short]
  · simp [updV, upd, hq]
theorem lr_iald (hx : p.tables.exec = Jvm.exec) (hb : c.code = cc) (hK : lr_K G s) {a n k : Nat} {f : Nat → Int32} (hc : H[a]? = some (vp_cell G.2.2.2 (n, .inl f))) {i : Int32} (hi : i = nI k) (hk : k < n) (hn : n < 2 ^ 31) (hdg : decode cc pc = .ok (.iaload, 1))
    (kk : W p l e R s m args below meth c H locs cells slots Q (F0 m (pc + 1) ls (.int (f k) :: rest))) : W p l e R s m args below meth c H locs cells slots Q (F0 m pc ls (.int i :: .ref a :: rest)) := by
  subst hi
  have hin : vp_in (nI k) n := vp_in_nI hk hn
  have hcl : (nI k).toNatClampNeg = k := nI_clamp (Nat.lt_trans hk hn)
  exact W.iald (v := .int (f k)) hx hb hc (hK.arrI n (fun j => .int (f j))) (fun q => by cases q) (by show ¬ (nI k < 0 ∨ (arrV _ _ _).slots.size ≤ _); rw [arrV_size]; exact hin) (by rw [hcl]; show (arrV _ _ _).slots[_]? = _; rw [arrV_read _ _ hk]) rfl rfl hdg kk
theorem lr_iast (hx : p.tables.exec = Jvm.exec) (hb : c.code = cc) (hK : lr_K G s) {a n k : Nat} {f : Nat → Int32} (hc : H[a]? = some (vp_cell G.2.2.2 (n, .inl f))) {i x : Int32} (hi : i = nI k) (hk : k < n) (hn : n < 2 ^ 31) (hdg : decode cc pc = .ok (.iastore, 1))
    (kk : ∀ H1 : Heap, lr_HS a (vp_cell G.2.2.2 (n, .inl (upd f k x))) H H1 → W p l e R s m args below meth c H1 (locs ++ [⟨a, k⟩]) cells slots Q (F0 m (pc + 1) ls rest)) : W p l e R s m args below meth c H locs cells slots Q (F0 m pc ls (.int x :: .int i :: .ref a :: rest)) := by
  subst hi
  have hin : vp_in (nI k) n := vp_in_nI hk hn
  have hcl : (nI k).toNatClampNeg = k := nI_clamp (Nat.lt_trans hk hn)
  refine W.iast hx hb hc (hK.arrI n (fun j => .int (f j))) (fun q => by cases q) (by show ¬ (nI k < 0 ∨ (arrV _ _ _).slots.size ≤ _); rw [arrV_size]; exact hin) rfl rfl hdg fun H1 e z oq => ?_
  rw [hcl] at e ⊢
  refine kk H1 ⟨?_, z, oq⟩
  rw [e, vp_cell_i, vp_cell_i, arrV_store]
  congr 2
  funext q
  by_cases hq : q = k
  · subst hq
    simp [updV, upd]
  · simp [updV, upd, hq]
/-- Poly.coeffs -/
theorem lr_getC (hx : p.tables.exec = Jvm.exec) (hb : c.code = cc) (hts : ∀ w ∈ lw_all, w.before args s = true) {own : String} {index : Nat} (hown : s.vm.findClass own = some m.cls) (hK : lr_K G s) {h x : Nat} (hat : va_at G.1 vwCl (h, .inr (1, [.ref x])) H) (hlink : (Cond.fieldLink own index "Poly" "coeffs" "[S") ∈ lw_all) (hdg : decode cc pc = .ok (.getfield index, 3))
    (kk : W p l e R s m args below meth c H locs cells slots Q (F0 m (pc + 3) ls (.ref x :: rest))) : W p l e R s m args below meth c H locs cells slots Q (F0 m pc ls (.ref h :: rest)) :=
  va_get (D := G.1) (ws := [(h, .inr (1, [.ref x]))]) (ci := 1) (v := .ref x) (C := RX2) (T := TX2) (N := 1) hx hb hts in_X2 hown hK.1 (lr_P1 hat) 0 rfl rfl 0 (by decide) (hts _ hlink) (fun _ h9 => h9) rfl hdg kk
/-- LatticeRing.file -/
theorem lr_getF (hx : p.tables.exec = Jvm.exec) (hb : c.code = cc) (hts : ∀ w ∈ lw_all, w.before args s = true) {own : String} {index : Nat} (hown : s.vm.findClass own = some m.cls) (hK : lr_K G s) {h x : Nat} {tv : Value} (hat : va_at G.1 vwCl (h, .inr (0, [.ref x, tv])) H) (hlink : (Cond.fieldLink own index "LatticeRing" "file" "[LPoly;") ∈ lw_all) (hdg : decode cc pc = .ok (.getfield index, 3))
    (kk : W p l e R s m args below meth c H locs cells slots Q (F0 m (pc + 3) ls (.ref x :: rest))) : W p l e R s m args below meth c H locs cells slots Q (F0 m pc ls (.ref h :: rest)) :=
  va_get (D := G.1) (ws := [(h, .inr (0, [.ref x, tv]))]) (ci := 0) (v := .ref x) (C := RX1) (T := TX1) (N := 2) hx hb hts in_X1 hown hK.1 (lr_P1 hat) 0 rfl rfl 0 (by decide) (hts _ hlink) (fun _ h9 => h9) rfl hdg kk
/-- a reference of an array of Polys -/
abbrev lr_Q (G : lr_G) (pa : Nat → Option Nat) : Cell := vp_cell G.2.2.1 (4, .inr (.inr (.inr (.inr pa))))
theorem lr_aald (hx : p.tables.exec = Jvm.exec) (hb : c.code = cc) (hK : lr_K G s) {a k y : Nat} {pa : Nat → Option Nat} (hc : H[a]? = some (lr_Q G pa)) {i : Int32} (hi : i = nI k) (hk : k < 4) (hy : pa k = some y) (hdg : decode cc pc = .ok (.aaload, 1))
    (kk : W p l e R s m args below meth c H locs cells slots Q (F0 m (pc + 1) ls (.ref y :: rest))) : W p l e R s m args below meth c H locs cells slots Q (F0 m pc ls (.int i :: .ref a :: rest)) := by
  subst hi
  have hin : vp_in (nI k) 4 := vp_in_nI hk (by decide)
  have hcl : (nI k).toNatClampNeg = k := nI_clamp (by omega)
  exact W.aald (v := .ref y) (ty := .object "Poly") hx hb hc (hK.arrQ 4 (fun j => va_rf (pa j))) rfl (fun q => by cases q) (by show ¬ (nI k < 0 ∨ (arrV _ _ _).slots.size ≤ _); rw [arrV_size]; exact hin) (by rw [hcl]; show (arrV _ _ _).slots[_]? = _; rw [arrV_read _ _ hk, hy]; rfl) rfl rfl hdg kk
theorem lr_aast (hx : p.tables.exec = Jvm.exec) (hb : c.code = cc) (hK : lr_K G s) {a k v : Nat} {vs : List Value} {pa : Nat → Option Nat} (hc : H[a]? = some (lr_Q G pa)) (hv : va_at G.1 vwCl (v, .inr (1, vs)) H) {i : Int32} (hi : i = nI k) (hk : k < 4) (hdg : decode cc pc = .ok (.aastore, 1))
    (kk : ∀ H1 : Heap, lr_HS a (lr_Q G (va_up pa k (some v))) H H1 → W p l e R s m args below meth c H1 (locs ++ [⟨a, k⟩]) cells slots Q (F0 m (pc + 1) ls rest)) : W p l e R s m args below meth c H locs cells slots Q (F0 m pc ls (.ref v :: .int i :: .ref a :: rest)) := by
  subst hi
  have hcl : (nI k).toNatClampNeg = k := nI_clamp (by omega)
  have h0 : ¬ nI k < 0 := nI_pos (by omega)
  obtain ⟨r', hr', cellV, g1, g2, g3, -⟩ := hv
  have hcls := (hK.1.1 1 _ rfl).2
  obtain ⟨kA, comp, k1, k2, k3, -⟩ := hK.raQ
  have hcomp : comp = G.1.1 1 := Option.some.inj (k3.symm.trans hcls.1)
  subst hcomp
  obtain ⟨kC, hkC, -⟩ := hcls.2
  refine W.aast hx hb hc (fun q h => by cases h) (fun h => by cases h) k1 k2 rfl hkC ⟨h0, by rw [hcl]; show _ < (arrV _ _ _).slots.size; rw [arrV_size]; exact hk⟩ g1 (fun q h => by rw [g3] at h; cases h) (by rw [g2]; exact hkC) (by rw [g2]; exact va_assign hcls) rfl rfl hdg fun H1 e z oq => ?_
  rw [hcl] at e ⊢
  refine kk H1 ⟨?_, z, oq⟩
  rw [e]
  show some ((arrV _ 4 (fun j => va_rf (pa j))).setSlot k (Value.ref v)) = some (arrV _ 4 (fun j => va_rf (va_up pa k (some v) j)))
  rw [arrV_store]
  congr 2
  funext q
  by_cases hq : q = k
  · subst hq
    simp [updV, va_up, va_rf]
  · simp [updV, va_up, hq]
-- the tables
theorem lr_gets {A : Nat → Prop} {n own : String} {z index : Nat} (hx : p.tables.exec = Jvm.exec) (hb : c.code = cc) (hts : ∀ w ∈ lw_all, w.before args s = true) (hown : s.vm.findClass own = some m.cls) (hZ : va_Z "Ntt" n "[S" (.ref z) A s s.heap) (hS : va_S A s.heap H locs) (hlink : (Cond.fieldLink own index "Ntt" n "[S") ∈ lw_all) (hdg : decode cc pc = .ok (.getstatic index, 3))
    (kk : W p l e R s m args below meth c H locs cells slots Q (F0 m (pc + 3) ls (.ref z :: rest))) : W p l e R s m args below meth c H locs cells slots Q (F0 m pc ls rest) :=
  va_gets hx hb hZ hS hown (hts _ hlink) (fun _ h => h) hdg kk
theorem lr_tld {A : Nat → Prop} {t k : Nat} {f : Nat → Int32} (hx : p.tables.exec = Jvm.exec) (hb : c.code = cc) (hT : va_T .short t 128 (fun j => .int (f j)) A s s.heap) (hS : va_S A s.heap H locs) {i : Int32} (hi : i = nI k) (hk : k < 128) (hdg : decode cc pc = .ok (.saload, 1))
    (kk : W p l e R s m args below meth c H locs cells slots Q (F0 m (pc + 1) ls (.int (f k) :: rest))) : W p l e R s m args below meth c H locs cells slots Q (F0 m pc ls (.int i :: .ref t :: rest)) := by
  subst hi
  have hcl : (nI k).toNatClampNeg = k := nI_clamp (by omega)
  exact va_ts (v := .int (f k)) hx hb hT hS (vp_in_nI hk (by decide)) (by rw [hcl]) hdg kk
-- new cells
theorem lr_new (hx : p.tables.exec = Jvm.exec) (hb : c.code = cc) (hts : ∀ w ∈ lw_all, w.before args s = true) {own C : String} {T : u_T} {N ci index : Nat} (hin : ∀ w ∈ u_ws C T N, w ∈ lw_all) (ty : Nat → FieldType) (hty : ∀ k, k < N → parseFieldDescriptor (T k).2.2.1 = some (ty k)) (hown : s.vm.findClass own = some m.cls) (hcl : (Cond.classLink own index C) ∈ lw_all) (hinst : (Cond.instantiable C N) ∈ lw_all) (hini : (Cond.initialized C) ∈ lw_all)
    (hK : lr_K G s) (hc : vwCl[ci]? = some (C, T, N)) {fs : List Value} (hfs : ∀ j, j < N → defaultValue (ty j) = vp_V fs j) (hcells : cells + 1 ≤ R.cells) (hslots : slots + N ≤ R.slots) (hdg : decode cc pc = .ok (.new index, 3))
    (kk : ∀ (H1 : Heap), va_at G.1 vwCl (H.size, .inr (ci, fs)) H1 → H1.size = H.size + 1 → (∀ q, q < H.size → H1[q]? = H[q]?) →
      W p l e R s m args below meth c H1 locs (cells + 1) (slots + N) Q (F0 m (pc + 3) ls (.ref H.size :: rest))) : W p l e R s m args below meth c H locs cells slots Q (F0 m pc ls rest) := by
  have hKn := hK.1.1 ci _ hc
  refine W.newcK hx hb hown (hts _ hcl) (hts _ hinst) (hts _ hini) rfl hdg hcells hslots hKn.2.1 rfl fun H1 kC hkC e1 z1 o1 => ?_
  exact kk H1 ⟨_, hc, (u_born ty hts hin hKn hkC e1 hty).to hfs⟩ z1 o1
theorem lr_newS (hx : p.tables.exec = Jvm.exec) (hb : c.code = cc) (hts : ∀ w ∈ lw_all, w.before args s = true) (hq : (Cond.arrayClass .short) ∈ lw_all) (hK : lr_K G s) {n : Int32} {N : Nat} (hn : n = nI N) (hN : N ≤ 65536) (hcells : cells + 1 ≤ R.cells) (hslots : slots + N ≤ R.slots) (hdg : decode cc pc = .ok (.newarray .short, 2))
    (kk : ∀ H1 : Heap, H1[H.size]? = some (vp_cell G.2.1 (N, .inl (fun _ => 0))) → H1.size = H.size + 1 → (∀ q, q < H.size → H1[q]? = H[q]?) →
      W p l e R s m args below meth c H1 locs (cells + 1) (slots + N) Q (F0 m (pc + 2) ls (.ref H.size :: rest))) : W p l e R s m args below meth c H locs cells slots Q (F0 m pc ls (.int n :: rest)) := by
  subst hn
  refine va_newaK (N := N) hx hb (atype := .short) (hts _ hq) rfl hdg rfl (nI_pos (by omega)) (nI_clamp (by omega)) (by show N * 2 ≤ _; omega) hcells hslots rfl fun H1 cA e1 z1 o1 hAr hNm => ?_
  have hcA : cA = G.2.1 := Option.some.inj (hNm.symm.trans hK.nmS)
  subst hcA
  exact kk H1 e1 z1 o1
theorem lr_newB (hx : p.tables.exec = Jvm.exec) (hb : c.code = cc) (hts : ∀ w ∈ lw_all, w.before args s = true) (hq : (Cond.arrayClass .byte) ∈ lw_all) {n : Int32} {N : Nat} (hn : n = nI N) (hN : N ≤ 65536) (hcells : cells + 1 ≤ R.cells) (hslots : slots + N ≤ R.slots) (hdg : decode cc pc = .ok (.newarray .byte, 2))
    (kk : ∀ H1 : Heap, H1.size = H.size + 1 → (∀ q, q < H.size → H1[q]? = H[q]?) →
      W p l e R s m args below meth c H1 locs (cells + 1) (slots + N) Q (F0 m (pc + 2) ls (.ref H.size :: rest))) : W p l e R s m args below meth c H locs cells slots Q (F0 m pc ls (.int n :: rest)) := by
  subst hn
  exact va_newaK (N := N) hx hb (atype := .byte) (hts _ hq) rfl hdg rfl (nI_pos (by omega)) (nI_clamp (by omega)) (by show N * 1 ≤ _; omega) hcells hslots rfl fun H1 cA e1 z1 o1 hAr hNm => kk H1 z1 o1
theorem lr_newQ (hx : p.tables.exec = Jvm.exec) (hb : c.code = cc) (hts : ∀ w ∈ lw_all, w.before args s = true) {own : String} {index : Nat} (hown : s.vm.findClass own = some m.cls) (hcl : (Cond.classLink own index "Poly") ∈ lw_all) (hK : lr_K G s) {n : Int32} (hn : n = nI 4) (hcells : cells + 1 ≤ R.cells) (hslots : slots + 4 ≤ R.slots) (hdg : decode cc pc = .ok (.anewarray index, 3))
    (kk : ∀ H1 : Heap, H1[H.size]? = some (lr_Q G (fun _ => none)) → H1.size = H.size + 1 → (∀ q, q < H.size → H1[q]? = H[q]?) →
      W p l e R s m args below meth c H1 locs (cells + 1) (slots + 4) Q (F0 m (pc + 3) ls (.ref H.size :: rest))) : W p l e R s m args below meth c H locs cells slots Q (F0 m pc ls (.int n :: rest)) := by
  subst hn
  have hcl4 : (nI 4).toNatClampNeg = 4 := nI_clamp (by omega)
  refine W.anew hx hb hown (hts _ hcl) (va_AO.use hK.2) rfl hdg rfl (nI_pos (by omega)) (by rw [hcl4]; omega) hcells (by rw [hcl4]; exact hslots) fun cA kA comp f1 f2 f3 f4 => ?_
  rw [hcl4]
  obtain ⟨-, -, -, -, -, hNm⟩ := hK.raQ
  have hcA : cA = G.2.2.1 := Option.some.inj (f1.symm.trans hNm)
  subst hcA
  refine kk _ ?_ (Array.size_push ..) (fun q hq => by rw [Array.getElem?_push, if_neg (Nat.ne_of_lt hq)])
  rw [Array.getElem?_push_size]
  show _ = some (arrV _ 4 (fun _ => .null))
  rw [← arrV_new]
/-- a final field in a constructor -/
theorem lr_putF (hx : p.tables.exec = Jvm.exec) (hb : c.code = cc) {own ref C : String} {T : u_T} {N ci index : Nat} (hts : ∀ w ∈ lw_all, w.before args s = true) (hin : ∀ w ∈ u_ws C T N, w ∈ lw_all) (ty0 : Nat → FieldType) (hty : ∀ k, k < N → parseFieldDescriptor (T k).2.2.1 = some (ty0 k)) (hnm : ∀ a, a < N → ∀ b, b < N → a ≠ b → (T a).2.1 ≠ (T b).2.1) (hown : s.vm.findClass own = some m.cls) (hK : lr_K G s) {h : Nat} {fs : List Value} (hat : va_at G.1 vwCl (h, .inr (ci, fs)) H) (hc : vwCl[ci]? = some (C, T, N)) (k : Nat) (hk : k < N) (hlink : (Cond.fieldLink own index ref (T k).2.1 (T k).2.2.1) ∈ lw_all) (hsame : ∀ x, s.fieldFound? (T k).1 (T k).2.1 (T k).2.2.1 = some x → s.fieldFound? ref (T k).2.1 (T k).2.2.1 = some x) (hfin : (T k).2.2.2 = true) (hin2 : meth.name = "<init>") (hdecl : (T k).1 = own) {ty : FieldType} {v : Value} (hd : parseFieldDescriptor (T k).2.2.1 = some ty) (hn : narrow ty v = v) (hfit : fits ty v = true) (hl : k < fs.length)
    (hdg : decode cc pc = .ok (.putfield index, 3)) (kk : ∀ (H1 : Heap) (j : Nat), va_at G.1 vwCl (h, .inr (ci, fs.set k v)) H1 → H1.size = H.size → (∀ q, q ≠ h → H1[q]? = H[q]?) → W p l e R s m args below meth c H1 (locs ++ [⟨h, j⟩]) cells slots Q (F0 m (pc + 3) ls rest)) : W p l e R s m args below meth c H locs cells slots Q (F0 m pc ls (v :: .ref h :: rest)) := by
  have hap := va_apart (own := own) hts hin ty0 hty hnm hK.1 hc
  obtain ⟨r, h1, cell, q1, q2, q3, q4⟩ := hat
  have hr : r = (C, T, N) := Option.some.inj (h1.symm.trans hc)
  subst hr
  obtain ⟨hS, hfc, kC, hkC, hkind⟩ := hK.1.1 ci _ hc
  obtain ⟨cf, kf, fi, f, hi, hsl⟩ := hS k hk
  have hlay := hts _ (hin _ (u_in_lay hk))
  unfold u_lay at hlay
  rw [if_pos hfin] at hlay
  have hst := (u_facts hfc hkC (u_lays hts hin hk) hi).1
  have hcf : m.cls = cf := by
    obtain ⟨_, _, c', _, _, _, -, -, hf', -, -, -, hown2, -⟩ := Cond.laysFinal_spec hlay
    have e1 : c' = cf := by have := hi.symm.trans hf'; simp at this; exact this.1.symm
    rw [hdecl] at hown2
    rw [← e1]; exact Option.some.inj (hown.symm.trans hown2)
  have h6 := u_fits hfc hkC hkind (Or.inr hlay) hi hd hn hfit
  refine W.putFinK hx hb hown (hts _ hlink) (hsame _ hi) hst hcf hin2 (by rw [q2]; exact h6) q1 q3 (by rw [hsl]; exact k2_hasslot (q4 k hk)) rfl rfl hdg fun H' e1 e2 e3 => ?_
  rw [hsl] at e1 ⊢
  exact kk H' _ ⟨_, hc, t_OB.to (V := updV (vp_V fs) k v) ⟨_, e1, q2, q3, t_set q4 hap hk v⟩ (fun j _ => vp_updV_set hl v j)⟩ e2 e3
end LRW
/-- a method's contract from its walk -/
theorem lr_met {l : Launch} {y : MethodName} {bytes : ByteArray} {maxL : Nat} {ret : Option FieldType} {rm : Room} {As : List Value} {B : State → Prop} {Qc : Array Value → State → Outcome → State → Prop} {mc ms : Nat} {free : Addr → Prop} (hy : plainName y.cls = true) (hn : (lg_sl As).length ≤ maxL)
    (body : ∀ (p : Program) (e : Env) (s : State) (m : MethodId) (below : List Frame) (meth : Method) (c : Code), p.tables.exec = Jvm.exec → c.code = bytes → meth.sig.returnType = ret → c.maxLocals = maxL → s.vm.findClass y.cls = some m.cls → (∀ w ∈ lw_all, w.before As.toArray s = true) → meth.locks = false → meth.name = y.name → B s → ∀ ls : Array Slot, lv_has ls maxL (lv_args 0 As) →
      W p l e rm s m As.toArray below meth c s.heap [] 0 0 (MQ below Qc As.toArray s mc ms free) (F0 m 0 ls [])) :
    Met l y (ws_ y bytes maxL ret) rm (va_Pc As B) Qc mc ms free := by
  refine Met.ofW (cc := bytes) (maxL := maxL) (ret := ret) hy rfl ?_
  intro p e s m args below meth c s₁ B' hml hv
  obtain ⟨rfl, hB⟩ := hv
  have hts := atoms_spec (ws := ws_ y bytes maxL ret) B'.pre
  have hts : ∀ w ∈ lw_all, w.before _ s = true := fun w h => hts w (List.mem_cons_of_mem _ h)
  have hl := lv_entry As (n := maxL) hn
  rw [lg_entry_eq]
  exact body p e s m below meth c B'.exec B'.bytes B'.returns hml (findClass_of_methodNamed B'.named) hts B'.notSynchronized (name_of_methodNamed B'.named B'.method).1 hB _ hl
end
section
/-! Reduce, Ntt.mulMont, Ntt.baseMult: what they compute, and their walks -/
def lr_mr (a : Int32) : Int32 := ((a - (a * 62209).toInt16.toInt32 * 3329) >>> ((16 : Int32) &&& 31)).toInt16.toInt32
def lr_br (a : Int32) : Int32 := (a - (((20159 * a) >>> ((26 : Int32) &&& 31)).toInt16.toInt32 * 3329).toInt16.toInt32).toInt16.toInt32
def lr_mm (a b : Int32) : Int32 := lr_mr (a * b)
def lr_b0 (a0 a1 b0 b1 z : Int32) : Int32 := (lr_mm (lr_mm a1 b1) z + lr_mm a0 b0).toInt16.toInt32
def lr_b1 (a0 a1 b0 b1 : Int32) : Int32 := (lr_mm a0 b1 + lr_mm a1 b0).toInt16.toInt32
theorem lr_mr16 (a : Int32) : (lr_mr a).toInt16.toInt32 = lr_mr a := lr_s16 _
theorem lr_mm16 (a b : Int32) : (lr_mm a b).toInt16.toInt32 = lr_mm a b := lr_s16 _
theorem lr_br16 (a : Int32) : (lr_br a).toInt16.toInt32 = lr_br a := lr_s16 _
abbrev lr_r1 : Room := { frames := 1, cells := 0, slots := 0, locals := 22 }
abbrev lr_r2 : Room := { frames := 2, cells := 0, slots := 0, locals := 43 }
set_option maxHeartbeats 4000000 in
set_option maxRecDepth 100000 in
theorem met_mr (l : Launch) (a : Int32) : Met l yX3_montgomeryReduce (ws_ yX3_montgomeryReduce cX3_montgomeryReduce 3 (some .short)) lr_r0 (va_Pc [.int a] (fun _ => True)) (vp_Si (fun r => r = lr_mr a)) 0 0 (fun _ => False) := by
  refine lr_met (by decide) (Nat.le_of_ble_eq_true rfl) ?_
  intro p e s m below meth c hx hb hr hml hown hts hlocks hin hB ls hl
  have hl : lv_has ls 3 [(0, .int a)] := hl
  refine lv_iload_n hx hb dX3_montgomeryReduce_0 rfl (lv_at hl 0 rfl) ?_
  refine lv_ldc hx hb hown (hts _ q57) dX3_montgomeryReduce_1 ?_
  refine lv_imul hx hb dX3_montgomeryReduce_3 ?_
  refine lv_i2s hx hb dX3_montgomeryReduce_4 rfl ?_
  refine lv_istore_n (lv' := [(1, .int (((a) * (62209)).toInt16.toInt32)), (0, .int a)]) hx hb dX3_montgomeryReduce_5 rfl hl (by decide) rfl (fun ls hl => ?_)
  refine lv_iload_n hx hb dX3_montgomeryReduce_6 rfl (lv_at hl 0 rfl) ?_
  refine lv_sipush (v := 3329) hx hb dX3_montgomeryReduce_7 (by decide) ?_
  refine lv_imul hx hb dX3_montgomeryReduce_10 ?_
  refine lv_istore_n (lv' := [(2, .int ((((a) * (62209)).toInt16.toInt32) * (3329))), (1, .int (((a) * (62209)).toInt16.toInt32)), (0, .int a)]) hx hb dX3_montgomeryReduce_11 rfl hl (by decide) rfl (fun ls hl => ?_)
  refine lv_iload_n hx hb dX3_montgomeryReduce_12 rfl (lv_at hl 2 rfl) ?_
  refine lv_iload_n hx hb dX3_montgomeryReduce_13 rfl (lv_at hl 0 rfl) ?_
  refine lv_isub hx hb dX3_montgomeryReduce_14 ?_
  refine lv_istore_n (lv' := [(2, .int ((a) - ((((a) * (62209)).toInt16.toInt32) * (3329)))), (1, .int (((a) * (62209)).toInt16.toInt32)), (0, .int a)]) hx hb dX3_montgomeryReduce_15 rfl hl (by decide) rfl (fun ls hl => ?_)
  refine lv_iload_n hx hb dX3_montgomeryReduce_16 rfl (lv_at hl 0 rfl) ?_
  refine lv_bipush (v := 16) hx hb dX3_montgomeryReduce_17 (by decide) ?_
  refine lv_ishr hx hb dX3_montgomeryReduce_19 ?_
  refine lv_istore_n (lv' := [(2, .int (((a) - ((((a) * (62209)).toInt16.toInt32) * (3329))) >>> ((16) &&& 31))), (1, .int (((a) * (62209)).toInt16.toInt32)), (0, .int a)]) hx hb dX3_montgomeryReduce_20 rfl hl (by decide) rfl (fun ls hl => ?_)
  refine lv_iload_n hx hb dX3_montgomeryReduce_21 rfl (lv_at hl 0 rfl) ?_
  refine lv_i2s hx hb dX3_montgomeryReduce_22 rfl ?_
  exact W.zret hx hb hr (pk_ns _) (fun t ht hW => ⟨_, rfl, rfl, ht⟩) (fun _ h => by cases h) dX3_montgomeryReduce_23
set_option maxHeartbeats 4000000 in
set_option maxRecDepth 100000 in
theorem met_br (l : Launch) (a : Int32) : Met l yX3_barrettReduce (ws_ yX3_barrettReduce cX3_barrettReduce 3 (some .short)) lr_r0 (va_Pc [.int a] (fun _ => True)) (vp_Si (fun r => r = lr_br a)) 0 0 (fun _ => False) := by
  refine lr_met (by decide) (Nat.le_of_ble_eq_true rfl) ?_
  intro p e s m below meth c hx hb hr hml hown hts hlocks hin hB ls hl
  have hl : lv_has ls 3 [(0, .int a)] := hl
  refine lv_sipush (v := 20159) hx hb dX3_barrettReduce_0 (by decide) ?_
  refine lv_istore_n (lv' := [(1, .int 20159), (0, .int a)]) hx hb dX3_barrettReduce_3 rfl hl (by decide) rfl (fun ls hl => ?_)
  refine lv_iload_n hx hb dX3_barrettReduce_4 rfl (lv_at hl 0 rfl) ?_
  refine lv_iload_n hx hb dX3_barrettReduce_5 rfl (lv_at hl 1 rfl) ?_
  refine lv_imul hx hb dX3_barrettReduce_6 ?_
  refine lv_bipush (v := 26) hx hb dX3_barrettReduce_7 (by decide) ?_
  refine lv_ishr hx hb dX3_barrettReduce_9 ?_
  refine lv_i2s hx hb dX3_barrettReduce_10 rfl ?_
  refine lv_istore_n (lv' := [(2, .int ((((20159) * (a)) >>> ((26) &&& 31)).toInt16.toInt32)), (1, .int 20159), (0, .int a)]) hx hb dX3_barrettReduce_11 rfl hl (by decide) rfl (fun ls hl => ?_)
  refine lv_iload_n hx hb dX3_barrettReduce_12 rfl (lv_at hl 0 rfl) ?_
  refine lv_sipush (v := 3329) hx hb dX3_barrettReduce_13 (by decide) ?_
  refine lv_imul hx hb dX3_barrettReduce_16 ?_
  refine lv_i2s hx hb dX3_barrettReduce_17 rfl ?_
  refine lv_istore_n (lv' := [(2, .int ((((((20159) * (a)) >>> ((26) &&& 31)).toInt16.toInt32) * (3329)).toInt16.toInt32)), (1, .int 20159), (0, .int a)]) hx hb dX3_barrettReduce_18 rfl hl (by decide) rfl (fun ls hl => ?_)
  refine lv_iload_n hx hb dX3_barrettReduce_19 rfl (lv_at hl 2 rfl) ?_
  refine lv_iload_n hx hb dX3_barrettReduce_20 rfl (lv_at hl 0 rfl) ?_
  refine lv_isub hx hb dX3_barrettReduce_21 ?_
  refine lv_i2s hx hb dX3_barrettReduce_22 rfl ?_
  exact W.zret hx hb hr (pk_ns _) (fun t ht hW => ⟨_, rfl, rfl, ht⟩) (fun _ h => by cases h) dX3_barrettReduce_23
set_option maxHeartbeats 4000000 in
set_option maxRecDepth 100000 in
theorem met_mm (l : Launch) (a b : Int32) : Met l yX4_mulMont (ws_ yX4_mulMont cX4_mulMont 2 (some .short)) lr_r1 (va_Pc [.int a, .int b] (fun _ => True)) (vp_Si (fun r => r = lr_mm a b)) 0 0 (fun _ => False) := by
  refine lr_met (by decide) (Nat.le_of_ble_eq_true rfl) ?_
  intro p e s m below meth c hx hb hr hml hown hts hlocks hin hB ls hl
  have hl : lv_has ls 2 [(0, .int a), (1, .int b)] := hl
  refine lv_iload_n hx hb dX4_mulMont_0 rfl (lv_at hl 0 rfl) ?_
  refine lv_iload_n hx hb dX4_mulMont_1 rfl (lv_at hl 1 rfl) ?_
  refine lv_imul hx hb dX4_mulMont_2 ?_
  refine lr_i (va_runS (As := [.int ((a) * (b))]) (rest := []) ⟨hx, hb, hml, hown, hts⟩ (met_mr l (a * b)) (va_cwS 1 hts (lw_S q54 q55 q3 q56) rfl rfl rfl (by decide +kernel) ⟨Nat.le_of_ble_eq_true rfl, Nat.le_of_ble_eq_true rfl⟩) ⟨fun a U g mk q => q, fun U hU hW => ⟨rfl, trivial⟩⟩ rfl rfl hl.1 rfl (lv_room (Nat.le_of_ble_eq_true rfl)) dX4_mulMont_3 ⟨Nat.le_of_ble_eq_true rfl, Nat.le_of_ble_eq_true rfl⟩) ?_
  exact W.zret hx hb hr (congrArg Value.int (lr_mr16 _)) (fun t ht hW => ⟨_, rfl, rfl, ht⟩) (fun _ h => by cases h) dX4_mulMont_6
set_option maxHeartbeats 4000000 in
set_option maxRecDepth 100000 in
/-- baseMult: two places of the array -/
theorem met_bm (l : Launch) (G : lr_G) (x k : Nat) (f : Nat → Int32) (a0 a1 b0 b1 z : Int32) (hk : k + 1 < 256) : Met l yX4_baseMult (ws_ yX4_baseMult cX4_baseMult 9 none) lr_r2 (va_Pc [.ref x, .int (nI k), .int a0, .int a1, .int b0, .int b1, .int z] (lr_B G (fun q => q = x) (fun H => H[x]? = some (lr_S G f)))) (lr_Qv (lr_HS x (lr_S G (upd (upd f k (lr_b0 a0 a1 b0 b1 z)) (k + 1) (lr_b1 a0 a1 b0 b1))))) 0 0 (fun q => q = x) := by
  refine lr_met (by decide) (Nat.le_of_ble_eq_true rfl) ?_
  intro p e s m below meth c hx hb hr hml hown hts hlocks hin hB ls hl
  obtain ⟨hΦ, hK, hT⟩ := hB
  have hl : lv_has ls 9 [(0, .ref x), (1, .int (nI k)), (2, .int a0), (3, .int a1), (4, .int b0), (5, .int b1), (6, .int z)] := hl
  have hH := lr_HS.rf hΦ
  have hL := lr_L.nil (x := x)
  refine lv_iload_n hx hb dX4_baseMult_0 rfl (lv_at hl 3 rfl) ?_
  refine lv_iload hx hb dX4_baseMult_1 (lv_at hl 5 rfl) ?_
  refine lr_i (va_runS (As := [.int a1, .int b1]) (rest := []) ⟨hx, hb, hml, hown, hts⟩ (met_mm l (a1) (b1)) (va_cwS 2 hts (lw_S q51 q52 q4 q53) rfl rfl rfl (by decide +kernel) ⟨Nat.le_of_ble_eq_true rfl, Nat.le_of_ble_eq_true rfl⟩) ⟨fun a U g mk q => q, fun U hU hW => ⟨rfl, trivial⟩⟩ rfl rfl hl.1 rfl (lv_room (Nat.le_of_ble_eq_true rfl)) dX4_baseMult_3 ⟨Nat.le_of_ble_eq_true rfl, Nat.le_of_ble_eq_true rfl⟩) ?_
  refine lv_istore (lv' := [(7, .int (lr_mm (a1) (b1))), (0, .ref x), (1, .int (nI k)), (2, .int a0), (3, .int a1), (4, .int b0), (5, .int b1), (6, .int z)]) hx hb dX4_baseMult_6 hl (by decide) rfl (fun ls hl => ?_)
  refine lv_iload hx hb dX4_baseMult_8 (lv_at hl 0 rfl) ?_
  refine lv_iload hx hb dX4_baseMult_10 (lv_at hl 7 rfl) ?_
  refine lr_i (va_runS (As := [.int (lr_mm (a1) (b1)), .int z]) (rest := []) ⟨hx, hb, hml, hown, hts⟩ (met_mm l (lr_mm (a1) (b1)) (z)) (va_cwS 2 hts (lw_S q51 q52 q4 q53) rfl rfl rfl (by decide +kernel) ⟨Nat.le_of_ble_eq_true rfl, Nat.le_of_ble_eq_true rfl⟩) ⟨fun a U g mk q => q, fun U hU hW => ⟨rfl, trivial⟩⟩ rfl rfl hl.1 rfl (lv_room (Nat.le_of_ble_eq_true rfl)) dX4_baseMult_12 ⟨Nat.le_of_ble_eq_true rfl, Nat.le_of_ble_eq_true rfl⟩) ?_
  refine lv_istore (lv' := [(7, .int (lr_mm (lr_mm (a1) (b1)) (z))), (0, .ref x), (1, .int (nI k)), (2, .int a0), (3, .int a1), (4, .int b0), (5, .int b1), (6, .int z)]) hx hb dX4_baseMult_15 hl (by decide) rfl (fun ls hl => ?_)
  refine lv_iload hx hb dX4_baseMult_17 (lv_at hl 0 rfl) ?_
  refine lv_iload_n hx hb dX4_baseMult_19 rfl (lv_at hl 3 rfl) ?_
  refine lv_iload hx hb dX4_baseMult_20 (lv_at hl 5 rfl) ?_
  refine lr_i (va_runS (As := [.int a0, .int b0]) (rest := [.int (lr_mm (lr_mm (a1) (b1)) (z))]) ⟨hx, hb, hml, hown, hts⟩ (met_mm l (a0) (b0)) (va_cwS 2 hts (lw_S q51 q52 q4 q53) rfl rfl rfl (by decide +kernel) ⟨Nat.le_of_ble_eq_true rfl, Nat.le_of_ble_eq_true rfl⟩) ⟨fun a U g mk q => q, fun U hU hW => ⟨rfl, trivial⟩⟩ rfl rfl hl.1 rfl (lv_room (Nat.le_of_ble_eq_true rfl)) dX4_baseMult_22 ⟨Nat.le_of_ble_eq_true rfl, Nat.le_of_ble_eq_true rfl⟩) ?_
  refine lv_iadd hx hb dX4_baseMult_25 ?_
  refine lv_i2s hx hb dX4_baseMult_26 rfl ?_
  refine lv_istore (lv' := [(7, .int (((lr_mm (lr_mm (a1) (b1)) (z)) + (lr_mm (a0) (b0))).toInt16.toInt32)), (0, .ref x), (1, .int (nI k)), (2, .int a0), (3, .int a1), (4, .int b0), (5, .int b1), (6, .int z)]) hx hb dX4_baseMult_27 hl (by decide) rfl (fun ls hl => ?_)
  refine lv_aload_n hx hb dX4_baseMult_29 rfl (lv_at hl 1 rfl) ?_
  refine lv_iload_n hx hb dX4_baseMult_30 rfl (lv_at hl 2 rfl) ?_
  refine lv_iload hx hb dX4_baseMult_31 (lv_at hl 0 rfl) ?_
  refine lr_ast (v := lr_b0 a0 a1 b0 b1 z) hx hb hK hH.1 rfl (by omega) (by omega) (lr_s16 _) dX4_baseMult_33 (fun H1 e1 => ?_)
  have hH1 := hH.trans e1
  have hL1 := hL.add (k := k)
  refine lv_iload_n hx hb dX4_baseMult_34 rfl (lv_at hl 3 rfl) ?_
  refine lv_iload hx hb dX4_baseMult_35 (lv_at hl 6 rfl) ?_
  refine lr_i (va_runS (As := [.int a0, .int b1]) (rest := []) ⟨hx, hb, hml, hown, hts⟩ (met_mm l (a0) (b1)) (va_cwS 2 hts (lw_S q51 q52 q4 q53) rfl rfl rfl (by decide +kernel) ⟨Nat.le_of_ble_eq_true rfl, Nat.le_of_ble_eq_true rfl⟩) ⟨fun a U g mk q => q, fun U hU hW => ⟨rfl, trivial⟩⟩ rfl rfl hl.1 rfl (lv_room (Nat.le_of_ble_eq_true rfl)) dX4_baseMult_37 ⟨Nat.le_of_ble_eq_true rfl, Nat.le_of_ble_eq_true rfl⟩) ?_
  refine lv_istore (lv' := [(8, .int (lr_mm (a0) (b1))), (7, .int (((lr_mm (lr_mm (a1) (b1)) (z)) + (lr_mm (a0) (b0))).toInt16.toInt32)), (0, .ref x), (1, .int (nI k)), (2, .int a0), (3, .int a1), (4, .int b0), (5, .int b1), (6, .int z)]) hx hb dX4_baseMult_40 hl (by decide) rfl (fun ls hl => ?_)
  refine lv_iload hx hb dX4_baseMult_42 (lv_at hl 0 rfl) ?_
  refine lv_iload_n hx hb dX4_baseMult_44 rfl (lv_at hl 5 rfl) ?_
  refine lv_iload hx hb dX4_baseMult_45 (lv_at hl 6 rfl) ?_
  refine lr_i (va_runS (As := [.int a1, .int b0]) (rest := [.int (lr_mm (a0) (b1))]) ⟨hx, hb, hml, hown, hts⟩ (met_mm l (a1) (b0)) (va_cwS 2 hts (lw_S q51 q52 q4 q53) rfl rfl rfl (by decide +kernel) ⟨Nat.le_of_ble_eq_true rfl, Nat.le_of_ble_eq_true rfl⟩) ⟨fun a U g mk q => q, fun U hU hW => ⟨rfl, trivial⟩⟩ rfl rfl hl.1 rfl (lv_room (Nat.le_of_ble_eq_true rfl)) dX4_baseMult_47 ⟨Nat.le_of_ble_eq_true rfl, Nat.le_of_ble_eq_true rfl⟩) ?_
  refine lv_iadd hx hb dX4_baseMult_50 ?_
  refine lv_i2s hx hb dX4_baseMult_51 rfl ?_
  refine lv_istore (lv' := [(8, .int (((lr_mm (a0) (b1)) + (lr_mm (a1) (b0))).toInt16.toInt32)), (7, .int (((lr_mm (lr_mm (a1) (b1)) (z)) + (lr_mm (a0) (b0))).toInt16.toInt32)), (0, .ref x), (1, .int (nI k)), (2, .int a0), (3, .int a1), (4, .int b0), (5, .int b1), (6, .int z)]) hx hb dX4_baseMult_52 hl (by decide) rfl (fun ls hl => ?_)
  refine lv_aload_n hx hb dX4_baseMult_54 rfl (lv_at hl 2 rfl) ?_
  refine lv_iload_n hx hb dX4_baseMult_55 rfl (lv_at hl 3 rfl) ?_
  refine lv_iconst (v := nI 1) hx hb dX4_baseMult_56 (by decide) ?_
  refine lv_iadd hx hb dX4_baseMult_57 ?_
  refine lv_iload hx hb dX4_baseMult_58 (lv_at hl 0 rfl) ?_
  refine lr_ast (v := lr_b1 a0 a1 b0 b1) hx hb hK hH1.1 (nI_1 k) (by omega) (by omega) (lr_s16 _) dX4_baseMult_60 (fun H2 e2 => ?_)
  exact W.vret hx hb hr (fun t ht hW => ⟨rfl, by rw [ht]; exact hH1.trans e2⟩) (fun q hq => hL1.add (k := k + 1) q hq) dX4_baseMult_61
end
section
/-! Ntt.ntt, Ntt.invNtt: layers of butterflies, in closed form -/
/-- a layer of ntt: blocks of 2 len places; the block b has the factor z (k0 + b) -/
def lr_lay (len k0 : Nat) (f : Nat → Int32) : Nat → Int32 := fun i =>
  if (i / len) % 2 = 0 then (f i + lr_mm (lr_z (k0 + i / (2 * len))) (f (i + len))).toInt16.toInt32
  else (f (i - len) - lr_mm (lr_z (k0 + i / (2 * len))) (f i)).toInt16.toInt32
def lr_ily (len k0 : Nat) (f : Nat → Int32) : Nat → Int32 := fun i =>
  if (i / len) % 2 = 0 then lr_br (f i + f (i + len)).toInt16.toInt32
  else lr_mm (lr_zi (k0 + i / (2 * len))) (f (i - len) - f i).toInt16.toInt32
def lr_nttL : Nat → (Nat → Int32) → Nat → Int32
  | 0, f => f
  | n + 1, f => lr_lay (128 / 2 ^ n) (2 ^ n) (lr_nttL n f)
def lr_invL : Nat → (Nat → Int32) → Nat → Int32
  | 0, f => f
  | n + 1, f => lr_ily (2 ^ (n + 1)) (128 - 128 / 2 ^ n) (lr_invL n f)
def lr_ntt (f : Nat → Int32) : Nat → Int32 := lr_nttL 7 f
def lr_inv (f : Nat → Int32) : Nat → Int32 := fun i => lr_mm (lr_invL 7 f i) (lr_zi 127)
theorem lr_ix_lo {len b r : Nat} (h : r < len) : (2 * len * b + r) / len % 2 = 0 ∧ (2 * len * b + r) / (2 * len) = b := by
  have h0 : 0 < len := by omega
  constructor
  · rw [show 2 * len * b + r = len * (2 * b) + r by rw [Nat.mul_comm 2 len, Nat.mul_assoc], Nat.mul_add_div h0, Nat.div_eq_of_lt h]
    omega
  · rw [Nat.mul_add_div (by omega), Nat.div_eq_of_lt (by omega)]
    rfl
theorem lr_ix_hi {len b r : Nat} (h : r < len) : (2 * len * b + r + len) / len % 2 = 1 ∧ (2 * len * b + r + len) / (2 * len) = b := by
  have h0 : 0 < len := by omega
  constructor
  · rw [show 2 * len * b + r + len = len * (2 * b + 1) + r by rw [Nat.mul_add, Nat.mul_comm 2 len, Nat.mul_assoc]; omega, Nat.mul_add_div h0, Nat.div_eq_of_lt h]
    omega
  · rw [Nat.add_assoc, Nat.mul_add_div (by omega), Nat.div_eq_of_lt (by omega)]
    rfl
theorem lr_lay_lo {len k0 b r : Nat} {f : Nat → Int32} (h : r < len) : lr_lay len k0 f (2 * len * b + r) = (f (2 * len * b + r) + lr_mm (lr_z (k0 + b)) (f (2 * len * b + r + len))).toInt16.toInt32 := by
  unfold lr_lay
  rw [if_pos (lr_ix_lo h).1, (lr_ix_lo h).2]
theorem lr_lay_hi {len k0 b r : Nat} {f : Nat → Int32} (h : r < len) : lr_lay len k0 f (2 * len * b + r + len) = (f (2 * len * b + r) - lr_mm (lr_z (k0 + b)) (f (2 * len * b + r + len))).toInt16.toInt32 := by
  unfold lr_lay
  rw [if_neg (by rw [(lr_ix_hi h).1]; decide), (lr_ix_hi h).2, Nat.add_sub_cancel]
theorem lr_ily_lo {len k0 b r : Nat} {f : Nat → Int32} (h : r < len) : lr_ily len k0 f (2 * len * b + r) = lr_br (f (2 * len * b + r) + f (2 * len * b + r + len)).toInt16.toInt32 := by
  unfold lr_ily
  rw [if_pos (lr_ix_lo h).1]
theorem lr_ily_hi {len k0 b r : Nat} {f : Nat → Int32} (h : r < len) : lr_ily len k0 f (2 * len * b + r + len) = lr_mm (lr_zi (k0 + b)) (f (2 * len * b + r) - f (2 * len * b + r + len)).toInt16.toInt32 := by
  unfold lr_ily
  rw [if_neg (by rw [(lr_ix_hi h).1]; decide), (lr_ix_hi h).2, Nat.add_sub_cancel]
/-- in the middle of a layer: the block from st on is done up to j -/
def lr_st (g f : Nat → Int32) (len st j : Nat) : Nat → Int32 := fun i => if i < j ∨ (st + len ≤ i ∧ i < j + len) then g i else f i
theorem lr_st_0 {g f : Nat → Int32} {len : Nat} : lr_st g f len 0 0 = f := by
  funext i
  unfold lr_st
  rw [if_neg (by omega)]
theorem lr_st_lo {g f : Nat → Int32} {len st j : Nat} (h1 : j < st + len) : lr_st g f len st j j = f j := by
  unfold lr_st
  rw [if_neg (by omega)]
theorem lr_st_hi {g f : Nat → Int32} {len st j : Nat} (h1 : st ≤ j) (h2 : 0 < len) : lr_st g f len st j (j + len) = f (j + len) := by
  unfold lr_st
  rw [if_neg (by omega)]
/-- the order of the two stores is free -/
theorem lr_st_1 {g f : Nat → Int32} {len st j : Nat} (h1 : st ≤ j) (h2 : j < st + len) {v w : Int32} (hv : g (j + len) = v) (hw : g j = w) : upd (upd (lr_st g f len st j) (j + len) v) j w = lr_st g f len st (j + 1) := by
  subst hv; subst hw
  funext i
  unfold upd lr_st
  by_cases a : i = j
  · subst a
    rw [if_pos rfl, if_pos (by omega)]
  · by_cases b : i = j + len
    · subst b
      rw [if_neg a, if_pos rfl, if_pos (by omega)]
    · rw [if_neg a, if_neg b]
      by_cases d : i < j ∨ st + len ≤ i ∧ i < j + len
      · rw [if_pos d, if_pos (by omega)]
      · rw [if_neg d, if_neg (by omega)]
theorem lr_st_2 {g f : Nat → Int32} {len st j : Nat} (h1 : st ≤ j) (h2 : j < st + len) {v w : Int32} (hv : g (j + len) = v) (hw : g j = w) : upd (upd (lr_st g f len st j) j w) (j + len) v = lr_st g f len st (j + 1) := by
  rw [← lr_st_1 h1 h2 hv hw]
  funext i
  unfold upd
  by_cases a : i = j
  · rw [if_neg (by omega), if_pos a, if_pos a]
  · by_cases b : i = j + len
    · rw [if_pos b, if_neg a, if_pos b]
    · rw [if_neg b, if_neg a, if_neg a, if_neg b]
theorem lr_st_n {g f : Nat → Int32} {len st : Nat} : lr_st g f len st (st + len) = lr_st g f len (st + len + len) (st + len + len) := by
  funext i
  unfold lr_st
  by_cases d : i < st + len ∨ st + len ≤ i ∧ i < st + len + len
  · rw [if_pos d, if_pos (by omega)]
  · rw [if_neg d, if_neg (by omega)]
theorem lr_st_e {g f : Nat → Int32} {len : Nat} {j : Nat} (h : j < 256) : lr_st g f len 256 256 j = g j := by
  unfold lr_st
  rw [if_pos (Or.inl h)]
theorem lr_f1 : ∀ n, n < 7 → 2 * (128 / 2 ^ n) * 2 ^ n = 256 ∧ 2 ≤ 128 / 2 ^ n ∧ 128 / 2 ^ n ≤ 128 ∧ 1 ≤ 2 ^ n ∧ 2 ^ n ≤ 64 ∧ 128 / 2 ^ (n + 1) = 128 / 2 ^ n / 2 ^ 1 ∧ 2 ^ (n + 1) = 2 ^ n + 2 ^ n := by decide
theorem lr_f2 : ∀ n, n < 7 → 2 * 2 ^ (n + 1) * (64 / 2 ^ n) = 256 ∧ 2 ≤ 2 ^ (n + 1) ∧ 2 ^ (n + 1) ≤ 128 ∧ 1 ≤ 64 / 2 ^ n ∧ 64 / 2 ^ n ≤ 64 ∧ 2 ^ (n + 1 + 1) = 2 ^ (n + 1) * 2 ^ 1 ∧ 128 - 128 / 2 ^ (n + 1) = 128 - 128 / 2 ^ n + 64 / 2 ^ n ∧ 128 - 128 / 2 ^ n + 64 / 2 ^ n ≤ 127 := by decide
theorem lr_blk {len nb b : Nat} (h : 2 * len * nb = 256) (hb : b < nb) : 2 * len * b + len + len ≤ 256 := by
  have h1 : 2 * len * (b + 1) ≤ 2 * len * nb := Nat.mul_le_mul_left _ hb
  rw [Nat.mul_add] at h1
  omega
theorem lr_blk1 {len b : Nat} : 2 * len * (b + 1) = 2 * len * b + len + len := by
  rw [Nat.mul_add]
  omega
set_option maxHeartbeats 4000000 in
set_option maxRecDepth 100000 in
/-- one layer, from the head of the outer loop to the head -/
theorem nt_layer {p : Program} {l : Launch} {e : Env} {s : State} {m : MethodId} {args : Array Value} {below : List Frame} {meth : Method} {c : Code} {Q : State → Prop} {G : lr_G} {x : Nat} (hx : p.tables.exec = Jvm.exec) (hb : c.code = cX4_ntt) (hml : c.maxLocals = 8) (hown : s.vm.findClass yX4_ntt.cls = some m.cls) (hts : ∀ w ∈ lw_all, w.before args s = true) (hK : lr_K G s) (hT : lr_T (fun q => q = x) s s.heap) (len k0 nb : Nat) (F : Nat → Int32) (hE : 2 * len * nb = 256) (hl2 : 2 ≤ len) (hl3 : len ≤ 128) (hkb : k0 + nb ≤ 128)
    (kk : ∀ (H : Heap) (locs : List Loc) (ls : Array Slot), lr_HS x (lr_S G (lr_lay len k0 F)) s.heap H → lr_L x locs → lv_has ls 8 [(0, .ref x), (2, .int (nI (k0 + nb))), (3, .int (nI (len / 2 ^ 1)))] → W p l e lr_r2 s m args below meth c H locs 0 0 Q (F0 m 6 ls []))
    {H : Heap} {locs : List Loc} {ls : Array Slot} (hH : lr_HS x (lr_S G F) s.heap H) (hL : lr_L x locs) (hl : lv_has ls 8 [(0, .ref x), (2, .int (nI k0)), (3, .int (nI len))]) : W p l e lr_r2 s m args below meth c H locs 0 0 Q (F0 m 6 ls []) := by
  obtain ⟨z1, z2, hZ1, hT1, hZ2, hT2⟩ := hT
  refine lv_iload_n hx hb dX4_ntt_6 rfl (lv_at hl 2 rfl) ?_
  refine lv_iconst (v := nI 2) hx hb dX4_ntt_7 (by decide) ?_
  refine lr_lt_f (tgt := 101) hx hb dX4_ntt_8 (by decide) (nI_nlt (by omega) (by omega)) ?_
  refine lv_iconst (v := nI 0) hx hb dX4_ntt_11 (by decide) ?_
  refine lv_istore (lv' := [(4, .int (nI 0)), (0, .ref x), (2, .int (nI k0)), (3, .int (nI len))]) hx hb dX4_ntt_12 hl (by decide) rfl (fun ls hl => ?_)
  refine lr_for (fun b H locs ls => lr_HS x (lr_S G (lr_st (lr_lay len k0 F) F len (2 * len * b) (2 * len * b))) s.heap H ∧ lr_L x locs ∧ lv_has ls 8 [(0, .ref x), (2, .int (nI (k0 + b))), (3, .int (nI len)), (4, .int (nI (2 * len * b)))]) nb ?_ ?_ 0 (Nat.zero_le _) ⟨hH.to (congrArg (lr_S G) lr_st_0.symm), hL, lv_sub hl [1, 2, 3, 0] rfl⟩
  · intro H locs ls hI
    obtain ⟨hH, hL, hl⟩ := hI
    refine lv_iload hx hb dX4_ntt_14 (lv_at hl 3 rfl) ?_
    refine lv_sipush (v := nI 256) hx hb dX4_ntt_16 (by decide) ?_
    refine lr_ge_t (tgt := 94) hx hb dX4_ntt_19 (by decide) (by rw [hE]; exact Int32.le_refl _) ?_
    refine lv_iload_n hx hb dX4_ntt_94 rfl (lv_at hl 2 rfl) ?_
    refine lv_iconst (v := nI 1) hx hb dX4_ntt_95 (by decide) ?_
    refine lv_ishr hx hb dX4_ntt_96 ?_
    rw [show (nI len) >>> ((nI 1) &&& 31) = nI (len / 2 ^ 1) from pk_shrN (by omega) _ 1 (by decide)]
    refine lv_istore_n (lv' := [(3, .int (nI (len / 2 ^ 1))), (0, .ref x), (2, .int (nI (k0 + nb))), (4, .int (nI (2 * len * nb)))]) hx hb dX4_ntt_97 rfl hl (by decide) rfl (fun ls hl => ?_)
    refine lv_goto (tgt := 6) hx hb dX4_ntt_98 (by decide) ?_
    exact kk _ _ _ (hH.to (lr_cell (fun j hj => by rw [hE]; exact lr_st_e hj))) hL (lv_sub hl [1, 2, 0] rfl)
  · intro b hb2 H locs ls hI ihM
    obtain ⟨hH, hL, hl⟩ := hI
    have hbl := lr_blk hE hb2
    refine lv_iload hx hb dX4_ntt_14 (lv_at hl 3 rfl) ?_
    refine lv_sipush (v := nI 256) hx hb dX4_ntt_16 (by decide) ?_
    refine lr_ge_f (tgt := 94) hx hb dX4_ntt_19 (by decide) (nI_ge (by omega) (by omega)) ?_
    refine lr_gets hx hb hts hown hZ1 (hH.S hL) q49 dX4_ntt_22 ?_
    refine lv_iload_n hx hb dX4_ntt_25 rfl (lv_at hl 1 rfl) ?_
    refine lv_iinc (v := nI (k0 + b + 1)) (lv' := [(2, .int (nI (k0 + b + 1))), (0, .ref x), (3, .int (nI len)), (4, .int (nI (2 * len * b)))]) hx hb dX4_ntt_26 hl (k := 1) rfl (lr_inc _) (by decide) rfl (fun ls hl => ?_)
    refine lr_tld hx hb hT1 (hH.S hL) rfl (by omega) dX4_ntt_29 ?_
    refine lv_istore (lv' := [(5, .int (lr_z (k0 + b))), (2, .int (nI (k0 + b + 1))), (0, .ref x), (3, .int (nI len)), (4, .int (nI (2 * len * b)))]) hx hb dX4_ntt_30 hl (by decide) rfl (fun ls hl => ?_)
    refine lv_iload hx hb dX4_ntt_32 (lv_at hl 4 rfl) ?_
    refine lv_istore_n (lv' := [(1, .int (nI (2 * len * b))), (5, .int (lr_z (k0 + b))), (2, .int (nI (k0 + b + 1))), (0, .ref x), (3, .int (nI len)), (4, .int (nI (2 * len * b)))]) hx hb dX4_ntt_34 rfl hl (by decide) rfl (fun ls hl => ?_)
    refine lr_for (fun r H locs ls => lr_HS x (lr_S G (lr_st (lr_lay len k0 F) F len (2 * len * b) (2 * len * b + r))) s.heap H ∧ lr_L x locs ∧ lv_has ls 8 [(0, .ref x), (1, .int (nI (2 * len * b + r))), (2, .int (nI (k0 + b + 1))), (3, .int (nI len)), (4, .int (nI (2 * len * b))), (5, .int (lr_z (k0 + b)))]) len ?_ ?_ 0 (Nat.zero_le _) ⟨hH, hL, lv_sub hl [3, 0, 2, 4, 5, 1] rfl⟩
    · intro H locs ls hI
      obtain ⟨hH, hL, hl⟩ := hI
      refine lv_iload_n hx hb dX4_ntt_35 rfl (lv_at hl 1 rfl) ?_
      refine lv_iload hx hb dX4_ntt_36 (lv_at hl 4 rfl) ?_
      refine lv_iload_n hx hb dX4_ntt_38 rfl (lv_at hl 3 rfl) ?_
      refine lv_iadd hx hb dX4_ntt_39 ?_
      rw [show (nI (2 * len * b)) + (nI len) = nI (2 * len * b + len) from nI_add _ _]
      refine lr_ge_t (tgt := 86) hx hb dX4_ntt_40 (by decide) (Int32.le_refl _) ?_
      refine lv_iload_n hx hb dX4_ntt_86 rfl (lv_at hl 1 rfl) ?_
      refine lv_iload_n hx hb dX4_ntt_87 rfl (lv_at hl 3 rfl) ?_
      refine lv_iadd hx hb dX4_ntt_88 ?_
      rw [show (nI (2 * len * b + len)) + (nI len) = nI (2 * len * (b + 1)) from (nI_add _ _).trans (congrArg nI lr_blk1.symm)]
      refine lv_istore (lv' := [(4, .int (nI (2 * len * (b + 1)))), (0, .ref x), (1, .int (nI (2 * len * b + len))), (2, .int (nI (k0 + b + 1))), (3, .int (nI len)), (5, .int (lr_z (k0 + b)))]) hx hb dX4_ntt_89 hl (by decide) rfl (fun ls hl => ?_)
      refine lv_goto (tgt := 14) hx hb dX4_ntt_91 (by decide) ?_
      exact ihM _ _ _ ⟨hH.to (congrArg (lr_S G) (by rw [lr_blk1]; exact lr_st_n)), hL, lv_sub hl [1, 3, 4, 0] rfl⟩
    · intro r hr2 H locs ls hI ihI
      obtain ⟨hH, hL, hl⟩ := hI
      refine lv_iload_n hx hb dX4_ntt_35 rfl (lv_at hl 1 rfl) ?_
      refine lv_iload hx hb dX4_ntt_36 (lv_at hl 4 rfl) ?_
      refine lv_iload_n hx hb dX4_ntt_38 rfl (lv_at hl 3 rfl) ?_
      refine lv_iadd hx hb dX4_ntt_39 ?_
      rw [show (nI (2 * len * b)) + (nI len) = nI (2 * len * b + len) from nI_add _ _]
      refine lr_ge_f (tgt := 86) hx hb dX4_ntt_40 (by decide) (nI_ge (by omega) (by omega)) ?_
      refine lv_aload_n hx hb dX4_ntt_43 rfl (lv_at hl 0 rfl) ?_
      refine lv_iload_n hx hb dX4_ntt_44 rfl (lv_at hl 1 rfl) ?_
      refine lr_ald (k := (2 * len * b + r)) hx hb hK hH.1 rfl (by omega) (by omega) dX4_ntt_45 ?_
      rw [show lr_st (lr_lay len k0 F) F len (2 * len * b) (2 * len * b + r) (2 * len * b + r) = F (2 * len * b + r) from lr_st_lo (by omega)]
      refine lv_istore (lv' := [(6, .int (F (2 * len * b + r))), (0, .ref x), (1, .int (nI (2 * len * b + r))), (2, .int (nI (k0 + b + 1))), (3, .int (nI len)), (4, .int (nI (2 * len * b))), (5, .int (lr_z (k0 + b)))]) hx hb dX4_ntt_46 hl (by decide) rfl (fun ls hl => ?_)
      refine lv_iload hx hb dX4_ntt_48 (lv_at hl 6 rfl) ?_
      refine lv_aload_n hx hb dX4_ntt_50 rfl (lv_at hl 1 rfl) ?_
      refine lv_iload_n hx hb dX4_ntt_51 rfl (lv_at hl 2 rfl) ?_
      refine lv_iload_n hx hb dX4_ntt_52 rfl (lv_at hl 4 rfl) ?_
      refine lv_iadd hx hb dX4_ntt_53 ?_
      refine lr_ald (k := (2 * len * b + r + len)) hx hb hK hH.1 (nI_add _ _) (by omega) (by omega) dX4_ntt_54 ?_
      rw [show lr_st (lr_lay len k0 F) F len (2 * len * b) (2 * len * b + r) (2 * len * b + r + len) = F (2 * len * b + r + len) from lr_st_hi (by omega) (by omega)]
      refine lr_i (va_runS (As := [.int (lr_z (k0 + b)), .int (F (2 * len * b + r + len))]) (rest := []) ⟨hx, hb, hml, hown, hts⟩ (met_mm l (lr_z (k0 + b)) (F (2 * len * b + r + len))) (va_cwS 2 hts (lw_S q51 q52 q4 q53) rfl rfl rfl (by decide +kernel) ⟨Nat.le_of_ble_eq_true rfl, Nat.le_of_ble_eq_true rfl⟩) ⟨fun a U g mk q => q, fun U hU hW => ⟨rfl, trivial⟩⟩ rfl rfl hl.1 rfl (lv_room (Nat.le_of_ble_eq_true rfl)) dX4_ntt_55 ⟨Nat.le_of_ble_eq_true rfl, Nat.le_of_ble_eq_true rfl⟩) ?_
      refine lv_istore (lv' := [(7, .int (lr_mm (lr_z (k0 + b)) (F (2 * len * b + r + len)))), (6, .int (F (2 * len * b + r))), (0, .ref x), (1, .int (nI (2 * len * b + r))), (2, .int (nI (k0 + b + 1))), (3, .int (nI len)), (4, .int (nI (2 * len * b))), (5, .int (lr_z (k0 + b)))]) hx hb dX4_ntt_58 hl (by decide) rfl (fun ls hl => ?_)
      refine lv_aload_n hx hb dX4_ntt_60 rfl (lv_at hl 2 rfl) ?_
      refine lv_iload_n hx hb dX4_ntt_61 rfl (lv_at hl 3 rfl) ?_
      refine lv_iload_n hx hb dX4_ntt_62 rfl (lv_at hl 5 rfl) ?_
      refine lv_iadd hx hb dX4_ntt_63 ?_
      refine lv_iload hx hb dX4_ntt_64 (lv_at hl 1 rfl) ?_
      refine lv_iload hx hb dX4_ntt_66 (lv_at hl 0 rfl) ?_
      refine lv_isub hx hb dX4_ntt_68 ?_
      refine lv_i2s hx hb dX4_ntt_69 rfl ?_
      refine lr_ast (k := (2 * len * b + r + len)) (v := (F (2 * len * b + r) - lr_mm (lr_z (k0 + b)) (F (2 * len * b + r + len))).toInt16.toInt32) hx hb hK hH.1 (nI_add _ _) (by omega) (by omega) (lr_s16 _) dX4_ntt_70 (fun H1 e1 => ?_)
      refine lv_aload_n hx hb dX4_ntt_71 rfl (lv_at hl 2 rfl) ?_
      refine lv_iload_n hx hb dX4_ntt_72 rfl (lv_at hl 3 rfl) ?_
      refine lv_iload hx hb dX4_ntt_73 (lv_at hl 1 rfl) ?_
      refine lv_iload hx hb dX4_ntt_75 (lv_at hl 0 rfl) ?_
      refine lv_iadd hx hb dX4_ntt_77 ?_
      refine lv_i2s hx hb dX4_ntt_78 rfl ?_
      refine lr_ast (k := (2 * len * b + r)) (v := (F (2 * len * b + r) + lr_mm (lr_z (k0 + b)) (F (2 * len * b + r + len))).toInt16.toInt32) hx hb hK e1.1 rfl (by omega) (by omega) (lr_s16 _) dX4_ntt_79 (fun H2 e2 => ?_)
      have hH2 := ((hH.trans e1).trans e2).to (congrArg (lr_S G) (lr_st_1 (by omega) (by omega) (lr_lay_hi (b := b) hr2) (lr_lay_lo (b := b) hr2)))
      refine lv_iinc (v := nI (2 * len * b + (r + 1))) (lv' := [(1, .int (nI (2 * len * b + (r + 1)))), (7, .int (lr_mm (lr_z (k0 + b)) (F (2 * len * b + r + len)))), (6, .int (F (2 * len * b + r))), (0, .ref x), (2, .int (nI (k0 + b + 1))), (3, .int (nI len)), (4, .int (nI (2 * len * b))), (5, .int (lr_z (k0 + b)))]) hx hb dX4_ntt_80 hl (k := 3) rfl (lr_inc _) (by decide) rfl (fun ls hl => ?_)
      refine lv_goto (tgt := 35) hx hb dX4_ntt_83 (by decide) ?_
      exact ihI _ _ _ ⟨hH2, hL.add.add, lv_sub hl [3, 0, 4, 5, 6, 7] rfl⟩

set_option maxHeartbeats 4000000 in
set_option maxRecDepth 100000 in
/-- one layer, from the head of the outer loop to the head -/
theorem in_layer {p : Program} {l : Launch} {e : Env} {s : State} {m : MethodId} {args : Array Value} {below : List Frame} {meth : Method} {c : Code} {Q : State → Prop} {G : lr_G} {x : Nat} (hx : p.tables.exec = Jvm.exec) (hb : c.code = cX4_invNtt) (hml : c.maxLocals = 8) (hown : s.vm.findClass yX4_invNtt.cls = some m.cls) (hts : ∀ w ∈ lw_all, w.before args s = true) (hK : lr_K G s) (hT : lr_T (fun q => q = x) s s.heap) (len k0 nb : Nat) (F : Nat → Int32) (hE : 2 * len * nb = 256) (hl2 : 2 ≤ len) (hl3 : len ≤ 128) (hkb : k0 + nb ≤ 128)
    (kk : ∀ (H : Heap) (locs : List Loc) (ls : Array Slot), lr_HS x (lr_S G (lr_ily len k0 F)) s.heap H → lr_L x locs → lv_has ls 8 [(0, .ref x), (2, .int (nI (k0 + nb))), (3, .int (nI (len * 2 ^ 1)))] → W p l e lr_r2 s m args below meth c H locs 0 0 Q (F0 m 4 ls []))
    {H : Heap} {locs : List Loc} {ls : Array Slot} (hH : lr_HS x (lr_S G F) s.heap H) (hL : lr_L x locs) (hl : lv_has ls 8 [(0, .ref x), (2, .int (nI k0)), (3, .int (nI len))]) : W p l e lr_r2 s m args below meth c H locs 0 0 Q (F0 m 4 ls []) := by
  obtain ⟨z1, z2, hZ1, hT1, hZ2, hT2⟩ := hT
  refine lv_iload_n hx hb dX4_invNtt_4 rfl (lv_at hl 2 rfl) ?_
  refine lv_sipush (v := nI 128) hx hb dX4_invNtt_5 (by decide) ?_
  refine lr_gt_f (tgt := 104) hx hb dX4_invNtt_8 (by decide) (nI_nlt (by omega) (by omega)) ?_
  refine lv_iconst (v := nI 0) hx hb dX4_invNtt_11 (by decide) ?_
  refine lv_istore (lv' := [(4, .int (nI 0)), (0, .ref x), (2, .int (nI k0)), (3, .int (nI len))]) hx hb dX4_invNtt_12 hl (by decide) rfl (fun ls hl => ?_)
  refine lr_for (fun b H locs ls => lr_HS x (lr_S G (lr_st (lr_ily len k0 F) F len (2 * len * b) (2 * len * b))) s.heap H ∧ lr_L x locs ∧ lv_has ls 8 [(0, .ref x), (2, .int (nI (k0 + b))), (3, .int (nI len)), (4, .int (nI (2 * len * b)))]) nb ?_ ?_ 0 (Nat.zero_le _) ⟨hH.to (congrArg (lr_S G) lr_st_0.symm), hL, lv_sub hl [1, 2, 3, 0] rfl⟩
  · intro H locs ls hI
    obtain ⟨hH, hL, hl⟩ := hI
    refine lv_iload hx hb dX4_invNtt_14 (lv_at hl 3 rfl) ?_
    refine lv_sipush (v := nI 256) hx hb dX4_invNtt_16 (by decide) ?_
    refine lr_ge_t (tgt := 97) hx hb dX4_invNtt_19 (by decide) (by rw [hE]; exact Int32.le_refl _) ?_
    refine lv_iload_n hx hb dX4_invNtt_97 rfl (lv_at hl 2 rfl) ?_
    refine lv_iconst (v := nI 1) hx hb dX4_invNtt_98 (by decide) ?_
    refine lv_ishl hx hb dX4_invNtt_99 ?_
    rw [show (nI len) <<< ((nI 1) &&& 31) = nI (len * 2 ^ 1) from pk_shlN _ 1 (by decide) (by omega)]
    refine lv_istore_n (lv' := [(3, .int (nI (len * 2 ^ 1))), (0, .ref x), (2, .int (nI (k0 + nb))), (4, .int (nI (2 * len * nb)))]) hx hb dX4_invNtt_100 rfl hl (by decide) rfl (fun ls hl => ?_)
    refine lv_goto (tgt := 4) hx hb dX4_invNtt_101 (by decide) ?_
    exact kk _ _ _ (hH.to (lr_cell (fun j hj => by rw [hE]; exact lr_st_e hj))) hL (lv_sub hl [1, 2, 0] rfl)
  · intro b hb2 H locs ls hI ihM
    obtain ⟨hH, hL, hl⟩ := hI
    have hbl := lr_blk hE hb2
    refine lv_iload hx hb dX4_invNtt_14 (lv_at hl 3 rfl) ?_
    refine lv_sipush (v := nI 256) hx hb dX4_invNtt_16 (by decide) ?_
    refine lr_ge_f (tgt := 97) hx hb dX4_invNtt_19 (by decide) (nI_ge (by omega) (by omega)) ?_
    refine lr_gets hx hb hts hown hZ2 (hH.S hL) q81 dX4_invNtt_22 ?_
    refine lv_iload_n hx hb dX4_invNtt_25 rfl (lv_at hl 1 rfl) ?_
    refine lv_iinc (v := nI (k0 + b + 1)) (lv' := [(2, .int (nI (k0 + b + 1))), (0, .ref x), (3, .int (nI len)), (4, .int (nI (2 * len * b)))]) hx hb dX4_invNtt_26 hl (k := 1) rfl (lr_inc _) (by decide) rfl (fun ls hl => ?_)
    refine lr_tld hx hb hT2 (hH.S hL) rfl (by omega) dX4_invNtt_29 ?_
    refine lv_istore (lv' := [(5, .int (lr_zi (k0 + b))), (2, .int (nI (k0 + b + 1))), (0, .ref x), (3, .int (nI len)), (4, .int (nI (2 * len * b)))]) hx hb dX4_invNtt_30 hl (by decide) rfl (fun ls hl => ?_)
    refine lv_iload hx hb dX4_invNtt_32 (lv_at hl 4 rfl) ?_
    refine lv_istore_n (lv' := [(1, .int (nI (2 * len * b))), (5, .int (lr_zi (k0 + b))), (2, .int (nI (k0 + b + 1))), (0, .ref x), (3, .int (nI len)), (4, .int (nI (2 * len * b)))]) hx hb dX4_invNtt_34 rfl hl (by decide) rfl (fun ls hl => ?_)
    refine lr_for (fun r H locs ls => lr_HS x (lr_S G (lr_st (lr_ily len k0 F) F len (2 * len * b) (2 * len * b + r))) s.heap H ∧ lr_L x locs ∧ lv_has ls 8 [(0, .ref x), (1, .int (nI (2 * len * b + r))), (2, .int (nI (k0 + b + 1))), (3, .int (nI len)), (4, .int (nI (2 * len * b))), (5, .int (lr_zi (k0 + b)))]) len ?_ ?_ 0 (Nat.zero_le _) ⟨hH, hL, lv_sub hl [3, 0, 2, 4, 5, 1] rfl⟩
    · intro H locs ls hI
      obtain ⟨hH, hL, hl⟩ := hI
      refine lv_iload_n hx hb dX4_invNtt_35 rfl (lv_at hl 1 rfl) ?_
      refine lv_iload hx hb dX4_invNtt_36 (lv_at hl 4 rfl) ?_
      refine lv_iload_n hx hb dX4_invNtt_38 rfl (lv_at hl 3 rfl) ?_
      refine lv_iadd hx hb dX4_invNtt_39 ?_
      rw [show (nI (2 * len * b)) + (nI len) = nI (2 * len * b + len) from nI_add _ _]
      refine lr_ge_t (tgt := 89) hx hb dX4_invNtt_40 (by decide) (Int32.le_refl _) ?_
      refine lv_iload_n hx hb dX4_invNtt_89 rfl (lv_at hl 1 rfl) ?_
      refine lv_iload_n hx hb dX4_invNtt_90 rfl (lv_at hl 3 rfl) ?_
      refine lv_iadd hx hb dX4_invNtt_91 ?_
      rw [show (nI (2 * len * b + len)) + (nI len) = nI (2 * len * (b + 1)) from (nI_add _ _).trans (congrArg nI lr_blk1.symm)]
      refine lv_istore (lv' := [(4, .int (nI (2 * len * (b + 1)))), (0, .ref x), (1, .int (nI (2 * len * b + len))), (2, .int (nI (k0 + b + 1))), (3, .int (nI len)), (5, .int (lr_zi (k0 + b)))]) hx hb dX4_invNtt_92 hl (by decide) rfl (fun ls hl => ?_)
      refine lv_goto (tgt := 14) hx hb dX4_invNtt_94 (by decide) ?_
      exact ihM _ _ _ ⟨hH.to (congrArg (lr_S G) (by rw [lr_blk1]; exact lr_st_n)), hL, lv_sub hl [1, 3, 4, 0] rfl⟩
    · intro r hr2 H locs ls hI ihI
      obtain ⟨hH, hL, hl⟩ := hI
      refine lv_iload_n hx hb dX4_invNtt_35 rfl (lv_at hl 1 rfl) ?_
      refine lv_iload hx hb dX4_invNtt_36 (lv_at hl 4 rfl) ?_
      refine lv_iload_n hx hb dX4_invNtt_38 rfl (lv_at hl 3 rfl) ?_
      refine lv_iadd hx hb dX4_invNtt_39 ?_
      rw [show (nI (2 * len * b)) + (nI len) = nI (2 * len * b + len) from nI_add _ _]
      refine lr_ge_f (tgt := 89) hx hb dX4_invNtt_40 (by decide) (nI_ge (by omega) (by omega)) ?_
      refine lv_aload_n hx hb dX4_invNtt_43 rfl (lv_at hl 0 rfl) ?_
      refine lv_iload_n hx hb dX4_invNtt_44 rfl (lv_at hl 1 rfl) ?_
      refine lr_ald (k := (2 * len * b + r)) hx hb hK hH.1 rfl (by omega) (by omega) dX4_invNtt_45 ?_
      rw [show lr_st (lr_ily len k0 F) F len (2 * len * b) (2 * len * b + r) (2 * len * b + r) = F (2 * len * b + r) from lr_st_lo (by omega)]
      refine lv_istore (lv' := [(6, .int (F (2 * len * b + r))), (0, .ref x), (1, .int (nI (2 * len * b + r))), (2, .int (nI (k0 + b + 1))), (3, .int (nI len)), (4, .int (nI (2 * len * b))), (5, .int (lr_zi (k0 + b)))]) hx hb dX4_invNtt_46 hl (by decide) rfl (fun ls hl => ?_)
      refine lv_aload_n hx hb dX4_invNtt_48 rfl (lv_at hl 1 rfl) ?_
      refine lv_iload_n hx hb dX4_invNtt_49 rfl (lv_at hl 2 rfl) ?_
      refine lv_iload_n hx hb dX4_invNtt_50 rfl (lv_at hl 4 rfl) ?_
      refine lv_iadd hx hb dX4_invNtt_51 ?_
      refine lr_ald (k := (2 * len * b + r + len)) hx hb hK hH.1 (nI_add _ _) (by omega) (by omega) dX4_invNtt_52 ?_
      rw [show lr_st (lr_ily len k0 F) F len (2 * len * b) (2 * len * b + r) (2 * len * b + r + len) = F (2 * len * b + r + len) from lr_st_hi (by omega) (by omega)]
      refine lv_istore (lv' := [(7, .int (F (2 * len * b + r + len))), (6, .int (F (2 * len * b + r))), (0, .ref x), (1, .int (nI (2 * len * b + r))), (2, .int (nI (k0 + b + 1))), (3, .int (nI len)), (4, .int (nI (2 * len * b))), (5, .int (lr_zi (k0 + b)))]) hx hb dX4_invNtt_53 hl (by decide) rfl (fun ls hl => ?_)
      refine lv_aload_n hx hb dX4_invNtt_55 rfl (lv_at hl 2 rfl) ?_
      refine lv_iload_n hx hb dX4_invNtt_56 rfl (lv_at hl 3 rfl) ?_
      refine lv_iload hx hb dX4_invNtt_57 (lv_at hl 1 rfl) ?_
      refine lv_iload hx hb dX4_invNtt_59 (lv_at hl 0 rfl) ?_
      refine lv_iadd hx hb dX4_invNtt_61 ?_
      refine lv_i2s hx hb dX4_invNtt_62 rfl ?_
      refine lr_i (va_runS (As := [.int (((F (2 * len * b + r)) + (F (2 * len * b + r + len))).toInt16.toInt32)]) (rest := [.int (nI (2 * len * b + r)), .ref x]) ⟨hx, hb, hml, hown, hts⟩ (met_br l (((F (2 * len * b + r)) + (F (2 * len * b + r + len))).toInt16.toInt32)) (va_cwS 1 hts (lw_S q83 q63 q3 q64) rfl rfl rfl (by decide +kernel) ⟨Nat.le_of_ble_eq_true rfl, Nat.le_of_ble_eq_true rfl⟩) ⟨fun a U g mk q => q, fun U hU hW => ⟨rfl, trivial⟩⟩ rfl rfl hl.1 rfl (lv_room (Nat.le_of_ble_eq_true rfl)) dX4_invNtt_63 ⟨Nat.le_of_ble_eq_true rfl, Nat.le_of_ble_eq_true rfl⟩) ?_
      refine lr_ast (k := (2 * len * b + r)) (v := lr_br (F (2 * len * b + r) + F (2 * len * b + r + len)).toInt16.toInt32) hx hb hK hH.1 rfl (by omega) (by omega) (lr_br16 _) dX4_invNtt_66 (fun H1 e1 => ?_)
      refine lv_aload_n hx hb dX4_invNtt_67 rfl (lv_at hl 2 rfl) ?_
      refine lv_iload_n hx hb dX4_invNtt_68 rfl (lv_at hl 3 rfl) ?_
      refine lv_iload_n hx hb dX4_invNtt_69 rfl (lv_at hl 5 rfl) ?_
      refine lv_iadd hx hb dX4_invNtt_70 ?_
      refine lv_iload hx hb dX4_invNtt_71 (lv_at hl 7 rfl) ?_
      refine lv_iload hx hb dX4_invNtt_73 (lv_at hl 1 rfl) ?_
      refine lv_iload hx hb dX4_invNtt_75 (lv_at hl 0 rfl) ?_
      refine lv_isub hx hb dX4_invNtt_77 ?_
      refine lv_i2s hx hb dX4_invNtt_78 rfl ?_
      refine lr_i (va_runS (As := [.int (lr_zi (k0 + b)), .int (((F (2 * len * b + r)) - (F (2 * len * b + r + len))).toInt16.toInt32)]) (rest := [.int ((nI (2 * len * b + r)) + (nI len)), .ref x]) ⟨hx, hb, hml, hown, hts⟩ (met_mm l (lr_zi (k0 + b)) (((F (2 * len * b + r)) - (F (2 * len * b + r + len))).toInt16.toInt32)) (va_cwS 2 hts (lw_S q51 q52 q4 q53) rfl rfl rfl (by decide +kernel) ⟨Nat.le_of_ble_eq_true rfl, Nat.le_of_ble_eq_true rfl⟩) ⟨fun a U g mk q => q, fun U hU hW => ⟨rfl, trivial⟩⟩ rfl rfl hl.1 rfl (lv_room (Nat.le_of_ble_eq_true rfl)) dX4_invNtt_79 ⟨Nat.le_of_ble_eq_true rfl, Nat.le_of_ble_eq_true rfl⟩) ?_
      refine lr_ast (k := (2 * len * b + r + len)) (v := lr_mm (lr_zi (k0 + b)) (F (2 * len * b + r) - F (2 * len * b + r + len)).toInt16.toInt32) hx hb hK e1.1 (nI_add _ _) (by omega) (by omega) (lr_mm16 _ _) dX4_invNtt_82 (fun H2 e2 => ?_)
      have hH2 := ((hH.trans e1).trans e2).to (congrArg (lr_S G) (lr_st_2 (by omega) (by omega) (lr_ily_hi (b := b) hr2) (lr_ily_lo (b := b) hr2)))
      refine lv_iinc (v := nI (2 * len * b + (r + 1))) (lv' := [(1, .int (nI (2 * len * b + (r + 1)))), (7, .int (F (2 * len * b + r + len))), (6, .int (F (2 * len * b + r))), (0, .ref x), (2, .int (nI (k0 + b + 1))), (3, .int (nI len)), (4, .int (nI (2 * len * b))), (5, .int (lr_zi (k0 + b)))]) hx hb dX4_invNtt_83 hl (k := 3) rfl (lr_inc _) (by decide) rfl (fun ls hl => ?_)
      refine lv_goto (tgt := 35) hx hb dX4_invNtt_86 (by decide) ?_
      exact ihI _ _ _ ⟨hH2, hL.add.add, lv_sub hl [3, 0, 4, 5, 6, 7] rfl⟩

set_option maxHeartbeats 4000000 in
set_option maxRecDepth 100000 in
theorem met_ntt (l : Launch) (G : lr_G) (x : Nat) (f : Nat → Int32) : Met l yX4_ntt (ws_ yX4_ntt cX4_ntt 8 none) lr_r2 (va_Pc [.ref x] (lr_B G (fun q => q = x) (fun H => H[x]? = some (lr_S G f)))) (lr_Qv (lr_HS x (lr_S G (lr_ntt f)))) 0 0 (fun q => q = x) := by
  refine lr_met (by decide) (Nat.le_of_ble_eq_true rfl) ?_
  intro p e s m below meth c hx hb hr hml hown hts hlocks hin hB ls hl
  obtain ⟨hΦ, hK, hT⟩ := hB
  have hl : lv_has ls 8 [(0, .ref x)] := hl
  have hH := lr_HS.rf hΦ
  have hL := lr_L.nil (x := x)
  refine lv_iconst (v := nI 1) hx hb dX4_ntt_0 (by decide) ?_
  refine lv_istore_n (lv' := [(2, .int (nI 1)), (0, .ref x)]) hx hb dX4_ntt_1 rfl hl (by decide) rfl (fun ls hl => ?_)
  refine lv_sipush (v := nI 128) hx hb dX4_ntt_2 (by decide) ?_
  refine lv_istore_n (lv' := [(3, .int (nI 128)), (2, .int (nI 1)), (0, .ref x)]) hx hb dX4_ntt_5 rfl hl (by decide) rfl (fun ls hl => ?_)
  refine lr_for (fun n H locs ls => lr_HS x (lr_S G (lr_nttL n f)) s.heap H ∧ lr_L x locs ∧ lv_has ls 8 [(0, .ref x), (2, .int (nI (2 ^ n))), (3, .int (nI (128 / 2 ^ n)))]) 7 ?_ ?_ 0 (Nat.zero_le _) ⟨hH, hL, lv_sub hl [2, 1, 0] rfl⟩
  · intro H locs ls hI
    obtain ⟨hH, hL, hl⟩ := hI
    refine lv_iload_n hx hb dX4_ntt_6 rfl (lv_at hl 2 rfl) ?_
    refine lv_iconst (v := nI 2) hx hb dX4_ntt_7 (by decide) ?_
    refine lr_lt_t (tgt := 101) hx hb dX4_ntt_8 (by decide) (by decide) ?_
    exact W.vret hx hb hr (fun t ht hW => ⟨rfl, by rw [ht]; exact hH⟩) (fun q hq => hL q hq) dX4_ntt_101
  · intro n hn H locs ls hI ih
    obtain ⟨hH, hL, hl⟩ := hI
    obtain ⟨f1, f2, f3, f4, f5, f6, f7⟩ := lr_f1 n hn
    exact nt_layer hx hb hml hown hts hK hT (128 / 2 ^ n) (2 ^ n) (2 ^ n) (lr_nttL n f) f1 f2 f3 (by omega) (fun H locs ls a1 a2 a3 => ih _ _ _ ⟨a1, a2, by rw [f6, f7]; exact a3⟩) hH hL hl
/-- the places below i have their new value -/
def lr_to (g f : Nat → Int32) (i : Nat) : Nat → Int32 := fun j => if j < i then g j else f j
theorem lr_to_0 {g f : Nat → Int32} : lr_to g f 0 = f := by
  funext j
  unfold lr_to
  rw [if_neg (by omega)]
theorem lr_to_at (g f : Nat → Int32) {i : Nat} : lr_to g f i i = f i := by
  unfold lr_to
  rw [if_neg (by omega)]
theorem lr_to_1 {g f : Nat → Int32} {i : Nat} {v : Int32} (h : g i = v) : upd (lr_to g f i) i v = lr_to g f (i + 1) := by
  subst h
  funext j
  unfold upd lr_to
  by_cases a : j = i
  · subst a
    rw [if_pos rfl, if_pos (by omega)]
  · rw [if_neg a]
    by_cases d : j < i
    · rw [if_pos d, if_pos (by omega)]
    · rw [if_neg d, if_neg (by omega)]
theorem lr_to_e {g f : Nat → Int32} {n j : Nat} (h : j < n) : lr_to g f n j = g j := by
  unfold lr_to
  rw [if_pos h]
set_option maxHeartbeats 4000000 in
set_option maxRecDepth 100000 in
theorem met_inv (l : Launch) (G : lr_G) (x : Nat) (f : Nat → Int32) : Met l yX4_invNtt (ws_ yX4_invNtt cX4_invNtt 8 none) lr_r2 (va_Pc [.ref x] (lr_B G (fun q => q = x) (fun H => H[x]? = some (lr_S G f)))) (lr_Qv (lr_HS x (lr_S G (lr_inv f)))) 0 0 (fun q => q = x) := by
  refine lr_met (by decide) (Nat.le_of_ble_eq_true rfl) ?_
  intro p e s m below meth c hx hb hr hml hown hts hlocks hin hB ls hl
  obtain ⟨hΦ, hK, hT⟩ := hB
  have hl : lv_has ls 8 [(0, .ref x)] := hl
  have hH := lr_HS.rf hΦ
  have hL := lr_L.nil (x := x)
  refine lv_iconst (v := nI 0) hx hb dX4_invNtt_0 (by decide) ?_
  refine lv_istore_n (lv' := [(2, .int (nI 0)), (0, .ref x)]) hx hb dX4_invNtt_1 rfl hl (by decide) rfl (fun ls hl => ?_)
  refine lv_iconst (v := nI 2) hx hb dX4_invNtt_2 (by decide) ?_
  refine lv_istore_n (lv' := [(3, .int (nI 2)), (2, .int (nI 0)), (0, .ref x)]) hx hb dX4_invNtt_3 rfl hl (by decide) rfl (fun ls hl => ?_)
  refine lr_for (fun n H locs ls => lr_HS x (lr_S G (lr_invL n f)) s.heap H ∧ lr_L x locs ∧ lv_has ls 8 [(0, .ref x), (2, .int (nI (128 - 128 / 2 ^ n))), (3, .int (nI (2 ^ (n + 1))))]) 7 ?_ ?_ 0 (Nat.zero_le _) ⟨hH, hL, lv_sub hl [2, 1, 0] rfl⟩
  · intro H locs ls hI
    obtain ⟨hH, hL, hl⟩ := hI
    obtain ⟨z1, z2, hZ1, hT1, hZ2, hT2⟩ := hT
    refine lv_iload_n hx hb dX4_invNtt_4 rfl (lv_at hl 2 rfl) ?_
    refine lv_sipush (v := nI 128) hx hb dX4_invNtt_5 (by decide) ?_
    refine lr_gt_t (tgt := 104) hx hb dX4_invNtt_8 (by decide) (by decide) ?_
    refine lv_iconst (v := nI 0) hx hb dX4_invNtt_104 (by decide) ?_
    refine lv_istore_n (lv' := [(3, .int (nI 0)), (0, .ref x), (2, .int (nI (128 - 128 / 2 ^ 7)))]) hx hb dX4_invNtt_105 rfl hl (by decide) rfl (fun ls hl => ?_)
    refine lr_for (fun i H locs ls => lr_HS x (lr_S G (lr_to (lr_inv f) (lr_invL 7 f) i)) s.heap H ∧ lr_L x locs ∧ lv_has ls 8 [(0, .ref x), (3, .int (nI i))]) 256 ?_ ?_ 0 (Nat.zero_le _) ⟨hH.to (congrArg (lr_S G) lr_to_0.symm), hL, lv_sub hl [1, 0] rfl⟩
    · intro H locs ls hI
      obtain ⟨hH, hL, hl⟩ := hI
      refine lv_iload_n hx hb dX4_invNtt_106 rfl (lv_at hl 1 rfl) ?_
      refine lv_sipush (v := nI 256) hx hb dX4_invNtt_107 (by decide) ?_
      refine lr_ge_t (tgt := 134) hx hb dX4_invNtt_110 (by decide) (Int32.le_refl _) ?_
      exact W.vret hx hb hr (fun t ht hW => ⟨rfl, by rw [ht]; exact hH.to (lr_cell (fun j hj => lr_to_e hj))⟩) (fun q hq => hL q hq) dX4_invNtt_134
    · intro i hi H locs ls hI ih
      obtain ⟨hH, hL, hl⟩ := hI
      refine lv_iload_n hx hb dX4_invNtt_106 rfl (lv_at hl 1 rfl) ?_
      refine lv_sipush (v := nI 256) hx hb dX4_invNtt_107 (by decide) ?_
      refine lr_ge_f (tgt := 134) hx hb dX4_invNtt_110 (by decide) (nI_ge (by omega) (by omega)) ?_
      refine lv_aload_n hx hb dX4_invNtt_113 rfl (lv_at hl 0 rfl) ?_
      refine lv_iload_n hx hb dX4_invNtt_114 rfl (lv_at hl 1 rfl) ?_
      refine lv_aload_n hx hb dX4_invNtt_115 rfl (lv_at hl 0 rfl) ?_
      refine lv_iload_n hx hb dX4_invNtt_116 rfl (lv_at hl 1 rfl) ?_
      refine lr_ald (k := i) hx hb hK hH.1 rfl (by omega) (by omega) dX4_invNtt_117 ?_
      rw [show lr_to (lr_inv f) (lr_invL 7 f) i i = lr_invL 7 f i from lr_to_at _ _]
      refine lr_gets hx hb hts hown hZ2 (hH.S hL) q81 dX4_invNtt_118 ?_
      refine lv_bipush (v := nI 127) hx hb dX4_invNtt_121 (by decide) ?_
      refine lr_tld hx hb hT2 (hH.S hL) rfl (by omega) dX4_invNtt_123 ?_
      refine lr_i (va_runS (As := [.int (lr_invL 7 f i), .int (lr_zi 127)]) (rest := [.int (nI i), .ref x]) ⟨hx, hb, hml, hown, hts⟩ (met_mm l (lr_invL 7 f i) (lr_zi 127)) (va_cwS 2 hts (lw_S q51 q52 q4 q53) rfl rfl rfl (by decide +kernel) ⟨Nat.le_of_ble_eq_true rfl, Nat.le_of_ble_eq_true rfl⟩) ⟨fun a U g mk q => q, fun U hU hW => ⟨rfl, trivial⟩⟩ rfl rfl hl.1 rfl (lv_room (Nat.le_of_ble_eq_true rfl)) dX4_invNtt_124 ⟨Nat.le_of_ble_eq_true rfl, Nat.le_of_ble_eq_true rfl⟩) ?_
      refine lr_ast (k := i) (v := lr_inv f i) hx hb hK hH.1 rfl (by omega) (by omega) (lr_mm16 _ _) dX4_invNtt_127 (fun H1 e1 => ?_)
      refine lv_iinc (v := nI (i + 1)) (lv' := [(3, .int (nI (i + 1))), (0, .ref x)]) hx hb dX4_invNtt_128 hl (k := 1) rfl (lr_inc _) (by decide) rfl (fun ls hl => ?_)
      refine lv_goto (tgt := 106) hx hb dX4_invNtt_131 (by decide) ?_
      exact ih _ _ _ ⟨(hH.trans e1).to (congrArg (lr_S G) (lr_to_1 rfl)), hL.add, lv_sub hl [1, 0] rfl⟩
  · intro n hn H locs ls hI ih
    obtain ⟨hH, hL, hl⟩ := hI
    obtain ⟨f1, f2, f3, f4, f5, f6, f7, f8⟩ := lr_f2 n hn
    exact in_layer hx hb hml hown hts hK hT (2 ^ (n + 1)) (128 - 128 / 2 ^ n) (64 / 2 ^ n) (lr_invL n f) f1 f2 f3 (by omega) (fun H locs ls a1 a2 a3 => ih _ _ _ ⟨a1, a2, by rw [f6, f7]; exact a3⟩) hH hL hl
end
section
/-! Poly: its methods, an exact function of the places each -/
def lr_red (f : Nat → Int32) : Nat → Int32 := fun i => lr_br (f i)
def lr_zp (i : Nat) : Int32 := if i % 2 = 0 then lr_z (64 + i / 2) else (-1 * lr_z (64 + i / 2)).toInt16.toInt32
def lr_pw (a b : Nat → Int32) : Nat → Int32 := fun i => if i % 2 = 0 then lr_b0 (a i) (a (i + 1)) (b i) (b (i + 1)) (lr_zp (i / 2)) else lr_b1 (a (i - 1)) (a i) (b (i - 1)) (b i)
def lr_sum (a b : Nat → Int32) : Nat → Int32 := fun i => (a i + b i).toInt16.toInt32
theorem lr_pw_0 {a b : Nat → Int32} {i : Nat} : lr_pw a b (4 * i) = lr_b0 (a (4 * i)) (a (4 * i + 1)) (b (4 * i)) (b (4 * i + 1)) (lr_z (64 + i)) := by
  unfold lr_pw lr_zp
  rw [if_pos (by omega), if_pos (by omega), show 4 * i / 2 / 2 = i by omega]
theorem lr_pw_1 {a b : Nat → Int32} {i : Nat} : lr_pw a b (4 * i + 1) = lr_b1 (a (4 * i)) (a (4 * i + 1)) (b (4 * i)) (b (4 * i + 1)) := by
  unfold lr_pw
  rw [if_neg (by omega), Nat.add_sub_cancel]
theorem lr_pw_2 {a b : Nat → Int32} {i : Nat} : lr_pw a b (4 * i + 2) = lr_b0 (a (4 * i + 2)) (a (4 * i + 3)) (b (4 * i + 2)) (b (4 * i + 3)) (-1 * lr_z (64 + i)).toInt16.toInt32 := by
  unfold lr_pw lr_zp
  rw [if_pos (by omega), if_neg (by omega), show (4 * i + 2) / 2 / 2 = i by omega]
theorem lr_pw_3 {a b : Nat → Int32} {i : Nat} : lr_pw a b (4 * i + 2 + 1) = lr_b1 (a (4 * i + 2)) (a (4 * i + 3)) (b (4 * i + 2)) (b (4 * i + 3)) := by
  unfold lr_pw
  rw [if_neg (by omega), Nat.add_sub_cancel]
abbrev lr_r3 : Room := { frames := 3, cells := 0, slots := 0, locals := 71 }
abbrev lr_rP : Room := { frames := 1, cells := 1, slots := 256, locals := 12 }
set_option maxHeartbeats 4000000 in
set_option maxRecDepth 100000 in
theorem met_get (l : Launch) (G : lr_G) (h x : Nat) (f : Nat → Int32) (k : Nat) (hk : k < 256) (hs : (f k).toInt16.toInt32 = f k) : Met l yX2_getCoeffIndex (ws_ yX2_getCoeffIndex cX2_getCoeffIndex 2 (some .short)) lr_r0 (va_Pc [.ref h, .int (nI k)] (lr_B G (fun _ => False) (lr_PO G h x f))) (vp_Si (fun r => r = f k)) 0 0 (fun _ => False) := by
  refine lr_met (by decide) (Nat.le_of_ble_eq_true rfl) ?_
  intro p e s m below meth c hx hb hr hml hown hts hlocks hin hB ls hl
  obtain ⟨hΦ, hK, hT⟩ := hB
  have hl : lv_has ls 2 [(0, .ref h), (1, .int (nI k))] := hl
  refine lv_aload_n hx hb dX2_getCoeffIndex_0 rfl (lv_at hl 0 rfl) ?_
  refine lr_getC hx hb hts hown hK hΦ.1 q33 dX2_getCoeffIndex_1 ?_
  refine lv_iload_n hx hb dX2_getCoeffIndex_4 rfl (lv_at hl 1 rfl) ?_
  refine lr_ald (k := k) hx hb hK hΦ.2.1 rfl hk (by omega) dX2_getCoeffIndex_5 ?_
  exact W.zret hx hb hr (congrArg Value.int hs) (fun t ht hW => ⟨_, rfl, rfl, ht⟩) (fun _ h => by cases h) dX2_getCoeffIndex_6
set_option maxHeartbeats 4000000 in
set_option maxRecDepth 100000 in
theorem met_set (l : Launch) (G : lr_G) (h x : Nat) (f : Nat → Int32) (k : Nat) (v w : Int32) (hk : k < 256) (hw : v.toInt16.toInt32 = w) : Met l yX2_setCoeffIndex (ws_ yX2_setCoeffIndex cX2_setCoeffIndex 3 none) lr_r0 (va_Pc [.ref h, .int (nI k), .int v] (lr_B G (fun q => q = x) (lr_PO G h x f))) (lr_Qv (lr_HS x (lr_S G (upd f k w)))) 0 0 (fun q => q = x) := by
  refine lr_met (by decide) (Nat.le_of_ble_eq_true rfl) ?_
  intro p e s m below meth c hx hb hr hml hown hts hlocks hin hB ls hl
  obtain ⟨hΦ, hK, hT⟩ := hB
  have hl : lv_has ls 3 [(0, .ref h), (1, .int (nI k)), (2, .int v)] := hl
  refine lv_aload_n hx hb dX2_setCoeffIndex_0 rfl (lv_at hl 0 rfl) ?_
  refine lr_getC hx hb hts hown hK hΦ.1 q33 dX2_setCoeffIndex_1 ?_
  refine lv_iload_n hx hb dX2_setCoeffIndex_4 rfl (lv_at hl 1 rfl) ?_
  refine lv_iload_n hx hb dX2_setCoeffIndex_5 rfl (lv_at hl 2 rfl) ?_
  refine lr_ast (k := k) (v := w) hx hb hK hΦ.2.1 rfl hk (by omega) hw dX2_setCoeffIndex_6 (fun H1 e1 => ?_)
  exact W.vret hx hb hr (fun t ht hW => ⟨rfl, by rw [ht]; exact e1⟩) (fun q hq => lr_L.nil.add (k := k) q hq) dX2_setCoeffIndex_7
set_option maxHeartbeats 4000000 in
set_option maxRecDepth 100000 in
theorem met_red (l : Launch) (G : lr_G) (h x : Nat) (f : Nat → Int32) : Met l yX2_reduce (ws_ yX2_reduce cX2_reduce 2 none) lr_r1 (va_Pc [.ref h] (lr_B G (fun q => q = x) (lr_PO G h x f))) (lr_Qv (lr_HS x (lr_S G (lr_red f)))) 0 0 (fun q => q = x) := by
  refine lr_met (by decide) (Nat.le_of_ble_eq_true rfl) ?_
  intro p e s m below meth c hx hb hr hml hown hts hlocks hin hB ls hl
  obtain ⟨hΦ, hK, hT⟩ := hB
  have hl : lv_has ls 2 [(0, .ref h)] := hl
  have hH := lr_HS.rf hΦ.2.1
  have hL := lr_L.nil (x := x)
  refine lv_iconst (v := nI 0) hx hb dX2_reduce_0 (by decide) ?_
  refine lv_istore_n (lv' := [(1, .int (nI 0)), (0, .ref h)]) hx hb dX2_reduce_1 rfl hl (by decide) rfl (fun ls hl => ?_)
  refine lr_for (fun i H locs ls => lr_HS x (lr_S G (lr_to (lr_red f) f i)) s.heap H ∧ lr_L x locs ∧ lv_has ls 2 [(0, .ref h), (1, .int (nI i))]) 256 ?_ ?_ 0 (Nat.zero_le _) ⟨hH.to (congrArg (lr_S G) lr_to_0.symm), hL, lv_sub hl [1, 0] rfl⟩
  · intro H locs ls hI
    obtain ⟨hH, hL, hl⟩ := hI
    refine lv_iload_n hx hb dX2_reduce_2 rfl (lv_at hl 1 rfl) ?_
    refine lv_sipush (v := nI 256) hx hb dX2_reduce_3 (by decide) ?_
    refine lr_ge_t (tgt := 30) hx hb dX2_reduce_6 (by decide) (Int32.le_refl _) ?_
    exact W.vret hx hb hr (fun t ht hW => ⟨rfl, by rw [ht]; exact hH.to (lr_cell (fun j hj => lr_to_e hj))⟩) (fun q hq => hL q hq) dX2_reduce_30
  · intro i hi H locs ls hI ih
    obtain ⟨hH, hL, hl⟩ := hI
    refine lv_iload_n hx hb dX2_reduce_2 rfl (lv_at hl 1 rfl) ?_
    refine lv_sipush (v := nI 256) hx hb dX2_reduce_3 (by decide) ?_
    refine lr_ge_f (tgt := 30) hx hb dX2_reduce_6 (by decide) (nI_ge (by omega) (by omega)) ?_
    refine lv_aload_n hx hb dX2_reduce_9 rfl (lv_at hl 0 rfl) ?_
    refine lr_getC hx hb hts hown hK (hH.at hΦ.2.2 hΦ.1) q33 dX2_reduce_10 ?_
    refine lv_iload_n hx hb dX2_reduce_13 rfl (lv_at hl 1 rfl) ?_
    refine lv_aload_n hx hb dX2_reduce_14 rfl (lv_at hl 0 rfl) ?_
    refine lr_getC hx hb hts hown hK (hH.at hΦ.2.2 hΦ.1) q33 dX2_reduce_15 ?_
    refine lv_iload_n hx hb dX2_reduce_18 rfl (lv_at hl 1 rfl) ?_
    refine lr_ald (k := i) hx hb hK hH.1 rfl (by omega) (by omega) dX2_reduce_19 ?_
    rw [show lr_to (lr_red f) f i i = f i from lr_to_at _ _]
    refine lr_i (va_runS (As := [.int (f i)]) (rest := [.int (nI i), .ref x]) ⟨hx, hb, hml, hown, hts⟩ (met_br l (f i)) (va_cwS 1 hts (lw_S q62 q63 q3 q64) rfl rfl rfl (by decide +kernel) ⟨Nat.le_of_ble_eq_true rfl, Nat.le_of_ble_eq_true rfl⟩) (⟨fun a U g mk q => q, fun U hU hW => ⟨rfl, trivial⟩⟩) rfl rfl hl.1 rfl (lv_room (Nat.le_of_ble_eq_true rfl)) dX2_reduce_20 ⟨Nat.le_of_ble_eq_true rfl, Nat.le_of_ble_eq_true rfl⟩) ?_
    refine lr_ast (k := i) (v := lr_red f i) hx hb hK hH.1 rfl (by omega) (by omega) (lr_br16 _) dX2_reduce_23 (fun H1 e1 => ?_)
    refine lv_iinc (v := nI (i + 1)) (lv' := [(1, .int (nI (i + 1))), (0, .ref h)]) hx hb dX2_reduce_24 hl (k := 1) rfl (lr_inc _) (by decide) rfl (fun ls hl => ?_)
    refine lv_goto (tgt := 2) hx hb dX2_reduce_27 (by decide) ?_
    exact ih _ _ _ ⟨(hH.trans e1).to (congrArg (lr_S G) (lr_to_1 rfl)), hL.add, lv_sub hl [1, 0] rfl⟩
set_option maxHeartbeats 4000000 in
set_option maxRecDepth 100000 in
theorem met_pntt (l : Launch) (G : lr_G) (h x : Nat) (f : Nat → Int32) : Met l yX2_polyNtt (ws_ yX2_polyNtt cX2_polyNtt 1 none) lr_r3 (va_Pc [.ref h] (lr_B G (fun q => q = x) (lr_PO G h x f))) (lr_Qv (lr_HS x (lr_S G (lr_red (lr_ntt f))))) 0 0 (fun q => q = x) := by
  refine lr_met (by decide) (Nat.le_of_ble_eq_true rfl) ?_
  intro p e s m below meth c hx hb hr hml hown hts hlocks hin hB ls hl
  obtain ⟨hΦ, hK, hT⟩ := hB
  have hl : lv_has ls 1 [(0, .ref h)] := hl
  have hH := lr_HS.rf hΦ.2.1
  have hL := lr_L.nil (x := x)
  refine lv_aload_n hx hb dX2_polyNtt_0 rfl (lv_at hl 0 rfl) ?_
  refine lr_getC hx hb hts hown hK hΦ.1 q33 dX2_polyNtt_1 ?_
  refine lr_v (va_runS (As := [.ref x]) (rest := []) ⟨hx, hb, hml, hown, hts⟩ (met_ntt l G x f) (va_cwS 1 hts (lw_S q46 q47 q4 q48) rfl rfl rfl (by decide +kernel) ⟨Nat.le_of_ble_eq_true rfl, Nat.le_of_ble_eq_true rfl⟩) (lr_preS hΦ.2.1 hK hT (hH.S hL) (fun _ h => h)) rfl rfl hl.1 rfl (lv_room (Nat.le_of_ble_eq_true rfl)) dX2_polyNtt_4 ⟨Nat.le_of_ble_eq_true rfl, Nat.le_of_ble_eq_true rfl⟩) (fun H1 L1 e1 hL1 => ?_)
  have hH1 := hH.trans e1
  have hL2 := hL.app hL1
  refine lv_aload_n hx hb dX2_polyNtt_7 rfl (lv_at hl 0 rfl) ?_
  refine lr_v (va_runV (As := []) (rest := []) ⟨hx, hb, hml, hown, hts⟩ (met_red l G h x (lr_ntt f)) (cwV 0 hts (lw_V q58 q59 q60 q2 q61) rfl rfl rfl (by decide +kernel) ⟨Nat.le_of_ble_eq_true rfl, Nat.le_of_ble_eq_true rfl⟩) (lr_preV (hΦ.set e1).1 rfl (hΦ.set e1) hK hT (hH1.S hL2) (fun _ h => h)) rfl rfl hl.1 rfl (lv_room (Nat.le_of_ble_eq_true rfl)) dX2_polyNtt_8 ⟨Nat.le_of_ble_eq_true rfl, Nat.le_of_ble_eq_true rfl⟩) (fun H2 L2 e2 hL3 => ?_)
  exact W.vret hx hb hr (fun t ht hW => ⟨rfl, by rw [ht]; exact hH1.trans e2⟩) (fun q hq => hL2.app hL3 q hq) dX2_polyNtt_11
set_option maxHeartbeats 4000000 in
set_option maxRecDepth 100000 in
theorem met_pinv (l : Launch) (G : lr_G) (h x : Nat) (f : Nat → Int32) : Met l yX2_polyInverseNttToMont (ws_ yX2_polyInverseNttToMont cX2_polyInverseNttToMont 1 none) lr_r3 (va_Pc [.ref h] (lr_B G (fun q => q = x) (lr_PO G h x f))) (lr_Qv (lr_HS x (lr_S G (lr_inv f)))) 0 0 (fun q => q = x) := by
  refine lr_met (by decide) (Nat.le_of_ble_eq_true rfl) ?_
  intro p e s m below meth c hx hb hr hml hown hts hlocks hin hB ls hl
  obtain ⟨hΦ, hK, hT⟩ := hB
  have hl : lv_has ls 1 [(0, .ref h)] := hl
  have hH := lr_HS.rf hΦ.2.1
  have hL := lr_L.nil (x := x)
  refine lv_aload_n hx hb dX2_polyInverseNttToMont_0 rfl (lv_at hl 0 rfl) ?_
  refine lr_getC hx hb hts hown hK hΦ.1 q33 dX2_polyInverseNttToMont_1 ?_
  refine lr_v (va_runS (As := [.ref x]) (rest := []) ⟨hx, hb, hml, hown, hts⟩ (met_inv l G x f) (va_cwS 1 hts (lw_S q78 q79 q4 q80) rfl rfl rfl (by decide +kernel) ⟨Nat.le_of_ble_eq_true rfl, Nat.le_of_ble_eq_true rfl⟩) (lr_preS hΦ.2.1 hK hT (hH.S hL) (fun _ h => h)) rfl rfl hl.1 rfl (lv_room (Nat.le_of_ble_eq_true rfl)) dX2_polyInverseNttToMont_4 ⟨Nat.le_of_ble_eq_true rfl, Nat.le_of_ble_eq_true rfl⟩) (fun H1 L1 e1 hL1 => ?_)
  exact W.vret hx hb hr (fun t ht hW => ⟨rfl, by rw [ht]; exact hH.trans e1⟩) (fun q hq => hL.app hL1 q hq) dX2_polyInverseNttToMont_7
set_option maxHeartbeats 4000000 in
set_option maxRecDepth 100000 in
theorem met_padd (l : Launch) (G : lr_G) (h x h1 x1 : Nat) (f f1 : Nat → Int32) (n1 : h1 ≠ x) (n2 : x1 ≠ x) : Met l yX2_add (ws_ yX2_add cX2_add 3 none) lr_r0 (va_Pc [.ref h, .ref h1] (lr_B G (fun q => q = x) (fun H => lr_PO G h x f H ∧ lr_PO G h1 x1 f1 H))) (lr_Qv (lr_HS x (lr_S G (lr_sum f f1)))) 0 0 (fun q => q = x) := by
  refine lr_met (by decide) (Nat.le_of_ble_eq_true rfl) ?_
  intro p e s m below meth c hx hb hr hml hown hts hlocks hin hB ls hl
  obtain ⟨⟨hΦ, hΦ1⟩, hK, hT⟩ := hB
  have hl : lv_has ls 3 [(0, .ref h), (1, .ref h1)] := hl
  have hH := lr_HS.rf hΦ.2.1
  have hL := lr_L.nil (x := x)
  refine lv_iconst (v := nI 0) hx hb dX2_add_0 (by decide) ?_
  refine lv_istore_n (lv' := [(2, .int (nI 0)), (0, .ref h), (1, .ref h1)]) hx hb dX2_add_1 rfl hl (by decide) rfl (fun ls hl => ?_)
  refine lr_for (fun i H locs ls => lr_HS x (lr_S G (lr_to (lr_sum f f1) f i)) s.heap H ∧ lr_L x locs ∧ lv_has ls 3 [(0, .ref h), (1, .ref h1), (2, .int (nI i))]) 256 ?_ ?_ 0 (Nat.zero_le _) ⟨hH.to (congrArg (lr_S G) lr_to_0.symm), hL, lv_sub hl [1, 2, 0] rfl⟩
  · intro H locs ls hI
    obtain ⟨hH, hL, hl⟩ := hI
    refine lv_iload_n hx hb dX2_add_2 rfl (lv_at hl 2 rfl) ?_
    refine lv_sipush (v := nI 256) hx hb dX2_add_3 (by decide) ?_
    refine lr_ge_t (tgt := 35) hx hb dX2_add_6 (by decide) (Int32.le_refl _) ?_
    exact W.vret hx hb hr (fun t ht hW => ⟨rfl, by rw [ht]; exact hH.to (lr_cell (fun j hj => lr_to_e hj))⟩) (fun q hq => hL q hq) dX2_add_35
  · intro i hi H locs ls hI ih
    obtain ⟨hH, hL, hl⟩ := hI
    have hp1 := hΦ1.kept (hH.2.2 _ n1) (hH.2.2 _ n2)
    refine lv_iload_n hx hb dX2_add_2 rfl (lv_at hl 2 rfl) ?_
    refine lv_sipush (v := nI 256) hx hb dX2_add_3 (by decide) ?_
    refine lr_ge_f (tgt := 35) hx hb dX2_add_6 (by decide) (nI_ge (by omega) (by omega)) ?_
    refine lv_aload_n hx hb dX2_add_9 rfl (lv_at hl 0 rfl) ?_
    refine lr_getC hx hb hts hown hK (hH.at hΦ.2.2 hΦ.1) q33 dX2_add_10 ?_
    refine lv_iload_n hx hb dX2_add_13 rfl (lv_at hl 2 rfl) ?_
    refine lv_aload_n hx hb dX2_add_14 rfl (lv_at hl 0 rfl) ?_
    refine lr_getC hx hb hts hown hK (hH.at hΦ.2.2 hΦ.1) q33 dX2_add_15 ?_
    refine lv_iload_n hx hb dX2_add_18 rfl (lv_at hl 2 rfl) ?_
    refine lr_ald (k := i) hx hb hK hH.1 rfl (by omega) (by omega) dX2_add_19 ?_
    rw [show lr_to (lr_sum f f1) f i i = f i from lr_to_at _ _]
    refine lv_aload_n hx hb dX2_add_20 rfl (lv_at hl 1 rfl) ?_
    refine lr_getC hx hb hts hown hK hp1.1 q33 dX2_add_21 ?_
    refine lv_iload_n hx hb dX2_add_24 rfl (lv_at hl 2 rfl) ?_
    refine lr_ald (k := i) hx hb hK hp1.2.1 rfl (by omega) (by omega) dX2_add_25 ?_
    refine lv_iadd hx hb dX2_add_26 ?_
    refine lv_i2s hx hb dX2_add_27 rfl ?_
    refine lr_ast (k := i) (v := lr_sum f f1 i) hx hb hK hH.1 rfl (by omega) (by omega) (lr_s16 _) dX2_add_28 (fun H1 e1 => ?_)
    refine lv_iinc (v := nI (i + 1)) (lv' := [(2, .int (nI (i + 1))), (0, .ref h), (1, .ref h1)]) hx hb dX2_add_29 hl (k := 2) rfl (lr_inc _) (by decide) rfl (fun ls hl => ?_)
    refine lv_goto (tgt := 2) hx hb dX2_add_32 (by decide) ?_
    exact ih _ _ _ ⟨(hH.trans e1).to (congrArg (lr_S G) (lr_to_1 rfl)), hL.add, lv_sub hl [1, 2, 0] rfl⟩
def lr_sh (f : Nat → Int32) : Prop := ∀ j, j < 256 → (f j).toInt16.toInt32 = f j
set_option maxHeartbeats 4000000 in
set_option maxRecDepth 100000 in
theorem met_bmm (l : Launch) (G : lr_G) (h x h1 x1 h2 x2 : Nat) (f f1 f2 : Nat → Int32) (hs1 : lr_sh f1) (hs2 : lr_sh f2) (n1 : h1 ≠ x) (n2 : x1 ≠ x) (n3 : h2 ≠ x) (n4 : x2 ≠ x) : Met l yX2_baseMultMontgomery (ws_ yX2_baseMultMontgomery cX2_baseMultMontgomery 4 none) lr_r3 (va_Pc [.ref h, .ref h1, .ref h2] (lr_B G (fun q => q = x) (fun H => lr_PO G h x f H ∧ lr_PO G h1 x1 f1 H ∧ lr_PO G h2 x2 f2 H))) (lr_Qv (lr_HS x (lr_S G (lr_pw f1 f2)))) 0 0 (fun q => q = x) := by
  refine lr_met (by decide) (Nat.le_of_ble_eq_true rfl) ?_
  intro p e s m below meth c hx hb hr hml hown hts hlocks hin hB ls hl
  obtain ⟨⟨hΦ, hΦ1, hΦ2⟩, hK, hT⟩ := hB
  obtain ⟨z1, z2, hZ1, hT1, hZ2, hT2⟩ := id hT
  have hl : lv_has ls 4 [(0, .ref h), (1, .ref h1), (2, .ref h2)] := hl
  have hH := lr_HS.rf hΦ.2.1
  have hL := lr_L.nil (x := x)
  refine lv_iconst (v := nI 0) hx hb dX2_baseMultMontgomery_0 (by decide) ?_
  refine lv_istore_n (lv' := [(3, .int (nI 0)), (0, .ref h), (1, .ref h1), (2, .ref h2)]) hx hb dX2_baseMultMontgomery_1 rfl hl (by decide) rfl (fun ls hl => ?_)
  refine lr_for (fun i H locs ls => lr_HS x (lr_S G (lr_to (lr_pw f1 f2) f (4 * i))) s.heap H ∧ lr_L x locs ∧ lv_has ls 4 [(0, .ref h), (1, .ref h1), (2, .ref h2), (3, .int (nI i))]) 64 ?_ ?_ 0 (Nat.zero_le _) ⟨hH.to (congrArg (lr_S G) lr_to_0.symm), hL, lv_sub hl [1, 2, 3, 0] rfl⟩
  · intro H locs ls hI
    obtain ⟨hH, hL, hl⟩ := hI
    refine lv_iload_n hx hb dX2_baseMultMontgomery_2 rfl (lv_at hl 3 rfl) ?_
    refine lv_bipush (v := nI 64) hx hb dX2_baseMultMontgomery_3 (by decide) ?_
    refine lr_ge_t (tgt := 123) hx hb dX2_baseMultMontgomery_5 (by decide) (Int32.le_refl _) ?_
    exact W.vret hx hb hr (fun t ht hW => ⟨rfl, by rw [ht]; exact hH.to (lr_cell (fun j hj => lr_to_e hj))⟩) (fun q hq => hL q hq) dX2_baseMultMontgomery_123
  · intro i hi H locs ls hI ih
    obtain ⟨hH, hL, hl⟩ := hI
    have hp1 := hΦ1.kept (hH.2.2 _ n1) (hH.2.2 _ n2)
    have hp2 := hΦ2.kept (hH.2.2 _ n3) (hH.2.2 _ n4)
    refine lv_iload_n hx hb dX2_baseMultMontgomery_2 rfl (lv_at hl 3 rfl) ?_
    refine lv_bipush (v := nI 64) hx hb dX2_baseMultMontgomery_3 (by decide) ?_
    refine lr_ge_f (tgt := 123) hx hb dX2_baseMultMontgomery_5 (by decide) (nI_ge (by omega) (by omega)) ?_
    refine lv_aload_n hx hb dX2_baseMultMontgomery_8 rfl (lv_at hl 0 rfl) ?_
    refine lr_getC hx hb hts hown hK (hH.at hΦ.2.2 hΦ.1) q33 dX2_baseMultMontgomery_9 ?_
    refine lv_iconst (v := nI 4) hx hb dX2_baseMultMontgomery_12 (by decide) ?_
    refine lv_iload_n hx hb dX2_baseMultMontgomery_13 rfl (lv_at hl 3 rfl) ?_
    refine lv_imul hx hb dX2_baseMultMontgomery_14 ?_
    rw [show (nI 4) * (nI i) = nI (4 * i) from pk_mul _ _]
    refine lv_aload_n hx hb dX2_baseMultMontgomery_15 rfl (lv_at hl 1 rfl) ?_
    refine lv_iconst (v := nI 4) hx hb dX2_baseMultMontgomery_16 (by decide) ?_
    refine lv_iload_n hx hb dX2_baseMultMontgomery_17 rfl (lv_at hl 3 rfl) ?_
    refine lv_imul hx hb dX2_baseMultMontgomery_18 ?_
    rw [show (nI 4) * (nI i) = nI (4 * i) from pk_mul _ _]
    refine lr_i (va_runV (As := [.int (nI (4 * i))]) (rest := [.int (nI (4 * i)), .ref x]) ⟨hx, hb, hml, hown, hts⟩ (met_get l G h1 x1 f1 (4 * i) (by omega) (hs1 _ (by omega))) (cwV 1 hts (lw_V q68 q39 q40 q2 q41) rfl rfl rfl (by decide +kernel) ⟨Nat.le_of_ble_eq_true rfl, Nat.le_of_ble_eq_true rfl⟩) (lr_preV hp1.1 rfl hp1 hK hT (hH.S hL) (fun _ h => h.elim)) rfl rfl hl.1 rfl (lv_room (Nat.le_of_ble_eq_true rfl)) dX2_baseMultMontgomery_19 ⟨Nat.le_of_ble_eq_true rfl, Nat.le_of_ble_eq_true rfl⟩) ?_
    refine lv_aload_n hx hb dX2_baseMultMontgomery_22 rfl (lv_at hl 1 rfl) ?_
    refine lv_iconst (v := nI 4) hx hb dX2_baseMultMontgomery_23 (by decide) ?_
    refine lv_iload_n hx hb dX2_baseMultMontgomery_24 rfl (lv_at hl 3 rfl) ?_
    refine lv_imul hx hb dX2_baseMultMontgomery_25 ?_
    rw [show (nI 4) * (nI i) = nI (4 * i) from pk_mul _ _]
    refine lv_iconst (v := nI 1) hx hb dX2_baseMultMontgomery_26 (by decide) ?_
    refine lv_iadd hx hb dX2_baseMultMontgomery_27 ?_
    rw [show (nI (4 * i)) + (nI 1) = nI (4 * i + 1) from nI_add _ _]
    refine lr_i (va_runV (As := [.int (nI (4 * i + 1))]) (rest := [.int (f1 (4 * i)), .int (nI (4 * i)), .ref x]) ⟨hx, hb, hml, hown, hts⟩ (met_get l G h1 x1 f1 (4 * i + 1) (by omega) (hs1 _ (by omega))) (cwV 1 hts (lw_V q68 q39 q40 q2 q41) rfl rfl rfl (by decide +kernel) ⟨Nat.le_of_ble_eq_true rfl, Nat.le_of_ble_eq_true rfl⟩) (lr_preV hp1.1 rfl hp1 hK hT (hH.S hL) (fun _ h => h.elim)) rfl rfl hl.1 rfl (lv_room (Nat.le_of_ble_eq_true rfl)) dX2_baseMultMontgomery_28 ⟨Nat.le_of_ble_eq_true rfl, Nat.le_of_ble_eq_true rfl⟩) ?_
    refine lv_aload_n hx hb dX2_baseMultMontgomery_31 rfl (lv_at hl 2 rfl) ?_
    refine lv_iconst (v := nI 4) hx hb dX2_baseMultMontgomery_32 (by decide) ?_
    refine lv_iload_n hx hb dX2_baseMultMontgomery_33 rfl (lv_at hl 3 rfl) ?_
    refine lv_imul hx hb dX2_baseMultMontgomery_34 ?_
    rw [show (nI 4) * (nI i) = nI (4 * i) from pk_mul _ _]
    refine lr_i (va_runV (As := [.int (nI (4 * i))]) (rest := [.int (f1 (4 * i + 1)), .int (f1 (4 * i)), .int (nI (4 * i)), .ref x]) ⟨hx, hb, hml, hown, hts⟩ (met_get l G h2 x2 f2 (4 * i) (by omega) (hs2 _ (by omega))) (cwV 1 hts (lw_V q68 q39 q40 q2 q41) rfl rfl rfl (by decide +kernel) ⟨Nat.le_of_ble_eq_true rfl, Nat.le_of_ble_eq_true rfl⟩) (lr_preV hp2.1 rfl hp2 hK hT (hH.S hL) (fun _ h => h.elim)) rfl rfl hl.1 rfl (lv_room (Nat.le_of_ble_eq_true rfl)) dX2_baseMultMontgomery_35 ⟨Nat.le_of_ble_eq_true rfl, Nat.le_of_ble_eq_true rfl⟩) ?_
    refine lv_aload_n hx hb dX2_baseMultMontgomery_38 rfl (lv_at hl 2 rfl) ?_
    refine lv_iconst (v := nI 4) hx hb dX2_baseMultMontgomery_39 (by decide) ?_
    refine lv_iload_n hx hb dX2_baseMultMontgomery_40 rfl (lv_at hl 3 rfl) ?_
    refine lv_imul hx hb dX2_baseMultMontgomery_41 ?_
    rw [show (nI 4) * (nI i) = nI (4 * i) from pk_mul _ _]
    refine lv_iconst (v := nI 1) hx hb dX2_baseMultMontgomery_42 (by decide) ?_
    refine lv_iadd hx hb dX2_baseMultMontgomery_43 ?_
    rw [show (nI (4 * i)) + (nI 1) = nI (4 * i + 1) from nI_add _ _]
    refine lr_i (va_runV (As := [.int (nI (4 * i + 1))]) (rest := [.int (f2 (4 * i)), .int (f1 (4 * i + 1)), .int (f1 (4 * i)), .int (nI (4 * i)), .ref x]) ⟨hx, hb, hml, hown, hts⟩ (met_get l G h2 x2 f2 (4 * i + 1) (by omega) (hs2 _ (by omega))) (cwV 1 hts (lw_V q68 q39 q40 q2 q41) rfl rfl rfl (by decide +kernel) ⟨Nat.le_of_ble_eq_true rfl, Nat.le_of_ble_eq_true rfl⟩) (lr_preV hp2.1 rfl hp2 hK hT (hH.S hL) (fun _ h => h.elim)) rfl rfl hl.1 rfl (lv_room (Nat.le_of_ble_eq_true rfl)) dX2_baseMultMontgomery_44 ⟨Nat.le_of_ble_eq_true rfl, Nat.le_of_ble_eq_true rfl⟩) ?_
    refine lr_gets hx hb hts hown hZ1 (hH.S hL) q69 dX2_baseMultMontgomery_47 ?_
    refine lv_bipush (v := nI 64) hx hb dX2_baseMultMontgomery_50 (by decide) ?_
    refine lv_iload_n hx hb dX2_baseMultMontgomery_52 rfl (lv_at hl 3 rfl) ?_
    refine lv_iadd hx hb dX2_baseMultMontgomery_53 ?_
    rw [show (nI 64) + (nI i) = nI (64 + i) from nI_add _ _]
    refine lr_tld hx hb hT1 (hH.S hL) rfl (by omega) dX2_baseMultMontgomery_54 ?_
    refine lr_v (va_runS (As := [.ref x, .int (nI (4 * i)), .int (f1 (4 * i)), .int (f1 (4 * i + 1)), .int (f2 (4 * i)), .int (f2 (4 * i + 1)), .int (lr_z (64 + i))]) (rest := []) ⟨hx, hb, hml, hown, hts⟩ (met_bm l G x (4 * i) (lr_to (lr_pw f1 f2) f (4 * i)) (f1 (4 * i)) (f1 (4 * i + 1)) (f2 (4 * i)) (f2 (4 * i + 1)) (lr_z (64 + i)) (by omega)) (va_cwS 7 hts (lw_S q70 q71 q4 q72) rfl rfl rfl (by decide +kernel) ⟨Nat.le_of_ble_eq_true rfl, Nat.le_of_ble_eq_true rfl⟩) (lr_preS hH.1 hK ⟨z1, z2, hZ1, hT1, hZ2, hT2⟩ (hH.S hL) (fun _ h => h)) rfl rfl hl.1 rfl (lv_room (Nat.le_of_ble_eq_true rfl)) dX2_baseMultMontgomery_55 ⟨Nat.le_of_ble_eq_true rfl, Nat.le_of_ble_eq_true rfl⟩) (fun H1 M1 e1 hM1 => ?_)
    have hH1 := (hH.trans e1).to (congrArg (lr_S G) ((congrArg (fun z => upd z _ _) (lr_to_1 lr_pw_0)).trans (lr_to_1 lr_pw_1)))
    have hL2 := hL.app hM1
    have hp3 := hΦ1.kept (hH1.2.2 _ n1) (hH1.2.2 _ n2)
    have hp4 := hΦ2.kept (hH1.2.2 _ n3) (hH1.2.2 _ n4)
    refine lv_aload_n hx hb dX2_baseMultMontgomery_58 rfl (lv_at hl 0 rfl) ?_
    refine lr_getC hx hb hts hown hK (hH1.at hΦ.2.2 hΦ.1) q33 dX2_baseMultMontgomery_59 ?_
    refine lv_iconst (v := nI 4) hx hb dX2_baseMultMontgomery_62 (by decide) ?_
    refine lv_iload_n hx hb dX2_baseMultMontgomery_63 rfl (lv_at hl 3 rfl) ?_
    refine lv_imul hx hb dX2_baseMultMontgomery_64 ?_
    rw [show (nI 4) * (nI i) = nI (4 * i) from pk_mul _ _]
    refine lv_iconst (v := nI 2) hx hb dX2_baseMultMontgomery_65 (by decide) ?_
    refine lv_iadd hx hb dX2_baseMultMontgomery_66 ?_
    rw [show (nI (4 * i)) + (nI 2) = nI (4 * i + 2) from nI_add _ _]
    refine lv_aload_n hx hb dX2_baseMultMontgomery_67 rfl (lv_at hl 1 rfl) ?_
    refine lv_iconst (v := nI 4) hx hb dX2_baseMultMontgomery_68 (by decide) ?_
    refine lv_iload_n hx hb dX2_baseMultMontgomery_69 rfl (lv_at hl 3 rfl) ?_
    refine lv_imul hx hb dX2_baseMultMontgomery_70 ?_
    rw [show (nI 4) * (nI i) = nI (4 * i) from pk_mul _ _]
    refine lv_iconst (v := nI 2) hx hb dX2_baseMultMontgomery_71 (by decide) ?_
    refine lv_iadd hx hb dX2_baseMultMontgomery_72 ?_
    rw [show (nI (4 * i)) + (nI 2) = nI (4 * i + 2) from nI_add _ _]
    refine lr_i (va_runV (As := [.int (nI (4 * i + 2))]) (rest := [.int (nI (4 * i + 2)), .ref x]) ⟨hx, hb, hml, hown, hts⟩ (met_get l G h1 x1 f1 (4 * i + 2) (by omega) (hs1 _ (by omega))) (cwV 1 hts (lw_V q68 q39 q40 q2 q41) rfl rfl rfl (by decide +kernel) ⟨Nat.le_of_ble_eq_true rfl, Nat.le_of_ble_eq_true rfl⟩) (lr_preV hp3.1 rfl hp3 hK hT (hH1.S hL2) (fun _ h => h.elim)) rfl rfl hl.1 rfl (lv_room (Nat.le_of_ble_eq_true rfl)) dX2_baseMultMontgomery_73 ⟨Nat.le_of_ble_eq_true rfl, Nat.le_of_ble_eq_true rfl⟩) ?_
    refine lv_aload_n hx hb dX2_baseMultMontgomery_76 rfl (lv_at hl 1 rfl) ?_
    refine lv_iconst (v := nI 4) hx hb dX2_baseMultMontgomery_77 (by decide) ?_
    refine lv_iload_n hx hb dX2_baseMultMontgomery_78 rfl (lv_at hl 3 rfl) ?_
    refine lv_imul hx hb dX2_baseMultMontgomery_79 ?_
    rw [show (nI 4) * (nI i) = nI (4 * i) from pk_mul _ _]
    refine lv_iconst (v := nI 3) hx hb dX2_baseMultMontgomery_80 (by decide) ?_
    refine lv_iadd hx hb dX2_baseMultMontgomery_81 ?_
    rw [show (nI (4 * i)) + (nI 3) = nI (4 * i + 3) from nI_add _ _]
    refine lr_i (va_runV (As := [.int (nI (4 * i + 3))]) (rest := [.int (f1 (4 * i + 2)), .int (nI (4 * i + 2)), .ref x]) ⟨hx, hb, hml, hown, hts⟩ (met_get l G h1 x1 f1 (4 * i + 3) (by omega) (hs1 _ (by omega))) (cwV 1 hts (lw_V q68 q39 q40 q2 q41) rfl rfl rfl (by decide +kernel) ⟨Nat.le_of_ble_eq_true rfl, Nat.le_of_ble_eq_true rfl⟩) (lr_preV hp3.1 rfl hp3 hK hT (hH1.S hL2) (fun _ h => h.elim)) rfl rfl hl.1 rfl (lv_room (Nat.le_of_ble_eq_true rfl)) dX2_baseMultMontgomery_82 ⟨Nat.le_of_ble_eq_true rfl, Nat.le_of_ble_eq_true rfl⟩) ?_
    refine lv_aload_n hx hb dX2_baseMultMontgomery_85 rfl (lv_at hl 2 rfl) ?_
    refine lv_iconst (v := nI 4) hx hb dX2_baseMultMontgomery_86 (by decide) ?_
    refine lv_iload_n hx hb dX2_baseMultMontgomery_87 rfl (lv_at hl 3 rfl) ?_
    refine lv_imul hx hb dX2_baseMultMontgomery_88 ?_
    rw [show (nI 4) * (nI i) = nI (4 * i) from pk_mul _ _]
    refine lv_iconst (v := nI 2) hx hb dX2_baseMultMontgomery_89 (by decide) ?_
    refine lv_iadd hx hb dX2_baseMultMontgomery_90 ?_
    rw [show (nI (4 * i)) + (nI 2) = nI (4 * i + 2) from nI_add _ _]
    refine lr_i (va_runV (As := [.int (nI (4 * i + 2))]) (rest := [.int (f1 (4 * i + 3)), .int (f1 (4 * i + 2)), .int (nI (4 * i + 2)), .ref x]) ⟨hx, hb, hml, hown, hts⟩ (met_get l G h2 x2 f2 (4 * i + 2) (by omega) (hs2 _ (by omega))) (cwV 1 hts (lw_V q68 q39 q40 q2 q41) rfl rfl rfl (by decide +kernel) ⟨Nat.le_of_ble_eq_true rfl, Nat.le_of_ble_eq_true rfl⟩) (lr_preV hp4.1 rfl hp4 hK hT (hH1.S hL2) (fun _ h => h.elim)) rfl rfl hl.1 rfl (lv_room (Nat.le_of_ble_eq_true rfl)) dX2_baseMultMontgomery_91 ⟨Nat.le_of_ble_eq_true rfl, Nat.le_of_ble_eq_true rfl⟩) ?_
    refine lv_aload_n hx hb dX2_baseMultMontgomery_94 rfl (lv_at hl 2 rfl) ?_
    refine lv_iconst (v := nI 4) hx hb dX2_baseMultMontgomery_95 (by decide) ?_
    refine lv_iload_n hx hb dX2_baseMultMontgomery_96 rfl (lv_at hl 3 rfl) ?_
    refine lv_imul hx hb dX2_baseMultMontgomery_97 ?_
    rw [show (nI 4) * (nI i) = nI (4 * i) from pk_mul _ _]
    refine lv_iconst (v := nI 3) hx hb dX2_baseMultMontgomery_98 (by decide) ?_
    refine lv_iadd hx hb dX2_baseMultMontgomery_99 ?_
    rw [show (nI (4 * i)) + (nI 3) = nI (4 * i + 3) from nI_add _ _]
    refine lr_i (va_runV (As := [.int (nI (4 * i + 3))]) (rest := [.int (f2 (4 * i + 2)), .int (f1 (4 * i + 3)), .int (f1 (4 * i + 2)), .int (nI (4 * i + 2)), .ref x]) ⟨hx, hb, hml, hown, hts⟩ (met_get l G h2 x2 f2 (4 * i + 3) (by omega) (hs2 _ (by omega))) (cwV 1 hts (lw_V q68 q39 q40 q2 q41) rfl rfl rfl (by decide +kernel) ⟨Nat.le_of_ble_eq_true rfl, Nat.le_of_ble_eq_true rfl⟩) (lr_preV hp4.1 rfl hp4 hK hT (hH1.S hL2) (fun _ h => h.elim)) rfl rfl hl.1 rfl (lv_room (Nat.le_of_ble_eq_true rfl)) dX2_baseMultMontgomery_100 ⟨Nat.le_of_ble_eq_true rfl, Nat.le_of_ble_eq_true rfl⟩) ?_
    refine lv_iconst (v := -1) hx hb dX2_baseMultMontgomery_103 (by decide) ?_
    refine lr_gets hx hb hts hown hZ1 (hH1.S hL2) q69 dX2_baseMultMontgomery_104 ?_
    refine lv_bipush (v := nI 64) hx hb dX2_baseMultMontgomery_107 (by decide) ?_
    refine lv_iload_n hx hb dX2_baseMultMontgomery_109 rfl (lv_at hl 3 rfl) ?_
    refine lv_iadd hx hb dX2_baseMultMontgomery_110 ?_
    rw [show (nI 64) + (nI i) = nI (64 + i) from nI_add _ _]
    refine lr_tld hx hb hT1 (hH1.S hL2) rfl (by omega) dX2_baseMultMontgomery_111 ?_
    refine lv_imul hx hb dX2_baseMultMontgomery_112 ?_
    refine lv_i2s hx hb dX2_baseMultMontgomery_113 rfl ?_
    refine lr_v (va_runS (As := [.ref x, .int (nI (4 * i + 2)), .int (f1 (4 * i + 2)), .int (f1 (4 * i + 3)), .int (f2 (4 * i + 2)), .int (f2 (4 * i + 3)), .int (((-1) * (lr_z (64 + i))).toInt16.toInt32)]) (rest := []) ⟨hx, hb, hml, hown, hts⟩ (met_bm l G x (4 * i + 2) (lr_to (lr_pw f1 f2) f (4 * i + 2)) (f1 (4 * i + 2)) (f1 (4 * i + 3)) (f2 (4 * i + 2)) (f2 (4 * i + 3)) (((-1) * (lr_z (64 + i))).toInt16.toInt32) (by omega)) (va_cwS 7 hts (lw_S q70 q71 q4 q72) rfl rfl rfl (by decide +kernel) ⟨Nat.le_of_ble_eq_true rfl, Nat.le_of_ble_eq_true rfl⟩) (lr_preS hH1.1 hK ⟨z1, z2, hZ1, hT1, hZ2, hT2⟩ (hH1.S hL2) (fun _ h => h)) rfl rfl hl.1 rfl (lv_room (Nat.le_of_ble_eq_true rfl)) dX2_baseMultMontgomery_114 ⟨Nat.le_of_ble_eq_true rfl, Nat.le_of_ble_eq_true rfl⟩) (fun H2 M2 e2 hM2 => ?_)
    have hH2 := (hH1.trans e2).to (congrArg (lr_S G) ((congrArg (fun z => upd z _ _) (lr_to_1 lr_pw_2)).trans (lr_to_1 lr_pw_3)))
    refine lv_iinc (v := nI (i + 1)) (lv' := [(3, .int (nI (i + 1))), (0, .ref h), (1, .ref h1), (2, .ref h2)]) hx hb dX2_baseMultMontgomery_117 hl (k := 3) rfl (lr_inc _) (by decide) rfl (fun ls hl => ?_)
    refine lv_goto (tgt := 2) hx hb dX2_baseMultMontgomery_120 (by decide) ?_
    exact ih _ _ _ ⟨hH2, hL2.app hM2, lv_sub hl [1, 2, 3, 0] rfl⟩
set_option maxHeartbeats 4000000 in
set_option maxRecDepth 100000 in
/-- Poly(): a new array of zeros, at the heap's end -/
theorem met_pnew (l : Launch) (G : lr_G) (h sz : Nat) (v0 : Value) : Met l yX2_init (ws_ yX2_init cX2_init 1 none) lr_rP (va_Pc [.ref h] (lr_B G (fun q => q = h ∨ sz ≤ q) (fun H => va_at G.1 vwCl (h, .inr (1, [v0])) H ∧ H.size = sz))) (lr_Qv (fun H H1 => lr_PO G h sz (fun _ => 0) H1 ∧ H1.size = H.size + 1 ∧ ∀ q, q < H.size → q ≠ h → H1[q]? = H[q]?)) 1 256 (fun q => q = h ∨ sz ≤ q) := by
  refine lr_met (by decide) (Nat.le_of_ble_eq_true rfl) ?_
  intro p e s m below meth c hx hb hr hml hown hts hlocks hin hB ls hl
  obtain ⟨⟨hΦ, hsz⟩, hK, hT⟩ := hB
  subst hsz
  have hl : lv_has ls 1 [(0, .ref h)] := hl
  refine lv_aload_n hx hb dX2_init_0 rfl (lv_at hl 0 rfl) ?_
  refine W.objInit hx hb hown (hts _ q30) (hts _ q31) (hts _ q32) rfl (by rw [hml]; exact hl.1) rfl dX2_init_1 (Nat.le_of_ble_eq_true rfl) (Nat.le_of_ble_eq_true rfl) ?_
  refine W.eq (g2 := F0 m 4 ls []) rfl ?_
  refine lv_aload_n hx hb dX2_init_4 rfl (lv_at hl 0 rfl) ?_
  refine lv_sipush (v := nI 256) hx hb dX2_init_5 (by decide) ?_
  refine lr_newS (N := 256) hx hb hts q37 hK rfl (by omega) (Nat.le_of_ble_eq_true rfl) (Nat.le_of_ble_eq_true rfl) dX2_init_8 (fun H1 e1 z1 o1 => ?_)
  have hlt : h < s.heap.size := hΦ.lt
  refine lr_putF (C := RX2) (T := TX2) (N := 1) (ci := 1) (ty := .array .short) (v := .ref s.heap.size) hx hb hts in_X2 tyX2 tyX2_ok nmX2 hown hK (hΦ.kept (o1 h hlt)) rfl 0 (by decide) q33 (fun _ h9 => h9) rfl hin rfl (by decide +kernel) rfl rfl (Nat.le_of_ble_eq_true rfl) dX2_init_10 (fun H2 j e2 z2 o2 => ?_)
  have hne : s.heap.size ≠ h := Nat.ne_of_gt hlt
  exact W.vret hx hb hr (fun t ht hW => ⟨rfl, by rw [ht]; exact ⟨⟨e2, by rw [o2 _ hne]; exact e1, Nat.ne_of_lt hlt⟩, z2.trans z1, fun q h1 h2 => (o2 q h2).trans (o1 q h1)⟩⟩) (fun q hq => by rw [List.mem_singleton.mp hq]; exact Or.inl rfl) dX2_init_13
end
section
/-! LatticeRing: its picture, its methods -/
theorem lr_16 {x : Int32} (h1 : -32768 ≤ x.toInt) (h2 : x.toInt < 32768) : x.toInt16.toInt32 = x := by
  apply Int32.toInt_inj.mp
  rw [Int16.toInt_toInt32, Int32.toInt_toInt16]
  apply Int.bmod_eq_of_le <;> omega
def lr_pv (v : Int32) : Int32 := (v &&& 2147483647) - (v &&& 2147483647) / 3329 * 3329
theorem lr_pvN (v : Int32) : ∃ j : Nat, j < 3329 ∧ lr_pv v = nI j := by
  obtain ⟨n, hn, e⟩ := pk_andE v (m := 2147483647) 31 (by decide)
  refine ⟨n % 3329, Nat.mod_lt _ (by omega), ?_⟩
  unfold lr_pv
  rw [e]
  exact pk_rem (d := 3329) (by omega) (by omega) (by omega)
theorem lr_pv16 (v : Int32) : (lr_pv v).toInt16.toInt32 = lr_pv v := by
  obtain ⟨j, hj, e⟩ := lr_pvN v
  rw [e]
  have := nI_toInt (n := j) (by omega)
  exact lr_16 (by omega) (by omega)
def lr_fr (c : Int32) : Int32 := (if 0 ≤ c - c / 3329 * 3329 then c - c / 3329 * 3329 else c - c / 3329 * 3329 + 3329).toInt16.toInt32
def lr_fair (f : Nat → Int32) : Nat → Int32 := fun i => lr_fr (f i)
def lr_spr (first step : Int32) : Nat → Int32 := fun i => lr_pv (first + nI i * step)
def lr_mul (f g : Nat → Int32) : Nat → Int32 := lr_fair (lr_inv (lr_red (lr_pw (lr_red (lr_ntt f)) (lr_red (lr_ntt g)))))
def lr_add (f g : Nat → Int32) : Nat → Int32 := lr_fair (lr_red (lr_sum f g))
theorem lr_sh_red (f : Nat → Int32) : lr_sh (lr_red f) := fun _ _ => lr_br16 _
theorem lr_sh_inv (f : Nat → Int32) : lr_sh (lr_inv f) := fun _ _ => lr_mm16 _ _
theorem lr_sh_fair (f : Nat → Int32) : lr_sh (lr_fair f) := fun _ _ => lr_s16 _
theorem lr_sh_spr (a b : Int32) : lr_sh (lr_spr a b) := fun _ _ => lr_pv16 _
theorem lr_sh_0 : lr_sh (fun _ => 0) := fun _ _ => (by decide : (0 : Int32).toInt16.toInt32 = 0)
theorem lr_sh_upd {f : Nat → Int32} (h : lr_sh f) {k : Nat} {v : Int32} (hv : v.toInt16.toInt32 = v) : lr_sh (upd f k v) := fun j hj => by
  unfold upd
  by_cases a : j = k
  · rw [if_pos a]; exact hv
  · rw [if_neg a]; exact h j hj
-- frames
theorem lr_Sm {A B : Nat → Prop} {H0 H : Heap} {locs : List Loc} (h : va_S A H0 H locs) (a : ∀ q, A q → B q) : va_S B H0 H locs := ⟨h.1, fun q h1 h2 => h.2.1 q h1 (fun z => h2 (a q z)), fun q hq => a _ (h.2.2 q hq)⟩
theorem lr_Sn {A : Nat → Prop} {H0 H H1 : Heap} {locs : List Loc} (h : va_S A H0 H locs) (z : H.size ≤ H1.size) (o : ∀ q, q < H.size → H1[q]? = H[q]?) : va_S A H0 H1 locs := ⟨Nat.le_trans h.1 z, fun q h1 h2 => (o q (Nat.lt_of_lt_of_le h1 h.1)).trans (h.2.1 q h1 h2), h.2.2⟩
theorem lr_Sc {A A1 : Nat → Prop} {H0 H H1 : Heap} {locs L : List Loc} (h : va_S A H0 H locs) (z : H.size ≤ H1.size) (o : ∀ q, q < H.size → ¬ A1 q → H1[q]? = H[q]?) (a : ∀ q, A1 q → A q) (hL : ∀ q ∈ L, A1 q.base) : va_S A H0 H1 (locs ++ L) := by
  refine ⟨Nat.le_trans h.1 z, fun q h1 h2 => (o q (Nat.lt_of_lt_of_le h1 h.1) (fun y => h2 (a q y))).trans (h.2.1 q h1 h2), fun q hq => ?_⟩
  rcases List.mem_append.mp hq with b | b
  · exact h.2.2 q b
  · exact a _ (hL q b)
theorem lr_Sh {A : Nat → Prop} {H0 H H1 : Heap} {locs L : List Loc} {x : Nat} {C : Cell} (h : va_S A H0 H locs) (e : lr_HS x C H H1) (a : A x) (hL : ∀ q ∈ L, q.base = x) : va_S A H0 H1 (locs ++ L) :=
  lr_Sc (A1 := fun q => q = x) h (Nat.le_of_eq e.2.1.symm) (fun q _ n => e.2.2 q n) (fun q y => by rw [y]; exact a) hL
theorem lr_1 {x k : Nat} : ∀ q ∈ [(⟨x, k⟩ : Loc)], q.base = x := fun q hq => by rw [List.mem_singleton.mp hq]
section LRN
variable {p : Program} {l : Launch} {e : Env} {R : Room} {s : State} {m : MethodId} {args : Array Value} {below : List Frame} {meth : Method} {c : Code} {H : Heap} {locs : List Loc} {cells slots : Nat} {Q : State → Prop}
variable {cc : ByteArray} {pc : Nat} {ls : Array Slot} {rest st0 : List Value} {G : lr_G}
/-- new Poly, at the heap's end -/
theorem lr_newP (hx : p.tables.exec = Jvm.exec) (hb : c.code = cc) (hts : ∀ w ∈ lw_all, w.before args s = true) {own : String} {index a : Nat} (ha : H.size = a) (hown : s.vm.findClass own = some m.cls) (hcl : (Cond.classLink own index "Poly") ∈ lw_all)
    (hK : lr_K G s) (hcells : cells + 1 ≤ R.cells) (hslots : slots + 1 ≤ R.slots) (hdg : decode cc pc = .ok (.new index, 3))
    (kk : ∀ (H1 : Heap), va_at G.1 vwCl (a, .inr (1, [.null])) H1 → H1.size = a + 1 → (∀ q, q < a → H1[q]? = H[q]?) →
      W p l e R s m args below meth c H1 locs (cells + 1) (slots + 1) Q (F0 m (pc + 3) ls (.ref a :: rest))) : W p l e R s m args below meth c H locs cells slots Q (F0 m pc ls rest) := by
  subst ha
  exact lr_new (C := RX2) (T := TX2) (N := 1) (ci := 1) (fs := [.null]) hx hb hts in_X2 tyX2 tyX2_ok hown hcl q26 q2 hK rfl (fun j hj => by rcases (show j = 0 by omega) with rfl <;> rfl) hcells hslots hdg kk
theorem lr_newR (hx : p.tables.exec = Jvm.exec) (hb : c.code = cc) (hts : ∀ w ∈ lw_all, w.before args s = true) {own : String} {index a : Nat} (ha : H.size = a) (hown : s.vm.findClass own = some m.cls) (hcl : (Cond.classLink own index "LatticeRing") ∈ lw_all)
    (hK : lr_K G s) (hcells : cells + 1 ≤ R.cells) (hslots : slots + 2 ≤ R.slots) (hdg : decode cc pc = .ok (.new index, 3))
    (kk : ∀ (H1 : Heap), va_at G.1 vwCl (a, .inr (0, [.null, .null])) H1 → H1.size = a + 1 → (∀ q, q < a → H1[q]? = H[q]?) →
      W p l e R s m args below meth c H1 locs (cells + 1) (slots + 2) Q (F0 m (pc + 3) ls (.ref a :: rest))) : W p l e R s m args below meth c H locs cells slots Q (F0 m pc ls rest) := by
  subst ha
  exact lr_new (C := RX1) (T := TX1) (N := 2) (ci := 0) (fs := [.null, .null]) hx hb hts in_X1 tyX1 tyX1_ok hown hcl q106 q1 hK rfl (fun j hj => by rcases (show j = 0 ∨ j = 1 by omega) with rfl | rfl <;> rfl) hcells hslots hdg kk
theorem lr_newQa (hx : p.tables.exec = Jvm.exec) (hb : c.code = cc) (hts : ∀ w ∈ lw_all, w.before args s = true) {own : String} {index a : Nat} (ha : H.size = a) (hown : s.vm.findClass own = some m.cls) (hcl : (Cond.classLink own index "Poly") ∈ lw_all) (hK : lr_K G s) {n : Int32} (hn : n = nI 4) (hcells : cells + 1 ≤ R.cells) (hslots : slots + 4 ≤ R.slots) (hdg : decode cc pc = .ok (.anewarray index, 3))
    (kk : ∀ H1 : Heap, H1[a]? = some (lr_Q G (fun _ => none)) → H1.size = a + 1 → (∀ q, q < a → H1[q]? = H[q]?) →
      W p l e R s m args below meth c H1 locs (cells + 1) (slots + 4) Q (F0 m (pc + 3) ls (.ref a :: rest))) : W p l e R s m args below meth c H locs cells slots Q (F0 m pc ls (.int n :: rest)) := by
  subst ha
  exact lr_newQ hx hb hts hown hcl hK hn hcells hslots hdg kk
theorem lr_newBa (hx : p.tables.exec = Jvm.exec) (hb : c.code = cc) (hts : ∀ w ∈ lw_all, w.before args s = true) {a : Nat} (ha : H.size = a) (hq : (Cond.arrayClass .byte) ∈ lw_all) {n : Int32} {N : Nat} (hn : n = nI N) (hN : N ≤ 65536) (hcells : cells + 1 ≤ R.cells) (hslots : slots + N ≤ R.slots) (hdg : decode cc pc = .ok (.newarray .byte, 2))
    (kk : ∀ H1 : Heap, H1.size = a + 1 → (∀ q, q < a → H1[q]? = H[q]?) →
      W p l e R s m args below meth c H1 locs (cells + 1) (slots + N) Q (F0 m (pc + 2) ls (.ref a :: rest))) : W p l e R s m args below meth c H locs cells slots Q (F0 m pc ls (.int n :: rest)) := by
  subst ha
  exact lr_newB hx hb hts hq hn hN hcells hslots hdg kk
end LRN
/-- a LatticeRing at h, its four Polys' places g 0 .. g 3; its cells are among F -/
def lr_LX (G : lr_G) (h : Nat) (F : Nat → Prop) (g : Nat → Nat → Int32) (hF : Nat) (tv : Value) (pa ca : Nat → Nat) (H : Heap) : Prop :=
  va_at G.1 vwCl (h, .inr (0, [.ref hF, tv])) H ∧ H[hF]? = some (lr_Q G (fun i => some (pa i))) ∧ (∀ i, i < 4 → lr_PO G (pa i) (ca i) (g i) H) ∧ (∀ i, i < 4 → lr_sh (g i)) ∧
  h ≠ hF ∧ (∀ i, i < 4 → h ≠ ca i ∧ hF ≠ ca i ∧ hF ≠ pa i) ∧ (∀ i j, i < 4 → j < 4 → pa i ≠ ca j) ∧ (∀ i j, i < 4 → j < 4 → i ≠ j → ca i ≠ ca j) ∧
  F h ∧ F hF ∧ (∀ i, i < 4 → F (pa i) ∧ F (ca i)) ∧ ∀ q, F q → q < H.size
def lr_LR (G : lr_G) (h : Nat) (F : Nat → Prop) (g : Nat → Nat → Int32) (H : Heap) : Prop := ∃ (hF : Nat) (tv : Value) (pa ca : Nat → Nat), lr_LX G h F g hF tv pa ca H
theorem lr_LX.kept {G : lr_G} {h : Nat} {F : Nat → Prop} {g : Nat → Nat → Int32} {hF : Nat} {tv : Value} {pa ca : Nat → Nat} {H H1 : Heap} (x : lr_LX G h F g hF tv pa ca H) (z : H.size ≤ H1.size) (o : ∀ q, F q → H1[q]? = H[q]?) : lr_LX G h F g hF tv pa ca H1 := by
  obtain ⟨a1, a2, a3, a4, a5, a6, a7, a8, a9, a10, a11, a12⟩ := x
  exact ⟨a1.kept (o h a9), (o hF a10).trans a2, fun i hi => (a3 i hi).kept (o _ (a11 i hi).1) (o _ (a11 i hi).2), a4, a5, a6, a7, a8, a9, a10, a11, fun q hq => Nat.lt_of_lt_of_le (a12 q hq) z⟩
theorem lr_LR.kept {G : lr_G} {h : Nat} {F : Nat → Prop} {g : Nat → Nat → Int32} {H H1 : Heap} (x : lr_LR G h F g H) (z : H.size ≤ H1.size) (o : ∀ q, F q → H1[q]? = H[q]?) : lr_LR G h F g H1 := by
  obtain ⟨hF, tv, pa, ca, x⟩ := x
  exact ⟨hF, tv, pa, ca, x.kept z o⟩
theorem lr_LR.lt {G : lr_G} {h : Nat} {F : Nat → Prop} {g : Nat → Nat → Int32} {H : Heap} (x : lr_LR G h F g H) : ∀ q, F q → q < H.size := by
  obtain ⟨hF, tv, pa, ca, a1, a2, a3, a4, a5, a6, a7, a8, a9, a10, a11, a12⟩ := x
  exact a12
theorem lr_LR.at {G : lr_G} {h : Nat} {F : Nat → Prop} {g : Nat → Nat → Int32} {H : Heap} (x : lr_LR G h F g H) : ∃ fs, va_at G.1 vwCl (h, .inr (0, fs)) H := by
  obtain ⟨hF, tv, pa, ca, a1, -⟩ := x
  exact ⟨_, a1⟩
theorem lr_LR.to {G : lr_G} {h : Nat} {F : Nat → Prop} {g g' : Nat → Nat → Int32} {H : Heap} (x : lr_LR G h F g H) (e : ∀ i, i < 4 → g i = g' i) : lr_LR G h F g' H := by
  obtain ⟨hF, tv, pa, ca, a1, a2, a3, a4, a5⟩ := x
  exact ⟨hF, tv, pa, ca, a1, a2, fun i hi => by rw [← e i hi]; exact a3 i hi, fun i hi => by rw [← e i hi]; exact a4 i hi, a5⟩
theorem lr_LX.set {G : lr_G} {h : Nat} {F : Nat → Prop} {g : Nat → Nat → Int32} {hF : Nat} {tv : Value} {pa ca : Nat → Nat} {H H1 : Heap} {f : Nat → Int32} {r : Nat} (x : lr_LX G h F g hF tv pa ca H) (hr : r < 4) (e : lr_HS (ca r) (lr_S G f) H H1) (hs : lr_sh f) : lr_LX G h F (va_up g r f) hF tv pa ca H1 := by
  obtain ⟨a1, a2, a3, a4, a5, a6, a7, a8, a9, a10, a11, a12⟩ := x
  refine ⟨e.at (a6 r hr).1 a1, (e.2.2 _ (a6 r hr).2.1).trans a2, fun i hi => ?_, fun i hi => ?_, a5, a6, a7, a8, a9, a10, a11, fun q hq => by rw [e.2.1]; exact a12 q hq⟩
  · by_cases a : i = r
    · subst a
      rw [va_up_self]
      exact (a3 i hi).set e
    · rw [va_up_ne _ _ a]
      exact (a3 i hi).kept (e.2.2 _ (a7 i r hi hr)) (e.2.2 _ (a8 i r hi hr a))
  · by_cases a : i = r
    · subst a
      rw [va_up_self]
      exact hs
    · rw [va_up_ne _ _ a]
      exact a4 i hi
/-- another Poly, a new one, in the place r -/
theorem lr_LX.put {G : lr_G} {h : Nat} {F : Nat → Prop} {g : Nat → Nat → Int32} {hF : Nat} {tv : Value} {pa ca : Nat → Nat} {H H1 : Heap} {f : Nat → Int32} {r v y sz : Nat} (x : lr_LX G h F g hF tv pa ca H) (hsz : ∀ q, F q → q < sz) (hr : r < 4) (hv : sz ≤ v) (hy : sz ≤ y) (hz : sz ≤ H.size) (hp : lr_PO G v y f H) (e : lr_HS hF (lr_Q G (va_up (fun i => some (pa i)) r (some v))) H H1) (hs : lr_sh f) : lr_LR G h (fun q => F q ∨ (sz ≤ q ∧ q < H1.size)) (va_up g r f) H1 := by
  obtain ⟨a1, a2, a3, a4, a5, a6, a7, a8, a9, a10, a11, a12⟩ := x
  have n1 : ∀ q, F q → q ≠ v := fun q hq => by have := hsz q hq; omega
  have n2 : ∀ q, F q → q ≠ y := fun q hq => by have := hsz q hq; omega
  have lv : v < H.size := hp.lt.1
  have ly : y < H.size := hp.lt.2
  have hF1 : hF < sz := hsz _ a10
  refine ⟨hF, tv, va_up pa r v, va_up ca r y, e.at a5 a1, ?_, fun i hi => ?_, fun i hi => ?_, a5, fun i hi => ?_, fun i j hi hj => ?_, fun i j hi hj hij => ?_, Or.inl a9, Or.inl a10, fun i hi => ?_, fun q hq => ?_⟩
  · rw [e.1]
    congr 2
    funext i
    by_cases a : i = r
    · subst a
      rw [va_up_self, va_up_self]
    · rw [va_up_ne _ _ a, va_up_ne _ _ a]
  · by_cases a : i = r
    · subst a
      rw [va_up_self, va_up_self, va_up_self]
      exact hp.kept (e.2.2 _ (by omega)) (e.2.2 _ (by omega))
    · rw [va_up_ne _ _ a, va_up_ne _ _ a, va_up_ne _ _ a]
      exact (a3 i hi).kept (e.2.2 _ (fun z => (a6 i hi).2.2 z.symm)) (e.2.2 _ (fun z => (a6 i hi).2.1 z.symm))
  · by_cases a : i = r
    · subst a
      rw [va_up_self]
      exact hs
    · rw [va_up_ne _ _ a]
      exact a4 i hi
  · by_cases a : i = r
    · subst a
      rw [va_up_self, va_up_self]
      exact ⟨n2 _ a9, n2 _ a10, n1 _ a10⟩
    · rw [va_up_ne _ _ a, va_up_ne _ _ a]
      exact a6 i hi
  · by_cases a : i = r <;> by_cases b : j = r
    · subst a; subst b
      rw [va_up_self, va_up_self]
      exact hp.2.2
    · subst a
      rw [va_up_self, va_up_ne _ _ b]
      exact fun z => n1 _ (a11 j hj).2 z.symm
    · subst b
      rw [va_up_self, va_up_ne _ _ a]
      exact n2 _ (a11 i hi).1
    · rw [va_up_ne _ _ a, va_up_ne _ _ b]
      exact a7 i j hi hj
  · by_cases a : i = r <;> by_cases b : j = r
    · omega
    · subst a
      rw [va_up_self, va_up_ne _ _ b]
      exact fun z => n2 _ (a11 j hj).2 z.symm
    · subst b
      rw [va_up_self, va_up_ne _ _ a]
      exact n2 _ (a11 i hi).2
    · rw [va_up_ne _ _ a, va_up_ne _ _ b]
      exact a8 i j hi hj hij
  · by_cases a : i = r
    · subst a
      rw [va_up_self, va_up_self]
      exact ⟨Or.inr ⟨hv, by rw [e.2.1]; exact lv⟩, Or.inr ⟨hy, by rw [e.2.1]; exact ly⟩⟩
    · rw [va_up_ne _ _ a, va_up_ne _ _ a]
      exact ⟨Or.inl (a11 i hi).1, Or.inl (a11 i hi).2⟩
  · rcases hq with b | b
    · rw [e.2.1]; exact a12 q b
    · exact b.2
/-- behind a method that makes no cell: the ring's own cells alone have changed -/
def lr_E0 (G : lr_G) (h : Nat) (F : Nat → Prop) (g' : Nat → Nat → Int32) (H H1 : Heap) : Prop := H1.size = H.size ∧ (∀ q, ¬ F q → H1[q]? = H[q]?) ∧ lr_LR G h F g' H1
/-- behind a method that makes cells -/
def lr_E1 (G : lr_G) (h : Nat) (F : Nat → Prop) (g' : Nat → Nat → Int32) (H H1 : Heap) : Prop := H.size ≤ H1.size ∧ (∀ q, q < H.size → ¬ F q → H1[q]? = H[q]?) ∧ lr_LR G h (fun q => F q ∨ (H.size ≤ q ∧ q < H1.size)) g' H1
abbrev lr_rC : Room := { frames := 2, cells := 2, slots := 257, locals := 32 }
abbrev lr_rI : Room := { frames := 2, cells := 10, slots := 1416, locals := 32 }
abbrev lr_rM : Room := { frames := 4, cells := 6, slots := 771, locals := 94 }
abbrev lr_rA : Room := { frames := 3, cells := 2, slots := 257, locals := 54 }
set_option maxHeartbeats 4000000 in
set_option maxRecDepth 100000 in
theorem met_fair (l : Launch) (G : lr_G) (h x : Nat) (f : Nat → Int32) (hs : lr_sh f) : Met l yX1_fair (ws_ yX1_fair cX1_fair 3 none) lr_r1 (va_Pc [.ref h] (lr_B G (fun q => q = x) (lr_PO G h x f))) (lr_Qv (lr_HS x (lr_S G (lr_fair f)))) 0 0 (fun q => q = x) := by
  refine lr_met (by decide) (Nat.le_of_ble_eq_true rfl) ?_
  intro p e s m below meth c hx hb hr hml hown hts hlocks hin hB ls hl
  obtain ⟨hΦ, hK, hT⟩ := hB
  have hl : lv_has ls 3 [(0, .ref h)] := hl
  have hH := lr_HS.rf hΦ.2.1
  have hL := lr_L.nil (x := x)
  refine lv_iconst (v := nI 0) hx hb dX1_fair_0 (by decide) ?_
  refine lv_istore_n (lv' := [(1, .int (nI 0)), (0, .ref h)]) hx hb dX1_fair_1 rfl hl (by decide) rfl (fun ls hl => ?_)
  refine lr_for (fun i H locs ls => lr_HS x (lr_S G (lr_to (lr_fair f) f i)) s.heap H ∧ lr_L x locs ∧ lv_has ls 3 [(0, .ref h), (1, .int (nI i))]) 256 ?_ ?_ 0 (Nat.zero_le _) ⟨hH.to (congrArg (lr_S G) lr_to_0.symm), hL, lv_sub hl [1, 0] rfl⟩
  · intro H locs ls hI
    obtain ⟨hH, hL, hl⟩ := hI
    refine lv_iload_n hx hb dX1_fair_2 rfl (lv_at hl 1 rfl) ?_
    refine lv_sipush (v := nI 256) hx hb dX1_fair_3 (by decide) ?_
    refine lr_ge_t (tgt := 44) hx hb dX1_fair_6 (by decide) (Int32.le_refl _) ?_
    exact W.vret hx hb hr (fun t ht hW => ⟨rfl, by rw [ht]; exact hH.to (lr_cell (fun j hj => lr_to_e hj))⟩) (fun q hq => hL q hq) dX1_fair_44
  · intro i hi H locs ls hI ih
    obtain ⟨hH, hL, hl⟩ := hI
    refine lv_iload_n hx hb dX1_fair_2 rfl (lv_at hl 1 rfl) ?_
    refine lv_sipush (v := nI 256) hx hb dX1_fair_3 (by decide) ?_
    refine lr_ge_f (tgt := 44) hx hb dX1_fair_6 (by decide) (nI_ge (by omega) (by omega)) ?_
    refine lv_aload_n hx hb dX1_fair_9 rfl (lv_at hl 0 rfl) ?_
    refine lv_iload_n hx hb dX1_fair_10 rfl (lv_at hl 1 rfl) ?_
    have hp := hΦ.set hH
    refine lr_i (va_runV (As := [.int (nI i)]) (rest := []) ⟨hx, hb, hml, hown, hts⟩ (met_get l G h x (lr_to (lr_fair f) f i) i hi (by rw [lr_to_at]; exact hs i hi)) (cwV 1 hts (lw_V q38 q39 q40 q2 q41) rfl rfl rfl (by decide +kernel) ⟨Nat.le_of_ble_eq_true rfl, Nat.le_of_ble_eq_true rfl⟩) (lr_preV hp.1 rfl hp hK hT (hH.S hL) (fun _ h => h.elim)) rfl rfl hl.1 rfl (lv_room (Nat.le_of_ble_eq_true rfl)) dX1_fair_11 ⟨Nat.le_of_ble_eq_true rfl, Nat.le_of_ble_eq_true rfl⟩) ?_
    rw [show lr_to (lr_fair f) f i i = f i from lr_to_at _ _]
    refine lv_sipush (v := 3329) hx hb dX1_fair_14 (by decide) ?_
    refine lv_irem hx hb dX1_fair_17 (by decide) ?_
    refine lv_topi (fun r er => ?_)
    refine lv_istore_n (lv' := [(2, .int r), (0, .ref h), (1, .int (nI i))]) hx hb dX1_fair_18 rfl hl (by decide) rfl (fun ls hl => ?_)
    refine lv_aload_n hx hb dX1_fair_19 rfl (lv_at hl 1 rfl) ?_
    refine lv_iload_n hx hb dX1_fair_20 rfl (lv_at hl 2 rfl) ?_
    refine lv_iload_n hx hb dX1_fair_21 rfl (lv_at hl 0 rfl) ?_
    refine lv_if_ge (tgt := 33) hx hb dX1_fair_22 (by decide) (fun c1 => ?_) (fun c1 => ?_)
    · refine lv_iload_n hx hb dX1_fair_33 rfl (lv_at hl 0 rfl) ?_
      refine lv_i2s hx hb dX1_fair_34 rfl ?_
      refine lr_v (va_runV (As := [.int (nI i), .int ((r).toInt16.toInt32)]) (rest := []) ⟨hx, hb, hml, hown, hts⟩ (met_set l G h x (lr_to (lr_fair f) f i) i ((r).toInt16.toInt32) (lr_fair f i) hi (by show _ = lr_fr (f i); unfold lr_fr; rw [lr_s16, ← er, if_pos c1])) (cwV 2 hts (lw_V q10 q11 q12 q2 q13) rfl rfl rfl (by decide +kernel) ⟨Nat.le_of_ble_eq_true rfl, Nat.le_of_ble_eq_true rfl⟩) (lr_preV hp.1 rfl hp hK hT (hH.S hL) (fun _ h => h)) rfl rfl hl.1 rfl (lv_room (Nat.le_of_ble_eq_true rfl)) dX1_fair_35 ⟨Nat.le_of_ble_eq_true rfl, Nat.le_of_ble_eq_true rfl⟩) (fun H1 M1 e1 hM1 => ?_)
      refine lv_iinc (v := nI (i + 1)) (lv' := [(1, .int (nI (i + 1))), (2, .int r), (0, .ref h)]) hx hb dX1_fair_38 hl (k := 2) rfl (lr_inc _) (by decide) rfl (fun ls hl => ?_)
      refine lv_goto (tgt := 2) hx hb dX1_fair_41 (by decide) ?_
      exact ih _ _ _ ⟨(hH.trans e1).to (congrArg (lr_S G) (lr_to_1 rfl)), hL.app hM1, lv_sub hl [2, 0] rfl⟩
    · refine lv_iload_n hx hb dX1_fair_25 rfl (lv_at hl 0 rfl) ?_
      refine lv_sipush (v := 3329) hx hb dX1_fair_26 (by decide) ?_
      refine lv_iadd hx hb dX1_fair_29 ?_
      refine lv_goto (tgt := 34) hx hb dX1_fair_30 (by decide) ?_
      refine lv_i2s hx hb dX1_fair_34 rfl ?_
      refine lr_v (va_runV (As := [.int (nI i), .int (((r) + (3329)).toInt16.toInt32)]) (rest := []) ⟨hx, hb, hml, hown, hts⟩ (met_set l G h x (lr_to (lr_fair f) f i) i (((r) + (3329)).toInt16.toInt32) (lr_fair f i) hi (by show _ = lr_fr (f i); unfold lr_fr; rw [lr_s16, ← er, if_neg c1])) (cwV 2 hts (lw_V q10 q11 q12 q2 q13) rfl rfl rfl (by decide +kernel) ⟨Nat.le_of_ble_eq_true rfl, Nat.le_of_ble_eq_true rfl⟩) (lr_preV hp.1 rfl hp hK hT (hH.S hL) (fun _ h => h)) rfl rfl hl.1 rfl (lv_room (Nat.le_of_ble_eq_true rfl)) dX1_fair_35 ⟨Nat.le_of_ble_eq_true rfl, Nat.le_of_ble_eq_true rfl⟩) (fun H1 M1 e1 hM1 => ?_)
      refine lv_iinc (v := nI (i + 1)) (lv' := [(1, .int (nI (i + 1))), (2, .int r), (0, .ref h)]) hx hb dX1_fair_38 hl (k := 2) rfl (lr_inc _) (by decide) rfl (fun ls hl => ?_)
      refine lv_goto (tgt := 2) hx hb dX1_fair_41 (by decide) ?_
      exact ih _ _ _ ⟨(hH.trans e1).to (congrArg (lr_S G) (lr_to_1 rfl)), hL.app hM1, lv_sub hl [2, 0] rfl⟩
set_option maxHeartbeats 4000000 in
set_option maxRecDepth 100000 in
/-- copy: a new Poly with the same places -/
theorem met_copy (l : Launch) (G : lr_G) (h1 x1 sz : Nat) (f : Nat → Int32) (hs : lr_sh f) : Met l yX1_copy (ws_ yX1_copy cX1_copy 3 (some (.object "Poly"))) lr_rC (va_Pc [.ref h1] (lr_B G (fun q => sz ≤ q) (fun H => lr_PO G h1 x1 f H ∧ H.size = sz))) (lr_Qa (fun a H H1 => a = sz ∧ lr_PO G sz (sz + 1) f H1 ∧ H1.size = sz + 2 ∧ ∀ q, q < sz → H1[q]? = H[q]?)) 2 257 (fun q => sz ≤ q) := by
  refine lr_met (by decide) (Nat.le_of_ble_eq_true rfl) ?_
  intro p e s m below meth c hx hb hr hml hown hts hlocks hin hB ls hl
  obtain ⟨⟨hΦ, hsz⟩, hK, hT⟩ := hB
  subst hsz
  have hl : lv_has ls 3 [(0, .ref h1)] := hl
  refine lr_newP (a := s.heap.size) hx hb hts rfl hown q25 hK (Nat.le_of_ble_eq_true rfl) (Nat.le_of_ble_eq_true rfl) dX1_copy_0 (fun H1 e1 z1 o1 => ?_)
  refine lv_dup hx hb dX1_copy_3 rfl ?_
  have hS1 := lr_Sn (A := fun q => s.heap.size ≤ q) va_S.rf (by omega) o1
  refine lr_v (va_runI (As := []) (rest := [.ref s.heap.size]) ⟨hx, hb, hml, hown, hts⟩ (met_pnew l G (s.heap.size) (s.heap.size + 1) .null) (cwI 0 hts (lw_meth q29) rfl rfl rfl (hts _ q2) (hts _ q27) (hts _ q28) rfl (by decide +kernel) ⟨Nat.le_of_ble_eq_true rfl, Nat.le_of_ble_eq_true rfl⟩) (lr_preS ⟨e1, z1⟩ hK hT hS1 (fun q h => by omega)) rfl rfl hl.1 rfl (lv_room (Nat.le_of_ble_eq_true rfl)) dX1_copy_4 ⟨Nat.le_of_ble_eq_true rfl, Nat.le_of_ble_eq_true rfl⟩) (fun H2 M2 E2 hM2 => ?_)
  obtain ⟨e2, z2, o2⟩ := E2
  have hS2 := lr_Sc (A1 := fun q => q = s.heap.size ∨ s.heap.size + 1 ≤ q) hS1 (by omega) (fun q h1 h2 => o2 q h1 (fun z => h2 (Or.inl z))) (fun q h => by omega) hM2
  have hO2 : ∀ q, q < s.heap.size → H2[q]? = s.heap[q]? := fun q h => (o2 q (by omega) (by omega)).trans (o1 q h)
  refine lv_astore_n (lv' := [(1, .ref s.heap.size), (0, .ref h1)]) hx hb dX1_copy_7 rfl hl (by decide) rfl (fun ls hl => ?_)
  refine lv_iconst (v := nI 0) hx hb dX1_copy_8 (by decide) ?_
  refine lv_istore_n (lv' := [(2, .int (nI 0)), (1, .ref s.heap.size), (0, .ref h1)]) hx hb dX1_copy_9 rfl hl (by decide) rfl (fun ls hl => ?_)
  refine lr_for (fun i H locs ls => lr_PO G s.heap.size (s.heap.size + 1) (lr_to f (fun _ => 0) i) H ∧ H.size = s.heap.size + 2 ∧ (∀ q, q < s.heap.size → H[q]? = s.heap[q]?) ∧ va_S (fun q => s.heap.size ≤ q) s.heap H locs ∧ lv_has ls 3 [(0, .ref h1), (1, .ref s.heap.size), (2, .int (nI i))]) 256 ?_ ?_ 0 (Nat.zero_le _) ⟨e2.to (fun j _ => by rw [lr_to_0]), by omega, hO2, hS2, lv_sub hl [2, 1, 0] rfl⟩
  · intro H locs ls hI
    obtain ⟨hp, hz, hO, hS, hl⟩ := hI
    refine lv_iload_n hx hb dX1_copy_10 rfl (lv_at hl 2 rfl) ?_
    refine lv_sipush (v := nI 256) hx hb dX1_copy_11 (by decide) ?_
    refine lr_ge_t (tgt := 33) hx hb dX1_copy_14 (by decide) (Int32.le_refl _) ?_
    refine lv_aload_n hx hb dX1_copy_33 rfl (lv_at hl 1 rfl) ?_
    exact W.aret hx hb hr (Or.inl ⟨_, rfl⟩) (Or.inr ⟨_, rfl⟩) (fun t ht hW => ⟨_, rfl, rfl, by rw [ht]; exact ⟨hp.to (fun j hj => lr_to_e hj), hz, hO⟩⟩) (fun q hq => hS.2.2 q hq) dX1_copy_34
  · intro i hi H locs ls hI ih
    obtain ⟨hp, hz, hO, hS, hl⟩ := hI
    have hp1 := hΦ.kept (hO _ hΦ.lt.1) (hO _ hΦ.lt.2)
    refine lv_iload_n hx hb dX1_copy_10 rfl (lv_at hl 2 rfl) ?_
    refine lv_sipush (v := nI 256) hx hb dX1_copy_11 (by decide) ?_
    refine lr_ge_f (tgt := 33) hx hb dX1_copy_14 (by decide) (nI_ge (by omega) (by omega)) ?_
    refine lv_aload_n hx hb dX1_copy_17 rfl (lv_at hl 1 rfl) ?_
    refine lv_iload_n hx hb dX1_copy_18 rfl (lv_at hl 2 rfl) ?_
    refine lv_aload_n hx hb dX1_copy_19 rfl (lv_at hl 0 rfl) ?_
    refine lv_iload_n hx hb dX1_copy_20 rfl (lv_at hl 2 rfl) ?_
    refine lr_i (va_runV (As := [.int (nI i)]) (rest := [.int (nI i), .ref s.heap.size]) ⟨hx, hb, hml, hown, hts⟩ (met_get l G h1 x1 f i hi (hs i hi)) (cwV 1 hts (lw_V q38 q39 q40 q2 q41) rfl rfl rfl (by decide +kernel) ⟨Nat.le_of_ble_eq_true rfl, Nat.le_of_ble_eq_true rfl⟩) (lr_preV hp1.1 rfl hp1 hK hT hS (fun _ h => h.elim)) rfl rfl hl.1 rfl (lv_room (Nat.le_of_ble_eq_true rfl)) dX1_copy_21 ⟨Nat.le_of_ble_eq_true rfl, Nat.le_of_ble_eq_true rfl⟩) ?_
    refine lr_v (va_runV (As := [.int (nI i), .int (f i)]) (rest := []) ⟨hx, hb, hml, hown, hts⟩ (met_set l G s.heap.size (s.heap.size + 1) (lr_to f (fun _ => 0) i) i (f i) (f i) hi (hs i hi)) (cwV 2 hts (lw_V q10 q11 q12 q2 q13) rfl rfl rfl (by decide +kernel) ⟨Nat.le_of_ble_eq_true rfl, Nat.le_of_ble_eq_true rfl⟩) (lr_preV hp.1 rfl hp hK hT hS (fun q h => by omega)) rfl rfl hl.1 rfl (lv_room (Nat.le_of_ble_eq_true rfl)) dX1_copy_24 ⟨Nat.le_of_ble_eq_true rfl, Nat.le_of_ble_eq_true rfl⟩) (fun H1 M1 e1 hM1 => ?_)
    refine lv_iinc (v := nI (i + 1)) (lv' := [(2, .int (nI (i + 1))), (0, .ref h1), (1, .ref s.heap.size)]) hx hb dX1_copy_27 hl (k := 2) rfl (lr_inc _) (by decide) rfl (fun ls hl => ?_)
    refine lv_goto (tgt := 10) hx hb dX1_copy_30 (by decide) ?_
    exact ih _ _ _ ⟨(hp.set e1).to (fun j _ => by rw [lr_to_1 rfl]), e1.2.1.trans hz, fun q h => (e1.2.2 q (by omega)).trans (hO q h), lr_Sh hS e1 (by omega) hM1, lv_sub hl [1, 2, 0] rfl⟩
end
section
/-! LatticeRing: put, spread, coefficient, the constructor, multiply, add -/
set_option maxHeartbeats 4000000 in
set_option maxRecDepth 100000 in
theorem met_put (l : Launch) (G : lr_G) (h : Nat) (F : Nat → Prop) (g : Nat → Nat → Int32) (r t v : Int32) (ρ κ : Nat) (hρ : ρ < 4) (hr1 : (r) &&& (nI 3) = nI ρ) (hκ : κ < 256) (ha : (t) &&& (nI 255) = nI κ) : Met l yX1_put (ws_ yX1_put cX1_put 4 none) lr_r1 (va_Pc [.ref h, .int r, .int t, .int v] (lr_B G F (lr_LR G h F g))) (lr_Qv (lr_E0 G h F (va_up g ρ (upd (g ρ) κ (lr_pv v))))) 0 0 F := by
  refine lr_met (by decide) (Nat.le_of_ble_eq_true rfl) ?_
  intro p e s m below meth c hx hb hr hml hown hts hlocks hin hB ls hl
  obtain ⟨hΦ, hK, hT⟩ := hB
  obtain ⟨hF, tv, pa, ca, hX⟩ := hΦ
  have hl : lv_has ls 4 [(0, .ref h), (1, .int r), (2, .int t), (3, .int v)] := hl
  have hp := hX.2.2.1 ρ hρ
  have hFc : F (ca ρ) := (hX.2.2.2.2.2.2.2.2.2.2.1 ρ hρ).2
  refine lv_aload_n hx hb dX1_put_0 rfl (lv_at hl 0 rfl) ?_
  refine lr_getF hx hb hts hown hK (hX.1) q112 dX1_put_1 ?_
  refine lv_iload_n hx hb dX1_put_4 rfl (lv_at hl 1 rfl) ?_
  refine lv_iconst (v := nI 3) hx hb dX1_put_5 (by decide) ?_
  refine lv_iand hx hb dX1_put_6 ?_
  rw [show (r) &&& (nI 3) = nI ρ from hr1]
  refine lr_aald (k := ρ) hx hb hK (hX.2.1) rfl hρ rfl dX1_put_7 ?_
  refine lv_iload_n hx hb dX1_put_8 rfl (lv_at hl 2 rfl) ?_
  refine lv_sipush (v := nI 255) hx hb dX1_put_9 (by decide) ?_
  refine lv_iand hx hb dX1_put_12 ?_
  rw [show (t) &&& (nI 255) = nI κ from ha]
  refine lv_iload_n hx hb dX1_put_13 rfl (lv_at hl 3 rfl) ?_
  refine lv_ldc hx hb hown (hts _ q9) dX1_put_14 ?_
  refine lv_iand hx hb dX1_put_16 ?_
  refine lv_sipush (v := 3329) hx hb dX1_put_17 (by decide) ?_
  refine lv_irem hx hb dX1_put_20 (by decide) ?_
  refine lv_i2s hx hb dX1_put_21 rfl ?_
  refine lr_v (va_runV (As := [.int (nI κ), .int ((((v) &&& (2147483647)) - ((v) &&& (2147483647)) / (3329) * (3329)).toInt16.toInt32)]) (rest := []) ⟨hx, hb, hml, hown, hts⟩ (met_set l G (pa ρ) (ca ρ) (g ρ) κ ((((v) &&& (2147483647)) - ((v) &&& (2147483647)) / (3329) * (3329)).toInt16.toInt32) (lr_pv v) hκ (by rw [lr_s16]; exact lr_pv16 v)) (cwV 2 hts (lw_V q10 q11 q12 q2 q13) rfl rfl rfl (by decide +kernel) ⟨Nat.le_of_ble_eq_true rfl, Nat.le_of_ble_eq_true rfl⟩) (lr_preV hp.1 rfl hp hK hT (va_S.rf (A := F)) (fun q h => by rw [h]; exact hFc)) rfl rfl hl.1 rfl (lv_room (Nat.le_of_ble_eq_true rfl)) dX1_put_22 ⟨Nat.le_of_ble_eq_true rfl, Nat.le_of_ble_eq_true rfl⟩) (fun H1 M1 e1 hM1 => ?_)
  exact W.vret hx hb hr (fun t ht hW => ⟨rfl, by rw [ht]; exact ⟨e1.2.1, fun q hq => e1.2.2 q (fun z => hq (by rw [z]; exact hFc)), hF, tv, pa, ca, hX.set hρ e1 (lr_sh_upd (hX.2.2.2.1 ρ hρ) (lr_pv16 v))⟩⟩) (fun q hq => by rw [hM1 q hq]; exact hFc) dX1_put_25
set_option maxHeartbeats 4000000 in
set_option maxRecDepth 100000 in
theorem met_spread (l : Launch) (G : lr_G) (h : Nat) (F : Nat → Prop) (g : Nat → Nat → Int32) (r first step : Int32) (ρ : Nat) (hρ : ρ < 4) (hr1 : (r) &&& (nI 3) = nI ρ) : Met l yX1_spread (ws_ yX1_spread cX1_spread 5 none) lr_r1 (va_Pc [.ref h, .int r, .int first, .int step] (lr_B G F (lr_LR G h F g))) (lr_Qv (lr_E0 G h F (va_up g ρ (lr_spr first step)))) 0 0 F := by
  refine lr_met (by decide) (Nat.le_of_ble_eq_true rfl) ?_
  intro p e s m below meth c hx hb hr hml hown hts hlocks hin hB ls hl
  obtain ⟨hΦ, hK, hT⟩ := hB
  obtain ⟨hF, tv, pa, ca, hX⟩ := hΦ
  have hl : lv_has ls 5 [(0, .ref h), (1, .int r), (2, .int first), (3, .int step)] := hl
  have hp := hX.2.2.1 ρ hρ
  have hn := hX.2.2.2.2.2.1 ρ hρ
  have hFc : F (ca ρ) := (hX.2.2.2.2.2.2.2.2.2.2.1 ρ hρ).2
  have hH := lr_HS.rf hp.2.1
  have hL := lr_L.nil (x := ca ρ)
  refine lv_iconst (v := nI 0) hx hb dX1_spread_0 (by decide) ?_
  refine lv_istore (lv' := [(4, .int (nI 0)), (0, .ref h), (1, .int r), (2, .int first), (3, .int step)]) hx hb dX1_spread_1 hl (by decide) rfl (fun ls hl => ?_)
  refine lr_for (fun i H locs ls => lr_HS (ca ρ) (lr_S G (lr_to (lr_spr first step) (g ρ) i)) s.heap H ∧ lr_L (ca ρ) locs ∧ lv_has ls 5 [(0, .ref h), (1, .int r), (2, .int first), (3, .int step), (4, .int (nI i))]) 256 ?_ ?_ 0 (Nat.zero_le _) ⟨hH.to (congrArg (lr_S G) lr_to_0.symm), hL, lv_sub hl [1, 2, 3, 4, 0] rfl⟩
  · intro H locs ls hI
    obtain ⟨hH, hL, hl⟩ := hI
    refine lv_iload hx hb dX1_spread_3 (lv_at hl 4 rfl) ?_
    refine lv_sipush (v := nI 256) hx hb dX1_spread_5 (by decide) ?_
    refine lr_ge_t (tgt := 44) hx hb dX1_spread_8 (by decide) (Int32.le_refl _) ?_
    have e1 := hH.to (lr_cell (g := lr_spr first step) (fun j hj => lr_to_e hj))
    exact W.vret hx hb hr (fun t ht hW => ⟨rfl, by rw [ht]; exact ⟨e1.2.1, fun q hq => e1.2.2 q (fun z => hq (by rw [z]; exact hFc)), hF, tv, pa, ca, hX.set hρ e1 (lr_sh_spr _ _)⟩⟩) (fun q hq => by rw [hL q hq]; exact hFc) dX1_spread_44
  · intro i hi H locs ls hI ih
    obtain ⟨hH, hL, hl⟩ := hI
    refine lv_iload hx hb dX1_spread_3 (lv_at hl 4 rfl) ?_
    refine lv_sipush (v := nI 256) hx hb dX1_spread_5 (by decide) ?_
    refine lr_ge_f (tgt := 44) hx hb dX1_spread_8 (by decide) (nI_ge (by omega) (by omega)) ?_
    refine lv_aload_n hx hb dX1_spread_11 rfl (lv_at hl 0 rfl) ?_
    refine lr_getF hx hb hts hown hK (hH.at hn.1 hX.1) q112 dX1_spread_12 ?_
    refine lv_iload_n hx hb dX1_spread_15 rfl (lv_at hl 1 rfl) ?_
    refine lv_iconst (v := nI 3) hx hb dX1_spread_16 (by decide) ?_
    refine lv_iand hx hb dX1_spread_17 ?_
    rw [show (r) &&& (nI 3) = nI ρ from hr1]
    refine lr_aald (k := ρ) hx hb hK ((hH.2.2 _ hn.2.1).trans hX.2.1) rfl hρ rfl dX1_spread_18 ?_
    refine lv_iload hx hb dX1_spread_19 (lv_at hl 4 rfl) ?_
    refine lv_iload_n hx hb dX1_spread_21 rfl (lv_at hl 2 rfl) ?_
    refine lv_iload hx hb dX1_spread_22 (lv_at hl 4 rfl) ?_
    refine lv_iload_n hx hb dX1_spread_24 rfl (lv_at hl 3 rfl) ?_
    refine lv_imul hx hb dX1_spread_25 ?_
    refine lv_iadd hx hb dX1_spread_26 ?_
    refine lv_ldc hx hb hown (hts _ q9) dX1_spread_27 ?_
    refine lv_iand hx hb dX1_spread_29 ?_
    refine lv_sipush (v := 3329) hx hb dX1_spread_30 (by decide) ?_
    refine lv_irem hx hb dX1_spread_33 (by decide) ?_
    refine lv_i2s hx hb dX1_spread_34 rfl ?_
    have hp1 := hp.set hH
    refine lr_v (va_runV (As := [.int (nI i), .int (((((first) + ((nI i) * (step))) &&& (2147483647)) - (((first) + ((nI i) * (step))) &&& (2147483647)) / (3329) * (3329)).toInt16.toInt32)]) (rest := []) ⟨hx, hb, hml, hown, hts⟩ (met_set l G (pa ρ) (ca ρ) (lr_to (lr_spr first step) (g ρ) i) i (((((first) + ((nI i) * (step))) &&& (2147483647)) - (((first) + ((nI i) * (step))) &&& (2147483647)) / (3329) * (3329)).toInt16.toInt32) (lr_spr first step i) hi (by rw [lr_s16]; exact lr_pv16 _)) (cwV 2 hts (lw_V q10 q11 q12 q2 q13) rfl rfl rfl (by decide +kernel) ⟨Nat.le_of_ble_eq_true rfl, Nat.le_of_ble_eq_true rfl⟩) (lr_preV hp1.1 rfl hp1 hK hT (lr_Sm (B := F) (hH.S hL) (fun q h => by rw [h]; exact hFc)) (fun q h => by rw [h]; exact hFc)) rfl rfl hl.1 rfl (lv_room (Nat.le_of_ble_eq_true rfl)) dX1_spread_35 ⟨Nat.le_of_ble_eq_true rfl, Nat.le_of_ble_eq_true rfl⟩) (fun H1 M1 e1 hM1 => ?_)
    refine lv_iinc (v := nI (i + 1)) (lv' := [(4, .int (nI (i + 1))), (0, .ref h), (1, .int r), (2, .int first), (3, .int step)]) hx hb dX1_spread_38 hl (k := 4) rfl (lr_inc _) (by decide) rfl (fun ls hl => ?_)
    refine lv_goto (tgt := 3) hx hb dX1_spread_41 (by decide) ?_
    exact ih _ _ _ ⟨(hH.trans e1).to (congrArg (lr_S G) (lr_to_1 rfl)), hL.app hM1, lv_sub hl [1, 2, 3, 4, 0] rfl⟩
set_option maxHeartbeats 4000000 in
set_option maxRecDepth 100000 in
theorem met_coef (l : Launch) (G : lr_G) (h : Nat) (F : Nat → Prop) (g : Nat → Nat → Int32) (r t : Int32) (ρ κ : Nat) (hρ : ρ < 4) (hr1 : (r) &&& (nI 3) = nI ρ) (hκ : κ < 256) (ha : (t) &&& (nI 255) = nI κ) : Met l yX1_coefficient (ws_ yX1_coefficient cX1_coefficient 3 (some .int)) lr_r1 (va_Pc [.ref h, .int r, .int t] (lr_B G (fun _ => False) (lr_LR G h F g))) (vp_Si (fun z => z = g ρ κ)) 0 0 (fun _ => False) := by
  refine lr_met (by decide) (Nat.le_of_ble_eq_true rfl) ?_
  intro p e s m below meth c hx hb hr hml hown hts hlocks hin hB ls hl
  obtain ⟨hΦ, hK, hT⟩ := hB
  obtain ⟨hF, tv, pa, ca, hX⟩ := hΦ
  have hl : lv_has ls 3 [(0, .ref h), (1, .int r), (2, .int t)] := hl
  have hp := hX.2.2.1 ρ hρ
  refine lv_aload_n hx hb dX1_coefficient_0 rfl (lv_at hl 0 rfl) ?_
  refine lr_getF hx hb hts hown hK (hX.1) q112 dX1_coefficient_1 ?_
  refine lv_iload_n hx hb dX1_coefficient_4 rfl (lv_at hl 1 rfl) ?_
  refine lv_iconst (v := nI 3) hx hb dX1_coefficient_5 (by decide) ?_
  refine lv_iand hx hb dX1_coefficient_6 ?_
  rw [show (r) &&& (nI 3) = nI ρ from hr1]
  refine lr_aald (k := ρ) hx hb hK (hX.2.1) rfl hρ rfl dX1_coefficient_7 ?_
  refine lv_iload_n hx hb dX1_coefficient_8 rfl (lv_at hl 2 rfl) ?_
  refine lv_sipush (v := nI 255) hx hb dX1_coefficient_9 (by decide) ?_
  refine lv_iand hx hb dX1_coefficient_12 ?_
  rw [show (t) &&& (nI 255) = nI κ from ha]
  refine lr_i (va_runV (As := [.int (nI κ)]) (rest := []) ⟨hx, hb, hml, hown, hts⟩ (met_get l G (pa ρ) (ca ρ) (g ρ) κ hκ (hX.2.2.2.1 ρ hρ κ hκ)) (cwV 1 hts (lw_V q38 q39 q40 q2 q41) rfl rfl rfl (by decide +kernel) ⟨Nat.le_of_ble_eq_true rfl, Nat.le_of_ble_eq_true rfl⟩) (lr_preV hp.1 rfl hp hK hT (va_S.rf (A := fun _ => False)) (fun q h => h)) rfl rfl hl.1 rfl (lv_room (Nat.le_of_ble_eq_true rfl)) dX1_coefficient_13 ⟨Nat.le_of_ble_eq_true rfl, Nat.le_of_ble_eq_true rfl⟩) ?_
  exact W.iret hx hb hr (fun t ht hW => ⟨_, rfl, rfl, ht⟩) (fun _ h => by cases h) dX1_coefficient_16
set_option maxHeartbeats 4000000 in
set_option maxRecDepth 100000 in
theorem met_mul (l : Launch) (G : lr_G) (h sz : Nat) (F : Nat → Prop) (g : Nat → Nat → Int32) (r u v : Int32) (ρ π κ : Nat) (hρ : ρ < 4) (hr1 : (r) &&& (nI 3) = nI ρ) (hπ : π < 4) (hu : (u) &&& (nI 3) = nI π) (hκ : κ < 4) (hv : (v) &&& (nI 3) = nI κ) : Met l yX1_multiply (ws_ yX1_multiply cX1_multiply 7 none) lr_rM (va_Pc [.ref h, .int r, .int u, .int v] (lr_B G (fun q => F q ∨ sz ≤ q) (fun H => lr_LR G h F g H ∧ H.size = sz))) (lr_Qv (lr_E1 G h F (va_up g ρ (lr_mul (g π) (g κ))))) 6 771 (fun q => F q ∨ sz ≤ q) := by
  refine lr_met (by decide) (Nat.le_of_ble_eq_true rfl) ?_
  intro p e s m below meth c hx hb hr hml hown hts hlocks hin hB ls hl
  obtain ⟨⟨hΦ, hsz⟩, hK, hT⟩ := hB
  obtain ⟨hF, tv, pa, ca, hX⟩ := hΦ
  have hl : lv_has ls 7 [(0, .ref h), (1, .int r), (2, .int u), (3, .int v)] := hl
  have hlt : ∀ q, F q → q < sz := fun q hq => by rw [← hsz]; exact hX.2.2.2.2.2.2.2.2.2.2.2 q hq
  refine lv_aload_n hx hb dX1_multiply_0 rfl (lv_at hl 0 rfl) ?_
  refine lr_getF hx hb hts hown hK (hX.1) q112 dX1_multiply_1 ?_
  refine lv_iload_n hx hb dX1_multiply_4 rfl (lv_at hl 2 rfl) ?_
  refine lv_iconst (v := nI 3) hx hb dX1_multiply_5 (by decide) ?_
  refine lv_iand hx hb dX1_multiply_6 ?_
  rw [show (u) &&& (nI 3) = nI π from hu]
  refine lr_aald (k := π) hx hb hK (hX.2.1) rfl hπ rfl dX1_multiply_7 ?_
  refine lr_a (va_runS (As := [.ref (pa π)]) (rest := []) ⟨hx, hb, hml, hown, hts⟩ (met_copy l G (pa π) (ca π) (sz) (g π) (hX.2.2.2.1 π hπ)) (va_cwS 1 hts (lw_S q22 q23 q1 q24) rfl rfl rfl (by decide +kernel) ⟨Nat.le_of_ble_eq_true rfl, Nat.le_of_ble_eq_true rfl⟩) (lr_preS ⟨hX.2.2.1 π hπ, hsz⟩ hK hT (va_S.rf (A := fun q => F q ∨ sz ≤ q)) (fun q h => Or.inr (by omega))) rfl rfl hl.1 rfl (lv_room (Nat.le_of_ble_eq_true rfl)) dX1_multiply_8 ⟨Nat.le_of_ble_eq_true rfl, Nat.le_of_ble_eq_true rfl⟩) (fun a1 H1 M1 E1 hM1 => ?_)
  obtain ⟨ea1, p1, z1, o1⟩ := E1
  have ea1 := ea1.symm
  subst ea1
  have hS1 := lr_Sc (A1 := fun q => sz ≤ q) (va_S.rf (A := fun q => F q ∨ sz ≤ q)) (by omega) (fun q h1 _ => o1 q (by omega)) (fun q h => Or.inr h) hM1
  have hX1 := hX.kept (H1 := H1) (by omega) (fun q hq => o1 q (by have := hlt q hq; omega))
  refine lv_astore (lv' := [(4, .ref sz), (0, .ref h), (1, .int r), (2, .int u), (3, .int v)]) hx hb dX1_multiply_11 hl (by decide) rfl (fun ls hl => ?_)
  refine lv_aload_n hx hb dX1_multiply_13 rfl (lv_at hl 1 rfl) ?_
  refine lr_getF hx hb hts hown hK (hX1.1) q112 dX1_multiply_14 ?_
  refine lv_iload_n hx hb dX1_multiply_17 rfl (lv_at hl 4 rfl) ?_
  refine lv_iconst (v := nI 3) hx hb dX1_multiply_18 (by decide) ?_
  refine lv_iand hx hb dX1_multiply_19 ?_
  rw [show (v) &&& (nI 3) = nI κ from hv]
  refine lr_aald (k := κ) hx hb hK (hX1.2.1) rfl hκ rfl dX1_multiply_20 ?_
  refine lr_a (va_runS (As := [.ref (pa κ)]) (rest := []) ⟨hx, hb, hml, hown, hts⟩ (met_copy l G (pa κ) (ca κ) (sz + 2) (g κ) (hX.2.2.2.1 κ hκ)) (va_cwS 1 hts (lw_S q22 q23 q1 q24) rfl rfl rfl (by decide +kernel) ⟨Nat.le_of_ble_eq_true rfl, Nat.le_of_ble_eq_true rfl⟩) (lr_preS ⟨hX1.2.2.1 κ hκ, z1⟩ hK hT hS1 (fun q h => Or.inr (by omega))) rfl rfl hl.1 rfl (lv_room (Nat.le_of_ble_eq_true rfl)) dX1_multiply_21 ⟨Nat.le_of_ble_eq_true rfl, Nat.le_of_ble_eq_true rfl⟩) (fun a2 H2 M2 E2 hM2 => ?_)
  obtain ⟨ea2, p2, z2, o2⟩ := E2
  have ea2 := ea2.symm
  subst ea2
  have hS2 := lr_Sc (A1 := fun q => sz + 2 ≤ q) hS1 (by omega) (fun q h1 _ => o2 q (by omega)) (fun q h => Or.inr (by omega)) hM2
  have p1 := p1.kept (o2 _ (by omega)) (o2 _ (by omega))
  have hO2 : ∀ q, q < sz → H2[q]? = s.heap[q]? := fun q h => (o2 q (by omega)).trans (o1 q h)
  refine lv_astore (lv' := [(5, .ref (sz + 2)), (4, .ref sz), (0, .ref h), (1, .int r), (2, .int u), (3, .int v)]) hx hb dX1_multiply_24 hl (by decide) rfl (fun ls hl => ?_)
  refine lr_newP (a := sz + 4) hx hb hts (by omega) hown q25 hK (Nat.le_of_ble_eq_true rfl) (Nat.le_of_ble_eq_true rfl) dX1_multiply_26 (fun H3 e3 z3 o3 => ?_)
  refine lv_dup hx hb dX1_multiply_29 rfl ?_
  have hS3 := lr_Sn hS2 (by omega) (fun q h => o3 q (by omega))
  refine lr_v (va_runI (As := []) (rest := [.ref (sz + 4)]) ⟨hx, hb, hml, hown, hts⟩ (met_pnew l G (sz + 4) (sz + 5) .null) (cwI 0 hts (lw_meth q29) rfl rfl rfl (hts _ q2) (hts _ q27) (hts _ q28) rfl (by decide +kernel) ⟨Nat.le_of_ble_eq_true rfl, Nat.le_of_ble_eq_true rfl⟩) (lr_preS ⟨e3, z3⟩ hK hT hS3 (fun q h => Or.inr (by omega))) rfl rfl hl.1 rfl (lv_room (Nat.le_of_ble_eq_true rfl)) dX1_multiply_30 ⟨Nat.le_of_ble_eq_true rfl, Nat.le_of_ble_eq_true rfl⟩) (fun H4 M4 E4 hM4 => ?_)
  obtain ⟨p3, z4, o4⟩ := E4
  have hS4 := lr_Sc (A1 := fun q => q = sz + 4 ∨ sz + 5 ≤ q) hS3 (by omega) (fun q h1 h2 => o4 q h1 (fun z => h2 (Or.inl z))) (fun q h => Or.inr (by omega)) hM4
  have o34 : ∀ q, q < sz + 4 → H4[q]? = H2[q]? := fun q h => (o4 q (by omega) (by omega)).trans (o3 q h)
  have p1 := p1.kept (o34 _ (by omega)) (o34 _ (by omega))
  have p2 := p2.kept (o34 _ (by omega)) (o34 _ (by omega))
  have hO4 : ∀ q, q < sz → H4[q]? = s.heap[q]? := fun q h => (o34 q (by omega)).trans (hO2 q h)
  have hz4 : H4.size = sz + 6 := by omega
  refine lv_astore (lv' := [(6, .ref (sz + 4)), (5, .ref (sz + 2)), (4, .ref sz), (0, .ref h), (1, .int r), (2, .int u), (3, .int v)]) hx hb dX1_multiply_33 hl (by decide) rfl (fun ls hl => ?_)
  refine lv_aload hx hb dX1_multiply_35 (lv_at hl 2 rfl) ?_
  refine lr_v (va_runV (As := []) (rest := []) ⟨hx, hb, hml, hown, hts⟩ (met_pntt l G sz (sz + 1) (g π)) (cwV 0 hts (lw_V q42 q43 q44 q2 q45) rfl rfl rfl (by decide +kernel) ⟨Nat.le_of_ble_eq_true rfl, Nat.le_of_ble_eq_true rfl⟩) (lr_preV p1.1 rfl p1 hK hT hS4 (fun q h => Or.inr (by omega))) rfl rfl hl.1 rfl (lv_room (Nat.le_of_ble_eq_true rfl)) dX1_multiply_37 ⟨Nat.le_of_ble_eq_true rfl, Nat.le_of_ble_eq_true rfl⟩) (fun H5 M5 e5 hM5 => ?_)
  have hS5 := lr_Sh hS4 e5 (Or.inr (by omega)) hM5
  have p1 := p1.set e5
  have p2 := p2.kept (e5.2.2 _ (by omega)) (e5.2.2 _ (by omega))
  have p3 := p3.kept (e5.2.2 _ (by omega)) (e5.2.2 _ (by omega))
  have hO5 : ∀ q, q < sz → H5[q]? = s.heap[q]? := fun q h => (e5.2.2 q (by omega)).trans (hO4 q h)
  have hz5 : H5.size = sz + 6 := e5.2.1.trans hz4
  refine lv_aload hx hb dX1_multiply_40 (lv_at hl 1 rfl) ?_
  refine lr_v (va_runV (As := []) (rest := []) ⟨hx, hb, hml, hown, hts⟩ (met_pntt l G (sz + 2) (sz + 2 + 1) (g κ)) (cwV 0 hts (lw_V q42 q43 q44 q2 q45) rfl rfl rfl (by decide +kernel) ⟨Nat.le_of_ble_eq_true rfl, Nat.le_of_ble_eq_true rfl⟩) (lr_preV p2.1 rfl p2 hK hT hS5 (fun q h => Or.inr (by omega))) rfl rfl hl.1 rfl (lv_room (Nat.le_of_ble_eq_true rfl)) dX1_multiply_42 ⟨Nat.le_of_ble_eq_true rfl, Nat.le_of_ble_eq_true rfl⟩) (fun H6 M6 e6 hM6 => ?_)
  have hS6 := lr_Sh hS5 e6 (Or.inr (by omega)) hM6
  have p2 := p2.set e6
  have p1 := p1.kept (e6.2.2 _ (by omega)) (e6.2.2 _ (by omega))
  have p3 := p3.kept (e6.2.2 _ (by omega)) (e6.2.2 _ (by omega))
  have hO6 : ∀ q, q < sz → H6[q]? = s.heap[q]? := fun q h => (e6.2.2 q (by omega)).trans (hO5 q h)
  have hz6 : H6.size = sz + 6 := e6.2.1.trans hz5
  refine lv_aload hx hb dX1_multiply_45 (lv_at hl 0 rfl) ?_
  refine lv_aload hx hb dX1_multiply_47 (lv_at hl 2 rfl) ?_
  refine lv_aload hx hb dX1_multiply_49 (lv_at hl 1 rfl) ?_
  refine lr_v (va_runS (As := [.ref (sz + 4), .ref sz, .ref (sz + 2)]) (rest := []) ⟨hx, hb, hml, hown, hts⟩ (met_bmm l G (sz + 4) (sz + 5) sz (sz + 1) (sz + 2) (sz + 2 + 1) (fun _ => 0) (lr_red (lr_ntt (g π))) (lr_red (lr_ntt (g κ))) (lr_sh_red _) (lr_sh_red _) (by omega) (by omega) (by omega) (by omega)) (va_cwS 3 hts (lw_S q65 q66 q2 q67) rfl rfl rfl (by decide +kernel) ⟨Nat.le_of_ble_eq_true rfl, Nat.le_of_ble_eq_true rfl⟩) (lr_preS ⟨p3, p1, p2⟩ hK hT hS6 (fun q h => Or.inr (by omega))) rfl rfl hl.1 rfl (lv_room (Nat.le_of_ble_eq_true rfl)) dX1_multiply_51 ⟨Nat.le_of_ble_eq_true rfl, Nat.le_of_ble_eq_true rfl⟩) (fun H7 M7 e7 hM7 => ?_)
  have hS7 := lr_Sh hS6 e7 (Or.inr (by omega)) hM7
  have p3 := p3.set e7
  have hO7 : ∀ q, q < sz → H7[q]? = s.heap[q]? := fun q h => (e7.2.2 q (by omega)).trans (hO6 q h)
  have hz7 : H7.size = sz + 6 := e7.2.1.trans hz6
  refine lv_aload hx hb dX1_multiply_54 (lv_at hl 0 rfl) ?_
  refine lr_v (va_runV (As := []) (rest := []) ⟨hx, hb, hml, hown, hts⟩ (met_red l G (sz + 4) (sz + 5) (lr_pw (lr_red (lr_ntt (g π))) (lr_red (lr_ntt (g κ))))) (cwV 0 hts (lw_V q73 q59 q60 q2 q61) rfl rfl rfl (by decide +kernel) ⟨Nat.le_of_ble_eq_true rfl, Nat.le_of_ble_eq_true rfl⟩) (lr_preV p3.1 rfl p3 hK hT hS7 (fun q h => Or.inr (by omega))) rfl rfl hl.1 rfl (lv_room (Nat.le_of_ble_eq_true rfl)) dX1_multiply_56 ⟨Nat.le_of_ble_eq_true rfl, Nat.le_of_ble_eq_true rfl⟩) (fun H8 M8 e8 hM8 => ?_)
  have hS8 := lr_Sh hS7 e8 (Or.inr (by omega)) hM8
  have p3 := p3.set e8
  have hO8 : ∀ q, q < sz → H8[q]? = s.heap[q]? := fun q h => (e8.2.2 q (by omega)).trans (hO7 q h)
  have hz8 : H8.size = sz + 6 := e8.2.1.trans hz7
  refine lv_aload hx hb dX1_multiply_59 (lv_at hl 0 rfl) ?_
  refine lr_v (va_runV (As := []) (rest := []) ⟨hx, hb, hml, hown, hts⟩ (met_pinv l G (sz + 4) (sz + 5) (lr_red (lr_pw (lr_red (lr_ntt (g π))) (lr_red (lr_ntt (g κ)))))) (cwV 0 hts (lw_V q74 q75 q76 q2 q77) rfl rfl rfl (by decide +kernel) ⟨Nat.le_of_ble_eq_true rfl, Nat.le_of_ble_eq_true rfl⟩) (lr_preV p3.1 rfl p3 hK hT hS8 (fun q h => Or.inr (by omega))) rfl rfl hl.1 rfl (lv_room (Nat.le_of_ble_eq_true rfl)) dX1_multiply_61 ⟨Nat.le_of_ble_eq_true rfl, Nat.le_of_ble_eq_true rfl⟩) (fun H9 M9 e9 hM9 => ?_)
  have hS9 := lr_Sh hS8 e9 (Or.inr (by omega)) hM9
  have p3 := p3.set e9
  have hO9 : ∀ q, q < sz → H9[q]? = s.heap[q]? := fun q h => (e9.2.2 q (by omega)).trans (hO8 q h)
  have hz9 : H9.size = sz + 6 := e9.2.1.trans hz8
  refine lv_aload hx hb dX1_multiply_64 (lv_at hl 0 rfl) ?_
  refine lr_v (va_runS (As := [.ref (sz + 4)]) (rest := []) ⟨hx, hb, hml, hown, hts⟩ (met_fair l G (sz + 4) (sz + 5) (lr_inv (lr_red (lr_pw (lr_red (lr_ntt (g π))) (lr_red (lr_ntt (g κ)))))) (lr_sh_inv _)) (va_cwS 1 hts (lw_S q84 q85 q1 q86) rfl rfl rfl (by decide +kernel) ⟨Nat.le_of_ble_eq_true rfl, Nat.le_of_ble_eq_true rfl⟩) (lr_preS p3 hK hT hS9 (fun q h => Or.inr (by omega))) rfl rfl hl.1 rfl (lv_room (Nat.le_of_ble_eq_true rfl)) dX1_multiply_66 ⟨Nat.le_of_ble_eq_true rfl, Nat.le_of_ble_eq_true rfl⟩) (fun H10 M10 e10 hM10 => ?_)
  have hS10 := lr_Sh hS9 e10 (Or.inr (by omega)) hM10
  have p3 := p3.set e10
  have hO10 : ∀ q, q < sz → H10[q]? = s.heap[q]? := fun q h => (e10.2.2 q (by omega)).trans (hO9 q h)
  have hz10 : H10.size = sz + 6 := e10.2.1.trans hz9
  have hX10 := hX.kept (H1 := H10) (by omega) (fun q hq => hO10 q (hlt q hq))
  refine lv_aload_n hx hb dX1_multiply_69 rfl (lv_at hl 3 rfl) ?_
  refine lr_getF hx hb hts hown hK (hX10.1) q112 dX1_multiply_70 ?_
  refine lv_iload_n hx hb dX1_multiply_73 rfl (lv_at hl 4 rfl) ?_
  refine lv_iconst (v := nI 3) hx hb dX1_multiply_74 (by decide) ?_
  refine lv_iand hx hb dX1_multiply_75 ?_
  rw [show (r) &&& (nI 3) = nI ρ from hr1]
  refine lv_aload hx hb dX1_multiply_76 (lv_at hl 0 rfl) ?_
  refine lr_aast (k := ρ) hx hb hK hX10.2.1 p3.1 rfl hρ dX1_multiply_78 (fun H11 e11 => ?_)
  have hR := hX10.put hlt hρ (by omega) (by omega) (by omega) p3 e11 (lr_sh_fair _)
  have hFF : F hF := hX.2.2.2.2.2.2.2.2.2.1
  have hS11 := lr_Sh hS10 e11 (Or.inl hFF) (lr_1 (k := ρ))
  subst hsz
  exact W.vret hx hb hr (fun t ht hW => ⟨rfl, by rw [ht]; exact ⟨by rw [e11.2.1]; omega, fun q h1 h2 => (e11.2.2 q (fun z => h2 (by rw [z]; exact hFF))).trans (hO10 q h1), hR⟩⟩) (fun q hq => hS11.2.2 q hq) dX1_multiply_79
set_option maxHeartbeats 4000000 in
set_option maxRecDepth 100000 in
theorem met_ladd (l : Launch) (G : lr_G) (h sz : Nat) (F : Nat → Prop) (g : Nat → Nat → Int32) (r u : Int32) (ρ π : Nat) (hρ : ρ < 4) (hr1 : (r) &&& (nI 3) = nI ρ) (hπ : π < 4) (hu : (u) &&& (nI 3) = nI π) : Met l yX1_add (ws_ yX1_add cX1_add 4 none) lr_rA (va_Pc [.ref h, .int r, .int u] (lr_B G (fun q => F q ∨ sz ≤ q) (fun H => lr_LR G h F g H ∧ H.size = sz))) (lr_Qv (lr_E1 G h F (va_up g ρ (lr_add (g ρ) (g π))))) 2 257 (fun q => F q ∨ sz ≤ q) := by
  refine lr_met (by decide) (Nat.le_of_ble_eq_true rfl) ?_
  intro p e s m below meth c hx hb hr hml hown hts hlocks hin hB ls hl
  obtain ⟨⟨hΦ, hsz⟩, hK, hT⟩ := hB
  obtain ⟨hF, tv, pa, ca, hX⟩ := hΦ
  have hl : lv_has ls 4 [(0, .ref h), (1, .int r), (2, .int u)] := hl
  have hlt : ∀ q, F q → q < sz := fun q hq => by rw [← hsz]; exact hX.2.2.2.2.2.2.2.2.2.2.2 q hq
  refine lv_aload_n hx hb dX1_add_0 rfl (lv_at hl 0 rfl) ?_
  refine lr_getF hx hb hts hown hK (hX.1) q112 dX1_add_1 ?_
  refine lv_iload_n hx hb dX1_add_4 rfl (lv_at hl 1 rfl) ?_
  refine lv_iconst (v := nI 3) hx hb dX1_add_5 (by decide) ?_
  refine lv_iand hx hb dX1_add_6 ?_
  rw [show (r) &&& (nI 3) = nI ρ from hr1]
  refine lr_aald (k := ρ) hx hb hK (hX.2.1) rfl hρ rfl dX1_add_7 ?_
  refine lr_a (va_runS (As := [.ref (pa ρ)]) (rest := []) ⟨hx, hb, hml, hown, hts⟩ (met_copy l G (pa ρ) (ca ρ) (sz) (g ρ) (hX.2.2.2.1 ρ hρ)) (va_cwS 1 hts (lw_S q22 q23 q1 q24) rfl rfl rfl (by decide +kernel) ⟨Nat.le_of_ble_eq_true rfl, Nat.le_of_ble_eq_true rfl⟩) (lr_preS ⟨hX.2.2.1 ρ hρ, hsz⟩ hK hT (va_S.rf (A := fun q => F q ∨ sz ≤ q)) (fun q h => Or.inr (by omega))) rfl rfl hl.1 rfl (lv_room (Nat.le_of_ble_eq_true rfl)) dX1_add_8 ⟨Nat.le_of_ble_eq_true rfl, Nat.le_of_ble_eq_true rfl⟩) (fun a1 H1 M1 E1 hM1 => ?_)
  obtain ⟨ea1, p1, z1, o1⟩ := E1
  have ea1 := ea1.symm
  subst ea1
  have hS1 := lr_Sc (A1 := fun q => sz ≤ q) (va_S.rf (A := fun q => F q ∨ sz ≤ q)) (by omega) (fun q h1 _ => o1 q (by omega)) (fun q h => Or.inr h) hM1
  have hX1 := hX.kept (H1 := H1) (by omega) (fun q hq => o1 q (hlt q hq))
  have hlp := (hX.2.2.2.2.2.2.2.2.2.2.1 π hπ)
  have hl1 := hlt _ hlp.1
  have hl2 := hlt _ hlp.2
  have hO1 : ∀ q, q < sz → H1[q]? = s.heap[q]? := o1
  have hz1 : H1.size = sz + 2 := z1
  refine lv_astore_n (lv' := [(3, .ref sz), (0, .ref h), (1, .int r), (2, .int u)]) hx hb dX1_add_11 rfl hl (by decide) rfl (fun ls hl => ?_)
  refine lv_aload_n hx hb dX1_add_12 rfl (lv_at hl 0 rfl) ?_
  refine lv_aload_n hx hb dX1_add_13 rfl (lv_at hl 1 rfl) ?_
  refine lr_getF hx hb hts hown hK (hX1.1) q112 dX1_add_14 ?_
  refine lv_iload_n hx hb dX1_add_17 rfl (lv_at hl 3 rfl) ?_
  refine lv_iconst (v := nI 3) hx hb dX1_add_18 (by decide) ?_
  refine lv_iand hx hb dX1_add_19 ?_
  rw [show (u) &&& (nI 3) = nI π from hu]
  refine lr_aald (k := π) hx hb hK (hX1.2.1) rfl hπ rfl dX1_add_20 ?_
  refine lr_v (va_runV (As := [.ref (pa π)]) (rest := []) ⟨hx, hb, hml, hown, hts⟩ (met_padd l G sz (sz + 1) (pa π) (ca π) (g ρ) (g π) (by omega) (by omega)) (cwV 1 hts (lw_V q91 q92 q93 q2 q94) rfl rfl rfl (by decide +kernel) ⟨Nat.le_of_ble_eq_true rfl, Nat.le_of_ble_eq_true rfl⟩) (lr_preV p1.1 rfl ⟨p1, hX1.2.2.1 π hπ⟩ hK hT hS1 (fun q h => Or.inr (by omega))) rfl rfl hl.1 rfl (lv_room (Nat.le_of_ble_eq_true rfl)) dX1_add_21 ⟨Nat.le_of_ble_eq_true rfl, Nat.le_of_ble_eq_true rfl⟩) (fun H2 M2 e2 hM2 => ?_)
  have hS2 := lr_Sh hS1 e2 (Or.inr (by omega)) hM2
  have p1 := p1.set e2
  have hO2 : ∀ q, q < sz → H2[q]? = s.heap[q]? := fun q h => (e2.2.2 q (by omega)).trans (hO1 q h)
  have hz2 : H2.size = sz + 2 := e2.2.1.trans hz1
  refine lv_aload_n hx hb dX1_add_24 rfl (lv_at hl 0 rfl) ?_
  refine lr_v (va_runV (As := []) (rest := []) ⟨hx, hb, hml, hown, hts⟩ (met_red l G sz (sz + 1) (lr_sum (g ρ) (g π))) (cwV 0 hts (lw_V q73 q59 q60 q2 q61) rfl rfl rfl (by decide +kernel) ⟨Nat.le_of_ble_eq_true rfl, Nat.le_of_ble_eq_true rfl⟩) (lr_preV p1.1 rfl p1 hK hT hS2 (fun q h => Or.inr (by omega))) rfl rfl hl.1 rfl (lv_room (Nat.le_of_ble_eq_true rfl)) dX1_add_25 ⟨Nat.le_of_ble_eq_true rfl, Nat.le_of_ble_eq_true rfl⟩) (fun H3 M3 e3 hM3 => ?_)
  have hS3 := lr_Sh hS2 e3 (Or.inr (by omega)) hM3
  have p1 := p1.set e3
  have hO3 : ∀ q, q < sz → H3[q]? = s.heap[q]? := fun q h => (e3.2.2 q (by omega)).trans (hO2 q h)
  have hz3 : H3.size = sz + 2 := e3.2.1.trans hz2
  refine lv_aload_n hx hb dX1_add_28 rfl (lv_at hl 0 rfl) ?_
  refine lr_v (va_runS (As := [.ref sz]) (rest := []) ⟨hx, hb, hml, hown, hts⟩ (met_fair l G sz (sz + 1) (lr_red (lr_sum (g ρ) (g π))) (lr_sh_red _)) (va_cwS 1 hts (lw_S q84 q85 q1 q86) rfl rfl rfl (by decide +kernel) ⟨Nat.le_of_ble_eq_true rfl, Nat.le_of_ble_eq_true rfl⟩) (lr_preS p1 hK hT hS3 (fun q h => Or.inr (by omega))) rfl rfl hl.1 rfl (lv_room (Nat.le_of_ble_eq_true rfl)) dX1_add_29 ⟨Nat.le_of_ble_eq_true rfl, Nat.le_of_ble_eq_true rfl⟩) (fun H4 M4 e4 hM4 => ?_)
  have hS4 := lr_Sh hS3 e4 (Or.inr (by omega)) hM4
  have p1 := p1.set e4
  have hO4 : ∀ q, q < sz → H4[q]? = s.heap[q]? := fun q h => (e4.2.2 q (by omega)).trans (hO3 q h)
  have hz4 : H4.size = sz + 2 := e4.2.1.trans hz3
  have hX10 := hX.kept (H1 := H4) (by omega) (fun q hq => hO4 q (hlt q hq))
  refine lv_aload_n hx hb dX1_add_32 rfl (lv_at hl 1 rfl) ?_
  refine lr_getF hx hb hts hown hK (hX10.1) q112 dX1_add_33 ?_
  refine lv_iload_n hx hb dX1_add_36 rfl (lv_at hl 2 rfl) ?_
  refine lv_iconst (v := nI 3) hx hb dX1_add_37 (by decide) ?_
  refine lv_iand hx hb dX1_add_38 ?_
  rw [show (r) &&& (nI 3) = nI ρ from hr1]
  refine lv_aload_n hx hb dX1_add_39 rfl (lv_at hl 0 rfl) ?_
  refine lr_aast (k := ρ) hx hb hK hX10.2.1 p1.1 rfl hρ dX1_add_40 (fun H11 e11 => ?_)
  have hR := hX10.put hlt hρ (by omega) (by omega) (by omega) p1 e11 (lr_sh_fair _)
  have hFF : F hF := hX.2.2.2.2.2.2.2.2.2.1
  have hS11 := lr_Sh hS4 e11 (Or.inl hFF) (lr_1 (k := ρ))
  subst hsz
  exact W.vret hx hb hr (fun t ht hW => ⟨rfl, by rw [ht]; exact ⟨by rw [e11.2.1]; omega, fun q h1 h2 => (e11.2.2 q (fun z => h2 (by rw [z]; exact hFF))).trans (hO4 q h1), hR⟩⟩) (fun q hq => hS11.2.2 q hq) dX1_add_41
end
section
/-! LatticeRing(), and the law's cell, three, same -/
/-- the constructor's Polys, i of them made -/
def lr_IN (G : lr_G) (H0 : Heap) (sz i : Nat) (H : Heap) : Prop := H.size = sz + 1 + 2 * i ∧ H[sz]? = some (lr_Q G (fun k => if k < i then some (sz + 1 + 2 * k) else none)) ∧ (∀ k, k < i → lr_PO G (sz + 1 + 2 * k) (sz + 2 + 2 * k) (fun _ => 0) H) ∧ ∀ q, q < sz → H[q]? = H0[q]?
theorem lr_IN.step {G : lr_G} {H0 H H1 H2 H3 : Heap} {sz i : Nat} (x : lr_IN G H0 sz i H) (z1 : H1.size = sz + 1 + 2 * i + 1) (o1 : ∀ q, q < sz + 1 + 2 * i → H1[q]? = H[q]?) (p : lr_PO G (sz + 1 + 2 * i) (sz + 2 + 2 * i) (fun _ => 0) H2) (z2 : H2.size = H1.size + 1) (o2 : ∀ q, q < H1.size → q ≠ sz + 1 + 2 * i → H2[q]? = H1[q]?) (e : lr_HS sz (lr_Q G (va_up (fun k => if k < i then some (sz + 1 + 2 * k) else none) i (some (sz + 1 + 2 * i)))) H2 H3) : lr_IN G H0 sz (i + 1) H3 := by
  obtain ⟨a1, a2, a3, a4⟩ := x
  have o : ∀ q, q < sz + 1 + 2 * i → q ≠ sz → H3[q]? = H[q]? := fun q h n => (e.2.2 q n).trans ((o2 q (by omega) (by omega)).trans (o1 q h))
  refine ⟨by rw [e.2.1]; omega, ?_, fun k hk => ?_, fun q hq => (o q (by omega) (by omega)).trans (a4 q hq)⟩
  · rw [e.1]
    congr 2
    funext k
    by_cases a : k = i
    · subst a
      rw [va_up_self, if_pos (by omega)]
    · rw [va_up_ne _ _ a]
      by_cases b : k < i
      · rw [if_pos b, if_pos (by omega)]
      · rw [if_neg b, if_neg (by omega)]
  · by_cases a : k = i
    · subst a
      exact p.kept (e.2.2 _ (by omega)) (e.2.2 _ (by omega))
    · exact (a3 k (by omega)).kept (o _ (by omega) (by omega)) (o _ (by omega) (by omega))
theorem lr_LR.mono {G : lr_G} {h : Nat} {F F' : Nat → Prop} {g : Nat → Nat → Int32} {H : Heap} (x : lr_LR G h F g H) (a : ∀ q, F q → F' q) (b : ∀ q, F' q → q < H.size) : lr_LR G h F' g H := by
  obtain ⟨hF, tv, pa, ca, a1, a2, a3, a4, a5, a6, a7, a8, a9, a10, a11, a12⟩ := x
  exact ⟨hF, tv, pa, ca, a1, a2, a3, a4, a5, a6, a7, a8, a _ a9, a _ a10, fun i hi => ⟨a _ (a11 i hi).1, a _ (a11 i hi).2⟩, b⟩
set_option maxHeartbeats 4000000 in
set_option maxRecDepth 100000 in
theorem met_rnew (l : Launch) (G : lr_G) (h sz : Nat) : Met l yX1_init (ws_ yX1_init cX1_init 1 none) lr_rI (va_Pc [.ref h] (lr_B G (fun q => q = h ∨ sz ≤ q) (fun H => va_at G.1 vwCl (h, .inr (0, [.null, .null])) H ∧ H.size = sz))) (lr_Qv (fun H H1 => H1.size = sz + 10 ∧ (∀ q, q < sz → q ≠ h → H1[q]? = H[q]?) ∧ lr_LR G h (fun q => q = h ∨ (sz ≤ q ∧ q < sz + 10)) (fun _ _ => 0) H1)) 10 1416 (fun q => q = h ∨ sz ≤ q) := by
  refine lr_met (by decide) (Nat.le_of_ble_eq_true rfl) ?_
  intro p e s m below meth c hx hb hr hml hown hts hlocks hin hB ls hl
  obtain ⟨⟨hΦ, hsz⟩, hK, hT⟩ := hB
  have hl : lv_has ls 1 [(0, .ref h)] := hl
  refine lv_aload_n hx hb dX1_init_0 rfl (lv_at hl 0 rfl) ?_
  refine W.objInit hx hb hown (hts _ q110) (hts _ q31) (hts _ q32) rfl (by rw [hml]; exact hl.1) rfl dX1_init_1 (Nat.le_of_ble_eq_true rfl) (Nat.le_of_ble_eq_true rfl) ?_
  refine W.eq (g2 := F0 m 4 ls []) rfl ?_
  refine lv_aload_n hx hb dX1_init_4 rfl (lv_at hl 0 rfl) ?_
  refine lv_iconst (v := nI 4) hx hb dX1_init_5 (by decide) ?_
  refine lr_newQa (a := sz) hx hb hts hsz hown q25 hK rfl (Nat.le_of_ble_eq_true rfl) (Nat.le_of_ble_eq_true rfl) dX1_init_6 (fun H0 e0 z0 o0 => ?_)
  have hI0 : lr_IN G s.heap sz 0 H0 := ⟨z0, e0, fun k hk => absurd hk (Nat.not_lt_zero k), o0⟩
  have hS0 := lr_Sn (A := fun q => q = h ∨ sz ≤ q) va_S.rf (by omega) (fun q hq => o0 q (by omega))
  refine lv_dup hx hb dX1_init_9 rfl ?_
  refine lv_iconst (v := nI 0) hx hb dX1_init_10 (by decide) ?_
  refine lr_newP (a := sz + 1 + 2 * 0) hx hb hts hI0.1 hown q25 hK (Nat.le_of_ble_eq_true rfl) (Nat.le_of_ble_eq_true rfl) dX1_init_11 (fun A0 ea0 za0 oa0 => ?_)
  have hSa0 := lr_Sn hS0 (by have := hI0.1; omega) (fun q hq => oa0 q (by have := hI0.1; omega))
  refine lv_dup hx hb dX1_init_14 rfl ?_
  refine lr_v (va_runI (As := []) (rest := [.ref (sz + 1 + 2 * 0), .int (nI 0), .ref sz, .ref sz, .ref h]) ⟨hx, hb, hml, hown, hts⟩ (met_pnew l G (sz + 1 + 2 * 0) (sz + 2 + 2 * 0) .null) (cwI 0 hts (lw_meth q29) rfl rfl rfl (hts _ q2) (hts _ q27) (hts _ q28) rfl (by decide +kernel) ⟨Nat.le_of_ble_eq_true rfl, Nat.le_of_ble_eq_true rfl⟩) (lr_preS ⟨ea0, by omega⟩ hK hT hSa0 (fun q h => Or.inr (by omega))) rfl rfl hl.1 rfl (lv_room (Nat.le_of_ble_eq_true rfl)) dX1_init_15 ⟨Nat.le_of_ble_eq_true rfl, Nat.le_of_ble_eq_true rfl⟩) (fun B0 L0 E0 hL0 => ?_)
  obtain ⟨pb0, zb0, ob0⟩ := E0
  have hSb0 := lr_Sc (A1 := fun q => q = sz + 1 + 2 * 0 ∨ sz + 2 + 2 * 0 ≤ q) hSa0 (by omega) (fun q h1 h2 => ob0 q h1 (fun z => h2 (Or.inl z))) (fun q h => Or.inr (by omega)) hL0
  refine lr_aast (k := 0) hx hb hK ((ob0 sz (by omega) (by omega)).trans ((oa0 sz (by omega)).trans hI0.2.1)) pb0.1 rfl (by omega) dX1_init_18 (fun H1 e1 => ?_)
  have hI1 := hI0.step za0 oa0 pb0 zb0 ob0 e1
  have hS1 := lr_Sh hSb0 e1 (Or.inr (by omega)) (lr_1 (k := 0))
  refine lv_dup hx hb dX1_init_19 rfl ?_
  refine lv_iconst (v := nI 1) hx hb dX1_init_20 (by decide) ?_
  refine lr_newP (a := sz + 1 + 2 * 1) hx hb hts hI1.1 hown q25 hK (Nat.le_of_ble_eq_true rfl) (Nat.le_of_ble_eq_true rfl) dX1_init_21 (fun A1 ea1 za1 oa1 => ?_)
  have hSa1 := lr_Sn hS1 (by have := hI1.1; omega) (fun q hq => oa1 q (by have := hI1.1; omega))
  refine lv_dup hx hb dX1_init_24 rfl ?_
  refine lr_v (va_runI (As := []) (rest := [.ref (sz + 1 + 2 * 1), .int (nI 1), .ref sz, .ref sz, .ref h]) ⟨hx, hb, hml, hown, hts⟩ (met_pnew l G (sz + 1 + 2 * 1) (sz + 2 + 2 * 1) .null) (cwI 0 hts (lw_meth q29) rfl rfl rfl (hts _ q2) (hts _ q27) (hts _ q28) rfl (by decide +kernel) ⟨Nat.le_of_ble_eq_true rfl, Nat.le_of_ble_eq_true rfl⟩) (lr_preS ⟨ea1, by omega⟩ hK hT hSa1 (fun q h => Or.inr (by omega))) rfl rfl hl.1 rfl (lv_room (Nat.le_of_ble_eq_true rfl)) dX1_init_25 ⟨Nat.le_of_ble_eq_true rfl, Nat.le_of_ble_eq_true rfl⟩) (fun B1 L1 E1 hL1 => ?_)
  obtain ⟨pb1, zb1, ob1⟩ := E1
  have hSb1 := lr_Sc (A1 := fun q => q = sz + 1 + 2 * 1 ∨ sz + 2 + 2 * 1 ≤ q) hSa1 (by omega) (fun q h1 h2 => ob1 q h1 (fun z => h2 (Or.inl z))) (fun q h => Or.inr (by omega)) hL1
  refine lr_aast (k := 1) hx hb hK ((ob1 sz (by omega) (by omega)).trans ((oa1 sz (by omega)).trans hI1.2.1)) pb1.1 rfl (by omega) dX1_init_28 (fun H2 e2 => ?_)
  have hI2 := hI1.step za1 oa1 pb1 zb1 ob1 e2
  have hS2 := lr_Sh hSb1 e2 (Or.inr (by omega)) (lr_1 (k := 1))
  refine lv_dup hx hb dX1_init_29 rfl ?_
  refine lv_iconst (v := nI 2) hx hb dX1_init_30 (by decide) ?_
  refine lr_newP (a := sz + 1 + 2 * 2) hx hb hts hI2.1 hown q25 hK (Nat.le_of_ble_eq_true rfl) (Nat.le_of_ble_eq_true rfl) dX1_init_31 (fun A2 ea2 za2 oa2 => ?_)
  have hSa2 := lr_Sn hS2 (by have := hI2.1; omega) (fun q hq => oa2 q (by have := hI2.1; omega))
  refine lv_dup hx hb dX1_init_34 rfl ?_
  refine lr_v (va_runI (As := []) (rest := [.ref (sz + 1 + 2 * 2), .int (nI 2), .ref sz, .ref sz, .ref h]) ⟨hx, hb, hml, hown, hts⟩ (met_pnew l G (sz + 1 + 2 * 2) (sz + 2 + 2 * 2) .null) (cwI 0 hts (lw_meth q29) rfl rfl rfl (hts _ q2) (hts _ q27) (hts _ q28) rfl (by decide +kernel) ⟨Nat.le_of_ble_eq_true rfl, Nat.le_of_ble_eq_true rfl⟩) (lr_preS ⟨ea2, by omega⟩ hK hT hSa2 (fun q h => Or.inr (by omega))) rfl rfl hl.1 rfl (lv_room (Nat.le_of_ble_eq_true rfl)) dX1_init_35 ⟨Nat.le_of_ble_eq_true rfl, Nat.le_of_ble_eq_true rfl⟩) (fun B2 L2 E2 hL2 => ?_)
  obtain ⟨pb2, zb2, ob2⟩ := E2
  have hSb2 := lr_Sc (A1 := fun q => q = sz + 1 + 2 * 2 ∨ sz + 2 + 2 * 2 ≤ q) hSa2 (by omega) (fun q h1 h2 => ob2 q h1 (fun z => h2 (Or.inl z))) (fun q h => Or.inr (by omega)) hL2
  refine lr_aast (k := 2) hx hb hK ((ob2 sz (by omega) (by omega)).trans ((oa2 sz (by omega)).trans hI2.2.1)) pb2.1 rfl (by omega) dX1_init_38 (fun H3 e3 => ?_)
  have hI3 := hI2.step za2 oa2 pb2 zb2 ob2 e3
  have hS3 := lr_Sh hSb2 e3 (Or.inr (by omega)) (lr_1 (k := 2))
  refine lv_dup hx hb dX1_init_39 rfl ?_
  refine lv_iconst (v := nI 3) hx hb dX1_init_40 (by decide) ?_
  refine lr_newP (a := sz + 1 + 2 * 3) hx hb hts hI3.1 hown q25 hK (Nat.le_of_ble_eq_true rfl) (Nat.le_of_ble_eq_true rfl) dX1_init_41 (fun A3 ea3 za3 oa3 => ?_)
  have hSa3 := lr_Sn hS3 (by have := hI3.1; omega) (fun q hq => oa3 q (by have := hI3.1; omega))
  refine lv_dup hx hb dX1_init_44 rfl ?_
  refine lr_v (va_runI (As := []) (rest := [.ref (sz + 1 + 2 * 3), .int (nI 3), .ref sz, .ref sz, .ref h]) ⟨hx, hb, hml, hown, hts⟩ (met_pnew l G (sz + 1 + 2 * 3) (sz + 2 + 2 * 3) .null) (cwI 0 hts (lw_meth q29) rfl rfl rfl (hts _ q2) (hts _ q27) (hts _ q28) rfl (by decide +kernel) ⟨Nat.le_of_ble_eq_true rfl, Nat.le_of_ble_eq_true rfl⟩) (lr_preS ⟨ea3, by omega⟩ hK hT hSa3 (fun q h => Or.inr (by omega))) rfl rfl hl.1 rfl (lv_room (Nat.le_of_ble_eq_true rfl)) dX1_init_45 ⟨Nat.le_of_ble_eq_true rfl, Nat.le_of_ble_eq_true rfl⟩) (fun B3 L3 E3 hL3 => ?_)
  obtain ⟨pb3, zb3, ob3⟩ := E3
  have hSb3 := lr_Sc (A1 := fun q => q = sz + 1 + 2 * 3 ∨ sz + 2 + 2 * 3 ≤ q) hSa3 (by omega) (fun q h1 h2 => ob3 q h1 (fun z => h2 (Or.inl z))) (fun q h => Or.inr (by omega)) hL3
  refine lr_aast (k := 3) hx hb hK ((ob3 sz (by omega) (by omega)).trans ((oa3 sz (by omega)).trans hI3.2.1)) pb3.1 rfl (by omega) dX1_init_48 (fun H4 e4 => ?_)
  have hI4 := hI3.step za3 oa3 pb3 zb3 ob3 e4
  have hS4 := lr_Sh hSb3 e4 (Or.inr (by omega)) (lr_1 (k := 3))
  have hhl : h < sz := by rw [← hsz]; exact hΦ.lt
  obtain ⟨y1, y2, y3, y4⟩ := hI4
  refine lr_putF (C := RX1) (T := TX1) (N := 2) (ci := 0) (ty := .array (.object "Poly")) (v := .ref sz) hx hb hts in_X1 tyX1 tyX1_ok nmX1 hown hK (hΦ.kept (y4 h hhl)) rfl 0 (by decide) q112 (fun _ h9 => h9) rfl hin rfl (by decide +kernel) rfl rfl (Nat.le_of_ble_eq_true rfl) dX1_init_49 (fun H5 j5 e5 z5 o5 => ?_)
  have hS5 := lr_Sc (A1 := fun q => q = h) hS4 (by omega) (fun q _ n => o5 q n) (fun q z => Or.inl z) (lr_1 (k := j5))
  refine lv_aload_n hx hb dX1_init_52 rfl (lv_at hl 0 rfl) ?_
  refine lv_sipush (v := nI 384) hx hb dX1_init_53 (by decide) ?_
  refine lr_newBa (a := sz + 9) hx hb hts (by omega) q119 (N := 384) rfl (by omega) (Nat.le_of_ble_eq_true rfl) (Nat.le_of_ble_eq_true rfl) dX1_init_56 (fun H6 z6 o6 => ?_)
  have hS6 := lr_Sn hS5 (by omega) (fun q hq => o6 q (by omega))
  refine lr_putF (C := RX1) (T := TX1) (N := 2) (ci := 0) (ty := .array .byte) (v := .ref (sz + 9)) hx hb hts in_X1 tyX1 tyX1_ok nmX1 hown hK (e5.kept (o6 h (by omega))) rfl 1 (by decide) q113 (fun _ h9 => h9) rfl hin rfl (by decide +kernel) rfl rfl (Nat.le_of_ble_eq_true rfl) dX1_init_58 (fun H7 j7 e7 z7 o7 => ?_)
  have hS7 := lr_Sc (A1 := fun q => q = h) hS6 (by omega) (fun q _ n => o7 q n) (fun q z => Or.inl z) (lr_1 (k := j7))
  have hk : ∀ q, q < sz + 9 → q ≠ h → H7[q]? = H4[q]? := fun q h1 h2 => (o7 q h2).trans ((o6 q h1).trans (o5 q h2))
  have hz : H7.size = sz + 10 := by omega
  have e7 : va_at G.1 vwCl (h, .inr (0, [.ref sz, .ref (sz + 9)])) H7 := e7
  have hR : lr_LR G h (fun q => q = h ∨ (sz ≤ q ∧ q < sz + 10)) (fun _ _ => 0) H7 := by
    refine ⟨sz, .ref (sz + 9), fun i => sz + 1 + 2 * i, fun i => sz + 2 + 2 * i, e7, ?_, fun i hi => ?_, fun i hi => lr_sh_0, by omega, fun i hi => ⟨?_, ?_, ?_⟩, fun i j hi hj => ?_, fun i j hi hj hij => ?_, Or.inl rfl, Or.inr ⟨Nat.le_refl _, by omega⟩, fun i hi => ⟨Or.inr ⟨?_, ?_⟩, Or.inr ⟨?_, ?_⟩⟩, fun q hq => by omega⟩
    · rw [hk sz (by omega) (by omega), y2]
      congr 1
    · exact (y3 i hi).kept (hk _ (by omega) (by omega)) (hk _ (by omega) (by omega))
    all_goals (dsimp only; omega)
  exact W.vret hx hb hr (fun t ht hW => ⟨rfl, by rw [ht]; exact ⟨hz, fun q h1 h2 => (hk q (by omega) h2).trans (y4 q h1), hR⟩⟩) (fun q hq => hS7.2.2 q hq) dX1_init_61
def lr_cl (xs : Nat → Int32) (L k : Nat) : Int32 := if k < L then xs k else 0
section LRX
variable {p : Program} {l : Launch} {e : Env} {R : Room} {s : State} {m : MethodId} {args : Array Value} {below : List Frame} {meth : Method} {c : Code} {H : Heap} {locs : List Loc} {cells slots : Nat} {Q : State → Prop}
variable {cc : ByteArray} {pc : Nat} {ls : Array Slot} {rest : List Value}
theorem lr_xlt {b L : Nat} {xs : Nat → Int32} {U : State} {H : Heap} (h : va_X b L xs U H) : b < H.size := by
  obtain ⟨scr, h1, -⟩ := h
  exact (Array.getElem?_eq_some_iff.mp h1).1
/-- an int of the script -/
theorem lr_sld (hx : p.tables.exec = Jvm.exec) (hb : c.code = cc) {A : Nat → Prop} {b L k : Nat} {xs : Nat → Int32} (hX : va_X b L xs s s.heap) (hbA : ¬ A b) (hS : va_S A s.heap H locs) {i : Int32} (hi : i = nI k) (hk : k < L) (hL : L < 2 ^ 31) (hdg : decode cc pc = .ok (.iaload, 1))
    (kk : W p l e R s m args below meth c H locs cells slots Q (F0 m (pc + 1) ls (.int (xs k) :: rest))) : W p l e R s m args below meth c H locs cells slots Q (F0 m pc ls (.int i :: .ref b :: rest)) := by
  subst hi
  refine va_sld hx hb hX (lr_xlt hX) hbA hS (vp_in_nI hk hL) hdg ?_
  rw [nI_clamp (Nat.lt_trans hk hL)]
  exact kk
end LRX
set_option maxHeartbeats 4000000 in
set_option maxRecDepth 100000 in
theorem met_cell (l : Launch) (b L k : Nat) (xs : Nat → Int32) (hL : L < 2 ^ 31) (hk : k < 2 ^ 31) : Met l yX0_cell (ws_ yX0_cell cX0_cell 2 (some .int)) lr_r0 (va_Pc [.ref b, .int (nI k)] (fun U => va_X b L xs U U.heap)) (vp_Si (fun r => r = lr_cl xs L k)) 0 0 (fun _ => False) := by
  refine lr_met (by decide) (Nat.le_of_ble_eq_true rfl) ?_
  intro p e s m below meth c hx hb hr hml hown hts hlocks hin hB ls hl
  have hl : lv_has ls 2 [(0, .ref b), (1, .int (nI k))] := hl
  refine lv_iload_n hx hb dX0_cell_0 rfl (lv_at hl 1 rfl) ?_
  refine lv_aload_n hx hb dX0_cell_1 rfl (lv_at hl 0 rfl) ?_
  refine va_slen hx hb hB (lr_xlt hB) (fun h => h) (va_S.rf (A := fun _ => False)) dX0_cell_2 ?_
  refine lv_icmp_ge (tgt := 12) hx hb dX0_cell_3 (by decide) (fun c1 => ?_) (fun c1 => ?_)
  · have hkL : ¬ k < L := fun z => absurd c1 (nI_ge z hL)
    refine lv_iconst (v := nI 0) hx hb dX0_cell_12 (by decide) ?_
    exact W.iret hx hb hr (fun t ht hW => ⟨_, rfl, by unfold lr_cl; rw [if_neg hkL]; rfl, ht⟩) (fun _ h => by cases h) dX0_cell_13
  · have hkL : k < L := Nat.not_le.mp (fun z => c1 (nI_le z hk))
    refine lv_aload_n hx hb dX0_cell_6 rfl (lv_at hl 0 rfl) ?_
    refine lv_iload_n hx hb dX0_cell_7 rfl (lv_at hl 1 rfl) ?_
    refine lr_sld hx hb hB (A := fun _ => False) (fun h => h) va_S.rf rfl hkL hL dX0_cell_8 ?_
    refine lv_goto (tgt := 13) hx hb dX0_cell_9 (by decide) ?_
    exact W.iret hx hb hr (fun t ht hW => ⟨_, rfl, by unfold lr_cl; rw [if_pos hkL], ht⟩) (fun _ h => by cases h) dX0_cell_13
theorem lr_and3 {r : Nat} (h : r < 4) : (nI r) &&& (nI 3) = nI r := by
  rw [pk_andN (by omega) 2 (by decide), Nat.mod_eq_of_lt h]
theorem lr_and255 {r : Nat} (h : r < 256) : (nI r) &&& (nI 255) = nI r := by
  rw [pk_andN (by omega) 8 (by decide), Nat.mod_eq_of_lt h]
abbrev lr_rS : Room := { frames := 2, cells := 0, slots := 0, locals := 44 }
set_option maxHeartbeats 4000000 in
set_option maxRecDepth 100000 in
/-- same, of two that are the same -/
theorem met_same (l : Launch) (G : lr_G) (h1 h2 : Nat) (F1 F2 : Nat → Prop) (g1 g2 : Nat → Nat → Int32) (ρ π : Nat) (hρ : ρ < 4) (hπ : π < 4) (heq : ∀ i, i < 256 → g1 ρ i = g2 π i) : Met l yX0_same (ws_ yX0_same cX0_same 5 (some .boolean)) lr_rS (va_Pc [.ref h1, .int (nI ρ), .ref h2, .int (nI π)] (lr_B G (fun _ => False) (fun H => lr_LR G h1 F1 g1 H ∧ lr_LR G h2 F2 g2 H))) (vp_Si (fun z => z = 1)) 0 0 (fun _ => False) := by
  refine lr_met (by decide) (Nat.le_of_ble_eq_true rfl) ?_
  intro p e s m below meth c hx hb hr hml hown hts hlocks hin hB ls hl
  obtain ⟨⟨hR1, hR2⟩, hK, hT⟩ := hB
  have hl : lv_has ls 5 [(0, .ref h1), (1, .int (nI ρ)), (2, .ref h2), (3, .int (nI π))] := hl
  refine lv_iconst (v := nI 0) hx hb dX0_same_0 (by decide) ?_
  refine lv_istore (lv' := [(4, .int (nI 0)), (0, .ref h1), (1, .int (nI ρ)), (2, .ref h2), (3, .int (nI π))]) hx hb dX0_same_1 hl (by decide) rfl (fun ls hl => ?_)
  refine lr_for (fun i H locs ls => H = s.heap ∧ locs = [] ∧ lv_has ls 5 [(0, .ref h1), (1, .int (nI ρ)), (2, .ref h2), (3, .int (nI π)), (4, .int (nI i))]) 256 ?_ ?_ 0 (Nat.zero_le _) ⟨rfl, rfl, lv_sub hl [1, 2, 3, 4, 0] rfl⟩
  · intro H locs ls hI
    obtain ⟨rfl, rfl, hl⟩ := hI
    refine lv_iload hx hb dX0_same_3 (lv_at hl 4 rfl) ?_
    refine lv_sipush (v := nI 256) hx hb dX0_same_5 (by decide) ?_
    refine lr_ge_t (tgt := 36) hx hb dX0_same_8 (by decide) (Int32.le_refl _) ?_
    refine lv_iconst (v := nI 1) hx hb dX0_same_36 (by decide) ?_
    exact W.zret hx hb hr rfl (fun t ht hW => ⟨_, rfl, rfl, ht⟩) (fun _ h => by cases h) dX0_same_37
  · intro i hi H locs ls hI ih
    obtain ⟨rfl, rfl, hl⟩ := hI
    refine lv_iload hx hb dX0_same_3 (lv_at hl 4 rfl) ?_
    refine lv_sipush (v := nI 256) hx hb dX0_same_5 (by decide) ?_
    refine lr_ge_f (tgt := 36) hx hb dX0_same_8 (by decide) (nI_ge (by omega) (by omega)) ?_
    refine lv_aload_n hx hb dX0_same_11 rfl (lv_at hl 0 rfl) ?_
    refine lv_iload_n hx hb dX0_same_12 rfl (lv_at hl 1 rfl) ?_
    refine lv_iload hx hb dX0_same_13 (lv_at hl 4 rfl) ?_
    refine lr_i (va_runV (As := [.int (nI ρ), .int (nI i)]) (rest := []) ⟨hx, hb, hml, hown, hts⟩ (met_coef l G h1 F1 g1 (nI ρ) (nI i) ρ i (hρ) (lr_and3 (hρ)) (hi) (lr_and255 (hi))) (cwV 2 hts (lw_V q95 q96 q97 q1 q98) rfl rfl rfl (by decide +kernel) ⟨Nat.le_of_ble_eq_true rfl, Nat.le_of_ble_eq_true rfl⟩) (lr_preV hR1.at.choose_spec rfl hR1 hK hT (va_S.rf (A := fun _ => False)) (fun q h => h)) rfl rfl hl.1 rfl (lv_room (Nat.le_of_ble_eq_true rfl)) dX0_same_15 ⟨Nat.le_of_ble_eq_true rfl, Nat.le_of_ble_eq_true rfl⟩) ?_
    refine lv_aload_n hx hb dX0_same_18 rfl (lv_at hl 2 rfl) ?_
    refine lv_iload_n hx hb dX0_same_19 rfl (lv_at hl 3 rfl) ?_
    refine lv_iload hx hb dX0_same_20 (lv_at hl 4 rfl) ?_
    refine lr_i (va_runV (As := [.int (nI π), .int (nI i)]) (rest := [.int (g1 ρ i)]) ⟨hx, hb, hml, hown, hts⟩ (met_coef l G h2 F2 g2 (nI π) (nI i) π i (hπ) (lr_and3 (hπ)) (hi) (lr_and255 (hi))) (cwV 2 hts (lw_V q95 q96 q97 q1 q98) rfl rfl rfl (by decide +kernel) ⟨Nat.le_of_ble_eq_true rfl, Nat.le_of_ble_eq_true rfl⟩) (lr_preV hR2.at.choose_spec rfl hR2 hK hT (va_S.rf (A := fun _ => False)) (fun q h => h)) rfl rfl hl.1 rfl (lv_room (Nat.le_of_ble_eq_true rfl)) dX0_same_22 ⟨Nat.le_of_ble_eq_true rfl, Nat.le_of_ble_eq_true rfl⟩) ?_
    refine lr_eq_t (tgt := 30) hx hb dX0_same_25 (by decide) (heq i hi) ?_
    refine lv_iinc (v := nI (i + 1)) (lv' := [(4, .int (nI (i + 1))), (0, .ref h1), (1, .int (nI ρ)), (2, .ref h2), (3, .int (nI π))]) hx hb dX0_same_30 hl (k := 4) rfl (lr_inc _) (by decide) rfl (fun ls hl => ?_)
    refine lv_goto (tgt := 3) hx hb dX0_same_33 (by decide) ?_
    exact ih _ _ _ ⟨rfl, rfl, lv_sub hl [1, 2, 3, 4, 0] rfl⟩
/-- the three polynomials as the script lays them in -/
def lr_g3 (xs : Nat → Int32) (L r : Nat) : Nat → Nat → Int32 := fun j => if j < r then lr_spr (lr_cl xs L (2 * j)) (lr_cl xs L (2 * j + 1)) else fun _ => 0
theorem lr_g3_1 {xs : Nat → Int32} {L r : Nat} : va_up (lr_g3 xs L r) r (lr_spr (lr_cl xs L (2 * r)) (lr_cl xs L (2 * r + 1))) = lr_g3 xs L (r + 1) := by
  funext j
  by_cases a : j = r
  · subst a
    rw [va_up_self]
    unfold lr_g3
    rw [if_pos (by omega)]
  · rw [va_up_ne _ _ a]
    unfold lr_g3
    by_cases b : j < r
    · rw [if_pos b, if_pos (by omega)]
    · rw [if_neg b, if_neg (by omega)]
def lr_kp (t : Int32) : Nat := t.toBitVec.toNat % 2 ^ 8
theorem lr_kp_lt (t : Int32) : lr_kp t < 256 := Nat.mod_lt _ (by decide)
theorem lr_kp_eq (t : Int32) : (t) &&& (nI 255) = nI (lr_kp t) := pk_and t 8 (by decide)
def lr_put1 (xs : Nat → Int32) (n : Nat) (g : Nat → Nat → Int32) : Nat → Nat → Int32 := va_up g ((3 + n) % 2) (upd (g ((3 + n) % 2)) (lr_kp (xs (6 + 2 * n))) (lr_pv (xs (6 + 2 * n + 1))))
def lr_puts (xs : Nat → Int32) : Nat → (Nat → Nat → Int32) → Nat → Nat → Int32
  | 0, g => g
  | n + 1, g => lr_put1 xs n (lr_puts xs n g)
def lr_T3 (xs : Nat → Int32) (L : Nat) : Nat → Nat → Int32 := va_up (lr_puts xs ((L - 6) / 2) (lr_g3 xs L 3)) 3 (lr_spr 0 0)
theorem lr_bit {n : Nat} (h : n < 1000) : ((nI (6 + 2 * n)) >>> ((nI 1) &&& 31)) &&& (nI 1) = nI ((3 + n) % 2) := by
  rw [pk_shrN (by omega) _ 1 (by decide), pk_andN (by omega) 1 (by decide), show (6 + 2 * n) / 2 ^ 1 % 2 ^ 1 = (3 + n) % 2 by omega]
/-- a start that also holds the script -/
def lr_BX (b L : Nat) (xs : Nat → Int32) (G : lr_G) (A : Nat → Prop) (Φ : Heap → Prop) (U : State) : Prop := lr_B G A Φ U ∧ va_X b L xs U U.heap
theorem lr_BX.preS {b L : Nat} {xs : Nat → Int32} {G : lr_G} {A A0 : Nat → Prop} {Φ : Heap → Prop} {As : List Value} {s : State} {H : Heap} {locs : List Loc} (hX : va_X b L xs s s.heap) (hbA : ¬ A0 b) (hΦ : Φ H) (hK : lr_K G s) (hT : lr_T A0 s s.heap) (hS : va_S A0 s.heap H locs) (hA : ∀ q, A q → A0 q) : PreS s H (va_Pc As (lr_BX b L xs G A Φ)) As := by
  refine ⟨fun a U g mk q => ?_, fun U hU hW => ⟨rfl, (lr_B.mk (As := As) hΦ hK hT hS hA U hU hW).2, ?_⟩⟩
  · obtain ⟨q0, q1, q2⟩ := q
    exact ⟨q0, (lr_B.blind (As := As) a U g mk ⟨q0, q1⟩).2, va_X.moved (u := U) (U := U.calling g mk a) (Vm.Alike.refl U.vm) q2⟩
  · rw [hU]
    exact (hX.kept (hS.2.1 b (lr_xlt hX) hbA)).moved hW.alike
theorem lr_xpre {b L : Nat} {xs : Nat → Int32} {A0 : Nat → Prop} {As : List Value} {s : State} {H : Heap} {locs : List Loc} (hX : va_X b L xs s s.heap) (hbA : ¬ A0 b) (hS : va_S A0 s.heap H locs) : PreS s H (va_Pc As (fun U => va_X b L xs U U.heap)) As := by
  refine ⟨fun a U g mk q => ?_, fun U hU hW => ⟨rfl, ?_⟩⟩
  · obtain ⟨q0, q2⟩ := q
    exact ⟨q0, va_X.moved (u := U) (U := U.calling g mk a) (Vm.Alike.refl U.vm) q2⟩
  · show va_X b L xs U U.heap
    rw [hU]
    exact (hX.kept (hS.2.1 b (lr_xlt hX) hbA)).moved hW.alike
abbrev lr_rT : Room := { frames := 3, cells := 11, slots := 1418, locals := 52 }
set_option maxHeartbeats 4000000 in
set_option maxRecDepth 100000 in
/-- three: a new LatticeRing, laid as the script says -/
theorem met_three (l : Launch) (G : lr_G) (b L sz : Nat) (xs : Nat → Int32) (hL : L ≤ 24) (hb1 : b < sz) : Met l yX0_three (ws_ yX0_three cX0_three 3 (some (.object "LatticeRing"))) lr_rT (va_Pc [.ref b] (lr_BX b L xs G (fun q => sz ≤ q) (fun H => H.size = sz))) (lr_Qa (fun a H H1 => a = sz ∧ H1.size = sz + 11 ∧ (∀ q, q < sz → H1[q]? = H[q]?) ∧ lr_LR G sz (fun q => sz ≤ q ∧ q < sz + 11) (lr_T3 xs L) H1)) 11 1418 (fun q => sz ≤ q) := by
  refine lr_met (by decide) (Nat.le_of_ble_eq_true rfl) ?_
  intro p e s m below meth c hx hb hr hml hown hts hlocks hin hB ls hl
  obtain ⟨⟨hsz, hK, hT⟩, hXs⟩ := hB
  have hl : lv_has ls 3 [(0, .ref b)] := hl
  have hbA : ¬ sz ≤ b := Nat.not_le.mpr hb1
  have hL31 : L < 2 ^ 31 := by omega
  refine lr_newR (a := sz) hx hb hts hsz hown q105 hK (Nat.le_of_ble_eq_true rfl) (Nat.le_of_ble_eq_true rfl) dX0_three_0 (fun H1 e1 z1 o1 => ?_)
  refine lv_dup hx hb dX0_three_3 rfl ?_
  have hS1 := lr_Sn (A := fun q => sz ≤ q) va_S.rf (by omega) (fun q hq => o1 q (by omega))
  refine lr_v (va_runI (As := []) (rest := [.ref sz]) ⟨hx, hb, hml, hown, hts⟩ (met_rnew l G sz (sz + 1)) (cwI 0 hts (lw_meth q109) rfl rfl rfl (hts _ q1) (hts _ q107) (hts _ q108) rfl (by decide +kernel) ⟨Nat.le_of_ble_eq_true rfl, Nat.le_of_ble_eq_true rfl⟩) (lr_preS ⟨e1, z1⟩ hK hT hS1 (fun q h => by omega)) rfl rfl hl.1 rfl (lv_room (Nat.le_of_ble_eq_true rfl)) dX0_three_4 ⟨Nat.le_of_ble_eq_true rfl, Nat.le_of_ble_eq_true rfl⟩) (fun H2 M2 E2 hM2 => ?_)
  obtain ⟨z2, o2, hR⟩ := E2
  have hS2 := lr_Sc (A1 := fun q => q = sz ∨ sz + 1 ≤ q) hS1 (by omega) (fun q h1 h2 => o2 q (by omega) (fun z => h2 (Or.inl z))) (fun q h => by omega) hM2
  have hR := hR.mono (F' := (fun q => sz ≤ q ∧ q < sz + 11)) (fun q h => by omega) (fun q h => by omega)
  have hO : ∀ q, q < sz → H2[q]? = s.heap[q]? := fun q h => (o2 q (by omega) (by omega)).trans (o1 q h)
  refine lv_astore_n (lv' := [(1, .ref sz), (0, .ref b)]) hx hb dX0_three_7 rfl hl (by decide) rfl (fun ls hl => ?_)
  refine lv_iconst (v := nI 0) hx hb dX0_three_8 (by decide) ?_
  refine lv_istore_n (lv' := [(2, .int (nI 0)), (1, .ref sz), (0, .ref b)]) hx hb dX0_three_9 rfl hl (by decide) rfl (fun ls hl => ?_)
  refine lr_for (fun r H locs ls => lr_LR G sz (fun q => sz ≤ q ∧ q < sz + 11) (lr_g3 xs L r) H ∧ H.size = sz + 11 ∧ (∀ q, q < sz → H[q]? = s.heap[q]?) ∧ va_S (fun q => sz ≤ q) s.heap H locs ∧ lv_has ls 3 [(0, .ref b), (1, .ref sz), (2, .int (nI r))]) 3 ?_ ?_ 0 (Nat.zero_le _) ⟨hR.to (fun i _ => rfl), z2, hO, hS2, lv_sub hl [2, 1, 0] rfl⟩
  · intro H locs ls hI
    obtain ⟨hR, hz, hO, hS, hl⟩ := hI
    refine lv_iload_n hx hb dX0_three_10 rfl (lv_at hl 2 rfl) ?_
    refine lv_iconst (v := nI 3) hx hb dX0_three_11 (by decide) ?_
    refine lr_ge_t (tgt := 42) hx hb dX0_three_12 (by decide) (Int32.le_refl _) ?_
    refine lv_bipush (v := nI 6) hx hb dX0_three_42 (by decide) ?_
    refine lv_istore_n (lv' := [(2, .int (nI 6)), (0, .ref b), (1, .ref sz)]) hx hb dX0_three_44 rfl hl (by decide) rfl (fun ls hl => ?_)
    refine lr_for (fun n H locs ls => lr_LR G sz (fun q => sz ≤ q ∧ q < sz + 11) (lr_puts xs n (lr_g3 xs L 3)) H ∧ H.size = sz + 11 ∧ (∀ q, q < sz → H[q]? = s.heap[q]?) ∧ va_S (fun q => sz ≤ q) s.heap H locs ∧ lv_has ls 3 [(0, .ref b), (1, .ref sz), (2, .int (nI (6 + 2 * n)))]) ((L - 6) / 2) ?_ ?_ 0 (Nat.zero_le _) ⟨hR, hz, hO, hS, lv_sub hl [1, 2, 0] rfl⟩
    · intro H locs ls hI
      obtain ⟨hR, hz, hO, hS, hl⟩ := hI
      refine lv_iload_n hx hb dX0_three_45 rfl (lv_at hl 2 rfl) ?_
      refine lv_iconst (v := nI 1) hx hb dX0_three_46 (by decide) ?_
      refine lv_iadd hx hb dX0_three_47 ?_
      rw [show (nI (6 + 2 * ((L - 6) / 2))) + (nI 1) = nI (6 + 2 * ((L - 6) / 2) + 1) from nI_add _ _]
      refine lv_aload_n hx hb dX0_three_48 rfl (lv_at hl 0 rfl) ?_
      refine va_slen hx hb hXs (lr_xlt hXs) hbA hS dX0_three_49 ?_
      refine lr_ge_t (tgt := 76) hx hb dX0_three_50 (by decide) (nI_le (by omega) (by omega)) ?_
      refine lv_aload_n hx hb dX0_three_76 rfl (lv_at hl 1 rfl) ?_
      refine lv_iconst (v := nI 3) hx hb dX0_three_77 (by decide) ?_
      refine lv_iconst (v := nI 0) hx hb dX0_three_78 (by decide) ?_
      refine lv_iconst (v := nI 0) hx hb dX0_three_79 (by decide) ?_
      refine lr_v (va_runV (As := [.int (nI 3), .int (nI 0), .int (nI 0)]) (rest := []) ⟨hx, hb, hml, hown, hts⟩ (met_spread l G sz (fun q => sz ≤ q ∧ q < sz + 11) (lr_puts xs ((L - 6) / 2) (lr_g3 xs L 3)) (nI 3) (nI 0) (nI 0) 3 (by omega) (lr_and3 (by omega))) (cwV 3 hts (lw_V q14 q15 q16 q1 q17) rfl rfl rfl (by decide +kernel) ⟨Nat.le_of_ble_eq_true rfl, Nat.le_of_ble_eq_true rfl⟩) (lr_preV hR.at.choose_spec rfl hR hK hT hS (fun q h => h.1)) rfl rfl hl.1 rfl (lv_room (Nat.le_of_ble_eq_true rfl)) dX0_three_80 ⟨Nat.le_of_ble_eq_true rfl, Nat.le_of_ble_eq_true rfl⟩) (fun H1 M1 e1 hM1 => ?_)
      obtain ⟨z1, o1, hR1⟩ := e1
      have hS1 := lr_Sc (A1 := (fun q => sz ≤ q ∧ q < sz + 11)) hS (by omega) (fun q _ n => o1 q n) (fun q h => h.1) hM1
      refine lv_aload_n hx hb dX0_three_83 rfl (lv_at hl 1 rfl) ?_
      exact W.aret hx hb hr (Or.inl ⟨_, rfl⟩) (Or.inr ⟨_, rfl⟩) (fun t ht hW => ⟨_, rfl, rfl, by rw [ht]; exact ⟨z1.trans hz, fun q h => (o1 q (by omega)).trans (hO q h), hR1⟩⟩) (fun q hq => hS1.2.2 q hq) dX0_three_84
    · intro n hn H locs ls hI ih
      obtain ⟨hR, hz, hO, hS, hl⟩ := hI
      refine lv_iload_n hx hb dX0_three_45 rfl (lv_at hl 2 rfl) ?_
      refine lv_iconst (v := nI 1) hx hb dX0_three_46 (by decide) ?_
      refine lv_iadd hx hb dX0_three_47 ?_
      rw [show (nI (6 + 2 * n)) + (nI 1) = nI (6 + 2 * n + 1) from nI_add _ _]
      refine lv_aload_n hx hb dX0_three_48 rfl (lv_at hl 0 rfl) ?_
      refine va_slen hx hb hXs (lr_xlt hXs) hbA hS dX0_three_49 ?_
      refine lr_ge_f (tgt := 76) hx hb dX0_three_50 (by decide) (nI_ge (by omega) (by omega)) ?_
      refine lv_aload_n hx hb dX0_three_53 rfl (lv_at hl 1 rfl) ?_
      refine lv_iload_n hx hb dX0_three_54 rfl (lv_at hl 2 rfl) ?_
      refine lv_iconst (v := nI 1) hx hb dX0_three_55 (by decide) ?_
      refine lv_ishr hx hb dX0_three_56 ?_
      refine lv_iconst (v := nI 1) hx hb dX0_three_57 (by decide) ?_
      refine lv_iand hx hb dX0_three_58 ?_
      rw [show ((nI (6 + 2 * n)) >>> ((nI 1) &&& 31)) &&& (nI 1) = nI ((3 + n) % 2) from lr_bit (by omega)]
      refine lv_aload_n hx hb dX0_three_59 rfl (lv_at hl 0 rfl) ?_
      refine lv_iload_n hx hb dX0_three_60 rfl (lv_at hl 2 rfl) ?_
      refine lr_sld hx hb hXs hbA hS rfl (by omega) hL31 dX0_three_61 ?_
      refine lv_aload_n hx hb dX0_three_62 rfl (lv_at hl 0 rfl) ?_
      refine lv_iload_n hx hb dX0_three_63 rfl (lv_at hl 2 rfl) ?_
      refine lv_iconst (v := nI 1) hx hb dX0_three_64 (by decide) ?_
      refine lv_iadd hx hb dX0_three_65 ?_
      rw [show (nI (6 + 2 * n)) + (nI 1) = nI (6 + 2 * n + 1) from nI_add _ _]
      refine lr_sld hx hb hXs hbA hS rfl (by omega) hL31 dX0_three_66 ?_
      refine lr_v (va_runV (As := [.int (nI ((3 + n) % 2)), .int (xs (6 + 2 * n)), .int (xs (6 + 2 * n + 1))]) (rest := []) ⟨hx, hb, hml, hown, hts⟩ (met_put l G sz (fun q => sz ≤ q ∧ q < sz + 11) (lr_puts xs n (lr_g3 xs L 3)) (nI ((3 + n) % 2)) (xs (6 + 2 * n)) (xs (6 + 2 * n + 1)) ((3 + n) % 2) (lr_kp (xs (6 + 2 * n))) (by omega) (lr_and3 (by omega)) (lr_kp_lt _) (lr_kp_eq _)) (cwV 3 hts (lw_V q5 q6 q7 q1 q8) rfl rfl rfl (by decide +kernel) ⟨Nat.le_of_ble_eq_true rfl, Nat.le_of_ble_eq_true rfl⟩) (lr_preV hR.at.choose_spec rfl hR hK hT hS (fun q h => h.1)) rfl rfl hl.1 rfl (lv_room (Nat.le_of_ble_eq_true rfl)) dX0_three_67 ⟨Nat.le_of_ble_eq_true rfl, Nat.le_of_ble_eq_true rfl⟩) (fun H1 M1 e1 hM1 => ?_)
      obtain ⟨z1, o1, hR1⟩ := e1
      refine lv_iinc (v := nI (6 + 2 * (n + 1))) (lv' := [(2, .int (nI (6 + 2 * (n + 1)))), (0, .ref b), (1, .ref sz)]) hx hb dX0_three_70 hl (k := 2) rfl (nI_add _ 2) (by decide) rfl (fun ls hl => ?_)
      refine lv_goto (tgt := 45) hx hb dX0_three_73 (by decide) ?_
      exact ih _ _ _ ⟨hR1, z1.trans hz, (fun q h => (o1 q (by omega)).trans (hO q h)), lr_Sc (A1 := (fun q => sz ≤ q ∧ q < sz + 11)) hS (by omega) (fun q _ n => o1 q n) (fun q h => h.1) hM1, lv_sub hl [1, 2, 0] rfl⟩
  · intro r hr3 H locs ls hI ih
    obtain ⟨hR, hz, hO, hS, hl⟩ := hI
    refine lv_iload_n hx hb dX0_three_10 rfl (lv_at hl 2 rfl) ?_
    refine lv_iconst (v := nI 3) hx hb dX0_three_11 (by decide) ?_
    refine lr_ge_f (tgt := 42) hx hb dX0_three_12 (by decide) (nI_ge (by omega) (by omega)) ?_
    refine lv_aload_n hx hb dX0_three_15 rfl (lv_at hl 1 rfl) ?_
    refine lv_iload_n hx hb dX0_three_16 rfl (lv_at hl 2 rfl) ?_
    refine lv_aload_n hx hb dX0_three_17 rfl (lv_at hl 0 rfl) ?_
    refine lv_iconst (v := nI 2) hx hb dX0_three_18 (by decide) ?_
    refine lv_iload_n hx hb dX0_three_19 rfl (lv_at hl 2 rfl) ?_
    refine lv_imul hx hb dX0_three_20 ?_
    rw [show (nI 2) * (nI r) = nI (2 * r) from pk_mul _ _]
    refine lr_i (va_runS (As := [.ref b, .int (nI (2 * r))]) (rest := [.int (nI r), .ref sz]) ⟨hx, hb, hml, hown, hts⟩ (met_cell l b L (2 * r) xs hL31 (by omega)) (va_cwS 2 hts (lw_S q99 q100 q0 q101) rfl rfl rfl (by decide +kernel) ⟨Nat.le_of_ble_eq_true rfl, Nat.le_of_ble_eq_true rfl⟩) (lr_xpre hXs hbA hS) rfl rfl hl.1 rfl (lv_room (Nat.le_of_ble_eq_true rfl)) dX0_three_21 ⟨Nat.le_of_ble_eq_true rfl, Nat.le_of_ble_eq_true rfl⟩) ?_
    refine lv_aload_n hx hb dX0_three_24 rfl (lv_at hl 0 rfl) ?_
    refine lv_iconst (v := nI 2) hx hb dX0_three_25 (by decide) ?_
    refine lv_iload_n hx hb dX0_three_26 rfl (lv_at hl 2 rfl) ?_
    refine lv_imul hx hb dX0_three_27 ?_
    rw [show (nI 2) * (nI r) = nI (2 * r) from pk_mul _ _]
    refine lv_iconst (v := nI 1) hx hb dX0_three_28 (by decide) ?_
    refine lv_iadd hx hb dX0_three_29 ?_
    rw [show (nI (2 * r)) + (nI 1) = nI (2 * r + 1) from nI_add _ _]
    refine lr_i (va_runS (As := [.ref b, .int (nI (2 * r + 1))]) (rest := [.int (lr_cl xs L (2 * r)), .int (nI r), .ref sz]) ⟨hx, hb, hml, hown, hts⟩ (met_cell l b L (2 * r + 1) xs hL31 (by omega)) (va_cwS 2 hts (lw_S q99 q100 q0 q101) rfl rfl rfl (by decide +kernel) ⟨Nat.le_of_ble_eq_true rfl, Nat.le_of_ble_eq_true rfl⟩) (lr_xpre hXs hbA hS) rfl rfl hl.1 rfl (lv_room (Nat.le_of_ble_eq_true rfl)) dX0_three_30 ⟨Nat.le_of_ble_eq_true rfl, Nat.le_of_ble_eq_true rfl⟩) ?_
    refine lr_v (va_runV (As := [.int (nI r), .int (lr_cl xs L (2 * r)), .int (lr_cl xs L (2 * r + 1))]) (rest := []) ⟨hx, hb, hml, hown, hts⟩ (met_spread l G sz (fun q => sz ≤ q ∧ q < sz + 11) (lr_g3 xs L r) (nI r) (lr_cl xs L (2 * r)) (lr_cl xs L (2 * r + 1)) r (by omega) (lr_and3 (by omega))) (cwV 3 hts (lw_V q14 q15 q16 q1 q17) rfl rfl rfl (by decide +kernel) ⟨Nat.le_of_ble_eq_true rfl, Nat.le_of_ble_eq_true rfl⟩) (lr_preV hR.at.choose_spec rfl hR hK hT hS (fun q h => h.1)) rfl rfl hl.1 rfl (lv_room (Nat.le_of_ble_eq_true rfl)) dX0_three_33 ⟨Nat.le_of_ble_eq_true rfl, Nat.le_of_ble_eq_true rfl⟩) (fun H1 M1 e1 hM1 => ?_)
    obtain ⟨z1, o1, hR1⟩ := e1
    rw [lr_g3_1] at hR1
    refine lv_iinc (v := nI (r + 1)) (lv' := [(2, .int (nI (r + 1))), (0, .ref b), (1, .ref sz)]) hx hb dX0_three_36 hl (k := 2) rfl (lr_inc _) (by decide) rfl (fun ls hl => ?_)
    refine lv_goto (tgt := 10) hx hb dX0_three_39 (by decide) ?_
    exact ih _ _ _ ⟨hR1, z1.trans hz, (fun q h => (o1 q (by omega)).trans (hO q h)), lr_Sc (A1 := (fun q => sz ≤ q ∧ q < sz + 11)) hS (by omega) (fun q _ n => o1 q n) (fun q h => h.1) hM1, lv_sub hl [1, 2, 0] rfl⟩
end
section
/-! plain law, first half: the field, what the shorts are modulo 3329, and their bounds -/
def lr_q (x : Int) : Fin 3329 := Fin.ofNat 3329 (x % 3329).toNat
theorem lr_q_val (x : Int) : ((lr_q x).val : Int) = x % 3329 := by
  have h1 := Int.emod_nonneg x (show (3329 : Int) ≠ 0 by decide)
  have h2 := Int.emod_lt_of_pos x (show (0 : Int) < 3329 by decide)
  show (((x % 3329).toNat % 3329 : Nat) : Int) = _
  omega
theorem lr_q_eq {a b : Int} (h : a % 3329 = b % 3329) : lr_q a = lr_q b := by
  unfold lr_q
  rw [h]
theorem lr_q_of {a b : Int} (h : lr_q a = lr_q b) : a % 3329 = b % 3329 := by
  rw [← lr_q_val, ← lr_q_val, h]
theorem lr_q_add (a b : Int) : lr_q (a + b) = lr_q a + lr_q b := by
  apply Fin.ext
  apply Int.ofNat_inj.mp
  show ((lr_q (a + b)).val : Int) = (((lr_q a).val + (lr_q b).val) % 3329 : Nat)
  have h1 := lr_q_val (a + b)
  have h2 := lr_q_val a
  have h3 := lr_q_val b
  omega
theorem lr_q_mul (a b : Int) : lr_q (a * b) = lr_q a * lr_q b := by
  apply Fin.ext
  apply Int.ofNat_inj.mp
  show ((lr_q (a * b)).val : Int) = (((lr_q a).val * (lr_q b).val % 3329 : Nat) : Int)
  rw [lr_q_val, Int.natCast_emod, Int.natCast_mul, lr_q_val, lr_q_val, Int.mul_emod]
  rfl
theorem lr_q_sub (a b : Int) : lr_q (a - b) = lr_q a - lr_q b := by
  have h := lr_q_add (a - b) b
  rw [Int.sub_add_cancel] at h
  rw [h]
  grind
theorem lr_q_mul_add (a k : Int) : lr_q (a - 3329 * k) = lr_q a := lr_q_eq (by omega)
def lr_p (x : Int32) : Fin 3329 := lr_q x.toInt
def lr_bd (B : Int) (x : Int32) : Prop := -B ≤ x.toInt ∧ x.toInt ≤ B
theorem lr_bm16 (x : Int) : ∃ k : Int, x.bmod (2 ^ 16) = x - 65536 * k ∧ -32768 ≤ x.bmod (2 ^ 16) ∧ x.bmod (2 ^ 16) < 32768 := by
  have h := Int.bmod_def x (2 ^ 16)
  refine ⟨(x - x.bmod (2 ^ 16)) / 65536, ?_⟩
  have e : ((2 ^ 16 : Nat) : Int) = 65536 := rfl
  rw [e] at h
  split at h <;> omega
theorem lr_bm32 (x : Int) : ∃ k : Int, x.bmod (2 ^ 32) = x - 4294967296 * k := by
  have h := Int.bmod_def x (2 ^ 32)
  refine ⟨(x - x.bmod (2 ^ 32)) / 4294967296, ?_⟩
  have e : ((2 ^ 32 : Nat) : Int) = 4294967296 := rfl
  rw [e] at h
  split at h <;> omega
theorem lr_32 {x : Int} (h1 : -2147483648 ≤ x) (h2 : x < 2147483648) : x.bmod (2 ^ 32) = x := by
  apply Int.bmod_eq_of_le <;> omega
theorem lr_t16 (x : Int32) : x.toInt16.toInt32.toInt = x.toInt.bmod (2 ^ 16) := by
  rw [Int16.toInt_toInt32, Int32.toInt_toInt16]
theorem lr_t16' {x : Int32} (h1 : -32768 ≤ x.toInt) (h2 : x.toInt < 32768) : x.toInt16.toInt32.toInt = x.toInt := by
  rw [lr_16 h1 h2]
/-- Montgomery's reduction: exact division by 2^16 behind a multiple of q -/
theorem lr_mr_spec {a : Int32} (h1 : -109081343 ≤ a.toInt) (h2 : a.toInt ≤ 109081343) : ∃ u : Int, 65536 * (lr_mr a).toInt = a.toInt - 3329 * u ∧ -3328 ≤ (lr_mr a).toInt ∧ (lr_mr a).toInt ≤ 3328 := by
  obtain ⟨k1, e1⟩ := lr_bm32 (a.toInt * 62209)
  obtain ⟨k2, e2, b1, b2⟩ := lr_bm16 ((a.toInt * 62209).bmod (2 ^ 32))
  have hu : (a * 62209).toInt16.toInt32.toInt = ((a.toInt * 62209).bmod (2 ^ 32)).bmod (2 ^ 16) := by
    rw [lr_t16, Int32.toInt_mul]
    rfl
  generalize hU : ((a.toInt * 62209).bmod (2 ^ 32)).bmod (2 ^ 16) = u at hu e2 b1 b2
  have hm : ((a * 62209).toInt16.toInt32 * 3329).toInt = u * 3329 := by
    rw [Int32.toInt_mul, hu]
    exact lr_32 (by show _ ≤ u * 3329; omega) (by show u * 3329 < _; omega)
  have hs : (a - (a * 62209).toInt16.toInt32 * 3329).toInt = a.toInt - u * 3329 := by
    rw [Int32.toInt_sub, hm]
    exact lr_32 (by omega) (by omega)
  have hr : ((a - (a * 62209).toInt16.toInt32 * 3329) >>> ((16 : Int32) &&& 31)).toInt = (a.toInt - u * 3329) / 65536 := by
    rw [pk_shr _ _ 16 (by decide), hs, Int.shiftRight_eq_div_pow]
    rfl
  have hx : (lr_mr a).toInt = (a.toInt - u * 3329) / 65536 := by
    unfold lr_mr
    rw [lr_t16' (by rw [hr]; omega) (by rw [hr]; omega), hr]
  refine ⟨u, ?_, ?_, ?_⟩
  · rw [hx]; omega
  · rw [hx]; omega
  · rw [hx]; omega
theorem lr_mulb {a b A B : Int} (h1 : -A ≤ a) (h2 : a ≤ A) (h3 : -B ≤ b) (h4 : b ≤ B) : -(A * B) ≤ a * b ∧ a * b ≤ A * B := by
  have ha : (a.natAbs : Int) ≤ A := by omega
  have hb : (b.natAbs : Int) ≤ B := by omega
  have h : (a.natAbs : Int) * (b.natAbs : Int) ≤ A * B := Int.mul_le_mul ha hb (Int.natCast_nonneg _) (by omega)
  rw [← Int.natCast_mul, ← Int.natAbs_mul] at h
  omega
/-- mulMont: the product, over 2^16 -/
theorem lr_mm_spec {a b : Int32} {A B : Int} (ha : lr_bd A a) (hb : lr_bd B b) (h : A * B ≤ 109081343) : lr_bd 3328 (lr_mm a b) ∧ lr_p (lr_mm a b) = lr_p a * lr_p b * 169 := by
  obtain ⟨h1, h2⟩ := lr_mulb ha.1 ha.2 hb.1 hb.2
  have hm : (a * b).toInt = a.toInt * b.toInt := by
    rw [Int32.toInt_mul]
    exact lr_32 (by omega) (by omega)
  obtain ⟨u, e, b1, b2⟩ := lr_mr_spec (a := a * b) (by rw [hm]; omega) (by rw [hm]; omega)
  refine ⟨⟨b1, b2⟩, ?_⟩
  have h3 : lr_q (65536 * (lr_mr (a * b)).toInt) = lr_q (a.toInt * b.toInt) := by
    rw [e, hm, lr_q_mul_add]
  rw [lr_q_mul, lr_q_mul] at h3
  have h4 : lr_q 65536 = 2285 := by decide
  rw [h4] at h3
  show lr_q (lr_mr (a * b)).toInt = lr_q a.toInt * lr_q b.toInt * 169
  have h5 : (2285 : Fin 3329) * 169 = 1 := by decide
  grind
/-- Barrett's reduction -/
theorem lr_br_spec {a : Int32} (h1 : -32768 ≤ a.toInt) (h2 : a.toInt ≤ 32767) : 0 ≤ (lr_br a).toInt ∧ (lr_br a).toInt ≤ 3329 ∧ lr_p (lr_br a) = lr_p a := by
  have hm : (20159 * a).toInt = 20159 * a.toInt := by
    rw [Int32.toInt_mul]
    exact lr_32 (by show _ ≤ 20159 * a.toInt; omega) (by show 20159 * a.toInt < _; omega)
  have hr : ((20159 * a) >>> ((26 : Int32) &&& 31)).toInt = (20159 * a.toInt) / 67108864 := by
    rw [pk_shr _ _ 26 (by decide), hm, Int.shiftRight_eq_div_pow]
    rfl
  generalize hv : (20159 * a.toInt) / 67108864 = v at hr
  have hv1 : -20 ≤ v ∧ v ≤ 20 := by omega
  have h16 : ((20159 * a) >>> ((26 : Int32) &&& 31)).toInt16.toInt32.toInt = v := by
    rw [lr_t16' (by rw [hr]; omega) (by rw [hr]; omega), hr]
  have hq : (((20159 * a) >>> ((26 : Int32) &&& 31)).toInt16.toInt32 * 3329).toInt = v * 3329 := by
    rw [Int32.toInt_mul, h16]
    exact lr_32 (by show _ ≤ v * 3329; omega) (by show v * 3329 < _; omega)
  have hq16 := lr_t16 (((20159 * a) >>> ((26 : Int32) &&& 31)).toInt16.toInt32 * 3329)
  rw [hq] at hq16
  obtain ⟨k1, e1, b1, b2⟩ := lr_bm16 (v * 3329)
  have hs : (a - (((20159 * a) >>> ((26 : Int32) &&& 31)).toInt16.toInt32 * 3329).toInt16.toInt32).toInt = a.toInt - (v * 3329).bmod (2 ^ 16) := by
    rw [Int32.toInt_sub, hq16]
    exact lr_32 (by omega) (by omega)
  have hx : (lr_br a).toInt = (a.toInt - (v * 3329).bmod (2 ^ 16)).bmod (2 ^ 16) := by
    unfold lr_br
    rw [lr_t16, hs]
  obtain ⟨k2, e2, b3, b4⟩ := lr_bm16 (a.toInt - (v * 3329).bmod (2 ^ 16))
  have hf : (lr_br a).toInt = a.toInt - 3329 * v := by
    rw [hx, e2, e1]
    rw [e2, e1] at b3 b4
    omega
  refine ⟨by rw [hf]; omega, by rw [hf]; omega, ?_⟩
  show lr_q (lr_br a).toInt = lr_q a.toInt
  rw [hf, lr_q_mul_add]
theorem lr_rem_int {c : Int32} (hc : lr_bd 32768 c) : (c - c / 3329 * 3329).toInt = c.toInt.tmod 3329 := by
  obtain ⟨hb1, hb2⟩ := hc
  have h2 := Int.mul_tdiv_add_tmod c.toInt 3329
  have h3 : -3329 < c.toInt.tmod 3329 ∧ c.toInt.tmod 3329 < 3329 := tmod_bounds (by decide)
  have h1 : (c / 3329).toInt = c.toInt.tdiv 3329 := by
    rw [Int32.toInt_div]
    show (c.toInt.tdiv 3329).bmod (2 ^ 32) = _
    exact lr_32 (by omega) (by omega)
  rw [Int32.toInt_sub, Int32.toInt_mul, h1]
  show (c.toInt - (c.toInt.tdiv 3329 * 3329).bmod (2 ^ 32)).bmod (2 ^ 32) = _
  rw [lr_32 (x := c.toInt.tdiv 3329 * 3329) (by omega) (by omega)]
  rw [lr_32 (by omega) (by omega)]
  omega
/-- fair: the one of its class in 0 .. 3328 -/
theorem lr_fr_spec {c : Int32} (hc : lr_bd 32768 c) : 0 ≤ (lr_fr c).toInt ∧ (lr_fr c).toInt ≤ 3328 ∧ lr_p (lr_fr c) = lr_p c := by
  have h3 : -3329 < c.toInt.tmod 3329 ∧ c.toInt.tmod 3329 < 3329 := tmod_bounds (by decide)
  have h2 := Int.mul_tdiv_add_tmod c.toInt 3329
  have hr := lr_rem_int hc
  unfold lr_fr
  by_cases h : 0 ≤ c - c / 3329 * 3329
  · rw [if_pos h]
    have h0 : 0 ≤ c.toInt.tmod 3329 := by
      rw [← hr]
      exact Int32.le_iff_toInt_le.mp h
    have ht := lr_t16' (x := c - c / 3329 * 3329) (by omega) (by omega)
    rw [hr] at ht
    refine ⟨by omega, by omega, ?_⟩
    show lr_q _ = lr_q _
    rw [ht]
    exact lr_q_eq (by omega)
  · rw [if_neg h]
    have h0 : c.toInt.tmod 3329 < 0 := by
      rw [← hr]
      exact Int.not_le.mp (fun q => h (Int32.le_iff_toInt_le.mpr q))
    have hs : (c - c / 3329 * 3329 + 3329).toInt = c.toInt.tmod 3329 + 3329 := by
      rw [Int32.toInt_add, hr]
      exact lr_32 (by show _ ≤ c.toInt.tmod 3329 + 3329; omega) (by show c.toInt.tmod 3329 + 3329 < _; omega)
    have ht := lr_t16' (x := c - c / 3329 * 3329 + 3329) (by omega) (by omega)
    rw [hs] at ht
    refine ⟨by omega, by omega, ?_⟩
    show lr_q _ = lr_q _
    rw [ht]
    exact lr_q_eq (by omega)
/-- sums and differences of shorts that stay in range -/
theorem lr_add_spec {a b : Int32} {A B : Int} (ha : lr_bd A a) (hb : lr_bd B b) (h : A + B ≤ 32767) : lr_bd (A + B) (a + b).toInt16.toInt32 ∧ lr_p (a + b).toInt16.toInt32 = lr_p a + lr_p b := by
  obtain ⟨h1, h2⟩ := ha
  obtain ⟨h3, h4⟩ := hb
  have hs : (a + b).toInt = a.toInt + b.toInt := by
    rw [Int32.toInt_add]
    exact lr_32 (by omega) (by omega)
  have ht := lr_t16' (x := a + b) (by omega) (by omega)
  rw [hs] at ht
  refine ⟨⟨by omega, by omega⟩, ?_⟩
  show lr_q _ = lr_q _ + lr_q _
  rw [ht, lr_q_add]
theorem lr_sub_spec {a b : Int32} {A B : Int} (ha : lr_bd A a) (hb : lr_bd B b) (h : A + B ≤ 32767) : lr_bd (A + B) (a - b).toInt16.toInt32 ∧ lr_p (a - b).toInt16.toInt32 = lr_p a - lr_p b := by
  obtain ⟨h1, h2⟩ := ha
  obtain ⟨h3, h4⟩ := hb
  have hs : (a - b).toInt = a.toInt - b.toInt := by
    rw [Int32.toInt_sub]
    exact lr_32 (by omega) (by omega)
  have ht := lr_t16' (x := a - b) (by omega) (by omega)
  rw [hs] at ht
  refine ⟨⟨by omega, by omega⟩, ?_⟩
  show lr_q _ = lr_q _ - lr_q _
  rw [ht, lr_q_sub]
theorem lr_bd.mono {A B : Int} {x : Int32} (h : lr_bd A x) (hAB : A ≤ B) : lr_bd B x := ⟨by have := h.1; omega, by have := h.2; omega⟩
-- the tables
theorem lr_zl_lt : ∀ j, j < 128 → lr_zl.getD j 0 < 3329 := by decide +kernel
theorem lr_zm_lt : ∀ j, j < 128 → lr_zm.getD j 0 < 3329 := by decide +kernel
theorem lr_z_int {j : Nat} (h : j < 128) : (lr_z j).toInt = (lr_zl.getD j 0 : Nat) := nI_toInt (by have := lr_zl_lt j h; omega)
theorem lr_zi_int {j : Nat} (h : j < 128) : (lr_zi j).toInt = (lr_zm.getD j 0 : Nat) := nI_toInt (by have := lr_zm_lt j h; omega)
theorem lr_z_bd {j : Nat} (h : j < 128) : lr_bd 3328 (lr_z j) := ⟨by rw [lr_z_int h]; omega, by rw [lr_z_int h]; have := lr_zl_lt j h; omega⟩
theorem lr_zi_bd {j : Nat} (h : j < 128) : lr_bd 3328 (lr_zi j) := ⟨by rw [lr_zi_int h]; omega, by rw [lr_zi_int h]; have := lr_zm_lt j h; omega⟩
/-- the tables' numbers, over 2^16, in the field -/
def lr_fz (j : Nat) : Fin 3329 := lr_q (lr_zl.getD j 0 : Nat) * 169
def lr_fi (j : Nat) : Fin 3329 := lr_q (lr_zm.getD j 0 : Nat) * 169
theorem lr_fz_eq {j : Nat} (h : j < 128) : lr_p (lr_z j) * 169 = lr_fz j := by
  show lr_q _ * 169 = _
  rw [lr_z_int h]
  rfl
theorem lr_fi_eq {j : Nat} (h : j < 128) : lr_p (lr_zi j) * 169 = lr_fi j := by
  show lr_q _ * 169 = _
  rw [lr_zi_int h]
  rfl
/-- the constant of the block b at the level n: X to the 256 / 2^n is this -/
def lr_c (n b : Nat) : Fin 3329 := if n = 0 then -1 else if b % 2 = 0 then lr_fz (2 ^ (n - 1) + b / 2) else -lr_fz (2 ^ (n - 1) + b / 2)
set_option maxRecDepth 100000 in
theorem lr_tab1 : ∀ n, n < 7 → ∀ b, b < 2 ^ n → lr_fz (2 ^ n + b) * lr_fz (2 ^ n + b) = lr_c n b := by decide +kernel
set_option maxRecDepth 100000 in
theorem lr_tab2 : ∀ n, n < 7 → ∀ b, b < 2 ^ n → lr_fi (128 - 2 ^ (n + 1) + b) * lr_fz (2 ^ n + b) = 1 := by decide +kernel
theorem lr_tab3 : lr_fi 127 * 128 = 2285 := by decide +kernel
end
section
/-! plain law, second half: the transform in the field -/
abbrev lr_Y : Type := Nat → Fin 3329
def lr_eq (f g : lr_Y) : Prop := ∀ i, i < 256 → f i = g i
def lr_qL (len k0 : Nat) (f : lr_Y) : lr_Y := fun i =>
  if (i / len) % 2 = 0 then f i + lr_fz (k0 + i / (2 * len)) * f (i + len) else f (i - len) - lr_fz (k0 + i / (2 * len)) * f i
def lr_qI (len k0 : Nat) (f : lr_Y) : lr_Y := fun i =>
  if (i / len) % 2 = 0 then f i + f (i + len) else lr_fi (k0 + i / (2 * len)) * (f (i - len) - f i)
theorem lr_qL_lo {len k0 b r : Nat} {f : lr_Y} (h : r < len) : lr_qL len k0 f (2 * len * b + r) = f (2 * len * b + r) + lr_fz (k0 + b) * f (2 * len * b + r + len) := by
  unfold lr_qL
  rw [if_pos (lr_ix_lo h).1, (lr_ix_lo h).2]
theorem lr_qL_hi {len k0 b r : Nat} {f : lr_Y} (h : r < len) : lr_qL len k0 f (2 * len * b + r + len) = f (2 * len * b + r) - lr_fz (k0 + b) * f (2 * len * b + r + len) := by
  unfold lr_qL
  rw [if_neg (by rw [(lr_ix_hi h).1]; decide), (lr_ix_hi h).2, Nat.add_sub_cancel]
theorem lr_qI_lo {len k0 b r : Nat} {f : lr_Y} (h : r < len) : lr_qI len k0 f (2 * len * b + r) = f (2 * len * b + r) + f (2 * len * b + r + len) := by
  unfold lr_qI
  rw [if_pos (lr_ix_lo h).1]
theorem lr_qI_hi {len k0 b r : Nat} {f : lr_Y} (h : r < len) : lr_qI len k0 f (2 * len * b + r + len) = lr_fi (k0 + b) * (f (2 * len * b + r) - f (2 * len * b + r + len)) := by
  unfold lr_qI
  rw [if_neg (by rw [(lr_ix_hi h).1]; decide), (lr_ix_hi h).2, Nat.add_sub_cancel]
theorem lr_split {len nb i : Nat} (hE : 2 * len * nb = 256) (hi : i < 256) : ∃ b r, b < nb ∧ r < len ∧ 2 * len * b + r + len < 256 ∧ (i = 2 * len * b + r ∨ i = 2 * len * b + r + len) := by
  have h0 : 0 < 2 * len := by
    rcases Nat.eq_zero_or_pos (2 * len) with z | z
    · rw [z, Nat.zero_mul] at hE
      omega
    · exact z
  have hb : i / (2 * len) < nb := Nat.div_lt_of_lt_mul (by omega)
  have hm := Nat.mod_lt i h0
  have hd := Nat.div_add_mod i (2 * len)
  have hl := lr_blk hE hb
  by_cases h : i % (2 * len) < len
  · exact ⟨i / (2 * len), i % (2 * len), hb, h, by omega, Or.inl hd.symm⟩
  · exact ⟨i / (2 * len), i % (2 * len) - len, hb, by omega, by omega, Or.inr (by omega)⟩
theorem lr_qL_congr {len k0 nb : Nat} {f g : lr_Y} (hE : 2 * len * nb = 256) (h : lr_eq f g) : lr_eq (lr_qL len k0 f) (lr_qL len k0 g) := by
  intro i hi
  obtain ⟨b, r, hb, hr, hl, e | e⟩ := lr_split hE hi
  · rw [e, lr_qL_lo hr, lr_qL_lo hr, h _ (by omega), h _ hl]
  · rw [e, lr_qL_hi hr, lr_qL_hi hr, h _ (by omega), h _ hl]
theorem lr_qI_congr {len k0 nb : Nat} {f g : lr_Y} (hE : 2 * len * nb = 256) (h : lr_eq f g) : lr_eq (lr_qI len k0 f) (lr_qI len k0 g) := by
  intro i hi
  obtain ⟨b, r, hb, hr, hl, e | e⟩ := lr_split hE hi
  · rw [e, lr_qI_lo hr, lr_qI_lo hr, h _ (by omega), h _ hl]
  · rw [e, lr_qI_hi hr, lr_qI_hi hr, h _ (by omega), h _ hl]
theorem lr_qL_add (len k0 : Nat) (f g : lr_Y) : lr_qL len k0 (fun i => f i + g i) = fun i => lr_qL len k0 f i + lr_qL len k0 g i := by
  funext i
  unfold lr_qL
  split <;> grind
theorem lr_qI_add (len k0 : Nat) (f g : lr_Y) : lr_qI len k0 (fun i => f i + g i) = fun i => lr_qI len k0 f i + lr_qI len k0 g i := by
  funext i
  unfold lr_qI
  split <;> grind
theorem lr_qI_mul (len k0 : Nat) (c : Fin 3329) (f : lr_Y) : lr_qI len k0 (fun i => c * f i) = fun i => c * lr_qI len k0 f i := by
  funext i
  unfold lr_qI
  split <;> grind
/-- a layer, and its opposite: twice what was -/
theorem lr_qIL {len k0 k1 nb : Nat} {c : Fin 3329} {u y : lr_Y} (hE : 2 * len * nb = 256) (ht : ∀ b, b < nb → lr_fi (k1 + b) * lr_fz (k0 + b) = 1) (h : lr_eq u (fun i => c * lr_qL len k0 y i)) : lr_eq (lr_qI len k1 u) (fun i => (c * 2) * y i) := by
  intro i hi
  rw [lr_qI_congr hE h i hi]
  obtain ⟨b, r, hb, hr, hl, e | e⟩ := lr_split hE hi
  · rw [e, lr_qI_lo hr]
    dsimp only
    rw [lr_qL_lo hr, lr_qL_hi hr]
    grind
  · rw [e, lr_qI_hi hr]
    dsimp only
    rw [lr_qL_lo hr, lr_qL_hi hr]
    have := ht b hb
    grind
theorem lr_qLI {len k0 k1 nb : Nat} {c : Fin 3329} {u y : lr_Y} (hE : 2 * len * nb = 256) (ht : ∀ b, b < nb → lr_fi (k1 + b) * lr_fz (k0 + b) = 1) (h : lr_eq u (fun i => c * lr_qI len k1 y i)) : lr_eq (lr_qL len k0 u) (fun i => (c * 2) * y i) := by
  intro i hi
  rw [lr_qL_congr hE h i hi]
  obtain ⟨b, r, hb, hr, hl, e | e⟩ := lr_split hE hi
  · rw [e, lr_qL_lo hr]
    dsimp only
    rw [lr_qI_lo hr, lr_qI_hi hr]
    have := ht b hb
    grind
  · rw [e, lr_qL_hi hr]
    dsimp only
    rw [lr_qI_lo hr, lr_qI_hi hr]
    have := ht b hb
    grind
def lr_qN (f : lr_Y) : lr_Y := lr_qL 2 64 (lr_qL 4 32 (lr_qL 8 16 (lr_qL 16 8 (lr_qL 32 4 (lr_qL 64 2 (lr_qL 128 1 f))))))
def lr_qJ (h : lr_Y) : lr_Y := lr_qI 128 126 (lr_qI 64 124 (lr_qI 32 120 (lr_qI 16 112 (lr_qI 8 96 (lr_qI 4 64 (lr_qI 2 0 h))))))
def lr_qV (h : lr_Y) : lr_Y := fun i => lr_fi 127 * lr_qJ h i
theorem lr_qN_congr {f g : lr_Y} (h : lr_eq f g) : lr_eq (lr_qN f) (lr_qN g) :=
  lr_qL_congr (nb := 64) rfl (lr_qL_congr (nb := 32) rfl (lr_qL_congr (nb := 16) rfl (lr_qL_congr (nb := 8) rfl (lr_qL_congr (nb := 4) rfl (lr_qL_congr (nb := 2) rfl (lr_qL_congr (nb := 1) rfl h))))))
theorem lr_qJ_congr {f g : lr_Y} (h : lr_eq f g) : lr_eq (lr_qJ f) (lr_qJ g) :=
  lr_qI_congr (nb := 1) rfl (lr_qI_congr (nb := 2) rfl (lr_qI_congr (nb := 4) rfl (lr_qI_congr (nb := 8) rfl (lr_qI_congr (nb := 16) rfl (lr_qI_congr (nb := 32) rfl (lr_qI_congr (nb := 64) rfl h))))))
theorem lr_qV_congr {f g : lr_Y} (h : lr_eq f g) : lr_eq (lr_qV f) (lr_qV g) := fun i hi => by
  show _ * _ = _ * _
  rw [lr_qJ_congr h i hi]
theorem lr_qN_add (f g : lr_Y) : lr_qN (fun i => f i + g i) = fun i => lr_qN f i + lr_qN g i := by
  unfold lr_qN
  rw [lr_qL_add, lr_qL_add, lr_qL_add, lr_qL_add, lr_qL_add, lr_qL_add, lr_qL_add]
theorem lr_qV_add (f g : lr_Y) : lr_qV (fun i => f i + g i) = fun i => lr_qV f i + lr_qV g i := by
  unfold lr_qV lr_qJ
  rw [lr_qI_add, lr_qI_add, lr_qI_add, lr_qI_add, lr_qI_add, lr_qI_add, lr_qI_add]
  funext i
  grind
theorem lr_qV_mul (c : Fin 3329) (f : lr_Y) : lr_qV (fun i => c * f i) = fun i => c * lr_qV f i := by
  unfold lr_qV lr_qJ
  rw [lr_qI_mul, lr_qI_mul, lr_qI_mul, lr_qI_mul, lr_qI_mul, lr_qI_mul, lr_qI_mul]
  funext i
  grind
theorem lr_qVN (f : lr_Y) : lr_eq (lr_qV (lr_qN f)) (fun i => 2285 * f i) := by
  have h0 : lr_eq (lr_qN f) (fun i => 1 * lr_qL 2 64 (lr_qL 4 32 (lr_qL 8 16 (lr_qL 16 8 (lr_qL 32 4 (lr_qL 64 2 (lr_qL 128 1 f)))))) i) := fun i _ => by
    unfold lr_qN
    grind
  have h1 := lr_qIL (k1 := 0) (nb := 64) rfl (lr_tab2 6 (by decide)) h0
  have h2 := lr_qIL (k1 := 64) (nb := 32) rfl (lr_tab2 5 (by decide)) h1
  have h3 := lr_qIL (k1 := 96) (nb := 16) rfl (lr_tab2 4 (by decide)) h2
  have h4 := lr_qIL (k1 := 112) (nb := 8) rfl (lr_tab2 3 (by decide)) h3
  have h5 := lr_qIL (k1 := 120) (nb := 4) rfl (lr_tab2 2 (by decide)) h4
  have h6 := lr_qIL (k1 := 124) (nb := 2) rfl (lr_tab2 1 (by decide)) h5
  have h7 := lr_qIL (k1 := 126) (nb := 1) rfl (lr_tab2 0 (by decide)) h6
  intro i hi
  have h8 : lr_qJ (lr_qN f) i = _ := h7 i hi
  show lr_fi 127 * lr_qJ (lr_qN f) i = 2285 * f i
  rw [h8]
  have := lr_tab3
  grind
theorem lr_qNV (f : lr_Y) : lr_eq (lr_qN (lr_qV f)) (fun i => 2285 * f i) := by
  have h0 : lr_eq (lr_qV f) (fun i => lr_fi 127 * lr_qI 128 126 (lr_qI 64 124 (lr_qI 32 120 (lr_qI 16 112 (lr_qI 8 96 (lr_qI 4 64 (lr_qI 2 0 f)))))) i) := fun i _ => rfl
  have h1 := lr_qLI (k0 := 1) (nb := 1) rfl (lr_tab2 0 (by decide)) h0
  have h2 := lr_qLI (k0 := 2) (nb := 2) rfl (lr_tab2 1 (by decide)) h1
  have h3 := lr_qLI (k0 := 4) (nb := 4) rfl (lr_tab2 2 (by decide)) h2
  have h4 := lr_qLI (k0 := 8) (nb := 8) rfl (lr_tab2 3 (by decide)) h3
  have h5 := lr_qLI (k0 := 16) (nb := 16) rfl (lr_tab2 4 (by decide)) h4
  have h6 := lr_qLI (k0 := 32) (nb := 32) rfl (lr_tab2 5 (by decide)) h5
  have h7 := lr_qLI (k0 := 64) (nb := 64) rfl (lr_tab2 6 (by decide)) h6
  intro i hi
  have h8 : lr_qN (lr_qV f) i = _ := h7 i hi
  rw [h8]
  have := lr_tab3
  grind
/-- the product in the transform's world: pairs, modulo X^2 minus the pair's constant; a factor 2^-16 on top -/
def lr_qW (a b : lr_Y) : lr_Y := fun i => if i % 2 = 0 then 169 * (a i * b i + lr_c 7 (i / 2) * a (i + 1) * b (i + 1)) else 169 * (a (i - 1) * b i + a i * b (i - 1))
theorem lr_qW_congr {a a' b b' : lr_Y} (h : lr_eq a a') (k : lr_eq b b') : lr_eq (lr_qW a b) (lr_qW a' b') := by
  intro i hi
  unfold lr_qW
  split
  · rw [h i hi, k i hi, h (i + 1) (by omega), k (i + 1) (by omega)]
  · rw [h i hi, k i hi, h (i - 1) (by omega), k (i - 1) (by omega)]
theorem lr_qW_comm (a b : lr_Y) : lr_qW a b = lr_qW b a := by
  funext i
  unfold lr_qW
  split <;> grind
theorem lr_qW_addl (a b d : lr_Y) : lr_qW (fun i => a i + b i) d = fun i => lr_qW a d i + lr_qW b d i := by
  funext i
  unfold lr_qW
  split <;> grind
theorem lr_qW_mull (c : Fin 3329) (a d : lr_Y) : lr_qW (fun i => c * a i) d = fun i => c * lr_qW a d i := by
  funext i
  unfold lr_qW
  split <;> grind
theorem lr_qW_assoc (a b d : lr_Y) : lr_qW (lr_qW a b) d = lr_qW a (lr_qW b d) := by
  funext i
  unfold lr_qW
  by_cases h : i % 2 = 0
  · have h1 : ¬ (i + 1) % 2 = 0 := by omega
    simp only [if_pos h, if_neg h1, Nat.add_sub_cancel]
    grind
  · have h1 : (i - 1) % 2 = 0 := by omega
    have h2 : i - 1 + 1 = i := by omega
    have h3 : (i - 1) / 2 = i / 2 := by omega
    simp only [if_neg h, if_pos h1, h2, h3]
    grind
/-- the product -/
def lr_qM (f g : lr_Y) : lr_Y := lr_qV (lr_qW (lr_qN f) (lr_qN g))
theorem lr_qM_congr {f f' g g' : lr_Y} (h : lr_eq f f') (k : lr_eq g g') : lr_eq (lr_qM f g) (lr_qM f' g') := lr_qV_congr (lr_qW_congr (lr_qN_congr h) (lr_qN_congr k))
theorem lr_qM_comm (f g : lr_Y) : lr_qM f g = lr_qM g f := by
  unfold lr_qM
  rw [lr_qW_comm]
theorem lr_qM_assoc (f g h : lr_Y) : lr_eq (lr_qM (lr_qM f g) h) (lr_qM f (lr_qM g h)) := by
  have h1 : lr_eq (lr_qM (lr_qM f g) h) (lr_qV (lr_qW (fun i => 2285 * lr_qW (lr_qN f) (lr_qN g) i) (lr_qN h))) := lr_qV_congr (lr_qW_congr (lr_qNV _) (fun _ _ => rfl))
  have h2 : lr_eq (lr_qM f (lr_qM g h)) (lr_qV (lr_qW (lr_qN f) (fun i => 2285 * lr_qW (lr_qN g) (lr_qN h) i))) := lr_qV_congr (lr_qW_congr (fun _ _ => rfl) (lr_qNV _))
  intro i hi
  rw [h1 i hi, h2 i hi, lr_qW_mull, lr_qW_assoc, lr_qW_comm (lr_qN f) (fun i => 2285 * lr_qW (lr_qN g) (lr_qN h) i), lr_qW_mull, lr_qW_comm (lr_qW (lr_qN g) (lr_qN h)) (lr_qN f)]
theorem lr_qM_addl (f g h : lr_Y) : lr_qM (fun i => f i + g i) h = fun i => lr_qM f h i + lr_qM g h i := by
  unfold lr_qM
  rw [lr_qN_add, lr_qW_addl, lr_qV_add]
-- 1 and X
def lr_u (D : Nat) : lr_Y := fun i => if i % D = 0 then 1 else 0
theorem lr_qL_u {len k0 nb : Nat} (hE : 2 * len * nb = 256) : lr_eq (lr_qL len k0 (lr_u (2 * len))) (lr_u len) := by
  intro i hi
  obtain ⟨b, r, hb, hr, hl, e | e⟩ := lr_split hE hi
  · rw [e, lr_qL_lo hr]
    unfold lr_u
    have h1 : (2 * len * b + r + len) % (2 * len) = r + len := by rw [Nat.add_assoc, Nat.mul_add_mod, Nat.mod_eq_of_lt (by omega)]
    have h2 : (2 * len * b + r) % (2 * len) = r := by rw [Nat.mul_add_mod, Nat.mod_eq_of_lt (by omega)]
    have h3 : (2 * len * b + r) % len = r := by rw [show 2 * len * b = len * (2 * b) by rw [Nat.mul_comm 2 len, Nat.mul_assoc], Nat.mul_add_mod, Nat.mod_eq_of_lt hr]
    rw [h1, h2, h3, if_neg (by omega : ¬ r + len = 0)]
    grind
  · rw [e, lr_qL_hi hr]
    unfold lr_u
    have h1 : (2 * len * b + r + len) % (2 * len) = r + len := by rw [Nat.add_assoc, Nat.mul_add_mod, Nat.mod_eq_of_lt (by omega)]
    have h2 : (2 * len * b + r) % (2 * len) = r := by rw [Nat.mul_add_mod, Nat.mod_eq_of_lt (by omega)]
    have h3 : (2 * len * b + r + len) % len = r := by rw [Nat.add_mod_right, show 2 * len * b = len * (2 * b) by rw [Nat.mul_comm 2 len, Nat.mul_assoc], Nat.mul_add_mod, Nat.mod_eq_of_lt hr]
    rw [h1, h2, h3, if_neg (by omega : ¬ r + len = 0)]
    grind
def lr_one : lr_Y := fun i => if i = 0 then 1 else 0
theorem lr_qN_one : lr_eq (lr_qN lr_one) (lr_u 2) := by
  have h0 : lr_eq lr_one (lr_u (2 * 128)) := fun i hi => by
    unfold lr_one lr_u
    by_cases h : i = 0
    · rw [if_pos h, if_pos (by omega)]
    · rw [if_neg h, if_neg (by omega)]
  have st : ∀ {len k0 nb : Nat} {f : lr_Y}, 2 * len * nb = 256 → lr_eq f (lr_u (2 * len)) → lr_eq (lr_qL len k0 f) (lr_u len) := fun hE h i hi => (lr_qL_congr hE h i hi).trans (lr_qL_u hE i hi)
  exact st (nb := 64) rfl (st (len := 4) (nb := 32) rfl (st (len := 8) (nb := 16) rfl (st (len := 16) (nb := 8) rfl (st (len := 32) (nb := 4) rfl (st (len := 64) (nb := 2) rfl (st (len := 128) (nb := 1) rfl h0))))))
/-- X times, at the level n (blocks of D places) -/
def lr_sf (n D : Nat) (g : lr_Y) : lr_Y := fun i => if i % D = 0 then lr_c n (i / D) * g (i + D - 1) else g (i - 1)
theorem lr_sf_0 {n D i b : Nat} {g : lr_Y} (h : i % D = 0) (hb : i / D = b) : lr_sf n D g i = lr_c n b * g (i + D - 1) := by
  unfold lr_sf
  rw [if_pos h, hb]
theorem lr_sf_s {n D i : Nat} {g : lr_Y} (h : ¬ i % D = 0) : lr_sf n D g i = g (i - 1) := by
  unfold lr_sf
  rw [if_neg h]
theorem lr_sf_congr {n D nb : Nat} {f g : lr_Y} (hE : D * nb = 256) (h : lr_eq f g) : lr_eq (lr_sf n D f) (lr_sf n D g) := by
  intro i hi
  have hD : 0 < D := by
    rcases Nat.eq_zero_or_pos D with z | z
    · rw [z, Nat.zero_mul] at hE
      omega
    · exact z
  unfold lr_sf
  by_cases a : i % D = 0
  · rw [if_pos a, if_pos a]
    have hq : i / D < nb := Nat.div_lt_of_lt_mul (by omega)
    have hd := Nat.div_add_mod i D
    have h1 : D * (i / D + 1) ≤ D * nb := Nat.mul_le_mul_left _ hq
    rw [Nat.mul_add] at h1
    rw [h _ (by omega)]
  · rw [if_neg a, if_neg a, h _ (by omega)]
theorem lr_qL_sf {n len : Nat} (hn : n < 7) (hE : 2 * len * 2 ^ n = 256) (g : lr_Y) : lr_eq (lr_qL len (2 ^ n) (lr_sf n (2 * len) g)) (lr_sf (n + 1) len (lr_qL len (2 ^ n) g)) := by
  intro i hi
  obtain ⟨b, r, hb, hr, hl, e⟩ := lr_split hE hi
  have ht := lr_tab1 n hn b hb
  have c0 : lr_c (n + 1) (2 * b) = lr_fz (2 ^ n + b) := by
    unfold lr_c
    rw [if_neg (by omega), if_pos (by omega), Nat.add_sub_cancel, Nat.mul_div_cancel_left b (by omega)]
  have c1 : lr_c (n + 1) (2 * b + 1) = -lr_fz (2 ^ n + b) := by
    unfold lr_c
    rw [if_neg (by omega), if_neg (by omega), Nat.add_sub_cancel, show (2 * b + 1) / 2 = b by omega]
  have hm : 2 * len * b = len * (2 * b) := by rw [Nat.mul_comm 2 len, Nat.mul_assoc]
  have h0 : 0 < len := by omega
  have m1 : ∀ k, k < 2 * len → (2 * len * b + k) % (2 * len) = k := fun k hk => by rw [Nat.mul_add_mod, Nat.mod_eq_of_lt hk]
  have m2 : 2 * len * b / (2 * len) = b := Nat.mul_div_cancel_left b (by omega)
  have m3 : ∀ k, k < len → (2 * len * b + k) % len = k := fun k hk => by rw [hm, Nat.mul_add_mod, Nat.mod_eq_of_lt hk]
  have m4 : 2 * len * b / len = 2 * b := by rw [hm]; exact Nat.mul_div_cancel_left (2 * b) h0
  have m5 : (2 * len * b + len) / len = 2 * b + 1 := by rw [Nat.add_div_right _ h0, m4]
  have m6 : (2 * len * b + len) % len = 0 := by rw [Nat.add_mod_right]; exact m3 0 h0
  have lo := fun (k : Nat) (hk : k < len) => lr_qL_lo (k0 := 2 ^ n) (b := b) (f := g) hk
  have hi' := fun (k : Nat) (hk : k < len) => lr_qL_hi (k0 := 2 ^ n) (b := b) (f := g) hk
  have m10 := m1 0 (by omega)
  have m30 := m3 0 h0
  rw [Nat.add_zero] at m10 m30
  rcases Nat.eq_zero_or_pos r with z | z
  · subst z
    have a1 : lr_sf n (2 * len) g (2 * len * b) = lr_c n b * g (2 * len * b + 2 * len - 1) := lr_sf_0 m10 m2
    have a2 : lr_sf n (2 * len) g (2 * len * b + len) = g (2 * len * b + len - 1) := lr_sf_s (by rw [m1 len (by omega)]; omega)
    have b1 := lo (len - 1) (by omega)
    have b2 := hi' (len - 1) (by omega)
    rw [show 2 * len * b + (len - 1) + len = 2 * len * b + 2 * len - 1 by omega, show 2 * len * b + (len - 1) = 2 * len * b + len - 1 by omega] at b1 b2
    rcases e with e | e
    · rw [e, lr_qL_lo h0, Nat.add_zero, a1, a2, lr_sf_0 m30 m4, c0, b1, ← ht]
      grind
    · have a3 : lr_sf (n + 1) len (lr_qL len (2 ^ n) g) (2 * len * b + len) = lr_c (n + 1) (2 * b + 1) * lr_qL len (2 ^ n) g (2 * len * b + len + len - 1) := lr_sf_0 m6 m5
      rw [e, lr_qL_hi h0, Nat.add_zero, a1, a2, a3, c1, show 2 * len * b + len + len - 1 = 2 * len * b + 2 * len - 1 by omega, b2, ← ht]
      grind
  · have a1 : lr_sf n (2 * len) g (2 * len * b + r) = g (2 * len * b + r - 1) := lr_sf_s (by rw [m1 r (by omega)]; omega)
    have a2 : lr_sf n (2 * len) g (2 * len * b + r + len) = g (2 * len * b + r + len - 1) := lr_sf_s (by rw [Nat.add_assoc, m1 (r + len) (by omega)]; omega)
    have b1 := lo (r - 1) (by omega)
    have b2 := hi' (r - 1) (by omega)
    rw [show 2 * len * b + (r - 1) + len = 2 * len * b + r + len - 1 by omega, show 2 * len * b + (r - 1) = 2 * len * b + r - 1 by omega] at b1 b2
    rcases e with e | e
    · rw [e, lr_qL_lo hr, a1, a2, lr_sf_s (by rw [m3 r hr]; omega), b1]
    · rw [e, lr_qL_hi hr, a1, a2, lr_sf_s (by rw [Nat.add_mod_right, m3 r hr]; omega), b2]
theorem lr_qN_sf (f : lr_Y) : lr_eq (lr_qN (lr_sf 0 256 f)) (lr_sf 7 2 (lr_qN f)) := by
  have st : ∀ {n len : Nat} {u y : lr_Y}, n < 7 → 2 * len * 2 ^ n = 256 → lr_eq u (lr_sf n (2 * len) y) → lr_eq (lr_qL len (2 ^ n) u) (lr_sf (n + 1) len (lr_qL len (2 ^ n) y)) := fun hn hE h i hi => (lr_qL_congr hE h i hi).trans (lr_qL_sf hn hE _ i hi)
  have h0 : lr_eq (lr_sf 0 256 f) (lr_sf 0 (2 * 128) f) := fun i _ => rfl
  have h1 := st (n := 0) (len := 128) (by decide) rfl h0
  have h2 := st (n := 1) (len := 64) (by decide) rfl h1
  have h3 := st (n := 2) (len := 32) (by decide) rfl h2
  have h4 := st (n := 3) (len := 16) (by decide) rfl h3
  have h5 := st (n := 4) (len := 8) (by decide) rfl h4
  have h6 := st (n := 5) (len := 4) (by decide) rfl h5
  exact st (n := 6) (len := 2) (by decide) rfl h6
theorem lr_2285 : (2285 : Fin 3329) * 169 = 1 := by decide
theorem lr_qM_one (f : lr_Y) : lr_eq (lr_qM f lr_one) f := by
  have h1 : lr_eq (lr_qW (lr_qN f) (lr_qN lr_one)) (fun i => 169 * lr_qN f i) := by
    intro i hi
    rw [lr_qW_congr (fun _ _ => rfl) lr_qN_one i hi]
    unfold lr_qW lr_u
    by_cases h : i % 2 = 0
    · rw [if_pos h, if_pos h, if_neg (by omega : ¬ (i + 1) % 2 = 0)]
      grind
    · rw [if_neg h, if_neg h, if_pos (by omega : (i - 1) % 2 = 0)]
      grind
  intro i hi
  have h2 : lr_qM f lr_one i = _ := lr_qV_congr h1 i hi
  rw [h2, lr_qV_mul]
  dsimp only
  rw [lr_qVN f i hi]
  have := lr_2285
  grind
def lr_X : lr_Y := fun i => if i = 1 then 1 else 0
theorem lr_qM_X (f : lr_Y) : lr_eq (lr_qM f lr_X) (lr_sf 0 256 f) := by
  have h0 : lr_eq lr_X (lr_sf 0 256 lr_one) := by
    intro i hi
    unfold lr_X lr_sf lr_one
    by_cases h : i = 0
    · rw [if_neg (by omega), if_pos (by omega), if_neg (by omega)]
      grind
    · rw [if_neg (by omega : ¬ i % 256 = 0)]
      by_cases h1 : i = 1
      · rw [if_pos h1, if_pos (by omega)]
      · rw [if_neg h1, if_neg (by omega)]
  have h1 : lr_eq (lr_qN lr_X) (lr_sf 7 2 (lr_u 2)) := fun i hi => by
    rw [lr_qN_congr h0 i hi, lr_qN_sf _ i hi]
    exact lr_sf_congr (nb := 128) rfl lr_qN_one i hi
  have h2 : lr_eq (lr_qW (lr_qN f) (lr_qN lr_X)) (fun i => 169 * lr_qN (lr_sf 0 256 f) i) := by
    intro i hi
    rw [lr_qW_congr (fun _ _ => rfl) h1 i hi]
    dsimp only
    rw [lr_qN_sf f i hi]
    unfold lr_qW lr_sf lr_u
    by_cases h : i % 2 = 0
    · have a1 : ¬ (i + 1) % 2 = 0 := by omega
      simp only [if_pos h, if_neg a1, Nat.add_sub_cancel, show i + 2 - 1 = i + 1 by omega]
      grind
    · have a1 : (i - 1) % 2 = 0 := by omega
      have a2 : ¬ (i - 1 + 2 - 1) % 2 = 0 := by omega
      simp only [if_neg h, if_pos a1, if_neg a2]
      grind
  intro i hi
  have h3 : lr_qM f lr_X i = _ := lr_qV_congr h2 i hi
  rw [h3, lr_qV_mul]
  dsimp only
  rw [lr_qVN _ i hi]
  have := lr_2285
  grind
end
section
/-! plain law, joined: what the class computes is the product of the field's transform -/
/-- F's places are below B, and are f in the field -/
def lr_as (B : Int) (F : Nat → Int32) (f : lr_Y) : Prop := ∀ i, i < 256 → lr_bd B (F i) ∧ lr_p (F i) = f i
theorem lr_lay_spec {len k0 nb : Nat} {B : Int} {F : Nat → Int32} {f : lr_Y} (hE : 2 * len * nb = 256) (hk : k0 + nb ≤ 128) (hB : B + 3328 ≤ 32767) (h : lr_as B F f) : lr_as (B + 3328) (lr_lay len k0 F) (lr_qL len k0 f) := by
  intro i hi
  obtain ⟨b, r, hb, hr, hl, e⟩ := lr_split hE hi
  obtain ⟨a1, a2⟩ := h (2 * len * b + r) (by omega)
  obtain ⟨b1, b2⟩ := h (2 * len * b + r + len) hl
  have hz := lr_fz_eq (j := k0 + b) (by omega)
  obtain ⟨m1, m2⟩ := lr_mm_spec (lr_z_bd (j := k0 + b) (by omega)) b1 (by omega)
  rcases e with e | e
  · rw [e, lr_lay_lo hr, lr_qL_lo hr]
    obtain ⟨s1, s2⟩ := lr_add_spec a1 m1 hB
    refine ⟨s1, ?_⟩
    rw [s2, m2, a2, b2]
    grind
  · rw [e, lr_lay_hi hr, lr_qL_hi hr]
    obtain ⟨s1, s2⟩ := lr_sub_spec a1 m1 hB
    refine ⟨s1, ?_⟩
    rw [s2, m2, a2, b2]
    grind
theorem lr_ily_spec {len k0 nb : Nat} {F : Nat → Int32} {f : lr_Y} (hE : 2 * len * nb = 256) (hk : k0 + nb ≤ 128) (h : lr_as 3329 F f) : lr_as 3329 (lr_ily len k0 F) (lr_qI len k0 f) := by
  intro i hi
  obtain ⟨b, r, hb, hr, hl, e⟩ := lr_split hE hi
  obtain ⟨a1, a2⟩ := h (2 * len * b + r) (by omega)
  obtain ⟨b1, b2⟩ := h (2 * len * b + r + len) hl
  have hz := lr_fi_eq (j := k0 + b) (by omega)
  rcases e with e | e
  · rw [e, lr_ily_lo hr, lr_qI_lo hr]
    obtain ⟨s1, s2⟩ := lr_add_spec a1 b1 (by decide)
    obtain ⟨t1, t2, t3⟩ := lr_br_spec (a := (F (2 * len * b + r) + F (2 * len * b + r + len)).toInt16.toInt32) (by have := s1.1; omega) (by have := s1.2; omega)
    refine ⟨⟨by omega, t2⟩, ?_⟩
    rw [t3, s2, a2, b2]
  · rw [e, lr_ily_hi hr, lr_qI_hi hr]
    obtain ⟨s1, s2⟩ := lr_sub_spec a1 b1 (by decide)
    obtain ⟨m1, m2⟩ := lr_mm_spec (lr_zi_bd (j := k0 + b) (by omega)) s1 (by decide)
    refine ⟨m1.mono (by decide), ?_⟩
    rw [m2, s2, a2, b2]
    grind
theorem lr_ntt_spec {F : Nat → Int32} {f : lr_Y} (h : lr_as 3329 F f) : lr_as 26625 (lr_ntt F) (lr_qN f) := by
  have h1 := lr_lay_spec (len := 128) (k0 := 1) (nb := 1) rfl (by decide) (by decide) h
  have h2 := lr_lay_spec (len := 64) (k0 := 2) (nb := 2) rfl (by decide) (by decide) h1
  have h3 := lr_lay_spec (len := 32) (k0 := 4) (nb := 4) rfl (by decide) (by decide) h2
  have h4 := lr_lay_spec (len := 16) (k0 := 8) (nb := 8) rfl (by decide) (by decide) h3
  have h5 := lr_lay_spec (len := 8) (k0 := 16) (nb := 16) rfl (by decide) (by decide) h4
  have h6 := lr_lay_spec (len := 4) (k0 := 32) (nb := 32) rfl (by decide) (by decide) h5
  have h7 := lr_lay_spec (len := 2) (k0 := 64) (nb := 64) rfl (by decide) (by decide) h6
  exact h7
theorem lr_inv_spec {F : Nat → Int32} {f : lr_Y} (h : lr_as 3329 F f) : lr_as 3328 (lr_inv F) (lr_qV f) := by
  have h1 := lr_ily_spec (len := 2) (k0 := 0) (nb := 64) rfl (by decide) h
  have h2 := lr_ily_spec (len := 4) (k0 := 64) (nb := 32) rfl (by decide) h1
  have h3 := lr_ily_spec (len := 8) (k0 := 96) (nb := 16) rfl (by decide) h2
  have h4 := lr_ily_spec (len := 16) (k0 := 112) (nb := 8) rfl (by decide) h3
  have h5 := lr_ily_spec (len := 32) (k0 := 120) (nb := 4) rfl (by decide) h4
  have h6 := lr_ily_spec (len := 64) (k0 := 124) (nb := 2) rfl (by decide) h5
  have h7 := lr_ily_spec (len := 128) (k0 := 126) (nb := 1) rfl (by decide) h6
  have h8 : lr_as 3329 (lr_invL 7 F) (lr_qJ f) := h7
  intro i hi
  obtain ⟨a1, a2⟩ := h8 i hi
  have hz := lr_fi_eq (j := 127) (by decide)
  obtain ⟨m1, m2⟩ := lr_mm_spec a1 (lr_zi_bd (j := 127) (by decide)) (by decide)
  refine ⟨m1, ?_⟩
  show lr_p (lr_mm (lr_invL 7 F i) (lr_zi 127)) = lr_fi 127 * lr_qJ f i
  rw [m2, a2]
  grind
theorem lr_red_spec {F : Nat → Int32} {f : lr_Y} {B : Int} (hB : B ≤ 32767) (h : lr_as B F f) : lr_as 3329 (lr_red F) f := by
  intro i hi
  obtain ⟨a1, a2⟩ := h i hi
  obtain ⟨t1, t2, t3⟩ := lr_br_spec (a := F i) (by have := a1.1; omega) (by have := a1.2; omega)
  exact ⟨⟨by show -3329 ≤ (lr_br (F i)).toInt; omega, t2⟩, t3.trans a2⟩
theorem lr_zp_spec {j : Nat} (h : j < 128) : lr_bd 3328 (lr_zp j) ∧ lr_p (lr_zp j) * 169 = lr_c 7 j := by
  have hz := lr_z_bd (j := 64 + j / 2) (by omega)
  have he := lr_fz_eq (j := 64 + j / 2) (by omega)
  unfold lr_zp lr_c
  rw [if_neg (by decide : ¬ (7 : Nat) = 0)]
  by_cases a : j % 2 = 0
  · rw [if_pos a, if_pos a]
    exact ⟨hz, he⟩
  · rw [if_neg a, if_neg a]
    have hm : (-1 * lr_z (64 + j / 2)).toInt = -1 * (lr_z (64 + j / 2)).toInt := by
      rw [Int32.toInt_mul]
      have := hz.1
      have := hz.2
      exact lr_32 (by show _ ≤ -1 * (lr_z (64 + j / 2)).toInt; omega) (by show -1 * (lr_z (64 + j / 2)).toInt < _; omega)
    have h1 := hz.1
    have h2 := hz.2
    have ht := lr_t16' (x := -1 * lr_z (64 + j / 2)) (by omega) (by omega)
    rw [hm] at ht
    refine ⟨⟨by omega, by omega⟩, ?_⟩
    show lr_q _ * 169 = -lr_fz (64 + j / 2)
    rw [ht, lr_q_mul]
    have h3 : lr_q (-1) = -1 := by decide
    have he : lr_q (lr_z (64 + j / 2)).toInt * 169 = lr_fz (64 + j / 2) := he
    rw [h3]
    grind
theorem lr_pw_spec {F1 F2 : Nat → Int32} {f1 f2 : lr_Y} (h1 : lr_as 3329 F1 f1) (h2 : lr_as 3329 F2 f2) : lr_as 6656 (lr_pw F1 F2) (lr_qW f1 f2) := by
  intro i hi
  unfold lr_pw lr_qW
  by_cases a : i % 2 = 0
  · rw [if_pos a, if_pos a]
    obtain ⟨a1, a2⟩ := h1 i hi
    obtain ⟨a3, a4⟩ := h1 (i + 1) (by omega)
    obtain ⟨b1, b2⟩ := h2 i hi
    obtain ⟨b3, b4⟩ := h2 (i + 1) (by omega)
    obtain ⟨z1, z2⟩ := lr_zp_spec (j := i / 2) (by omega)
    obtain ⟨m1, m2⟩ := lr_mm_spec a3 b3 (by decide)
    obtain ⟨n1, n2⟩ := lr_mm_spec m1 z1 (by decide)
    obtain ⟨o1, o2⟩ := lr_mm_spec a1 b1 (by decide)
    obtain ⟨s1, s2⟩ := lr_add_spec n1 o1 (by decide)
    refine ⟨s1, ?_⟩
    show lr_p (lr_mm (lr_mm (F1 (i + 1)) (F2 (i + 1))) (lr_zp (i / 2)) + lr_mm (F1 i) (F2 i)).toInt16.toInt32 = _
    rw [s2, n2, m2, o2, a2, a4, b2, b4]
    grind
  · rw [if_neg a, if_neg a]
    obtain ⟨a1, a2⟩ := h1 i hi
    obtain ⟨a3, a4⟩ := h1 (i - 1) (by omega)
    obtain ⟨b1, b2⟩ := h2 i hi
    obtain ⟨b3, b4⟩ := h2 (i - 1) (by omega)
    obtain ⟨m1, m2⟩ := lr_mm_spec a3 b1 (by decide)
    obtain ⟨n1, n2⟩ := lr_mm_spec a1 b3 (by decide)
    obtain ⟨s1, s2⟩ := lr_add_spec m1 n1 (by decide)
    refine ⟨s1, ?_⟩
    show lr_p (lr_mm (F1 (i - 1)) (F2 i) + lr_mm (F1 i) (F2 (i - 1))).toInt16.toInt32 = _
    rw [s2, m2, n2, a2, a4, b2, b4]
    grind
/-- the places are 0 .. 3328 -/
def lr_can (F : Nat → Int32) : Prop := ∀ i, i < 256 → 0 ≤ (F i).toInt ∧ (F i).toInt ≤ 3328
def lr_pf (F : Nat → Int32) : lr_Y := fun i => lr_p (F i)
theorem lr_can.as {F : Nat → Int32} (h : lr_can F) : lr_as 3329 F (lr_pf F) := fun i hi => ⟨⟨by have := (h i hi).1; omega, by have := (h i hi).2; omega⟩, rfl⟩
theorem lr_can_eq {x y : Int32} (h1 : 0 ≤ x.toInt ∧ x.toInt ≤ 3328) (h2 : 0 ≤ y.toInt ∧ y.toInt ≤ 3328) (h : lr_p x = lr_p y) : x = y := by
  apply Int32.toInt_inj.mp
  have := lr_q_of h
  omega
theorem lr_fair_spec {F : Nat → Int32} {f : lr_Y} {B : Int} (hB : B ≤ 32768) (h : lr_as B F f) : lr_can (lr_fair F) ∧ lr_eq (lr_pf (lr_fair F)) f := by
  refine ⟨fun i hi => ?_, fun i hi => ?_⟩
  · obtain ⟨t1, t2, -⟩ := lr_fr_spec (c := F i) ((h i hi).1.mono hB)
    exact ⟨t1, t2⟩
  · obtain ⟨-, -, t3⟩ := lr_fr_spec (c := F i) ((h i hi).1.mono hB)
    exact t3.trans (h i hi).2
theorem lr_mul_spec {F G : Nat → Int32} (hF : lr_can F) (hG : lr_can G) : lr_can (lr_mul F G) ∧ lr_eq (lr_pf (lr_mul F G)) (lr_qM (lr_pf F) (lr_pf G)) :=
  lr_fair_spec (by decide) (lr_inv_spec (lr_red_spec (by decide) (lr_pw_spec (lr_red_spec (by decide) (lr_ntt_spec hF.as)) (lr_red_spec (by decide) (lr_ntt_spec hG.as)))))
theorem lr_add_sp {F G : Nat → Int32} (hF : lr_can F) (hG : lr_can G) : lr_can (lr_add F G) ∧ lr_eq (lr_pf (lr_add F G)) (fun i => lr_pf F i + lr_pf G i) := by
  have h : lr_as 6658 (lr_sum F G) (fun i => lr_pf F i + lr_pf G i) := fun i hi => lr_add_spec (hF.as i hi).1 (hG.as i hi).1 (by decide)
  exact lr_fair_spec (by decide) (lr_red_spec (by decide) h)
-- the law's rows
theorem lr_law_comm {F G : Nat → Int32} (hF : lr_can F) (hG : lr_can G) : ∀ i, i < 256 → lr_mul F G i = lr_mul G F i := by
  intro i hi
  obtain ⟨a1, a2⟩ := lr_mul_spec hF hG
  obtain ⟨b1, b2⟩ := lr_mul_spec hG hF
  refine lr_can_eq (a1 i hi) (b1 i hi) ?_
  show lr_pf (lr_mul F G) i = lr_pf (lr_mul G F) i
  rw [a2 i hi, b2 i hi, lr_qM_comm]
theorem lr_law_assoc {F G K : Nat → Int32} (hF : lr_can F) (hG : lr_can G) (hK : lr_can K) : ∀ i, i < 256 → lr_mul (lr_mul F G) K i = lr_mul F (lr_mul G K) i := by
  intro i hi
  obtain ⟨a1, a2⟩ := lr_mul_spec hF hG
  obtain ⟨b1, b2⟩ := lr_mul_spec hG hK
  obtain ⟨c1, c2⟩ := lr_mul_spec a1 hK
  obtain ⟨d1, d2⟩ := lr_mul_spec hF b1
  refine lr_can_eq (c1 i hi) (d1 i hi) ?_
  show lr_pf (lr_mul (lr_mul F G) K) i = lr_pf (lr_mul F (lr_mul G K)) i
  rw [c2 i hi, d2 i hi, lr_qM_congr a2 (fun _ _ => rfl) i hi, lr_qM_congr (fun _ _ => rfl) b2 i hi, lr_qM_assoc _ _ _ i hi]
theorem lr_law_dist {F G K : Nat → Int32} (hF : lr_can F) (hG : lr_can G) (hK : lr_can K) : ∀ i, i < 256 → lr_mul (lr_add F G) K i = lr_add (lr_mul F K) (lr_mul G K) i := by
  intro i hi
  obtain ⟨a1, a2⟩ := lr_add_sp hF hG
  obtain ⟨b1, b2⟩ := lr_mul_spec hF hK
  obtain ⟨c1, c2⟩ := lr_mul_spec hG hK
  obtain ⟨d1, d2⟩ := lr_mul_spec a1 hK
  obtain ⟨e1, e2⟩ := lr_add_sp b1 c1
  refine lr_can_eq (d1 i hi) (e1 i hi) ?_
  show lr_pf (lr_mul (lr_add F G) K) i = lr_pf (lr_add (lr_mul F K) (lr_mul G K)) i
  rw [d2 i hi, e2 i hi, lr_qM_congr a2 (fun _ _ => rfl) i hi, lr_qM_addl]
  dsimp only
  rw [b2 i hi, c2 i hi]
theorem lr_pvc (v : Int32) : 0 ≤ (lr_pv v).toInt ∧ (lr_pv v).toInt ≤ 3328 := by
  obtain ⟨j, hj, e⟩ := lr_pvN v
  have := nI_toInt (n := j) (by omega)
  rw [e]
  omega
theorem lr_can_spr (a b : Int32) : lr_can (lr_spr a b) := fun _ _ => lr_pvc _
theorem lr_can_0 : lr_can (fun _ => 0) := fun _ _ => (by decide : 0 ≤ (0 : Int32).toInt ∧ (0 : Int32).toInt ≤ 3328)
theorem lr_can_upd {f : Nat → Int32} (h : lr_can f) (k : Nat) (v : Int32) : lr_can (upd f k (lr_pv v)) := fun j hj => by
  unfold upd
  by_cases a : j = k
  · rw [if_pos a]; exact lr_pvc v
  · rw [if_neg a]; exact h j hj
theorem lr_spr0 (i : Nat) : lr_spr 0 0 i = 0 := by
  show lr_pv (0 + nI i * 0) = 0
  rw [Int32.mul_zero]
  decide
/-- all zero but for a 1 at k -/
theorem lr_unit (k i : Nat) : lr_pf (upd (lr_spr 0 0) k (lr_pv 1)) i = if i = k then 1 else 0 := by
  unfold lr_pf upd
  by_cases a : i = k
  · rw [if_pos a, if_pos a]
    decide
  · rw [if_neg a, if_neg a, lr_spr0]
    decide
theorem lr_law_one {F : Nat → Int32} (hF : lr_can F) : ∀ i, i < 256 → lr_mul F (upd (lr_spr 0 0) 0 (lr_pv 1)) i = F i := by
  intro i hi
  obtain ⟨a1, a2⟩ := lr_mul_spec hF (lr_can_upd (lr_can_spr 0 0) 0 1)
  refine lr_can_eq (a1 i hi) (hF i hi) ?_
  show lr_pf (lr_mul F (upd (lr_spr 0 0) 0 (lr_pv 1))) i = lr_pf F i
  rw [a2 i hi, lr_qM_congr (fun _ _ => rfl) (fun j _ => lr_unit 0 j) i hi]
  exact lr_qM_one _ i hi
theorem lr_law_X {F : Nat → Int32} (hF : lr_can F) : lr_can (lr_mul F (upd (lr_spr 0 0) 1 (lr_pv 1))) ∧ (∀ i, i < 255 → lr_mul F (upd (lr_spr 0 0) 1 (lr_pv 1)) (i + 1) = F i) ∧ lr_p (lr_mul F (upd (lr_spr 0 0) 1 (lr_pv 1)) 0) = -lr_p (F 255) := by
  obtain ⟨a1, a2⟩ := lr_mul_spec hF (lr_can_upd (lr_can_spr 0 0) 1 1)
  have key : ∀ i, i < 256 → lr_pf (lr_mul F (upd (lr_spr 0 0) 1 (lr_pv 1))) i = lr_sf 0 256 (lr_pf F) i := fun i hi => by
    rw [a2 i hi, lr_qM_congr (fun _ _ => rfl) (fun j _ => lr_unit 1 j) i hi]
    exact lr_qM_X _ i hi
  refine ⟨a1, fun i hi => ?_, ?_⟩
  · refine lr_can_eq (a1 (i + 1) (by omega)) (hF i (by omega)) ?_
    have h := key (i + 1) (by omega)
    rw [lr_sf_s (by omega), Nat.add_sub_cancel] at h
    exact h
  · have h := key 0 (by decide)
    rw [lr_sf_0 (b := 0) rfl rfl] at h
    have h2 : lr_c 0 0 = -1 := rfl
    rw [h2] at h
    have h3 : lr_p (lr_mul F (upd (lr_spr 0 0) 1 (lr_pv 1)) 0) = -1 * lr_p (F 255) := h
    rw [h3]
    grind
end
section
/-! THE CLAIM OUT OF ONE WALK OF THE LAW'S BODY. Your part is whole_start (and what it stands on); all else here is the same for every law, but numbers. -/
def R_law : String := "LatticeRingLaw"
def lw_P (b : Addr) (xs : List Int32) (args : Array Value) (s : State) : Prop := args = #[.ref b] ∧ s.IntsAt b xs ∧ xs.length ≤ 24 ∧ (Jvm.Cond.and given_1 narrow_1).before args s = true
def lw_Q (_ : Array Value) (s : State) (o : Outcome) (t : State) : Prop := o = .returned (some (.int 1)) ∧ Framed s o t [] 600000 7302250
def lw_Z (below : List Frame) (a : Array Value) (s : State) : State → Prop := fun t => ∃ o, t.status = .running ∧ Ended t below o ∧ lw_Q a s o t
/-- the law's own end, with 1 on the stack, nothing written that was there before, its room as the claim has it -/
theorem lw_ret {p : Program} {l : Launch} {e : Env} {s : State} {m : MethodId} {below : List Frame} {meth : Method} {c : Code} {b : Nat} (hx : p.tables.exec = Jvm.exec) (hb : c.code = code) (hr : meth.sig.returnType = ret) (hlocks : meth.locks = false) {pc : Nat} {H : Heap} {ls : Array Slot} (hdg : decode code pc = .ok (.ireturn, 1)) : W p l e room_1 s m #[Value.ref b] below meth c H [] 600000 7302250 (lw_Z below #[Value.ref b] s) (F0 m pc ls [.int 1]) := by
  intro T hT X
  obtain ⟨fs, hret, hrun, hended, hW, hframe⟩ := X.leave (v := some (.int 1)) (hlocks := hlocks) (fun h => by rw [hr] at h; cases h)
  have hmeth' : T.vm.method? m = some meth := X.method'
  refine ⟨T.setFrames fs, ?_, .returned (some (.int 1)), hrun, hended, rfl, ⟨_, rfl⟩, hW, hframe⟩
  jvm_step X.here [X.here.top, hx, hb, hdg, hmeth', hr, ret, narrow_b1]
  (try refine ⟨rfl, ?_⟩); (try refine ⟨rfl, ?_⟩)
  first | (intro acts; rw [hret _ acts rfl rfl rfl]) | rw [hret _ _ rfl rfl rfl]
  exact Steps.refl _
/-- what holds at the law's entry: the machine, the code, the tables' words (any of lw_tbl by 'hts w (by decide +kernel)'), the script of L ints xs at the cell b, what the Statement gives of the start (any of its parts by flat_of_before) -/
def lw_At (p : Program) (s : State) (m : MethodId) (meth : Method) (c : Code) (b L : Nat) (xs : Nat → Int32) : Prop :=
  p.tables.exec = Jvm.exec ∧ c.code = code ∧ meth.sig.returnType = ret ∧ c.maxLocals = 8 ∧ s.vm.findClass R_law = some m.cls ∧ (∀ w ∈ lw_tbl, w.before #[Value.ref b] s = true) ∧ va_X b L xs s s.heap ∧ b < s.heap.size ∧ meth.locks = false ∧ (Jvm.Cond.and given_1 narrow_1).before #[Value.ref b] s = true
/-! what the law's start gives, and the law's own picture -/
set_option maxRecDepth 100000 in
theorem lr_zw : ∀ j, j < 128 → (flatC (Jvm.Cond.and given_1 narrow_1))[7 + j]? = some (Cond.eq (.elem (.static "Ntt" "ZETAS" "[S") (.int (Int32.ofNat j))) (.int (lr_z j))) := by decide +kernel
set_option maxRecDepth 100000 in
theorem lr_ziw : ∀ j, j < 128 → (flatC (Jvm.Cond.and given_1 narrow_1))[138 + j]? = some (Cond.eq (.elem (.static "Ntt" "ZETAS_INV" "[S") (.int (Int32.ofNat j))) (.int (lr_zi j))) := by decide +kernel
set_option maxRecDepth 100000 in
theorem lr_zo : (flatC (Jvm.Cond.and given_1 narrow_1))[5]? = some (Cond.arrayOf (.static "Ntt" "ZETAS" "[S") .short) ∧ (flatC (Jvm.Cond.and given_1 narrow_1))[6]? = some (Cond.eq (.length (.static "Ntt" "ZETAS" "[S")) (.int 128)) ∧ (flatC (Jvm.Cond.and given_1 narrow_1))[136]? = some (Cond.arrayOf (.static "Ntt" "ZETAS_INV" "[S") .short) ∧ (flatC (Jvm.Cond.and given_1 narrow_1))[137]? = some (Cond.eq (.length (.static "Ntt" "ZETAS_INV" "[S")) (.int 128)) := by decide +kernel
theorem lr_Tof {args : Array Value} {s : State} (h : (Jvm.Cond.and given_1 narrow_1).before args s = true) (hts0 : ∀ w ∈ lw_tbl, w.before args s = true) : lr_T (fun q => s.heap.size ≤ q) s s.heap := by
  have hs := flat_of_before _ h
  have g : ∀ {i : Nat} {w : Cond}, (flatC (Jvm.Cond.and given_1 narrow_1))[i]? = some w → w.before args s = true := fun e => hs _ (List.mem_of_getElem? e)
  have hA : ∀ a : Nat, a < s.heap.size → ¬ s.heap.size ≤ a := fun a ha => Nat.not_le.mpr ha
  obtain ⟨o1, o2, o3, o4⟩ := lr_zo
  obtain ⟨z1, a1, b1⟩ := va_Tof (N := 128) (f := fun j => .int (lr_z j)) (by decide) (g o1) (va_eqt (g o2)) (fun j hj => va_eqt (g (lr_zw j hj))) hA
  obtain ⟨z2, a2, b2⟩ := va_Tof (N := 128) (f := fun j => .int (lr_zi j)) (by decide) (g o3) (va_eqt (g o4)) (fun j hj => va_eqt (g (lr_ziw j hj))) hA
  exact ⟨z1, z2, va_Zof (hts0 _ q50) (hts0 _ (lw_all_tbl q4)) a1 hA, b1, va_Zof (hts0 _ q82) (hts0 _ (lw_all_tbl q4)) a2 hA, b2⟩
theorem lr_arr {s : State} {args : Array Value} {ty : FieldType} (h : (Cond.arrayClass ty).before args s = true) : ∃ cA : ClassId, ArrOfT s cA ty ∧ s.vm.findClass ("[" ++ ty.toString) = some cA := by
  obtain ⟨cA, kA, comp, h1, h2, h3⟩ := Cond.arrayClass_spec h
  exact ⟨cA, fun n z => ⟨fun k h => (by cases h), kA, h2, comp, h3⟩, h1⟩
theorem lr_Kof {args : Array Value} {s : State} (hts0 : ∀ w ∈ lw_tbl, w.before args s = true) : ∃ G : lr_G, lr_K G s := by
  have hts : ∀ w ∈ lw_all, w.before args s = true := fun w h => hts0 w (lw_all_tbl h)
  obtain ⟨c0_, iS0, hKn0⟩ := u_known (C := RX1) (T := TX1) (N := 2) (n := 2) hts in_X1 (hts _ q106)
  obtain ⟨c1_, iS1, hKn1⟩ := u_known (C := RX2) (T := TX2) (N := 1) (n := 1) hts in_X2 (hts _ q26)
  obtain ⟨cS, aS, nS⟩ := lr_arr (hts _ q37)
  obtain ⟨cI, aI, nI'⟩ := lr_arr (hts _ q126)
  have hAO : va_AO "Poly" s := va_AO.of (hts0 _ q111)
  obtain ⟨comp, cQ, kQ, h1, -, h3, h4, h5⟩ := Cond.arrayOver_spec (hts0 _ q111)
  refine ⟨((fun k => if k = 0 then c0_ else c1_, fun k => if k = 0 then iS0 else iS1), cS, cQ, cI), ⟨fun k q hq => ?_, fun k q hq => ?_⟩, hAO⟩
  · match k, hq with
    | 0, hq => cases hq; exact hKn0
    | 1, hq => cases hq; exact hKn1
    | k + 2, hq => simp [vwCl] at hq
  · match k, hq with
    | 0, hq => cases hq; exact ⟨aS, nS⟩
    | 1, hq => cases hq; exact ⟨fun n z => ⟨fun k h => (by cases h), kQ, h3, comp, h4⟩, kQ, comp, h3, h4, h1, h5⟩
    | 2, hq => cases hq; exact ⟨aI, nI'⟩
    | k + 3, hq => simp at hq
/-- int[3][256] -/
theorem lr_multi {p : Program} {l : Launch} {e : Env} {R : Room} {s : State} {m : MethodId} {args : Array Value} {below : List Frame} {meth : Method} {c : Code} {H : Heap} {locs : List Loc} {cells slots : Nat} {Q : State → Prop} {cc : ByteArray} {pc : Nat} {ls : Array Slot} {rest : List Value} {G : lr_G}
    (hx : p.tables.exec = Jvm.exec) (hb : c.code = cc) (hts : ∀ w ∈ lw_all, w.before args s = true) {own : String} {index a : Nat} (ha : H.size = a) (hown : s.vm.findClass own = some m.cls) (hcl : (Cond.classLink own index "[[I") ∈ lw_all) (hao : (Cond.arrayOver (.array .int)).before args s = true) (hK : lr_K G s) (hcells : cells + 4 ≤ R.cells) (hslots : slots + 771 ≤ R.slots) (hdg : decode cc pc = .ok (.multianewarray index 2, 4))
    (kk : ∀ (H1 : Heap) (oc : Cell), H1[a]? = some oc → s.isArrayOf oc (.array .int) → oc.vm ≠ .unknown → oc.slots.size = 3 → (∀ j, j < 3 → oc.slots[j]? = some (.ref (a + 1 + j))) → (∀ j, j < 3 → H1[a + 1 + j]? = some (vp_cell G.2.2.2 (256, .inl (fun _ => 0)))) → H1.size = a + 4 → (∀ q, q < a → H1[q]? = H[q]?) →
      W p l e R s m args below meth c H1 locs (cells + 4) (slots + 771) Q (F0 m (pc + 4) ls (.ref a :: rest))) : W p l e R s m args below meth c H locs cells slots Q (F0 m pc ls (.int (nI 256) :: .int (nI 3) :: rest)) := by
  subst ha
  intro T hT X
  subst hT; subst hb
  have c3 : (nI 3).toNatClampNeg = 3 := nI_clamp (by omega)
  have c256 : (nI 256).toNatClampNeg = 256 := nI_clamp (by omega)
  have e2 : "[" ++ (FieldType.array FieldType.int).toString = "[[I" := by decide +kernel
  obtain ⟨vm₁, cA, comp, hW, hfA, hfC, hO, hI, X1, step⟩ := X.multianewarray2F hx (own := own) (index := index) (ty := .int) hown (by rw [e2]; exact hts _ hcl) hao (hts _ q126) (g := F0 m pc ls (.int (nI 256) :: .int (nI 3) :: rest)) rfl hdg (n := nI 3) (k := nI 256) rfl (nI_pos (by omega)) (nI_pos (by omega)) (by rw [c3]; omega) (by rw [c256]; show 256 * 4 ≤ _; omega) (by rw [c256]; omega) rfl rfl (by rw [c3]; omega) (by rw [c3, c256]; omega)
  rw [c3, c256] at X1 step
  have hcomp : comp = G.2.2.2 := Option.some.inj (hfC.symm.trans hK.nmI)
  subst hcomp
  obtain ⟨f1, f2, -, -⟩ := Jvm.Free.Multi.fill_facts (T.setVm vm₁) cA G.2.2.2 3 256 (defaultValue .int) 3
  have fo := fun (a : Addr) (ha : a < T.heap.size) => Jvm.Free.Multi.fill_old (T.setVm vm₁) cA G.2.2.2 3 256 (defaultValue .int) (a := a) ha 3
  have fi := fun (j : Nat) (hj : j < 3) => Jvm.Free.Multi.fill_inner (T.setVm vm₁) cA G.2.2.2 3 256 (defaultValue .int) 3 j hj
  obtain ⟨o1, o2, o3⟩ := Jvm.Free.Multi.outerC_facts cA 3 T.heap.size 3
  have os := fun (j : Nat) (hj : j < 3) => Jvm.Free.Multi.outerC_slot cA 3 T.heap.size 3 j hj
  obtain ⟨t, a1, b1⟩ := kk _ (Jvm.Free.Multi.outerC cA 3 T.heap.size 3) f2 (hO _ _ _).1 (hO _ _ _).2 o3 (fun j hj => by rw [os j hj, if_pos hj]) (fun j hj => by
    have h := fi j hj
    rw [show Jvm.Free.Multi.innerC G.2.2.2 256 (defaultValue .int) = vp_cell G.2.2.2 (256, .inl (fun _ => 0)) from arrV_new ..] at h
    exact h) f1 fo _ rfl X1
  exact ⟨t, step t a1, b1⟩
/-- the law's own table behind the heap Hm: outer array at o, its three rows -/
def lr_OW (G : lr_G) (Hm : Heap) (o : Nat) (og : Nat → Nat → Int32) (H : Heap) : Prop := H.size = Hm.size ∧ (∀ q, (q ≤ o ∨ o + 4 ≤ q) → H[q]? = Hm[q]?) ∧ ∀ r, r < 3 → H[o + 1 + r]? = some (vp_cell G.2.2.2 (256, .inl (og r)))
theorem lr_OW.set {G : lr_G} {Hm H H1 : Heap} {o r : Nat} {og : Nat → Nat → Int32} {f : Nat → Int32} (x : lr_OW G Hm o og H) (hr : r < 3) (e : lr_HS (o + 1 + r) (vp_cell G.2.2.2 (256, .inl f)) H H1) : lr_OW G Hm o (va_up og r f) H1 := by
  obtain ⟨a1, a2, a3⟩ := x
  refine ⟨e.2.1.trans a1, fun q hq => (e.2.2 q (by omega)).trans (a2 q hq), fun j hj => ?_⟩
  by_cases a : j = r
  · subst a
    rw [va_up_self]
    exact e.1
  · rw [va_up_ne _ _ a, e.2.2 _ (by omega)]
    exact a3 j hj
theorem lr_OW.to {G : lr_G} {Hm H : Heap} {o : Nat} {og og' : Nat → Nat → Int32} (x : lr_OW G Hm o og H) (h : ∀ r, r < 3 → ∀ j, j < 256 → og r j = og' r j) : lr_OW G Hm o og' H := ⟨x.1, x.2.1, fun r hr => by rw [x.2.2 r hr]; exact congrArg some (lr_cell (h r hr))⟩
theorem lr_oald {p : Program} {l : Launch} {e : Env} {R : Room} {s : State} {m : MethodId} {args : Array Value} {below : List Frame} {meth : Method} {c : Code} {H : Heap} {locs : List Loc} {cells slots : Nat} {Q : State → Prop} {cc : ByteArray} {pc : Nat} {ls : Array Slot} {rest : List Value}
    (hx : p.tables.exec = Jvm.exec) (hb : c.code = cc) {o k : Nat} {oc : Cell} (h1 : H[o]? = some oc) (h2 : s.isArrayOf oc (.array .int)) (h3 : oc.vm ≠ .unknown) (h4 : oc.slots.size = 3) (h5 : ∀ j, j < 3 → oc.slots[j]? = some (.ref (o + 1 + j))) {i : Int32} (hi : i = nI k) (hk : k < 3) (hdg : decode cc pc = .ok (.aaload, 1))
    (kk : W p l e R s m args below meth c H locs cells slots Q (F0 m (pc + 1) ls (.ref (o + 1 + k) :: rest))) : W p l e R s m args below meth c H locs cells slots Q (F0 m pc ls (.int i :: .ref o :: rest)) := by
  subst hi
  have hin : vp_in (nI k) 3 := vp_in_nI hk (by decide)
  have hcl : (nI k).toNatClampNeg = k := nI_clamp (by omega)
  exact W.aald (v := .ref (o + 1 + k)) (ty := .array .int) hx hb h1 h2 rfl h3 (by rw [h4]; exact hin) (by rw [hcl]; exact h5 k hk) rfl rfl hdg kk
-- canonical
theorem lr_can_g3 (xs : Nat → Int32) (L r j : Nat) : lr_can (lr_g3 xs L r j) := by
  unfold lr_g3
  split
  · exact lr_can_spr _ _
  · exact lr_can_0
theorem lr_can_puts (xs : Nat → Int32) (g : Nat → Nat → Int32) (hg : ∀ j, lr_can (g j)) : ∀ n j, lr_can (lr_puts xs n g j)
  | 0, j => hg j
  | n + 1, j => by
    show lr_can (va_up _ _ _ j)
    by_cases a : j = (3 + n) % 2
    · subst a
      rw [va_up_self]
      exact lr_can_upd (lr_can_puts xs g hg n _) _ _
    · rw [va_up_ne _ _ a]
      exact lr_can_puts xs g hg n j
theorem lr_can_T3 (xs : Nat → Int32) (L j : Nat) : lr_can (lr_T3 xs L j) := by
  unfold lr_T3
  by_cases a : j = 3
  · subst a
    rw [va_up_self]
    exact lr_can_spr _ _
  · rw [va_up_ne _ _ a]
    exact lr_can_puts xs _ (lr_can_g3 xs L 3) _ j
theorem lr_T3_own (xs : Nat → Int32) (L : Nat) {r : Nat} (h : r < 3) : lr_T3 xs L r = lr_puts xs ((L - 6) / 2) (lr_g3 xs L 3) r := va_up_ne _ _ (by omega)
/-- the law's own sum -/
theorem lr_rem_can {c : Int32} (h1 : 0 ≤ c.toInt) (h2 : c.toInt ≤ 6656) : (c - c / 3329 * 3329).toInt = c.toInt % 3329 := by
  rw [lr_rem_int ⟨by omega, by omega⟩, Int.tmod_eq_emod_of_nonneg h1]
theorem lr_sum_int {x y : Int32} (h1 : 0 ≤ x.toInt ∧ x.toInt ≤ 3328) (h2 : 0 ≤ y.toInt ∧ y.toInt ≤ 3328) : (x + y).toInt = x.toInt + y.toInt := by
  rw [Int32.toInt_add]
  exact lr_32 (by omega) (by omega)
theorem lr_law_sum {F K : Nat → Int32} (hF : lr_can F) (hK : lr_can K) : ∀ i, i < 256 → lr_add F K i = (F i + K i) - (F i + K i) / 3329 * 3329 := by
  intro i hi
  obtain ⟨a1, a2⟩ := lr_add_sp hF hK
  have hs := lr_sum_int (hF i hi) (hK i hi)
  have h1 := hF i hi
  have h2 := hK i hi
  have hr := lr_rem_can (c := F i + K i) (by omega) (by omega)
  refine lr_can_eq (a1 i hi) (by omega) ?_
  refine (a2 i hi).trans ?_
  show lr_q _ + lr_q _ = lr_q _
  rw [← lr_q_add, hr, hs]
  exact lr_q_eq (by omega)
theorem lr_law_sum2 {F K : Nat → Int32} (hF : lr_can F) (hK : lr_can K) : ∀ i, i < 256 → lr_add K F i = (F i + K i) - (F i + K i) / 3329 * 3329 := by
  intro i hi
  rw [lr_law_sum hK hF i hi, Int32.add_comm]
theorem lr_law_sign {x y : Int32} (h1 : 0 ≤ x.toInt ∧ x.toInt ≤ 3328) (h2 : 0 ≤ y.toInt ∧ y.toInt ≤ 3328) (h : lr_p x = -lr_p y) : (x + y) - (x + y) / 3329 * 3329 = 0 := by
  have hs := lr_sum_int h1 h2
  have hr := lr_rem_can (c := x + y) (by omega) (by omega)
  have hq : lr_q (x.toInt + y.toInt) = lr_q 0 := by
    rw [lr_q_add]
    have h : lr_q x.toInt = -lr_q y.toInt := h
    rw [h]
    have h0 : lr_q 0 = 0 := by decide
    rw [h0]
    grind
  have := lr_q_of hq
  apply Int32.toInt_inj.mp
  rw [hr, hs]
  show _ = 0
  omega
-- two rings side by side
def lr_f4 (a b c d : Nat → Int32) : Nat → Nat → Int32 := fun i => match i with
  | 0 => a
  | 1 => b
  | 2 => c
  | _ => d
theorem lr_f4_of {g : Nat → Nat → Int32} : ∀ i, i < 4 → g i = lr_f4 (g 0) (g 1) (g 2) (g 3) i
  | 0, _ => rfl
  | 1, _ => rfl
  | 2, _ => rfl
  | 3, _ => rfl
  | n + 4, h => absurd h (by omega)
theorem lr_f4_0 {a b c d x : Nat → Int32} : ∀ i, i < 4 → va_up (lr_f4 a b c d) 0 x i = lr_f4 x b c d i
  | 0, _ => rfl
  | 1, _ => rfl
  | 2, _ => rfl
  | 3, _ => rfl
  | n + 4, h => absurd h (by omega)
theorem lr_f4_2 {a b c d x : Nat → Int32} : ∀ i, i < 4 → va_up (lr_f4 a b c d) 2 x i = lr_f4 a b x d i
  | 0, _ => rfl
  | 1, _ => rfl
  | 2, _ => rfl
  | 3, _ => rfl
  | n + 4, h => absurd h (by omega)
theorem lr_f4_3 {a b c d x : Nat → Int32} : ∀ i, i < 4 → va_up (lr_f4 a b c d) 3 x i = lr_f4 a b c x i
  | 0, _ => rfl
  | 1, _ => rfl
  | 2, _ => rfl
  | 3, _ => rfl
  | n + 4, h => absurd h (by omega)
/-- x and y, apart, all theirs from n0 on -/
def lr_D2 (G : lr_G) (n0 hx hy : Nat) (Fx Fy : Nat → Prop) (gx gy : Nat → Nat → Int32) (H : Heap) : Prop := lr_LR G hx Fx gx H ∧ lr_LR G hy Fy gy H ∧ (∀ q, Fx q → ¬ Fy q) ∧ (∀ q, Fx q → n0 ≤ q) ∧ (∀ q, Fy q → n0 ≤ q) ∧ n0 ≤ H.size
theorem lr_D2.x1 {G : lr_G} {n0 hx hy : Nat} {Fx Fy : Nat → Prop} {gx gy g : Nat → Nat → Int32} {H H1 : Heap} (d : lr_D2 G n0 hx hy Fx Fy gx gy H) (e : lr_E1 G hx Fx g H H1) {g' : Nat → Nat → Int32} (k : ∀ i, i < 4 → g i = g' i) : lr_D2 G n0 hx hy (fun q => Fx q ∨ (H.size ≤ q ∧ q < H1.size)) Fy g' gy H1 := by
  obtain ⟨a1, a2, a3, a4, a5, a6⟩ := d
  have ly := a2.lt
  exact ⟨e.2.2.to k, a2.kept e.1 (fun q hq => e.2.1 q (ly q hq) (fun z => a3 q z hq)), fun q hq hy => by
    rcases hq with z | z
    · exact a3 q z hy
    · have := ly q hy
      omega, fun q hq => by
    rcases hq with z | z
    · exact a4 q z
    · omega, a5, Nat.le_trans a6 e.1⟩
theorem lr_D2.y1 {G : lr_G} {n0 hx hy : Nat} {Fx Fy : Nat → Prop} {gx gy g : Nat → Nat → Int32} {H H1 : Heap} (d : lr_D2 G n0 hx hy Fx Fy gx gy H) (e : lr_E1 G hy Fy g H H1) {g' : Nat → Nat → Int32} (k : ∀ i, i < 4 → g i = g' i) : lr_D2 G n0 hx hy Fx (fun q => Fy q ∨ (H.size ≤ q ∧ q < H1.size)) gx g' H1 := by
  obtain ⟨a1, a2, a3, a4, a5, a6⟩ := d
  have lx := a1.lt
  exact ⟨a1.kept e.1 (fun q hq => e.2.1 q (lx q hq) (fun z => a3 q hq z)), e.2.2.to k, fun q hq hy => by
    rcases hy with z | z
    · exact a3 q hq z
    · have := lx q hq
      omega, a4, fun q hq => by
    rcases hq with z | z
    · exact a5 q z
    · omega, Nat.le_trans a6 e.1⟩
theorem lr_D2.x0 {G : lr_G} {n0 hx hy : Nat} {Fx Fy : Nat → Prop} {gx gy g : Nat → Nat → Int32} {H H1 : Heap} (d : lr_D2 G n0 hx hy Fx Fy gx gy H) (e : lr_E0 G hx Fx g H H1) {g' : Nat → Nat → Int32} (k : ∀ i, i < 4 → g i = g' i) : lr_D2 G n0 hx hy Fx Fy g' gy H1 := by
  obtain ⟨a1, a2, a3, a4, a5, a6⟩ := d
  exact ⟨e.2.2.to k, a2.kept (Nat.le_of_eq e.1.symm) (fun q hq => e.2.1 q (fun z => a3 q z hq)), a3, a4, a5, by rw [e.1]; exact a6⟩
theorem lr_SE1 {G : lr_G} {h n0 : Nat} {F : Nat → Prop} {g : Nat → Nat → Int32} {H0 H H1 : Heap} {locs L : List Loc} (hS : va_S (fun q => n0 ≤ q) H0 H locs) (e : lr_E1 G h F g H H1) (hF : ∀ q, F q → n0 ≤ q) (hz : n0 ≤ H.size) (hL : ∀ q ∈ L, F q.base ∨ H.size ≤ q.base) : va_S (fun q => n0 ≤ q) H0 H1 (locs ++ L) :=
  lr_Sc (A1 := fun q => F q ∨ H.size ≤ q) hS e.1 (fun q h1 h2 => e.2.1 q h1 (fun z => h2 (Or.inl z))) (fun q z => by
    rcases z with z | z
    · exact hF q z
    · omega) hL
theorem lr_SE0 {G : lr_G} {h n0 : Nat} {F : Nat → Prop} {g : Nat → Nat → Int32} {H0 H H1 : Heap} {locs L : List Loc} (hS : va_S (fun q => n0 ≤ q) H0 H locs) (e : lr_E0 G h F g H H1) (hF : ∀ q, F q → n0 ≤ q) (hL : ∀ q ∈ L, F q.base) : va_S (fun q => n0 ≤ q) H0 H1 (locs ++ L) :=
  lr_Sc (A1 := F) hS (Nat.le_of_eq e.1.symm) (fun q _ h2 => e.2.1 q h2) hF hL
/-- what the law's walk carries -/
def lr_CX (p : Program) (s : State) (m : MethodId) (meth : Method) (c : Code) (b L : Nat) (xs : Nat → Int32) (G : lr_G) : Prop := p.tables.exec = Jvm.exec ∧ c.code = cL_law ∧ meth.sig.returnType = ret ∧ c.maxLocals = 8 ∧ s.vm.findClass R_law = some m.cls ∧ (∀ w ∈ lw_all, w.before #[Value.ref b] s = true) ∧ meth.locks = false ∧ lr_K G s ∧ lr_T (fun q => s.heap.size ≤ q) s s.heap ∧ va_X b L xs s s.heap ∧ ¬ s.heap.size ≤ b ∧ L ≤ 24 ∧ (Cond.arrayOver (.array .int)).before #[Value.ref b] s = true
end
section
set_option maxHeartbeats 4000000 in
set_option maxRecDepth 100000 in
/-- the law from its first product on -/
theorem law_p3 {p : Program} {l : Launch} {e : Env} {s : State} {m : MethodId} {below : List Frame} {meth : Method} {c : Code} {b L : Nat} {xs : Nat → Int32} {G : lr_G} (C : lr_CX p s m meth c b L xs G) {x y : Nat} {Fx Fy : Nat → Prop} {P0 P1 P2 Z : Nat → Int32} (h0 : lr_can P0) (h1 : lr_can P1) (h2 : lr_can P2) {H : Heap} {locs : List Loc} {cells slots : Nat} {ls : Array Slot} (d0 : lr_D2 G s.heap.size x y Fx Fy (lr_f4 P0 P1 P2 Z) (lr_f4 P0 P1 P2 Z) H) (hS : va_S (fun q => s.heap.size ≤ q) s.heap H locs) (hc : cells ≤ 1000) (hsl : slots ≤ 100000) (hl : lv_has ls 8 [(0, .ref b), (1, .ref x), (2, .ref y)]) : W p l e room_1 s m #[Value.ref b] below meth c H locs cells slots (lw_Z below #[Value.ref b] s) (F0 m 281 ls []) := by
  obtain ⟨hx, hb, hr, hml, hown, hts, hlocks, hK, hT, hXs, hbA, hL24, hAO⟩ := id C
  refine lv_aload_n hx hb dL_law_281 rfl (lv_at hl 1 rfl) ?_
  refine lv_iconst (v := nI 3) hx hb dL_law_282 (by decide) ?_
  refine lv_iconst (v := nI 0) hx hb dL_law_283 (by decide) ?_
  refine lv_iconst (v := nI 1) hx hb dL_law_284 (by decide) ?_
  refine lr_v (va_runV (As := [.int (nI 3), .int (nI 0), .int (nI 1)]) (rest := []) ⟨hx, hb, hml, hown, hts⟩ (met_mul l G x H.size _ _ (nI 3) (nI 0) (nI 1) 3 0 1 (by decide) (lr_and3 (by decide)) (by decide) (lr_and3 (by decide)) (by decide) (lr_and3 (by decide))) (cwV 3 hts (lw_V q18 q19 q20 q1 q21) rfl rfl rfl (by decide +kernel) ⟨Nat.le_of_ble_eq_true rfl, Nat.le_of_ble_eq_true rfl⟩) (lr_preV d0.1.at.choose_spec rfl ⟨d0.1, rfl⟩ hK hT hS (fun q h => h.elim (d0.2.2.2.1 q) (fun z => Nat.le_trans d0.2.2.2.2.2 z))) rfl rfl hl.1 rfl (lv_room (Nat.le_of_ble_eq_true rfl)) dL_law_285 ⟨(by show _ ≤ 600000; omega), (by show _ ≤ 7302250; omega)⟩) (fun H1 M1 e1 hM1 => ?_)
  have hS1 := lr_SE1 hS e1 d0.2.2.2.1 d0.2.2.2.2.2 (fun q hq => hM1 q hq)
  have d1 : lr_D2 G s.heap.size x y _ _ (lr_f4 P0 P1 P2 (lr_mul P0 P1)) (lr_f4 P0 P1 P2 Z) H1 := d0.x1 e1 lr_f4_3
  refine lv_aload_n hx hb dL_law_288 rfl (lv_at hl 2 rfl) ?_
  refine lv_iconst (v := nI 3) hx hb dL_law_289 (by decide) ?_
  refine lv_iconst (v := nI 1) hx hb dL_law_290 (by decide) ?_
  refine lv_iconst (v := nI 0) hx hb dL_law_291 (by decide) ?_
  refine lr_v (va_runV (As := [.int (nI 3), .int (nI 1), .int (nI 0)]) (rest := []) ⟨hx, hb, hml, hown, hts⟩ (met_mul l G y H1.size _ _ (nI 3) (nI 1) (nI 0) 3 1 0 (by decide) (lr_and3 (by decide)) (by decide) (lr_and3 (by decide)) (by decide) (lr_and3 (by decide))) (cwV 3 hts (lw_V q18 q19 q20 q1 q21) rfl rfl rfl (by decide +kernel) ⟨Nat.le_of_ble_eq_true rfl, Nat.le_of_ble_eq_true rfl⟩) (lr_preV d1.2.1.at.choose_spec rfl ⟨d1.2.1, rfl⟩ hK hT hS1 (fun q h => h.elim (d1.2.2.2.2.1 q) (fun z => Nat.le_trans d1.2.2.2.2.2 z))) rfl rfl hl.1 rfl (lv_room (Nat.le_of_ble_eq_true rfl)) dL_law_292 ⟨(by show _ ≤ 600000; omega), (by show _ ≤ 7302250; omega)⟩) (fun H2 M2 e2 hM2 => ?_)
  have hS2 := lr_SE1 hS1 e2 d1.2.2.2.2.1 d1.2.2.2.2.2 (fun q hq => hM2 q hq)
  have d2 : lr_D2 G s.heap.size x y _ _ (lr_f4 P0 P1 P2 (lr_mul P0 P1)) (lr_f4 P0 P1 P2 (lr_mul P1 P0)) H2 := d1.y1 e2 lr_f4_3
  refine lv_aload_n hx hb dL_law_295 rfl (lv_at hl 1 rfl) ?_
  refine lv_iconst (v := nI 3) hx hb dL_law_296 (by decide) ?_
  refine lv_aload_n hx hb dL_law_297 rfl (lv_at hl 2 rfl) ?_
  refine lv_iconst (v := nI 3) hx hb dL_law_298 (by decide) ?_
  refine lr_i (va_runS (As := [.ref x, .int (nI 3), .ref y, .int (nI 3)]) (rest := []) ⟨hx, hb, hml, hown, hts⟩ (met_same l G x y _ _ (lr_f4 P0 P1 P2 (lr_mul P0 P1)) (lr_f4 P0 P1 P2 (lr_mul P1 P0)) 3 3 (by decide) (by decide) (lr_law_comm h0 h1)) (va_cwS 4 hts (lw_S q120 q121 q0 q122) rfl rfl rfl (by decide +kernel) ⟨Nat.le_of_ble_eq_true rfl, Nat.le_of_ble_eq_true rfl⟩) (lr_preS ⟨d2.1, d2.2.1⟩ hK hT hS2 (fun _ h => h.elim)) rfl rfl hl.1 rfl (lv_room (Nat.le_of_ble_eq_true rfl)) dL_law_299 ⟨(by show _ ≤ 600000; omega), (by show _ ≤ 7302250; omega)⟩) ?_
  refine lv_if_ne (tgt := 307) hx hb dL_law_302 (by decide) (fun _ => ?_) (fun c9 => absurd c9 (by decide))
  refine lv_aload_n hx hb dL_law_307 rfl (lv_at hl 1 rfl) ?_
  refine lv_iconst (v := nI 3) hx hb dL_law_308 (by decide) ?_
  refine lv_iconst (v := nI 3) hx hb dL_law_309 (by decide) ?_
  refine lv_iconst (v := nI 2) hx hb dL_law_310 (by decide) ?_
  refine lr_v (va_runV (As := [.int (nI 3), .int (nI 3), .int (nI 2)]) (rest := []) ⟨hx, hb, hml, hown, hts⟩ (met_mul l G x H2.size _ _ (nI 3) (nI 3) (nI 2) 3 3 2 (by decide) (lr_and3 (by decide)) (by decide) (lr_and3 (by decide)) (by decide) (lr_and3 (by decide))) (cwV 3 hts (lw_V q18 q19 q20 q1 q21) rfl rfl rfl (by decide +kernel) ⟨Nat.le_of_ble_eq_true rfl, Nat.le_of_ble_eq_true rfl⟩) (lr_preV d2.1.at.choose_spec rfl ⟨d2.1, rfl⟩ hK hT hS2 (fun q h => h.elim (d2.2.2.2.1 q) (fun z => Nat.le_trans d2.2.2.2.2.2 z))) rfl rfl hl.1 rfl (lv_room (Nat.le_of_ble_eq_true rfl)) dL_law_311 ⟨(by show _ ≤ 600000; omega), (by show _ ≤ 7302250; omega)⟩) (fun H3 M3 e3 hM3 => ?_)
  have hS3 := lr_SE1 hS2 e3 d2.2.2.2.1 d2.2.2.2.2.2 (fun q hq => hM3 q hq)
  have d3 : lr_D2 G s.heap.size x y _ _ (lr_f4 P0 P1 P2 (lr_mul (lr_mul P0 P1) P2)) (lr_f4 P0 P1 P2 (lr_mul P1 P0)) H3 := d2.x1 e3 lr_f4_3
  refine lv_aload_n hx hb dL_law_314 rfl (lv_at hl 2 rfl) ?_
  refine lv_iconst (v := nI 3) hx hb dL_law_315 (by decide) ?_
  refine lv_iconst (v := nI 1) hx hb dL_law_316 (by decide) ?_
  refine lv_iconst (v := nI 2) hx hb dL_law_317 (by decide) ?_
  refine lr_v (va_runV (As := [.int (nI 3), .int (nI 1), .int (nI 2)]) (rest := []) ⟨hx, hb, hml, hown, hts⟩ (met_mul l G y H3.size _ _ (nI 3) (nI 1) (nI 2) 3 1 2 (by decide) (lr_and3 (by decide)) (by decide) (lr_and3 (by decide)) (by decide) (lr_and3 (by decide))) (cwV 3 hts (lw_V q18 q19 q20 q1 q21) rfl rfl rfl (by decide +kernel) ⟨Nat.le_of_ble_eq_true rfl, Nat.le_of_ble_eq_true rfl⟩) (lr_preV d3.2.1.at.choose_spec rfl ⟨d3.2.1, rfl⟩ hK hT hS3 (fun q h => h.elim (d3.2.2.2.2.1 q) (fun z => Nat.le_trans d3.2.2.2.2.2 z))) rfl rfl hl.1 rfl (lv_room (Nat.le_of_ble_eq_true rfl)) dL_law_318 ⟨(by show _ ≤ 600000; omega), (by show _ ≤ 7302250; omega)⟩) (fun H4 M4 e4 hM4 => ?_)
  have hS4 := lr_SE1 hS3 e4 d3.2.2.2.2.1 d3.2.2.2.2.2 (fun q hq => hM4 q hq)
  have d4 : lr_D2 G s.heap.size x y _ _ (lr_f4 P0 P1 P2 (lr_mul (lr_mul P0 P1) P2)) (lr_f4 P0 P1 P2 (lr_mul P1 P2)) H4 := d3.y1 e4 lr_f4_3
  refine lv_aload_n hx hb dL_law_321 rfl (lv_at hl 2 rfl) ?_
  refine lv_iconst (v := nI 3) hx hb dL_law_322 (by decide) ?_
  refine lv_iconst (v := nI 0) hx hb dL_law_323 (by decide) ?_
  refine lv_iconst (v := nI 3) hx hb dL_law_324 (by decide) ?_
  refine lr_v (va_runV (As := [.int (nI 3), .int (nI 0), .int (nI 3)]) (rest := []) ⟨hx, hb, hml, hown, hts⟩ (met_mul l G y H4.size _ _ (nI 3) (nI 0) (nI 3) 3 0 3 (by decide) (lr_and3 (by decide)) (by decide) (lr_and3 (by decide)) (by decide) (lr_and3 (by decide))) (cwV 3 hts (lw_V q18 q19 q20 q1 q21) rfl rfl rfl (by decide +kernel) ⟨Nat.le_of_ble_eq_true rfl, Nat.le_of_ble_eq_true rfl⟩) (lr_preV d4.2.1.at.choose_spec rfl ⟨d4.2.1, rfl⟩ hK hT hS4 (fun q h => h.elim (d4.2.2.2.2.1 q) (fun z => Nat.le_trans d4.2.2.2.2.2 z))) rfl rfl hl.1 rfl (lv_room (Nat.le_of_ble_eq_true rfl)) dL_law_325 ⟨(by show _ ≤ 600000; omega), (by show _ ≤ 7302250; omega)⟩) (fun H5 M5 e5 hM5 => ?_)
  have hS5 := lr_SE1 hS4 e5 d4.2.2.2.2.1 d4.2.2.2.2.2 (fun q hq => hM5 q hq)
  have d5 : lr_D2 G s.heap.size x y _ _ (lr_f4 P0 P1 P2 (lr_mul (lr_mul P0 P1) P2)) (lr_f4 P0 P1 P2 (lr_mul P0 (lr_mul P1 P2))) H5 := d4.y1 e5 lr_f4_3
  refine lv_aload_n hx hb dL_law_328 rfl (lv_at hl 1 rfl) ?_
  refine lv_iconst (v := nI 3) hx hb dL_law_329 (by decide) ?_
  refine lv_aload_n hx hb dL_law_330 rfl (lv_at hl 2 rfl) ?_
  refine lv_iconst (v := nI 3) hx hb dL_law_331 (by decide) ?_
  refine lr_i (va_runS (As := [.ref x, .int (nI 3), .ref y, .int (nI 3)]) (rest := []) ⟨hx, hb, hml, hown, hts⟩ (met_same l G x y _ _ (lr_f4 P0 P1 P2 (lr_mul (lr_mul P0 P1) P2)) (lr_f4 P0 P1 P2 (lr_mul P0 (lr_mul P1 P2))) 3 3 (by decide) (by decide) (lr_law_assoc h0 h1 h2)) (va_cwS 4 hts (lw_S q120 q121 q0 q122) rfl rfl rfl (by decide +kernel) ⟨Nat.le_of_ble_eq_true rfl, Nat.le_of_ble_eq_true rfl⟩) (lr_preS ⟨d5.1, d5.2.1⟩ hK hT hS5 (fun _ h => h.elim)) rfl rfl hl.1 rfl (lv_room (Nat.le_of_ble_eq_true rfl)) dL_law_332 ⟨(by show _ ≤ 600000; omega), (by show _ ≤ 7302250; omega)⟩) ?_
  refine lv_if_ne (tgt := 340) hx hb dL_law_335 (by decide) (fun _ => ?_) (fun c9 => absurd c9 (by decide))
  refine lv_aload_n hx hb dL_law_340 rfl (lv_at hl 1 rfl) ?_
  refine lv_iconst (v := nI 3) hx hb dL_law_341 (by decide) ?_
  refine lv_iconst (v := nI 0) hx hb dL_law_342 (by decide) ?_
  refine lv_iconst (v := nI 0) hx hb dL_law_343 (by decide) ?_
  refine lr_v (va_runV (As := [.int (nI 3), .int (nI 0), .int (nI 0)]) (rest := []) ⟨hx, hb, hml, hown, hts⟩ (met_spread l G x _ _ (nI 3) (nI 0) (nI 0) 3 (by decide) (lr_and3 (by decide))) (cwV 3 hts (lw_V q14 q15 q16 q1 q17) rfl rfl rfl (by decide +kernel) ⟨Nat.le_of_ble_eq_true rfl, Nat.le_of_ble_eq_true rfl⟩) (lr_preV d5.1.at.choose_spec rfl d5.1 hK hT hS5 d5.2.2.2.1) rfl rfl hl.1 rfl (lv_room (Nat.le_of_ble_eq_true rfl)) dL_law_344 ⟨(by show _ ≤ 600000; omega), (by show _ ≤ 7302250; omega)⟩) (fun H6 M6 e6 hM6 => ?_)
  have hS6 := lr_SE0 hS5 e6 d5.2.2.2.1 (fun q hq => hM6 q hq)
  have d6 : lr_D2 G s.heap.size x y _ _ (lr_f4 P0 P1 P2 (lr_spr 0 0)) (lr_f4 P0 P1 P2 (lr_mul P0 (lr_mul P1 P2))) H6 := d5.x0 e6 lr_f4_3
  refine lv_aload_n hx hb dL_law_347 rfl (lv_at hl 1 rfl) ?_
  refine lv_iconst (v := nI 3) hx hb dL_law_348 (by decide) ?_
  refine lv_iconst (v := nI 0) hx hb dL_law_349 (by decide) ?_
  refine lv_iconst (v := nI 1) hx hb dL_law_350 (by decide) ?_
  refine lr_v (va_runV (As := [.int (nI 3), .int (nI 0), .int (nI 1)]) (rest := []) ⟨hx, hb, hml, hown, hts⟩ (met_put l G x _ _ (nI 3) (nI 0) (nI 1) 3 0 (by decide) (lr_and3 (by decide)) (by decide) (lr_and255 (by decide))) (cwV 3 hts (lw_V q5 q6 q7 q1 q8) rfl rfl rfl (by decide +kernel) ⟨Nat.le_of_ble_eq_true rfl, Nat.le_of_ble_eq_true rfl⟩) (lr_preV d6.1.at.choose_spec rfl d6.1 hK hT hS6 d6.2.2.2.1) rfl rfl hl.1 rfl (lv_room (Nat.le_of_ble_eq_true rfl)) dL_law_351 ⟨(by show _ ≤ 600000; omega), (by show _ ≤ 7302250; omega)⟩) (fun H7 M7 e7 hM7 => ?_)
  have hS7 := lr_SE0 hS6 e7 d6.2.2.2.1 (fun q hq => hM7 q hq)
  have d7 : lr_D2 G s.heap.size x y _ _ (lr_f4 P0 P1 P2 (upd (lr_spr 0 0) 0 (lr_pv 1))) (lr_f4 P0 P1 P2 (lr_mul P0 (lr_mul P1 P2))) H7 := d6.x0 e7 lr_f4_3
  refine lv_aload_n hx hb dL_law_354 rfl (lv_at hl 1 rfl) ?_
  refine lv_iconst (v := nI 3) hx hb dL_law_355 (by decide) ?_
  refine lv_iconst (v := nI 0) hx hb dL_law_356 (by decide) ?_
  refine lv_iconst (v := nI 3) hx hb dL_law_357 (by decide) ?_
  refine lr_v (va_runV (As := [.int (nI 3), .int (nI 0), .int (nI 3)]) (rest := []) ⟨hx, hb, hml, hown, hts⟩ (met_mul l G x H7.size _ _ (nI 3) (nI 0) (nI 3) 3 0 3 (by decide) (lr_and3 (by decide)) (by decide) (lr_and3 (by decide)) (by decide) (lr_and3 (by decide))) (cwV 3 hts (lw_V q18 q19 q20 q1 q21) rfl rfl rfl (by decide +kernel) ⟨Nat.le_of_ble_eq_true rfl, Nat.le_of_ble_eq_true rfl⟩) (lr_preV d7.1.at.choose_spec rfl ⟨d7.1, rfl⟩ hK hT hS7 (fun q h => h.elim (d7.2.2.2.1 q) (fun z => Nat.le_trans d7.2.2.2.2.2 z))) rfl rfl hl.1 rfl (lv_room (Nat.le_of_ble_eq_true rfl)) dL_law_358 ⟨(by show _ ≤ 600000; omega), (by show _ ≤ 7302250; omega)⟩) (fun H8 M8 e8 hM8 => ?_)
  have hS8 := lr_SE1 hS7 e8 d7.2.2.2.1 d7.2.2.2.2.2 (fun q hq => hM8 q hq)
  have d8 : lr_D2 G s.heap.size x y _ _ (lr_f4 P0 P1 P2 (lr_mul P0 (upd (lr_spr 0 0) 0 (lr_pv 1)))) (lr_f4 P0 P1 P2 (lr_mul P0 (lr_mul P1 P2))) H8 := d7.x1 e8 lr_f4_3
  refine lv_aload_n hx hb dL_law_361 rfl (lv_at hl 1 rfl) ?_
  refine lv_iconst (v := nI 3) hx hb dL_law_362 (by decide) ?_
  refine lv_aload_n hx hb dL_law_363 rfl (lv_at hl 1 rfl) ?_
  refine lv_iconst (v := nI 0) hx hb dL_law_364 (by decide) ?_
  refine lr_i (va_runS (As := [.ref x, .int (nI 3), .ref x, .int (nI 0)]) (rest := []) ⟨hx, hb, hml, hown, hts⟩ (met_same l G x x _ _ (lr_f4 P0 P1 P2 (lr_mul P0 (upd (lr_spr 0 0) 0 (lr_pv 1)))) (lr_f4 P0 P1 P2 (lr_mul P0 (upd (lr_spr 0 0) 0 (lr_pv 1)))) 3 0 (by decide) (by decide) (lr_law_one h0)) (va_cwS 4 hts (lw_S q120 q121 q0 q122) rfl rfl rfl (by decide +kernel) ⟨Nat.le_of_ble_eq_true rfl, Nat.le_of_ble_eq_true rfl⟩) (lr_preS ⟨d8.1, d8.1⟩ hK hT hS8 (fun _ h => h.elim)) rfl rfl hl.1 rfl (lv_room (Nat.le_of_ble_eq_true rfl)) dL_law_365 ⟨(by show _ ≤ 600000; omega), (by show _ ≤ 7302250; omega)⟩) ?_
  refine lv_if_ne (tgt := 373) hx hb dL_law_368 (by decide) (fun _ => ?_) (fun c9 => absurd c9 (by decide))
  refine lv_aload_n hx hb dL_law_373 rfl (lv_at hl 1 rfl) ?_
  refine lv_iconst (v := nI 3) hx hb dL_law_374 (by decide) ?_
  refine lv_iconst (v := nI 0) hx hb dL_law_375 (by decide) ?_
  refine lv_iconst (v := nI 0) hx hb dL_law_376 (by decide) ?_
  refine lr_v (va_runV (As := [.int (nI 3), .int (nI 0), .int (nI 0)]) (rest := []) ⟨hx, hb, hml, hown, hts⟩ (met_spread l G x _ _ (nI 3) (nI 0) (nI 0) 3 (by decide) (lr_and3 (by decide))) (cwV 3 hts (lw_V q14 q15 q16 q1 q17) rfl rfl rfl (by decide +kernel) ⟨Nat.le_of_ble_eq_true rfl, Nat.le_of_ble_eq_true rfl⟩) (lr_preV d8.1.at.choose_spec rfl d8.1 hK hT hS8 d8.2.2.2.1) rfl rfl hl.1 rfl (lv_room (Nat.le_of_ble_eq_true rfl)) dL_law_377 ⟨(by show _ ≤ 600000; omega), (by show _ ≤ 7302250; omega)⟩) (fun H9 M9 e9 hM9 => ?_)
  have hS9 := lr_SE0 hS8 e9 d8.2.2.2.1 (fun q hq => hM9 q hq)
  have d9 : lr_D2 G s.heap.size x y _ _ (lr_f4 P0 P1 P2 (lr_spr 0 0)) (lr_f4 P0 P1 P2 (lr_mul P0 (lr_mul P1 P2))) H9 := d8.x0 e9 lr_f4_3
  refine lv_aload_n hx hb dL_law_380 rfl (lv_at hl 1 rfl) ?_
  refine lv_iconst (v := nI 3) hx hb dL_law_381 (by decide) ?_
  refine lv_iconst (v := nI 1) hx hb dL_law_382 (by decide) ?_
  refine lv_iconst (v := nI 1) hx hb dL_law_383 (by decide) ?_
  refine lr_v (va_runV (As := [.int (nI 3), .int (nI 1), .int (nI 1)]) (rest := []) ⟨hx, hb, hml, hown, hts⟩ (met_put l G x _ _ (nI 3) (nI 1) (nI 1) 3 1 (by decide) (lr_and3 (by decide)) (by decide) (lr_and255 (by decide))) (cwV 3 hts (lw_V q5 q6 q7 q1 q8) rfl rfl rfl (by decide +kernel) ⟨Nat.le_of_ble_eq_true rfl, Nat.le_of_ble_eq_true rfl⟩) (lr_preV d9.1.at.choose_spec rfl d9.1 hK hT hS9 d9.2.2.2.1) rfl rfl hl.1 rfl (lv_room (Nat.le_of_ble_eq_true rfl)) dL_law_384 ⟨(by show _ ≤ 600000; omega), (by show _ ≤ 7302250; omega)⟩) (fun H10 M10 e10 hM10 => ?_)
  have hS10 := lr_SE0 hS9 e10 d9.2.2.2.1 (fun q hq => hM10 q hq)
  have d10 : lr_D2 G s.heap.size x y _ _ (lr_f4 P0 P1 P2 (upd (lr_spr 0 0) 1 (lr_pv 1))) (lr_f4 P0 P1 P2 (lr_mul P0 (lr_mul P1 P2))) H10 := d9.x0 e10 lr_f4_3
  refine lv_aload_n hx hb dL_law_387 rfl (lv_at hl 1 rfl) ?_
  refine lv_iconst (v := nI 3) hx hb dL_law_388 (by decide) ?_
  refine lv_iconst (v := nI 0) hx hb dL_law_389 (by decide) ?_
  refine lv_iconst (v := nI 3) hx hb dL_law_390 (by decide) ?_
  refine lr_v (va_runV (As := [.int (nI 3), .int (nI 0), .int (nI 3)]) (rest := []) ⟨hx, hb, hml, hown, hts⟩ (met_mul l G x H10.size _ _ (nI 3) (nI 0) (nI 3) 3 0 3 (by decide) (lr_and3 (by decide)) (by decide) (lr_and3 (by decide)) (by decide) (lr_and3 (by decide))) (cwV 3 hts (lw_V q18 q19 q20 q1 q21) rfl rfl rfl (by decide +kernel) ⟨Nat.le_of_ble_eq_true rfl, Nat.le_of_ble_eq_true rfl⟩) (lr_preV d10.1.at.choose_spec rfl ⟨d10.1, rfl⟩ hK hT hS10 (fun q h => h.elim (d10.2.2.2.1 q) (fun z => Nat.le_trans d10.2.2.2.2.2 z))) rfl rfl hl.1 rfl (lv_room (Nat.le_of_ble_eq_true rfl)) dL_law_391 ⟨(by show _ ≤ 600000; omega), (by show _ ≤ 7302250; omega)⟩) (fun H11 M11 e11 hM11 => ?_)
  have hS11 := lr_SE1 hS10 e11 d10.2.2.2.1 d10.2.2.2.2.2 (fun q hq => hM11 q hq)
  have d11 : lr_D2 G s.heap.size x y _ _ (lr_f4 P0 P1 P2 (lr_mul P0 (upd (lr_spr 0 0) 1 (lr_pv 1)))) (lr_f4 P0 P1 P2 (lr_mul P0 (lr_mul P1 P2))) H11 := d10.x1 e11 lr_f4_3
  obtain ⟨k1, k2, k3⟩ := lr_law_X h0
  refine lv_iconst (v := nI 0) hx hb dL_law_394 (by decide) ?_
  refine lv_istore (lv' := [(6, .int (nI 0)), (0, .ref b), (1, .ref x), (2, .ref y)]) hx hb dL_law_395 hl (by decide) rfl (fun ls hl => ?_)
  refine lr_for (fun i H' locs' ls => H11 = H' ∧ locs ++ M1 ++ M2 ++ M3 ++ M4 ++ M5 ++ M6 ++ M7 ++ M8 ++ M9 ++ M10 ++ M11 = locs' ∧ lv_has ls 8 [(0, .ref b), (1, .ref x), (2, .ref y), (6, .int (nI i))]) 255 ?_ ?_ 0 (Nat.zero_le _) ⟨rfl, rfl, lv_sub hl [1, 2, 3, 0] rfl⟩
  · intro H' locs' ls hI
    obtain ⟨rfl, rfl, hl⟩ := hI
    refine lv_iload hx hb dL_law_397 (lv_at hl 3 rfl) ?_
    refine lv_sipush (v := nI 255) hx hb dL_law_399 (by decide) ?_
    refine lr_ge_t (tgt := 432) hx hb dL_law_402 (by decide) (Int32.le_refl _) ?_
    refine lv_aload_n hx hb dL_law_432 rfl (lv_at hl 1 rfl) ?_
    refine lv_iconst (v := nI 3) hx hb dL_law_433 (by decide) ?_
    refine lv_iconst (v := nI 0) hx hb dL_law_434 (by decide) ?_
    refine lr_i (va_runV (As := [.int (nI 3), .int (nI 0)]) (rest := []) ⟨hx, hb, hml, hown, hts⟩ (met_coef l G x _ (lr_f4 P0 P1 P2 (lr_mul P0 (upd (lr_spr 0 0) 1 (lr_pv 1)))) (nI 3) (nI 0) 3 0 (by decide) (lr_and3 (by decide)) (by decide) (lr_and255 (by decide))) (cwV 2 hts (lw_V q95 q96 q97 q1 q98) rfl rfl rfl (by decide +kernel) ⟨Nat.le_of_ble_eq_true rfl, Nat.le_of_ble_eq_true rfl⟩) (lr_preV d11.1.at.choose_spec rfl d11.1 hK hT hS11 (fun _ h => h.elim)) rfl rfl hl.1 rfl (lv_room (Nat.le_of_ble_eq_true rfl)) dL_law_435 ⟨(by show _ ≤ 600000; omega), (by show _ ≤ 7302250; omega)⟩) ?_
    refine lv_aload_n hx hb dL_law_438 rfl (lv_at hl 1 rfl) ?_
    refine lv_iconst (v := nI 0) hx hb dL_law_439 (by decide) ?_
    refine lv_sipush (v := nI 255) hx hb dL_law_440 (by decide) ?_
    refine lr_i (va_runV (As := [.int (nI 0), .int (nI 255)]) (rest := [.int ((lr_f4 P0 P1 P2 (lr_mul P0 (upd (lr_spr 0 0) 1 (lr_pv 1)))) 3 0)]) ⟨hx, hb, hml, hown, hts⟩ (met_coef l G x _ (lr_f4 P0 P1 P2 (lr_mul P0 (upd (lr_spr 0 0) 1 (lr_pv 1)))) (nI 0) (nI 255) 0 255 (by decide) (lr_and3 (by decide)) (by decide) (lr_and255 (by decide))) (cwV 2 hts (lw_V q95 q96 q97 q1 q98) rfl rfl rfl (by decide +kernel) ⟨Nat.le_of_ble_eq_true rfl, Nat.le_of_ble_eq_true rfl⟩) (lr_preV d11.1.at.choose_spec rfl d11.1 hK hT hS11 (fun _ h => h.elim)) rfl rfl hl.1 rfl (lv_room (Nat.le_of_ble_eq_true rfl)) dL_law_443 ⟨(by show _ ≤ 600000; omega), (by show _ ≤ 7302250; omega)⟩) ?_
    refine lv_iadd hx hb dL_law_446 ?_
    refine lv_sipush (v := 3329) hx hb dL_law_447 (by decide) ?_
    refine lv_irem hx hb dL_law_450 (by decide) ?_
    refine lv_if_eq (tgt := 456) hx hb dL_law_451 (by decide) (fun _ => ?_) (fun c9 => absurd (lr_law_sign (k1 0 (by decide)) (h0 255 (by decide)) k3) c9)
    refine lv_aload_n hx hb dL_law_456 rfl (lv_at hl 2 rfl) ?_
    refine lv_iconst (v := nI 3) hx hb dL_law_457 (by decide) ?_
    refine lv_iconst (v := nI 0) hx hb dL_law_458 (by decide) ?_
    refine lv_iconst (v := nI 2) hx hb dL_law_459 (by decide) ?_
    refine lr_v (va_runV (As := [.int (nI 3), .int (nI 0), .int (nI 2)]) (rest := []) ⟨hx, hb, hml, hown, hts⟩ (met_mul l G y H11.size _ _ (nI 3) (nI 0) (nI 2) 3 0 2 (by decide) (lr_and3 (by decide)) (by decide) (lr_and3 (by decide)) (by decide) (lr_and3 (by decide))) (cwV 3 hts (lw_V q18 q19 q20 q1 q21) rfl rfl rfl (by decide +kernel) ⟨Nat.le_of_ble_eq_true rfl, Nat.le_of_ble_eq_true rfl⟩) (lr_preV d11.2.1.at.choose_spec rfl ⟨d11.2.1, rfl⟩ hK hT hS11 (fun q h => h.elim (d11.2.2.2.2.1 q) (fun z => Nat.le_trans d11.2.2.2.2.2 z))) rfl rfl hl.1 rfl (lv_room (Nat.le_of_ble_eq_true rfl)) dL_law_460 ⟨(by show _ ≤ 600000; omega), (by show _ ≤ 7302250; omega)⟩) (fun H12 M12 e12 hM12 => ?_)
    have hS12 := lr_SE1 hS11 e12 d11.2.2.2.2.1 d11.2.2.2.2.2 (fun q hq => hM12 q hq)
    have d12 : lr_D2 G s.heap.size x y _ _ (lr_f4 P0 P1 P2 (lr_mul P0 (upd (lr_spr 0 0) 1 (lr_pv 1)))) (lr_f4 P0 P1 P2 (lr_mul P0 P2)) H12 := d11.y1 e12 lr_f4_3
    refine lv_aload_n hx hb dL_law_463 rfl (lv_at hl 2 rfl) ?_
    refine lv_iconst (v := nI 2) hx hb dL_law_464 (by decide) ?_
    refine lv_iconst (v := nI 1) hx hb dL_law_465 (by decide) ?_
    refine lv_iconst (v := nI 2) hx hb dL_law_466 (by decide) ?_
    refine lr_v (va_runV (As := [.int (nI 2), .int (nI 1), .int (nI 2)]) (rest := []) ⟨hx, hb, hml, hown, hts⟩ (met_mul l G y H12.size _ _ (nI 2) (nI 1) (nI 2) 2 1 2 (by decide) (lr_and3 (by decide)) (by decide) (lr_and3 (by decide)) (by decide) (lr_and3 (by decide))) (cwV 3 hts (lw_V q18 q19 q20 q1 q21) rfl rfl rfl (by decide +kernel) ⟨Nat.le_of_ble_eq_true rfl, Nat.le_of_ble_eq_true rfl⟩) (lr_preV d12.2.1.at.choose_spec rfl ⟨d12.2.1, rfl⟩ hK hT hS12 (fun q h => h.elim (d12.2.2.2.2.1 q) (fun z => Nat.le_trans d12.2.2.2.2.2 z))) rfl rfl hl.1 rfl (lv_room (Nat.le_of_ble_eq_true rfl)) dL_law_467 ⟨(by show _ ≤ 600000; omega), (by show _ ≤ 7302250; omega)⟩) (fun H13 M13 e13 hM13 => ?_)
    have hS13 := lr_SE1 hS12 e13 d12.2.2.2.2.1 d12.2.2.2.2.2 (fun q hq => hM13 q hq)
    have d13 : lr_D2 G s.heap.size x y _ _ (lr_f4 P0 P1 P2 (lr_mul P0 (upd (lr_spr 0 0) 1 (lr_pv 1)))) (lr_f4 P0 P1 (lr_mul P1 P2) (lr_mul P0 P2)) H13 := d12.y1 e13 lr_f4_2
    refine lv_aload_n hx hb dL_law_470 rfl (lv_at hl 2 rfl) ?_
    refine lv_iconst (v := nI 3) hx hb dL_law_471 (by decide) ?_
    refine lv_iconst (v := nI 2) hx hb dL_law_472 (by decide) ?_
    refine lr_v (va_runV (As := [.int (nI 3), .int (nI 2)]) (rest := []) ⟨hx, hb, hml, hown, hts⟩ (met_ladd l G y H13.size _ _ (nI 3) (nI 2) 3 2 (by decide) (lr_and3 (by decide)) (by decide) (lr_and3 (by decide))) (cwV 2 hts (lw_V q87 q88 q89 q1 q90) rfl rfl rfl (by decide +kernel) ⟨Nat.le_of_ble_eq_true rfl, Nat.le_of_ble_eq_true rfl⟩) (lr_preV d13.2.1.at.choose_spec rfl ⟨d13.2.1, rfl⟩ hK hT hS13 (fun q h => h.elim (d13.2.2.2.2.1 q) (fun z => Nat.le_trans d13.2.2.2.2.2 z))) rfl rfl hl.1 rfl (lv_room (Nat.le_of_ble_eq_true rfl)) dL_law_473 ⟨(by show _ ≤ 600000; omega), (by show _ ≤ 7302250; omega)⟩) (fun H14 M14 e14 hM14 => ?_)
    have hS14 := lr_SE1 hS13 e14 d13.2.2.2.2.1 d13.2.2.2.2.2 (fun q hq => hM14 q hq)
    have d14 : lr_D2 G s.heap.size x y _ _ (lr_f4 P0 P1 P2 (lr_mul P0 (upd (lr_spr 0 0) 1 (lr_pv 1)))) (lr_f4 P0 P1 (lr_mul P1 P2) (lr_add (lr_mul P0 P2) (lr_mul P1 P2))) H14 := d13.y1 e14 lr_f4_3
    refine lv_aload_n hx hb dL_law_476 rfl (lv_at hl 1 rfl) ?_
    refine lv_iconst (v := nI 0) hx hb dL_law_477 (by decide) ?_
    refine lv_iconst (v := nI 1) hx hb dL_law_478 (by decide) ?_
    refine lr_v (va_runV (As := [.int (nI 0), .int (nI 1)]) (rest := []) ⟨hx, hb, hml, hown, hts⟩ (met_ladd l G x H14.size _ _ (nI 0) (nI 1) 0 1 (by decide) (lr_and3 (by decide)) (by decide) (lr_and3 (by decide))) (cwV 2 hts (lw_V q87 q88 q89 q1 q90) rfl rfl rfl (by decide +kernel) ⟨Nat.le_of_ble_eq_true rfl, Nat.le_of_ble_eq_true rfl⟩) (lr_preV d14.1.at.choose_spec rfl ⟨d14.1, rfl⟩ hK hT hS14 (fun q h => h.elim (d14.2.2.2.1 q) (fun z => Nat.le_trans d14.2.2.2.2.2 z))) rfl rfl hl.1 rfl (lv_room (Nat.le_of_ble_eq_true rfl)) dL_law_479 ⟨(by show _ ≤ 600000; omega), (by show _ ≤ 7302250; omega)⟩) (fun H15 M15 e15 hM15 => ?_)
    have hS15 := lr_SE1 hS14 e15 d14.2.2.2.1 d14.2.2.2.2.2 (fun q hq => hM15 q hq)
    have d15 : lr_D2 G s.heap.size x y _ _ (lr_f4 (lr_add P0 P1) P1 P2 (lr_mul P0 (upd (lr_spr 0 0) 1 (lr_pv 1)))) (lr_f4 P0 P1 (lr_mul P1 P2) (lr_add (lr_mul P0 P2) (lr_mul P1 P2))) H15 := d14.x1 e15 lr_f4_0
    refine lv_aload_n hx hb dL_law_482 rfl (lv_at hl 1 rfl) ?_
    refine lv_iconst (v := nI 3) hx hb dL_law_483 (by decide) ?_
    refine lv_iconst (v := nI 0) hx hb dL_law_484 (by decide) ?_
    refine lv_iconst (v := nI 2) hx hb dL_law_485 (by decide) ?_
    refine lr_v (va_runV (As := [.int (nI 3), .int (nI 0), .int (nI 2)]) (rest := []) ⟨hx, hb, hml, hown, hts⟩ (met_mul l G x H15.size _ _ (nI 3) (nI 0) (nI 2) 3 0 2 (by decide) (lr_and3 (by decide)) (by decide) (lr_and3 (by decide)) (by decide) (lr_and3 (by decide))) (cwV 3 hts (lw_V q18 q19 q20 q1 q21) rfl rfl rfl (by decide +kernel) ⟨Nat.le_of_ble_eq_true rfl, Nat.le_of_ble_eq_true rfl⟩) (lr_preV d15.1.at.choose_spec rfl ⟨d15.1, rfl⟩ hK hT hS15 (fun q h => h.elim (d15.2.2.2.1 q) (fun z => Nat.le_trans d15.2.2.2.2.2 z))) rfl rfl hl.1 rfl (lv_room (Nat.le_of_ble_eq_true rfl)) dL_law_486 ⟨(by show _ ≤ 600000; omega), (by show _ ≤ 7302250; omega)⟩) (fun H16 M16 e16 hM16 => ?_)
    have hS16 := lr_SE1 hS15 e16 d15.2.2.2.1 d15.2.2.2.2.2 (fun q hq => hM16 q hq)
    have d16 : lr_D2 G s.heap.size x y _ _ (lr_f4 (lr_add P0 P1) P1 P2 (lr_mul (lr_add P0 P1) P2)) (lr_f4 P0 P1 (lr_mul P1 P2) (lr_add (lr_mul P0 P2) (lr_mul P1 P2))) H16 := d15.x1 e16 lr_f4_3
    refine lv_aload_n hx hb dL_law_489 rfl (lv_at hl 1 rfl) ?_
    refine lv_iconst (v := nI 3) hx hb dL_law_490 (by decide) ?_
    refine lv_aload_n hx hb dL_law_491 rfl (lv_at hl 2 rfl) ?_
    refine lv_iconst (v := nI 3) hx hb dL_law_492 (by decide) ?_
    refine lr_i (va_runS (As := [.ref x, .int (nI 3), .ref y, .int (nI 3)]) (rest := []) ⟨hx, hb, hml, hown, hts⟩ (met_same l G x y _ _ (lr_f4 (lr_add P0 P1) P1 P2 (lr_mul (lr_add P0 P1) P2)) (lr_f4 P0 P1 (lr_mul P1 P2) (lr_add (lr_mul P0 P2) (lr_mul P1 P2))) 3 3 (by decide) (by decide) (lr_law_dist h0 h1 h2)) (va_cwS 4 hts (lw_S q120 q121 q0 q122) rfl rfl rfl (by decide +kernel) ⟨Nat.le_of_ble_eq_true rfl, Nat.le_of_ble_eq_true rfl⟩) (lr_preS ⟨d16.1, d16.2.1⟩ hK hT hS16 (fun _ h => h.elim)) rfl rfl hl.1 rfl (lv_room (Nat.le_of_ble_eq_true rfl)) dL_law_493 ⟨(by show _ ≤ 600000; omega), (by show _ ≤ 7302250; omega)⟩) ?_
    refine va_forget (fun q hq => hS16.2.2 q hq) ?_
    refine W.widen (k := 600000) (n := 7302250) (by omega) (by omega) ?_
    exact lw_ret hx hb hr hlocks dL_law_496
  · intro i hi H' locs' ls hI ih
    obtain ⟨rfl, rfl, hl⟩ := hI
    refine lv_iload hx hb dL_law_397 (lv_at hl 3 rfl) ?_
    refine lv_sipush (v := nI 255) hx hb dL_law_399 (by decide) ?_
    refine lr_ge_f (tgt := 432) hx hb dL_law_402 (by decide) (nI_ge (by omega) (by omega)) ?_
    refine lv_aload_n hx hb dL_law_405 rfl (lv_at hl 1 rfl) ?_
    refine lv_iconst (v := nI 3) hx hb dL_law_406 (by decide) ?_
    refine lv_iload hx hb dL_law_407 (lv_at hl 3 rfl) ?_
    refine lv_iconst (v := nI 1) hx hb dL_law_409 (by decide) ?_
    refine lv_iadd hx hb dL_law_410 ?_
    rw [show (nI i) + (nI 1) = nI (i + 1) from nI_add _ _]
    refine lr_i (va_runV (As := [.int (nI 3), .int (nI (i + 1))]) (rest := []) ⟨hx, hb, hml, hown, hts⟩ (met_coef l G x _ (lr_f4 P0 P1 P2 (lr_mul P0 (upd (lr_spr 0 0) 1 (lr_pv 1)))) (nI 3) (nI (i + 1)) 3 (i + 1) (by decide) (lr_and3 (by decide)) (by omega) (lr_and255 (by omega))) (cwV 2 hts (lw_V q95 q96 q97 q1 q98) rfl rfl rfl (by decide +kernel) ⟨Nat.le_of_ble_eq_true rfl, Nat.le_of_ble_eq_true rfl⟩) (lr_preV d11.1.at.choose_spec rfl d11.1 hK hT hS11 (fun _ h => h.elim)) rfl rfl hl.1 rfl (lv_room (Nat.le_of_ble_eq_true rfl)) dL_law_411 ⟨(by show _ ≤ 600000; omega), (by show _ ≤ 7302250; omega)⟩) ?_
    refine lv_aload_n hx hb dL_law_414 rfl (lv_at hl 1 rfl) ?_
    refine lv_iconst (v := nI 0) hx hb dL_law_415 (by decide) ?_
    refine lv_iload hx hb dL_law_416 (lv_at hl 3 rfl) ?_
    refine lr_i (va_runV (As := [.int (nI 0), .int (nI i)]) (rest := [.int ((lr_f4 P0 P1 P2 (lr_mul P0 (upd (lr_spr 0 0) 1 (lr_pv 1)))) 3 (i + 1))]) ⟨hx, hb, hml, hown, hts⟩ (met_coef l G x _ (lr_f4 P0 P1 P2 (lr_mul P0 (upd (lr_spr 0 0) 1 (lr_pv 1)))) (nI 0) (nI i) 0 i (by decide) (lr_and3 (by decide)) (by omega) (lr_and255 (by omega))) (cwV 2 hts (lw_V q95 q96 q97 q1 q98) rfl rfl rfl (by decide +kernel) ⟨Nat.le_of_ble_eq_true rfl, Nat.le_of_ble_eq_true rfl⟩) (lr_preV d11.1.at.choose_spec rfl d11.1 hK hT hS11 (fun _ h => h.elim)) rfl rfl hl.1 rfl (lv_room (Nat.le_of_ble_eq_true rfl)) dL_law_418 ⟨(by show _ ≤ 600000; omega), (by show _ ≤ 7302250; omega)⟩) ?_
    refine lr_eq_t (tgt := 426) hx hb dL_law_421 (by decide) (k2 i hi) ?_
    refine lv_iinc (v := nI (i + 1)) (lv' := [(6, .int (nI (i + 1))), (0, .ref b), (1, .ref x), (2, .ref y)]) hx hb dL_law_426 hl (k := 3) rfl (lr_inc _) (by decide) rfl (fun ls hl => ?_)
    refine lv_goto (tgt := 397) hx hb dL_law_429 (by decide) ?_
    exact ih _ _ _ ⟨rfl, rfl, lv_sub hl [1, 2, 3, 0] rfl⟩
set_option maxHeartbeats 4000000 in
set_option maxRecDepth 100000 in
/-- the law from its sums on -/
theorem law_p2 {p : Program} {l : Launch} {e : Env} {s : State} {m : MethodId} {below : List Frame} {meth : Method} {c : Code} {b L : Nat} {xs : Nat → Int32} {G : lr_G} (C : lr_CX p s m meth c b L xs G) {x y u v : Nat} {H : Heap} {locs : List Loc} {cells slots : Nat} {ls : Array Slot} (hRx : lr_LR G x (fun q => s.heap.size ≤ q ∧ q < s.heap.size + 11) (lr_T3 xs L) H) (hRy : lr_LR G y (fun q => s.heap.size + 11 ≤ q ∧ q < s.heap.size + 22) (lr_T3 xs L) H) (hRu : lr_LR G u (fun q => s.heap.size + 22 ≤ q ∧ q < s.heap.size + 33) (lr_T3 xs L) H) (hRv : lr_LR G v (fun q => s.heap.size + 33 ≤ q ∧ q < s.heap.size + 44) (lr_T3 xs L) H) (hz : H.size = s.heap.size + 48) (hS : va_S (fun q => s.heap.size ≤ q) s.heap H locs) (hc : cells ≤ 500) (hsl : slots ≤ 50000) (hl : lv_has ls 8 [(0, .ref b), (1, .ref x), (2, .ref y), (3, .ref u), (4, .ref v)]) : W p l e room_1 s m #[Value.ref b] below meth c H locs cells slots (lw_Z below #[Value.ref b] s) (F0 m 203 ls []) := by
  obtain ⟨hx, hb, hr, hml, hown, hts, hlocks, hK, hT, hXs, hbA, hL24, hAO⟩ := id C
  refine lv_aload_n hx hb dL_law_203 rfl (lv_at hl 3 rfl) ?_
  refine lv_iconst (v := nI 0) hx hb dL_law_204 (by decide) ?_
  refine lv_iconst (v := nI 1) hx hb dL_law_205 (by decide) ?_
  refine lr_v (va_runV (As := [.int (nI 0), .int (nI 1)]) (rest := []) ⟨hx, hb, hml, hown, hts⟩ (met_ladd l G u H.size (fun q => s.heap.size + 22 ≤ q ∧ q < s.heap.size + 33) (lr_T3 xs L) (nI 0) (nI 1) 0 1 (by decide) (lr_and3 (by decide)) (by decide) (lr_and3 (by decide))) (cwV 2 hts (lw_V q87 q88 q89 q1 q90) rfl rfl rfl (by decide +kernel) ⟨Nat.le_of_ble_eq_true rfl, Nat.le_of_ble_eq_true rfl⟩) (lr_preV hRu.at.choose_spec rfl ⟨hRu, rfl⟩ hK hT hS (fun q h => by omega)) rfl rfl hl.1 rfl (lv_room (Nat.le_of_ble_eq_true rfl)) dL_law_206 ⟨(by show _ ≤ 600000; omega), (by show _ ≤ 7302250; omega)⟩) (fun H1 M1 e1 hM1 => ?_)
  have hS1 := lr_SE1 hS e1 (fun q h => by omega) (by omega) (fun q hq => hM1 q hq)
  have hz1 := e1.1
  have hRx := hRx.kept e1.1 (fun q hq => e1.2.1 q (by omega) (by omega))
  have hRy := hRy.kept e1.1 (fun q hq => e1.2.1 q (by omega) (by omega))
  have hRv := hRv.kept e1.1 (fun q hq => e1.2.1 q (by omega) (by omega))
  refine lv_aload hx hb dL_law_209 (lv_at hl 4 rfl) ?_
  refine lv_iconst (v := nI 1) hx hb dL_law_211 (by decide) ?_
  refine lv_iconst (v := nI 0) hx hb dL_law_212 (by decide) ?_
  refine lr_v (va_runV (As := [.int (nI 1), .int (nI 0)]) (rest := []) ⟨hx, hb, hml, hown, hts⟩ (met_ladd l G v H1.size (fun q => s.heap.size + 33 ≤ q ∧ q < s.heap.size + 44) (lr_T3 xs L) (nI 1) (nI 0) 1 0 (by decide) (lr_and3 (by decide)) (by decide) (lr_and3 (by decide))) (cwV 2 hts (lw_V q87 q88 q89 q1 q90) rfl rfl rfl (by decide +kernel) ⟨Nat.le_of_ble_eq_true rfl, Nat.le_of_ble_eq_true rfl⟩) (lr_preV hRv.at.choose_spec rfl ⟨hRv, rfl⟩ hK hT hS1 (fun q h => by omega)) rfl rfl hl.1 rfl (lv_room (Nat.le_of_ble_eq_true rfl)) dL_law_213 ⟨(by show _ ≤ 600000; omega), (by show _ ≤ 7302250; omega)⟩) (fun H2 M2 e2 hM2 => ?_)
  have hS2 := lr_SE1 hS1 e2 (fun q h => by omega) (by omega) (fun q hq => hM2 q hq)
  have hz2 := e2.1
  have hRx := hRx.kept e2.1 (fun q hq => e2.2.1 q (by omega) (by omega))
  have hRy := hRy.kept e2.1 (fun q hq => e2.2.1 q (by omega) (by omega))
  have hRu := e1.2.2.kept e2.1 (fun q hq => e2.2.1 q (by omega) (by omega))
  have hRv := e2.2.2
  refine lv_iconst (v := nI 0) hx hb dL_law_216 (by decide) ?_
  refine lv_istore (lv' := [(6, .int (nI 0)), (0, .ref b), (1, .ref x), (2, .ref y), (3, .ref u), (4, .ref v)]) hx hb dL_law_217 hl (by decide) rfl (fun ls hl => ?_)
  refine lr_for (fun i H' locs' ls => H' = H2 ∧ locs' = locs ++ M1 ++ M2 ∧ lv_has ls 8 [(0, .ref b), (1, .ref x), (2, .ref y), (3, .ref u), (4, .ref v), (6, .int (nI i))]) 256 ?_ ?_ 0 (Nat.zero_le _) ⟨rfl, rfl, lv_sub hl [1, 2, 3, 4, 5, 0] rfl⟩
  · intro H' locs' ls hI
    obtain ⟨rfl, rfl, hl⟩ := hI
    refine lv_iload hx hb dL_law_219 (lv_at hl 5 rfl) ?_
    refine lv_sipush (v := nI 256) hx hb dL_law_221 (by decide) ?_
    refine lr_ge_t (tgt := 281) hx hb dL_law_224 (by decide) (Int32.le_refl _) ?_
    exact law_p3 C (Z := lr_T3 xs L 3) (lr_can_T3 xs L 0) (lr_can_T3 xs L 1) (lr_can_T3 xs L 2) ⟨hRx.to lr_f4_of, hRy.to lr_f4_of, fun q h1 h2 => by omega, fun q h => by omega, fun q h => by omega, by omega⟩ hS2 (by omega) (by omega) (lv_sub hl [0, 1, 2] rfl)
  · intro i hi H' locs' ls hI ih
    obtain ⟨rfl, rfl, hl⟩ := hI
    refine lv_iload hx hb dL_law_219 (lv_at hl 5 rfl) ?_
    refine lv_sipush (v := nI 256) hx hb dL_law_221 (by decide) ?_
    refine lr_ge_f (tgt := 281) hx hb dL_law_224 (by decide) (nI_ge (by omega) (by omega)) ?_
    refine lv_aload_n hx hb dL_law_227 rfl (lv_at hl 1 rfl) ?_
    refine lv_iconst (v := nI 0) hx hb dL_law_228 (by decide) ?_
    refine lv_iload hx hb dL_law_229 (lv_at hl 5 rfl) ?_
    refine lr_i (va_runV (As := [.int (nI 0), .int (nI i)]) (rest := []) ⟨hx, hb, hml, hown, hts⟩ (met_coef l G x _ (lr_T3 xs L) (nI 0) (nI i) 0 i (by decide) (lr_and3 (by decide)) (hi) (lr_and255 (hi))) (cwV 2 hts (lw_V q95 q96 q97 q1 q98) rfl rfl rfl (by decide +kernel) ⟨Nat.le_of_ble_eq_true rfl, Nat.le_of_ble_eq_true rfl⟩) (lr_preV hRx.at.choose_spec rfl hRx hK hT hS2 (fun _ h => h.elim)) rfl rfl hl.1 rfl (lv_room (Nat.le_of_ble_eq_true rfl)) dL_law_231 ⟨(by show _ ≤ 600000; omega), (by show _ ≤ 7302250; omega)⟩) ?_
    refine lv_aload_n hx hb dL_law_234 rfl (lv_at hl 1 rfl) ?_
    refine lv_iconst (v := nI 1) hx hb dL_law_235 (by decide) ?_
    refine lv_iload hx hb dL_law_236 (lv_at hl 5 rfl) ?_
    refine lr_i (va_runV (As := [.int (nI 1), .int (nI i)]) (rest := [.int ((lr_T3 xs L) 0 i)]) ⟨hx, hb, hml, hown, hts⟩ (met_coef l G x _ (lr_T3 xs L) (nI 1) (nI i) 1 i (by decide) (lr_and3 (by decide)) (hi) (lr_and255 (hi))) (cwV 2 hts (lw_V q95 q96 q97 q1 q98) rfl rfl rfl (by decide +kernel) ⟨Nat.le_of_ble_eq_true rfl, Nat.le_of_ble_eq_true rfl⟩) (lr_preV hRx.at.choose_spec rfl hRx hK hT hS2 (fun _ h => h.elim)) rfl rfl hl.1 rfl (lv_room (Nat.le_of_ble_eq_true rfl)) dL_law_238 ⟨(by show _ ≤ 600000; omega), (by show _ ≤ 7302250; omega)⟩) ?_
    refine lv_iadd hx hb dL_law_241 ?_
    refine lv_sipush (v := 3329) hx hb dL_law_242 (by decide) ?_
    refine lv_irem hx hb dL_law_245 (by decide) ?_
    refine lv_topi (fun w7 ew7 => ?_)
    refine lv_istore (lv' := [(7, .int w7), (0, .ref b), (1, .ref x), (2, .ref y), (3, .ref u), (4, .ref v), (6, .int (nI i))]) hx hb dL_law_246 hl (by decide) rfl (fun ls hl => ?_)
    refine lv_aload_n hx hb dL_law_248 rfl (lv_at hl 4 rfl) ?_
    refine lv_iconst (v := nI 0) hx hb dL_law_249 (by decide) ?_
    refine lv_iload hx hb dL_law_250 (lv_at hl 6 rfl) ?_
    refine lr_i (va_runV (As := [.int (nI 0), .int (nI i)]) (rest := []) ⟨hx, hb, hml, hown, hts⟩ (met_coef l G u _ (va_up (lr_T3 xs L) 0 (lr_add (lr_T3 xs L 0) (lr_T3 xs L 1))) (nI 0) (nI i) 0 i (by decide) (lr_and3 (by decide)) (hi) (lr_and255 (hi))) (cwV 2 hts (lw_V q95 q96 q97 q1 q98) rfl rfl rfl (by decide +kernel) ⟨Nat.le_of_ble_eq_true rfl, Nat.le_of_ble_eq_true rfl⟩) (lr_preV hRu.at.choose_spec rfl hRu hK hT hS2 (fun _ h => h.elim)) rfl rfl hl.1 rfl (lv_room (Nat.le_of_ble_eq_true rfl)) dL_law_252 ⟨(by show _ ≤ 600000; omega), (by show _ ≤ 7302250; omega)⟩) ?_
    refine lv_iload hx hb dL_law_255 (lv_at hl 0 rfl) ?_
    refine lr_ne_f (tgt := 273) hx hb dL_law_257 (by decide) (by rw [ew7]; exact lr_law_sum (lr_can_T3 xs L 0) (lr_can_T3 xs L 1) i hi) ?_
    refine lv_aload hx hb dL_law_260 (lv_at hl 5 rfl) ?_
    refine lv_iconst (v := nI 1) hx hb dL_law_262 (by decide) ?_
    refine lv_iload hx hb dL_law_263 (lv_at hl 6 rfl) ?_
    refine lr_i (va_runV (As := [.int (nI 1), .int (nI i)]) (rest := []) ⟨hx, hb, hml, hown, hts⟩ (met_coef l G v _ (va_up (lr_T3 xs L) 1 (lr_add (lr_T3 xs L 1) (lr_T3 xs L 0))) (nI 1) (nI i) 1 i (by decide) (lr_and3 (by decide)) (hi) (lr_and255 (hi))) (cwV 2 hts (lw_V q95 q96 q97 q1 q98) rfl rfl rfl (by decide +kernel) ⟨Nat.le_of_ble_eq_true rfl, Nat.le_of_ble_eq_true rfl⟩) (lr_preV hRv.at.choose_spec rfl hRv hK hT hS2 (fun _ h => h.elim)) rfl rfl hl.1 rfl (lv_room (Nat.le_of_ble_eq_true rfl)) dL_law_265 ⟨(by show _ ≤ 600000; omega), (by show _ ≤ 7302250; omega)⟩) ?_
    refine lv_iload hx hb dL_law_268 (lv_at hl 0 rfl) ?_
    refine lr_eq_t (tgt := 275) hx hb dL_law_270 (by decide) (by rw [ew7]; exact lr_law_sum2 (lr_can_T3 xs L 0) (lr_can_T3 xs L 1) i hi) ?_
    refine lv_iinc (v := nI (i + 1)) (lv' := [(6, .int (nI (i + 1))), (7, .int w7), (0, .ref b), (1, .ref x), (2, .ref y), (3, .ref u), (4, .ref v)]) hx hb dL_law_275 hl (k := 6) rfl (lr_inc _) (by decide) rfl (fun ls hl => ?_)
    refine lv_goto (tgt := 219) hx hb dL_law_278 (by decide) ?_
    exact ih _ _ _ ⟨rfl, rfl, lv_sub hl [2, 3, 4, 5, 6, 0] rfl⟩
set_option maxHeartbeats 4000000 in
set_option maxRecDepth 100000 in
/-- the law from its own table on -/
theorem law_p1 {p : Program} {l : Launch} {e : Env} {s : State} {m : MethodId} {below : List Frame} {meth : Method} {c : Code} {b L : Nat} {xs : Nat → Int32} {G : lr_G} (C : lr_CX p s m meth c b L xs G) {x y u v : Nat} {Hm : Heap} {oc : Cell} {locs : List Loc} {cells slots : Nat} {ls : Array Slot} (hRx : lr_LR G x (fun q => s.heap.size ≤ q ∧ q < s.heap.size + 11) (lr_T3 xs L) Hm) (hRy : lr_LR G y (fun q => s.heap.size + 11 ≤ q ∧ q < s.heap.size + 22) (lr_T3 xs L) Hm) (hRu : lr_LR G u (fun q => s.heap.size + 22 ≤ q ∧ q < s.heap.size + 33) (lr_T3 xs L) Hm) (hRv : lr_LR G v (fun q => s.heap.size + 33 ≤ q ∧ q < s.heap.size + 44) (lr_T3 xs L) Hm) (ho1 : Hm[s.heap.size + 44]? = some oc) (ho2 : s.isArrayOf oc (.array .int)) (ho3 : oc.vm ≠ .unknown) (ho4 : oc.slots.size = 3) (ho5 : ∀ j, j < 3 → oc.slots[j]? = some (.ref (s.heap.size + 44 + 1 + j))) (ho6 : ∀ j, j < 3 → Hm[s.heap.size + 44 + 1 + j]? = some (vp_cell G.2.2.2 (256, .inl (fun _ => 0)))) (hz : Hm.size = s.heap.size + 48) (hS : va_S (fun q => s.heap.size ≤ q) s.heap Hm locs) (hc : cells ≤ 500) (hsl : slots ≤ 50000) (hl : lv_has ls 8 [(0, .ref b), (1, .ref x), (2, .ref y), (3, .ref u), (4, .ref v), (5, .ref (s.heap.size + 44))]) : W p l e room_1 s m #[Value.ref b] below meth c Hm locs cells slots (lw_Z below #[Value.ref b] s) (F0 m 31 ls []) := by
  obtain ⟨hx, hb, hr, hml, hown, hts, hlocks, hK, hT, hXs, hbA, hL24, hAO⟩ := id C
  have hL31 : L < 2 ^ 31 := by omega
  refine lv_iconst (v := nI 0) hx hb dL_law_31 (by decide) ?_
  refine lv_istore (lv' := [(6, .int (nI 0)), (0, .ref b), (1, .ref x), (2, .ref y), (3, .ref u), (4, .ref v), (5, .ref (s.heap.size + 44))]) hx hb dL_law_32 hl (by decide) rfl (fun ls hl => ?_)
  refine lr_for (fun r H locs ls => lr_OW G Hm (s.heap.size + 44) (lr_g3 xs L r) H ∧ va_S (fun q => s.heap.size ≤ q) s.heap H locs ∧ lv_has ls 8 [(0, .ref b), (1, .ref x), (2, .ref y), (3, .ref u), (4, .ref v), (5, .ref (s.heap.size + 44)), (6, .int (nI r))]) 3 ?_ ?_ 0 (Nat.zero_le _) ⟨⟨rfl, fun _ _ => rfl, ho6⟩, hS, lv_sub hl [1, 2, 3, 4, 5, 6, 0] rfl⟩
  · intro H locs ls hI
    obtain ⟨hW, hS, hl⟩ := hI
    refine lv_iload hx hb dL_law_34 (lv_at hl 6 rfl) ?_
    refine lv_iconst (v := nI 3) hx hb dL_law_36 (by decide) ?_
    refine lr_ge_t (tgt := 100) hx hb dL_law_37 (by decide) (Int32.le_refl _) ?_
    refine lv_bipush (v := nI 6) hx hb dL_law_100 (by decide) ?_
    refine lv_istore (lv' := [(6, .int (nI 6)), (0, .ref b), (1, .ref x), (2, .ref y), (3, .ref u), (4, .ref v), (5, .ref (s.heap.size + 44))]) hx hb dL_law_102 hl (by decide) rfl (fun ls hl => ?_)
    refine lr_for (fun n H locs ls => lr_OW G Hm (s.heap.size + 44) (lr_puts xs n (lr_g3 xs L 3)) H ∧ va_S (fun q => s.heap.size ≤ q) s.heap H locs ∧ lv_has ls 8 [(0, .ref b), (1, .ref x), (2, .ref y), (3, .ref u), (4, .ref v), (5, .ref (s.heap.size + 44)), (6, .int (nI (6 + 2 * n)))]) ((L - 6) / 2) ?_ ?_ 0 (Nat.zero_le _) ⟨hW, hS, lv_sub hl [1, 2, 3, 4, 5, 6, 0] rfl⟩
    · intro H locs ls hI
      obtain ⟨hW, hS, hl⟩ := hI
      have hRx := hRx.kept (Nat.le_of_eq hW.1.symm) (fun q hq => hW.2.1 q (Or.inl (by omega)))
      have hRy := hRy.kept (Nat.le_of_eq hW.1.symm) (fun q hq => hW.2.1 q (Or.inl (by omega)))
      have hRu := hRu.kept (Nat.le_of_eq hW.1.symm) (fun q hq => hW.2.1 q (Or.inl (by omega)))
      have hRv := hRv.kept (Nat.le_of_eq hW.1.symm) (fun q hq => hW.2.1 q (Or.inl (by omega)))
      refine lv_iload hx hb dL_law_104 (lv_at hl 6 rfl) ?_
      refine lv_iconst (v := nI 1) hx hb dL_law_106 (by decide) ?_
      refine lv_iadd hx hb dL_law_107 ?_
      rw [show (nI (6 + 2 * ((L - 6) / 2))) + (nI 1) = nI (6 + 2 * ((L - 6) / 2) + 1) from nI_add _ _]
      refine lv_aload_n hx hb dL_law_108 rfl (lv_at hl 0 rfl) ?_
      refine va_slen hx hb hXs (lr_xlt hXs) hbA hS dL_law_109 ?_
      refine lr_ge_t (tgt := 150) hx hb dL_law_110 (by decide) (nI_le (by omega) (by omega)) ?_
      refine lv_iconst (v := nI 0) hx hb dL_law_150 (by decide) ?_
      refine lv_istore (lv' := [(6, .int (nI 0)), (0, .ref b), (1, .ref x), (2, .ref y), (3, .ref u), (4, .ref v), (5, .ref (s.heap.size + 44))]) hx hb dL_law_151 hl (by decide) rfl (fun ls hl => ?_)
      refine lr_for (fun r H' locs' ls => H' = H ∧ locs' = locs ∧ lv_has ls 8 [(0, .ref b), (1, .ref x), (2, .ref y), (3, .ref u), (4, .ref v), (5, .ref (s.heap.size + 44)), (6, .int (nI r))]) 3 ?_ ?_ 0 (Nat.zero_le _) ⟨rfl, rfl, lv_sub hl [1, 2, 3, 4, 5, 6, 0] rfl⟩
      · intro H' locs' ls hI
        obtain ⟨rfl, rfl, hl⟩ := hI
        refine lv_iload hx hb dL_law_153 (lv_at hl 6 rfl) ?_
        refine lv_iconst (v := nI 3) hx hb dL_law_155 (by decide) ?_
        refine lr_ge_t (tgt := 203) hx hb dL_law_156 (by decide) (Int32.le_refl _) ?_
        exact law_p2 C hRx hRy hRu hRv (hW.1.trans hz) hS (by omega) (by omega) (lv_sub hl [0, 1, 2, 3, 4] rfl)
      · intro r hr3 H' locs' ls hI ihr
        obtain ⟨rfl, rfl, hl⟩ := hI
        refine lv_iload hx hb dL_law_153 (lv_at hl 6 rfl) ?_
        refine lv_iconst (v := nI 3) hx hb dL_law_155 (by decide) ?_
        refine lr_ge_f (tgt := 203) hx hb dL_law_156 (by decide) (nI_ge (by omega) (by omega)) ?_
        refine lv_iconst (v := nI 0) hx hb dL_law_159 (by decide) ?_
        refine lv_istore (lv' := [(7, .int (nI 0)), (0, .ref b), (1, .ref x), (2, .ref y), (3, .ref u), (4, .ref v), (5, .ref (s.heap.size + 44)), (6, .int (nI r))]) hx hb dL_law_160 hl (by decide) rfl (fun ls hl => ?_)
        refine lr_for (fun i H'' locs'' ls => H'' = H' ∧ locs'' = locs' ∧ lv_has ls 8 [(0, .ref b), (1, .ref x), (2, .ref y), (3, .ref u), (4, .ref v), (5, .ref (s.heap.size + 44)), (6, .int (nI r)), (7, .int (nI i))]) 256 ?_ ?_ 0 (Nat.zero_le _) ⟨rfl, rfl, lv_sub hl [1, 2, 3, 4, 5, 6, 7, 0] rfl⟩
        · intro H'' locs'' ls hI
          obtain ⟨rfl, rfl, hl⟩ := hI
          refine lv_iload hx hb dL_law_162 (lv_at hl 7 rfl) ?_
          refine lv_sipush (v := nI 256) hx hb dL_law_164 (by decide) ?_
          refine lr_ge_t (tgt := 197) hx hb dL_law_167 (by decide) (Int32.le_refl _) ?_
          refine lv_iinc (v := nI (r + 1)) (lv' := [(6, .int (nI (r + 1))), (0, .ref b), (1, .ref x), (2, .ref y), (3, .ref u), (4, .ref v), (5, .ref (s.heap.size + 44)), (7, .int (nI 256))]) hx hb dL_law_197 hl (k := 6) rfl (lr_inc _) (by decide) rfl (fun ls hl => ?_)
          refine lv_goto (tgt := 153) hx hb dL_law_200 (by decide) ?_
          exact ihr _ _ _ ⟨rfl, rfl, lv_sub hl [1, 2, 3, 4, 5, 6, 0] rfl⟩
        · intro i hi H'' locs'' ls hI ihi
          obtain ⟨rfl, rfl, hl⟩ := hI
          refine lv_iload hx hb dL_law_162 (lv_at hl 7 rfl) ?_
          refine lv_sipush (v := nI 256) hx hb dL_law_164 (by decide) ?_
          refine lr_ge_f (tgt := 197) hx hb dL_law_167 (by decide) (nI_ge (by omega) (by omega)) ?_
          refine lv_aload_n hx hb dL_law_170 rfl (lv_at hl 1 rfl) ?_
          refine lv_iload hx hb dL_law_171 (lv_at hl 6 rfl) ?_
          refine lv_iload hx hb dL_law_173 (lv_at hl 7 rfl) ?_
          refine lr_i (va_runV (As := [.int (nI r), .int (nI i)]) (rest := []) ⟨hx, hb, hml, hown, hts⟩ (met_coef l G x _ (lr_T3 xs L) (nI r) (nI i) r i (by omega) (lr_and3 (by omega)) (hi) (lr_and255 (hi))) (cwV 2 hts (lw_V q95 q96 q97 q1 q98) rfl rfl rfl (by decide +kernel) ⟨Nat.le_of_ble_eq_true rfl, Nat.le_of_ble_eq_true rfl⟩) (lr_preV hRx.at.choose_spec rfl hRx hK hT hS (fun _ h => h.elim)) rfl rfl hl.1 rfl (lv_room (Nat.le_of_ble_eq_true rfl)) dL_law_175 ⟨(by show _ ≤ 600000; omega), (by show _ ≤ 7302250; omega)⟩) ?_
          refine lv_aload hx hb dL_law_178 (lv_at hl 5 rfl) ?_
          refine lv_iload hx hb dL_law_180 (lv_at hl 6 rfl) ?_
          refine lr_oald (o := s.heap.size + 44) (k := r) hx hb ((hW.2.1 _ (Or.inl (Nat.le_refl _))).trans ho1) ho2 ho3 ho4 ho5 rfl hr3 dL_law_182 ?_
          refine lv_iload hx hb dL_law_183 (lv_at hl 7 rfl) ?_
          refine lr_iald (k := i) hx hb hK (hW.2.2 r hr3) rfl hi (by omega) dL_law_185 ?_
          refine lr_eq_t (tgt := 191) hx hb dL_law_186 (by decide) (congrFun (lr_T3_own xs L hr3) i) ?_
          refine lv_iinc (v := nI (i + 1)) (lv' := [(7, .int (nI (i + 1))), (0, .ref b), (1, .ref x), (2, .ref y), (3, .ref u), (4, .ref v), (5, .ref (s.heap.size + 44)), (6, .int (nI r))]) hx hb dL_law_191 hl (k := 7) rfl (lr_inc _) (by decide) rfl (fun ls hl => ?_)
          refine lv_goto (tgt := 162) hx hb dL_law_194 (by decide) ?_
          exact ihi _ _ _ ⟨rfl, rfl, lv_sub hl [1, 2, 3, 4, 5, 6, 7, 0] rfl⟩
    · intro n hn H locs ls hI ih
      obtain ⟨hW, hS, hl⟩ := hI
      refine lv_iload hx hb dL_law_104 (lv_at hl 6 rfl) ?_
      refine lv_iconst (v := nI 1) hx hb dL_law_106 (by decide) ?_
      refine lv_iadd hx hb dL_law_107 ?_
      rw [show (nI (6 + 2 * n)) + (nI 1) = nI (6 + 2 * n + 1) from nI_add _ _]
      refine lv_aload_n hx hb dL_law_108 rfl (lv_at hl 0 rfl) ?_
      refine va_slen hx hb hXs (lr_xlt hXs) hbA hS dL_law_109 ?_
      refine lr_ge_f (tgt := 150) hx hb dL_law_110 (by decide) (nI_ge (by omega) (by omega)) ?_
      refine lv_aload hx hb dL_law_113 (lv_at hl 5 rfl) ?_
      refine lv_iload hx hb dL_law_115 (lv_at hl 6 rfl) ?_
      refine lv_iconst (v := nI 1) hx hb dL_law_117 (by decide) ?_
      refine lv_ishr hx hb dL_law_118 ?_
      refine lv_iconst (v := nI 1) hx hb dL_law_119 (by decide) ?_
      refine lv_iand hx hb dL_law_120 ?_
      rw [show ((nI (6 + 2 * n)) >>> ((nI 1) &&& 31)) &&& (nI 1) = nI ((3 + n) % 2) from lr_bit (by omega)]
      refine lr_oald (o := s.heap.size + 44) (k := ((3 + n) % 2)) hx hb ((hW.2.1 _ (Or.inl (Nat.le_refl _))).trans ho1) ho2 ho3 ho4 ho5 rfl (by omega) dL_law_121 ?_
      refine lv_aload_n hx hb dL_law_122 rfl (lv_at hl 0 rfl) ?_
      refine lv_iload hx hb dL_law_123 (lv_at hl 6 rfl) ?_
      refine lr_sld hx hb hXs hbA hS rfl (by omega) hL31 dL_law_125 ?_
      refine lv_sipush (v := nI 255) hx hb dL_law_126 (by decide) ?_
      refine lv_iand hx hb dL_law_129 ?_
      rw [show (xs (6 + 2 * n)) &&& (nI 255) = nI (lr_kp (xs (6 + 2 * n))) from lr_kp_eq _]
      refine lv_aload_n hx hb dL_law_130 rfl (lv_at hl 0 rfl) ?_
      refine lv_iload hx hb dL_law_131 (lv_at hl 6 rfl) ?_
      refine lv_iconst (v := nI 1) hx hb dL_law_133 (by decide) ?_
      refine lv_iadd hx hb dL_law_134 ?_
      rw [show (nI (6 + 2 * n)) + (nI 1) = nI (6 + 2 * n + 1) from nI_add _ _]
      refine lr_sld hx hb hXs hbA hS rfl (by omega) hL31 dL_law_135 ?_
      refine lv_ldc hx hb hown (hts _ q125) dL_law_136 ?_
      refine lv_iand hx hb dL_law_138 ?_
      refine lv_sipush (v := 3329) hx hb dL_law_139 (by decide) ?_
      refine lv_irem hx hb dL_law_142 (by decide) ?_
      refine lr_iast (k := lr_kp (xs (6 + 2 * n))) hx hb hK (hW.2.2 ((3 + n) % 2) (by omega)) rfl (lr_kp_lt _) (by omega) dL_law_143 (fun H1 e1 => ?_)
      have hW1 := hW.set (by omega) e1
      have hS1 := lr_Sh hS e1 (by omega) (lr_1 (k := lr_kp (xs (6 + 2 * n))))
      refine lv_iinc (v := nI (6 + 2 * (n + 1))) (lv' := [(6, .int (nI (6 + 2 * (n + 1)))), (0, .ref b), (1, .ref x), (2, .ref y), (3, .ref u), (4, .ref v), (5, .ref (s.heap.size + 44))]) hx hb dL_law_144 hl (k := 6) rfl (nI_add _ 2) (by decide) rfl (fun ls hl => ?_)
      refine lv_goto (tgt := 104) hx hb dL_law_147 (by decide) ?_
      exact ih _ _ _ ⟨hW1, hS1, lv_sub hl [1, 2, 3, 4, 5, 6, 0] rfl⟩
  · intro r hr3 H locs ls hI ih
    obtain ⟨hW, hS, hl⟩ := hI
    refine lv_iload hx hb dL_law_34 (lv_at hl 6 rfl) ?_
    refine lv_iconst (v := nI 3) hx hb dL_law_36 (by decide) ?_
    refine lr_ge_f (tgt := 100) hx hb dL_law_37 (by decide) (nI_ge (by omega) (by omega)) ?_
    refine lv_iconst (v := nI 0) hx hb dL_law_40 (by decide) ?_
    refine lv_istore (lv' := [(7, .int (nI 0)), (0, .ref b), (1, .ref x), (2, .ref y), (3, .ref u), (4, .ref v), (5, .ref (s.heap.size + 44)), (6, .int (nI r))]) hx hb dL_law_41 hl (by decide) rfl (fun ls hl => ?_)
    refine lr_for (fun i H locs ls => lr_OW G Hm (s.heap.size + 44) (va_up (lr_g3 xs L r) r (lr_to (lr_spr (lr_cl xs L (2 * r)) (lr_cl xs L (2 * r + 1))) (fun _ => 0) i)) H ∧ va_S (fun q => s.heap.size ≤ q) s.heap H locs ∧ lv_has ls 8 [(0, .ref b), (1, .ref x), (2, .ref y), (3, .ref u), (4, .ref v), (5, .ref (s.heap.size + 44)), (6, .int (nI r)), (7, .int (nI i))]) 256 ?_ ?_ 0 (Nat.zero_le _) ⟨hW.to (fun j hj k hk => ?_), hS, lv_sub hl [1, 2, 3, 4, 5, 6, 7, 0] rfl⟩
    · intro H locs ls hI
      obtain ⟨hW, hS, hl⟩ := hI
      refine lv_iload hx hb dL_law_43 (lv_at hl 7 rfl) ?_
      refine lv_sipush (v := nI 256) hx hb dL_law_45 (by decide) ?_
      refine lr_ge_t (tgt := 94) hx hb dL_law_48 (by decide) (Int32.le_refl _) ?_
      refine lv_iinc (v := nI (r + 1)) (lv' := [(6, .int (nI (r + 1))), (0, .ref b), (1, .ref x), (2, .ref y), (3, .ref u), (4, .ref v), (5, .ref (s.heap.size + 44)), (7, .int (nI 256))]) hx hb dL_law_94 hl (k := 6) rfl (lr_inc _) (by decide) rfl (fun ls hl => ?_)
      refine lv_goto (tgt := 34) hx hb dL_law_97 (by decide) ?_
      refine ih _ _ _ ⟨hW.to (fun j hj k hk => ?_), hS, lv_sub hl [1, 2, 3, 4, 5, 6, 0] rfl⟩
      rw [← lr_g3_1]
      by_cases a : j = r
      · subst a
        rw [va_up_self, va_up_self]
        exact lr_to_e hk
      · rw [va_up_ne _ _ a, va_up_ne _ _ a]
    · intro i hi H locs ls hI ihi
      obtain ⟨hW, hS, hl⟩ := hI
      refine lv_iload hx hb dL_law_43 (lv_at hl 7 rfl) ?_
      refine lv_sipush (v := nI 256) hx hb dL_law_45 (by decide) ?_
      refine lr_ge_f (tgt := 94) hx hb dL_law_48 (by decide) (nI_ge (by omega) (by omega)) ?_
      refine lv_aload hx hb dL_law_51 (lv_at hl 5 rfl) ?_
      refine lv_iload hx hb dL_law_53 (lv_at hl 6 rfl) ?_
      refine lr_oald (o := s.heap.size + 44) (k := r) hx hb ((hW.2.1 _ (Or.inl (Nat.le_refl _))).trans ho1) ho2 ho3 ho4 ho5 rfl hr3 dL_law_55 ?_
      refine lv_iload hx hb dL_law_56 (lv_at hl 7 rfl) ?_
      refine lv_aload_n hx hb dL_law_58 rfl (lv_at hl 0 rfl) ?_
      refine lv_iconst (v := nI 2) hx hb dL_law_59 (by decide) ?_
      refine lv_iload hx hb dL_law_60 (lv_at hl 6 rfl) ?_
      refine lv_imul hx hb dL_law_62 ?_
      rw [show (nI 2) * (nI r) = nI (2 * r) from pk_mul _ _]
      refine lr_i (va_runS (As := [.ref b, .int (nI (2 * r))]) (rest := [.int (nI i), .ref (s.heap.size + 44 + 1 + r)]) ⟨hx, hb, hml, hown, hts⟩ (met_cell l b L (2 * r) xs hL31 (by omega)) (va_cwS 2 hts (lw_S q99 q100 q0 q101) rfl rfl rfl (by decide +kernel) ⟨Nat.le_of_ble_eq_true rfl, Nat.le_of_ble_eq_true rfl⟩) (lr_xpre hXs hbA hS) rfl rfl hl.1 rfl (lv_room (Nat.le_of_ble_eq_true rfl)) dL_law_63 ⟨(by show _ ≤ 600000; omega), (by show _ ≤ 7302250; omega)⟩) ?_
      refine lv_iload hx hb dL_law_66 (lv_at hl 7 rfl) ?_
      refine lv_aload_n hx hb dL_law_68 rfl (lv_at hl 0 rfl) ?_
      refine lv_iconst (v := nI 2) hx hb dL_law_69 (by decide) ?_
      refine lv_iload hx hb dL_law_70 (lv_at hl 6 rfl) ?_
      refine lv_imul hx hb dL_law_72 ?_
      rw [show (nI 2) * (nI r) = nI (2 * r) from pk_mul _ _]
      refine lv_iconst (v := nI 1) hx hb dL_law_73 (by decide) ?_
      refine lv_iadd hx hb dL_law_74 ?_
      rw [show (nI (2 * r)) + (nI 1) = nI (2 * r + 1) from nI_add _ _]
      refine lr_i (va_runS (As := [.ref b, .int (nI (2 * r + 1))]) (rest := [.int (nI i), .int (lr_cl xs L (2 * r)), .int (nI i), .ref (s.heap.size + 44 + 1 + r)]) ⟨hx, hb, hml, hown, hts⟩ (met_cell l b L (2 * r + 1) xs hL31 (by omega)) (va_cwS 2 hts (lw_S q99 q100 q0 q101) rfl rfl rfl (by decide +kernel) ⟨Nat.le_of_ble_eq_true rfl, Nat.le_of_ble_eq_true rfl⟩) (lr_xpre hXs hbA hS) rfl rfl hl.1 rfl (lv_room (Nat.le_of_ble_eq_true rfl)) dL_law_75 ⟨(by show _ ≤ 600000; omega), (by show _ ≤ 7302250; omega)⟩) ?_
      refine lv_imul hx hb dL_law_78 ?_
      refine lv_iadd hx hb dL_law_79 ?_
      refine lv_ldc hx hb hown (hts _ q125) dL_law_80 ?_
      refine lv_iand hx hb dL_law_82 ?_
      refine lv_sipush (v := 3329) hx hb dL_law_83 (by decide) ?_
      refine lv_irem hx hb dL_law_86 (by decide) ?_
      have hc0 := hW.2.2 r hr3
      rw [va_up_self] at hc0
      refine lr_iast (k := i) hx hb hK hc0 rfl hi (by omega) dL_law_87 (fun H1 e1 => ?_)
      have e2 := e1.to (congrArg (fun f => vp_cell G.2.2.2 (256, .inl f)) (lr_to_1 (g := lr_spr (lr_cl xs L (2 * r)) (lr_cl xs L (2 * r + 1))) (f := fun _ => 0) (i := i) rfl))
      have hW1 := hW.set hr3 e2
      rw [bx_uu] at hW1
      have hS1 := lr_Sh hS e1 (by omega) (lr_1 (k := i))
      refine lv_iinc (v := nI (i + 1)) (lv' := [(7, .int (nI (i + 1))), (0, .ref b), (1, .ref x), (2, .ref y), (3, .ref u), (4, .ref v), (5, .ref (s.heap.size + 44)), (6, .int (nI r))]) hx hb dL_law_88 hl (k := 7) rfl (lr_inc _) (by decide) rfl (fun ls hl => ?_)
      refine lv_goto (tgt := 43) hx hb dL_law_91 (by decide) ?_
      exact ihi _ _ _ ⟨hW1, hS1, lv_sub hl [1, 2, 3, 4, 5, 6, 7, 0] rfl⟩
    · by_cases a : j = r
      · subst a
        rw [va_up_self, lr_to_0]
        unfold lr_g3
        rw [if_neg (by omega)]
      · rw [va_up_ne _ _ a]
end
section
set_option maxHeartbeats 4000000 in
set_option maxRecDepth 100000 in
/-- from the entry, for every script of at most 24 ints, the law comes to its end with true ('hflags': the launch's flags, for a law that throws: no stack traces) -/
theorem whole_start {p : Program} {e : Env} {s : State} {m : MethodId} {below : List Frame} {meth : Method} {c : Code} (l : Launch) (hflags : l.flags = flags0) {b L : Nat} {xs : Nat → Int32} (hL : L ≤ 24) (C0 : lw_At p s m meth c b L xs) : W p l e room_1 s m #[Value.ref b] below meth c s.heap [] 0 0 (lw_Z below #[Value.ref b] s) (entryFrame m ([Value.ref b] : List Value).toArray 8) := by
  obtain ⟨hx, hb, hr, hml, hown, hts0, hX, hbl, hlocks, hgv⟩ := C0
  have hts : ∀ w ∈ lw_all, w.before #[Value.ref b] s = true := fun w h => hts0 w (lw_all_tbl h)
  obtain ⟨G, hK⟩ := lr_Kof hts0
  have hT := lr_Tof hgv hts0
  have hbA : ¬ s.heap.size ≤ b := Nat.not_le.mpr hbl
  have C : lr_CX p s m meth c b L xs G := ⟨hx, hb, hr, hml, hown, hts, hlocks, hK, hT, hX, hbA, hL, hts0 _ q124⟩
  have hl := lv_entry ([.ref b]) (n := 8) (Nat.le_of_ble_eq_true rfl)
  rw [lg_entry_eq]
  generalize (lg_sl ([.ref b]) ++ List.replicate (8 - (lg_sl ([.ref b])).length) Slot.unset).toArray = ls at hl ⊢
  have hl : lv_has ls 8 [(0, .ref b)] := hl
  have hS0 : va_S (fun q => s.heap.size ≤ q) s.heap s.heap [] := va_S.rf
  have z0 : s.heap.size = s.heap.size + 0 := rfl
  refine lv_aload_n hx hb dL_law_0 rfl (lv_at hl 0 rfl) ?_
  refine lr_a (va_runS (As := [.ref b]) (rest := []) ⟨hx, hb, hml, hown, hts⟩ (met_three l G b L (s.heap.size) xs hL (by omega)) (va_cwS 1 hts (lw_S q102 q103 q0 q104) rfl rfl rfl (by decide +kernel) ⟨Nat.le_of_ble_eq_true rfl, Nat.le_of_ble_eq_true rfl⟩) (lr_BX.preS hX hbA (by omega) hK hT hS0 (fun q h => by omega)) rfl rfl hl.1 rfl (lv_room (Nat.le_of_ble_eq_true rfl)) dL_law_1 ⟨(by show _ ≤ 600000; omega), (by show _ ≤ 7302250; omega)⟩) (fun a1 H1 M1 E1 hM1 => ?_)
  obtain ⟨ea1, z1, o1, hRx⟩ := E1
  subst ea1
  have hRx := hRx.mono (F' := (fun q => s.heap.size ≤ q ∧ q < s.heap.size + 11)) (fun q h => by omega) (fun q h => by omega)
  have hS1 := lr_Sc (A1 := fun q => s.heap.size ≤ q) hS0 (by omega) (fun q h1 _ => o1 q (by omega)) (fun q h => by omega) hM1
  refine lv_astore_n (lv' := [(1, .ref s.heap.size), (0, .ref b)]) hx hb dL_law_4 rfl hl (by decide) rfl (fun ls hl => ?_)
  refine lv_aload_n hx hb dL_law_5 rfl (lv_at hl 1 rfl) ?_
  refine lr_a (va_runS (As := [.ref b]) (rest := []) ⟨hx, hb, hml, hown, hts⟩ (met_three l G b L (s.heap.size + 11) xs hL (by omega)) (va_cwS 1 hts (lw_S q102 q103 q0 q104) rfl rfl rfl (by decide +kernel) ⟨Nat.le_of_ble_eq_true rfl, Nat.le_of_ble_eq_true rfl⟩) (lr_BX.preS hX hbA (by omega) hK hT hS1 (fun q h => by omega)) rfl rfl hl.1 rfl (lv_room (Nat.le_of_ble_eq_true rfl)) dL_law_6 ⟨(by show _ ≤ 600000; omega), (by show _ ≤ 7302250; omega)⟩) (fun a2 H2 M2 E2 hM2 => ?_)
  obtain ⟨ea2, z2, o2, hRy⟩ := E2
  subst ea2
  have hRy := hRy.mono (F' := (fun q => s.heap.size + 11 ≤ q ∧ q < s.heap.size + 22)) (fun q h => by omega) (fun q h => by omega)
  have hRx := hRx.kept (H1 := H2) (by omega) (fun q h => o2 q (by omega))
  have hS2 := lr_Sc (A1 := fun q => s.heap.size + 11 ≤ q) hS1 (by omega) (fun q h1 _ => o2 q (by omega)) (fun q h => by omega) hM2
  refine lv_astore_n (lv' := [(2, .ref (s.heap.size + 11)), (1, .ref s.heap.size), (0, .ref b)]) hx hb dL_law_9 rfl hl (by decide) rfl (fun ls hl => ?_)
  refine lv_aload_n hx hb dL_law_10 rfl (lv_at hl 2 rfl) ?_
  refine lr_a (va_runS (As := [.ref b]) (rest := []) ⟨hx, hb, hml, hown, hts⟩ (met_three l G b L (s.heap.size + 22) xs hL (by omega)) (va_cwS 1 hts (lw_S q102 q103 q0 q104) rfl rfl rfl (by decide +kernel) ⟨Nat.le_of_ble_eq_true rfl, Nat.le_of_ble_eq_true rfl⟩) (lr_BX.preS hX hbA (by omega) hK hT hS2 (fun q h => by omega)) rfl rfl hl.1 rfl (lv_room (Nat.le_of_ble_eq_true rfl)) dL_law_11 ⟨(by show _ ≤ 600000; omega), (by show _ ≤ 7302250; omega)⟩) (fun a3 H3 M3 E3 hM3 => ?_)
  obtain ⟨ea3, z3, o3, hRu⟩ := E3
  subst ea3
  have hRu := hRu.mono (F' := (fun q => s.heap.size + 22 ≤ q ∧ q < s.heap.size + 33)) (fun q h => by omega) (fun q h => by omega)
  have hRx := hRx.kept (H1 := H3) (by omega) (fun q h => o3 q (by omega))
  have hRy := hRy.kept (H1 := H3) (by omega) (fun q h => o3 q (by omega))
  have hS3 := lr_Sc (A1 := fun q => s.heap.size + 22 ≤ q) hS2 (by omega) (fun q h1 _ => o3 q (by omega)) (fun q h => by omega) hM3
  refine lv_astore_n (lv' := [(3, .ref (s.heap.size + 22)), (2, .ref (s.heap.size + 11)), (1, .ref s.heap.size), (0, .ref b)]) hx hb dL_law_14 rfl hl (by decide) rfl (fun ls hl => ?_)
  refine lv_aload_n hx hb dL_law_15 rfl (lv_at hl 3 rfl) ?_
  refine lr_a (va_runS (As := [.ref b]) (rest := []) ⟨hx, hb, hml, hown, hts⟩ (met_three l G b L (s.heap.size + 33) xs hL (by omega)) (va_cwS 1 hts (lw_S q102 q103 q0 q104) rfl rfl rfl (by decide +kernel) ⟨Nat.le_of_ble_eq_true rfl, Nat.le_of_ble_eq_true rfl⟩) (lr_BX.preS hX hbA (by omega) hK hT hS3 (fun q h => by omega)) rfl rfl hl.1 rfl (lv_room (Nat.le_of_ble_eq_true rfl)) dL_law_16 ⟨(by show _ ≤ 600000; omega), (by show _ ≤ 7302250; omega)⟩) (fun a4 H4 M4 E4 hM4 => ?_)
  obtain ⟨ea4, z4, o4, hRv⟩ := E4
  subst ea4
  have hRv := hRv.mono (F' := (fun q => s.heap.size + 33 ≤ q ∧ q < s.heap.size + 44)) (fun q h => by omega) (fun q h => by omega)
  have hRx := hRx.kept (H1 := H4) (by omega) (fun q h => o4 q (by omega))
  have hRy := hRy.kept (H1 := H4) (by omega) (fun q h => o4 q (by omega))
  have hRu := hRu.kept (H1 := H4) (by omega) (fun q h => o4 q (by omega))
  have hS4 := lr_Sc (A1 := fun q => s.heap.size + 33 ≤ q) hS3 (by omega) (fun q h1 _ => o4 q (by omega)) (fun q h => by omega) hM4
  refine lv_astore (lv' := [(4, .ref (s.heap.size + 33)), (3, .ref (s.heap.size + 22)), (2, .ref (s.heap.size + 11)), (1, .ref s.heap.size), (0, .ref b)]) hx hb dL_law_19 hl (by decide) rfl (fun ls hl => ?_)
  refine lv_iconst (v := nI 3) hx hb dL_law_21 (by decide) ?_
  refine lv_sipush (v := nI 256) hx hb dL_law_22 (by decide) ?_
  refine lr_multi (a := s.heap.size + 44) hx hb hts (by omega) hown q123 (hts0 _ q124) hK (by show _ ≤ 600000; omega) (by show _ ≤ 7302250; omega) dL_law_25 (fun H5 oc o1_ o2_ o3_ o4_ o5_ o6_ z5 o5 => ?_)
  have hRx := hRx.kept (H1 := H5) (by omega) (fun q h => o5 q (by omega))
  have hRy := hRy.kept (H1 := H5) (by omega) (fun q h => o5 q (by omega))
  have hRu := hRu.kept (H1 := H5) (by omega) (fun q h => o5 q (by omega))
  have hRv := hRv.kept (H1 := H5) (by omega) (fun q h => o5 q (by omega))
  have hS5 := lr_Sn hS4 (by omega) (fun q h => o5 q (by omega))
  refine lv_astore (lv' := [(5, .ref (s.heap.size + 44)), (4, .ref (s.heap.size + 33)), (3, .ref (s.heap.size + 22)), (2, .ref (s.heap.size + 11)), (1, .ref s.heap.size), (0, .ref b)]) hx hb dL_law_29 hl (by decide) rfl (fun ls hl => ?_)
  exact law_p1 C hRx hRy hRu hRv o1_ o2_ o3_ o4_ o5_ o6_ z5 hS5 (by omega) (by omega) (lv_sub hl [5, 4, 3, 2, 1, 0] rfl)
set_option maxHeartbeats 4000000 in
theorem lw_walk (l : Launch) (hflags : l.flags = flags0) (b : Addr) (xs : List Int32) : MetFree l x (headSpec (Jvm.Cond.code x code maxLocals ret :: tables_1) room_1) (lw_P b xs) (fun _ _ _ _ _ => True) lw_Q := by
  refine MetFree.of_bodyS (code := code) (maxLocals := maxLocals) (ret := ret) (by decide) ?_ ?_
  · intro args s m h hn
    obtain ⟨meth, c, h1, h2, h3, h4, h5, h6, -, -⟩ := Cond.code_spec hn (atoms_spec (ws := Jvm.Cond.code x code maxLocals ret :: tables_1) h _ List.mem_cons_self)
    exact ⟨meth, c, h1, h2, h3, h4, h5, h6⟩
  · intro p e s m args below meth c s₁ B hml0 hP _
    obtain ⟨rfl, hx, hbd, hgv⟩ := hP
    obtain ⟨scr, harrAt, hlist, hof, hsmall⟩ := hx
    obtain ⟨hcb, hkn, -, -⟩ := State.arrayAt?_spec harrAt
    have hown : s.vm.findClass R_law = some m.cls := findClass_of_methodNamed B.named
    have hts0 : ∀ c ∈ (Jvm.Cond.code x code maxLocals ret :: tables_1), c.before #[Value.ref b] s = true := atoms_spec (ws := Jvm.Cond.code x code maxLocals ret :: tables_1) B.pre
    have hts : ∀ w ∈ lw_tbl, w.before #[Value.ref b] s = true := k2_hts_sels lw_privs (fun w hw => hts0 w (List.mem_cons_of_mem _ hw)) lw_privs_ok
    have hml : c.maxLocals = 8 := B.maxLocals_eq (hts0 _ List.mem_cons_self)
    have X₀ : Stand p l e room_1 s m #[Value.ref b] below meth c s₁ [] 0 0 := Stand.of_body B
    have hh0 : s₁.heap = s.heap := by rw [B.state]; rfl
    have hsz : scr.slots.size = xs.length := by rw [← Array.length_toList, hlist, List.length_map]
    have hval : ∀ j : Nat, j < xs.length → scr.slots[j]? = some (.int (xs.getD j 0)) := fun j hj => by
      rw [← Array.getElem?_toList, hlist]
      simp [hj]
    have hbl : b < s.heap.size := (Array.getElem?_eq_some_iff.mp hcb).1
    have hX : va_X b xs.length (fun j => xs.getD j 0) s s.heap := ⟨scr, hcb, hof, hkn, hsz, hval⟩
    have K : W p l e room_1 s m #[Value.ref b] below meth c s₁.heap [] 0 0 (lw_Z below #[Value.ref b] s) (entryFrame m ([Value.ref b] : List Value).toArray 8) := by
      rw [hh0]
      exact whole_start l hflags hbd ⟨B.exec, B.bytes, B.returns, hml, hown, hts, hX, hbl, B.notSynchronized, hgv⟩
    obtain ⟨t, a1, o, b1, b2, b3⟩ := K s₁ rfl X₀
    exact ⟨t, o, a1, b1, b2, b3⟩
theorem lw_pre_spec {args : Array Value} {s : State} (h : (Jvm.Cond.and given_1 narrow_1).before args s = true) (hr : rest_1_c.before args s = true) : ∃ (b : Addr) (xs : List Int32), lw_P b xs args s := by
  have hs := flat_of_before _ h
  have hq := flat_of_before _ hr
  have hc : (Cond.count 1).before args s = true := hs _ (by decide +kernel)
  have harr : (Cond.arrayOf (.arg 0) .int).before args s = true := hs _ (by decide +kernel)
  have hle : (Cond.le (.length (.arg 0)) (.int 24)).before args s = true := hs _ (by decide +kernel)
  have hlen : (Cond.isInt (.length (.arg 0))).before args s = true := hq _ (by decide +kernel)
  have hall : (Cond.all (.arg 0) (.isInt (.elem (.arg 0) (.index 0)))).before args s = true := hq _ (by decide +kernel)
  obtain ⟨b, xs, hb, hx⟩ := State.ints_of_pre rfl harr hlen hall
  have hsm : xs.length < 2 ^ 31 := hx.choose_spec.2.2.2
  have hev : (Term.length (.arg 0)).eval args s none [] s = some (.int xs.length.toInt32) := hx.length_eval hb
  have hv := Cond.le_ints hev (show (Term.int 24).eval args s none [] s = some (.int 24) from rfl)
  have hd : xs.length.toInt32 ≤ 24 := by
    simpa [Cond.before, Cond.holds, hv] using hle
  have hN : xs.length ≤ 24 := (Int32.ofNat_le_ofNat hsm (by decide)).mp (show Int32.ofNat xs.length ≤ Int32.ofNat 24 from hd)
  exact ⟨b, xs, Cond.one_arg hc (show args[0]? = some (.ref b) from hb), hx, hN, h⟩
theorem lw_comes (l : Launch) (hflags : l.flags = flags0) : Comes l x (Jvm.Cond.code x code maxLocals ret :: tables_1) room_1 (fun tb e args s => Calls_1 tb e args s ∧ rest_1 tb e args s ∧ Pre_1 tb e args s)
    (fun _ _ args s o t => lw_Q args s o t) := by
  intro p e ha hc hk s m args below hf hfit hheap happ hpre
  obtain ⟨b, xs, hP⟩ := lw_pre_spec hpre.2.2 hpre.2.1
  obtain ⟨k, o, h1, h2, h3, hQ⟩ := lw_walk l hflags b xs p e ha hc hk s m args below hf ((Spec.applies_iff_loose hf).mp happ).1 hP trivial
  exact ⟨k, o, h1, h2, h3, hQ⟩
theorem lw_frame {s t : State} {o : Outcome} {args : Array Value} (h : Framed s o t [] 600000 7302250) :
    Framed s o t (fieldLocs frame_1_writes args s ++ arrayLocs frame_1_arrays args s ++ staticLocs frame_1_statics s) 600000 7302250 := h
theorem lw_limb (L : Cond) (hL : ∀ (args : Array Value) (s t : State), L.after args s (.returned (some (.int 1))) t = true) :
    ArmFor flags0 classFile x code maxLocals ret World_1 tables_1 room_1 Calls_1 rest_1 Pre_1
      (fun tb e a s o t => postC L tb e a s o t ∧ Framed s o t (fieldLocs frame_1_writes a s ++ arrayLocs frame_1_arrays a s ++ staticLocs frame_1_statics s) 600000 7302250) := by
  intro l hflags _ _ p e ha hc hk s m args below hf hfit hheap happ hpre
  obtain ⟨k, o, h1, h2, h3, rfl, hF⟩ := lw_comes l hflags p e ha hc hk s m args below hf hfit hheap happ hpre
  exact ⟨k, _, h1, h2, h3, hL args s _, lw_frame hF⟩
theorem i_vc : Claimed_1_1 ∧ Claimed_1_2 := ⟨lw_limb limb_1_1 (fun args s t => by simp [limb_1_1, Cond.after, Cond.holds, Cond.value]), lw_limb limb_1_2 (fun args s t => Cond.after_iff.mpr (by
  first | (rw [show limb_1_2 = Cond.eq .result (.int 1) from rfl, Cond.eq_ints (x := 1) (y := 1) rfl rfl]; simp; done) | (simp [limb_1_2, Cond.value, Term.eval]; done)))⟩
end
