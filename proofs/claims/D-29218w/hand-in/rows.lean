section
-- ===== PART A: goes FIRST, ahead of the names: the tables' words, and 'selects' of the private methods out of them =====
/-- a private method of a class that the tables say can be made, by its rows of tables_1 -/
def lw_okq (q : MethodName × Nat) : Prop := (q.1.cls ≠ "java/lang/invoke/MethodHandle" ∧ q.1.cls ≠ "java/lang/invoke/VarHandle") ∧ Cond.instantiable q.1.cls q.2 ∈ tables_1 ∧ Cond.privateMethod q.1 ∈ tables_1 ∧ Cond.instanceMethod q.1 ∈ tables_1
def lw_privs : List (MethodName × Nat) := []
def lw_tbl : List Cond := k2_sels lw_privs ++ tables_1
theorem lw_privs_ok : ∀ q ∈ lw_privs, lw_okq q := fun _ h => absurd h List.not_mem_nil
-- ===== ONE list of words for every method: the tables' words that hold all through a run =====
def lw_all : List Cond := lw_tbl.filter goodWord
/-- a word of the tables by its place: claim/WORDS.tsv -/
theorem lw_w {w : Cond} (i : Nat) (h : lw_tbl[i]? = some w) (g : goodWord w = true) : w ∈ lw_all := List.mem_filter.mpr ⟨List.mem_of_getElem? h, g⟩
theorem lw_all_tbl {w : Cond} (h : w ∈ lw_all) : w ∈ lw_tbl := (List.mem_filter.mp h).1
theorem lw_self : GoodIn lw_all lw_all := fun w h => ⟨h, good_of_word (List.mem_filter.mp h).2⟩
/-- a class's field words, by their places -/
theorem lw_in (ws : List Cond) (ps : List Nat) (hp : ws = ps.filterMap (fun i => lw_tbl[i]?)) (hg : ws.all goodWord = true) : ∀ w ∈ ws, w ∈ lw_all := by
  intro w h
  have h1 := List.all_eq_true.mp hg w h
  rw [hp] at h
  obtain ⟨i, -, hi⟩ := List.mem_filterMap.mp h
  exact lw_w i hi h1
/-- the words of a contract for the method y with code b, L locals, answer r -/
abbrev ws_ (y : MethodName) (b : ByteArray) (L : Nat) (r : Option FieldType) : List Cond := Cond.code y b L r :: lw_all
theorem lw_meth {y : MethodName} {b : ByteArray} {L : Nat} {r : Option FieldType} (h : Cond.code y b L r ∈ lw_all) : GoodIn lw_all (ws_ y b L r) := by
  intro w hw
  rcases List.mem_cons.mp hw with e | e
  · rw [e]
    exact lw_self _ h
  · exact lw_self _ e
theorem lw_app {a c : List Cond} (ha : ∀ w ∈ a, w ∈ lw_all) (hc : GoodIn lw_all c) : GoodIn lw_all (a ++ c) := by
  intro w hw
  rcases List.mem_append.mp hw with e | e
  · exact lw_self w (ha w e)
  · exact hc w e
/-- what a call through an object asks: cwV n hts (lw_V ..) -/
theorem lw_V {own : String} {idx : Nat} {C : String} {y : MethodName} {b : ByteArray} {L : Nat} {r : Option FieldType} (h1 : Cond.methodLink own idx y ∈ lw_all) (h2 : Cond.instanceMethod y ∈ lw_all) (h3 : Cond.selects C y y ∈ lw_all) (h4 : Cond.initialized C ∈ lw_all) (h5 : Cond.code y b L r ∈ lw_all) : GoodIn lw_all (wsV own idx C y (ws_ y b L r)) := by
  refine lw_app ?_ (lw_meth h5)
  intro w hw
  simp only [List.mem_cons, List.not_mem_nil, or_false] at hw
  rcases hw with e | e | e | e
  · rw [e]; exact h1
  · rw [e]; exact h2
  · rw [e]; exact h3
  · rw [e]; exact h4
/-- what a static call asks: va_cwS n hts (lw_S ..) -/
theorem lw_S {own : String} {idx : Nat} {y : MethodName} {b : ByteArray} {L : Nat} {r : Option FieldType} (h1 : Cond.methodLink own idx y ∈ lw_all) (h2 : Cond.static y ∈ lw_all) (h3 : Cond.initialized y.cls ∈ lw_all) (h4 : Cond.code y b L r ∈ lw_all) : GoodIn lw_all (va_wsS own idx y (ws_ y b L r)) := by
  refine lw_app ?_ (lw_meth h4)
  intro w hw
  simp only [List.mem_cons, List.not_mem_nil, or_false] at hw
  rcases hw with e | e | e
  · rw [e]; exact h1
  · rw [e]; exact h2
  · rw [e]; exact h3
/-- the words of a contract for a method WITH HANDLERS (hh: its table) -/
abbrev wsW_ (y : MethodName) (b : ByteArray) (L : Nat) (r : Option FieldType) (hh : List (Nat × Nat × Nat × Nat)) : List Cond := Cond.codeWith y b L r hh :: lw_all
theorem lw_methW {y : MethodName} {b : ByteArray} {L : Nat} {r : Option FieldType} {hh : List (Nat × Nat × Nat × Nat)} (h : Cond.codeWith y b L r hh ∈ lw_all) : GoodIn lw_all (wsW_ y b L r hh) := by
  intro w hw
  rcases List.mem_cons.mp hw with e | e
  · rw [e]
    exact lw_self _ h
  · exact lw_self _ e
/-- any list of words by their places (lw_in), good -/
theorem lw_good {ws : List Cond} (h : ∀ w ∈ ws, w ∈ lw_all) : GoodIn lw_all ws := fun w hw => lw_self w (h w hw)
/-- what a call of a method with handlers asks: vx_cwVW n hts (lw_VW ..), vx_cwSW n hts (lw_SW ..) -/
theorem lw_VW {own : String} {idx : Nat} {C : String} {y : MethodName} {b : ByteArray} {L : Nat} {r : Option FieldType} {hh : List (Nat × Nat × Nat × Nat)} (h1 : Cond.methodLink own idx y ∈ lw_all) (h2 : Cond.instanceMethod y ∈ lw_all) (h3 : Cond.selects C y y ∈ lw_all) (h4 : Cond.initialized C ∈ lw_all) (h5 : Cond.codeWith y b L r hh ∈ lw_all) : GoodIn lw_all (wsV own idx C y (wsW_ y b L r hh)) := by
  refine lw_app ?_ (lw_methW h5)
  intro w hw
  simp only [List.mem_cons, List.not_mem_nil, or_false] at hw
  rcases hw with e | e | e | e
  · rw [e]; exact h1
  · rw [e]; exact h2
  · rw [e]; exact h3
  · rw [e]; exact h4
theorem lw_SW {own : String} {idx : Nat} {y : MethodName} {b : ByteArray} {L : Nat} {r : Option FieldType} {hh : List (Nat × Nat × Nat × Nat)} (h1 : Cond.methodLink own idx y ∈ lw_all) (h2 : Cond.static y ∈ lw_all) (h3 : Cond.initialized y.cls ∈ lw_all) (h4 : Cond.codeWith y b L r hh ∈ lw_all) : GoodIn lw_all (va_wsS own idx y (wsW_ y b L r hh)) := by
  refine lw_app ?_ (lw_methW h4)
  intro w hw
  simp only [List.mem_cons, List.not_mem_nil, or_false] at hw
  rcases hw with e | e | e
  · rw [e]; exact h1
  · rw [e]; exact h2
  · rw [e]; exact h3
/-- a word by its place in its run of the tables -/
theorem lw_at {r : List Cond} (hr : ∀ w ∈ r, w ∈ lw_tbl) {w : Cond} (i : Nat) (h : r[i]? = some w) : w ∈ lw_tbl := hr w (List.mem_of_getElem? h)
theorem lw_g {w : Cond} (h : w ∈ lw_tbl) (g : goodWord w = true) : w ∈ lw_all := List.mem_filter.mpr ⟨h, g⟩
theorem lw_ms : ∀ w ∈ k2_sels lw_privs, w ∈ lw_tbl := fun w h => show w ∈ k2_sels lw_privs ++ tables_1 from List.mem_append_left _ h
theorem lw_m0 : ∀ w ∈ tables_1, w ∈ lw_tbl := fun w h => show w ∈ k2_sels lw_privs ++ tables_1 from List.mem_append_right (k2_sels lw_privs) h
/-! DECODE ROWS BY BYTES: one lemma an opcode; a method's code is cut into short pieces once, and a row reads its own piece alone. -/
set_option maxRecDepth 100000
/-- the code has just these bytes from pc on -/
def DkAt (code : ByteArray) (pc : Nat) (bs : List UInt8) : Prop := ∀ (j : Nat) (b : UInt8), bs[j]? = some b → code.data.toList[pc + j]? = some b
/-- the piece W has the bytes bs from its place j on -/
def dkIn (W : List UInt8) (j : Nat) (bs : List UInt8) : Bool := decide ((W.drop j).take bs.length = bs)
theorem dk_seg {l W T : List UInt8} {o o2 : Nat} (h : l.drop o = W ++ T) (n : Nat) (hn : W.length = n) (ho : o + n = o2) : l.drop o2 = T := by
  subst ho
  rw [← List.drop_drop, h, List.drop_left' hn]
theorem dk_at {code : ByteArray} {W T bs : List UInt8} {o pc : Nat} (h : code.data.toList.drop o = W ++ T) (j : Nat) (hp : o + j = pc) (hw : dkIn W j bs = true) : DkAt code pc bs := by
  subst hp
  intro i b e
  have h1 := of_decide_eq_true hw
  have h2 : i < bs.length := (List.getElem?_eq_some_iff.mp e).1
  have h3 : W[j + i]? = some b := by
    rw [← h1, List.getElem?_take, if_pos h2, List.getElem?_drop] at e
    exact e
  have h4 : j + i < W.length := (List.getElem?_eq_some_iff.mp h3).1
  have h5 : (code.data.toList.drop o)[j + i]? = some b := by
    rw [h, List.getElem?_append_left h4]
    exact h3
  rw [List.getElem?_drop, ← Nat.add_assoc] at h5
  exact h5
theorem dk_u1 {A : ByteArray} {p : Nat} {b : UInt8} (h : A.data.toList[p]? = some b) : (Reader.u1 : Reader DecodeError Nat) A p = .ok (b.toNat, p + 1) := by
  obtain ⟨h1, h2⟩ := List.getElem?_eq_some_iff.mp h
  have h3 : p < A.size := by simpa using h1
  have h4 : A[p]'h3 = b := h2
  have e : (Reader.u1 : Reader DecodeError Nat) A p = (if h : p < A.size then .ok (A[p].toNat, p + 1) else .error (HasTruncated.truncated p)) := by
    show (do if h : p < A.size then do set (p + 1); Pure.pure A[p].toNat else MonadExcept.throw (HasTruncated.truncated p) : Reader DecodeError Nat) A p = _
    by_cases hi : p < A.size
    · rw [dif_pos hi, dif_pos hi]; rfl
    · rw [dif_neg hi, dif_neg hi]; rfl
  rw [e, dif_pos h3, h4]
theorem dk_bind {α β : Type} {r : Reader DecodeError α} {f : α → Reader DecodeError β} {A : ByteArray} {p s : Nat} {a : α} (h : r A p = .ok (a, s)) : (r >>= f) A p = f a A s := by
  show (do let (a, s) ← r A p; f a A s : Except DecodeError (β × Nat)) = _
  rw [h]
  rfl
theorem dk_map {α β : Type} {r : Reader DecodeError α} {g : α → β} {A : ByteArray} {p s : Nat} {a : α} (h : r A p = .ok (a, s)) : (g <$> r) A p = .ok (g a, s) := by
  show (do let (a, s) ← r A p; .ok (g a, s) : Except DecodeError (β × Nat)) = _
  rw [h]
  rfl
theorem dk_u2 {A : ByteArray} {p : Nat} {a b : UInt8} (h : A.data.toList[p]? = some a) (h2 : A.data.toList[p + 1]? = some b) : (Reader.u2 : Reader DecodeError Nat) A p = .ok (a.toNat * 256 + b.toNat, p + 2) := by
  show (Reader.u1 >>= fun hi => Reader.u1 >>= fun lo => Pure.pure (hi * 256 + lo) : Reader DecodeError Nat) A p = _
  rw [dk_bind (dk_u1 h), dk_bind (dk_u1 h2)]
  rfl
theorem dk_of {code : ByteArray} {pc n : Nat} {i : Instr} (h : Decoder.instr pc code pc = .ok (i, pc + n)) : decode code pc = .ok (i, n) := by
  have e : decode code pc = (match Decoder.instr pc code pc with | .error x => .error x | .ok (j, s) => .ok (j, s - pc)) := by
    show (do let (j, s) ← Decoder.instr pc code pc; Pure.pure (j, s - pc) : Except DecodeError (Instr × Nat)) = _
    cases Decoder.instr pc code pc <;> rfl
  rw [e, h]
  show Except.ok (i, pc + n - pc) = _
  rw [Nat.add_sub_cancel_left]
theorem dk_3 {code : ByteArray} {pc : Nat} (h : DkAt code pc [3]) : decode code pc = .ok (.iconst 0, 1) := dk_of ((dk_bind (dk_u1 (h 0 _ rfl))).trans rfl)
theorem dk_4 {code : ByteArray} {pc : Nat} (h : DkAt code pc [4]) : decode code pc = .ok (.iconst 1, 1) := dk_of ((dk_bind (dk_u1 (h 0 _ rfl))).trans rfl)
theorem dk_5 {code : ByteArray} {pc : Nat} (h : DkAt code pc [5]) : decode code pc = .ok (.iconst 2, 1) := dk_of ((dk_bind (dk_u1 (h 0 _ rfl))).trans rfl)
theorem dk_9 {code : ByteArray} {pc : Nat} (h : DkAt code pc [9]) : decode code pc = .ok (.lconst 0, 1) := dk_of ((dk_bind (dk_u1 (h 0 _ rfl))).trans rfl)
theorem dk_16 {code : ByteArray} {pc : Nat} (a : UInt8) (h : DkAt code pc [16, a]) : decode code pc = .ok (.bipush (Reader.signed 8 a.toNat), 2) := dk_of ((dk_bind (dk_u1 (h 0 _ rfl))).trans ((dk_bind (dk_map (dk_u1 (h 1 _ rfl)))).trans rfl))
theorem dk_18 {code : ByteArray} {pc : Nat} (a : UInt8) (h : DkAt code pc [18, a]) : decode code pc = .ok (.ldc a.toNat, 2) := dk_of ((dk_bind (dk_u1 (h 0 _ rfl))).trans ((dk_bind (dk_u1 (h 1 _ rfl))).trans rfl))
theorem dk_20 {code : ByteArray} {pc : Nat} (a b : UInt8) (h : DkAt code pc [20, a, b]) : decode code pc = .ok (.ldc2_w (a.toNat * 256 + b.toNat), 3) := dk_of ((dk_bind (dk_u1 (h 0 _ rfl))).trans ((dk_bind (dk_u2 (h 1 _ rfl) (h 2 _ rfl))).trans rfl))
theorem dk_21 {code : ByteArray} {pc : Nat} (a : UInt8) (h : DkAt code pc [21, a]) : decode code pc = .ok (.iload a.toNat, 2) := dk_of ((dk_bind (dk_u1 (h 0 _ rfl))).trans ((dk_bind (dk_u1 (h 1 _ rfl))).trans rfl))
theorem dk_27 {code : ByteArray} {pc : Nat} (h : DkAt code pc [27]) : decode code pc = .ok (.iload_n 1, 1) := dk_of ((dk_bind (dk_u1 (h 0 _ rfl))).trans rfl)
theorem dk_28 {code : ByteArray} {pc : Nat} (h : DkAt code pc [28]) : decode code pc = .ok (.iload_n 2, 1) := dk_of ((dk_bind (dk_u1 (h 0 _ rfl))).trans rfl)
theorem dk_29 {code : ByteArray} {pc : Nat} (h : DkAt code pc [29]) : decode code pc = .ok (.iload_n 3, 1) := dk_of ((dk_bind (dk_u1 (h 0 _ rfl))).trans rfl)
theorem dk_31 {code : ByteArray} {pc : Nat} (h : DkAt code pc [31]) : decode code pc = .ok (.lload_n 1, 1) := dk_of ((dk_bind (dk_u1 (h 0 _ rfl))).trans rfl)
theorem dk_42 {code : ByteArray} {pc : Nat} (h : DkAt code pc [42]) : decode code pc = .ok (.aload_n 0, 1) := dk_of ((dk_bind (dk_u1 (h 0 _ rfl))).trans rfl)
theorem dk_43 {code : ByteArray} {pc : Nat} (h : DkAt code pc [43]) : decode code pc = .ok (.aload_n 1, 1) := dk_of ((dk_bind (dk_u1 (h 0 _ rfl))).trans rfl)
theorem dk_44 {code : ByteArray} {pc : Nat} (h : DkAt code pc [44]) : decode code pc = .ok (.aload_n 2, 1) := dk_of ((dk_bind (dk_u1 (h 0 _ rfl))).trans rfl)
theorem dk_46 {code : ByteArray} {pc : Nat} (h : DkAt code pc [46]) : decode code pc = .ok (.iaload, 1) := dk_of ((dk_bind (dk_u1 (h 0 _ rfl))).trans rfl)
theorem dk_54 {code : ByteArray} {pc : Nat} (a : UInt8) (h : DkAt code pc [54, a]) : decode code pc = .ok (.istore a.toNat, 2) := dk_of ((dk_bind (dk_u1 (h 0 _ rfl))).trans ((dk_bind (dk_u1 (h 1 _ rfl))).trans rfl))
theorem dk_60 {code : ByteArray} {pc : Nat} (h : DkAt code pc [60]) : decode code pc = .ok (.istore_n 1, 1) := dk_of ((dk_bind (dk_u1 (h 0 _ rfl))).trans rfl)
theorem dk_61 {code : ByteArray} {pc : Nat} (h : DkAt code pc [61]) : decode code pc = .ok (.istore_n 2, 1) := dk_of ((dk_bind (dk_u1 (h 0 _ rfl))).trans rfl)
theorem dk_62 {code : ByteArray} {pc : Nat} (h : DkAt code pc [62]) : decode code pc = .ok (.istore_n 3, 1) := dk_of ((dk_bind (dk_u1 (h 0 _ rfl))).trans rfl)
theorem dk_64 {code : ByteArray} {pc : Nat} (h : DkAt code pc [64]) : decode code pc = .ok (.lstore_n 1, 1) := dk_of ((dk_bind (dk_u1 (h 0 _ rfl))).trans rfl)
theorem dk_76 {code : ByteArray} {pc : Nat} (h : DkAt code pc [76]) : decode code pc = .ok (.astore_n 1, 1) := dk_of ((dk_bind (dk_u1 (h 0 _ rfl))).trans rfl)
theorem dk_77 {code : ByteArray} {pc : Nat} (h : DkAt code pc [77]) : decode code pc = .ok (.astore_n 2, 1) := dk_of ((dk_bind (dk_u1 (h 0 _ rfl))).trans rfl)
theorem dk_79 {code : ByteArray} {pc : Nat} (h : DkAt code pc [79]) : decode code pc = .ok (.iastore, 1) := dk_of ((dk_bind (dk_u1 (h 0 _ rfl))).trans rfl)
theorem dk_89 {code : ByteArray} {pc : Nat} (h : DkAt code pc [89]) : decode code pc = .ok (.dup, 1) := dk_of ((dk_bind (dk_u1 (h 0 _ rfl))).trans rfl)
theorem dk_96 {code : ByteArray} {pc : Nat} (h : DkAt code pc [96]) : decode code pc = .ok (.iadd, 1) := dk_of ((dk_bind (dk_u1 (h 0 _ rfl))).trans rfl)
theorem dk_97 {code : ByteArray} {pc : Nat} (h : DkAt code pc [97]) : decode code pc = .ok (.ladd, 1) := dk_of ((dk_bind (dk_u1 (h 0 _ rfl))).trans rfl)
theorem dk_100 {code : ByteArray} {pc : Nat} (h : DkAt code pc [100]) : decode code pc = .ok (.isub, 1) := dk_of ((dk_bind (dk_u1 (h 0 _ rfl))).trans rfl)
theorem dk_104 {code : ByteArray} {pc : Nat} (h : DkAt code pc [104]) : decode code pc = .ok (.imul, 1) := dk_of ((dk_bind (dk_u1 (h 0 _ rfl))).trans rfl)
theorem dk_105 {code : ByteArray} {pc : Nat} (h : DkAt code pc [105]) : decode code pc = .ok (.lmul, 1) := dk_of ((dk_bind (dk_u1 (h 0 _ rfl))).trans rfl)
theorem dk_112 {code : ByteArray} {pc : Nat} (h : DkAt code pc [112]) : decode code pc = .ok (.irem, 1) := dk_of ((dk_bind (dk_u1 (h 0 _ rfl))).trans rfl)
theorem dk_116 {code : ByteArray} {pc : Nat} (h : DkAt code pc [116]) : decode code pc = .ok (.ineg, 1) := dk_of ((dk_bind (dk_u1 (h 0 _ rfl))).trans rfl)
theorem dk_124 {code : ByteArray} {pc : Nat} (h : DkAt code pc [124]) : decode code pc = .ok (.iushr, 1) := dk_of ((dk_bind (dk_u1 (h 0 _ rfl))).trans rfl)
theorem dk_126 {code : ByteArray} {pc : Nat} (h : DkAt code pc [126]) : decode code pc = .ok (.iand, 1) := dk_of ((dk_bind (dk_u1 (h 0 _ rfl))).trans rfl)
theorem dk_130 {code : ByteArray} {pc : Nat} (h : DkAt code pc [130]) : decode code pc = .ok (.ixor, 1) := dk_of ((dk_bind (dk_u1 (h 0 _ rfl))).trans rfl)
theorem dk_132 {code : ByteArray} {pc : Nat} (a b : UInt8) (h : DkAt code pc [132, a, b]) : decode code pc = .ok (.iinc a.toNat (Reader.signed 8 b.toNat), 3) := dk_of ((dk_bind (dk_u1 (h 0 _ rfl))).trans ((dk_bind (dk_u1 (h 1 _ rfl))).trans ((dk_bind (dk_map (dk_u1 (h 2 _ rfl)))).trans rfl)))
theorem dk_133 {code : ByteArray} {pc : Nat} (h : DkAt code pc [133]) : decode code pc = .ok (.i2l, 1) := dk_of ((dk_bind (dk_u1 (h 0 _ rfl))).trans rfl)
theorem dk_148 {code : ByteArray} {pc : Nat} (h : DkAt code pc [148]) : decode code pc = .ok (.lcmp, 1) := dk_of ((dk_bind (dk_u1 (h 0 _ rfl))).trans rfl)
theorem dk_153 {code : ByteArray} {pc : Nat} (a b : UInt8) (h : DkAt code pc [153, a, b]) : decode code pc = .ok (.ifCond .eq (Reader.signed 16 (a.toNat * 256 + b.toNat)), 3) := dk_of ((dk_bind (dk_u1 (h 0 _ rfl))).trans ((dk_bind (dk_map (dk_u2 (h 1 _ rfl) (h 2 _ rfl)))).trans rfl))
theorem dk_154 {code : ByteArray} {pc : Nat} (a b : UInt8) (h : DkAt code pc [154, a, b]) : decode code pc = .ok (.ifCond .ne (Reader.signed 16 (a.toNat * 256 + b.toNat)), 3) := dk_of ((dk_bind (dk_u1 (h 0 _ rfl))).trans ((dk_bind (dk_map (dk_u2 (h 1 _ rfl) (h 2 _ rfl)))).trans rfl))
theorem dk_158 {code : ByteArray} {pc : Nat} (a b : UInt8) (h : DkAt code pc [158, a, b]) : decode code pc = .ok (.ifCond .le (Reader.signed 16 (a.toNat * 256 + b.toNat)), 3) := dk_of ((dk_bind (dk_u1 (h 0 _ rfl))).trans ((dk_bind (dk_map (dk_u2 (h 1 _ rfl) (h 2 _ rfl)))).trans rfl))
theorem dk_159 {code : ByteArray} {pc : Nat} (a b : UInt8) (h : DkAt code pc [159, a, b]) : decode code pc = .ok (.if_icmp .eq (Reader.signed 16 (a.toNat * 256 + b.toNat)), 3) := dk_of ((dk_bind (dk_u1 (h 0 _ rfl))).trans ((dk_bind (dk_map (dk_u2 (h 1 _ rfl) (h 2 _ rfl)))).trans rfl))
theorem dk_162 {code : ByteArray} {pc : Nat} (a b : UInt8) (h : DkAt code pc [162, a, b]) : decode code pc = .ok (.if_icmp .ge (Reader.signed 16 (a.toNat * 256 + b.toNat)), 3) := dk_of ((dk_bind (dk_u1 (h 0 _ rfl))).trans ((dk_bind (dk_map (dk_u2 (h 1 _ rfl) (h 2 _ rfl)))).trans rfl))
theorem dk_163 {code : ByteArray} {pc : Nat} (a b : UInt8) (h : DkAt code pc [163, a, b]) : decode code pc = .ok (.if_icmp .gt (Reader.signed 16 (a.toNat * 256 + b.toNat)), 3) := dk_of ((dk_bind (dk_u1 (h 0 _ rfl))).trans ((dk_bind (dk_map (dk_u2 (h 1 _ rfl) (h 2 _ rfl)))).trans rfl))
theorem dk_164 {code : ByteArray} {pc : Nat} (a b : UInt8) (h : DkAt code pc [164, a, b]) : decode code pc = .ok (.if_icmp .le (Reader.signed 16 (a.toNat * 256 + b.toNat)), 3) := dk_of ((dk_bind (dk_u1 (h 0 _ rfl))).trans ((dk_bind (dk_map (dk_u2 (h 1 _ rfl) (h 2 _ rfl)))).trans rfl))
theorem dk_167 {code : ByteArray} {pc : Nat} (a b : UInt8) (h : DkAt code pc [167, a, b]) : decode code pc = .ok (.goto (Reader.signed 16 (a.toNat * 256 + b.toNat)), 3) := dk_of ((dk_bind (dk_u1 (h 0 _ rfl))).trans ((dk_bind (dk_map (dk_u2 (h 1 _ rfl) (h 2 _ rfl)))).trans rfl))
theorem dk_172 {code : ByteArray} {pc : Nat} (h : DkAt code pc [172]) : decode code pc = .ok (.ireturn, 1) := dk_of ((dk_bind (dk_u1 (h 0 _ rfl))).trans rfl)
theorem dk_173 {code : ByteArray} {pc : Nat} (h : DkAt code pc [173]) : decode code pc = .ok (.lreturn, 1) := dk_of ((dk_bind (dk_u1 (h 0 _ rfl))).trans rfl)
theorem dk_177 {code : ByteArray} {pc : Nat} (h : DkAt code pc [177]) : decode code pc = .ok (.return_, 1) := dk_of ((dk_bind (dk_u1 (h 0 _ rfl))).trans rfl)
theorem dk_180 {code : ByteArray} {pc : Nat} (a b : UInt8) (h : DkAt code pc [180, a, b]) : decode code pc = .ok (.getfield (a.toNat * 256 + b.toNat), 3) := dk_of ((dk_bind (dk_u1 (h 0 _ rfl))).trans ((dk_bind (dk_u2 (h 1 _ rfl) (h 2 _ rfl))).trans rfl))
theorem dk_181 {code : ByteArray} {pc : Nat} (a b : UInt8) (h : DkAt code pc [181, a, b]) : decode code pc = .ok (.putfield (a.toNat * 256 + b.toNat), 3) := dk_of ((dk_bind (dk_u1 (h 0 _ rfl))).trans ((dk_bind (dk_u2 (h 1 _ rfl) (h 2 _ rfl))).trans rfl))
theorem dk_182 {code : ByteArray} {pc : Nat} (a b : UInt8) (h : DkAt code pc [182, a, b]) : decode code pc = .ok (.invokevirtual (a.toNat * 256 + b.toNat), 3) := dk_of ((dk_bind (dk_u1 (h 0 _ rfl))).trans ((dk_bind (dk_u2 (h 1 _ rfl) (h 2 _ rfl))).trans rfl))
theorem dk_183 {code : ByteArray} {pc : Nat} (a b : UInt8) (h : DkAt code pc [183, a, b]) : decode code pc = .ok (.invokespecial (a.toNat * 256 + b.toNat), 3) := dk_of ((dk_bind (dk_u1 (h 0 _ rfl))).trans ((dk_bind (dk_u2 (h 1 _ rfl) (h 2 _ rfl))).trans rfl))
theorem dk_184 {code : ByteArray} {pc : Nat} (a b : UInt8) (h : DkAt code pc [184, a, b]) : decode code pc = .ok (.invokestatic (a.toNat * 256 + b.toNat), 3) := dk_of ((dk_bind (dk_u1 (h 0 _ rfl))).trans ((dk_bind (dk_u2 (h 1 _ rfl) (h 2 _ rfl))).trans rfl))
theorem dk_187 {code : ByteArray} {pc : Nat} (a b : UInt8) (h : DkAt code pc [187, a, b]) : decode code pc = .ok (.new (a.toNat * 256 + b.toNat), 3) := dk_of ((dk_bind (dk_u1 (h 0 _ rfl))).trans ((dk_bind (dk_u2 (h 1 _ rfl) (h 2 _ rfl))).trans rfl))
theorem dk_188_10 {code : ByteArray} {pc : Nat} (h : DkAt code pc [188, 10]) : decode code pc = .ok (.newarray .int, 2) := dk_of ((dk_bind (dk_u1 (h 0 _ rfl))).trans ((dk_bind (dk_u1 (h 1 _ rfl))).trans rfl))
theorem dk_190 {code : ByteArray} {pc : Nat} (h : DkAt code pc [190]) : decode code pc = .ok (.arraylength, 1) := dk_of ((dk_bind (dk_u1 (h 0 _ rfl))).trans rfl)
/-! java/lang/Object -/
set_option maxRecDepth 100000
def RJ0 : String := "java/lang/Object"
abbrev cJ0_init : ByteArray := object_method_1_code
def yJ0_init : MethodName := ⟨RJ0, "<init>", "()V"⟩
theorem dJ0_init_0 : decode cJ0_init 0 = .ok (.return_, 1) := by decide +kernel
theorem q10 : (Jvm.Cond.instanceMethod ({ cls := "java/lang/Object", name := "<init>", desc := "()V" } : Jvm.MethodName)) ∈ lw_all := lw_g (lw_at lw_m0 10 rfl) rfl
theorem q11 : (Jvm.Cond.code ({ cls := "java/lang/Object", name := "<init>", desc := "()V" } : Jvm.MethodName) object_method_1_code (1 : Nat) (Option.none : Option Jvm.ClassFile.FieldType)) ∈ lw_all := lw_g (lw_at lw_m0 11 rfl) rfl
/-! NetworkSort -/
set_option maxRecDepth 100000
def RX0 : String := "NetworkSort"
def TX0 : u_T := fun k => match k with
  | 0 => ("NetworkSort", "row", "[I", true)
  | _ => ("NetworkSort", "length", "I", false)
def tyX0 : Nat → FieldType := fun k => match k with
  | 0 => .array .int
  | _ => .int
abbrev wsX00 : List Cond := u_ws RX0 TX0 2
theorem nmX0 : ∀ a, a < 2 → ∀ b, b < 2 → a ≠ b → (TX0 a).2.1 ≠ (TX0 b).2.1 := by decide +kernel
theorem tyX0_ok : ∀ k, k < 2 → parseFieldDescriptor (TX0 k).2.2.1 = some (tyX0 k) := by decide +kernel
abbrev cX0_init : ByteArray := prog_1_method_1_code
def yX0_init : MethodName := ⟨RX0, "<init>", "()V"⟩
def dkwX0_init_0 : List UInt8 := [42, 183, 0, 1, 42, 16, 64, 188, 10, 181, 0, 7, 42, 16, 64, 181, 0, 13, 177]
abbrev dktX0_init_0 : List UInt8 := dkwX0_init_0 ++ []
theorem dksX0_init_0 : cX0_init.data.toList.drop 0 = dktX0_init_0 := by decide +kernel
theorem dX0_init_0 : decode cX0_init 0 = .ok (.aload_n 0, 1) := dk_42 (dk_at dksX0_init_0 0 rfl rfl)
theorem dX0_init_1 : decode cX0_init 1 = .ok (.invokespecial 1, 3) := dk_183 0 1 (dk_at dksX0_init_0 1 rfl rfl)
theorem dX0_init_4 : decode cX0_init 4 = .ok (.aload_n 0, 1) := dk_42 (dk_at dksX0_init_0 4 rfl rfl)
theorem dX0_init_5 : decode cX0_init 5 = .ok (.bipush 64, 2) := dk_16 64 (dk_at dksX0_init_0 5 rfl rfl)
theorem dX0_init_7 : decode cX0_init 7 = .ok (.newarray .int, 2) := dk_188_10 (dk_at dksX0_init_0 7 rfl rfl)
theorem dX0_init_9 : decode cX0_init 9 = .ok (.putfield 7, 3) := dk_181 0 7 (dk_at dksX0_init_0 9 rfl rfl)
theorem dX0_init_12 : decode cX0_init 12 = .ok (.aload_n 0, 1) := dk_42 (dk_at dksX0_init_0 12 rfl rfl)
theorem dX0_init_13 : decode cX0_init 13 = .ok (.bipush 64, 2) := dk_16 64 (dk_at dksX0_init_0 13 rfl rfl)
theorem dX0_init_15 : decode cX0_init 15 = .ok (.putfield 13, 3) := dk_181 0 13 (dk_at dksX0_init_0 15 rfl rfl)
theorem dX0_init_18 : decode cX0_init 18 = .ok (.return_, 1) := dk_177 (dk_at dksX0_init_0 18 rfl rfl)
abbrev cX0_set : ByteArray := prog_1_method_2_code
def yX0_set : MethodName := ⟨RX0, "set", "(II)V"⟩
def dkwX0_set_0 : List UInt8 := [42, 180, 0, 7, 27, 16, 63, 126, 28, 18, 17, 126, 79, 177]
abbrev dktX0_set_0 : List UInt8 := dkwX0_set_0 ++ []
theorem dksX0_set_0 : cX0_set.data.toList.drop 0 = dktX0_set_0 := by decide +kernel
theorem dX0_set_0 : decode cX0_set 0 = .ok (.aload_n 0, 1) := dk_42 (dk_at dksX0_set_0 0 rfl rfl)
theorem dX0_set_1 : decode cX0_set 1 = .ok (.getfield 7, 3) := dk_180 0 7 (dk_at dksX0_set_0 1 rfl rfl)
theorem dX0_set_4 : decode cX0_set 4 = .ok (.iload_n 1, 1) := dk_27 (dk_at dksX0_set_0 4 rfl rfl)
theorem dX0_set_5 : decode cX0_set 5 = .ok (.bipush 63, 2) := dk_16 63 (dk_at dksX0_set_0 5 rfl rfl)
theorem dX0_set_7 : decode cX0_set 7 = .ok (.iand, 1) := dk_126 (dk_at dksX0_set_0 7 rfl rfl)
theorem dX0_set_8 : decode cX0_set 8 = .ok (.iload_n 2, 1) := dk_28 (dk_at dksX0_set_0 8 rfl rfl)
theorem dX0_set_9 : decode cX0_set 9 = .ok (.ldc 17, 2) := dk_18 17 (dk_at dksX0_set_0 9 rfl rfl)
theorem dX0_set_11 : decode cX0_set 11 = .ok (.iand, 1) := dk_126 (dk_at dksX0_set_0 11 rfl rfl)
theorem dX0_set_12 : decode cX0_set 12 = .ok (.iastore, 1) := dk_79 (dk_at dksX0_set_0 12 rfl rfl)
theorem dX0_set_13 : decode cX0_set 13 = .ok (.return_, 1) := dk_177 (dk_at dksX0_set_0 13 rfl rfl)
abbrev cX0_fill : ByteArray := prog_1_method_3_code
def yX0_fill : MethodName := ⟨RX0, "fill", "(II)V"⟩
def dkwX0_fill_1 : List UInt8 := [132, 3, 1, 167, 255, 233, 177]
abbrev dktX0_fill_1 : List UInt8 := dkwX0_fill_1 ++ []
def dkwX0_fill_0 : List UInt8 := [3, 62, 29, 16, 64, 162, 0, 23, 42, 180, 0, 7, 29, 27, 28, 29, 104, 96, 18, 17, 126, 79]
abbrev dktX0_fill_0 : List UInt8 := dkwX0_fill_0 ++ dktX0_fill_1
theorem dksX0_fill_0 : cX0_fill.data.toList.drop 0 = dktX0_fill_0 := by decide +kernel
theorem dksX0_fill_1 : cX0_fill.data.toList.drop 22 = dktX0_fill_1 := dk_seg dksX0_fill_0 22 rfl rfl
theorem dX0_fill_0 : decode cX0_fill 0 = .ok (.iconst 0, 1) := dk_3 (dk_at dksX0_fill_0 0 rfl rfl)
theorem dX0_fill_1 : decode cX0_fill 1 = .ok (.istore_n 3, 1) := dk_62 (dk_at dksX0_fill_0 1 rfl rfl)
theorem dX0_fill_2 : decode cX0_fill 2 = .ok (.iload_n 3, 1) := dk_29 (dk_at dksX0_fill_0 2 rfl rfl)
theorem dX0_fill_3 : decode cX0_fill 3 = .ok (.bipush 64, 2) := dk_16 64 (dk_at dksX0_fill_0 3 rfl rfl)
theorem dX0_fill_5 : decode cX0_fill 5 = .ok (.if_icmp .ge 23, 3) := dk_162 0 23 (dk_at dksX0_fill_0 5 rfl rfl)
theorem dX0_fill_8 : decode cX0_fill 8 = .ok (.aload_n 0, 1) := dk_42 (dk_at dksX0_fill_0 8 rfl rfl)
theorem dX0_fill_9 : decode cX0_fill 9 = .ok (.getfield 7, 3) := dk_180 0 7 (dk_at dksX0_fill_0 9 rfl rfl)
theorem dX0_fill_12 : decode cX0_fill 12 = .ok (.iload_n 3, 1) := dk_29 (dk_at dksX0_fill_0 12 rfl rfl)
theorem dX0_fill_13 : decode cX0_fill 13 = .ok (.iload_n 1, 1) := dk_27 (dk_at dksX0_fill_0 13 rfl rfl)
theorem dX0_fill_14 : decode cX0_fill 14 = .ok (.iload_n 2, 1) := dk_28 (dk_at dksX0_fill_0 14 rfl rfl)
theorem dX0_fill_15 : decode cX0_fill 15 = .ok (.iload_n 3, 1) := dk_29 (dk_at dksX0_fill_0 15 rfl rfl)
theorem dX0_fill_16 : decode cX0_fill 16 = .ok (.imul, 1) := dk_104 (dk_at dksX0_fill_0 16 rfl rfl)
theorem dX0_fill_17 : decode cX0_fill 17 = .ok (.iadd, 1) := dk_96 (dk_at dksX0_fill_0 17 rfl rfl)
theorem dX0_fill_18 : decode cX0_fill 18 = .ok (.ldc 17, 2) := dk_18 17 (dk_at dksX0_fill_0 18 rfl rfl)
theorem dX0_fill_20 : decode cX0_fill 20 = .ok (.iand, 1) := dk_126 (dk_at dksX0_fill_0 20 rfl rfl)
theorem dX0_fill_21 : decode cX0_fill 21 = .ok (.iastore, 1) := dk_79 (dk_at dksX0_fill_0 21 rfl rfl)
theorem dX0_fill_22 : decode cX0_fill 22 = .ok (.iinc 3 1, 3) := dk_132 3 1 (dk_at dksX0_fill_1 0 rfl rfl)
theorem dX0_fill_25 : decode cX0_fill 25 = .ok (.goto (-23), 3) := dk_167 255 233 (dk_at dksX0_fill_1 3 rfl rfl)
theorem dX0_fill_28 : decode cX0_fill 28 = .ok (.return_, 1) := dk_177 (dk_at dksX0_fill_1 6 rfl rfl)
abbrev cX0_length : ByteArray := prog_1_method_4_code
def yX0_length : MethodName := ⟨RX0, "length", "(I)V"⟩
def dkwX0_length_0 : List UInt8 := [42, 5, 27, 18, 18, 126, 16, 63, 112, 96, 181, 0, 13, 177]
abbrev dktX0_length_0 : List UInt8 := dkwX0_length_0 ++ []
theorem dksX0_length_0 : cX0_length.data.toList.drop 0 = dktX0_length_0 := by decide +kernel
theorem dX0_length_0 : decode cX0_length 0 = .ok (.aload_n 0, 1) := dk_42 (dk_at dksX0_length_0 0 rfl rfl)
theorem dX0_length_1 : decode cX0_length 1 = .ok (.iconst 2, 1) := dk_5 (dk_at dksX0_length_0 1 rfl rfl)
theorem dX0_length_2 : decode cX0_length 2 = .ok (.iload_n 1, 1) := dk_27 (dk_at dksX0_length_0 2 rfl rfl)
theorem dX0_length_3 : decode cX0_length 3 = .ok (.ldc 18, 2) := dk_18 18 (dk_at dksX0_length_0 3 rfl rfl)
theorem dX0_length_5 : decode cX0_length 5 = .ok (.iand, 1) := dk_126 (dk_at dksX0_length_0 5 rfl rfl)
theorem dX0_length_6 : decode cX0_length 6 = .ok (.bipush 63, 2) := dk_16 63 (dk_at dksX0_length_0 6 rfl rfl)
theorem dX0_length_8 : decode cX0_length 8 = .ok (.irem, 1) := dk_112 (dk_at dksX0_length_0 8 rfl rfl)
theorem dX0_length_9 : decode cX0_length 9 = .ok (.iadd, 1) := dk_96 (dk_at dksX0_length_0 9 rfl rfl)
theorem dX0_length_10 : decode cX0_length 10 = .ok (.putfield 13, 3) := dk_181 0 13 (dk_at dksX0_length_0 10 rfl rfl)
theorem dX0_length_13 : decode cX0_length 13 = .ok (.return_, 1) := dk_177 (dk_at dksX0_length_0 13 rfl rfl)
abbrev cX0_sort : ByteArray := prog_1_method_5_code
def yX0_sort : MethodName := ⟨RX0, "sort", "()V"⟩
def dkwX0_sort_0 : List UInt8 := [42, 180, 0, 7, 42, 180, 0, 13, 184, 0, 19, 177]
abbrev dktX0_sort_0 : List UInt8 := dkwX0_sort_0 ++ []
theorem dksX0_sort_0 : cX0_sort.data.toList.drop 0 = dktX0_sort_0 := by decide +kernel
theorem dX0_sort_0 : decode cX0_sort 0 = .ok (.aload_n 0, 1) := dk_42 (dk_at dksX0_sort_0 0 rfl rfl)
theorem dX0_sort_1 : decode cX0_sort 1 = .ok (.getfield 7, 3) := dk_180 0 7 (dk_at dksX0_sort_0 1 rfl rfl)
theorem dX0_sort_4 : decode cX0_sort 4 = .ok (.aload_n 0, 1) := dk_42 (dk_at dksX0_sort_0 4 rfl rfl)
theorem dX0_sort_5 : decode cX0_sort 5 = .ok (.getfield 13, 3) := dk_180 0 13 (dk_at dksX0_sort_0 5 rfl rfl)
theorem dX0_sort_8 : decode cX0_sort 8 = .ok (.invokestatic 19, 3) := dk_184 0 19 (dk_at dksX0_sort_0 8 rfl rfl)
theorem dX0_sort_11 : decode cX0_sort 11 = .ok (.return_, 1) := dk_177 (dk_at dksX0_sort_0 11 rfl rfl)
abbrev cX0_get : ByteArray := prog_1_method_6_code
def yX0_get : MethodName := ⟨RX0, "get", "(I)I"⟩
def dkwX0_get_0 : List UInt8 := [42, 180, 0, 7, 27, 16, 63, 126, 46, 172]
abbrev dktX0_get_0 : List UInt8 := dkwX0_get_0 ++ []
theorem dksX0_get_0 : cX0_get.data.toList.drop 0 = dktX0_get_0 := by decide +kernel
theorem dX0_get_0 : decode cX0_get 0 = .ok (.aload_n 0, 1) := dk_42 (dk_at dksX0_get_0 0 rfl rfl)
theorem dX0_get_1 : decode cX0_get 1 = .ok (.getfield 7, 3) := dk_180 0 7 (dk_at dksX0_get_0 1 rfl rfl)
theorem dX0_get_4 : decode cX0_get 4 = .ok (.iload_n 1, 1) := dk_27 (dk_at dksX0_get_0 4 rfl rfl)
theorem dX0_get_5 : decode cX0_get 5 = .ok (.bipush 63, 2) := dk_16 63 (dk_at dksX0_get_0 5 rfl rfl)
theorem dX0_get_7 : decode cX0_get 7 = .ok (.iand, 1) := dk_126 (dk_at dksX0_get_0 7 rfl rfl)
theorem dX0_get_8 : decode cX0_get 8 = .ok (.iaload, 1) := dk_46 (dk_at dksX0_get_0 8 rfl rfl)
theorem dX0_get_9 : decode cX0_get 9 = .ok (.ireturn, 1) := dk_172 (dk_at dksX0_get_0 9 rfl rfl)
abbrev cX0_length_2 : ByteArray := prog_1_method_7_code
def yX0_length_2 : MethodName := ⟨RX0, "length", "()I"⟩
theorem dX0_length_2_0 : decode cX0_length_2 0 = .ok (.aload_n 0, 1) := by decide +kernel
theorem dX0_length_2_1 : decode cX0_length_2 1 = .ok (.getfield 13, 3) := by decide +kernel
theorem dX0_length_2_4 : decode cX0_length_2 4 = .ok (.ireturn, 1) := by decide +kernel
abbrev cX0_sum : ByteArray := prog_1_method_8_code
def yX0_sum : MethodName := ⟨RX0, "sum", "()J"⟩
def dkwX0_sum_1 : List UInt8 := [132, 3, 1, 167, 255, 233, 31, 173]
abbrev dktX0_sum_1 : List UInt8 := dkwX0_sum_1 ++ []
def dkwX0_sum_0 : List UInt8 := [9, 64, 3, 62, 29, 16, 64, 162, 0, 23, 31, 20, 0, 25, 105, 42, 180, 0, 7, 29, 46, 133, 97, 64]
abbrev dktX0_sum_0 : List UInt8 := dkwX0_sum_0 ++ dktX0_sum_1
theorem dksX0_sum_0 : cX0_sum.data.toList.drop 0 = dktX0_sum_0 := by decide +kernel
theorem dksX0_sum_1 : cX0_sum.data.toList.drop 24 = dktX0_sum_1 := dk_seg dksX0_sum_0 24 rfl rfl
theorem dX0_sum_0 : decode cX0_sum 0 = .ok (.lconst 0, 1) := dk_9 (dk_at dksX0_sum_0 0 rfl rfl)
theorem dX0_sum_1 : decode cX0_sum 1 = .ok (.lstore_n 1, 1) := dk_64 (dk_at dksX0_sum_0 1 rfl rfl)
theorem dX0_sum_2 : decode cX0_sum 2 = .ok (.iconst 0, 1) := dk_3 (dk_at dksX0_sum_0 2 rfl rfl)
theorem dX0_sum_3 : decode cX0_sum 3 = .ok (.istore_n 3, 1) := dk_62 (dk_at dksX0_sum_0 3 rfl rfl)
theorem dX0_sum_4 : decode cX0_sum 4 = .ok (.iload_n 3, 1) := dk_29 (dk_at dksX0_sum_0 4 rfl rfl)
theorem dX0_sum_5 : decode cX0_sum 5 = .ok (.bipush 64, 2) := dk_16 64 (dk_at dksX0_sum_0 5 rfl rfl)
theorem dX0_sum_7 : decode cX0_sum 7 = .ok (.if_icmp .ge 23, 3) := dk_162 0 23 (dk_at dksX0_sum_0 7 rfl rfl)
theorem dX0_sum_10 : decode cX0_sum 10 = .ok (.lload_n 1, 1) := dk_31 (dk_at dksX0_sum_0 10 rfl rfl)
theorem dX0_sum_11 : decode cX0_sum 11 = .ok (.ldc2_w 25, 3) := dk_20 0 25 (dk_at dksX0_sum_0 11 rfl rfl)
theorem dX0_sum_14 : decode cX0_sum 14 = .ok (.lmul, 1) := dk_105 (dk_at dksX0_sum_0 14 rfl rfl)
theorem dX0_sum_15 : decode cX0_sum 15 = .ok (.aload_n 0, 1) := dk_42 (dk_at dksX0_sum_0 15 rfl rfl)
theorem dX0_sum_16 : decode cX0_sum 16 = .ok (.getfield 7, 3) := dk_180 0 7 (dk_at dksX0_sum_0 16 rfl rfl)
theorem dX0_sum_19 : decode cX0_sum 19 = .ok (.iload_n 3, 1) := dk_29 (dk_at dksX0_sum_0 19 rfl rfl)
theorem dX0_sum_20 : decode cX0_sum 20 = .ok (.iaload, 1) := dk_46 (dk_at dksX0_sum_0 20 rfl rfl)
theorem dX0_sum_21 : decode cX0_sum 21 = .ok (.i2l, 1) := dk_133 (dk_at dksX0_sum_0 21 rfl rfl)
theorem dX0_sum_22 : decode cX0_sum 22 = .ok (.ladd, 1) := dk_97 (dk_at dksX0_sum_0 22 rfl rfl)
theorem dX0_sum_23 : decode cX0_sum 23 = .ok (.lstore_n 1, 1) := dk_64 (dk_at dksX0_sum_0 23 rfl rfl)
theorem dX0_sum_24 : decode cX0_sum 24 = .ok (.iinc 3 1, 3) := dk_132 3 1 (dk_at dksX0_sum_1 0 rfl rfl)
theorem dX0_sum_27 : decode cX0_sum 27 = .ok (.goto (-23), 3) := dk_167 255 233 (dk_at dksX0_sum_1 3 rfl rfl)
theorem dX0_sum_30 : decode cX0_sum 30 = .ok (.lload_n 1, 1) := dk_31 (dk_at dksX0_sum_1 6 rfl rfl)
theorem dX0_sum_31 : decode cX0_sum 31 = .ok (.lreturn, 1) := dk_173 (dk_at dksX0_sum_1 7 rfl rfl)
theorem q1 : (Jvm.Cond.initialized "NetworkSort") ∈ lw_all := lw_g (lw_at lw_m0 1 rfl) rfl
theorem q5 : (Jvm.Cond.instantiable "NetworkSort" (2 : Nat)) ∈ lw_all := lw_g (lw_at lw_m0 5 rfl) rfl
theorem q7 : (Jvm.Cond.instanceMethod ({ cls := "NetworkSort", name := "<init>", desc := "()V" } : Jvm.MethodName)) ∈ lw_all := lw_g (lw_at lw_m0 7 rfl) rfl
theorem q8 : (Jvm.Cond.code ({ cls := "NetworkSort", name := "<init>", desc := "()V" } : Jvm.MethodName) prog_1_method_1_code (1 : Nat) (Option.none : Option Jvm.ClassFile.FieldType)) ∈ lw_all := lw_g (lw_at lw_m0 8 rfl) rfl
theorem q9 : (Jvm.Cond.methodLink "NetworkSort" (1 : Nat) ({ cls := "java/lang/Object", name := "<init>", desc := "()V" } : Jvm.MethodName)) ∈ lw_all := lw_g (lw_at lw_m0 9 rfl) rfl
theorem q12 : (Jvm.Cond.fieldLink "NetworkSort" (7 : Nat) "NetworkSort" "row" "[I") ∈ lw_all := lw_g (lw_at lw_m0 12 rfl) rfl
theorem q13 : (Jvm.Cond.fieldLink "NetworkSort" (13 : Nat) "NetworkSort" "length" "I") ∈ lw_all := lw_g (lw_at lw_m0 13 rfl) rfl
theorem q14 : (Jvm.Cond.laysFinal "NetworkSort" "NetworkSort" "row" "[I") ∈ lw_all := lw_g (lw_at lw_m0 14 rfl) rfl
theorem q15 : (Jvm.Cond.soleField "NetworkSort" "row") ∈ lw_all := lw_g (lw_at lw_m0 15 rfl) rfl
theorem q16 : (Jvm.Cond.lays "NetworkSort" "NetworkSort" "length" "I") ∈ lw_all := lw_g (lw_at lw_m0 16 rfl) rfl
theorem q17 : (Jvm.Cond.soleField "NetworkSort" "length") ∈ lw_all := lw_g (lw_at lw_m0 17 rfl) rfl
theorem q18 : (Jvm.Cond.superclass "NetworkSort" "java/lang/Object") ∈ lw_all := lw_g (lw_at lw_m0 18 rfl) rfl
theorem q21 : (Jvm.Cond.instanceMethod ({ cls := "NetworkSort", name := "set", desc := "(II)V" } : Jvm.MethodName)) ∈ lw_all := lw_g (lw_at lw_m0 21 rfl) rfl
theorem q22 : (Jvm.Cond.selects "NetworkSort" ({ cls := "NetworkSort", name := "set", desc := "(II)V" } : Jvm.MethodName) ({ cls := "NetworkSort", name := "set", desc := "(II)V" } : Jvm.MethodName)) ∈ lw_all := lw_g (lw_at lw_m0 22 rfl) rfl
theorem q23 : (Jvm.Cond.code ({ cls := "NetworkSort", name := "set", desc := "(II)V" } : Jvm.MethodName) prog_1_method_2_code (3 : Nat) (Option.none : Option Jvm.ClassFile.FieldType)) ∈ lw_all := lw_g (lw_at lw_m0 23 rfl) rfl
theorem q24 : (Jvm.Cond.constant "NetworkSort" (17 : Nat) (1073741823 : Int32)) ∈ lw_all := lw_g (lw_at lw_m0 24 rfl) rfl
theorem q26 : (Jvm.Cond.instanceMethod ({ cls := "NetworkSort", name := "fill", desc := "(II)V" } : Jvm.MethodName)) ∈ lw_all := lw_g (lw_at lw_m0 26 rfl) rfl
theorem q27 : (Jvm.Cond.selects "NetworkSort" ({ cls := "NetworkSort", name := "fill", desc := "(II)V" } : Jvm.MethodName) ({ cls := "NetworkSort", name := "fill", desc := "(II)V" } : Jvm.MethodName)) ∈ lw_all := lw_g (lw_at lw_m0 27 rfl) rfl
theorem q28 : (Jvm.Cond.code ({ cls := "NetworkSort", name := "fill", desc := "(II)V" } : Jvm.MethodName) prog_1_method_3_code (4 : Nat) (Option.none : Option Jvm.ClassFile.FieldType)) ∈ lw_all := lw_g (lw_at lw_m0 28 rfl) rfl
theorem q30 : (Jvm.Cond.instanceMethod ({ cls := "NetworkSort", name := "length", desc := "(I)V" } : Jvm.MethodName)) ∈ lw_all := lw_g (lw_at lw_m0 30 rfl) rfl
theorem q31 : (Jvm.Cond.selects "NetworkSort" ({ cls := "NetworkSort", name := "length", desc := "(I)V" } : Jvm.MethodName) ({ cls := "NetworkSort", name := "length", desc := "(I)V" } : Jvm.MethodName)) ∈ lw_all := lw_g (lw_at lw_m0 31 rfl) rfl
theorem q32 : (Jvm.Cond.code ({ cls := "NetworkSort", name := "length", desc := "(I)V" } : Jvm.MethodName) prog_1_method_4_code (2 : Nat) (Option.none : Option Jvm.ClassFile.FieldType)) ∈ lw_all := lw_g (lw_at lw_m0 32 rfl) rfl
theorem q33 : (Jvm.Cond.constant "NetworkSort" (18 : Nat) (2147483647 : Int32)) ∈ lw_all := lw_g (lw_at lw_m0 33 rfl) rfl
theorem q35 : (Jvm.Cond.instanceMethod ({ cls := "NetworkSort", name := "sort", desc := "()V" } : Jvm.MethodName)) ∈ lw_all := lw_g (lw_at lw_m0 35 rfl) rfl
theorem q36 : (Jvm.Cond.selects "NetworkSort" ({ cls := "NetworkSort", name := "sort", desc := "()V" } : Jvm.MethodName) ({ cls := "NetworkSort", name := "sort", desc := "()V" } : Jvm.MethodName)) ∈ lw_all := lw_g (lw_at lw_m0 36 rfl) rfl
theorem q37 : (Jvm.Cond.code ({ cls := "NetworkSort", name := "sort", desc := "()V" } : Jvm.MethodName) prog_1_method_5_code (1 : Nat) (Option.none : Option Jvm.ClassFile.FieldType)) ∈ lw_all := lw_g (lw_at lw_m0 37 rfl) rfl
theorem q38 : (Jvm.Cond.methodLink "NetworkSort" (19 : Nat) ({ cls := "Utils", name := "cryptoSort", desc := "([II)V" } : Jvm.MethodName)) ∈ lw_all := lw_g (lw_at lw_m0 38 rfl) rfl
theorem q46 : (Jvm.Cond.instanceMethod ({ cls := "NetworkSort", name := "get", desc := "(I)I" } : Jvm.MethodName)) ∈ lw_all := lw_g (lw_at lw_m0 46 rfl) rfl
theorem q47 : (Jvm.Cond.selects "NetworkSort" ({ cls := "NetworkSort", name := "get", desc := "(I)I" } : Jvm.MethodName) ({ cls := "NetworkSort", name := "get", desc := "(I)I" } : Jvm.MethodName)) ∈ lw_all := lw_g (lw_at lw_m0 47 rfl) rfl
theorem q48 : (Jvm.Cond.code ({ cls := "NetworkSort", name := "get", desc := "(I)I" } : Jvm.MethodName) prog_1_method_6_code (2 : Nat) (Option.some Jvm.ClassFile.FieldType.int)) ∈ lw_all := lw_g (lw_at lw_m0 48 rfl) rfl
theorem q50 : (Jvm.Cond.instanceMethod ({ cls := "NetworkSort", name := "length", desc := "()I" } : Jvm.MethodName)) ∈ lw_all := lw_g (lw_at lw_m0 50 rfl) rfl
theorem q51 : (Jvm.Cond.selects "NetworkSort" ({ cls := "NetworkSort", name := "length", desc := "()I" } : Jvm.MethodName) ({ cls := "NetworkSort", name := "length", desc := "()I" } : Jvm.MethodName)) ∈ lw_all := lw_g (lw_at lw_m0 51 rfl) rfl
theorem q52 : (Jvm.Cond.code ({ cls := "NetworkSort", name := "length", desc := "()I" } : Jvm.MethodName) prog_1_method_7_code (1 : Nat) (Option.some Jvm.ClassFile.FieldType.int)) ∈ lw_all := lw_g (lw_at lw_m0 52 rfl) rfl
theorem q54 : (Jvm.Cond.instanceMethod ({ cls := "NetworkSort", name := "sum", desc := "()J" } : Jvm.MethodName)) ∈ lw_all := lw_g (lw_at lw_m0 54 rfl) rfl
theorem q55 : (Jvm.Cond.selects "NetworkSort" ({ cls := "NetworkSort", name := "sum", desc := "()J" } : Jvm.MethodName) ({ cls := "NetworkSort", name := "sum", desc := "()J" } : Jvm.MethodName)) ∈ lw_all := lw_g (lw_at lw_m0 55 rfl) rfl
theorem q56 : (Jvm.Cond.code ({ cls := "NetworkSort", name := "sum", desc := "()J" } : Jvm.MethodName) prog_1_method_8_code (4 : Nat) (Option.some Jvm.ClassFile.FieldType.long)) ∈ lw_all := lw_g (lw_at lw_m0 56 rfl) rfl
theorem q57 : (Jvm.Cond.constantLong "NetworkSort" (25 : Nat) (31 : Int64)) ∈ lw_all := lw_g (lw_at lw_m0 57 rfl) rfl
theorem in_X0 : ∀ w ∈ wsX00, w ∈ lw_all := lw_in wsX00 [14, 16] (by decide +kernel) (by decide +kernel)
/-! NetworkSortModel -/
set_option maxRecDepth 100000
def RX1 : String := "NetworkSortModel"
def TX1 : u_T := fun k => match k with
  | 0 => ("NetworkSortModel", "row", "[I", true)
  | _ => ("NetworkSortModel", "length", "I", false)
def tyX1 : Nat → FieldType := fun k => match k with
  | 0 => .array .int
  | _ => .int
abbrev wsX10 : List Cond := u_ws RX1 TX1 2
theorem nmX1 : ∀ a, a < 2 → ∀ b, b < 2 → a ≠ b → (TX1 a).2.1 ≠ (TX1 b).2.1 := by decide +kernel
theorem tyX1_ok : ∀ k, k < 2 → parseFieldDescriptor (TX1 k).2.2.1 = some (tyX1 k) := by decide +kernel
abbrev cX1_init : ByteArray := prog_3_method_1_code
def yX1_init : MethodName := ⟨RX1, "<init>", "()V"⟩
def dkwX1_init_0 : List UInt8 := [42, 183, 0, 1, 42, 16, 64, 188, 10, 181, 0, 9, 42, 16, 64, 181, 0, 13, 177]
abbrev dktX1_init_0 : List UInt8 := dkwX1_init_0 ++ []
theorem dksX1_init_0 : cX1_init.data.toList.drop 0 = dktX1_init_0 := by decide +kernel
theorem dX1_init_0 : decode cX1_init 0 = .ok (.aload_n 0, 1) := dk_42 (dk_at dksX1_init_0 0 rfl rfl)
theorem dX1_init_1 : decode cX1_init 1 = .ok (.invokespecial 1, 3) := dk_183 0 1 (dk_at dksX1_init_0 1 rfl rfl)
theorem dX1_init_4 : decode cX1_init 4 = .ok (.aload_n 0, 1) := dk_42 (dk_at dksX1_init_0 4 rfl rfl)
theorem dX1_init_5 : decode cX1_init 5 = .ok (.bipush 64, 2) := dk_16 64 (dk_at dksX1_init_0 5 rfl rfl)
theorem dX1_init_7 : decode cX1_init 7 = .ok (.newarray .int, 2) := dk_188_10 (dk_at dksX1_init_0 7 rfl rfl)
theorem dX1_init_9 : decode cX1_init 9 = .ok (.putfield 9, 3) := dk_181 0 9 (dk_at dksX1_init_0 9 rfl rfl)
theorem dX1_init_12 : decode cX1_init 12 = .ok (.aload_n 0, 1) := dk_42 (dk_at dksX1_init_0 12 rfl rfl)
theorem dX1_init_13 : decode cX1_init 13 = .ok (.bipush 64, 2) := dk_16 64 (dk_at dksX1_init_0 13 rfl rfl)
theorem dX1_init_15 : decode cX1_init 15 = .ok (.putfield 13, 3) := dk_181 0 13 (dk_at dksX1_init_0 15 rfl rfl)
theorem dX1_init_18 : decode cX1_init 18 = .ok (.return_, 1) := dk_177 (dk_at dksX1_init_0 18 rfl rfl)
abbrev cX1_set : ByteArray := prog_3_method_2_code
def yX1_set : MethodName := ⟨RX1, "set", "(II)V"⟩
def dkwX1_set_0 : List UInt8 := [42, 180, 0, 9, 27, 16, 63, 126, 28, 18, 17, 126, 79, 177]
abbrev dktX1_set_0 : List UInt8 := dkwX1_set_0 ++ []
theorem dksX1_set_0 : cX1_set.data.toList.drop 0 = dktX1_set_0 := by decide +kernel
theorem dX1_set_0 : decode cX1_set 0 = .ok (.aload_n 0, 1) := dk_42 (dk_at dksX1_set_0 0 rfl rfl)
theorem dX1_set_1 : decode cX1_set 1 = .ok (.getfield 9, 3) := dk_180 0 9 (dk_at dksX1_set_0 1 rfl rfl)
theorem dX1_set_4 : decode cX1_set 4 = .ok (.iload_n 1, 1) := dk_27 (dk_at dksX1_set_0 4 rfl rfl)
theorem dX1_set_5 : decode cX1_set 5 = .ok (.bipush 63, 2) := dk_16 63 (dk_at dksX1_set_0 5 rfl rfl)
theorem dX1_set_7 : decode cX1_set 7 = .ok (.iand, 1) := dk_126 (dk_at dksX1_set_0 7 rfl rfl)
theorem dX1_set_8 : decode cX1_set 8 = .ok (.iload_n 2, 1) := dk_28 (dk_at dksX1_set_0 8 rfl rfl)
theorem dX1_set_9 : decode cX1_set 9 = .ok (.ldc 17, 2) := dk_18 17 (dk_at dksX1_set_0 9 rfl rfl)
theorem dX1_set_11 : decode cX1_set 11 = .ok (.iand, 1) := dk_126 (dk_at dksX1_set_0 11 rfl rfl)
theorem dX1_set_12 : decode cX1_set 12 = .ok (.iastore, 1) := dk_79 (dk_at dksX1_set_0 12 rfl rfl)
theorem dX1_set_13 : decode cX1_set 13 = .ok (.return_, 1) := dk_177 (dk_at dksX1_set_0 13 rfl rfl)
abbrev cX1_fill : ByteArray := prog_3_method_3_code
def yX1_fill : MethodName := ⟨RX1, "fill", "(II)V"⟩
def dkwX1_fill_1 : List UInt8 := [132, 3, 1, 167, 255, 233, 177]
abbrev dktX1_fill_1 : List UInt8 := dkwX1_fill_1 ++ []
def dkwX1_fill_0 : List UInt8 := [3, 62, 29, 16, 64, 162, 0, 23, 42, 180, 0, 9, 29, 27, 28, 29, 104, 96, 18, 17, 126, 79]
abbrev dktX1_fill_0 : List UInt8 := dkwX1_fill_0 ++ dktX1_fill_1
theorem dksX1_fill_0 : cX1_fill.data.toList.drop 0 = dktX1_fill_0 := by decide +kernel
theorem dksX1_fill_1 : cX1_fill.data.toList.drop 22 = dktX1_fill_1 := dk_seg dksX1_fill_0 22 rfl rfl
theorem dX1_fill_0 : decode cX1_fill 0 = .ok (.iconst 0, 1) := dk_3 (dk_at dksX1_fill_0 0 rfl rfl)
theorem dX1_fill_1 : decode cX1_fill 1 = .ok (.istore_n 3, 1) := dk_62 (dk_at dksX1_fill_0 1 rfl rfl)
theorem dX1_fill_2 : decode cX1_fill 2 = .ok (.iload_n 3, 1) := dk_29 (dk_at dksX1_fill_0 2 rfl rfl)
theorem dX1_fill_3 : decode cX1_fill 3 = .ok (.bipush 64, 2) := dk_16 64 (dk_at dksX1_fill_0 3 rfl rfl)
theorem dX1_fill_5 : decode cX1_fill 5 = .ok (.if_icmp .ge 23, 3) := dk_162 0 23 (dk_at dksX1_fill_0 5 rfl rfl)
theorem dX1_fill_8 : decode cX1_fill 8 = .ok (.aload_n 0, 1) := dk_42 (dk_at dksX1_fill_0 8 rfl rfl)
theorem dX1_fill_9 : decode cX1_fill 9 = .ok (.getfield 9, 3) := dk_180 0 9 (dk_at dksX1_fill_0 9 rfl rfl)
theorem dX1_fill_12 : decode cX1_fill 12 = .ok (.iload_n 3, 1) := dk_29 (dk_at dksX1_fill_0 12 rfl rfl)
theorem dX1_fill_13 : decode cX1_fill 13 = .ok (.iload_n 1, 1) := dk_27 (dk_at dksX1_fill_0 13 rfl rfl)
theorem dX1_fill_14 : decode cX1_fill 14 = .ok (.iload_n 2, 1) := dk_28 (dk_at dksX1_fill_0 14 rfl rfl)
theorem dX1_fill_15 : decode cX1_fill 15 = .ok (.iload_n 3, 1) := dk_29 (dk_at dksX1_fill_0 15 rfl rfl)
theorem dX1_fill_16 : decode cX1_fill 16 = .ok (.imul, 1) := dk_104 (dk_at dksX1_fill_0 16 rfl rfl)
theorem dX1_fill_17 : decode cX1_fill 17 = .ok (.iadd, 1) := dk_96 (dk_at dksX1_fill_0 17 rfl rfl)
theorem dX1_fill_18 : decode cX1_fill 18 = .ok (.ldc 17, 2) := dk_18 17 (dk_at dksX1_fill_0 18 rfl rfl)
theorem dX1_fill_20 : decode cX1_fill 20 = .ok (.iand, 1) := dk_126 (dk_at dksX1_fill_0 20 rfl rfl)
theorem dX1_fill_21 : decode cX1_fill 21 = .ok (.iastore, 1) := dk_79 (dk_at dksX1_fill_0 21 rfl rfl)
theorem dX1_fill_22 : decode cX1_fill 22 = .ok (.iinc 3 1, 3) := dk_132 3 1 (dk_at dksX1_fill_1 0 rfl rfl)
theorem dX1_fill_25 : decode cX1_fill 25 = .ok (.goto (-23), 3) := dk_167 255 233 (dk_at dksX1_fill_1 3 rfl rfl)
theorem dX1_fill_28 : decode cX1_fill 28 = .ok (.return_, 1) := dk_177 (dk_at dksX1_fill_1 6 rfl rfl)
abbrev cX1_length : ByteArray := prog_3_method_4_code
def yX1_length : MethodName := ⟨RX1, "length", "(I)V"⟩
def dkwX1_length_0 : List UInt8 := [42, 5, 27, 18, 18, 126, 16, 63, 112, 96, 181, 0, 13, 177]
abbrev dktX1_length_0 : List UInt8 := dkwX1_length_0 ++ []
theorem dksX1_length_0 : cX1_length.data.toList.drop 0 = dktX1_length_0 := by decide +kernel
theorem dX1_length_0 : decode cX1_length 0 = .ok (.aload_n 0, 1) := dk_42 (dk_at dksX1_length_0 0 rfl rfl)
theorem dX1_length_1 : decode cX1_length 1 = .ok (.iconst 2, 1) := dk_5 (dk_at dksX1_length_0 1 rfl rfl)
theorem dX1_length_2 : decode cX1_length 2 = .ok (.iload_n 1, 1) := dk_27 (dk_at dksX1_length_0 2 rfl rfl)
theorem dX1_length_3 : decode cX1_length 3 = .ok (.ldc 18, 2) := dk_18 18 (dk_at dksX1_length_0 3 rfl rfl)
theorem dX1_length_5 : decode cX1_length 5 = .ok (.iand, 1) := dk_126 (dk_at dksX1_length_0 5 rfl rfl)
theorem dX1_length_6 : decode cX1_length 6 = .ok (.bipush 63, 2) := dk_16 63 (dk_at dksX1_length_0 6 rfl rfl)
theorem dX1_length_8 : decode cX1_length 8 = .ok (.irem, 1) := dk_112 (dk_at dksX1_length_0 8 rfl rfl)
theorem dX1_length_9 : decode cX1_length 9 = .ok (.iadd, 1) := dk_96 (dk_at dksX1_length_0 9 rfl rfl)
theorem dX1_length_10 : decode cX1_length 10 = .ok (.putfield 13, 3) := dk_181 0 13 (dk_at dksX1_length_0 10 rfl rfl)
theorem dX1_length_13 : decode cX1_length 13 = .ok (.return_, 1) := dk_177 (dk_at dksX1_length_0 13 rfl rfl)
abbrev cX1_sort : ByteArray := prog_3_method_5_code
def yX1_sort : MethodName := ⟨RX1, "sort", "()V"⟩
def dkwX1_sort_2 : List UInt8 := [79, 132, 3, 255, 167, 255, 223, 42, 180, 0, 9, 29, 28, 79, 132, 1, 1, 167, 255, 193, 177]
abbrev dktX1_sort_2 : List UInt8 := dkwX1_sort_2 ++ []
def dkwX1_sort_1 : List UInt8 := [180, 0, 9, 29, 4, 100, 46, 28, 164, 0, 23, 42, 180, 0, 9, 29, 42, 180, 0, 9, 29, 4, 100, 46]
abbrev dktX1_sort_1 : List UInt8 := dkwX1_sort_1 ++ dktX1_sort_2
def dkwX1_sort_0 : List UInt8 := [4, 60, 27, 42, 180, 0, 13, 162, 0, 61, 42, 180, 0, 9, 27, 46, 61, 27, 62, 29, 158, 0, 35, 42]
abbrev dktX1_sort_0 : List UInt8 := dkwX1_sort_0 ++ dktX1_sort_1
theorem dksX1_sort_0 : cX1_sort.data.toList.drop 0 = dktX1_sort_0 := by decide +kernel
theorem dksX1_sort_1 : cX1_sort.data.toList.drop 24 = dktX1_sort_1 := dk_seg dksX1_sort_0 24 rfl rfl
theorem dksX1_sort_2 : cX1_sort.data.toList.drop 48 = dktX1_sort_2 := dk_seg dksX1_sort_1 24 rfl rfl
theorem dX1_sort_0 : decode cX1_sort 0 = .ok (.iconst 1, 1) := dk_4 (dk_at dksX1_sort_0 0 rfl rfl)
theorem dX1_sort_1 : decode cX1_sort 1 = .ok (.istore_n 1, 1) := dk_60 (dk_at dksX1_sort_0 1 rfl rfl)
theorem dX1_sort_2 : decode cX1_sort 2 = .ok (.iload_n 1, 1) := dk_27 (dk_at dksX1_sort_0 2 rfl rfl)
theorem dX1_sort_3 : decode cX1_sort 3 = .ok (.aload_n 0, 1) := dk_42 (dk_at dksX1_sort_0 3 rfl rfl)
theorem dX1_sort_4 : decode cX1_sort 4 = .ok (.getfield 13, 3) := dk_180 0 13 (dk_at dksX1_sort_0 4 rfl rfl)
theorem dX1_sort_7 : decode cX1_sort 7 = .ok (.if_icmp .ge 61, 3) := dk_162 0 61 (dk_at dksX1_sort_0 7 rfl rfl)
theorem dX1_sort_10 : decode cX1_sort 10 = .ok (.aload_n 0, 1) := dk_42 (dk_at dksX1_sort_0 10 rfl rfl)
theorem dX1_sort_11 : decode cX1_sort 11 = .ok (.getfield 9, 3) := dk_180 0 9 (dk_at dksX1_sort_0 11 rfl rfl)
theorem dX1_sort_14 : decode cX1_sort 14 = .ok (.iload_n 1, 1) := dk_27 (dk_at dksX1_sort_0 14 rfl rfl)
theorem dX1_sort_15 : decode cX1_sort 15 = .ok (.iaload, 1) := dk_46 (dk_at dksX1_sort_0 15 rfl rfl)
theorem dX1_sort_16 : decode cX1_sort 16 = .ok (.istore_n 2, 1) := dk_61 (dk_at dksX1_sort_0 16 rfl rfl)
theorem dX1_sort_17 : decode cX1_sort 17 = .ok (.iload_n 1, 1) := dk_27 (dk_at dksX1_sort_0 17 rfl rfl)
theorem dX1_sort_18 : decode cX1_sort 18 = .ok (.istore_n 3, 1) := dk_62 (dk_at dksX1_sort_0 18 rfl rfl)
theorem dX1_sort_19 : decode cX1_sort 19 = .ok (.iload_n 3, 1) := dk_29 (dk_at dksX1_sort_0 19 rfl rfl)
theorem dX1_sort_20 : decode cX1_sort 20 = .ok (.ifCond .le 35, 3) := dk_158 0 35 (dk_at dksX1_sort_0 20 rfl rfl)
theorem dX1_sort_23 : decode cX1_sort 23 = .ok (.aload_n 0, 1) := dk_42 (dk_at dksX1_sort_0 23 rfl rfl)
theorem dX1_sort_24 : decode cX1_sort 24 = .ok (.getfield 9, 3) := dk_180 0 9 (dk_at dksX1_sort_1 0 rfl rfl)
theorem dX1_sort_27 : decode cX1_sort 27 = .ok (.iload_n 3, 1) := dk_29 (dk_at dksX1_sort_1 3 rfl rfl)
theorem dX1_sort_28 : decode cX1_sort 28 = .ok (.iconst 1, 1) := dk_4 (dk_at dksX1_sort_1 4 rfl rfl)
theorem dX1_sort_29 : decode cX1_sort 29 = .ok (.isub, 1) := dk_100 (dk_at dksX1_sort_1 5 rfl rfl)
theorem dX1_sort_30 : decode cX1_sort 30 = .ok (.iaload, 1) := dk_46 (dk_at dksX1_sort_1 6 rfl rfl)
theorem dX1_sort_31 : decode cX1_sort 31 = .ok (.iload_n 2, 1) := dk_28 (dk_at dksX1_sort_1 7 rfl rfl)
theorem dX1_sort_32 : decode cX1_sort 32 = .ok (.if_icmp .le 23, 3) := dk_164 0 23 (dk_at dksX1_sort_1 8 rfl rfl)
theorem dX1_sort_35 : decode cX1_sort 35 = .ok (.aload_n 0, 1) := dk_42 (dk_at dksX1_sort_1 11 rfl rfl)
theorem dX1_sort_36 : decode cX1_sort 36 = .ok (.getfield 9, 3) := dk_180 0 9 (dk_at dksX1_sort_1 12 rfl rfl)
theorem dX1_sort_39 : decode cX1_sort 39 = .ok (.iload_n 3, 1) := dk_29 (dk_at dksX1_sort_1 15 rfl rfl)
theorem dX1_sort_40 : decode cX1_sort 40 = .ok (.aload_n 0, 1) := dk_42 (dk_at dksX1_sort_1 16 rfl rfl)
theorem dX1_sort_41 : decode cX1_sort 41 = .ok (.getfield 9, 3) := dk_180 0 9 (dk_at dksX1_sort_1 17 rfl rfl)
theorem dX1_sort_44 : decode cX1_sort 44 = .ok (.iload_n 3, 1) := dk_29 (dk_at dksX1_sort_1 20 rfl rfl)
theorem dX1_sort_45 : decode cX1_sort 45 = .ok (.iconst 1, 1) := dk_4 (dk_at dksX1_sort_1 21 rfl rfl)
theorem dX1_sort_46 : decode cX1_sort 46 = .ok (.isub, 1) := dk_100 (dk_at dksX1_sort_1 22 rfl rfl)
theorem dX1_sort_47 : decode cX1_sort 47 = .ok (.iaload, 1) := dk_46 (dk_at dksX1_sort_1 23 rfl rfl)
theorem dX1_sort_48 : decode cX1_sort 48 = .ok (.iastore, 1) := dk_79 (dk_at dksX1_sort_2 0 rfl rfl)
theorem dX1_sort_49 : decode cX1_sort 49 = .ok (.iinc 3 (-1), 3) := dk_132 3 255 (dk_at dksX1_sort_2 1 rfl rfl)
theorem dX1_sort_52 : decode cX1_sort 52 = .ok (.goto (-33), 3) := dk_167 255 223 (dk_at dksX1_sort_2 4 rfl rfl)
theorem dX1_sort_55 : decode cX1_sort 55 = .ok (.aload_n 0, 1) := dk_42 (dk_at dksX1_sort_2 7 rfl rfl)
theorem dX1_sort_56 : decode cX1_sort 56 = .ok (.getfield 9, 3) := dk_180 0 9 (dk_at dksX1_sort_2 8 rfl rfl)
theorem dX1_sort_59 : decode cX1_sort 59 = .ok (.iload_n 3, 1) := dk_29 (dk_at dksX1_sort_2 11 rfl rfl)
theorem dX1_sort_60 : decode cX1_sort 60 = .ok (.iload_n 2, 1) := dk_28 (dk_at dksX1_sort_2 12 rfl rfl)
theorem dX1_sort_61 : decode cX1_sort 61 = .ok (.iastore, 1) := dk_79 (dk_at dksX1_sort_2 13 rfl rfl)
theorem dX1_sort_62 : decode cX1_sort 62 = .ok (.iinc 1 1, 3) := dk_132 1 1 (dk_at dksX1_sort_2 14 rfl rfl)
theorem dX1_sort_65 : decode cX1_sort 65 = .ok (.goto (-63), 3) := dk_167 255 193 (dk_at dksX1_sort_2 17 rfl rfl)
theorem dX1_sort_68 : decode cX1_sort 68 = .ok (.return_, 1) := dk_177 (dk_at dksX1_sort_2 20 rfl rfl)
abbrev cX1_get : ByteArray := prog_3_method_6_code
def yX1_get : MethodName := ⟨RX1, "get", "(I)I"⟩
def dkwX1_get_0 : List UInt8 := [42, 180, 0, 9, 27, 16, 63, 126, 46, 172]
abbrev dktX1_get_0 : List UInt8 := dkwX1_get_0 ++ []
theorem dksX1_get_0 : cX1_get.data.toList.drop 0 = dktX1_get_0 := by decide +kernel
theorem dX1_get_0 : decode cX1_get 0 = .ok (.aload_n 0, 1) := dk_42 (dk_at dksX1_get_0 0 rfl rfl)
theorem dX1_get_1 : decode cX1_get 1 = .ok (.getfield 9, 3) := dk_180 0 9 (dk_at dksX1_get_0 1 rfl rfl)
theorem dX1_get_4 : decode cX1_get 4 = .ok (.iload_n 1, 1) := dk_27 (dk_at dksX1_get_0 4 rfl rfl)
theorem dX1_get_5 : decode cX1_get 5 = .ok (.bipush 63, 2) := dk_16 63 (dk_at dksX1_get_0 5 rfl rfl)
theorem dX1_get_7 : decode cX1_get 7 = .ok (.iand, 1) := dk_126 (dk_at dksX1_get_0 7 rfl rfl)
theorem dX1_get_8 : decode cX1_get 8 = .ok (.iaload, 1) := dk_46 (dk_at dksX1_get_0 8 rfl rfl)
theorem dX1_get_9 : decode cX1_get 9 = .ok (.ireturn, 1) := dk_172 (dk_at dksX1_get_0 9 rfl rfl)
abbrev cX1_length_2 : ByteArray := prog_3_method_7_code
def yX1_length_2 : MethodName := ⟨RX1, "length", "()I"⟩
theorem dX1_length_2_0 : decode cX1_length_2 0 = .ok (.aload_n 0, 1) := by decide +kernel
theorem dX1_length_2_1 : decode cX1_length_2 1 = .ok (.getfield 13, 3) := by decide +kernel
theorem dX1_length_2_4 : decode cX1_length_2 4 = .ok (.ireturn, 1) := by decide +kernel
abbrev cX1_sum : ByteArray := prog_3_method_8_code
def yX1_sum : MethodName := ⟨RX1, "sum", "()J"⟩
def dkwX1_sum_1 : List UInt8 := [132, 3, 1, 167, 255, 233, 31, 173]
abbrev dktX1_sum_1 : List UInt8 := dkwX1_sum_1 ++ []
def dkwX1_sum_0 : List UInt8 := [9, 64, 3, 62, 29, 16, 64, 162, 0, 23, 31, 20, 0, 19, 105, 42, 180, 0, 9, 29, 46, 133, 97, 64]
abbrev dktX1_sum_0 : List UInt8 := dkwX1_sum_0 ++ dktX1_sum_1
theorem dksX1_sum_0 : cX1_sum.data.toList.drop 0 = dktX1_sum_0 := by decide +kernel
theorem dksX1_sum_1 : cX1_sum.data.toList.drop 24 = dktX1_sum_1 := dk_seg dksX1_sum_0 24 rfl rfl
theorem dX1_sum_0 : decode cX1_sum 0 = .ok (.lconst 0, 1) := dk_9 (dk_at dksX1_sum_0 0 rfl rfl)
theorem dX1_sum_1 : decode cX1_sum 1 = .ok (.lstore_n 1, 1) := dk_64 (dk_at dksX1_sum_0 1 rfl rfl)
theorem dX1_sum_2 : decode cX1_sum 2 = .ok (.iconst 0, 1) := dk_3 (dk_at dksX1_sum_0 2 rfl rfl)
theorem dX1_sum_3 : decode cX1_sum 3 = .ok (.istore_n 3, 1) := dk_62 (dk_at dksX1_sum_0 3 rfl rfl)
theorem dX1_sum_4 : decode cX1_sum 4 = .ok (.iload_n 3, 1) := dk_29 (dk_at dksX1_sum_0 4 rfl rfl)
theorem dX1_sum_5 : decode cX1_sum 5 = .ok (.bipush 64, 2) := dk_16 64 (dk_at dksX1_sum_0 5 rfl rfl)
theorem dX1_sum_7 : decode cX1_sum 7 = .ok (.if_icmp .ge 23, 3) := dk_162 0 23 (dk_at dksX1_sum_0 7 rfl rfl)
theorem dX1_sum_10 : decode cX1_sum 10 = .ok (.lload_n 1, 1) := dk_31 (dk_at dksX1_sum_0 10 rfl rfl)
theorem dX1_sum_11 : decode cX1_sum 11 = .ok (.ldc2_w 19, 3) := dk_20 0 19 (dk_at dksX1_sum_0 11 rfl rfl)
theorem dX1_sum_14 : decode cX1_sum 14 = .ok (.lmul, 1) := dk_105 (dk_at dksX1_sum_0 14 rfl rfl)
theorem dX1_sum_15 : decode cX1_sum 15 = .ok (.aload_n 0, 1) := dk_42 (dk_at dksX1_sum_0 15 rfl rfl)
theorem dX1_sum_16 : decode cX1_sum 16 = .ok (.getfield 9, 3) := dk_180 0 9 (dk_at dksX1_sum_0 16 rfl rfl)
theorem dX1_sum_19 : decode cX1_sum 19 = .ok (.iload_n 3, 1) := dk_29 (dk_at dksX1_sum_0 19 rfl rfl)
theorem dX1_sum_20 : decode cX1_sum 20 = .ok (.iaload, 1) := dk_46 (dk_at dksX1_sum_0 20 rfl rfl)
theorem dX1_sum_21 : decode cX1_sum 21 = .ok (.i2l, 1) := dk_133 (dk_at dksX1_sum_0 21 rfl rfl)
theorem dX1_sum_22 : decode cX1_sum 22 = .ok (.ladd, 1) := dk_97 (dk_at dksX1_sum_0 22 rfl rfl)
theorem dX1_sum_23 : decode cX1_sum 23 = .ok (.lstore_n 1, 1) := dk_64 (dk_at dksX1_sum_0 23 rfl rfl)
theorem dX1_sum_24 : decode cX1_sum 24 = .ok (.iinc 3 1, 3) := dk_132 3 1 (dk_at dksX1_sum_1 0 rfl rfl)
theorem dX1_sum_27 : decode cX1_sum 27 = .ok (.goto (-23), 3) := dk_167 255 233 (dk_at dksX1_sum_1 3 rfl rfl)
theorem dX1_sum_30 : decode cX1_sum 30 = .ok (.lload_n 1, 1) := dk_31 (dk_at dksX1_sum_1 6 rfl rfl)
theorem dX1_sum_31 : decode cX1_sum 31 = .ok (.lreturn, 1) := dk_173 (dk_at dksX1_sum_1 7 rfl rfl)
theorem q2 : (Jvm.Cond.initialized "NetworkSortModel") ∈ lw_all := lw_g (lw_at lw_m0 2 rfl) rfl
theorem q59 : (Jvm.Cond.instantiable "NetworkSortModel" (2 : Nat)) ∈ lw_all := lw_g (lw_at lw_m0 59 rfl) rfl
theorem q61 : (Jvm.Cond.instanceMethod ({ cls := "NetworkSortModel", name := "<init>", desc := "()V" } : Jvm.MethodName)) ∈ lw_all := lw_g (lw_at lw_m0 61 rfl) rfl
theorem q62 : (Jvm.Cond.code ({ cls := "NetworkSortModel", name := "<init>", desc := "()V" } : Jvm.MethodName) prog_3_method_1_code (1 : Nat) (Option.none : Option Jvm.ClassFile.FieldType)) ∈ lw_all := lw_g (lw_at lw_m0 62 rfl) rfl
theorem q63 : (Jvm.Cond.methodLink "NetworkSortModel" (1 : Nat) ({ cls := "java/lang/Object", name := "<init>", desc := "()V" } : Jvm.MethodName)) ∈ lw_all := lw_g (lw_at lw_m0 63 rfl) rfl
theorem q64 : (Jvm.Cond.fieldLink "NetworkSortModel" (9 : Nat) "NetworkSortModel" "row" "[I") ∈ lw_all := lw_g (lw_at lw_m0 64 rfl) rfl
theorem q65 : (Jvm.Cond.fieldLink "NetworkSortModel" (13 : Nat) "NetworkSortModel" "length" "I") ∈ lw_all := lw_g (lw_at lw_m0 65 rfl) rfl
theorem q66 : (Jvm.Cond.laysFinal "NetworkSortModel" "NetworkSortModel" "row" "[I") ∈ lw_all := lw_g (lw_at lw_m0 66 rfl) rfl
theorem q67 : (Jvm.Cond.soleField "NetworkSortModel" "row") ∈ lw_all := lw_g (lw_at lw_m0 67 rfl) rfl
theorem q68 : (Jvm.Cond.lays "NetworkSortModel" "NetworkSortModel" "length" "I") ∈ lw_all := lw_g (lw_at lw_m0 68 rfl) rfl
theorem q69 : (Jvm.Cond.soleField "NetworkSortModel" "length") ∈ lw_all := lw_g (lw_at lw_m0 69 rfl) rfl
theorem q70 : (Jvm.Cond.superclass "NetworkSortModel" "java/lang/Object") ∈ lw_all := lw_g (lw_at lw_m0 70 rfl) rfl
theorem q72 : (Jvm.Cond.instanceMethod ({ cls := "NetworkSortModel", name := "set", desc := "(II)V" } : Jvm.MethodName)) ∈ lw_all := lw_g (lw_at lw_m0 72 rfl) rfl
theorem q73 : (Jvm.Cond.selects "NetworkSortModel" ({ cls := "NetworkSortModel", name := "set", desc := "(II)V" } : Jvm.MethodName) ({ cls := "NetworkSortModel", name := "set", desc := "(II)V" } : Jvm.MethodName)) ∈ lw_all := lw_g (lw_at lw_m0 73 rfl) rfl
theorem q74 : (Jvm.Cond.code ({ cls := "NetworkSortModel", name := "set", desc := "(II)V" } : Jvm.MethodName) prog_3_method_2_code (3 : Nat) (Option.none : Option Jvm.ClassFile.FieldType)) ∈ lw_all := lw_g (lw_at lw_m0 74 rfl) rfl
theorem q75 : (Jvm.Cond.constant "NetworkSortModel" (17 : Nat) (1073741823 : Int32)) ∈ lw_all := lw_g (lw_at lw_m0 75 rfl) rfl
theorem q77 : (Jvm.Cond.instanceMethod ({ cls := "NetworkSortModel", name := "fill", desc := "(II)V" } : Jvm.MethodName)) ∈ lw_all := lw_g (lw_at lw_m0 77 rfl) rfl
theorem q78 : (Jvm.Cond.selects "NetworkSortModel" ({ cls := "NetworkSortModel", name := "fill", desc := "(II)V" } : Jvm.MethodName) ({ cls := "NetworkSortModel", name := "fill", desc := "(II)V" } : Jvm.MethodName)) ∈ lw_all := lw_g (lw_at lw_m0 78 rfl) rfl
theorem q79 : (Jvm.Cond.code ({ cls := "NetworkSortModel", name := "fill", desc := "(II)V" } : Jvm.MethodName) prog_3_method_3_code (4 : Nat) (Option.none : Option Jvm.ClassFile.FieldType)) ∈ lw_all := lw_g (lw_at lw_m0 79 rfl) rfl
theorem q81 : (Jvm.Cond.instanceMethod ({ cls := "NetworkSortModel", name := "length", desc := "(I)V" } : Jvm.MethodName)) ∈ lw_all := lw_g (lw_at lw_m0 81 rfl) rfl
theorem q82 : (Jvm.Cond.selects "NetworkSortModel" ({ cls := "NetworkSortModel", name := "length", desc := "(I)V" } : Jvm.MethodName) ({ cls := "NetworkSortModel", name := "length", desc := "(I)V" } : Jvm.MethodName)) ∈ lw_all := lw_g (lw_at lw_m0 82 rfl) rfl
theorem q83 : (Jvm.Cond.code ({ cls := "NetworkSortModel", name := "length", desc := "(I)V" } : Jvm.MethodName) prog_3_method_4_code (2 : Nat) (Option.none : Option Jvm.ClassFile.FieldType)) ∈ lw_all := lw_g (lw_at lw_m0 83 rfl) rfl
theorem q84 : (Jvm.Cond.constant "NetworkSortModel" (18 : Nat) (2147483647 : Int32)) ∈ lw_all := lw_g (lw_at lw_m0 84 rfl) rfl
theorem q86 : (Jvm.Cond.instanceMethod ({ cls := "NetworkSortModel", name := "sort", desc := "()V" } : Jvm.MethodName)) ∈ lw_all := lw_g (lw_at lw_m0 86 rfl) rfl
theorem q87 : (Jvm.Cond.selects "NetworkSortModel" ({ cls := "NetworkSortModel", name := "sort", desc := "()V" } : Jvm.MethodName) ({ cls := "NetworkSortModel", name := "sort", desc := "()V" } : Jvm.MethodName)) ∈ lw_all := lw_g (lw_at lw_m0 87 rfl) rfl
theorem q88 : (Jvm.Cond.code ({ cls := "NetworkSortModel", name := "sort", desc := "()V" } : Jvm.MethodName) prog_3_method_5_code (4 : Nat) (Option.none : Option Jvm.ClassFile.FieldType)) ∈ lw_all := lw_g (lw_at lw_m0 88 rfl) rfl
theorem q90 : (Jvm.Cond.instanceMethod ({ cls := "NetworkSortModel", name := "get", desc := "(I)I" } : Jvm.MethodName)) ∈ lw_all := lw_g (lw_at lw_m0 90 rfl) rfl
theorem q91 : (Jvm.Cond.selects "NetworkSortModel" ({ cls := "NetworkSortModel", name := "get", desc := "(I)I" } : Jvm.MethodName) ({ cls := "NetworkSortModel", name := "get", desc := "(I)I" } : Jvm.MethodName)) ∈ lw_all := lw_g (lw_at lw_m0 91 rfl) rfl
theorem q92 : (Jvm.Cond.code ({ cls := "NetworkSortModel", name := "get", desc := "(I)I" } : Jvm.MethodName) prog_3_method_6_code (2 : Nat) (Option.some Jvm.ClassFile.FieldType.int)) ∈ lw_all := lw_g (lw_at lw_m0 92 rfl) rfl
theorem q94 : (Jvm.Cond.instanceMethod ({ cls := "NetworkSortModel", name := "length", desc := "()I" } : Jvm.MethodName)) ∈ lw_all := lw_g (lw_at lw_m0 94 rfl) rfl
theorem q95 : (Jvm.Cond.selects "NetworkSortModel" ({ cls := "NetworkSortModel", name := "length", desc := "()I" } : Jvm.MethodName) ({ cls := "NetworkSortModel", name := "length", desc := "()I" } : Jvm.MethodName)) ∈ lw_all := lw_g (lw_at lw_m0 95 rfl) rfl
theorem q96 : (Jvm.Cond.code ({ cls := "NetworkSortModel", name := "length", desc := "()I" } : Jvm.MethodName) prog_3_method_7_code (1 : Nat) (Option.some Jvm.ClassFile.FieldType.int)) ∈ lw_all := lw_g (lw_at lw_m0 96 rfl) rfl
theorem q98 : (Jvm.Cond.instanceMethod ({ cls := "NetworkSortModel", name := "sum", desc := "()J" } : Jvm.MethodName)) ∈ lw_all := lw_g (lw_at lw_m0 98 rfl) rfl
theorem q99 : (Jvm.Cond.selects "NetworkSortModel" ({ cls := "NetworkSortModel", name := "sum", desc := "()J" } : Jvm.MethodName) ({ cls := "NetworkSortModel", name := "sum", desc := "()J" } : Jvm.MethodName)) ∈ lw_all := lw_g (lw_at lw_m0 99 rfl) rfl
theorem q100 : (Jvm.Cond.code ({ cls := "NetworkSortModel", name := "sum", desc := "()J" } : Jvm.MethodName) prog_3_method_8_code (4 : Nat) (Option.some Jvm.ClassFile.FieldType.long)) ∈ lw_all := lw_g (lw_at lw_m0 100 rfl) rfl
theorem q101 : (Jvm.Cond.constantLong "NetworkSortModel" (19 : Nat) (31 : Int64)) ∈ lw_all := lw_g (lw_at lw_m0 101 rfl) rfl
theorem in_X1 : ∀ w ∈ wsX10, w ∈ lw_all := lw_in wsX10 [66, 68] (by decide +kernel) (by decide +kernel)
/-! Utils -/
set_option maxRecDepth 100000
def RX2 : String := "Utils"
abbrev cX2_cryptoSort : ByteArray := prog_4_method_3_code
def yX2_cryptoSort : MethodName := ⟨RX2, "cryptoSort", "([II)V"⟩
def dkwX2_cryptoSort_5 : List UInt8 := [4, 124, 62, 167, 255, 158, 177]
abbrev dktX2_cryptoSort_5 : List UInt8 := dkwX2_cryptoSort_5 ++ []
def dkwX2_cryptoSort_4 : List UInt8 := [21, 5, 21, 4, 96, 184, 0, 8, 132, 5, 1, 167, 255, 224, 21, 4, 4, 124, 54, 4, 167, 255, 206, 29]
abbrev dktX2_cryptoSort_4 : List UInt8 := dkwX2_cryptoSort_4 ++ dktX2_cryptoSort_5
def dkwX2_cryptoSort_3 : List UInt8 := [3, 54, 5, 21, 5, 27, 21, 4, 100, 162, 0, 29, 21, 5, 29, 126, 154, 0, 16, 42, 21, 5, 29, 96]
abbrev dktX2_cryptoSort_3 : List UInt8 := dkwX2_cryptoSort_3 ++ dktX2_cryptoSort_4
def dkwX2_cryptoSort_2 : List UInt8 := [21, 5, 21, 5, 29, 96, 184, 0, 8, 132, 5, 1, 167, 255, 228, 28, 54, 4, 21, 4, 29, 164, 0, 50]
abbrev dktX2_cryptoSort_2 : List UInt8 := dkwX2_cryptoSort_2 ++ dktX2_cryptoSort_3
def dkwX2_cryptoSort_1 : List UInt8 := [29, 158, 0, 100, 3, 54, 5, 21, 5, 27, 29, 100, 162, 0, 26, 21, 5, 29, 126, 154, 0, 13, 42]
abbrev dktX2_cryptoSort_1 : List UInt8 := dkwX2_cryptoSort_1 ++ dktX2_cryptoSort_2
def dkwX2_cryptoSort_0 : List UInt8 := [27, 5, 162, 0, 4, 177, 4, 61, 28, 27, 28, 100, 162, 0, 10, 28, 28, 96, 61, 167, 255, 245, 28, 62]
abbrev dktX2_cryptoSort_0 : List UInt8 := dkwX2_cryptoSort_0 ++ dktX2_cryptoSort_1
theorem dksX2_cryptoSort_0 : cX2_cryptoSort.data.toList.drop 0 = dktX2_cryptoSort_0 := by decide +kernel
theorem dksX2_cryptoSort_1 : cX2_cryptoSort.data.toList.drop 24 = dktX2_cryptoSort_1 := dk_seg dksX2_cryptoSort_0 24 rfl rfl
theorem dksX2_cryptoSort_2 : cX2_cryptoSort.data.toList.drop 47 = dktX2_cryptoSort_2 := dk_seg dksX2_cryptoSort_1 23 rfl rfl
theorem dksX2_cryptoSort_3 : cX2_cryptoSort.data.toList.drop 71 = dktX2_cryptoSort_3 := dk_seg dksX2_cryptoSort_2 24 rfl rfl
theorem dksX2_cryptoSort_4 : cX2_cryptoSort.data.toList.drop 95 = dktX2_cryptoSort_4 := dk_seg dksX2_cryptoSort_3 24 rfl rfl
theorem dksX2_cryptoSort_5 : cX2_cryptoSort.data.toList.drop 119 = dktX2_cryptoSort_5 := dk_seg dksX2_cryptoSort_4 24 rfl rfl
theorem dX2_cryptoSort_0 : decode cX2_cryptoSort 0 = .ok (.iload_n 1, 1) := dk_27 (dk_at dksX2_cryptoSort_0 0 rfl rfl)
theorem dX2_cryptoSort_1 : decode cX2_cryptoSort 1 = .ok (.iconst 2, 1) := dk_5 (dk_at dksX2_cryptoSort_0 1 rfl rfl)
theorem dX2_cryptoSort_2 : decode cX2_cryptoSort 2 = .ok (.if_icmp .ge 4, 3) := dk_162 0 4 (dk_at dksX2_cryptoSort_0 2 rfl rfl)
theorem dX2_cryptoSort_5 : decode cX2_cryptoSort 5 = .ok (.return_, 1) := dk_177 (dk_at dksX2_cryptoSort_0 5 rfl rfl)
theorem dX2_cryptoSort_6 : decode cX2_cryptoSort 6 = .ok (.iconst 1, 1) := dk_4 (dk_at dksX2_cryptoSort_0 6 rfl rfl)
theorem dX2_cryptoSort_7 : decode cX2_cryptoSort 7 = .ok (.istore_n 2, 1) := dk_61 (dk_at dksX2_cryptoSort_0 7 rfl rfl)
theorem dX2_cryptoSort_8 : decode cX2_cryptoSort 8 = .ok (.iload_n 2, 1) := dk_28 (dk_at dksX2_cryptoSort_0 8 rfl rfl)
theorem dX2_cryptoSort_9 : decode cX2_cryptoSort 9 = .ok (.iload_n 1, 1) := dk_27 (dk_at dksX2_cryptoSort_0 9 rfl rfl)
theorem dX2_cryptoSort_10 : decode cX2_cryptoSort 10 = .ok (.iload_n 2, 1) := dk_28 (dk_at dksX2_cryptoSort_0 10 rfl rfl)
theorem dX2_cryptoSort_11 : decode cX2_cryptoSort 11 = .ok (.isub, 1) := dk_100 (dk_at dksX2_cryptoSort_0 11 rfl rfl)
theorem dX2_cryptoSort_12 : decode cX2_cryptoSort 12 = .ok (.if_icmp .ge 10, 3) := dk_162 0 10 (dk_at dksX2_cryptoSort_0 12 rfl rfl)
theorem dX2_cryptoSort_15 : decode cX2_cryptoSort 15 = .ok (.iload_n 2, 1) := dk_28 (dk_at dksX2_cryptoSort_0 15 rfl rfl)
theorem dX2_cryptoSort_16 : decode cX2_cryptoSort 16 = .ok (.iload_n 2, 1) := dk_28 (dk_at dksX2_cryptoSort_0 16 rfl rfl)
theorem dX2_cryptoSort_17 : decode cX2_cryptoSort 17 = .ok (.iadd, 1) := dk_96 (dk_at dksX2_cryptoSort_0 17 rfl rfl)
theorem dX2_cryptoSort_18 : decode cX2_cryptoSort 18 = .ok (.istore_n 2, 1) := dk_61 (dk_at dksX2_cryptoSort_0 18 rfl rfl)
theorem dX2_cryptoSort_19 : decode cX2_cryptoSort 19 = .ok (.goto (-11), 3) := dk_167 255 245 (dk_at dksX2_cryptoSort_0 19 rfl rfl)
theorem dX2_cryptoSort_22 : decode cX2_cryptoSort 22 = .ok (.iload_n 2, 1) := dk_28 (dk_at dksX2_cryptoSort_0 22 rfl rfl)
theorem dX2_cryptoSort_23 : decode cX2_cryptoSort 23 = .ok (.istore_n 3, 1) := dk_62 (dk_at dksX2_cryptoSort_0 23 rfl rfl)
theorem dX2_cryptoSort_24 : decode cX2_cryptoSort 24 = .ok (.iload_n 3, 1) := dk_29 (dk_at dksX2_cryptoSort_1 0 rfl rfl)
theorem dX2_cryptoSort_25 : decode cX2_cryptoSort 25 = .ok (.ifCond .le 100, 3) := dk_158 0 100 (dk_at dksX2_cryptoSort_1 1 rfl rfl)
theorem dX2_cryptoSort_28 : decode cX2_cryptoSort 28 = .ok (.iconst 0, 1) := dk_3 (dk_at dksX2_cryptoSort_1 4 rfl rfl)
theorem dX2_cryptoSort_29 : decode cX2_cryptoSort 29 = .ok (.istore 5, 2) := dk_54 5 (dk_at dksX2_cryptoSort_1 5 rfl rfl)
theorem dX2_cryptoSort_31 : decode cX2_cryptoSort 31 = .ok (.iload 5, 2) := dk_21 5 (dk_at dksX2_cryptoSort_1 7 rfl rfl)
theorem dX2_cryptoSort_33 : decode cX2_cryptoSort 33 = .ok (.iload_n 1, 1) := dk_27 (dk_at dksX2_cryptoSort_1 9 rfl rfl)
theorem dX2_cryptoSort_34 : decode cX2_cryptoSort 34 = .ok (.iload_n 3, 1) := dk_29 (dk_at dksX2_cryptoSort_1 10 rfl rfl)
theorem dX2_cryptoSort_35 : decode cX2_cryptoSort 35 = .ok (.isub, 1) := dk_100 (dk_at dksX2_cryptoSort_1 11 rfl rfl)
theorem dX2_cryptoSort_36 : decode cX2_cryptoSort 36 = .ok (.if_icmp .ge 26, 3) := dk_162 0 26 (dk_at dksX2_cryptoSort_1 12 rfl rfl)
theorem dX2_cryptoSort_39 : decode cX2_cryptoSort 39 = .ok (.iload 5, 2) := dk_21 5 (dk_at dksX2_cryptoSort_1 15 rfl rfl)
theorem dX2_cryptoSort_41 : decode cX2_cryptoSort 41 = .ok (.iload_n 3, 1) := dk_29 (dk_at dksX2_cryptoSort_1 17 rfl rfl)
theorem dX2_cryptoSort_42 : decode cX2_cryptoSort 42 = .ok (.iand, 1) := dk_126 (dk_at dksX2_cryptoSort_1 18 rfl rfl)
theorem dX2_cryptoSort_43 : decode cX2_cryptoSort 43 = .ok (.ifCond .ne 13, 3) := dk_154 0 13 (dk_at dksX2_cryptoSort_1 19 rfl rfl)
theorem dX2_cryptoSort_46 : decode cX2_cryptoSort 46 = .ok (.aload_n 0, 1) := dk_42 (dk_at dksX2_cryptoSort_1 22 rfl rfl)
theorem dX2_cryptoSort_47 : decode cX2_cryptoSort 47 = .ok (.iload 5, 2) := dk_21 5 (dk_at dksX2_cryptoSort_2 0 rfl rfl)
theorem dX2_cryptoSort_49 : decode cX2_cryptoSort 49 = .ok (.iload 5, 2) := dk_21 5 (dk_at dksX2_cryptoSort_2 2 rfl rfl)
theorem dX2_cryptoSort_51 : decode cX2_cryptoSort 51 = .ok (.iload_n 3, 1) := dk_29 (dk_at dksX2_cryptoSort_2 4 rfl rfl)
theorem dX2_cryptoSort_52 : decode cX2_cryptoSort 52 = .ok (.iadd, 1) := dk_96 (dk_at dksX2_cryptoSort_2 5 rfl rfl)
theorem dX2_cryptoSort_53 : decode cX2_cryptoSort 53 = .ok (.invokestatic 8, 3) := dk_184 0 8 (dk_at dksX2_cryptoSort_2 6 rfl rfl)
theorem dX2_cryptoSort_56 : decode cX2_cryptoSort 56 = .ok (.iinc 5 1, 3) := dk_132 5 1 (dk_at dksX2_cryptoSort_2 9 rfl rfl)
theorem dX2_cryptoSort_59 : decode cX2_cryptoSort 59 = .ok (.goto (-28), 3) := dk_167 255 228 (dk_at dksX2_cryptoSort_2 12 rfl rfl)
theorem dX2_cryptoSort_62 : decode cX2_cryptoSort 62 = .ok (.iload_n 2, 1) := dk_28 (dk_at dksX2_cryptoSort_2 15 rfl rfl)
theorem dX2_cryptoSort_63 : decode cX2_cryptoSort 63 = .ok (.istore 4, 2) := dk_54 4 (dk_at dksX2_cryptoSort_2 16 rfl rfl)
theorem dX2_cryptoSort_65 : decode cX2_cryptoSort 65 = .ok (.iload 4, 2) := dk_21 4 (dk_at dksX2_cryptoSort_2 18 rfl rfl)
theorem dX2_cryptoSort_67 : decode cX2_cryptoSort 67 = .ok (.iload_n 3, 1) := dk_29 (dk_at dksX2_cryptoSort_2 20 rfl rfl)
theorem dX2_cryptoSort_68 : decode cX2_cryptoSort 68 = .ok (.if_icmp .le 50, 3) := dk_164 0 50 (dk_at dksX2_cryptoSort_2 21 rfl rfl)
theorem dX2_cryptoSort_71 : decode cX2_cryptoSort 71 = .ok (.iconst 0, 1) := dk_3 (dk_at dksX2_cryptoSort_3 0 rfl rfl)
theorem dX2_cryptoSort_72 : decode cX2_cryptoSort 72 = .ok (.istore 5, 2) := dk_54 5 (dk_at dksX2_cryptoSort_3 1 rfl rfl)
theorem dX2_cryptoSort_74 : decode cX2_cryptoSort 74 = .ok (.iload 5, 2) := dk_21 5 (dk_at dksX2_cryptoSort_3 3 rfl rfl)
theorem dX2_cryptoSort_76 : decode cX2_cryptoSort 76 = .ok (.iload_n 1, 1) := dk_27 (dk_at dksX2_cryptoSort_3 5 rfl rfl)
theorem dX2_cryptoSort_77 : decode cX2_cryptoSort 77 = .ok (.iload 4, 2) := dk_21 4 (dk_at dksX2_cryptoSort_3 6 rfl rfl)
theorem dX2_cryptoSort_79 : decode cX2_cryptoSort 79 = .ok (.isub, 1) := dk_100 (dk_at dksX2_cryptoSort_3 8 rfl rfl)
theorem dX2_cryptoSort_80 : decode cX2_cryptoSort 80 = .ok (.if_icmp .ge 29, 3) := dk_162 0 29 (dk_at dksX2_cryptoSort_3 9 rfl rfl)
theorem dX2_cryptoSort_83 : decode cX2_cryptoSort 83 = .ok (.iload 5, 2) := dk_21 5 (dk_at dksX2_cryptoSort_3 12 rfl rfl)
theorem dX2_cryptoSort_85 : decode cX2_cryptoSort 85 = .ok (.iload_n 3, 1) := dk_29 (dk_at dksX2_cryptoSort_3 14 rfl rfl)
theorem dX2_cryptoSort_86 : decode cX2_cryptoSort 86 = .ok (.iand, 1) := dk_126 (dk_at dksX2_cryptoSort_3 15 rfl rfl)
theorem dX2_cryptoSort_87 : decode cX2_cryptoSort 87 = .ok (.ifCond .ne 16, 3) := dk_154 0 16 (dk_at dksX2_cryptoSort_3 16 rfl rfl)
theorem dX2_cryptoSort_90 : decode cX2_cryptoSort 90 = .ok (.aload_n 0, 1) := dk_42 (dk_at dksX2_cryptoSort_3 19 rfl rfl)
theorem dX2_cryptoSort_91 : decode cX2_cryptoSort 91 = .ok (.iload 5, 2) := dk_21 5 (dk_at dksX2_cryptoSort_3 20 rfl rfl)
theorem dX2_cryptoSort_93 : decode cX2_cryptoSort 93 = .ok (.iload_n 3, 1) := dk_29 (dk_at dksX2_cryptoSort_3 22 rfl rfl)
theorem dX2_cryptoSort_94 : decode cX2_cryptoSort 94 = .ok (.iadd, 1) := dk_96 (dk_at dksX2_cryptoSort_3 23 rfl rfl)
theorem dX2_cryptoSort_95 : decode cX2_cryptoSort 95 = .ok (.iload 5, 2) := dk_21 5 (dk_at dksX2_cryptoSort_4 0 rfl rfl)
theorem dX2_cryptoSort_97 : decode cX2_cryptoSort 97 = .ok (.iload 4, 2) := dk_21 4 (dk_at dksX2_cryptoSort_4 2 rfl rfl)
theorem dX2_cryptoSort_99 : decode cX2_cryptoSort 99 = .ok (.iadd, 1) := dk_96 (dk_at dksX2_cryptoSort_4 4 rfl rfl)
theorem dX2_cryptoSort_100 : decode cX2_cryptoSort 100 = .ok (.invokestatic 8, 3) := dk_184 0 8 (dk_at dksX2_cryptoSort_4 5 rfl rfl)
theorem dX2_cryptoSort_103 : decode cX2_cryptoSort 103 = .ok (.iinc 5 1, 3) := dk_132 5 1 (dk_at dksX2_cryptoSort_4 8 rfl rfl)
theorem dX2_cryptoSort_106 : decode cX2_cryptoSort 106 = .ok (.goto (-32), 3) := dk_167 255 224 (dk_at dksX2_cryptoSort_4 11 rfl rfl)
theorem dX2_cryptoSort_109 : decode cX2_cryptoSort 109 = .ok (.iload 4, 2) := dk_21 4 (dk_at dksX2_cryptoSort_4 14 rfl rfl)
theorem dX2_cryptoSort_111 : decode cX2_cryptoSort 111 = .ok (.iconst 1, 1) := dk_4 (dk_at dksX2_cryptoSort_4 16 rfl rfl)
theorem dX2_cryptoSort_112 : decode cX2_cryptoSort 112 = .ok (.iushr, 1) := dk_124 (dk_at dksX2_cryptoSort_4 17 rfl rfl)
theorem dX2_cryptoSort_113 : decode cX2_cryptoSort 113 = .ok (.istore 4, 2) := dk_54 4 (dk_at dksX2_cryptoSort_4 18 rfl rfl)
theorem dX2_cryptoSort_115 : decode cX2_cryptoSort 115 = .ok (.goto (-50), 3) := dk_167 255 206 (dk_at dksX2_cryptoSort_4 20 rfl rfl)
theorem dX2_cryptoSort_118 : decode cX2_cryptoSort 118 = .ok (.iload_n 3, 1) := dk_29 (dk_at dksX2_cryptoSort_4 23 rfl rfl)
theorem dX2_cryptoSort_119 : decode cX2_cryptoSort 119 = .ok (.iconst 1, 1) := dk_4 (dk_at dksX2_cryptoSort_5 0 rfl rfl)
theorem dX2_cryptoSort_120 : decode cX2_cryptoSort 120 = .ok (.iushr, 1) := dk_124 (dk_at dksX2_cryptoSort_5 1 rfl rfl)
theorem dX2_cryptoSort_121 : decode cX2_cryptoSort 121 = .ok (.istore_n 3, 1) := dk_62 (dk_at dksX2_cryptoSort_5 2 rfl rfl)
theorem dX2_cryptoSort_122 : decode cX2_cryptoSort 122 = .ok (.goto (-98), 3) := dk_167 255 158 (dk_at dksX2_cryptoSort_5 3 rfl rfl)
theorem dX2_cryptoSort_125 : decode cX2_cryptoSort 125 = .ok (.return_, 1) := dk_177 (dk_at dksX2_cryptoSort_5 6 rfl rfl)
abbrev cX2_minmax : ByteArray := prog_4_method_2_code
def yX2_minmax : MethodName := ⟨RX2, "minmax", "([III)V"⟩
def dkwX2_minmax_3 : List UInt8 := [177]
abbrev dktX2_minmax_3 : List UInt8 := dkwX2_minmax_3 ++ []
def dkwX2_minmax_2 : List UInt8 := [54, 6, 21, 6, 21, 5, 126, 54, 6, 42, 27, 29, 21, 6, 130, 79, 42, 28, 21, 4, 21, 6, 130, 79]
abbrev dktX2_minmax_2 : List UInt8 := dkwX2_minmax_2 ++ dktX2_minmax_3
def dkwX2_minmax_1 : List UInt8 := [21, 5, 21, 6, 21, 4, 130, 18, 7, 130, 126, 130, 54, 6, 21, 6, 16, 31, 124, 54, 6, 21, 6, 116]
abbrev dktX2_minmax_1 : List UInt8 := dkwX2_minmax_1 ++ dktX2_minmax_2
def dkwX2_minmax_0 : List UInt8 := [42, 27, 46, 62, 42, 28, 46, 54, 4, 29, 21, 4, 130, 54, 5, 21, 4, 29, 100, 54, 6, 21, 6]
abbrev dktX2_minmax_0 : List UInt8 := dkwX2_minmax_0 ++ dktX2_minmax_1
theorem dksX2_minmax_0 : cX2_minmax.data.toList.drop 0 = dktX2_minmax_0 := by decide +kernel
theorem dksX2_minmax_1 : cX2_minmax.data.toList.drop 23 = dktX2_minmax_1 := dk_seg dksX2_minmax_0 23 rfl rfl
theorem dksX2_minmax_2 : cX2_minmax.data.toList.drop 47 = dktX2_minmax_2 := dk_seg dksX2_minmax_1 24 rfl rfl
theorem dksX2_minmax_3 : cX2_minmax.data.toList.drop 71 = dktX2_minmax_3 := dk_seg dksX2_minmax_2 24 rfl rfl
theorem dX2_minmax_0 : decode cX2_minmax 0 = .ok (.aload_n 0, 1) := dk_42 (dk_at dksX2_minmax_0 0 rfl rfl)
theorem dX2_minmax_1 : decode cX2_minmax 1 = .ok (.iload_n 1, 1) := dk_27 (dk_at dksX2_minmax_0 1 rfl rfl)
theorem dX2_minmax_2 : decode cX2_minmax 2 = .ok (.iaload, 1) := dk_46 (dk_at dksX2_minmax_0 2 rfl rfl)
theorem dX2_minmax_3 : decode cX2_minmax 3 = .ok (.istore_n 3, 1) := dk_62 (dk_at dksX2_minmax_0 3 rfl rfl)
theorem dX2_minmax_4 : decode cX2_minmax 4 = .ok (.aload_n 0, 1) := dk_42 (dk_at dksX2_minmax_0 4 rfl rfl)
theorem dX2_minmax_5 : decode cX2_minmax 5 = .ok (.iload_n 2, 1) := dk_28 (dk_at dksX2_minmax_0 5 rfl rfl)
theorem dX2_minmax_6 : decode cX2_minmax 6 = .ok (.iaload, 1) := dk_46 (dk_at dksX2_minmax_0 6 rfl rfl)
theorem dX2_minmax_7 : decode cX2_minmax 7 = .ok (.istore 4, 2) := dk_54 4 (dk_at dksX2_minmax_0 7 rfl rfl)
theorem dX2_minmax_9 : decode cX2_minmax 9 = .ok (.iload_n 3, 1) := dk_29 (dk_at dksX2_minmax_0 9 rfl rfl)
theorem dX2_minmax_10 : decode cX2_minmax 10 = .ok (.iload 4, 2) := dk_21 4 (dk_at dksX2_minmax_0 10 rfl rfl)
theorem dX2_minmax_12 : decode cX2_minmax 12 = .ok (.ixor, 1) := dk_130 (dk_at dksX2_minmax_0 12 rfl rfl)
theorem dX2_minmax_13 : decode cX2_minmax 13 = .ok (.istore 5, 2) := dk_54 5 (dk_at dksX2_minmax_0 13 rfl rfl)
theorem dX2_minmax_15 : decode cX2_minmax 15 = .ok (.iload 4, 2) := dk_21 4 (dk_at dksX2_minmax_0 15 rfl rfl)
theorem dX2_minmax_17 : decode cX2_minmax 17 = .ok (.iload_n 3, 1) := dk_29 (dk_at dksX2_minmax_0 17 rfl rfl)
theorem dX2_minmax_18 : decode cX2_minmax 18 = .ok (.isub, 1) := dk_100 (dk_at dksX2_minmax_0 18 rfl rfl)
theorem dX2_minmax_19 : decode cX2_minmax 19 = .ok (.istore 6, 2) := dk_54 6 (dk_at dksX2_minmax_0 19 rfl rfl)
theorem dX2_minmax_21 : decode cX2_minmax 21 = .ok (.iload 6, 2) := dk_21 6 (dk_at dksX2_minmax_0 21 rfl rfl)
theorem dX2_minmax_23 : decode cX2_minmax 23 = .ok (.iload 5, 2) := dk_21 5 (dk_at dksX2_minmax_1 0 rfl rfl)
theorem dX2_minmax_25 : decode cX2_minmax 25 = .ok (.iload 6, 2) := dk_21 6 (dk_at dksX2_minmax_1 2 rfl rfl)
theorem dX2_minmax_27 : decode cX2_minmax 27 = .ok (.iload 4, 2) := dk_21 4 (dk_at dksX2_minmax_1 4 rfl rfl)
theorem dX2_minmax_29 : decode cX2_minmax 29 = .ok (.ixor, 1) := dk_130 (dk_at dksX2_minmax_1 6 rfl rfl)
theorem dX2_minmax_30 : decode cX2_minmax 30 = .ok (.ldc 7, 2) := dk_18 7 (dk_at dksX2_minmax_1 7 rfl rfl)
theorem dX2_minmax_32 : decode cX2_minmax 32 = .ok (.ixor, 1) := dk_130 (dk_at dksX2_minmax_1 9 rfl rfl)
theorem dX2_minmax_33 : decode cX2_minmax 33 = .ok (.iand, 1) := dk_126 (dk_at dksX2_minmax_1 10 rfl rfl)
theorem dX2_minmax_34 : decode cX2_minmax 34 = .ok (.ixor, 1) := dk_130 (dk_at dksX2_minmax_1 11 rfl rfl)
theorem dX2_minmax_35 : decode cX2_minmax 35 = .ok (.istore 6, 2) := dk_54 6 (dk_at dksX2_minmax_1 12 rfl rfl)
theorem dX2_minmax_37 : decode cX2_minmax 37 = .ok (.iload 6, 2) := dk_21 6 (dk_at dksX2_minmax_1 14 rfl rfl)
theorem dX2_minmax_39 : decode cX2_minmax 39 = .ok (.bipush 31, 2) := dk_16 31 (dk_at dksX2_minmax_1 16 rfl rfl)
theorem dX2_minmax_41 : decode cX2_minmax 41 = .ok (.iushr, 1) := dk_124 (dk_at dksX2_minmax_1 18 rfl rfl)
theorem dX2_minmax_42 : decode cX2_minmax 42 = .ok (.istore 6, 2) := dk_54 6 (dk_at dksX2_minmax_1 19 rfl rfl)
theorem dX2_minmax_44 : decode cX2_minmax 44 = .ok (.iload 6, 2) := dk_21 6 (dk_at dksX2_minmax_1 21 rfl rfl)
theorem dX2_minmax_46 : decode cX2_minmax 46 = .ok (.ineg, 1) := dk_116 (dk_at dksX2_minmax_1 23 rfl rfl)
theorem dX2_minmax_47 : decode cX2_minmax 47 = .ok (.istore 6, 2) := dk_54 6 (dk_at dksX2_minmax_2 0 rfl rfl)
theorem dX2_minmax_49 : decode cX2_minmax 49 = .ok (.iload 6, 2) := dk_21 6 (dk_at dksX2_minmax_2 2 rfl rfl)
theorem dX2_minmax_51 : decode cX2_minmax 51 = .ok (.iload 5, 2) := dk_21 5 (dk_at dksX2_minmax_2 4 rfl rfl)
theorem dX2_minmax_53 : decode cX2_minmax 53 = .ok (.iand, 1) := dk_126 (dk_at dksX2_minmax_2 6 rfl rfl)
theorem dX2_minmax_54 : decode cX2_minmax 54 = .ok (.istore 6, 2) := dk_54 6 (dk_at dksX2_minmax_2 7 rfl rfl)
theorem dX2_minmax_56 : decode cX2_minmax 56 = .ok (.aload_n 0, 1) := dk_42 (dk_at dksX2_minmax_2 9 rfl rfl)
theorem dX2_minmax_57 : decode cX2_minmax 57 = .ok (.iload_n 1, 1) := dk_27 (dk_at dksX2_minmax_2 10 rfl rfl)
theorem dX2_minmax_58 : decode cX2_minmax 58 = .ok (.iload_n 3, 1) := dk_29 (dk_at dksX2_minmax_2 11 rfl rfl)
theorem dX2_minmax_59 : decode cX2_minmax 59 = .ok (.iload 6, 2) := dk_21 6 (dk_at dksX2_minmax_2 12 rfl rfl)
theorem dX2_minmax_61 : decode cX2_minmax 61 = .ok (.ixor, 1) := dk_130 (dk_at dksX2_minmax_2 14 rfl rfl)
theorem dX2_minmax_62 : decode cX2_minmax 62 = .ok (.iastore, 1) := dk_79 (dk_at dksX2_minmax_2 15 rfl rfl)
theorem dX2_minmax_63 : decode cX2_minmax 63 = .ok (.aload_n 0, 1) := dk_42 (dk_at dksX2_minmax_2 16 rfl rfl)
theorem dX2_minmax_64 : decode cX2_minmax 64 = .ok (.iload_n 2, 1) := dk_28 (dk_at dksX2_minmax_2 17 rfl rfl)
theorem dX2_minmax_65 : decode cX2_minmax 65 = .ok (.iload 4, 2) := dk_21 4 (dk_at dksX2_minmax_2 18 rfl rfl)
theorem dX2_minmax_67 : decode cX2_minmax 67 = .ok (.iload 6, 2) := dk_21 6 (dk_at dksX2_minmax_2 20 rfl rfl)
theorem dX2_minmax_69 : decode cX2_minmax 69 = .ok (.ixor, 1) := dk_130 (dk_at dksX2_minmax_2 22 rfl rfl)
theorem dX2_minmax_70 : decode cX2_minmax 70 = .ok (.iastore, 1) := dk_79 (dk_at dksX2_minmax_2 23 rfl rfl)
theorem dX2_minmax_71 : decode cX2_minmax 71 = .ok (.return_, 1) := dk_177 (dk_at dksX2_minmax_3 0 rfl rfl)
theorem q3 : (Jvm.Cond.initialized "Utils") ∈ lw_all := lw_g (lw_at lw_m0 3 rfl) rfl
theorem q39 : (Jvm.Cond.static ({ cls := "Utils", name := "cryptoSort", desc := "([II)V" } : Jvm.MethodName)) ∈ lw_all := lw_g (lw_at lw_m0 39 rfl) rfl
theorem q40 : (Jvm.Cond.code ({ cls := "Utils", name := "cryptoSort", desc := "([II)V" } : Jvm.MethodName) prog_4_method_3_code (6 : Nat) (Option.none : Option Jvm.ClassFile.FieldType)) ∈ lw_all := lw_g (lw_at lw_m0 40 rfl) rfl
theorem q41 : (Jvm.Cond.methodLink "Utils" (8 : Nat) ({ cls := "Utils", name := "minmax", desc := "([III)V" } : Jvm.MethodName)) ∈ lw_all := lw_g (lw_at lw_m0 41 rfl) rfl
theorem q42 : (Jvm.Cond.static ({ cls := "Utils", name := "minmax", desc := "([III)V" } : Jvm.MethodName)) ∈ lw_all := lw_g (lw_at lw_m0 42 rfl) rfl
theorem q43 : (Jvm.Cond.code ({ cls := "Utils", name := "minmax", desc := "([III)V" } : Jvm.MethodName) prog_4_method_2_code (7 : Nat) (Option.none : Option Jvm.ClassFile.FieldType)) ∈ lw_all := lw_g (lw_at lw_m0 43 rfl) rfl
theorem q44 : (Jvm.Cond.constant "Utils" (7 : Nat) (-2147483648 : Int32)) ∈ lw_all := lw_g (lw_at lw_m0 44 rfl) rfl
/-! the law's own entry -/
set_option maxRecDepth 100000
abbrev cL_law : ByteArray := code
def dkwL_law_9 : List UInt8 := [3, 172, 132, 3, 6, 167, 255, 51, 4, 172]
abbrev dktL_law_9 : List UInt8 := dkwL_law_9 ++ []
def dkwL_law_8 : List UInt8 := [182, 0, 36, 44, 182, 0, 39, 159, 0, 19, 3, 172, 43, 182, 0, 40, 44, 182, 0, 44, 148, 153, 0, 5]
abbrev dktL_law_8 : List UInt8 := dkwL_law_8 ++ dktL_law_9
def dkwL_law_7 : List UInt8 := [29, 4, 96, 46, 182, 0, 31, 44, 42, 29, 4, 96, 46, 182, 0, 35, 159, 0, 32, 3, 172, 43]
abbrev dktL_law_7 : List UInt8 := dkwL_law_7 ++ dktL_law_8
def dkwL_law_6 : List UInt8 := [42, 29, 4, 96, 46, 182, 0, 26, 167, 0, 64, 43, 182, 0, 27, 44, 182, 0, 30, 167, 0, 53, 43, 42]
abbrev dktL_law_6 : List UInt8 := dkwL_law_6 ++ dktL_law_7
def dkwL_law_5 : List UInt8 := [4, 96, 46, 42, 29, 5, 96, 46, 182, 0, 21, 167, 0, 85, 43, 42, 29, 4, 96, 46, 182, 0, 22, 44]
abbrev dktL_law_5 : List UInt8 := dkwL_law_5 ++ dktL_law_6
def dkwL_law_4 : List UInt8 := [46, 182, 0, 17, 167, 0, 116, 43, 42, 29, 4, 96, 46, 42, 29, 5, 96, 46, 182, 0, 18, 44, 42, 29]
abbrev dktL_law_4 : List UInt8 := dkwL_law_4 ++ dktL_law_5
def dkwL_law_3 : List UInt8 := [43, 42, 29, 4, 96, 46, 42, 29, 5, 96, 46, 182, 0, 13, 44, 42, 29, 4, 96, 46, 42, 29, 5, 96]
abbrev dktL_law_3 : List UInt8 := dkwL_law_3 ++ dktL_law_4
def dkwL_law_2 : List UInt8 := [170, 0, 0, 0, 0, 0, 187, 0, 0, 0, 0, 0, 0, 0, 6, 0, 0, 0, 43, 0, 0, 0, 74, 0, 0, 0, 105, 0, 0, 0, 126, 0, 0, 0, 137, 0, 0, 0, 160, 0, 0, 0, 173]
abbrev dktL_law_2 : List UInt8 := dkwL_law_2 ++ dktL_law_3
def dkwL_law_1 : List UInt8 := [163, 0, 202, 42, 29, 46, 16, 7, 126]
abbrev dktL_law_1 : List UInt8 := dkwL_law_1 ++ dktL_law_2
def dkwL_law_0 : List UInt8 := [187, 0, 7, 89, 183, 0, 9, 76, 187, 0, 10, 89, 183, 0, 12, 77, 3, 62, 29, 42, 190, 16, 6, 100]
abbrev dktL_law_0 : List UInt8 := dkwL_law_0 ++ dktL_law_1
theorem dksL_law_0 : cL_law.data.toList.drop 0 = dktL_law_0 := by decide +kernel
theorem dksL_law_1 : cL_law.data.toList.drop 24 = dktL_law_1 := dk_seg dksL_law_0 24 rfl rfl
theorem dksL_law_2 : cL_law.data.toList.drop 33 = dktL_law_2 := dk_seg dksL_law_1 9 rfl rfl
theorem dksL_law_3 : cL_law.data.toList.drop 76 = dktL_law_3 := dk_seg dksL_law_2 43 rfl rfl
theorem dksL_law_4 : cL_law.data.toList.drop 100 = dktL_law_4 := dk_seg dksL_law_3 24 rfl rfl
theorem dksL_law_5 : cL_law.data.toList.drop 124 = dktL_law_5 := dk_seg dksL_law_4 24 rfl rfl
theorem dksL_law_6 : cL_law.data.toList.drop 148 = dktL_law_6 := dk_seg dksL_law_5 24 rfl rfl
theorem dksL_law_7 : cL_law.data.toList.drop 172 = dktL_law_7 := dk_seg dksL_law_6 24 rfl rfl
theorem dksL_law_8 : cL_law.data.toList.drop 194 = dktL_law_8 := dk_seg dksL_law_7 22 rfl rfl
theorem dksL_law_9 : cL_law.data.toList.drop 218 = dktL_law_9 := dk_seg dksL_law_8 24 rfl rfl
theorem dL_law_0 : decode cL_law 0 = .ok (.new 7, 3) := dk_187 0 7 (dk_at dksL_law_0 0 rfl rfl)
theorem dL_law_3 : decode cL_law 3 = .ok (.dup, 1) := dk_89 (dk_at dksL_law_0 3 rfl rfl)
theorem dL_law_4 : decode cL_law 4 = .ok (.invokespecial 9, 3) := dk_183 0 9 (dk_at dksL_law_0 4 rfl rfl)
theorem dL_law_7 : decode cL_law 7 = .ok (.astore_n 1, 1) := dk_76 (dk_at dksL_law_0 7 rfl rfl)
theorem dL_law_8 : decode cL_law 8 = .ok (.new 10, 3) := dk_187 0 10 (dk_at dksL_law_0 8 rfl rfl)
theorem dL_law_11 : decode cL_law 11 = .ok (.dup, 1) := dk_89 (dk_at dksL_law_0 11 rfl rfl)
theorem dL_law_12 : decode cL_law 12 = .ok (.invokespecial 12, 3) := dk_183 0 12 (dk_at dksL_law_0 12 rfl rfl)
theorem dL_law_15 : decode cL_law 15 = .ok (.astore_n 2, 1) := dk_77 (dk_at dksL_law_0 15 rfl rfl)
theorem dL_law_16 : decode cL_law 16 = .ok (.iconst 0, 1) := dk_3 (dk_at dksL_law_0 16 rfl rfl)
theorem dL_law_17 : decode cL_law 17 = .ok (.istore_n 3, 1) := dk_62 (dk_at dksL_law_0 17 rfl rfl)
theorem dL_law_18 : decode cL_law 18 = .ok (.iload_n 3, 1) := dk_29 (dk_at dksL_law_0 18 rfl rfl)
theorem dL_law_19 : decode cL_law 19 = .ok (.aload_n 0, 1) := dk_42 (dk_at dksL_law_0 19 rfl rfl)
theorem dL_law_20 : decode cL_law 20 = .ok (.arraylength, 1) := dk_190 (dk_at dksL_law_0 20 rfl rfl)
theorem dL_law_21 : decode cL_law 21 = .ok (.bipush 6, 2) := dk_16 6 (dk_at dksL_law_0 21 rfl rfl)
theorem dL_law_23 : decode cL_law 23 = .ok (.isub, 1) := dk_100 (dk_at dksL_law_0 23 rfl rfl)
theorem dL_law_24 : decode cL_law 24 = .ok (.if_icmp .gt 202, 3) := dk_163 0 202 (dk_at dksL_law_1 0 rfl rfl)
theorem dL_law_27 : decode cL_law 27 = .ok (.aload_n 0, 1) := dk_42 (dk_at dksL_law_1 3 rfl rfl)
theorem dL_law_28 : decode cL_law 28 = .ok (.iload_n 3, 1) := dk_29 (dk_at dksL_law_1 4 rfl rfl)
theorem dL_law_29 : decode cL_law 29 = .ok (.iaload, 1) := dk_46 (dk_at dksL_law_1 5 rfl rfl)
theorem dL_law_30 : decode cL_law 30 = .ok (.bipush 7, 2) := dk_16 7 (dk_at dksL_law_1 6 rfl rfl)
theorem dL_law_32 : decode cL_law 32 = .ok (.iand, 1) := dk_126 (dk_at dksL_law_1 8 rfl rfl)
theorem dL_law_33 : decode cL_law 33 = .ok (.tableswitch 187 0 6 #[43, 74, 105, 126, 137, 160, 173], 43) := by decide +kernel
theorem dL_law_76 : decode cL_law 76 = .ok (.aload_n 1, 1) := dk_43 (dk_at dksL_law_3 0 rfl rfl)
theorem dL_law_77 : decode cL_law 77 = .ok (.aload_n 0, 1) := dk_42 (dk_at dksL_law_3 1 rfl rfl)
theorem dL_law_78 : decode cL_law 78 = .ok (.iload_n 3, 1) := dk_29 (dk_at dksL_law_3 2 rfl rfl)
theorem dL_law_79 : decode cL_law 79 = .ok (.iconst 1, 1) := dk_4 (dk_at dksL_law_3 3 rfl rfl)
theorem dL_law_80 : decode cL_law 80 = .ok (.iadd, 1) := dk_96 (dk_at dksL_law_3 4 rfl rfl)
theorem dL_law_81 : decode cL_law 81 = .ok (.iaload, 1) := dk_46 (dk_at dksL_law_3 5 rfl rfl)
theorem dL_law_82 : decode cL_law 82 = .ok (.aload_n 0, 1) := dk_42 (dk_at dksL_law_3 6 rfl rfl)
theorem dL_law_83 : decode cL_law 83 = .ok (.iload_n 3, 1) := dk_29 (dk_at dksL_law_3 7 rfl rfl)
theorem dL_law_84 : decode cL_law 84 = .ok (.iconst 2, 1) := dk_5 (dk_at dksL_law_3 8 rfl rfl)
theorem dL_law_85 : decode cL_law 85 = .ok (.iadd, 1) := dk_96 (dk_at dksL_law_3 9 rfl rfl)
theorem dL_law_86 : decode cL_law 86 = .ok (.iaload, 1) := dk_46 (dk_at dksL_law_3 10 rfl rfl)
theorem dL_law_87 : decode cL_law 87 = .ok (.invokevirtual 13, 3) := dk_182 0 13 (dk_at dksL_law_3 11 rfl rfl)
theorem dL_law_90 : decode cL_law 90 = .ok (.aload_n 2, 1) := dk_44 (dk_at dksL_law_3 14 rfl rfl)
theorem dL_law_91 : decode cL_law 91 = .ok (.aload_n 0, 1) := dk_42 (dk_at dksL_law_3 15 rfl rfl)
theorem dL_law_92 : decode cL_law 92 = .ok (.iload_n 3, 1) := dk_29 (dk_at dksL_law_3 16 rfl rfl)
theorem dL_law_93 : decode cL_law 93 = .ok (.iconst 1, 1) := dk_4 (dk_at dksL_law_3 17 rfl rfl)
theorem dL_law_94 : decode cL_law 94 = .ok (.iadd, 1) := dk_96 (dk_at dksL_law_3 18 rfl rfl)
theorem dL_law_95 : decode cL_law 95 = .ok (.iaload, 1) := dk_46 (dk_at dksL_law_3 19 rfl rfl)
theorem dL_law_96 : decode cL_law 96 = .ok (.aload_n 0, 1) := dk_42 (dk_at dksL_law_3 20 rfl rfl)
theorem dL_law_97 : decode cL_law 97 = .ok (.iload_n 3, 1) := dk_29 (dk_at dksL_law_3 21 rfl rfl)
theorem dL_law_98 : decode cL_law 98 = .ok (.iconst 2, 1) := dk_5 (dk_at dksL_law_3 22 rfl rfl)
theorem dL_law_99 : decode cL_law 99 = .ok (.iadd, 1) := dk_96 (dk_at dksL_law_3 23 rfl rfl)
theorem dL_law_100 : decode cL_law 100 = .ok (.iaload, 1) := dk_46 (dk_at dksL_law_4 0 rfl rfl)
theorem dL_law_101 : decode cL_law 101 = .ok (.invokevirtual 17, 3) := dk_182 0 17 (dk_at dksL_law_4 1 rfl rfl)
theorem dL_law_104 : decode cL_law 104 = .ok (.goto 116, 3) := dk_167 0 116 (dk_at dksL_law_4 4 rfl rfl)
theorem dL_law_107 : decode cL_law 107 = .ok (.aload_n 1, 1) := dk_43 (dk_at dksL_law_4 7 rfl rfl)
theorem dL_law_108 : decode cL_law 108 = .ok (.aload_n 0, 1) := dk_42 (dk_at dksL_law_4 8 rfl rfl)
theorem dL_law_109 : decode cL_law 109 = .ok (.iload_n 3, 1) := dk_29 (dk_at dksL_law_4 9 rfl rfl)
theorem dL_law_110 : decode cL_law 110 = .ok (.iconst 1, 1) := dk_4 (dk_at dksL_law_4 10 rfl rfl)
theorem dL_law_111 : decode cL_law 111 = .ok (.iadd, 1) := dk_96 (dk_at dksL_law_4 11 rfl rfl)
theorem dL_law_112 : decode cL_law 112 = .ok (.iaload, 1) := dk_46 (dk_at dksL_law_4 12 rfl rfl)
theorem dL_law_113 : decode cL_law 113 = .ok (.aload_n 0, 1) := dk_42 (dk_at dksL_law_4 13 rfl rfl)
theorem dL_law_114 : decode cL_law 114 = .ok (.iload_n 3, 1) := dk_29 (dk_at dksL_law_4 14 rfl rfl)
theorem dL_law_115 : decode cL_law 115 = .ok (.iconst 2, 1) := dk_5 (dk_at dksL_law_4 15 rfl rfl)
theorem dL_law_116 : decode cL_law 116 = .ok (.iadd, 1) := dk_96 (dk_at dksL_law_4 16 rfl rfl)
theorem dL_law_117 : decode cL_law 117 = .ok (.iaload, 1) := dk_46 (dk_at dksL_law_4 17 rfl rfl)
theorem dL_law_118 : decode cL_law 118 = .ok (.invokevirtual 18, 3) := dk_182 0 18 (dk_at dksL_law_4 18 rfl rfl)
theorem dL_law_121 : decode cL_law 121 = .ok (.aload_n 2, 1) := dk_44 (dk_at dksL_law_4 21 rfl rfl)
theorem dL_law_122 : decode cL_law 122 = .ok (.aload_n 0, 1) := dk_42 (dk_at dksL_law_4 22 rfl rfl)
theorem dL_law_123 : decode cL_law 123 = .ok (.iload_n 3, 1) := dk_29 (dk_at dksL_law_4 23 rfl rfl)
theorem dL_law_124 : decode cL_law 124 = .ok (.iconst 1, 1) := dk_4 (dk_at dksL_law_5 0 rfl rfl)
theorem dL_law_125 : decode cL_law 125 = .ok (.iadd, 1) := dk_96 (dk_at dksL_law_5 1 rfl rfl)
theorem dL_law_126 : decode cL_law 126 = .ok (.iaload, 1) := dk_46 (dk_at dksL_law_5 2 rfl rfl)
theorem dL_law_127 : decode cL_law 127 = .ok (.aload_n 0, 1) := dk_42 (dk_at dksL_law_5 3 rfl rfl)
theorem dL_law_128 : decode cL_law 128 = .ok (.iload_n 3, 1) := dk_29 (dk_at dksL_law_5 4 rfl rfl)
theorem dL_law_129 : decode cL_law 129 = .ok (.iconst 2, 1) := dk_5 (dk_at dksL_law_5 5 rfl rfl)
theorem dL_law_130 : decode cL_law 130 = .ok (.iadd, 1) := dk_96 (dk_at dksL_law_5 6 rfl rfl)
theorem dL_law_131 : decode cL_law 131 = .ok (.iaload, 1) := dk_46 (dk_at dksL_law_5 7 rfl rfl)
theorem dL_law_132 : decode cL_law 132 = .ok (.invokevirtual 21, 3) := dk_182 0 21 (dk_at dksL_law_5 8 rfl rfl)
theorem dL_law_135 : decode cL_law 135 = .ok (.goto 85, 3) := dk_167 0 85 (dk_at dksL_law_5 11 rfl rfl)
theorem dL_law_138 : decode cL_law 138 = .ok (.aload_n 1, 1) := dk_43 (dk_at dksL_law_5 14 rfl rfl)
theorem dL_law_139 : decode cL_law 139 = .ok (.aload_n 0, 1) := dk_42 (dk_at dksL_law_5 15 rfl rfl)
theorem dL_law_140 : decode cL_law 140 = .ok (.iload_n 3, 1) := dk_29 (dk_at dksL_law_5 16 rfl rfl)
theorem dL_law_141 : decode cL_law 141 = .ok (.iconst 1, 1) := dk_4 (dk_at dksL_law_5 17 rfl rfl)
theorem dL_law_142 : decode cL_law 142 = .ok (.iadd, 1) := dk_96 (dk_at dksL_law_5 18 rfl rfl)
theorem dL_law_143 : decode cL_law 143 = .ok (.iaload, 1) := dk_46 (dk_at dksL_law_5 19 rfl rfl)
theorem dL_law_144 : decode cL_law 144 = .ok (.invokevirtual 22, 3) := dk_182 0 22 (dk_at dksL_law_5 20 rfl rfl)
theorem dL_law_147 : decode cL_law 147 = .ok (.aload_n 2, 1) := dk_44 (dk_at dksL_law_5 23 rfl rfl)
theorem dL_law_148 : decode cL_law 148 = .ok (.aload_n 0, 1) := dk_42 (dk_at dksL_law_6 0 rfl rfl)
theorem dL_law_149 : decode cL_law 149 = .ok (.iload_n 3, 1) := dk_29 (dk_at dksL_law_6 1 rfl rfl)
theorem dL_law_150 : decode cL_law 150 = .ok (.iconst 1, 1) := dk_4 (dk_at dksL_law_6 2 rfl rfl)
theorem dL_law_151 : decode cL_law 151 = .ok (.iadd, 1) := dk_96 (dk_at dksL_law_6 3 rfl rfl)
theorem dL_law_152 : decode cL_law 152 = .ok (.iaload, 1) := dk_46 (dk_at dksL_law_6 4 rfl rfl)
theorem dL_law_153 : decode cL_law 153 = .ok (.invokevirtual 26, 3) := dk_182 0 26 (dk_at dksL_law_6 5 rfl rfl)
theorem dL_law_156 : decode cL_law 156 = .ok (.goto 64, 3) := dk_167 0 64 (dk_at dksL_law_6 8 rfl rfl)
theorem dL_law_159 : decode cL_law 159 = .ok (.aload_n 1, 1) := dk_43 (dk_at dksL_law_6 11 rfl rfl)
theorem dL_law_160 : decode cL_law 160 = .ok (.invokevirtual 27, 3) := dk_182 0 27 (dk_at dksL_law_6 12 rfl rfl)
theorem dL_law_163 : decode cL_law 163 = .ok (.aload_n 2, 1) := dk_44 (dk_at dksL_law_6 15 rfl rfl)
theorem dL_law_164 : decode cL_law 164 = .ok (.invokevirtual 30, 3) := dk_182 0 30 (dk_at dksL_law_6 16 rfl rfl)
theorem dL_law_167 : decode cL_law 167 = .ok (.goto 53, 3) := dk_167 0 53 (dk_at dksL_law_6 19 rfl rfl)
theorem dL_law_170 : decode cL_law 170 = .ok (.aload_n 1, 1) := dk_43 (dk_at dksL_law_6 22 rfl rfl)
theorem dL_law_171 : decode cL_law 171 = .ok (.aload_n 0, 1) := dk_42 (dk_at dksL_law_6 23 rfl rfl)
theorem dL_law_172 : decode cL_law 172 = .ok (.iload_n 3, 1) := dk_29 (dk_at dksL_law_7 0 rfl rfl)
theorem dL_law_173 : decode cL_law 173 = .ok (.iconst 1, 1) := dk_4 (dk_at dksL_law_7 1 rfl rfl)
theorem dL_law_174 : decode cL_law 174 = .ok (.iadd, 1) := dk_96 (dk_at dksL_law_7 2 rfl rfl)
theorem dL_law_175 : decode cL_law 175 = .ok (.iaload, 1) := dk_46 (dk_at dksL_law_7 3 rfl rfl)
theorem dL_law_176 : decode cL_law 176 = .ok (.invokevirtual 31, 3) := dk_182 0 31 (dk_at dksL_law_7 4 rfl rfl)
theorem dL_law_179 : decode cL_law 179 = .ok (.aload_n 2, 1) := dk_44 (dk_at dksL_law_7 7 rfl rfl)
theorem dL_law_180 : decode cL_law 180 = .ok (.aload_n 0, 1) := dk_42 (dk_at dksL_law_7 8 rfl rfl)
theorem dL_law_181 : decode cL_law 181 = .ok (.iload_n 3, 1) := dk_29 (dk_at dksL_law_7 9 rfl rfl)
theorem dL_law_182 : decode cL_law 182 = .ok (.iconst 1, 1) := dk_4 (dk_at dksL_law_7 10 rfl rfl)
theorem dL_law_183 : decode cL_law 183 = .ok (.iadd, 1) := dk_96 (dk_at dksL_law_7 11 rfl rfl)
theorem dL_law_184 : decode cL_law 184 = .ok (.iaload, 1) := dk_46 (dk_at dksL_law_7 12 rfl rfl)
theorem dL_law_185 : decode cL_law 185 = .ok (.invokevirtual 35, 3) := dk_182 0 35 (dk_at dksL_law_7 13 rfl rfl)
theorem dL_law_188 : decode cL_law 188 = .ok (.if_icmp .eq 32, 3) := dk_159 0 32 (dk_at dksL_law_7 16 rfl rfl)
theorem dL_law_191 : decode cL_law 191 = .ok (.iconst 0, 1) := dk_3 (dk_at dksL_law_7 19 rfl rfl)
theorem dL_law_192 : decode cL_law 192 = .ok (.ireturn, 1) := dk_172 (dk_at dksL_law_7 20 rfl rfl)
theorem dL_law_193 : decode cL_law 193 = .ok (.aload_n 1, 1) := dk_43 (dk_at dksL_law_7 21 rfl rfl)
theorem dL_law_194 : decode cL_law 194 = .ok (.invokevirtual 36, 3) := dk_182 0 36 (dk_at dksL_law_8 0 rfl rfl)
theorem dL_law_197 : decode cL_law 197 = .ok (.aload_n 2, 1) := dk_44 (dk_at dksL_law_8 3 rfl rfl)
theorem dL_law_198 : decode cL_law 198 = .ok (.invokevirtual 39, 3) := dk_182 0 39 (dk_at dksL_law_8 4 rfl rfl)
theorem dL_law_201 : decode cL_law 201 = .ok (.if_icmp .eq 19, 3) := dk_159 0 19 (dk_at dksL_law_8 7 rfl rfl)
theorem dL_law_204 : decode cL_law 204 = .ok (.iconst 0, 1) := dk_3 (dk_at dksL_law_8 10 rfl rfl)
theorem dL_law_205 : decode cL_law 205 = .ok (.ireturn, 1) := dk_172 (dk_at dksL_law_8 11 rfl rfl)
theorem dL_law_206 : decode cL_law 206 = .ok (.aload_n 1, 1) := dk_43 (dk_at dksL_law_8 12 rfl rfl)
theorem dL_law_207 : decode cL_law 207 = .ok (.invokevirtual 40, 3) := dk_182 0 40 (dk_at dksL_law_8 13 rfl rfl)
theorem dL_law_210 : decode cL_law 210 = .ok (.aload_n 2, 1) := dk_44 (dk_at dksL_law_8 16 rfl rfl)
theorem dL_law_211 : decode cL_law 211 = .ok (.invokevirtual 44, 3) := dk_182 0 44 (dk_at dksL_law_8 17 rfl rfl)
theorem dL_law_214 : decode cL_law 214 = .ok (.lcmp, 1) := dk_148 (dk_at dksL_law_8 20 rfl rfl)
theorem dL_law_215 : decode cL_law 215 = .ok (.ifCond .eq 5, 3) := dk_153 0 5 (dk_at dksL_law_8 21 rfl rfl)
theorem dL_law_218 : decode cL_law 218 = .ok (.iconst 0, 1) := dk_3 (dk_at dksL_law_9 0 rfl rfl)
theorem dL_law_219 : decode cL_law 219 = .ok (.ireturn, 1) := dk_172 (dk_at dksL_law_9 1 rfl rfl)
theorem dL_law_220 : decode cL_law 220 = .ok (.iinc 3 6, 3) := dk_132 3 6 (dk_at dksL_law_9 2 rfl rfl)
theorem dL_law_223 : decode cL_law 223 = .ok (.goto (-205), 3) := dk_167 255 51 (dk_at dksL_law_9 5 rfl rfl)
theorem dL_law_226 : decode cL_law 226 = .ok (.iconst 1, 1) := dk_4 (dk_at dksL_law_9 8 rfl rfl)
theorem dL_law_227 : decode cL_law 227 = .ok (.ireturn, 1) := dk_172 (dk_at dksL_law_9 9 rfl rfl)
theorem q0 : (Jvm.Cond.initialized "NetworkSortLaw") ∈ lw_all := lw_g (lw_at lw_m0 0 rfl) rfl
set_option maxRecDepth 100000
theorem q4 : (Jvm.Cond.classLink "NetworkSortLaw" (7 : Nat) "NetworkSort") ∈ lw_all := lw_g (lw_at lw_m0 4 rfl) rfl
theorem q6 : (Jvm.Cond.methodLink "NetworkSortLaw" (9 : Nat) ({ cls := "NetworkSort", name := "<init>", desc := "()V" } : Jvm.MethodName)) ∈ lw_all := lw_g (lw_at lw_m0 6 rfl) rfl
theorem q20 : (Jvm.Cond.methodLink "NetworkSortLaw" (13 : Nat) ({ cls := "NetworkSort", name := "set", desc := "(II)V" } : Jvm.MethodName)) ∈ lw_all := lw_g (lw_at lw_m0 20 rfl) rfl
theorem q25 : (Jvm.Cond.methodLink "NetworkSortLaw" (18 : Nat) ({ cls := "NetworkSort", name := "fill", desc := "(II)V" } : Jvm.MethodName)) ∈ lw_all := lw_g (lw_at lw_m0 25 rfl) rfl
theorem q29 : (Jvm.Cond.methodLink "NetworkSortLaw" (22 : Nat) ({ cls := "NetworkSort", name := "length", desc := "(I)V" } : Jvm.MethodName)) ∈ lw_all := lw_g (lw_at lw_m0 29 rfl) rfl
theorem q34 : (Jvm.Cond.methodLink "NetworkSortLaw" (27 : Nat) ({ cls := "NetworkSort", name := "sort", desc := "()V" } : Jvm.MethodName)) ∈ lw_all := lw_g (lw_at lw_m0 34 rfl) rfl
theorem q45 : (Jvm.Cond.methodLink "NetworkSortLaw" (31 : Nat) ({ cls := "NetworkSort", name := "get", desc := "(I)I" } : Jvm.MethodName)) ∈ lw_all := lw_g (lw_at lw_m0 45 rfl) rfl
theorem q49 : (Jvm.Cond.methodLink "NetworkSortLaw" (36 : Nat) ({ cls := "NetworkSort", name := "length", desc := "()I" } : Jvm.MethodName)) ∈ lw_all := lw_g (lw_at lw_m0 49 rfl) rfl
theorem q53 : (Jvm.Cond.methodLink "NetworkSortLaw" (40 : Nat) ({ cls := "NetworkSort", name := "sum", desc := "()J" } : Jvm.MethodName)) ∈ lw_all := lw_g (lw_at lw_m0 53 rfl) rfl
theorem q58 : (Jvm.Cond.classLink "NetworkSortLaw" (10 : Nat) "NetworkSortModel") ∈ lw_all := lw_g (lw_at lw_m0 58 rfl) rfl
theorem q60 : (Jvm.Cond.methodLink "NetworkSortLaw" (12 : Nat) ({ cls := "NetworkSortModel", name := "<init>", desc := "()V" } : Jvm.MethodName)) ∈ lw_all := lw_g (lw_at lw_m0 60 rfl) rfl
theorem q71 : (Jvm.Cond.methodLink "NetworkSortLaw" (17 : Nat) ({ cls := "NetworkSortModel", name := "set", desc := "(II)V" } : Jvm.MethodName)) ∈ lw_all := lw_g (lw_at lw_m0 71 rfl) rfl
theorem q76 : (Jvm.Cond.methodLink "NetworkSortLaw" (21 : Nat) ({ cls := "NetworkSortModel", name := "fill", desc := "(II)V" } : Jvm.MethodName)) ∈ lw_all := lw_g (lw_at lw_m0 76 rfl) rfl
theorem q80 : (Jvm.Cond.methodLink "NetworkSortLaw" (26 : Nat) ({ cls := "NetworkSortModel", name := "length", desc := "(I)V" } : Jvm.MethodName)) ∈ lw_all := lw_g (lw_at lw_m0 80 rfl) rfl
theorem q85 : (Jvm.Cond.methodLink "NetworkSortLaw" (30 : Nat) ({ cls := "NetworkSortModel", name := "sort", desc := "()V" } : Jvm.MethodName)) ∈ lw_all := lw_g (lw_at lw_m0 85 rfl) rfl
theorem q89 : (Jvm.Cond.methodLink "NetworkSortLaw" (35 : Nat) ({ cls := "NetworkSortModel", name := "get", desc := "(I)I" } : Jvm.MethodName)) ∈ lw_all := lw_g (lw_at lw_m0 89 rfl) rfl
theorem q93 : (Jvm.Cond.methodLink "NetworkSortLaw" (39 : Nat) ({ cls := "NetworkSortModel", name := "length", desc := "()I" } : Jvm.MethodName)) ∈ lw_all := lw_g (lw_at lw_m0 93 rfl) rfl
theorem q97 : (Jvm.Cond.methodLink "NetworkSortLaw" (44 : Nat) ({ cls := "NetworkSortModel", name := "sum", desc := "()J" } : Jvm.MethodName)) ∈ lw_all := lw_g (lw_at lw_m0 97 rfl) rfl
theorem q19 : (Jvm.Cond.arrayClass Jvm.ClassFile.FieldType.int) ∈ lw_all := lw_g (lw_at lw_m0 19 rfl) rfl
set_option maxRecDepth 100000
/-! the law's two classes, numbered -/
abbrev vwCl : List vw_C := [(RX0, TX0, 2), (RX1, TX1, 2)]
end
section
/-! PURE LAWS, no program in sight: a row of ints as a function of its places; comparators, counts, sortedness; Batcher's merge exchange for any length; insertion sort -/
def ns_mn (a b : Int32) : Int32 := if b < a then b else a
def ns_mx (a b : Int32) : Int32 := if b < a then a else b
theorem ns_mn_l (a b : Int32) : ns_mn a b ≤ a := by
  unfold ns_mn
  split
  · next h => exact Int32.le_of_lt h
  · exact Int32.le_refl a
theorem ns_mn_r (a b : Int32) : ns_mn a b ≤ b := by
  unfold ns_mn
  split
  · exact Int32.le_refl b
  · next h => exact Int32.not_lt.mp h
theorem ns_mx_l (a b : Int32) : a ≤ ns_mx a b := by
  unfold ns_mx
  split
  · exact Int32.le_refl a
  · next h => exact Int32.not_lt.mp h
theorem ns_mx_r (a b : Int32) : b ≤ ns_mx a b := by
  unfold ns_mx
  split
  · next h => exact Int32.le_of_lt h
  · exact Int32.le_refl b
theorem ns_mn_ge {a b c : Int32} (h1 : c ≤ a) (h2 : c ≤ b) : c ≤ ns_mn a b := by
  unfold ns_mn
  split
  · exact h2
  · exact h1
theorem ns_mx_le {a b c : Int32} (h1 : a ≤ c) (h2 : b ≤ c) : ns_mx a b ≤ c := by
  unfold ns_mx
  split
  · exact h1
  · exact h2
theorem ns_mn_mx (a b : Int32) : ns_mn a b ≤ ns_mx a b := Int32.le_trans (ns_mn_l a b) (ns_mx_l a b)
theorem ns_or (a b : Int32) : (ns_mn a b = a ∧ ns_mx a b = b) ∨ (ns_mn a b = b ∧ ns_mx a b = a) := by
  unfold ns_mn ns_mx
  split
  · exact Or.inr ⟨rfl, rfl⟩
  · exact Or.inl ⟨rfl, rfl⟩
/-- the comparator: the lesser to the place x, the greater to y -/
def ns_cx (f : Nat → Int32) (x y : Nat) : Nat → Int32 := upd (upd f x (ns_mn (f x) (f y))) y (ns_mx (f x) (f y))
theorem ns_cx_y (f : Nat → Int32) (x y : Nat) : ns_cx f x y y = ns_mx (f x) (f y) := by simp [ns_cx, upd]
theorem ns_cx_x {f : Nat → Int32} {x y : Nat} (h : x ≠ y) : ns_cx f x y x = ns_mn (f x) (f y) := by simp [ns_cx, upd, h]
theorem ns_cx_n {f : Nat → Int32} {x y j : Nat} (h1 : j ≠ x) (h2 : j ≠ y) : ns_cx f x y j = f j := by simp [ns_cx, upd, h1, h2]
/-! how often a value stands among the first n -/
def ns_cnt (v : Int32) (f : Nat → Int32) : Nat → Nat
  | 0 => 0
  | n + 1 => ns_cnt v f n + (if f n = v then 1 else 0)
theorem ns_cnt_congr {v : Int32} {f g : Nat → Int32} : ∀ {n : Nat}, (∀ j, j < n → f j = g j) → ns_cnt v f n = ns_cnt v g n := by
  intro n
  induction n with
  | zero => intro _; rfl
  | succ n ih =>
    intro h
    simp only [ns_cnt]
    rw [ih (fun j hj => h j (by omega)), h n (by omega)]
theorem ns_cnt_upd {v : Int32} {f : Nat → Int32} {i : Nat} {x : Int32} : ∀ {n : Nat}, i < n → ns_cnt v (upd f i x) n + (if f i = v then 1 else 0) = ns_cnt v f n + (if x = v then 1 else 0) := by
  intro n
  induction n with
  | zero => intro h; omega
  | succ n ih =>
    intro h
    simp only [ns_cnt]
    by_cases hi : i = n
    · subst hi
      have e1 : ns_cnt v (upd f i x) i = ns_cnt v f i := ns_cnt_congr (fun j hj => by simp [upd, Nat.ne_of_lt hj])
      have e2 : upd f i x i = x := by simp [upd]
      rw [e1, e2]
      omega
    · have e2 : upd f i x n = f n := by simp [upd, Ne.symm hi]
      have := ih (by omega)
      rw [e2]
      omega
theorem ns_cnt_swap {v : Int32} {f : Nat → Int32} {i j n : Nat} (hi : i < n) (hj : j < n) (hij : i ≠ j) {a b : Int32} (h : (a = f i ∧ b = f j) ∨ (a = f j ∧ b = f i)) : ns_cnt v (upd (upd f i a) j b) n = ns_cnt v f n := by
  have h1 := ns_cnt_upd (v := v) (f := f) (x := a) hi
  have h2 := ns_cnt_upd (v := v) (f := upd f i a) (x := b) hj
  have h3 : upd f i a j = f j := by simp [upd, Ne.symm hij]
  rw [h3] at h2
  rcases h with ⟨ha, hb⟩ | ⟨ha, hb⟩
  · rw [ha] at h1 h2 ⊢
    rw [hb] at h2 ⊢
    omega
  · rw [ha] at h1 h2 ⊢
    rw [hb] at h2 ⊢
    omega
theorem ns_cx_cnt {v : Int32} {f : Nat → Int32} {x y n : Nat} (hx : x < n) (hy : y < n) (h : x ≠ y) : ns_cnt v (ns_cx f x y) n = ns_cnt v f n := by
  unfold ns_cx
  exact ns_cnt_swap hx hy h (by
    rcases ns_or (f x) (f y) with ⟨h1, h2⟩ | ⟨h1, h2⟩
    · exact Or.inl ⟨h1, h2⟩
    · exact Or.inr ⟨h1, h2⟩)
theorem ns_cnt_pos {f : Nat → Int32} {j : Nat} : ∀ {n : Nat}, j < n → 0 < ns_cnt (f j) f n := by
  intro n
  induction n with
  | zero => intro h; omega
  | succ n ih =>
    intro h
    simp only [ns_cnt]
    by_cases e : j = n
    · subst e
      simp
    · have := ih (by omega)
      omega
theorem ns_cnt_ex {v : Int32} {f : Nat → Int32} : ∀ {n : Nat}, 0 < ns_cnt v f n → ∃ j, j < n ∧ f j = v := by
  intro n
  induction n with
  | zero => intro h; simp [ns_cnt] at h
  | succ n ih =>
    intro h
    simp only [ns_cnt] at h
    by_cases e : f n = v
    · exact ⟨n, by omega, e⟩
    · rw [if_neg e] at h
      obtain ⟨j, h1, h2⟩ := ih (by omega)
      exact ⟨j, by omega, h2⟩
/-- the first n are in ascending order -/
def ns_Srt (n : Nat) (f : Nat → Int32) : Prop := ∀ i j, i ≤ j → j < n → f i ≤ f j
theorem ns_uniq : ∀ (n : Nat) (f g : Nat → Int32), ns_Srt n f → ns_Srt n g → (∀ v, ns_cnt v f n = ns_cnt v g n) → ∀ j, j < n → f j = g j := by
  intro n
  induction n with
  | zero => intro f g _ _ _ j hj; omega
  | succ n ih =>
    intro f g hf hg hc j hj
    have e : f n = g n := by
      have p1 := ns_cnt_pos (f := f) (j := n) (n := n + 1) (by omega)
      rw [hc] at p1
      obtain ⟨a, ha, ea⟩ := ns_cnt_ex p1
      have p2 := ns_cnt_pos (f := g) (j := n) (n := n + 1) (by omega)
      rw [← hc] at p2
      obtain ⟨b, hb, eb⟩ := ns_cnt_ex p2
      have l1 : f n ≤ g n := by rw [← ea]; exact hg a n (by omega) (by omega)
      have l2 : g n ≤ f n := by rw [← eb]; exact hf b n (by omega) (by omega)
      exact Int32.le_antisymm l1 l2
    by_cases hjn : j = n
    · rw [hjn]; exact e
    · refine ih f g (fun a b h1 h2 => hf a b h1 (by omega)) (fun a b h1 h2 => hg a b h1 (by omega)) (fun v => ?_) j (by omega)
      have := hc v
      simp only [ns_cnt] at this
      rw [e] at this
      omega
/-- g is f with its first n in ascending order -/
def ns_Of (n : Nat) (f g : Nat → Int32) : Prop := ns_Srt n g ∧ (∀ v, ns_cnt v g n = ns_cnt v f n) ∧ ∀ j, n ≤ j → g j = f j
theorem ns_Of_uniq {n : Nat} {f g g' : Nat → Int32} (h : ns_Of n f g) (h' : ns_Of n f g') : g = g' := by
  funext j
  rcases Nat.lt_or_ge j n with q | q
  · exact ns_uniq n g g' h.1 h'.1 (fun v => (h.2.1 v).trans (h'.2.1 v).symm) j q
  · exact (h.2.2 j q).trans (h'.2.2 j q).symm
/-- no value is negative -/
def ns_Nn (f : Nat → Int32) : Prop := ∀ j, (0 : Int32) ≤ f j
theorem ns_Of_Nn {n : Nat} {f g : Nat → Int32} (h : ns_Of n f g) (hf : ns_Nn f) : ns_Nn g := by
  intro j
  rcases Nat.lt_or_ge j n with q | q
  · have p := ns_cnt_pos (f := g) q
    rw [h.2.1] at p
    obtain ⟨i, -, e⟩ := ns_cnt_ex p
    rw [← e]
    exact hf i
  · rw [h.2.2 j q]
    exact hf j
theorem ns_upd_Nn {f : Nat → Int32} {k : Nat} {x : Int32} (hf : ns_Nn f) (hx : (0 : Int32) ≤ x) : ns_Nn (upd f k x) := by
  intro j
  unfold upd
  split
  · exact hx
  · exact hf j
theorem ns_cx_Nn {f : Nat → Int32} {x y : Nat} (hf : ns_Nn f) : ns_Nn (ns_cx f x y) :=
  ns_upd_Nn (ns_upd_Nn hf (ns_mn_ge (hf x) (hf y))) (Int32.le_trans (hf x) (ns_mx_l _ _))
/-- what every step of the network keeps -/
def ns_I (n : Nat) (f0 f : Nat → Int32) : Prop := (∀ v, ns_cnt v f n = ns_cnt v f0 n) ∧ (∀ j, n ≤ j → f j = f0 j) ∧ ns_Nn f
theorem ns_I_rf {n : Nat} {f : Nat → Int32} (h : ns_Nn f) : ns_I n f f := ⟨fun _ => rfl, fun _ _ => rfl, h⟩
theorem ns_I_cx {n : Nat} {f0 f : Nat → Int32} {x y : Nat} (h : ns_I n f0 f) (hx : x < n) (hy : y < n) (hxy : x ≠ y) : ns_I n f0 (ns_cx f x y) :=
  ⟨fun v => (ns_cx_cnt hx hy hxy).trans (h.1 v), fun j hj => (ns_cx_n (by omega) (by omega)).trans (h.2.1 j hj), ns_cx_Nn h.2.2⟩
/-! ONE PASS: at every m below M whose bit a is clear, the comparator at (m + u, m + w) -/
def ns_ps (f : Nat → Int32) (a u w : Nat) : Nat → (Nat → Int32)
  | 0 => f
  | m + 1 => if m &&& a = 0 then ns_cx (ns_ps f a u w m) (m + u) (m + w) else ns_ps f a u w m
theorem ns_ps_t {f : Nat → Int32} {a u w m : Nat} (h : m &&& a = 0) : ns_ps f a u w (m + 1) = ns_cx (ns_ps f a u w m) (m + u) (m + w) := by
  simp only [ns_ps]
  rw [if_pos h]
theorem ns_ps_f {f : Nat → Int32} {a u w m : Nat} (h : ¬ m &&& a = 0) : ns_ps f a u w (m + 1) = ns_ps f a u w m := by
  simp only [ns_ps]
  rw [if_neg h]
theorem ns_ps_I {n : Nat} {f0 f : Nat → Int32} {a u w : Nat} (huw : u < w) (h : ns_I n f0 f) : ∀ M, M + w ≤ n → ns_I n f0 (ns_ps f a u w M) := by
  intro M
  induction M with
  | zero => intro _; exact h
  | succ M ih =>
    intro hM
    by_cases t : M &&& a = 0
    · rw [ns_ps_t t]
      exact ns_I_cx (ih (by omega)) (by omega) (by omega) (by omega)
    · rw [ns_ps_f t]
      exact ih (by omega)
/-- the places of a pass are apart -/
def ns_ap (a u w : Nat) : Prop := ∀ m m' : Nat, m &&& a = 0 → m' &&& a = 0 → m + u ≠ m' + w
theorem ns_ps_at {f : Nat → Int32} {a u w : Nat} (hap : ns_ap a u w) : ∀ M : Nat,
    (∀ m, m < M → m &&& a = 0 → ns_ps f a u w M (m + u) = ns_mn (f (m + u)) (f (m + w)) ∧ ns_ps f a u w M (m + w) = ns_mx (f (m + u)) (f (m + w))) ∧
    (∀ j, (∀ m, m < M → m &&& a = 0 → j ≠ m + u ∧ j ≠ m + w) → ns_ps f a u w M j = f j) := by
  intro M
  induction M with
  | zero => exact ⟨fun m h => by omega, fun _ _ => rfl⟩
  | succ M ih =>
    obtain ⟨ih1, ih2⟩ := ih
    by_cases t : M &&& a = 0
    · have eu : ns_ps f a u w M (M + u) = f (M + u) := ih2 _ (fun m hm tm => ⟨by omega, hap M m t tm⟩)
      have ew : ns_ps f a u w M (M + w) = f (M + w) := ih2 _ (fun m hm tm => ⟨fun e => hap m M tm t e.symm, by omega⟩)
      rw [ns_ps_t t]
      refine ⟨fun m hm tm => ?_, fun j hj => ?_⟩
      · by_cases e : m = M
        · subst e
          rw [ns_cx_y, ns_cx_x (hap m m tm tm), eu, ew]
          exact ⟨rfl, rfl⟩
        · have k1 : ns_cx (ns_ps f a u w M) (M + u) (M + w) (m + u) = ns_ps f a u w M (m + u) := ns_cx_n (by omega) (hap m M tm t)
          have k2 : ns_cx (ns_ps f a u w M) (M + u) (M + w) (m + w) = ns_ps f a u w M (m + w) := ns_cx_n (fun q => hap M m t tm q.symm) (by omega)
          rw [k1, k2]
          exact ih1 m (by omega) tm
      · obtain ⟨h1, h2⟩ := hj M (by omega) t
        rw [ns_cx_n h1 h2]
        exact ih2 j (fun m hm tm => hj m (by omega) tm)
    · rw [ns_ps_f t]
      refine ⟨fun m hm tm => ?_, fun j hj => ih2 j (fun m hm tm => hj m (by omega) tm)⟩
      by_cases e : m = M
      · subst e
        exact absurd tm t
      · exact ih1 m (by omega) tm
/-! bits of a place -/
theorem ns_tb (i k : Nat) : (i &&& 2 ^ k = 0) ↔ i.testBit k = false := by
  constructor
  · intro h
    have h2 : (i &&& 2 ^ k).testBit k = false := by rw [h]; exact Nat.zero_testBit k
    rw [Nat.testBit_and, Nat.testBit_two_pow_self, Bool.and_true] at h2
    exact h2
  · intro h
    apply Nat.eq_of_testBit_eq
    intro j
    rw [Nat.testBit_and, Nat.testBit_two_pow, Nat.zero_testBit]
    by_cases e : k = j
    · subst e
      simp [h]
    · simp [e]
/-- what the passes use of a = 2^k and b = 2^j, k < j -/
theorem ns_b1 {i k : Nat} (h : i &&& 2 ^ k = 0) : ¬ (i + 2 ^ k) &&& 2 ^ k = 0 := by
  rw [ns_tb] at h ⊢
  rw [Nat.add_comm, Nat.testBit_two_pow_add_eq, h]
  decide
theorem ns_b2 {i k : Nat} (h : ¬ i &&& 2 ^ k = 0) : ∃ m, i = m + 2 ^ k ∧ m &&& 2 ^ k = 0 := by
  have hb : i.testBit k = true := by
    rw [ns_tb] at h
    simpa using h
  have hle : 2 ^ k ≤ i := Nat.ge_two_pow_of_testBit hb
  refine ⟨i - 2 ^ k, by omega, ?_⟩
  rw [ns_tb]
  have e : i = 2 ^ k + (i - 2 ^ k) := by omega
  rw [e, Nat.testBit_two_pow_add_eq] at hb
  simpa using hb
theorem ns_b3 {i k j : Nat} (h : k < j) : (i + 2 ^ j) &&& 2 ^ k = 0 ↔ i &&& 2 ^ k = 0 := by
  rw [ns_tb, ns_tb, Nat.add_comm, Nat.testBit_two_pow_add_gt h]
theorem ns_pw {k j : Nat} (h : k < j) : ∃ c, 2 ^ j = c * (2 * 2 ^ k) := by
  refine ⟨2 ^ (j - (k + 1)), ?_⟩
  rw [show 2 * 2 ^ k = 2 ^ (k + 1) by rw [Nat.pow_succ]; omega, ← Nat.pow_add]
  congr 1
  omega
theorem ns_ap1 (k : Nat) : ns_ap (2 ^ k) 0 (2 ^ k) := by
  intro m m' h h' e
  have e2 : m = m' + 2 ^ k := e
  rw [e2] at h
  exact ns_b1 h' h
theorem ns_ap2 {k j : Nat} (hkj : k < j) : ns_ap (2 ^ k) (2 ^ k) (2 ^ j) := by
  intro m m' h h' e
  have h1 := ns_b1 h
  rw [e, ns_b3 hkj] at h1
  exact h1 h'
/-! THE NETWORK: what holds between the passes. a: the stride; d = 2a is sorted at the start of its stage -/
def ns_S (n d : Nat) (f : Nat → Int32) : Prop := ∀ i, i + d < n → f i ≤ f (i + d)
def ns_A (n a : Nat) (f : Nat → Int32) : Prop := ∀ i, i &&& a = 0 → i + a < n → f i ≤ f (i + a)
def ns_B (n a d : Nat) (f : Nat → Int32) : Prop := ∀ i, i &&& a = 0 → i + d < n → f (i + a) ≤ f (i + d)
theorem ns_S_mul {n d : Nat} {f : Nat → Int32} (h : ns_S n d f) : ∀ c i, i + c * d < n → f i ≤ f (i + c * d) := by
  intro c
  induction c with
  | zero => intro i _; simp
  | succ c ih =>
    intro i hi
    rw [Nat.succ_mul, ← Nat.add_assoc] at hi ⊢
    exact Int32.le_trans (ih i (by omega)) (h (i + c * d) hi)
/-- the first pass of a stage, of any function that is the pass's -/
theorem ns_st1 {n a : Nat} {f g : Nat → Int32} (ha : 0 < a) (b1 : ∀ {i : Nat}, i &&& a = 0 → ¬ (i + a) &&& a = 0) (b2 : ∀ {i : Nat}, ¬ i &&& a = 0 → ∃ m, i = m + a ∧ m &&& a = 0) (b3 : ∀ {i : Nat}, i &&& a = 0 → (i + 2 * a) &&& a = 0) (hS : ns_S n (2 * a) f)
    (h1 : ∀ m, m < n - a → m &&& a = 0 → g m = ns_mn (f m) (f (m + a)) ∧ g (m + a) = ns_mx (f m) (f (m + a))) (h2 : ∀ j, (∀ m, m < n - a → m &&& a = 0 → j ≠ m ∧ j ≠ m + a) → g j = f j) : ns_S n (2 * a) g ∧ ns_A n a g := by
  have gE : ∀ i, i &&& a = 0 → i + a < n → g i = ns_mn (f i) (f (i + a)) := fun i t h => (h1 i (by omega) t).1
  have gO : ∀ i, i &&& a = 0 → i + a < n → g (i + a) = ns_mx (f i) (f (i + a)) := fun i t h => (h1 i (by omega) t).2
  have gU : ∀ i, i &&& a = 0 → n ≤ i + a → g i = f i := fun i t h => h2 i (fun m hm tm => ⟨by omega, fun e => b1 tm (by rw [← e]; exact t)⟩)
  refine ⟨fun i hi => ?_, fun i t hi => ?_⟩
  · by_cases t : i &&& a = 0
    · rw [gE i t (by omega)]
      by_cases h3 : i + 2 * a + a < n
      · rw [gE (i + 2 * a) (b3 t) h3]
        refine ns_mn_ge (Int32.le_trans (ns_mn_l _ _) (hS i hi)) (Int32.le_trans (ns_mn_r _ _) ?_)
        rw [show i + 2 * a + a = i + a + 2 * a by omega]
        exact hS (i + a) (by omega)
      · rw [gU (i + 2 * a) (b3 t) (by omega)]
        exact Int32.le_trans (ns_mn_l _ _) (hS i hi)
    · obtain ⟨m, rfl, tm⟩ := b2 t
      rw [gO m tm (by omega), show m + a + 2 * a = m + 2 * a + a by omega, gO (m + 2 * a) (b3 tm) (by omega)]
      refine ns_mx_le (Int32.le_trans (hS m (by omega)) (ns_mx_l _ _)) (Int32.le_trans ?_ (ns_mx_r _ _))
      rw [show m + 2 * a + a = m + a + 2 * a by omega]
      exact hS (m + a) (by omega)
  · rw [gE i t hi, gO i t hi]
    exact ns_mn_mx _ _
theorem ns_b2k {i k : Nat} (h : i &&& 2 ^ k = 0) : (i + 2 * 2 ^ k) &&& 2 ^ k = 0 := by
  rw [show 2 * 2 ^ k = 2 ^ (k + 1) by rw [Nat.pow_succ]; omega]
  exact (ns_b3 (Nat.lt_succ_self k)).mpr h
theorem ns_stage1 {n k : Nat} {f : Nat → Int32} (hS : ns_S n (2 * 2 ^ k) f) : ns_S n (2 * 2 ^ k) (ns_ps f (2 ^ k) 0 (2 ^ k) (n - 2 ^ k)) ∧ ns_A n (2 ^ k) (ns_ps f (2 ^ k) 0 (2 ^ k) (n - 2 ^ k)) := by
  obtain ⟨h1, h2⟩ := ns_ps_at (f := f) (ns_ap1 k) (n - 2 ^ k)
  exact ns_st1 (Nat.two_pow_pos k) (fun h => ns_b1 h) (fun h => ns_b2 h) (fun h => ns_b2k h) hS h1 h2
/-- a further pass of a stage, of any function that is the pass's -/
theorem ns_st2 {n a b : Nat} {f g : Nat → Int32} (ha : 0 < a) (hda : 2 * a ≤ b) (b1 : ∀ {i : Nat}, i &&& a = 0 → ¬ (i + a) &&& a = 0) (b2 : ∀ {i : Nat}, ¬ i &&& a = 0 → ∃ m, i = m + a ∧ m &&& a = 0) (b3 : ∀ {i : Nat}, i &&& a = 0 → (i + 2 * a) &&& a = 0) (b4 : ∀ {i : Nat}, (i + b) &&& a = 0 ↔ i &&& a = 0) (hS : ns_S n (2 * a) f) (hSb : ∀ i, i + b < n → f i ≤ f (i + b)) (hA : ns_A n a f) (hB : ns_B n a (2 * b) f)
    (h1 : ∀ m, m < n - b → m &&& a = 0 → g (m + a) = ns_mn (f (m + a)) (f (m + b)) ∧ g (m + b) = ns_mx (f (m + a)) (f (m + b))) (h2 : ∀ j, (∀ m, m < n - b → m &&& a = 0 → j ≠ m + a ∧ j ≠ m + b) → g j = f j) : ns_S n (2 * a) g ∧ ns_A n a g ∧ ns_B n a b g := by
  have gO : ∀ i, i &&& a = 0 → i + b < n → g (i + a) = ns_mn (f (i + a)) (f (i + b)) := fun i t h => (h1 i (by omega) t).1
  have gE : ∀ i, i &&& a = 0 → i + b < n → g (i + b) = ns_mx (f (i + a)) (f (i + b)) := fun i t h => (h1 i (by omega) t).2
  have gOU : ∀ i, i &&& a = 0 → n ≤ i + b → g (i + a) = f (i + a) := fun i t h => h2 (i + a) (fun m hm tm => ⟨by omega, fun e => b1 t (by rw [e]; exact b4.mpr tm)⟩)
  have gEU : ∀ i, i &&& a = 0 → i < b → g i = f i := fun i t h => h2 i (fun m hm tm => ⟨fun e => b1 tm (by rw [← e]; exact t), by omega⟩)
  have gOl : ∀ i, i &&& a = 0 → g (i + a) ≤ f (i + a) := by
    intro i t
    by_cases h : i + b < n
    · rw [gO i t h]; exact ns_mn_l _ _
    · rw [gOU i t (by omega)]; exact Int32.le_refl _
  have cut : ∀ i, i &&& a = 0 → b ≤ i → ∃ m, i = m + b ∧ m &&& a = 0 := by
    intro i t h
    refine ⟨i - b, by omega, ?_⟩
    rw [show i = (i - b) + b by omega] at t
    exact b4.mp t
  refine ⟨fun i hi => ?_, fun i t hi => ?_, fun i t hi => ?_⟩
  · by_cases t : i &&& a = 0
    · rcases Nat.lt_or_ge i b with hib | hib
      · rw [gEU i t hib]
        rcases Nat.lt_or_ge (i + 2 * a) b with h3 | h3
        · rw [gEU _ (b3 t) h3]
          exact hS i hi
        · obtain ⟨m, em, tm⟩ := cut _ (b3 t) h3
          rw [em, gE m tm (by omega), ← em]
          exact Int32.le_trans (hS i hi) (ns_mx_r _ _)
      · obtain ⟨m, rfl, tm⟩ := cut i t hib
        rw [gE m tm (by omega), show m + b + 2 * a = m + 2 * a + b by omega, gE (m + 2 * a) (b3 tm) (by omega)]
        refine ns_mx_le (Int32.le_trans ?_ (ns_mx_l _ _)) (Int32.le_trans ?_ (ns_mx_r _ _))
        · rw [show m + 2 * a + a = m + a + 2 * a by omega]
          exact hS (m + a) (by omega)
        · rw [show m + 2 * a + b = m + b + 2 * a by omega]
          exact hS (m + b) (by omega)
    · obtain ⟨m, rfl, tm⟩ := b2 t
      rw [show m + a + 2 * a = m + 2 * a + a by omega]
      have q1 : g (m + a) ≤ f (m + 2 * a + a) := by
        refine Int32.le_trans (gOl m tm) ?_
        rw [show m + 2 * a + a = m + a + 2 * a by omega]
        exact hS (m + a) (by omega)
      by_cases h3 : m + 2 * a + b < n
      · rw [gO (m + 2 * a) (b3 tm) h3]
        refine ns_mn_ge q1 ?_
        rw [gO m tm (by omega), show m + 2 * a + b = m + b + 2 * a by omega]
        exact Int32.le_trans (ns_mn_r _ _) (hS (m + b) (by omega))
      · rw [gOU (m + 2 * a) (b3 tm) (by omega)]
        exact q1
  · rcases Nat.lt_or_ge i b with hib | hib
    · rw [gEU i t hib]
      by_cases h3 : i + b < n
      · rw [gO i t h3]
        exact ns_mn_ge (hA i t hi) (hSb i h3)
      · rw [gOU i t (by omega)]
        exact hA i t hi
    · obtain ⟨m, rfl, tm⟩ := cut i t hib
      rw [gE m tm (by omega)]
      have p1 : f (m + a) ≤ f (m + b + a) := by
        rw [show m + b + a = m + a + b by omega]
        exact hSb (m + a) (by omega)
      have p2 : f (m + b) ≤ f (m + b + a) := hA (m + b) t hi
      by_cases h3 : m + b + b < n
      · rw [gO (m + b) t h3]
        refine ns_mn_ge (ns_mx_le p1 p2) (ns_mx_le ?_ (hSb (m + b) h3))
        rw [show m + b + b = m + 2 * b by omega]
        exact hB m tm (by omega)
      · rw [gOU (m + b) t (by omega)]
        exact ns_mx_le p1 p2
  · rw [gO i t hi, gE i t hi]
    exact ns_mn_mx _ _
theorem ns_stage2 {n k j : Nat} {f : Nat → Int32} (hkj : k < j) (hS : ns_S n (2 * 2 ^ k) f) (hA : ns_A n (2 ^ k) f) (hB : ns_B n (2 ^ k) (2 * 2 ^ j) f) : ns_S n (2 * 2 ^ k) (ns_ps f (2 ^ k) (2 ^ k) (2 ^ j) (n - 2 ^ j)) ∧ ns_A n (2 ^ k) (ns_ps f (2 ^ k) (2 ^ k) (2 ^ j) (n - 2 ^ j)) ∧ ns_B n (2 ^ k) (2 ^ j) (ns_ps f (2 ^ k) (2 ^ k) (2 ^ j) (n - 2 ^ j)) := by
  obtain ⟨h1, h2⟩ := ns_ps_at (f := f) (ns_ap2 hkj) (n - 2 ^ j)
  have hda : 2 * 2 ^ k ≤ 2 ^ j := by
    rw [show 2 * 2 ^ k = 2 ^ (k + 1) by rw [Nat.pow_succ]; omega]
    exact Nat.pow_le_pow_right (by decide) hkj
  refine ns_st2 (Nat.two_pow_pos k) hda (fun h => ns_b1 h) (fun h => ns_b2 h) (fun h => ns_b2k h) (ns_b3 hkj) hS (fun i hi => ?_) hA hB h1 h2
  obtain ⟨c, hc⟩ := ns_pw hkj
  rw [hc] at hi ⊢
  exact ns_S_mul hS c i hi
/-- the end of a stage -/
theorem ns_stage3 {n k : Nat} {f : Nat → Int32} (hA : ns_A n (2 ^ k) f) (hB : ns_B n (2 ^ k) (2 * 2 ^ k) f) : ns_S n (2 ^ k) f := by
  intro i hi
  by_cases t : i &&& 2 ^ k = 0
  · exact hA i t hi
  · obtain ⟨m, rfl, tm⟩ := ns_b2 t
    have := hB m tm (by omega)
    rw [show m + 2 ^ k + 2 ^ k = m + 2 * 2 ^ k by omega]
    exact this
/-- 1-sorted is sorted -/
theorem ns_S_one {n : Nat} {f : Nat → Int32} (h : ns_S n 1 f) : ns_Srt n f := by
  intro i j hij hj
  have := ns_S_mul h (j - i) i (by omega)
  rw [show i + (j - i) * 1 = j by omega] at this
  exact this
theorem ns_end {n : Nat} {f0 f : Nat → Int32} (hI : ns_I n f0 f) (hS : ns_S n 1 f) : ns_Of n f0 f := ⟨ns_S_one hS, hI.1, hI.2.1⟩
/-! INSERTION: the place k is a hole for the value mv; g the row at the start of the turn i -/
def ns_J (n i : Nat) (mv : Int32) (g f : Nat → Int32) (k : Nat) : Prop := k ≤ i ∧ (∀ j, k < j → j ≤ i → mv < f j) ∧ (∀ x y, x ≤ y → y ≤ i → x ≠ k → y ≠ k → f x ≤ f y) ∧ (∀ j, i < j → f j = g j) ∧ ∀ v, ns_cnt v (upd f k mv) n = ns_cnt v g n
theorem ns_J0 {n i : Nat} {g : Nat → Int32} (hs : ns_Srt i g) : ns_J n i (g i) g g i := by
  refine ⟨Nat.le_refl _, fun j h1 h2 => by omega, fun x y h1 h2 h3 h4 => hs x y h1 (by omega), fun _ _ => rfl, fun v => ?_⟩
  have e : upd g i (g i) = g := by
    funext j
    unfold upd
    split
    · next h => rw [h]
    · rfl
  rw [e]
theorem ns_J1 {n i k : Nat} {mv : Int32} {g f : Nat → Int32} (hi : i < n) (h : ns_J n i mv g f (k + 1)) (hlt : mv < f k) : ns_J n i mv g (upd f (k + 1) (f k)) k := by
  obtain ⟨h1, h2, h3, h4, h5⟩ := h
  have u1 : upd f (k + 1) (f k) (k + 1) = f k := by simp [upd]
  have u2 : ∀ j, j ≠ k + 1 → upd f (k + 1) (f k) j = f j := fun j hj => by simp [upd, hj]
  refine ⟨by omega, fun j a b => ?_, fun x y hxy hy nx ny => ?_, fun j hj => ?_, fun v => ?_⟩
  · by_cases e : j = k + 1
    · rw [e, u1]; exact hlt
    · rw [u2 j e]; exact h2 j (by omega) b
  · by_cases ex : x = k + 1
    · by_cases ey : y = k + 1
      · rw [ex, ey]; exact Int32.le_refl _
      · rw [ex, u1, u2 y ey]
        exact h3 k y (by omega) hy (by omega) ey
    · by_cases ey : y = k + 1
      · rw [ey, u1, u2 x ex]
        exact h3 x k (by omega) (by omega) ex (by omega)
      · rw [u2 x ex, u2 y ey]
        exact h3 x y hxy hy ex ey
  · rw [u2 j (by omega)]
    exact h4 j hj
  · rw [← h5 v]
    have e : upd (upd f (k + 1) (f k)) k mv = upd (upd (upd f (k + 1) mv) (k + 1) (f k)) k mv := by
      funext j
      by_cases a : j = k
      · simp [upd, a]
      · by_cases b : j = k + 1
        · simp [upd, b]
        · simp [upd, a, b]
    rw [e]
    refine ns_cnt_swap (by omega) (by omega) (by omega) (Or.inr ⟨?_, ?_⟩)
    · simp [upd]
    · simp [upd]
theorem ns_J2 {n i k : Nat} {mv : Int32} {g f : Nat → Int32} (h : ns_J n i mv g f k) (hk : ∀ q, q + 1 = k → f q ≤ mv) : ns_Srt (i + 1) (upd f k mv) ∧ (∀ v, ns_cnt v (upd f k mv) n = ns_cnt v g n) ∧ ∀ j, i < j → upd f k mv j = g j := by
  obtain ⟨h1, h2, h3, h4, h5⟩ := h
  have u1 : upd f k mv k = mv := by simp [upd]
  have u2 : ∀ j, j ≠ k → upd f k mv j = f j := fun j hj => by simp [upd, hj]
  refine ⟨fun x y hxy hy => ?_, h5, fun j hj => ?_⟩
  · by_cases ex : x = k
    · by_cases ey : y = k
      · rw [ex, ey]; exact Int32.le_refl _
      · rw [ex, u1, u2 y ey]
        exact Int32.le_of_lt (h2 y (by omega) (by omega))
    · by_cases ey : y = k
      · rw [ey, u1, u2 x ex]
        have hq := hk (k - 1) (by omega)
        exact Int32.le_trans (h3 x (k - 1) (by omega) (by omega) ex (by omega)) hq
      · rw [u2 x ex, u2 y ey]
        exact h3 x y hxy (by omega) ex ey
  · rw [u2 j (by omega)]
    exact h4 j hj
/-- what the outer loop of the insertion keeps -/
def ns_K (n i : Nat) (f0 f : Nat → Int32) : Prop := ns_Srt i f ∧ (∀ v, ns_cnt v f n = ns_cnt v f0 n) ∧ ∀ j, n ≤ j → f j = f0 j
theorem ns_K1 {n : Nat} {f : Nat → Int32} : ns_K n 1 f f := ⟨fun x y h1 h2 => by rw [show x = y by omega]; exact Int32.le_refl _, fun _ => rfl, fun _ _ => rfl⟩
theorem ns_Ks {n i k : Nat} {mv : Int32} {f0 g f : Nat → Int32} (hi : i < n) (hK : ns_K n i f0 g) (h : ns_J n i mv g f k) (hk : ∀ q, q + 1 = k → f q ≤ mv) : ns_K n (i + 1) f0 (upd f k mv) := by
  obtain ⟨a, b, c⟩ := ns_J2 h hk
  exact ⟨a, fun v => (b v).trans (hK.2.1 v), fun j hj => (c j (by omega)).trans (hK.2.2 j hj)⟩
theorem ns_K_end {n : Nat} {f0 f : Nat → Int32} (h : ns_K n n f0 f) : ns_Of n f0 f := h
/-! the other members' answers -/
def ns_fill (f : Nat → Int32) (p q : Int32) : Nat → (Nat → Int32)
  | 0 => f
  | n + 1 => upd (ns_fill f p q n) n ((p + q * nI n) &&& 1073741823)
def ns_sum (f : Nat → Int32) : Nat → Int64
  | 0 => 0
  | n + 1 => ns_sum f n * 31 + (f n).toInt64
def ns_len (p : Int32) : Nat := 2 + p.toBitVec.toNat % 2 ^ 31 % 63
theorem ns_len_ge (p : Int32) : 2 ≤ ns_len p := by unfold ns_len; omega
theorem ns_len_le (p : Int32) : ns_len p ≤ 64 := by
  have : p.toBitVec.toNat % 2 ^ 31 % 63 < 63 := Nat.mod_lt _ (by decide)
  unfold ns_len
  omega
theorem ns_mask (x : Int32) : (0 : Int32) ≤ x &&& 1073741823 := by
  obtain ⟨j, hj, e⟩ := pk_andE x (m := 1073741823) 30 (by decide)
  rw [e]
  exact nI_pos' (by omega)
theorem ns_fill_Nn {f : Nat → Int32} {p q : Int32} (hf : ns_Nn f) : ∀ n, ns_Nn (ns_fill f p q n) := by
  intro n
  induction n with
  | zero => exact hf
  | succ n ih => exact ns_upd_Nn ih (ns_mask _)
theorem ns_len_eq (p : Int32) : 2 + ((p &&& 2147483647) - (p &&& 2147483647) / 63 * 63) = nI (ns_len p) := by
  rw [pk_and p (m := 2147483647) 31 (by decide)]
  have h : p.toBitVec.toNat % 2 ^ 31 < 2 ^ 31 := Nat.mod_lt _ (by decide)
  rw [show (63 : Int32) = nI 63 from rfl, pk_rem (d := 63) h (by decide) (by decide), show (2 : Int32) = nI 2 from rfl, nI_add]
  rfl
theorem ns_ix (p : Int32) : ∃ j : Nat, j < 64 ∧ p &&& 63 = nI j := pk_andE p (m := 63) 6 (by decide)
/-! THE CONSTANT-TIME COMPARATOR of ints that aren't negative -/
theorem ns_c2 (z : Int32) : (z.toUInt32 >>> ((31 : Int32).toUInt32 &&& Int32.toUInt32 31)).toInt32 = if z.toBitVec.msb then 1 else 0 := by
  have h := pk_ushr z 31 31 (by decide)
  apply Int32.toBitVec_inj.mp
  apply BitVec.eq_of_toNat_eq
  rw [h, BitVec.msb_eq_decide]
  have hz : z.toBitVec.toNat < 2 ^ 32 := z.toBitVec.isLt
  by_cases q : 2 ^ 31 ≤ z.toBitVec.toNat
  · have e : z.toBitVec.toNat / 2 ^ 31 = 1 := by omega
    rw [e, if_pos (by simpa using q)]
    decide
  · have e : z.toBitVec.toNat / 2 ^ 31 = 0 := by omega
    rw [e, if_neg (by simpa using q)]
    decide
theorem ns_msb0 {x : Int32} (h : (0 : Int32) ≤ x) : x.toBitVec.msb = false := by
  rw [Int32.le_iff_toInt_le] at h
  have h0 : (0 : Int32).toInt = 0 := by decide
  rw [h0] at h
  cases e : x.toBitVec.msb with
  | false => rfl
  | true =>
    have := BitVec.toInt_neg_of_msb_true e
    have h2 : x.toInt = x.toBitVec.toInt := rfl
    omega
theorem ns_msbS {x y : Int32} (hx : (0 : Int32) ≤ x) (hy : (0 : Int32) ≤ y) : (y - x).toBitVec.msb = decide (y < x) := by
  have mx := ns_msb0 hx
  have my := ns_msb0 hy
  rw [BitVec.msb_eq_decide] at mx my
  rw [BitVec.msb_eq_decide]
  have lt : y < x ↔ y.toBitVec.toNat < x.toBitVec.toNat := by
    rw [Int32.lt_iff_toInt_lt]
    show y.toBitVec.toInt < x.toBitVec.toInt ↔ _
    rw [BitVec.toInt_eq_toNat_of_msb (ns_msb0 hx), BitVec.toInt_eq_toNat_of_msb (ns_msb0 hy)]
    omega
  have e : (y - x).toBitVec.toNat = (2 ^ 32 - x.toBitVec.toNat + y.toBitVec.toNat) % 2 ^ 32 := by
    rw [Int32.toBitVec_sub, BitVec.toNat_sub]
  have mx' : ¬ 2 ^ 31 ≤ x.toBitVec.toNat := of_decide_eq_false mx
  have my' : ¬ 2 ^ 31 ≤ y.toBitVec.toNat := of_decide_eq_false my
  rw [e, decide_eq_decide, lt]
  show 2 ^ 31 ≤ (2 ^ 32 - x.toBitVec.toNat + y.toBitVec.toNat) % 2 ^ 32 ↔ y.toBitVec.toNat < x.toBitVec.toNat
  omega
/-- the word that minmax works out: all bits of x ^ y if y < x, none else -/
theorem ns_word {x y : Int32} (hx : (0 : Int32) ≤ x) (hy : (0 : Int32) ≤ y) {c c2 : Int32} (hc : c = (y - x) ^^^ ((x ^^^ y) &&& (((y - x) ^^^ y) ^^^ -2147483648))) (h2 : c2 = (c.toUInt32 >>> ((31 : Int32).toUInt32 &&& Int32.toUInt32 31)).toInt32) : x ^^^ ((-c2) &&& (x ^^^ y)) = ns_mn x y ∧ y ^^^ ((-c2) &&& (x ^^^ y)) = ns_mx x y := by
  have m : c.toBitVec.msb = decide (y < x) := by
    rw [hc]
    simp only [Int32.toBitVec_xor, Int32.toBitVec_and, BitVec.msb_xor, BitVec.msb_and, ns_msb0 hx, ns_msb0 hy, ns_msbS hx hy]
    simp
  rw [ns_c2, m] at h2
  unfold ns_mn ns_mx
  by_cases q : y < x
  · rw [if_pos (by simpa using q)] at h2
    rw [if_pos q, if_pos q, h2, Int32.neg_one_and]
    constructor
    · rw [← Int32.xor_assoc, Int32.xor_self, Int32.zero_xor]
    · rw [Int32.xor_comm x y, ← Int32.xor_assoc, Int32.xor_self, Int32.zero_xor]
  · rw [if_neg (by simpa using q)] at h2
    rw [if_neg q, if_neg q, h2]
    constructor <;> simp
end
section
/-! MODULE Utils: minmax is the comparator ns_cx; cryptoSort puts the first n in ascending order (Batcher's merge exchange, for any n from 2 to 64) -/
abbrev wsX2_minmax : List Cond := ws_ yX2_minmax cX2_minmax 7 none
abbrev wsX2_cs : List Cond := ws_ yX2_cryptoSort cX2_cryptoSort 6 none
abbrev BX2 (dC : Nat → ClassId) (dI : Nat → Nat → Nat) (d : ClassId) (A : Nat → Prop) (r : Nat) (u : Nat → Int32) (t : State) : Prop := va_P (dC, dI) vwCl [(r, .inl (d, 64, .inl u))] t.heap ∧ va_K (dC, dI) vwCl [(d, .int)] t ∧ va_D A [(r, .inl (d, 64, .inl u))]
theorem ns_andN {i a : Nat} (hi : i < 2 ^ 31) (ha : a < 2 ^ 31) : nI i &&& nI a = nI (i &&& a) := by
  have hle : i &&& a ≤ i := Nat.and_le_left
  apply Int32.toBitVec_inj.mp
  apply BitVec.eq_of_toNat_eq
  rw [Int32.toBitVec_and, BitVec.toNat_and, pk_tn (by omega), pk_tn (by omega), pk_tn (by omega)]
theorem ns_half (k : Nat) : 2 ^ (k + 1) / 2 ^ 1 = 2 ^ k := by
  rw [Nat.pow_succ, Nat.pow_one]
  omega
set_option maxHeartbeats 4000000 in
set_option maxRecDepth 100000 in
/-- Utils.minmax(L, i, j): the comparator at the places i and j (no value negative) -/
theorem met_minmax (l : Launch) (dC : Nat → ClassId) (dI : Nat → Nat → Nat) (d : ClassId) (r sz : Nat) (f : Nat → Int32) (i j : Nat) (hi : i < 64) (hj : j < 64) (hij : i ≠ j) (hf : ns_Nn f) : Met l yX2_minmax wsX2_minmax ({ frames := 0, cells := 0, slots := 0, locals := 0 }) (va_Pc [.ref r, .int (nI i), .int (nI j)] (fun U => U.heap.size = sz ∧ va_P (dC, dI) vwCl [(r, .inl (d, 64, .inl f))] U.heap ∧ va_K (dC, dI) vwCl [(d, .int)] U ∧ va_D (fun _ => True) [(r, .inl (d, 64, .inl f))])) (va_Qv (fun u : Nat → Int32 => u = ns_cx f i j) (BX2 dC dI d (va_A [(r, .inl (d, 64, .inl f))] sz) r) (va_A [(r, .inl (d, 64, .inl f))] sz)) 0 0 (va_A [(r, .inl (d, 64, .inl f))] sz) := by
  refine Met.ofW (cc := cX2_minmax) (maxL := 7) (ret := none) (by decide) rfl ?_
  intro p e s m args below meth c s₁ B hml hv
  obtain ⟨rfl, hsz, hP, hK, hD0⟩ := hv
  have hx := B.exec
  have hb := B.bytes
  have hr := B.returns
  have hts := atoms_spec (ws := wsX2_minmax) B.pre
  have hts : ∀ w ∈ lw_all, w.before _ s = true := fun w h => hts w (List.mem_cons_of_mem _ h)
  have hown : s.vm.findClass RX2 = some m.cls := findClass_of_methodNamed B.named
  have hlocks := B.notSynchronized
  subst hsz
  have hD := hD0.self (sz := s.heap.size)
  generalize hAe : va_A [(r, .inl (d, 64, .inl f))] s.heap.size = A at hD ⊢
  have hA : ∀ q : Nat, s.heap.size ≤ q → A q := fun q h => by rw [← hAe]; exact Or.inr h
  have hS : va_S A s.heap s.heap [] := va_S.rf
  have hP : va_P (dC, dI) vwCl [(r, .inl (d, 64, .inl f))] s.heap := hP
  have hl := lv_entry ([.ref r, .int (nI i), .int (nI j)]) (n := 7) (Nat.le_of_ble_eq_true rfl)
  rw [lg_entry_eq]
  generalize (lg_sl ([.ref r, .int (nI i), .int (nI j)]) ++ List.replicate (7 - (lg_sl ([.ref r, .int (nI i), .int (nI j)])).length) Slot.unset).toArray = ls at hl ⊢
  have hl : lv_has ls 7 [(0, .ref r), (1, .int (nI i)), (2, .int (nI j))] := hl
  have ci : (nI i).toNatClampNeg = i := nI_clamp (by omega)
  have cj : (nI j).toNatClampNeg = j := nI_clamp (by omega)
  have ini : vp_in (nI i) 64 := vp_in_nI hi (by decide)
  have inj : vp_in (nI j) 64 := vp_in_nI hj (by decide)
  refine lv_aload_n hx hb dX2_minmax_0 rfl (lv_at hl 0 rfl) ?_
  refine lv_iload_n hx hb dX2_minmax_1 rfl (lv_at hl 1 rfl) ?_
  refine va_iald hx hb hK hP 0 0 rfl rfl ini dX2_minmax_2 ?_
  refine lv_topi (fun xi exi => ?_)
  rw [ci] at exi
  refine lv_istore_n (lv' := [(3, .int xi), (0, .ref r), (1, .int (nI i)), (2, .int (nI j))]) hx hb dX2_minmax_3 rfl hl (by decide) rfl (fun ls hl => ?_)
  refine lv_aload_n hx hb dX2_minmax_4 rfl (lv_at hl 1 rfl) ?_
  refine lv_iload_n hx hb dX2_minmax_5 rfl (lv_at hl 3 rfl) ?_
  refine va_iald hx hb hK hP 0 0 rfl rfl inj dX2_minmax_6 ?_
  refine lv_topi (fun yi eyi => ?_)
  rw [cj] at eyi
  refine lv_istore (lv' := [(4, .int yi), (3, .int xi), (0, .ref r), (1, .int (nI i)), (2, .int (nI j))]) hx hb dX2_minmax_7 hl (by decide) rfl (fun ls hl => ?_)
  refine lv_iload_n hx hb dX2_minmax_9 rfl (lv_at hl 1 rfl) ?_
  refine lv_iload hx hb dX2_minmax_10 (lv_at hl 0 rfl) ?_
  refine lv_ixor hx hb dX2_minmax_12 ?_
  refine lv_topi (fun xy exy => ?_)
  refine lv_istore (lv' := [(5, .int xy), (4, .int yi), (3, .int xi), (0, .ref r), (1, .int (nI i)), (2, .int (nI j))]) hx hb dX2_minmax_13 hl (by decide) rfl (fun ls hl => ?_)
  refine lv_iload hx hb dX2_minmax_15 (lv_at hl 1 rfl) ?_
  refine lv_iload_n hx hb dX2_minmax_17 rfl (lv_at hl 2 rfl) ?_
  refine lv_isub hx hb dX2_minmax_18 ?_
  refine lv_topi (fun c0 ec0 => ?_)
  refine lv_istore (lv' := [(6, .int c0), (5, .int xy), (4, .int yi), (3, .int xi), (0, .ref r), (1, .int (nI i)), (2, .int (nI j))]) hx hb dX2_minmax_19 hl (by decide) rfl (fun ls hl => ?_)
  refine lv_iload hx hb dX2_minmax_21 (lv_at hl 0 rfl) ?_
  refine lv_iload hx hb dX2_minmax_23 (lv_at hl 1 rfl) ?_
  refine lv_iload hx hb dX2_minmax_25 (lv_at hl 0 rfl) ?_
  refine lv_iload hx hb dX2_minmax_27 (lv_at hl 2 rfl) ?_
  refine lv_ixor hx hb dX2_minmax_29 ?_
  refine lv_ldc (v := -2147483648) hx hb hown (hts _ q44) dX2_minmax_30 ?_
  refine lv_ixor hx hb dX2_minmax_32 ?_
  refine lv_iand hx hb dX2_minmax_33 ?_
  refine lv_ixor hx hb dX2_minmax_34 ?_
  refine lv_topi (fun c1 ec1 => ?_)
  refine lv_istore (lv' := [(6, .int c1), (5, .int xy), (4, .int yi), (3, .int xi), (0, .ref r), (1, .int (nI i)), (2, .int (nI j))]) hx hb dX2_minmax_35 hl (by decide) rfl (fun ls hl => ?_)
  refine lv_iload hx hb dX2_minmax_37 (lv_at hl 0 rfl) ?_
  refine lv_bipush (v := 31) hx hb dX2_minmax_39 (by decide) ?_
  refine lv_iushr hx hb dX2_minmax_41 rfl ?_
  refine lv_topi (fun c2 ec2 => ?_)
  refine lv_istore (lv' := [(6, .int c2), (5, .int xy), (4, .int yi), (3, .int xi), (0, .ref r), (1, .int (nI i)), (2, .int (nI j))]) hx hb dX2_minmax_42 hl (by decide) rfl (fun ls hl => ?_)
  refine lv_iload hx hb dX2_minmax_44 (lv_at hl 0 rfl) ?_
  refine lv_ineg hx hb dX2_minmax_46 ?_
  refine lv_topi (fun c3 ec3 => ?_)
  refine lv_istore (lv' := [(6, .int c3), (5, .int xy), (4, .int yi), (3, .int xi), (0, .ref r), (1, .int (nI i)), (2, .int (nI j))]) hx hb dX2_minmax_47 hl (by decide) rfl (fun ls hl => ?_)
  refine lv_iload hx hb dX2_minmax_49 (lv_at hl 0 rfl) ?_
  refine lv_iload hx hb dX2_minmax_51 (lv_at hl 1 rfl) ?_
  refine lv_iand hx hb dX2_minmax_53 ?_
  refine lv_topi (fun c4 ec4 => ?_)
  refine lv_istore (lv' := [(6, .int c4), (5, .int xy), (4, .int yi), (3, .int xi), (0, .ref r), (1, .int (nI i)), (2, .int (nI j))]) hx hb dX2_minmax_54 hl (by decide) rfl (fun ls hl => ?_)
  have hw := ns_word (x := xi) (y := yi) (by rw [exi]; exact hf i) (by rw [eyi]; exact hf j) (c := c1) (c2 := c2) (by rw [ec1, ec0, exy]) ec2
  have e1 : xi ^^^ c4 = ns_mn (f i) (f j) := by rw [ec4, ec3, exy, hw.1, exi, eyi]
  have e2 : yi ^^^ c4 = ns_mx (f i) (f j) := by rw [ec4, ec3, exy, hw.2, exi, eyi]
  refine lv_aload_n hx hb dX2_minmax_56 rfl (lv_at hl 4 rfl) ?_
  refine lv_iload_n hx hb dX2_minmax_57 rfl (lv_at hl 5 rfl) ?_
  refine lv_iload_n hx hb dX2_minmax_58 rfl (lv_at hl 3 rfl) ?_
  refine lv_iload hx hb dX2_minmax_59 (lv_at hl 0 rfl) ?_
  refine lv_ixor hx hb dX2_minmax_61 ?_
  refine va_iast hx hb hK hP hD hS 0 0 rfl rfl ini dX2_minmax_62 (fun H locs hP hD hS => ?_)
  rw [e1, ci] at hP hD
  have hP : va_P (dC, dI) vwCl [(r, .inl (d, 64, .inl (upd f i (ns_mn (f i) (f j)))))] H := hP
  have hD : va_D A [(r, .inl (d, 64, .inl (upd f i (ns_mn (f i) (f j)))))] := hD
  refine lv_aload_n hx hb dX2_minmax_63 rfl (lv_at hl 4 rfl) ?_
  refine lv_iload_n hx hb dX2_minmax_64 rfl (lv_at hl 6 rfl) ?_
  refine lv_iload hx hb dX2_minmax_65 (lv_at hl 2 rfl) ?_
  refine lv_iload hx hb dX2_minmax_67 (lv_at hl 0 rfl) ?_
  refine lv_ixor hx hb dX2_minmax_69 ?_
  refine va_iast hx hb hK hP hD hS 0 0 rfl rfl inj dX2_minmax_70 (fun H locs hP hD hS => ?_)
  rw [e2, cj] at hP hD
  have hP : va_P (dC, dI) vwCl [(r, .inl (d, 64, .inl (ns_cx f i j)))] H := hP
  have hD : va_D A [(r, .inl (d, 64, .inl (ns_cx f i j)))] := hD
  exact W.vret hx hb hr (fun t ht hW => ⟨⟨ns_cx f i j, rfl, rfl, by rw [ht]; exact hP, va_K.moved hW.alike hK, hD⟩, hS.F ht⟩) hS.2.2 dX2_minmax_71
/-! cryptoSort's loops, each with the goal behind it as a hypothesis -/
/-- what stays the same through a call of cryptoSort -/
def cs_Fx (p : Program) (s : State) (m : MethodId) (args : Array Value) (c : Code) (A : Nat → Prop) (R : Room) : Prop := p.tables.exec = Jvm.exec ∧ c.code = cX2_cryptoSort ∧ c.maxLocals = 6 ∧ s.vm.findClass RX2 = some m.cls ∧ (∀ w ∈ lw_all, w.before args s = true) ∧ (∀ q : Nat, s.heap.size ≤ q → A q) ∧ 1 ≤ R.frames ∧ 26 ≤ R.locals
/-- from pc, with the row f and the locals lv, the goal is reached -/
def cs_W (p : Program) (l : Launch) (e : Env) (R : Room) (s : State) (m : MethodId) (args : Array Value) (below : List Frame) (meth : Method) (c : Code) (Q : State → Prop) (dC : Nat → ClassId) (dI : Nat → Nat → Nat) (d : ClassId) (r : Nat) (A : Nat → Prop) (pc : Nat) (st : List Value) (f : Nat → Int32) (lv : List (Nat × Value)) : Prop := ∀ (H : Heap) (locs : List Loc) (ls : Array Slot), va_K (dC, dI) vwCl [(d, .int)] s → va_P (dC, dI) vwCl [(r, .inl (d, 64, .inl f))] H → va_D A [(r, .inl (d, 64, .inl f))] → va_S A s.heap H locs → lv_has ls 6 lv → W p l e R s m args below meth c H locs 0 0 Q (F0 m pc ls st)
set_option maxHeartbeats 4000000 in
set_option maxRecDepth 100000 in
theorem cs_call {p : Program} {l : Launch} {e : Env} {R : Room} {s : State} {m : MethodId} {args : Array Value} {below : List Frame} {meth : Method} {c : Code} {Q : State → Prop} {dC : Nat → ClassId} {dI : Nat → Nat → Nat} {d : ClassId} {r : Nat} {A : Nat → Prop} (F : cs_Fx p s m args c A R) {pc x y : Nat} {f : Nat → Int32} {lv : List (Nat × Value)} (hdg : decode cX2_cryptoSort pc = .ok (.invokestatic 8, 3)) (hx64 : x < 64) (hy64 : y < 64) (hxy : x ≠ y) (hf : ns_Nn f) (kk : cs_W p l e R s m args below meth c Q dC dI d r A (pc + 3) [] (ns_cx f x y) lv) : cs_W p l e R s m args below meth c Q dC dI d r A pc [.int (nI y), .int (nI x), .ref r] f lv := by
  intro H locs ls hK hP hD hS hl
  obtain ⟨hx, hb, hml, hown, hts, hA, hR1, hR2⟩ := F
  have hFc := va_free (wc := [(r, .inl (d, 64, .inl f))]) hD hS hA [0] rfl
  refine va_callv (va_runS (As := [.ref r, .int (nI x), .int (nI y)]) (rest := []) ⟨hx, hb, hml, hown, hts⟩ (met_minmax l dC dI d r H.size f x y hx64 hy64 hxy hf) (va_cwS 3 hts (lw_S q41 q42 q3 q43) rfl rfl rfl (by decide +kernel) ⟨hR1, hR2⟩) ⟨fun a U g mk q => by obtain ⟨q0, q1, qP, qK, qD⟩ := q; exact ⟨q0, q1, qP, va_K.moved (u := U) (U := U.calling g mk a) (Vm.Alike.refl U.vm) qK, qD⟩, fun U hU hW => ⟨rfl, by rw [hU], by rw [hU]; exact hP, va_K.moved hW.alike hK, hD.weaken (fun _ _ _ _ => trivial)⟩⟩ rfl rfl hl.1 rfl (lv_room (Nat.le_of_ble_eq_true rfl)) hdg ⟨Nat.zero_le _, Nat.zero_le _⟩) hS (fun q _ h => hFc q h) hFc (fun u t H1 locs ht hvm hw1 hB hz1 hk1 hS => ?_)
  have hw1 : u = ns_cx f x y := hw1
  subst hw1
  obtain ⟨hP1, hK1, hD1⟩ := hB
  rw [ht] at hP1
  exact kk H1 locs ls hK hP1 (hD1.weaken (fun _ q _ h => hFc q.1 h)) hS hl
set_option maxHeartbeats 4000000 in
set_option maxRecDepth 100000 in
/-- the first pass of a stage: pc 31 to 62 -/
theorem cs_pass1 {p : Program} {l : Launch} {e : Env} {R : Room} {s : State} {m : MethodId} {args : Array Value} {below : List Frame} {meth : Method} {c : Code} {Q : State → Prop} {dC : Nat → ClassId} {dI : Nat → Nat → Nat} {d : ClassId} {r : Nat} {A : Nat → Prop} (F : cs_Fx p s m args c A R) {n top a : Nat} {f0 f : Nat → Int32} (hn : n ≤ 64) (ha0 : 0 < a) (han : a ≤ n) (hI : ns_I n f0 f) (kk : cs_W p l e R s m args below meth c Q dC dI d r A 62 [] (ns_ps f a 0 a (n - a)) [(0, .ref r), (1, .int (nI n)), (2, .int (nI top)), (3, .int (nI a))]) : ∀ k i, i + k = n - a → cs_W p l e R s m args below meth c Q dC dI d r A 31 [] (ns_ps f a 0 a i) [(5, .int (nI i)), (0, .ref r), (1, .int (nI n)), (2, .int (nI top)), (3, .int (nI a))] := by
  have F' := F
  obtain ⟨hx, hb, hml, hown, hts, hA, hR1, hR2⟩ := F'
  intro k
  induction k with
  | zero =>
    intro i hi H locs ls hK hP hD hS hl
    have hi : i = n - a := by omega
    refine lv_iload hx hb dX2_cryptoSort_31 (lv_at hl 0 rfl) ?_
    refine lv_iload_n hx hb dX2_cryptoSort_33 rfl (lv_at hl 2 rfl) ?_
    refine lv_iload_n hx hb dX2_cryptoSort_34 rfl (lv_at hl 4 rfl) ?_
    refine lv_isub hx hb dX2_cryptoSort_35 ?_
    rw [pk_sub han]
    refine lv_icmp_ge (tgt := 62) hx hb dX2_cryptoSort_36 (by decide) (fun _ => ?_) (fun c1 => absurd (nI_le (by omega) (by omega)) c1)
    subst hi
    exact kk H locs ls hK hP hD hS (lv_sub hl [1, 2, 3, 4] rfl)
  | succ k ih =>
    intro i hi
    have inc : ∀ f', cs_W p l e R s m args below meth c Q dC dI d r A 31 [] f' [(5, .int (nI (i + 1))), (0, .ref r), (1, .int (nI n)), (2, .int (nI top)), (3, .int (nI a))] → cs_W p l e R s m args below meth c Q dC dI d r A 56 [] f' [(5, .int (nI i)), (0, .ref r), (1, .int (nI n)), (2, .int (nI top)), (3, .int (nI a))] := by
      intro f' kf H locs ls hK hP hD hS hl
      refine lv_iinc (v := nI (i + 1)) (lv' := [(5, .int (nI (i + 1))), (0, .ref r), (1, .int (nI n)), (2, .int (nI top)), (3, .int (nI a))]) hx hb dX2_cryptoSort_56 hl (k := 0) rfl (nI_1 i) (by decide) rfl (fun ls hl => ?_)
      refine lv_goto (tgt := 31) hx hb dX2_cryptoSort_59 (by decide) ?_
      exact kf H locs ls hK hP hD hS hl
    intro H locs ls hK hP hD hS hl
    refine lv_iload hx hb dX2_cryptoSort_31 (lv_at hl 0 rfl) ?_
    refine lv_iload_n hx hb dX2_cryptoSort_33 rfl (lv_at hl 2 rfl) ?_
    refine lv_iload_n hx hb dX2_cryptoSort_34 rfl (lv_at hl 4 rfl) ?_
    refine lv_isub hx hb dX2_cryptoSort_35 ?_
    rw [pk_sub han]
    refine lv_icmp_ge (tgt := 62) hx hb dX2_cryptoSort_36 (by decide) (fun c1 => absurd c1 (nI_ge (by omega) (by omega))) (fun _ => ?_)
    refine lv_iload hx hb dX2_cryptoSort_39 (lv_at hl 0 rfl) ?_
    refine lv_iload_n hx hb dX2_cryptoSort_41 rfl (lv_at hl 4 rfl) ?_
    refine lv_iand hx hb dX2_cryptoSort_42 ?_
    rw [ns_andN (by omega) (by omega)]
    have hle : i &&& a ≤ i := Nat.and_le_left
    refine lv_if_ne (tgt := 56) hx hb dX2_cryptoSort_43 (by decide) (fun c2 => ?_) (fun c2 => ?_)
    · have t : ¬ i &&& a = 0 := fun z => c2 (by rw [z]; exact nI_0)
      have g := ih (i + 1) (by omega)
      rw [ns_ps_f t] at g
      exact inc _ g H locs ls hK hP hD hS hl
    · have t : i &&& a = 0 := by
        rcases Nat.eq_zero_or_pos (i &&& a) with z | z
        · exact z
        · exact absurd c2 (nI_ne0 z (by omega))
      have g := ih (i + 1) (by omega)
      rw [ns_ps_t t] at g
      refine lv_aload_n hx hb dX2_cryptoSort_46 rfl (lv_at hl 1 rfl) ?_
      refine lv_iload hx hb dX2_cryptoSort_47 (lv_at hl 0 rfl) ?_
      refine lv_iload hx hb dX2_cryptoSort_49 (lv_at hl 0 rfl) ?_
      refine lv_iload_n hx hb dX2_cryptoSort_51 rfl (lv_at hl 4 rfl) ?_
      refine lv_iadd hx hb dX2_cryptoSort_52 ?_
      rw [nI_add]
      exact cs_call F dX2_cryptoSort_53 (by omega) (by omega) (by omega) (ns_ps_I (u := 0) (w := a) ha0 hI i (by omega)).2.2 (inc _ g) H locs ls hK hP hD hS hl
set_option maxHeartbeats 4000000 in
set_option maxRecDepth 100000 in
/-- a further pass of a stage: pc 74 to 109 -/
theorem cs_pass2 {p : Program} {l : Launch} {e : Env} {R : Room} {s : State} {m : MethodId} {args : Array Value} {below : List Frame} {meth : Method} {c : Code} {Q : State → Prop} {dC : Nat → ClassId} {dI : Nat → Nat → Nat} {d : ClassId} {r : Nat} {A : Nat → Prop} (F : cs_Fx p s m args c A R) {n top a b : Nat} {f0 f : Nat → Int32} (hn : n ≤ 64) (hab : a < b) (hbn : b ≤ n) (hI : ns_I n f0 f) (kk : cs_W p l e R s m args below meth c Q dC dI d r A 109 [] (ns_ps f a a b (n - b)) [(0, .ref r), (1, .int (nI n)), (2, .int (nI top)), (3, .int (nI a)), (4, .int (nI b))]) : ∀ k i, i + k = n - b → cs_W p l e R s m args below meth c Q dC dI d r A 74 [] (ns_ps f a a b i) [(5, .int (nI i)), (0, .ref r), (1, .int (nI n)), (2, .int (nI top)), (3, .int (nI a)), (4, .int (nI b))] := by
  have F' := F
  obtain ⟨hx, hb, hml, hown, hts, hA, hR1, hR2⟩ := F'
  intro k
  induction k with
  | zero =>
    intro i hi H locs ls hK hP hD hS hl
    have hi : i = n - b := by omega
    refine lv_iload hx hb dX2_cryptoSort_74 (lv_at hl 0 rfl) ?_
    refine lv_iload_n hx hb dX2_cryptoSort_76 rfl (lv_at hl 2 rfl) ?_
    refine lv_iload hx hb dX2_cryptoSort_77 (lv_at hl 5 rfl) ?_
    refine lv_isub hx hb dX2_cryptoSort_79 ?_
    rw [pk_sub hbn]
    refine lv_icmp_ge (tgt := 109) hx hb dX2_cryptoSort_80 (by decide) (fun _ => ?_) (fun c1 => absurd (nI_le (by omega) (by omega)) c1)
    subst hi
    exact kk H locs ls hK hP hD hS (lv_sub hl [1, 2, 3, 4, 5] rfl)
  | succ k ih =>
    intro i hi
    have inc : ∀ f', cs_W p l e R s m args below meth c Q dC dI d r A 74 [] f' [(5, .int (nI (i + 1))), (0, .ref r), (1, .int (nI n)), (2, .int (nI top)), (3, .int (nI a)), (4, .int (nI b))] → cs_W p l e R s m args below meth c Q dC dI d r A 103 [] f' [(5, .int (nI i)), (0, .ref r), (1, .int (nI n)), (2, .int (nI top)), (3, .int (nI a)), (4, .int (nI b))] := by
      intro f' kf H locs ls hK hP hD hS hl
      refine lv_iinc (v := nI (i + 1)) (lv' := [(5, .int (nI (i + 1))), (0, .ref r), (1, .int (nI n)), (2, .int (nI top)), (3, .int (nI a)), (4, .int (nI b))]) hx hb dX2_cryptoSort_103 hl (k := 0) rfl (nI_1 i) (by decide) rfl (fun ls hl => ?_)
      refine lv_goto (tgt := 74) hx hb dX2_cryptoSort_106 (by decide) ?_
      exact kf H locs ls hK hP hD hS hl
    intro H locs ls hK hP hD hS hl
    refine lv_iload hx hb dX2_cryptoSort_74 (lv_at hl 0 rfl) ?_
    refine lv_iload_n hx hb dX2_cryptoSort_76 rfl (lv_at hl 2 rfl) ?_
    refine lv_iload hx hb dX2_cryptoSort_77 (lv_at hl 5 rfl) ?_
    refine lv_isub hx hb dX2_cryptoSort_79 ?_
    rw [pk_sub hbn]
    refine lv_icmp_ge (tgt := 109) hx hb dX2_cryptoSort_80 (by decide) (fun c1 => absurd c1 (nI_ge (by omega) (by omega))) (fun _ => ?_)
    refine lv_iload hx hb dX2_cryptoSort_83 (lv_at hl 0 rfl) ?_
    refine lv_iload_n hx hb dX2_cryptoSort_85 rfl (lv_at hl 4 rfl) ?_
    refine lv_iand hx hb dX2_cryptoSort_86 ?_
    rw [ns_andN (by omega) (by omega)]
    have hle : i &&& a ≤ i := Nat.and_le_left
    refine lv_if_ne (tgt := 103) hx hb dX2_cryptoSort_87 (by decide) (fun c2 => ?_) (fun c2 => ?_)
    · have t : ¬ i &&& a = 0 := fun z => c2 (by rw [z]; exact nI_0)
      have g := ih (i + 1) (by omega)
      rw [ns_ps_f t] at g
      exact inc _ g H locs ls hK hP hD hS hl
    · have t : i &&& a = 0 := by
        rcases Nat.eq_zero_or_pos (i &&& a) with z | z
        · exact z
        · exact absurd c2 (nI_ne0 z (by omega))
      have g := ih (i + 1) (by omega)
      rw [ns_ps_t t] at g
      refine lv_aload_n hx hb dX2_cryptoSort_90 rfl (lv_at hl 1 rfl) ?_
      refine lv_iload hx hb dX2_cryptoSort_91 (lv_at hl 0 rfl) ?_
      refine lv_iload_n hx hb dX2_cryptoSort_93 rfl (lv_at hl 4 rfl) ?_
      refine lv_iadd hx hb dX2_cryptoSort_94 ?_
      rw [nI_add]
      refine lv_iload hx hb dX2_cryptoSort_95 (lv_at hl 0 rfl) ?_
      refine lv_iload hx hb dX2_cryptoSort_97 (lv_at hl 5 rfl) ?_
      refine lv_iadd hx hb dX2_cryptoSort_99 ?_
      rw [nI_add]
      exact cs_call F dX2_cryptoSort_100 (by omega) (by omega) (by omega) (ns_ps_I hab hI i (by omega)).2.2 (inc _ g) H locs ls hK hP hD hS hl
set_option maxHeartbeats 4000000 in
set_option maxRecDepth 100000 in
/-- the loop over b: pc 65 to 118; b = 2^(k+t) falls to a = 2^k -/
theorem cs_loopD {p : Program} {l : Launch} {e : Env} {R : Room} {s : State} {m : MethodId} {args : Array Value} {below : List Frame} {meth : Method} {c : Code} {Q : State → Prop} {dC : Nat → ClassId} {dI : Nat → Nat → Nat} {d : ClassId} {r : Nat} {A : Nat → Prop} (F : cs_Fx p s m args c A R) {n top k : Nat} {f0 : Nat → Int32} (hn : n ≤ 64) (kk : ∀ f, ns_I n f0 f → ns_S n (2 ^ k) f → cs_W p l e R s m args below meth c Q dC dI d r A 118 [] f [(0, .ref r), (1, .int (nI n)), (2, .int (nI top)), (3, .int (nI (2 ^ k)))]) : ∀ t, 2 ^ (k + t) ≤ n → ∀ f, ns_I n f0 f → ns_S n (2 * 2 ^ k) f → ns_A n (2 ^ k) f → ns_B n (2 ^ k) (2 * 2 ^ (k + t)) f → cs_W p l e R s m args below meth c Q dC dI d r A 65 [] f [(4, .int (nI (2 ^ (k + t)))), (0, .ref r), (1, .int (nI n)), (2, .int (nI top)), (3, .int (nI (2 ^ k)))] := by
  have F' := F
  obtain ⟨hx, hb, hml, hown, hts, hA0, hR1, hR2⟩ := F'
  intro t
  induction t with
  | zero =>
    intro ht f hI hSS hA hB H locs ls hK hP hD hS hl
    refine lv_iload hx hb dX2_cryptoSort_65 (lv_at hl 0 rfl) ?_
    refine lv_iload_n hx hb dX2_cryptoSort_67 rfl (lv_at hl 4 rfl) ?_
    have ht : 2 ^ k ≤ n := ht
    refine lv_icmp_le (tgt := 118) hx hb dX2_cryptoSort_68 (by decide) (fun _ => ?_) (fun c1 => absurd (nI_le (Nat.le_refl (2 ^ k)) (by omega)) c1)
    exact kk f hI (ns_stage3 hA hB) H locs ls hK hP hD hS (lv_sub hl [1, 2, 3, 4] rfl)
  | succ t ih =>
    intro ht f hI hSS hA hB H locs ls hK hP hD hS hl
    have hlt : 2 ^ k < 2 ^ (k + (t + 1)) := Nat.pow_lt_pow_right (by decide) (by omega)
    have hd2 : 2 ^ (k + (t + 1)) = 2 * 2 ^ (k + t) := by
      rw [show k + (t + 1) = (k + t) + 1 by omega, Nat.pow_succ]
      omega
    obtain ⟨g1, g2, g3⟩ := ns_stage2 (n := n) (k := k) (j := k + (t + 1)) (by omega) hSS hA hB
    have gI := ns_ps_I (u := 2 ^ k) (w := 2 ^ (k + (t + 1))) (a := 2 ^ k) hlt hI (n - 2 ^ (k + (t + 1))) (by omega)
    refine lv_iload hx hb dX2_cryptoSort_65 (lv_at hl 0 rfl) ?_
    refine lv_iload_n hx hb dX2_cryptoSort_67 rfl (lv_at hl 4 rfl) ?_
    refine lv_icmp_le (tgt := 118) hx hb dX2_cryptoSort_68 (by decide) (fun c1 => absurd c1 (nI_ge hlt (by omega))) (fun _ => ?_)
    refine lv_iconst (v := 0) hx hb dX2_cryptoSort_71 (by decide) ?_
    refine lv_istore (lv' := [(5, .int 0), (4, .int (nI (2 ^ (k + (t + 1))))), (0, .ref r), (1, .int (nI n)), (2, .int (nI top)), (3, .int (nI (2 ^ k)))]) hx hb dX2_cryptoSort_72 hl (by decide) rfl (fun ls hl => ?_)
    refine cs_pass2 F (a := 2 ^ k) (b := 2 ^ (k + (t + 1))) hn hlt ht hI ?_ (n - 2 ^ (k + (t + 1))) 0 (by omega) H locs ls hK hP hD hS (lv_sub hl [0, 2, 3, 4, 5, 1] rfl)
    intro H locs ls hK hP hD hS hl
    refine lv_iload hx hb dX2_cryptoSort_109 (lv_at hl 4 rfl) ?_
    refine lv_iconst (v := 1) hx hb dX2_cryptoSort_111 (by decide) ?_
    refine lv_iushr (v := nI (2 ^ (k + t))) hx hb dX2_cryptoSort_112 (by rw [pk_ushrN (by omega) 1 1 (by decide), show 2 ^ (k + (t + 1)) / 2 ^ 1 = 2 ^ (k + t) from ns_half (k + t)]) ?_
    refine lv_istore (lv' := [(4, .int (nI (2 ^ (k + t)))), (0, .ref r), (1, .int (nI n)), (2, .int (nI top)), (3, .int (nI (2 ^ k)))]) hx hb dX2_cryptoSort_113 hl (by decide) rfl (fun ls hl => ?_)
    refine lv_goto (tgt := 65) hx hb dX2_cryptoSort_115 (by decide) ?_
    refine ih (by omega) _ gI g1 g2 ?_ H locs ls hK hP hD hS hl
    rw [← hd2]
    exact g3
set_option maxHeartbeats 4000000 in
set_option maxRecDepth 100000 in
/-- the loop over a: pc 24 to 125; a = 2^k / 2 falls from 2^K to 0 -/
theorem cs_loopB {p : Program} {l : Launch} {e : Env} {R : Room} {s : State} {m : MethodId} {args : Array Value} {below : List Frame} {meth : Method} {c : Code} {Q : State → Prop} {dC : Nat → ClassId} {dI : Nat → Nat → Nat} {d : ClassId} {r : Nat} {A : Nat → Prop} (F : cs_Fx p s m args c A R) {n K : Nat} {f0 : Nat → Int32} (hn : n ≤ 64) (hK1 : 2 ^ K ≤ n) (hK2 : n ≤ 2 * 2 ^ K) (kk : ∀ f, ns_Of n f0 f → cs_W p l e R s m args below meth c Q dC dI d r A 125 [] f [(0, .ref r)]) : ∀ k, k ≤ K + 1 → ∀ f, ns_I n f0 f → ns_S n (2 ^ k) f → cs_W p l e R s m args below meth c Q dC dI d r A 24 [] f [(3, .int (nI (2 ^ k / 2))), (0, .ref r), (1, .int (nI n)), (2, .int (nI (2 ^ K)))] := by
  have F' := F
  obtain ⟨hx, hb, hml, hown, hts, hA0, hR1, hR2⟩ := F'
  intro k
  induction k with
  | zero =>
    intro hk f hI hSS H locs ls hK hP hD hS hl
    refine lv_iload_n hx hb dX2_cryptoSort_24 rfl (lv_at hl 0 rfl) ?_
    refine lv_if_le (tgt := 125) hx hb dX2_cryptoSort_25 (by decide) (fun _ => ?_) (fun c1 => absurd (by decide) c1)
    exact kk f (ns_end hI hSS) H locs ls hK hP hD hS (lv_sub hl [1] rfl)
  | succ k ih =>
    intro hk f hI hSS
    have e2 : 2 ^ (k + 1) = 2 * 2 ^ k := by rw [Nat.pow_succ]; omega
    have eh : 2 ^ (k + 1) / 2 = 2 ^ k := by omega
    have hp : 0 < 2 ^ k := Nat.two_pow_pos k
    have hle : 2 ^ k ≤ 2 ^ K := Nat.pow_le_pow_right (by decide) (by omega)
    rw [e2] at hSS
    rw [eh]
    obtain ⟨g1, g2⟩ := ns_stage1 hSS
    have gI := ns_ps_I (u := 0) (w := 2 ^ k) (a := 2 ^ k) hp hI (n - 2 ^ k) (by omega)
    intro H locs ls hK hP hD hS hl
    refine lv_iload_n hx hb dX2_cryptoSort_24 rfl (lv_at hl 0 rfl) ?_
    refine lv_if_le (tgt := 125) hx hb dX2_cryptoSort_25 (by decide) (fun c1 => absurd c1 (nI_nle hp (by omega))) (fun _ => ?_)
    refine lv_iconst (v := 0) hx hb dX2_cryptoSort_28 (by decide) ?_
    refine lv_istore (lv' := [(5, .int 0), (3, .int (nI (2 ^ k))), (0, .ref r), (1, .int (nI n)), (2, .int (nI (2 ^ K)))]) hx hb dX2_cryptoSort_29 hl (by decide) rfl (fun ls hl => ?_)
    refine cs_pass1 F (top := 2 ^ K) (a := 2 ^ k) hn hp (by omega) hI ?_ (n - 2 ^ k) 0 (by omega) H locs ls hK hP hD hS (lv_sub hl [0, 2, 3, 4, 1] rfl)
    intro H locs ls hK hP hD hS hl
    refine lv_iload_n hx hb dX2_cryptoSort_62 rfl (lv_at hl 2 rfl) ?_
    refine lv_istore (lv' := [(4, .int (nI (2 ^ K))), (0, .ref r), (1, .int (nI n)), (2, .int (nI (2 ^ K))), (3, .int (nI (2 ^ k)))]) hx hb dX2_cryptoSort_63 hl (by decide) rfl (fun ls hl => ?_)
    have ek : k + (K - k) = K := by omega
    have D := cs_loopD (l := l) (e := e) (below := below) (meth := meth) (Q := Q) (dC := dC) (dI := dI) (d := d) (r := r) F (n := n) (top := 2 ^ K) (k := k) (f0 := f0) hn (fun f' hI' hS' => by
      intro H locs ls hK hP hD hS hl
      refine lv_iload_n hx hb dX2_cryptoSort_118 rfl (lv_at hl 3 rfl) ?_
      refine lv_iconst (v := 1) hx hb dX2_cryptoSort_119 (by decide) ?_
      refine lv_iushr (v := nI (2 ^ k / 2)) hx hb dX2_cryptoSort_120 (by rw [pk_ushrN (by omega) 1 1 (by decide)]) ?_
      refine lv_istore_n (lv' := [(3, .int (nI (2 ^ k / 2))), (0, .ref r), (1, .int (nI n)), (2, .int (nI (2 ^ K)))]) hx hb dX2_cryptoSort_121 rfl hl (by decide) rfl (fun ls hl => ?_)
      refine lv_goto (tgt := 24) hx hb dX2_cryptoSort_122 (by decide) ?_
      exact ih (by omega) f' hI' hS' H locs ls hK hP hD hS hl) (K - k)
    rw [ek] at D
    exact D hK1 _ gI g1 g2 (fun i t hi => by omega) H locs ls hK hP hD hS hl
set_option maxHeartbeats 4000000 in
set_option maxRecDepth 100000 in
/-- the loop that doubles top: pc 8 to 22 -/
theorem cs_loopA {p : Program} {l : Launch} {e : Env} {R : Room} {s : State} {m : MethodId} {args : Array Value} {below : List Frame} {meth : Method} {c : Code} {Q : State → Prop} {dC : Nat → ClassId} {dI : Nat → Nat → Nat} {d : ClassId} {r : Nat} {A : Nat → Prop} (F : cs_Fx p s m args c A R) {n : Nat} {f : Nat → Int32} (hn : n ≤ 64) (kk : ∀ K, 2 ^ K ≤ n → n ≤ 2 * 2 ^ K → cs_W p l e R s m args below meth c Q dC dI d r A 22 [] f [(0, .ref r), (1, .int (nI n)), (2, .int (nI (2 ^ K)))]) : ∀ t K, 2 ^ K < n → n ≤ 2 ^ K + t → cs_W p l e R s m args below meth c Q dC dI d r A 8 [] f [(2, .int (nI (2 ^ K))), (0, .ref r), (1, .int (nI n))] := by
  have F' := F
  obtain ⟨hx, hb, hml, hown, hts, hA0, hR1, hR2⟩ := F'
  intro t
  induction t with
  | zero => intro K h1 h2; omega
  | succ t ih =>
    intro K h1 h2 H locs ls hK hP hD hS hl
    have hp : 0 < 2 ^ K := Nat.two_pow_pos K
    refine lv_iload_n hx hb dX2_cryptoSort_8 rfl (lv_at hl 0 rfl) ?_
    refine lv_iload_n hx hb dX2_cryptoSort_9 rfl (lv_at hl 2 rfl) ?_
    refine lv_iload_n hx hb dX2_cryptoSort_10 rfl (lv_at hl 0 rfl) ?_
    refine lv_isub hx hb dX2_cryptoSort_11 ?_
    rw [pk_sub (by omega)]
    refine lv_icmp_ge (tgt := 22) hx hb dX2_cryptoSort_12 (by decide) (fun c1 => ?_) (fun c1 => ?_)
    · have c2 : n - 2 ^ K ≤ 2 ^ K := (nI_leI (by omega) (by omega)).mp c1
      exact kk K (by omega) (by omega) H locs ls hK hP hD hS (lv_sub hl [1, 2, 0] rfl)
    · have c2 : ¬ n - 2 ^ K ≤ 2 ^ K := fun z => c1 (nI_le z (by omega))
      have e2 : 2 ^ K + 2 ^ K = 2 ^ (K + 1) := by rw [Nat.pow_succ]; omega
      refine lv_iload_n hx hb dX2_cryptoSort_15 rfl (lv_at hl 0 rfl) ?_
      refine lv_iload_n hx hb dX2_cryptoSort_16 rfl (lv_at hl 0 rfl) ?_
      refine lv_iadd hx hb dX2_cryptoSort_17 ?_
      rw [nI_add, e2]
      refine lv_istore_n (lv' := [(2, .int (nI (2 ^ (K + 1)))), (0, .ref r), (1, .int (nI n))]) hx hb dX2_cryptoSort_18 rfl hl (by decide) rfl (fun ls hl => ?_)
      refine lv_goto (tgt := 8) hx hb dX2_cryptoSort_19 (by decide) ?_
      exact ih (K + 1) (by omega) (by omega) H locs ls hK hP hD hS hl
set_option maxHeartbeats 4000000 in
set_option maxRecDepth 100000 in
/-- Utils.cryptoSort(L, n): the first n in ascending order (no value negative, 2 ≤ n ≤ 64) -/
theorem met_cs (l : Launch) (dC : Nat → ClassId) (dI : Nat → Nat → Nat) (d : ClassId) (r sz : Nat) (f : Nat → Int32) (n : Nat) (h2 : 2 ≤ n) (hn : n ≤ 64) (hf : ns_Nn f) : Met l yX2_cryptoSort wsX2_cs ({ frames := 1, cells := 0, slots := 0, locals := 26 }) (va_Pc [.ref r, .int (nI n)] (fun U => U.heap.size = sz ∧ va_P (dC, dI) vwCl [(r, .inl (d, 64, .inl f))] U.heap ∧ va_K (dC, dI) vwCl [(d, .int)] U ∧ va_D (fun _ => True) [(r, .inl (d, 64, .inl f))])) (va_Qv (fun u : Nat → Int32 => ns_Of n f u) (BX2 dC dI d (va_A [(r, .inl (d, 64, .inl f))] sz) r) (va_A [(r, .inl (d, 64, .inl f))] sz)) 0 0 (va_A [(r, .inl (d, 64, .inl f))] sz) := by
  refine Met.ofW (cc := cX2_cryptoSort) (maxL := 6) (ret := none) (by decide) rfl ?_
  intro p e s m args below meth c s₁ B hml hv
  obtain ⟨rfl, hsz, hP, hK, hD0⟩ := hv
  have hx := B.exec
  have hb := B.bytes
  have hr := B.returns
  have hts := atoms_spec (ws := wsX2_cs) B.pre
  have hts : ∀ w ∈ lw_all, w.before _ s = true := fun w h => hts w (List.mem_cons_of_mem _ h)
  have hown : s.vm.findClass RX2 = some m.cls := findClass_of_methodNamed B.named
  have hlocks := B.notSynchronized
  subst hsz
  have hD := hD0.self (sz := s.heap.size)
  generalize hAe : va_A [(r, .inl (d, 64, .inl f))] s.heap.size = A at hD ⊢
  have hA : ∀ q : Nat, s.heap.size ≤ q → A q := fun q h => by rw [← hAe]; exact Or.inr h
  have hS : va_S A s.heap s.heap [] := va_S.rf
  have hP : va_P (dC, dI) vwCl [(r, .inl (d, 64, .inl f))] s.heap := hP
  have hl := lv_entry ([.ref r, .int (nI n)]) (n := 6) (Nat.le_of_ble_eq_true rfl)
  rw [lg_entry_eq]
  generalize (lg_sl ([.ref r, .int (nI n)]) ++ List.replicate (6 - (lg_sl ([.ref r, .int (nI n)])).length) Slot.unset).toArray = ls at hl ⊢
  have hl : lv_has ls 6 [(0, .ref r), (1, .int (nI n))] := hl
  have F : cs_Fx p s m ([.ref r, .int (nI n)] : List Value).toArray c A (headSpec wsX2_cs ({ frames := 1, cells := 0, slots := 0, locals := 26 })).room := ⟨hx, hb, hml, hown, hts, hA, Nat.le_of_ble_eq_true rfl, Nat.le_of_ble_eq_true rfl⟩
  refine lv_iload_n hx hb dX2_cryptoSort_0 rfl (lv_at hl 1 rfl) ?_
  refine lv_iconst (v := 2) hx hb dX2_cryptoSort_1 (by decide) ?_
  refine lv_icmp_ge (tgt := 6) hx hb dX2_cryptoSort_2 (by decide) (fun _ => ?_) (fun c1 => absurd (show (2 : Int32) ≤ nI n from nI_le (a := 2) h2 (by omega)) c1)
  refine lv_iconst (v := 1) hx hb dX2_cryptoSort_6 (by decide) ?_
  refine lv_istore_n (lv' := [(2, .int 1), (0, .ref r), (1, .int (nI n))]) hx hb dX2_cryptoSort_7 rfl hl (by decide) rfl (fun ls hl => ?_)
  refine cs_loopA F (n := n) (f := f) hn (fun K hK1 hK2 => ?_) n 0 (by omega) (by omega) s.heap [] ls hK hP hD hS hl
  intro H locs ls hK hP hD hS hl
  refine lv_iload_n hx hb dX2_cryptoSort_22 rfl (lv_at hl 2 rfl) ?_
  have eh : 2 ^ (K + 1) / 2 = 2 ^ K := by rw [Nat.pow_succ]; omega
  refine lv_istore_n (lv' := [(3, .int (nI (2 ^ (K + 1) / 2))), (0, .ref r), (1, .int (nI n)), (2, .int (nI (2 ^ K)))]) hx hb dX2_cryptoSort_23 rfl hl (by decide) (by rw [eh]; rfl) (fun ls hl => ?_)
  refine cs_loopB F (n := n) (K := K) (f0 := f) hn hK1 hK2 (fun f' hO => ?_) (K + 1) (Nat.le_refl _) f (ns_I_rf hf) (fun i hi => by rw [Nat.pow_succ] at hi; omega) H locs ls hK hP hD hS hl
  intro H locs ls hK hP hD hS hl
  exact W.vret hx hb hr (fun t ht hW => ⟨⟨f', rfl, hO, by rw [ht]; exact hP, va_K.moved hW.alike hK, hD⟩, hS.F ht⟩) hS.2.2 dX2_cryptoSort_125
end
section
/-! The two classes with a row of 64 ints and a length: worlds, loops, contracts. -/
/-- the world behind a call: the object h of class k, its row r -/
abbrev Bw (dC : Nat → ClassId) (dI : Nat → Nat → Nat) (k : Nat) (d : ClassId) (A : Nat → Prop) (h r : Nat) (f : Nat → Int32) (n : Nat) (t : State) : Prop := va_P (dC, dI) vwCl [(h, .inr (k, [.ref r, .int (nI n)])), (r, .inl (d, 64, .inl f))] t.heap ∧ va_K (dC, dI) vwCl [(d, .int)] t ∧ va_D A [(h, .inr (k, [.ref r, .int (nI n)])), (r, .inl (d, 64, .inl f))]
/-- what stays the same through a call of a method with a loop -/
def cw_Fx (p : Program) (s : State) (m : MethodId) (args : Array Value) (c : Code) (A : Nat → Prop) (cc : ByteArray) (own : String) (nL : Nat) : Prop := p.tables.exec = Jvm.exec ∧ c.code = cc ∧ c.maxLocals = nL ∧ s.vm.findClass own = some m.cls ∧ (∀ w ∈ lw_all, w.before args s = true) ∧ (∀ q : Nat, s.heap.size ≤ q → A q)
/-- from pc, with the row f, the length n and the locals lv, the goal is reached -/
def cw_W (p : Program) (l : Launch) (e : Env) (R : Room) (s : State) (m : MethodId) (args : Array Value) (below : List Frame) (meth : Method) (c : Code) (Q : State → Prop) (dC : Nat → ClassId) (dI : Nat → Nat → Nat) (d : ClassId) (h r : Nat) (A : Nat → Prop) (k n nL : Nat) (pc : Nat) (f : Nat → Int32) (lv : List (Nat × Value)) : Prop := ∀ (H : Heap) (locs : List Loc) (ls : Array Slot), va_K (dC, dI) vwCl [(d, .int)] s → va_P (dC, dI) vwCl [(h, .inr (k, [.ref r, .int (nI n)])), (r, .inl (d, 64, .inl f))] H → va_D A [(h, .inr (k, [.ref r, .int (nI n)])), (r, .inl (d, 64, .inl f))] → va_S A s.heap H locs → lv_has ls nL lv → W p l e R s m args below meth c H locs 0 0 Q (F0 m pc ls [])
/-! CLASS NetworkSort -/
abbrev wsX0_init : List Cond := ws_ yX0_init cX0_init 1 none
abbrev wsX0_set : List Cond := ws_ yX0_set cX0_set 3 none
abbrev wsX0_fill : List Cond := ws_ yX0_fill cX0_fill 4 none
abbrev wsX0_length : List Cond := ws_ yX0_length cX0_length 2 none
abbrev wsX0_sort : List Cond := ws_ yX0_sort cX0_sort 1 none
abbrev wsX0_get : List Cond := ws_ yX0_get cX0_get 2 (some .int)
abbrev wsX0_length_2 : List Cond := ws_ yX0_length_2 cX0_length_2 1 (some .int)
abbrev wsX0_sum : List Cond := ws_ yX0_sum cX0_sum 4 (some .long)
set_option maxHeartbeats 4000000 in
set_option maxRecDepth 100000 in
/-- NetworkSort(): a new row of 64 zeros, the length 64 -/
theorem met0_init (l : Launch) (dC : Nat → ClassId) (dI : Nat → Nat → Nat) (h sz : Nat) : Met l yX0_init wsX0_init ({ frames := 1, cells := 1, slots := 64, locals := 12 }) (va_Pc [.ref h] (fun U => U.heap.size = sz ∧ va_P (dC, dI) vwCl [(h, .inr (0, [.null, .int 0]))] U.heap ∧ va_K (dC, dI) vwCl [] U ∧ va_D (fun _ => True) [(h, .inr (0, [.null, .int 0]))])) (va_Qv (fun _ : ClassId × Nat => True) (fun u t => Bw dC dI 0 u.1 (va_A [(h, .inr (0, [.null, .int 0]))] sz) h u.2 (fun _ => 0) 64 t) (va_A [(h, .inr (0, [.null, .int 0]))] sz)) 1 64 (va_A [(h, .inr (0, [.null, .int 0]))] sz) := by
  refine Met.ofW (cc := cX0_init) (maxL := 1) (ret := none) (by decide) rfl ?_
  intro p e s m args below meth c s₁ B hml hv
  obtain ⟨rfl, hsz, hP, hK, hD0⟩ := hv
  have hx := B.exec
  have hb := B.bytes
  have hr := B.returns
  have hts := atoms_spec (ws := wsX0_init) B.pre
  have hts : ∀ w ∈ lw_all, w.before _ s = true := fun w h => hts w (List.mem_cons_of_mem _ h)
  have hown : s.vm.findClass RX0 = some m.cls := findClass_of_methodNamed B.named
  have hlocks := B.notSynchronized
  have hin : meth.name = "<init>" := (name_of_methodNamed B.named B.method).1
  subst hsz
  have hD := hD0.self (sz := s.heap.size)
  generalize hAe : va_A [(h, .inr (0, [.null, .int 0]))] s.heap.size = A at hD ⊢
  have hA : ∀ q : Nat, s.heap.size ≤ q → A q := fun q h => by rw [← hAe]; exact Or.inr h
  have hS : va_S A s.heap s.heap [] := va_S.rf
  have hP : va_P (dC, dI) vwCl [(h, .inr (0, [.null, .int 0]))] s.heap := hP
  have hl := lv_entry ([.ref h]) (n := 1) (Nat.le_of_ble_eq_true rfl)
  rw [lg_entry_eq]
  generalize (lg_sl ([.ref h]) ++ List.replicate (1 - (lg_sl ([.ref h])).length) Slot.unset).toArray = ls at hl ⊢
  have hl : lv_has ls 1 [(0, .ref h)] := hl
  refine lv_aload_n hx hb dX0_init_0 rfl (lv_at hl 0 rfl) ?_
  refine W.objInit hx hb hown (hts _ q9) (hts _ q10) (hts _ q11) rfl (by rw [hml]; exact hl.1) rfl dX0_init_1 (Nat.le_of_ble_eq_true rfl) (Nat.le_of_ble_eq_true rfl) ?_
  refine W.eq (g2 := F0 m 4 ls []) rfl ?_
  refine lv_aload_n hx hb dX0_init_4 rfl (lv_at hl 0 rfl) ?_
  refine lv_bipush (v := 64) hx hb dX0_init_5 (by decide) ?_
  have hc1 : 0 + 1 ≤ (headSpec wsX0_init ({ frames := 1, cells := 1, slots := 64, locals := 12 })).room.cells := Nat.le_of_ble_eq_true rfl
  have hc2 : 0 + 64 ≤ (headSpec wsX0_init ({ frames := 1, cells := 1, slots := 64, locals := 12 })).room.slots := Nat.le_of_ble_eq_true rfl
  refine va_newa (atype := .int) (ty := .int) (a0 := (64, .inl (fun _ => 0))) (N' := 64) hx hb (hts _ q19) rfl hK hP hD hS hA (fun _ => rfl) (by decide) (by decide) (Nat.le_of_ble_eq_true rfl) hc1 hc2 dX0_init_7 (fun r d H hK hP hD hS => ?_)
  have hP : va_P (dC, dI) vwCl [(h, .inr (0, [.null, .int 0])), (r, .inl (d, 64, .inl (fun _ => 0)))] H := hP
  have hD : va_D A [(h, .inr (0, [.null, .int 0])), (r, .inl (d, 64, .inl (fun _ => 0)))] := hD
  have hK : va_K (dC, dI) vwCl [(d, .int)] s := hK
  refine W.widen (k := 1) (n := 64) (Nat.le_refl _) (Nat.le_of_ble_eq_true rfl) ?_
  refine va_putF (D := (dC, dI)) (ci := 0) (v := .ref r) (ty := .array .int) (C := RX0) (T := TX0) (N := 2) hx hb hts in_X0 tyX0 tyX0_ok nmX0 hown hK hP hD hS 0 rfl rfl 0 (by decide) (hts _ q12) (fun _ h9 => h9) rfl hin rfl (by decide +kernel) rfl rfl (Nat.le_of_ble_eq_true rfl) dX0_init_9 (fun H locs hP hD hS => ?_)
  have hP : va_P (dC, dI) vwCl [(h, .inr (0, [.ref r, .int 0])), (r, .inl (d, 64, .inl (fun _ => 0)))] H := hP
  have hD : va_D A [(h, .inr (0, [.ref r, .int 0])), (r, .inl (d, 64, .inl (fun _ => 0)))] := hD
  refine lv_aload_n hx hb dX0_init_12 rfl (lv_at hl 0 rfl) ?_
  refine lv_bipush (v := nI 64) hx hb dX0_init_13 (by decide) ?_
  refine va_put (D := (dC, dI)) (ci := 0) (v := .int (nI 64)) (ty := .int) (C := RX0) (T := TX0) (N := 2) hx hb hts in_X0 tyX0 tyX0_ok nmX0 hown hK hP hD hS 0 rfl rfl 1 (by decide) (hts _ q13) (fun _ h9 => h9) rfl (by decide +kernel) rfl rfl (Nat.le_of_ble_eq_true rfl) dX0_init_15 (fun H locs hP hD hS => ?_)
  have hP : va_P (dC, dI) vwCl [(h, .inr (0, [.ref r, .int (nI 64)])), (r, .inl (d, 64, .inl (fun _ => 0)))] H := hP
  have hD : va_D A [(h, .inr (0, [.ref r, .int (nI 64)])), (r, .inl (d, 64, .inl (fun _ => 0)))] := hD
  exact W.vret hx hb hr (fun t ht hW => ⟨⟨(d, r), rfl, trivial, by rw [ht]; exact hP, va_K.moved hW.alike hK, hD⟩, hS.F ht⟩) hS.2.2 dX0_init_18
set_option maxHeartbeats 4000000 in
set_option maxRecDepth 100000 in
/-- NetworkSort.set(i, v) -/
theorem met0_set (l : Launch) (dC : Nat → ClassId) (dI : Nat → Nat → Nat) (d : ClassId) (h r sz : Nat) (f : Nat → Int32) (n : Nat) (p0 p1 : Int32) : Met l yX0_set wsX0_set ({ frames := 0, cells := 0, slots := 0, locals := 0 }) (va_Pc [.ref h, .int p0, .int p1] (fun U => U.heap.size = sz ∧ va_P (dC, dI) vwCl [(h, .inr (0, [.ref r, .int (nI n)])), (r, .inl (d, 64, .inl f))] U.heap ∧ va_K (dC, dI) vwCl [(d, .int)] U ∧ va_D (fun _ => True) [(h, .inr (0, [.ref r, .int (nI n)])), (r, .inl (d, 64, .inl f))])) (va_Qv (fun _ : Unit => True) (fun _ t => Bw dC dI 0 d (va_A [(h, .inr (0, [.ref r, .int (nI n)])), (r, .inl (d, 64, .inl f))] sz) h r (upd f (p0 &&& 63).toNatClampNeg (p1 &&& 1073741823)) n t) (va_A [(h, .inr (0, [.ref r, .int (nI n)])), (r, .inl (d, 64, .inl f))] sz)) 0 0 (va_A [(h, .inr (0, [.ref r, .int (nI n)])), (r, .inl (d, 64, .inl f))] sz) := by
  refine Met.ofW (cc := cX0_set) (maxL := 3) (ret := none) (by decide) rfl ?_
  intro p e s m args below meth c s₁ B hml hv
  obtain ⟨rfl, hsz, hP, hK, hD0⟩ := hv
  have hx := B.exec
  have hb := B.bytes
  have hr := B.returns
  have hts := atoms_spec (ws := wsX0_set) B.pre
  have hts : ∀ w ∈ lw_all, w.before _ s = true := fun w h => hts w (List.mem_cons_of_mem _ h)
  have hown : s.vm.findClass RX0 = some m.cls := findClass_of_methodNamed B.named
  have hlocks := B.notSynchronized
  subst hsz
  have hD := hD0.self (sz := s.heap.size)
  generalize hAe : va_A [(h, .inr (0, [.ref r, .int (nI n)])), (r, .inl (d, 64, .inl f))] s.heap.size = A at hD ⊢
  have hA : ∀ q : Nat, s.heap.size ≤ q → A q := fun q h => by rw [← hAe]; exact Or.inr h
  have hS : va_S A s.heap s.heap [] := va_S.rf
  have hP : va_P (dC, dI) vwCl [(h, .inr (0, [.ref r, .int (nI n)])), (r, .inl (d, 64, .inl f))] s.heap := hP
  have hl := lv_entry ([.ref h, .int p0, .int p1]) (n := 3) (Nat.le_of_ble_eq_true rfl)
  rw [lg_entry_eq]
  generalize (lg_sl ([.ref h, .int p0, .int p1]) ++ List.replicate (3 - (lg_sl ([.ref h, .int p0, .int p1])).length) Slot.unset).toArray = ls at hl ⊢
  have hl : lv_has ls 3 [(0, .ref h), (1, .int p0), (2, .int p1)] := hl
  have hin : vp_in (p0 &&& 63) 64 := pk_andIn p0 (m := 63) 6 (by decide) (by decide)
  refine lv_aload_n hx hb dX0_set_0 rfl (lv_at hl 0 rfl) ?_
  refine va_get (D := (dC, dI)) (ci := 0) (v := .ref r) (C := RX0) (T := TX0) (N := 2) hx hb hts in_X0 hown hK hP 0 rfl rfl 0 (by decide) (hts _ q12) (fun _ h9 => h9) rfl dX0_set_1 ?_
  refine lv_iload_n hx hb dX0_set_4 rfl (lv_at hl 1 rfl) ?_
  refine lv_bipush (v := 63) hx hb dX0_set_5 (by decide) ?_
  refine lv_iand hx hb dX0_set_7 ?_
  refine lv_iload_n hx hb dX0_set_8 rfl (lv_at hl 2 rfl) ?_
  refine lv_ldc (v := 1073741823) hx hb hown (hts _ q24) dX0_set_9 ?_
  refine lv_iand hx hb dX0_set_11 ?_
  refine va_iast hx hb hK hP hD hS 1 0 rfl rfl hin dX0_set_12 (fun H locs hP hD hS => ?_)
  have hP : va_P (dC, dI) vwCl [(h, .inr (0, [.ref r, .int (nI n)])), (r, .inl (d, 64, .inl (upd f (p0 &&& 63).toNatClampNeg (p1 &&& 1073741823))))] H := hP
  have hD : va_D A [(h, .inr (0, [.ref r, .int (nI n)])), (r, .inl (d, 64, .inl (upd f (p0 &&& 63).toNatClampNeg (p1 &&& 1073741823))))] := hD
  exact W.vret hx hb hr (fun t ht hW => ⟨⟨(), rfl, trivial, by rw [ht]; exact hP, va_K.moved hW.alike hK, hD⟩, hS.F ht⟩) hS.2.2 dX0_set_13
set_option maxHeartbeats 4000000 in
set_option maxRecDepth 100000 in
theorem lp0_fill {p : Program} {l : Launch} {e : Env} {R : Room} {s : State} {m : MethodId} {args : Array Value} {below : List Frame} {meth : Method} {c : Code} {Q : State → Prop} {dC : Nat → ClassId} {dI : Nat → Nat → Nat} {d : ClassId} {h r n : Nat} {A : Nat → Prop} (F : cw_Fx p s m args c A cX0_fill RX0 4) {f : Nat → Int32} {p0 p1 : Int32} (kk : cw_W p l e R s m args below meth c Q dC dI d h r A 0 n 4 28 (ns_fill f p0 p1 64) [(0, .ref h)]) : ∀ k i, i + k = 64 → cw_W p l e R s m args below meth c Q dC dI d h r A 0 n 4 2 (ns_fill f p0 p1 i) [(3, .int (nI i)), (0, .ref h), (1, .int p0), (2, .int p1)] := by
  obtain ⟨hx, hb, hml, hown, hts, hA⟩ := F
  intro k
  induction k with
  | zero =>
    intro i hi H locs ls hK hP hD hS hl
    have hi : i = 64 := by omega
    subst hi
    refine lv_iload_n hx hb dX0_fill_2 rfl (lv_at hl 0 rfl) ?_
    refine lv_bipush (v := nI 64) hx hb dX0_fill_3 (by decide) ?_
    refine lv_icmp_ge (tgt := 28) hx hb dX0_fill_5 (by decide) (fun _ => ?_) (fun c1 => absurd (Int32.le_refl _) c1)
    exact kk H locs ls hK hP hD hS (lv_sub hl [1] rfl)
  | succ k ih =>
    intro i hi H locs ls hK hP hD hS hl
    have ci : (nI i).toNatClampNeg = i := nI_clamp (by omega)
    have hin : vp_in (nI i) 64 := vp_in_nI (by omega) (by decide)
    refine lv_iload_n hx hb dX0_fill_2 rfl (lv_at hl 0 rfl) ?_
    refine lv_bipush (v := nI 64) hx hb dX0_fill_3 (by decide) ?_
    refine lv_icmp_ge (tgt := 28) hx hb dX0_fill_5 (by decide) (fun c1 => absurd c1 (nI_ge (by omega) (by decide))) (fun _ => ?_)
    refine lv_aload_n hx hb dX0_fill_8 rfl (lv_at hl 1 rfl) ?_
    refine va_get (D := (dC, dI)) (ci := 0) (v := .ref r) (C := RX0) (T := TX0) (N := 2) hx hb hts in_X0 hown hK hP 0 rfl rfl 0 (by decide) (hts _ q12) (fun _ h9 => h9) rfl dX0_fill_9 ?_
    refine lv_iload_n hx hb dX0_fill_12 rfl (lv_at hl 0 rfl) ?_
    refine lv_iload_n hx hb dX0_fill_13 rfl (lv_at hl 2 rfl) ?_
    refine lv_iload_n hx hb dX0_fill_14 rfl (lv_at hl 3 rfl) ?_
    refine lv_iload_n hx hb dX0_fill_15 rfl (lv_at hl 0 rfl) ?_
    refine lv_imul hx hb dX0_fill_16 ?_
    refine lv_iadd hx hb dX0_fill_17 ?_
    refine lv_ldc (v := 1073741823) hx hb hown (hts _ q24) dX0_fill_18 ?_
    refine lv_iand hx hb dX0_fill_20 ?_
    refine va_iast hx hb hK hP hD hS 1 0 rfl rfl hin dX0_fill_21 (fun H locs hP hD hS => ?_)
    rw [ci] at hP hD
    refine lv_iinc (v := nI (i + 1)) (lv' := [(3, .int (nI (i + 1))), (0, .ref h), (1, .int p0), (2, .int p1)]) hx hb dX0_fill_22 hl (k := 0) rfl (nI_1 i) (by decide) rfl (fun ls hl => ?_)
    refine lv_goto (tgt := 2) hx hb dX0_fill_25 (by decide) ?_
    exact ih (i + 1) (by omega) H locs ls hK hP hD hS hl
set_option maxHeartbeats 4000000 in
set_option maxRecDepth 100000 in
/-- NetworkSort.fill(from, step) -/
theorem met0_fill (l : Launch) (dC : Nat → ClassId) (dI : Nat → Nat → Nat) (d : ClassId) (h r sz : Nat) (f : Nat → Int32) (n : Nat) (p0 p1 : Int32) : Met l yX0_fill wsX0_fill ({ frames := 0, cells := 0, slots := 0, locals := 0 }) (va_Pc [.ref h, .int p0, .int p1] (fun U => U.heap.size = sz ∧ va_P (dC, dI) vwCl [(h, .inr (0, [.ref r, .int (nI n)])), (r, .inl (d, 64, .inl f))] U.heap ∧ va_K (dC, dI) vwCl [(d, .int)] U ∧ va_D (fun _ => True) [(h, .inr (0, [.ref r, .int (nI n)])), (r, .inl (d, 64, .inl f))])) (va_Qv (fun _ : Unit => True) (fun _ t => Bw dC dI 0 d (va_A [(h, .inr (0, [.ref r, .int (nI n)])), (r, .inl (d, 64, .inl f))] sz) h r (ns_fill f p0 p1 64) n t) (va_A [(h, .inr (0, [.ref r, .int (nI n)])), (r, .inl (d, 64, .inl f))] sz)) 0 0 (va_A [(h, .inr (0, [.ref r, .int (nI n)])), (r, .inl (d, 64, .inl f))] sz) := by
  refine Met.ofW (cc := cX0_fill) (maxL := 4) (ret := none) (by decide) rfl ?_
  intro p e s m args below meth c s₁ B hml hv
  obtain ⟨rfl, hsz, hP, hK, hD0⟩ := hv
  have hx := B.exec
  have hb := B.bytes
  have hr := B.returns
  have hts := atoms_spec (ws := wsX0_fill) B.pre
  have hts : ∀ w ∈ lw_all, w.before _ s = true := fun w h => hts w (List.mem_cons_of_mem _ h)
  have hown : s.vm.findClass RX0 = some m.cls := findClass_of_methodNamed B.named
  have hlocks := B.notSynchronized
  subst hsz
  have hD := hD0.self (sz := s.heap.size)
  generalize hAe : va_A [(h, .inr (0, [.ref r, .int (nI n)])), (r, .inl (d, 64, .inl f))] s.heap.size = A at hD ⊢
  have hA : ∀ q : Nat, s.heap.size ≤ q → A q := fun q h => by rw [← hAe]; exact Or.inr h
  have hS : va_S A s.heap s.heap [] := va_S.rf
  have hP : va_P (dC, dI) vwCl [(h, .inr (0, [.ref r, .int (nI n)])), (r, .inl (d, 64, .inl f))] s.heap := hP
  have hl := lv_entry ([.ref h, .int p0, .int p1]) (n := 4) (Nat.le_of_ble_eq_true rfl)
  rw [lg_entry_eq]
  generalize (lg_sl ([.ref h, .int p0, .int p1]) ++ List.replicate (4 - (lg_sl ([.ref h, .int p0, .int p1])).length) Slot.unset).toArray = ls at hl ⊢
  have hl : lv_has ls 4 [(0, .ref h), (1, .int p0), (2, .int p1)] := hl
  refine lv_iconst (v := 0) hx hb dX0_fill_0 (by decide) ?_
  refine lv_istore_n (lv' := [(3, .int (nI 0)), (0, .ref h), (1, .int p0), (2, .int p1)]) hx hb dX0_fill_1 rfl hl (by decide) rfl (fun ls hl => ?_)
  refine lp0_fill (n := n) ⟨hx, hb, hml, hown, hts, hA⟩ (f := f) (p0 := p0) (p1 := p1) ?_ 64 0 rfl s.heap [] ls hK hP hD hS hl
  intro H locs ls hK hP hD hS hl
  exact W.vret hx hb hr (fun t ht hW => ⟨⟨(), rfl, trivial, by rw [ht]; exact hP, va_K.moved hW.alike hK, hD⟩, hS.F ht⟩) hS.2.2 dX0_fill_28
set_option maxHeartbeats 4000000 in
set_option maxRecDepth 100000 in
/-- NetworkSort.length(n): the length is 2 + (n & MAX) % 63 -/
theorem met0_length (l : Launch) (dC : Nat → ClassId) (dI : Nat → Nat → Nat) (d : ClassId) (h r sz : Nat) (f : Nat → Int32) (n : Nat) (p0 : Int32) : Met l yX0_length wsX0_length ({ frames := 0, cells := 0, slots := 0, locals := 0 }) (va_Pc [.ref h, .int p0] (fun U => U.heap.size = sz ∧ va_P (dC, dI) vwCl [(h, .inr (0, [.ref r, .int (nI n)])), (r, .inl (d, 64, .inl f))] U.heap ∧ va_K (dC, dI) vwCl [(d, .int)] U ∧ va_D (fun _ => True) [(h, .inr (0, [.ref r, .int (nI n)])), (r, .inl (d, 64, .inl f))])) (va_Qv (fun _ : Unit => True) (fun _ t => Bw dC dI 0 d (va_A [(h, .inr (0, [.ref r, .int (nI n)])), (r, .inl (d, 64, .inl f))] sz) h r f (ns_len p0) t) (va_A [(h, .inr (0, [.ref r, .int (nI n)])), (r, .inl (d, 64, .inl f))] sz)) 0 0 (va_A [(h, .inr (0, [.ref r, .int (nI n)])), (r, .inl (d, 64, .inl f))] sz) := by
  refine Met.ofW (cc := cX0_length) (maxL := 2) (ret := none) (by decide) rfl ?_
  intro p e s m args below meth c s₁ B hml hv
  obtain ⟨rfl, hsz, hP, hK, hD0⟩ := hv
  have hx := B.exec
  have hb := B.bytes
  have hr := B.returns
  have hts := atoms_spec (ws := wsX0_length) B.pre
  have hts : ∀ w ∈ lw_all, w.before _ s = true := fun w h => hts w (List.mem_cons_of_mem _ h)
  have hown : s.vm.findClass RX0 = some m.cls := findClass_of_methodNamed B.named
  have hlocks := B.notSynchronized
  subst hsz
  have hD := hD0.self (sz := s.heap.size)
  generalize hAe : va_A [(h, .inr (0, [.ref r, .int (nI n)])), (r, .inl (d, 64, .inl f))] s.heap.size = A at hD ⊢
  have hA : ∀ q : Nat, s.heap.size ≤ q → A q := fun q h => by rw [← hAe]; exact Or.inr h
  have hS : va_S A s.heap s.heap [] := va_S.rf
  have hP : va_P (dC, dI) vwCl [(h, .inr (0, [.ref r, .int (nI n)])), (r, .inl (d, 64, .inl f))] s.heap := hP
  have hl := lv_entry ([.ref h, .int p0]) (n := 2) (Nat.le_of_ble_eq_true rfl)
  rw [lg_entry_eq]
  generalize (lg_sl ([.ref h, .int p0]) ++ List.replicate (2 - (lg_sl ([.ref h, .int p0])).length) Slot.unset).toArray = ls at hl ⊢
  have hl : lv_has ls 2 [(0, .ref h), (1, .int p0)] := hl
  refine lv_aload_n hx hb dX0_length_0 rfl (lv_at hl 0 rfl) ?_
  refine lv_iconst (v := 2) hx hb dX0_length_1 (by decide) ?_
  refine lv_iload_n hx hb dX0_length_2 rfl (lv_at hl 1 rfl) ?_
  refine lv_ldc (v := 2147483647) hx hb hown (hts _ q33) dX0_length_3 ?_
  refine lv_iand hx hb dX0_length_5 ?_
  refine lv_bipush (v := 63) hx hb dX0_length_6 (by decide) ?_
  refine lv_irem hx hb dX0_length_8 (by decide) ?_
  refine lv_iadd hx hb dX0_length_9 ?_
  rw [ns_len_eq]
  refine va_put (D := (dC, dI)) (ci := 0) (v := .int (nI (ns_len p0))) (ty := .int) (C := RX0) (T := TX0) (N := 2) hx hb hts in_X0 tyX0 tyX0_ok nmX0 hown hK hP hD hS 0 rfl rfl 1 (by decide) (hts _ q13) (fun _ h9 => h9) rfl (by decide +kernel) rfl rfl (Nat.le_of_ble_eq_true rfl) dX0_length_10 (fun H locs hP hD hS => ?_)
  have hP : va_P (dC, dI) vwCl [(h, .inr (0, [.ref r, .int (nI (ns_len p0))])), (r, .inl (d, 64, .inl f))] H := hP
  have hD : va_D A [(h, .inr (0, [.ref r, .int (nI (ns_len p0))])), (r, .inl (d, 64, .inl f))] := hD
  exact W.vret hx hb hr (fun t ht hW => ⟨⟨(), rfl, trivial, by rw [ht]; exact hP, va_K.moved hW.alike hK, hD⟩, hS.F ht⟩) hS.2.2 dX0_length_13
set_option maxHeartbeats 4000000 in
set_option maxRecDepth 100000 in
/-- NetworkSort.get(i) -/
theorem met0_get (l : Launch) (dC : Nat → ClassId) (dI : Nat → Nat → Nat) (d : ClassId) (h r sz : Nat) (f : Nat → Int32) (n : Nat) (p0 : Int32) : Met l yX0_get wsX0_get ({ frames := 0, cells := 0, slots := 0, locals := 0 }) (va_Pc [.ref h, .int p0] (fun U => U.heap.size = sz ∧ va_P (dC, dI) vwCl [(h, .inr (0, [.ref r, .int (nI n)])), (r, .inl (d, 64, .inl f))] U.heap ∧ va_K (dC, dI) vwCl [(d, .int)] U ∧ va_D (fun _ => True) [(h, .inr (0, [.ref r, .int (nI n)])), (r, .inl (d, 64, .inl f))])) (va_Qi (fun (v : Int32) (_ : Unit) => v = f (p0 &&& 63).toNatClampNeg) (fun _ t => Bw dC dI 0 d (va_A [(h, .inr (0, [.ref r, .int (nI n)])), (r, .inl (d, 64, .inl f))] sz) h r f n t) (va_A [(h, .inr (0, [.ref r, .int (nI n)])), (r, .inl (d, 64, .inl f))] sz)) 0 0 (va_A [(h, .inr (0, [.ref r, .int (nI n)])), (r, .inl (d, 64, .inl f))] sz) := by
  refine Met.ofW (cc := cX0_get) (maxL := 2) (ret := (some .int)) (by decide) rfl ?_
  intro p e s m args below meth c s₁ B hml hv
  obtain ⟨rfl, hsz, hP, hK, hD0⟩ := hv
  have hx := B.exec
  have hb := B.bytes
  have hr := B.returns
  have hts := atoms_spec (ws := wsX0_get) B.pre
  have hts : ∀ w ∈ lw_all, w.before _ s = true := fun w h => hts w (List.mem_cons_of_mem _ h)
  have hown : s.vm.findClass RX0 = some m.cls := findClass_of_methodNamed B.named
  have hlocks := B.notSynchronized
  subst hsz
  have hD := hD0.self (sz := s.heap.size)
  generalize hAe : va_A [(h, .inr (0, [.ref r, .int (nI n)])), (r, .inl (d, 64, .inl f))] s.heap.size = A at hD ⊢
  have hA : ∀ q : Nat, s.heap.size ≤ q → A q := fun q h => by rw [← hAe]; exact Or.inr h
  have hS : va_S A s.heap s.heap [] := va_S.rf
  have hP : va_P (dC, dI) vwCl [(h, .inr (0, [.ref r, .int (nI n)])), (r, .inl (d, 64, .inl f))] s.heap := hP
  have hl := lv_entry ([.ref h, .int p0]) (n := 2) (Nat.le_of_ble_eq_true rfl)
  rw [lg_entry_eq]
  generalize (lg_sl ([.ref h, .int p0]) ++ List.replicate (2 - (lg_sl ([.ref h, .int p0])).length) Slot.unset).toArray = ls at hl ⊢
  have hl : lv_has ls 2 [(0, .ref h), (1, .int p0)] := hl
  have hin : vp_in (p0 &&& 63) 64 := pk_andIn p0 (m := 63) 6 (by decide) (by decide)
  refine lv_aload_n hx hb dX0_get_0 rfl (lv_at hl 0 rfl) ?_
  refine va_get (D := (dC, dI)) (ci := 0) (v := .ref r) (C := RX0) (T := TX0) (N := 2) hx hb hts in_X0 hown hK hP 0 rfl rfl 0 (by decide) (hts _ q12) (fun _ h9 => h9) rfl dX0_get_1 ?_
  refine lv_iload_n hx hb dX0_get_4 rfl (lv_at hl 1 rfl) ?_
  refine lv_bipush (v := 63) hx hb dX0_get_5 (by decide) ?_
  refine lv_iand hx hb dX0_get_7 ?_
  refine va_iald hx hb hK hP 1 0 rfl rfl hin dX0_get_8 ?_
  exact W.iret hx hb hr (fun t ht hW => ⟨⟨_, (), rfl, rfl, by rw [ht]; exact hP, va_K.moved hW.alike hK, hD⟩, hS.F ht⟩) hS.2.2 dX0_get_9
set_option maxHeartbeats 4000000 in
set_option maxRecDepth 100000 in
/-- NetworkSort.length() -/
theorem met0_length_2 (l : Launch) (dC : Nat → ClassId) (dI : Nat → Nat → Nat) (d : ClassId) (h r sz : Nat) (f : Nat → Int32) (n : Nat) : Met l yX0_length_2 wsX0_length_2 ({ frames := 0, cells := 0, slots := 0, locals := 0 }) (va_Pc [.ref h] (fun U => U.heap.size = sz ∧ va_P (dC, dI) vwCl [(h, .inr (0, [.ref r, .int (nI n)])), (r, .inl (d, 64, .inl f))] U.heap ∧ va_K (dC, dI) vwCl [(d, .int)] U ∧ va_D (fun _ => True) [(h, .inr (0, [.ref r, .int (nI n)])), (r, .inl (d, 64, .inl f))])) (va_Qi (fun (v : Int32) (_ : Unit) => v = nI n) (fun _ t => Bw dC dI 0 d (va_A [(h, .inr (0, [.ref r, .int (nI n)])), (r, .inl (d, 64, .inl f))] sz) h r f n t) (va_A [(h, .inr (0, [.ref r, .int (nI n)])), (r, .inl (d, 64, .inl f))] sz)) 0 0 (va_A [(h, .inr (0, [.ref r, .int (nI n)])), (r, .inl (d, 64, .inl f))] sz) := by
  refine Met.ofW (cc := cX0_length_2) (maxL := 1) (ret := (some .int)) (by decide) rfl ?_
  intro p e s m args below meth c s₁ B hml hv
  obtain ⟨rfl, hsz, hP, hK, hD0⟩ := hv
  have hx := B.exec
  have hb := B.bytes
  have hr := B.returns
  have hts := atoms_spec (ws := wsX0_length_2) B.pre
  have hts : ∀ w ∈ lw_all, w.before _ s = true := fun w h => hts w (List.mem_cons_of_mem _ h)
  have hown : s.vm.findClass RX0 = some m.cls := findClass_of_methodNamed B.named
  have hlocks := B.notSynchronized
  subst hsz
  have hD := hD0.self (sz := s.heap.size)
  generalize hAe : va_A [(h, .inr (0, [.ref r, .int (nI n)])), (r, .inl (d, 64, .inl f))] s.heap.size = A at hD ⊢
  have hA : ∀ q : Nat, s.heap.size ≤ q → A q := fun q h => by rw [← hAe]; exact Or.inr h
  have hS : va_S A s.heap s.heap [] := va_S.rf
  have hP : va_P (dC, dI) vwCl [(h, .inr (0, [.ref r, .int (nI n)])), (r, .inl (d, 64, .inl f))] s.heap := hP
  have hl := lv_entry ([.ref h]) (n := 1) (Nat.le_of_ble_eq_true rfl)
  rw [lg_entry_eq]
  generalize (lg_sl ([.ref h]) ++ List.replicate (1 - (lg_sl ([.ref h])).length) Slot.unset).toArray = ls at hl ⊢
  have hl : lv_has ls 1 [(0, .ref h)] := hl
  refine lv_aload_n hx hb dX0_length_2_0 rfl (lv_at hl 0 rfl) ?_
  refine va_get (D := (dC, dI)) (ci := 0) (v := .int (nI n)) (C := RX0) (T := TX0) (N := 2) hx hb hts in_X0 hown hK hP 0 rfl rfl 1 (by decide) (hts _ q13) (fun _ h9 => h9) rfl dX0_length_2_1 ?_
  exact W.iret hx hb hr (fun t ht hW => ⟨⟨_, (), rfl, rfl, by rw [ht]; exact hP, va_K.moved hW.alike hK, hD⟩, hS.F ht⟩) hS.2.2 dX0_length_2_4
set_option maxHeartbeats 4000000 in
set_option maxRecDepth 100000 in
theorem lp0_sum {p : Program} {l : Launch} {e : Env} {R : Room} {s : State} {m : MethodId} {args : Array Value} {below : List Frame} {meth : Method} {c : Code} {Q : State → Prop} {dC : Nat → ClassId} {dI : Nat → Nat → Nat} {d : ClassId} {h r n : Nat} {A : Nat → Prop} (F : cw_Fx p s m args c A cX0_sum RX0 4) {f : Nat → Int32} (kk : cw_W p l e R s m args below meth c Q dC dI d h r A 0 n 4 30 f [(1, .long (ns_sum f 64))]) : ∀ k i, i + k = 64 → cw_W p l e R s m args below meth c Q dC dI d h r A 0 n 4 4 f [(3, .int (nI i)), (1, .long (ns_sum f i)), (0, .ref h)] := by
  obtain ⟨hx, hb, hml, hown, hts, hA⟩ := F
  intro k
  induction k with
  | zero =>
    intro i hi H locs ls hK hP hD hS hl
    have hi : i = 64 := by omega
    subst hi
    refine lv_iload_n hx hb dX0_sum_4 rfl (lv_at hl 0 rfl) ?_
    refine lv_bipush (v := nI 64) hx hb dX0_sum_5 (by decide) ?_
    refine lv_icmp_ge (tgt := 30) hx hb dX0_sum_7 (by decide) (fun _ => ?_) (fun c1 => absurd (Int32.le_refl _) c1)
    exact kk H locs ls hK hP hD hS (lv_sub hl [1] rfl)
  | succ k ih =>
    intro i hi H locs ls hK hP hD hS hl
    have ci : (nI i).toNatClampNeg = i := nI_clamp (by omega)
    have hin : vp_in (nI i) 64 := vp_in_nI (by omega) (by decide)
    refine lv_iload_n hx hb dX0_sum_4 rfl (lv_at hl 0 rfl) ?_
    refine lv_bipush (v := nI 64) hx hb dX0_sum_5 (by decide) ?_
    refine lv_icmp_ge (tgt := 30) hx hb dX0_sum_7 (by decide) (fun c1 => absurd c1 (nI_ge (by omega) (by decide))) (fun _ => ?_)
    refine lv_lload_n hx hb dX0_sum_10 rfl (lv_at hl 1 rfl) ?_
    refine lv_ldc2 (v := 31) hx hb hown (hts _ q57) dX0_sum_11 ?_
    refine lv_lmul hx hb dX0_sum_14 ?_
    refine lv_aload_n hx hb dX0_sum_15 rfl (lv_at hl 2 rfl) ?_
    refine va_get (D := (dC, dI)) (ci := 0) (v := .ref r) (C := RX0) (T := TX0) (N := 2) hx hb hts in_X0 hown hK hP 0 rfl rfl 0 (by decide) (hts _ q12) (fun _ h9 => h9) rfl dX0_sum_16 ?_
    refine lv_iload_n hx hb dX0_sum_19 rfl (lv_at hl 0 rfl) ?_
    refine va_iald hx hb hK hP 1 0 rfl rfl hin dX0_sum_20 ?_
    rw [ci]
    refine lv_i2l hx hb dX0_sum_21 rfl ?_
    refine lv_ladd hx hb dX0_sum_22 ?_
    refine lv_lstore_n (lv' := [(1, .long (ns_sum f (i + 1))), (3, .int (nI i)), (0, .ref h)]) hx hb dX0_sum_23 rfl hl (by decide) rfl (fun ls hl => ?_)
    refine lv_iinc (v := nI (i + 1)) (lv' := [(3, .int (nI (i + 1))), (1, .long (ns_sum f (i + 1))), (0, .ref h)]) hx hb dX0_sum_24 hl (k := 1) rfl (nI_1 i) (by decide) rfl (fun ls hl => ?_)
    refine lv_goto (tgt := 4) hx hb dX0_sum_27 (by decide) ?_
    exact ih (i + 1) (by omega) H locs ls hK hP hD hS hl
set_option maxHeartbeats 4000000 in
set_option maxRecDepth 100000 in
/-- NetworkSort.sum() -/
theorem met0_sum (l : Launch) (dC : Nat → ClassId) (dI : Nat → Nat → Nat) (d : ClassId) (h r sz : Nat) (f : Nat → Int32) (n : Nat) : Met l yX0_sum wsX0_sum ({ frames := 0, cells := 0, slots := 0, locals := 0 }) (va_Pc [.ref h] (fun U => U.heap.size = sz ∧ va_P (dC, dI) vwCl [(h, .inr (0, [.ref r, .int (nI n)])), (r, .inl (d, 64, .inl f))] U.heap ∧ va_K (dC, dI) vwCl [(d, .int)] U ∧ va_D (fun _ => True) [(h, .inr (0, [.ref r, .int (nI n)])), (r, .inl (d, 64, .inl f))])) (va_Ql (fun (v : Int64) (_ : Unit) => v = ns_sum f 64) (fun _ t => Bw dC dI 0 d (va_A [(h, .inr (0, [.ref r, .int (nI n)])), (r, .inl (d, 64, .inl f))] sz) h r f n t) (va_A [(h, .inr (0, [.ref r, .int (nI n)])), (r, .inl (d, 64, .inl f))] sz)) 0 0 (va_A [(h, .inr (0, [.ref r, .int (nI n)])), (r, .inl (d, 64, .inl f))] sz) := by
  refine Met.ofW (cc := cX0_sum) (maxL := 4) (ret := (some .long)) (by decide) rfl ?_
  intro p e s m args below meth c s₁ B hml hv
  obtain ⟨rfl, hsz, hP, hK, hD0⟩ := hv
  have hx := B.exec
  have hb := B.bytes
  have hr := B.returns
  have hts := atoms_spec (ws := wsX0_sum) B.pre
  have hts : ∀ w ∈ lw_all, w.before _ s = true := fun w h => hts w (List.mem_cons_of_mem _ h)
  have hown : s.vm.findClass RX0 = some m.cls := findClass_of_methodNamed B.named
  have hlocks := B.notSynchronized
  subst hsz
  have hD := hD0.self (sz := s.heap.size)
  generalize hAe : va_A [(h, .inr (0, [.ref r, .int (nI n)])), (r, .inl (d, 64, .inl f))] s.heap.size = A at hD ⊢
  have hA : ∀ q : Nat, s.heap.size ≤ q → A q := fun q h => by rw [← hAe]; exact Or.inr h
  have hS : va_S A s.heap s.heap [] := va_S.rf
  have hP : va_P (dC, dI) vwCl [(h, .inr (0, [.ref r, .int (nI n)])), (r, .inl (d, 64, .inl f))] s.heap := hP
  have hl := lv_entry ([.ref h]) (n := 4) (Nat.le_of_ble_eq_true rfl)
  rw [lg_entry_eq]
  generalize (lg_sl ([.ref h]) ++ List.replicate (4 - (lg_sl ([.ref h])).length) Slot.unset).toArray = ls at hl ⊢
  have hl : lv_has ls 4 [(0, .ref h)] := hl
  refine lv_lconst (v := 0) hx hb dX0_sum_0 (by decide) ?_
  refine lv_lstore_n (lv' := [(1, .long 0), (0, .ref h)]) hx hb dX0_sum_1 rfl hl (by decide) rfl (fun ls hl => ?_)
  refine lv_iconst (v := 0) hx hb dX0_sum_2 (by decide) ?_
  refine lv_istore_n (lv' := [(3, .int (nI 0)), (1, .long (ns_sum f 0)), (0, .ref h)]) hx hb dX0_sum_3 rfl hl (by decide) rfl (fun ls hl => ?_)
  refine lp0_sum (n := n) ⟨hx, hb, hml, hown, hts, hA⟩ (f := f) ?_ 64 0 rfl s.heap [] ls hK hP hD hS hl
  intro H locs ls hK hP hD hS hl
  refine lv_lload_n hx hb dX0_sum_30 rfl (lv_at hl 0 rfl) ?_
  exact W.lret hx hb hr (fun t ht hW => ⟨⟨_, (), rfl, rfl, by rw [ht]; exact hP, va_K.moved hW.alike hK, hD⟩, hS.F ht⟩) hS.2.2 dX0_sum_31
set_option maxHeartbeats 4000000 in
set_option maxRecDepth 100000 in
/-- NetworkSort.sort(): the first n in ascending order -/
theorem met0_sort (l : Launch) (dC : Nat → ClassId) (dI : Nat → Nat → Nat) (d : ClassId) (h r sz : Nat) (f : Nat → Int32) (n : Nat) (h2 : 2 ≤ n) (hn : n ≤ 64) (hf : ns_Nn f) : Met l yX0_sort wsX0_sort ({ frames := 2, cells := 0, slots := 0, locals := 51 }) (va_Pc [.ref h] (fun U => U.heap.size = sz ∧ va_P (dC, dI) vwCl [(h, .inr (0, [.ref r, .int (nI n)])), (r, .inl (d, 64, .inl f))] U.heap ∧ va_K (dC, dI) vwCl [(d, .int)] U ∧ va_D (fun _ => True) [(h, .inr (0, [.ref r, .int (nI n)])), (r, .inl (d, 64, .inl f))])) (va_Qv (fun g : Nat → Int32 => ns_Of n f g) (fun g t => Bw dC dI 0 d (va_A [(h, .inr (0, [.ref r, .int (nI n)])), (r, .inl (d, 64, .inl f))] sz) h r g n t) (va_A [(h, .inr (0, [.ref r, .int (nI n)])), (r, .inl (d, 64, .inl f))] sz)) 0 0 (va_A [(h, .inr (0, [.ref r, .int (nI n)])), (r, .inl (d, 64, .inl f))] sz) := by
  refine Met.ofW (cc := cX0_sort) (maxL := 1) (ret := none) (by decide) rfl ?_
  intro p e s m args below meth c s₁ B hml hv
  obtain ⟨rfl, hsz, hP, hK, hD0⟩ := hv
  have hx := B.exec
  have hb := B.bytes
  have hr := B.returns
  have hts := atoms_spec (ws := wsX0_sort) B.pre
  have hts : ∀ w ∈ lw_all, w.before _ s = true := fun w h => hts w (List.mem_cons_of_mem _ h)
  have hown : s.vm.findClass RX0 = some m.cls := findClass_of_methodNamed B.named
  have hlocks := B.notSynchronized
  subst hsz
  have hD := hD0.self (sz := s.heap.size)
  generalize hAe : va_A [(h, .inr (0, [.ref r, .int (nI n)])), (r, .inl (d, 64, .inl f))] s.heap.size = A at hD ⊢
  have hA : ∀ q : Nat, s.heap.size ≤ q → A q := fun q h => by rw [← hAe]; exact Or.inr h
  have hS : va_S A s.heap s.heap [] := va_S.rf
  have hP : va_P (dC, dI) vwCl [(h, .inr (0, [.ref r, .int (nI n)])), (r, .inl (d, 64, .inl f))] s.heap := hP
  have hl := lv_entry ([.ref h]) (n := 1) (Nat.le_of_ble_eq_true rfl)
  rw [lg_entry_eq]
  generalize (lg_sl ([.ref h]) ++ List.replicate (1 - (lg_sl ([.ref h])).length) Slot.unset).toArray = ls at hl ⊢
  have hl : lv_has ls 1 [(0, .ref h)] := hl
  refine lv_aload_n hx hb dX0_sort_0 rfl (lv_at hl 0 rfl) ?_
  refine va_get (D := (dC, dI)) (ci := 0) (v := .ref r) (C := RX0) (T := TX0) (N := 2) hx hb hts in_X0 hown hK hP 0 rfl rfl 0 (by decide) (hts _ q12) (fun _ h9 => h9) rfl dX0_sort_1 ?_
  refine lv_aload_n hx hb dX0_sort_4 rfl (lv_at hl 0 rfl) ?_
  refine va_get (D := (dC, dI)) (ci := 0) (v := .int (nI n)) (C := RX0) (T := TX0) (N := 2) hx hb hts in_X0 hown hK hP 0 rfl rfl 1 (by decide) (hts _ q13) (fun _ h9 => h9) rfl dX0_sort_5 ?_
  have hPc := hP.sub (ws' := [(r, .inl (d, 64, .inl f))]) [1] rfl
  have hDc := hD.sub (ws' := [(r, .inl (d, 64, .inl f))]) [1] (by decide) rfl
  have hFc := va_free (wc := [(r, .inl (d, 64, .inl f))]) hD hS hA [1] rfl
  refine va_callv (va_runS (As := [.ref r, .int (nI n)]) (rest := []) ⟨hx, hb, hml, hown, hts⟩ (met_cs l dC dI d r s.heap.size f n h2 hn hf) (va_cwS 2 hts (lw_S q38 q39 q3 q40) rfl rfl rfl (by decide +kernel) ⟨Nat.le_of_ble_eq_true rfl, Nat.le_of_ble_eq_true rfl⟩) ⟨fun a U g mk q => by obtain ⟨q0, q1, qP, qK, qD⟩ := q; exact ⟨q0, q1, qP, va_K.moved (u := U) (U := U.calling g mk a) (Vm.Alike.refl U.vm) qK, qD⟩, fun U hU hW => ⟨rfl, by rw [hU], by rw [hU]; exact hPc, va_K.moved hW.alike hK, hDc.weaken (fun _ _ _ _ => trivial)⟩⟩ rfl rfl hl.1 rfl (lv_room (Nat.le_of_ble_eq_true rfl)) dX0_sort_8 ⟨Nat.le_of_ble_eq_true rfl, Nat.le_of_ble_eq_true rfl⟩) hS (fun q _ h => hFc q h) hFc (fun u t H1 locs ht hvm hw1 hB hz1 hk1 hS => ?_)
  obtain ⟨hP1, hK1, hD1⟩ := hB
  rw [ht] at hP1
  obtain ⟨hP, hD⟩ := va_join (wr := [(h, .inr (0, [.ref r, .int (nI n)]))]) (w1 := [(r, .inl (d, 64, .inl u))]) hP hD [1] [0] rfl rfl (by decide) (by decide) hk1 hFc hP1 hD1
  generalize H1 = H at hP hS ⊢
  have hP : va_P (dC, dI) vwCl [(h, .inr (0, [.ref r, .int (nI n)])), (r, .inl (d, 64, .inl u))] H := hP
  have hD : va_D A [(h, .inr (0, [.ref r, .int (nI n)])), (r, .inl (d, 64, .inl u))] := hD
  exact W.vret hx hb hr (fun t ht hW => ⟨⟨u, rfl, hw1, by rw [ht]; exact hP, va_K.moved hW.alike hK, hD⟩, hS.F ht⟩) hS.2.2 dX0_sort_11
end
section
/-! CLASS NetworkSortModel -/
abbrev wsX1_init : List Cond := ws_ yX1_init cX1_init 1 none
abbrev wsX1_set : List Cond := ws_ yX1_set cX1_set 3 none
abbrev wsX1_fill : List Cond := ws_ yX1_fill cX1_fill 4 none
abbrev wsX1_length : List Cond := ws_ yX1_length cX1_length 2 none
abbrev wsX1_sort : List Cond := ws_ yX1_sort cX1_sort 4 none
abbrev wsX1_get : List Cond := ws_ yX1_get cX1_get 2 (some .int)
abbrev wsX1_length_2 : List Cond := ws_ yX1_length_2 cX1_length_2 1 (some .int)
abbrev wsX1_sum : List Cond := ws_ yX1_sum cX1_sum 4 (some .long)
set_option maxHeartbeats 4000000 in
set_option maxRecDepth 100000 in
/-- NetworkSortModel(): a new row of 64 zeros, the length 64 -/
theorem met1_init (l : Launch) (dC : Nat → ClassId) (dI : Nat → Nat → Nat) (h sz : Nat) : Met l yX1_init wsX1_init ({ frames := 1, cells := 1, slots := 64, locals := 12 }) (va_Pc [.ref h] (fun U => U.heap.size = sz ∧ va_P (dC, dI) vwCl [(h, .inr (1, [.null, .int 0]))] U.heap ∧ va_K (dC, dI) vwCl [] U ∧ va_D (fun _ => True) [(h, .inr (1, [.null, .int 0]))])) (va_Qv (fun _ : ClassId × Nat => True) (fun u t => Bw dC dI 1 u.1 (va_A [(h, .inr (1, [.null, .int 0]))] sz) h u.2 (fun _ => 0) 64 t) (va_A [(h, .inr (1, [.null, .int 0]))] sz)) 1 64 (va_A [(h, .inr (1, [.null, .int 0]))] sz) := by
  refine Met.ofW (cc := cX1_init) (maxL := 1) (ret := none) (by decide) rfl ?_
  intro p e s m args below meth c s₁ B hml hv
  obtain ⟨rfl, hsz, hP, hK, hD0⟩ := hv
  have hx := B.exec
  have hb := B.bytes
  have hr := B.returns
  have hts := atoms_spec (ws := wsX1_init) B.pre
  have hts : ∀ w ∈ lw_all, w.before _ s = true := fun w h => hts w (List.mem_cons_of_mem _ h)
  have hown : s.vm.findClass RX1 = some m.cls := findClass_of_methodNamed B.named
  have hlocks := B.notSynchronized
  have hin : meth.name = "<init>" := (name_of_methodNamed B.named B.method).1
  subst hsz
  have hD := hD0.self (sz := s.heap.size)
  generalize hAe : va_A [(h, .inr (1, [.null, .int 0]))] s.heap.size = A at hD ⊢
  have hA : ∀ q : Nat, s.heap.size ≤ q → A q := fun q h => by rw [← hAe]; exact Or.inr h
  have hS : va_S A s.heap s.heap [] := va_S.rf
  have hP : va_P (dC, dI) vwCl [(h, .inr (1, [.null, .int 0]))] s.heap := hP
  have hl := lv_entry ([.ref h]) (n := 1) (Nat.le_of_ble_eq_true rfl)
  rw [lg_entry_eq]
  generalize (lg_sl ([.ref h]) ++ List.replicate (1 - (lg_sl ([.ref h])).length) Slot.unset).toArray = ls at hl ⊢
  have hl : lv_has ls 1 [(0, .ref h)] := hl
  refine lv_aload_n hx hb dX1_init_0 rfl (lv_at hl 0 rfl) ?_
  refine W.objInit hx hb hown (hts _ q63) (hts _ q10) (hts _ q11) rfl (by rw [hml]; exact hl.1) rfl dX1_init_1 (Nat.le_of_ble_eq_true rfl) (Nat.le_of_ble_eq_true rfl) ?_
  refine W.eq (g2 := F0 m 4 ls []) rfl ?_
  refine lv_aload_n hx hb dX1_init_4 rfl (lv_at hl 0 rfl) ?_
  refine lv_bipush (v := 64) hx hb dX1_init_5 (by decide) ?_
  have hc1 : 0 + 1 ≤ (headSpec wsX1_init ({ frames := 1, cells := 1, slots := 64, locals := 12 })).room.cells := Nat.le_of_ble_eq_true rfl
  have hc2 : 0 + 64 ≤ (headSpec wsX1_init ({ frames := 1, cells := 1, slots := 64, locals := 12 })).room.slots := Nat.le_of_ble_eq_true rfl
  refine va_newa (atype := .int) (ty := .int) (a0 := (64, .inl (fun _ => 0))) (N' := 64) hx hb (hts _ q19) rfl hK hP hD hS hA (fun _ => rfl) (by decide) (by decide) (Nat.le_of_ble_eq_true rfl) hc1 hc2 dX1_init_7 (fun r d H hK hP hD hS => ?_)
  have hP : va_P (dC, dI) vwCl [(h, .inr (1, [.null, .int 0])), (r, .inl (d, 64, .inl (fun _ => 0)))] H := hP
  have hD : va_D A [(h, .inr (1, [.null, .int 0])), (r, .inl (d, 64, .inl (fun _ => 0)))] := hD
  have hK : va_K (dC, dI) vwCl [(d, .int)] s := hK
  refine W.widen (k := 1) (n := 64) (Nat.le_refl _) (Nat.le_of_ble_eq_true rfl) ?_
  refine va_putF (D := (dC, dI)) (ci := 1) (v := .ref r) (ty := .array .int) (C := RX1) (T := TX1) (N := 2) hx hb hts in_X1 tyX1 tyX1_ok nmX1 hown hK hP hD hS 0 rfl rfl 0 (by decide) (hts _ q64) (fun _ h9 => h9) rfl hin rfl (by decide +kernel) rfl rfl (Nat.le_of_ble_eq_true rfl) dX1_init_9 (fun H locs hP hD hS => ?_)
  have hP : va_P (dC, dI) vwCl [(h, .inr (1, [.ref r, .int 0])), (r, .inl (d, 64, .inl (fun _ => 0)))] H := hP
  have hD : va_D A [(h, .inr (1, [.ref r, .int 0])), (r, .inl (d, 64, .inl (fun _ => 0)))] := hD
  refine lv_aload_n hx hb dX1_init_12 rfl (lv_at hl 0 rfl) ?_
  refine lv_bipush (v := nI 64) hx hb dX1_init_13 (by decide) ?_
  refine va_put (D := (dC, dI)) (ci := 1) (v := .int (nI 64)) (ty := .int) (C := RX1) (T := TX1) (N := 2) hx hb hts in_X1 tyX1 tyX1_ok nmX1 hown hK hP hD hS 0 rfl rfl 1 (by decide) (hts _ q65) (fun _ h9 => h9) rfl (by decide +kernel) rfl rfl (Nat.le_of_ble_eq_true rfl) dX1_init_15 (fun H locs hP hD hS => ?_)
  have hP : va_P (dC, dI) vwCl [(h, .inr (1, [.ref r, .int (nI 64)])), (r, .inl (d, 64, .inl (fun _ => 0)))] H := hP
  have hD : va_D A [(h, .inr (1, [.ref r, .int (nI 64)])), (r, .inl (d, 64, .inl (fun _ => 0)))] := hD
  exact W.vret hx hb hr (fun t ht hW => ⟨⟨(d, r), rfl, trivial, by rw [ht]; exact hP, va_K.moved hW.alike hK, hD⟩, hS.F ht⟩) hS.2.2 dX1_init_18
set_option maxHeartbeats 4000000 in
set_option maxRecDepth 100000 in
/-- NetworkSortModel.set(i, v) -/
theorem met1_set (l : Launch) (dC : Nat → ClassId) (dI : Nat → Nat → Nat) (d : ClassId) (h r sz : Nat) (f : Nat → Int32) (n : Nat) (p0 p1 : Int32) : Met l yX1_set wsX1_set ({ frames := 0, cells := 0, slots := 0, locals := 0 }) (va_Pc [.ref h, .int p0, .int p1] (fun U => U.heap.size = sz ∧ va_P (dC, dI) vwCl [(h, .inr (1, [.ref r, .int (nI n)])), (r, .inl (d, 64, .inl f))] U.heap ∧ va_K (dC, dI) vwCl [(d, .int)] U ∧ va_D (fun _ => True) [(h, .inr (1, [.ref r, .int (nI n)])), (r, .inl (d, 64, .inl f))])) (va_Qv (fun _ : Unit => True) (fun _ t => Bw dC dI 1 d (va_A [(h, .inr (1, [.ref r, .int (nI n)])), (r, .inl (d, 64, .inl f))] sz) h r (upd f (p0 &&& 63).toNatClampNeg (p1 &&& 1073741823)) n t) (va_A [(h, .inr (1, [.ref r, .int (nI n)])), (r, .inl (d, 64, .inl f))] sz)) 0 0 (va_A [(h, .inr (1, [.ref r, .int (nI n)])), (r, .inl (d, 64, .inl f))] sz) := by
  refine Met.ofW (cc := cX1_set) (maxL := 3) (ret := none) (by decide) rfl ?_
  intro p e s m args below meth c s₁ B hml hv
  obtain ⟨rfl, hsz, hP, hK, hD0⟩ := hv
  have hx := B.exec
  have hb := B.bytes
  have hr := B.returns
  have hts := atoms_spec (ws := wsX1_set) B.pre
  have hts : ∀ w ∈ lw_all, w.before _ s = true := fun w h => hts w (List.mem_cons_of_mem _ h)
  have hown : s.vm.findClass RX1 = some m.cls := findClass_of_methodNamed B.named
  have hlocks := B.notSynchronized
  subst hsz
  have hD := hD0.self (sz := s.heap.size)
  generalize hAe : va_A [(h, .inr (1, [.ref r, .int (nI n)])), (r, .inl (d, 64, .inl f))] s.heap.size = A at hD ⊢
  have hA : ∀ q : Nat, s.heap.size ≤ q → A q := fun q h => by rw [← hAe]; exact Or.inr h
  have hS : va_S A s.heap s.heap [] := va_S.rf
  have hP : va_P (dC, dI) vwCl [(h, .inr (1, [.ref r, .int (nI n)])), (r, .inl (d, 64, .inl f))] s.heap := hP
  have hl := lv_entry ([.ref h, .int p0, .int p1]) (n := 3) (Nat.le_of_ble_eq_true rfl)
  rw [lg_entry_eq]
  generalize (lg_sl ([.ref h, .int p0, .int p1]) ++ List.replicate (3 - (lg_sl ([.ref h, .int p0, .int p1])).length) Slot.unset).toArray = ls at hl ⊢
  have hl : lv_has ls 3 [(0, .ref h), (1, .int p0), (2, .int p1)] := hl
  have hin : vp_in (p0 &&& 63) 64 := pk_andIn p0 (m := 63) 6 (by decide) (by decide)
  refine lv_aload_n hx hb dX1_set_0 rfl (lv_at hl 0 rfl) ?_
  refine va_get (D := (dC, dI)) (ci := 1) (v := .ref r) (C := RX1) (T := TX1) (N := 2) hx hb hts in_X1 hown hK hP 0 rfl rfl 0 (by decide) (hts _ q64) (fun _ h9 => h9) rfl dX1_set_1 ?_
  refine lv_iload_n hx hb dX1_set_4 rfl (lv_at hl 1 rfl) ?_
  refine lv_bipush (v := 63) hx hb dX1_set_5 (by decide) ?_
  refine lv_iand hx hb dX1_set_7 ?_
  refine lv_iload_n hx hb dX1_set_8 rfl (lv_at hl 2 rfl) ?_
  refine lv_ldc (v := 1073741823) hx hb hown (hts _ q75) dX1_set_9 ?_
  refine lv_iand hx hb dX1_set_11 ?_
  refine va_iast hx hb hK hP hD hS 1 0 rfl rfl hin dX1_set_12 (fun H locs hP hD hS => ?_)
  have hP : va_P (dC, dI) vwCl [(h, .inr (1, [.ref r, .int (nI n)])), (r, .inl (d, 64, .inl (upd f (p0 &&& 63).toNatClampNeg (p1 &&& 1073741823))))] H := hP
  have hD : va_D A [(h, .inr (1, [.ref r, .int (nI n)])), (r, .inl (d, 64, .inl (upd f (p0 &&& 63).toNatClampNeg (p1 &&& 1073741823))))] := hD
  exact W.vret hx hb hr (fun t ht hW => ⟨⟨(), rfl, trivial, by rw [ht]; exact hP, va_K.moved hW.alike hK, hD⟩, hS.F ht⟩) hS.2.2 dX1_set_13
set_option maxHeartbeats 4000000 in
set_option maxRecDepth 100000 in
theorem lp1_fill {p : Program} {l : Launch} {e : Env} {R : Room} {s : State} {m : MethodId} {args : Array Value} {below : List Frame} {meth : Method} {c : Code} {Q : State → Prop} {dC : Nat → ClassId} {dI : Nat → Nat → Nat} {d : ClassId} {h r n : Nat} {A : Nat → Prop} (F : cw_Fx p s m args c A cX1_fill RX1 4) {f : Nat → Int32} {p0 p1 : Int32} (kk : cw_W p l e R s m args below meth c Q dC dI d h r A 1 n 4 28 (ns_fill f p0 p1 64) [(0, .ref h)]) : ∀ k i, i + k = 64 → cw_W p l e R s m args below meth c Q dC dI d h r A 1 n 4 2 (ns_fill f p0 p1 i) [(3, .int (nI i)), (0, .ref h), (1, .int p0), (2, .int p1)] := by
  obtain ⟨hx, hb, hml, hown, hts, hA⟩ := F
  intro k
  induction k with
  | zero =>
    intro i hi H locs ls hK hP hD hS hl
    have hi : i = 64 := by omega
    subst hi
    refine lv_iload_n hx hb dX1_fill_2 rfl (lv_at hl 0 rfl) ?_
    refine lv_bipush (v := nI 64) hx hb dX1_fill_3 (by decide) ?_
    refine lv_icmp_ge (tgt := 28) hx hb dX1_fill_5 (by decide) (fun _ => ?_) (fun c1 => absurd (Int32.le_refl _) c1)
    exact kk H locs ls hK hP hD hS (lv_sub hl [1] rfl)
  | succ k ih =>
    intro i hi H locs ls hK hP hD hS hl
    have ci : (nI i).toNatClampNeg = i := nI_clamp (by omega)
    have hin : vp_in (nI i) 64 := vp_in_nI (by omega) (by decide)
    refine lv_iload_n hx hb dX1_fill_2 rfl (lv_at hl 0 rfl) ?_
    refine lv_bipush (v := nI 64) hx hb dX1_fill_3 (by decide) ?_
    refine lv_icmp_ge (tgt := 28) hx hb dX1_fill_5 (by decide) (fun c1 => absurd c1 (nI_ge (by omega) (by decide))) (fun _ => ?_)
    refine lv_aload_n hx hb dX1_fill_8 rfl (lv_at hl 1 rfl) ?_
    refine va_get (D := (dC, dI)) (ci := 1) (v := .ref r) (C := RX1) (T := TX1) (N := 2) hx hb hts in_X1 hown hK hP 0 rfl rfl 0 (by decide) (hts _ q64) (fun _ h9 => h9) rfl dX1_fill_9 ?_
    refine lv_iload_n hx hb dX1_fill_12 rfl (lv_at hl 0 rfl) ?_
    refine lv_iload_n hx hb dX1_fill_13 rfl (lv_at hl 2 rfl) ?_
    refine lv_iload_n hx hb dX1_fill_14 rfl (lv_at hl 3 rfl) ?_
    refine lv_iload_n hx hb dX1_fill_15 rfl (lv_at hl 0 rfl) ?_
    refine lv_imul hx hb dX1_fill_16 ?_
    refine lv_iadd hx hb dX1_fill_17 ?_
    refine lv_ldc (v := 1073741823) hx hb hown (hts _ q75) dX1_fill_18 ?_
    refine lv_iand hx hb dX1_fill_20 ?_
    refine va_iast hx hb hK hP hD hS 1 0 rfl rfl hin dX1_fill_21 (fun H locs hP hD hS => ?_)
    rw [ci] at hP hD
    refine lv_iinc (v := nI (i + 1)) (lv' := [(3, .int (nI (i + 1))), (0, .ref h), (1, .int p0), (2, .int p1)]) hx hb dX1_fill_22 hl (k := 0) rfl (nI_1 i) (by decide) rfl (fun ls hl => ?_)
    refine lv_goto (tgt := 2) hx hb dX1_fill_25 (by decide) ?_
    exact ih (i + 1) (by omega) H locs ls hK hP hD hS hl
set_option maxHeartbeats 4000000 in
set_option maxRecDepth 100000 in
/-- NetworkSortModel.fill(from, step) -/
theorem met1_fill (l : Launch) (dC : Nat → ClassId) (dI : Nat → Nat → Nat) (d : ClassId) (h r sz : Nat) (f : Nat → Int32) (n : Nat) (p0 p1 : Int32) : Met l yX1_fill wsX1_fill ({ frames := 0, cells := 0, slots := 0, locals := 0 }) (va_Pc [.ref h, .int p0, .int p1] (fun U => U.heap.size = sz ∧ va_P (dC, dI) vwCl [(h, .inr (1, [.ref r, .int (nI n)])), (r, .inl (d, 64, .inl f))] U.heap ∧ va_K (dC, dI) vwCl [(d, .int)] U ∧ va_D (fun _ => True) [(h, .inr (1, [.ref r, .int (nI n)])), (r, .inl (d, 64, .inl f))])) (va_Qv (fun _ : Unit => True) (fun _ t => Bw dC dI 1 d (va_A [(h, .inr (1, [.ref r, .int (nI n)])), (r, .inl (d, 64, .inl f))] sz) h r (ns_fill f p0 p1 64) n t) (va_A [(h, .inr (1, [.ref r, .int (nI n)])), (r, .inl (d, 64, .inl f))] sz)) 0 0 (va_A [(h, .inr (1, [.ref r, .int (nI n)])), (r, .inl (d, 64, .inl f))] sz) := by
  refine Met.ofW (cc := cX1_fill) (maxL := 4) (ret := none) (by decide) rfl ?_
  intro p e s m args below meth c s₁ B hml hv
  obtain ⟨rfl, hsz, hP, hK, hD0⟩ := hv
  have hx := B.exec
  have hb := B.bytes
  have hr := B.returns
  have hts := atoms_spec (ws := wsX1_fill) B.pre
  have hts : ∀ w ∈ lw_all, w.before _ s = true := fun w h => hts w (List.mem_cons_of_mem _ h)
  have hown : s.vm.findClass RX1 = some m.cls := findClass_of_methodNamed B.named
  have hlocks := B.notSynchronized
  subst hsz
  have hD := hD0.self (sz := s.heap.size)
  generalize hAe : va_A [(h, .inr (1, [.ref r, .int (nI n)])), (r, .inl (d, 64, .inl f))] s.heap.size = A at hD ⊢
  have hA : ∀ q : Nat, s.heap.size ≤ q → A q := fun q h => by rw [← hAe]; exact Or.inr h
  have hS : va_S A s.heap s.heap [] := va_S.rf
  have hP : va_P (dC, dI) vwCl [(h, .inr (1, [.ref r, .int (nI n)])), (r, .inl (d, 64, .inl f))] s.heap := hP
  have hl := lv_entry ([.ref h, .int p0, .int p1]) (n := 4) (Nat.le_of_ble_eq_true rfl)
  rw [lg_entry_eq]
  generalize (lg_sl ([.ref h, .int p0, .int p1]) ++ List.replicate (4 - (lg_sl ([.ref h, .int p0, .int p1])).length) Slot.unset).toArray = ls at hl ⊢
  have hl : lv_has ls 4 [(0, .ref h), (1, .int p0), (2, .int p1)] := hl
  refine lv_iconst (v := 0) hx hb dX1_fill_0 (by decide) ?_
  refine lv_istore_n (lv' := [(3, .int (nI 0)), (0, .ref h), (1, .int p0), (2, .int p1)]) hx hb dX1_fill_1 rfl hl (by decide) rfl (fun ls hl => ?_)
  refine lp1_fill (n := n) ⟨hx, hb, hml, hown, hts, hA⟩ (f := f) (p0 := p0) (p1 := p1) ?_ 64 0 rfl s.heap [] ls hK hP hD hS hl
  intro H locs ls hK hP hD hS hl
  exact W.vret hx hb hr (fun t ht hW => ⟨⟨(), rfl, trivial, by rw [ht]; exact hP, va_K.moved hW.alike hK, hD⟩, hS.F ht⟩) hS.2.2 dX1_fill_28
set_option maxHeartbeats 4000000 in
set_option maxRecDepth 100000 in
/-- NetworkSortModel.length(n): the length is 2 + (n & MAX) % 63 -/
theorem met1_length (l : Launch) (dC : Nat → ClassId) (dI : Nat → Nat → Nat) (d : ClassId) (h r sz : Nat) (f : Nat → Int32) (n : Nat) (p0 : Int32) : Met l yX1_length wsX1_length ({ frames := 0, cells := 0, slots := 0, locals := 0 }) (va_Pc [.ref h, .int p0] (fun U => U.heap.size = sz ∧ va_P (dC, dI) vwCl [(h, .inr (1, [.ref r, .int (nI n)])), (r, .inl (d, 64, .inl f))] U.heap ∧ va_K (dC, dI) vwCl [(d, .int)] U ∧ va_D (fun _ => True) [(h, .inr (1, [.ref r, .int (nI n)])), (r, .inl (d, 64, .inl f))])) (va_Qv (fun _ : Unit => True) (fun _ t => Bw dC dI 1 d (va_A [(h, .inr (1, [.ref r, .int (nI n)])), (r, .inl (d, 64, .inl f))] sz) h r f (ns_len p0) t) (va_A [(h, .inr (1, [.ref r, .int (nI n)])), (r, .inl (d, 64, .inl f))] sz)) 0 0 (va_A [(h, .inr (1, [.ref r, .int (nI n)])), (r, .inl (d, 64, .inl f))] sz) := by
  refine Met.ofW (cc := cX1_length) (maxL := 2) (ret := none) (by decide) rfl ?_
  intro p e s m args below meth c s₁ B hml hv
  obtain ⟨rfl, hsz, hP, hK, hD0⟩ := hv
  have hx := B.exec
  have hb := B.bytes
  have hr := B.returns
  have hts := atoms_spec (ws := wsX1_length) B.pre
  have hts : ∀ w ∈ lw_all, w.before _ s = true := fun w h => hts w (List.mem_cons_of_mem _ h)
  have hown : s.vm.findClass RX1 = some m.cls := findClass_of_methodNamed B.named
  have hlocks := B.notSynchronized
  subst hsz
  have hD := hD0.self (sz := s.heap.size)
  generalize hAe : va_A [(h, .inr (1, [.ref r, .int (nI n)])), (r, .inl (d, 64, .inl f))] s.heap.size = A at hD ⊢
  have hA : ∀ q : Nat, s.heap.size ≤ q → A q := fun q h => by rw [← hAe]; exact Or.inr h
  have hS : va_S A s.heap s.heap [] := va_S.rf
  have hP : va_P (dC, dI) vwCl [(h, .inr (1, [.ref r, .int (nI n)])), (r, .inl (d, 64, .inl f))] s.heap := hP
  have hl := lv_entry ([.ref h, .int p0]) (n := 2) (Nat.le_of_ble_eq_true rfl)
  rw [lg_entry_eq]
  generalize (lg_sl ([.ref h, .int p0]) ++ List.replicate (2 - (lg_sl ([.ref h, .int p0])).length) Slot.unset).toArray = ls at hl ⊢
  have hl : lv_has ls 2 [(0, .ref h), (1, .int p0)] := hl
  refine lv_aload_n hx hb dX1_length_0 rfl (lv_at hl 0 rfl) ?_
  refine lv_iconst (v := 2) hx hb dX1_length_1 (by decide) ?_
  refine lv_iload_n hx hb dX1_length_2 rfl (lv_at hl 1 rfl) ?_
  refine lv_ldc (v := 2147483647) hx hb hown (hts _ q84) dX1_length_3 ?_
  refine lv_iand hx hb dX1_length_5 ?_
  refine lv_bipush (v := 63) hx hb dX1_length_6 (by decide) ?_
  refine lv_irem hx hb dX1_length_8 (by decide) ?_
  refine lv_iadd hx hb dX1_length_9 ?_
  rw [ns_len_eq]
  refine va_put (D := (dC, dI)) (ci := 1) (v := .int (nI (ns_len p0))) (ty := .int) (C := RX1) (T := TX1) (N := 2) hx hb hts in_X1 tyX1 tyX1_ok nmX1 hown hK hP hD hS 0 rfl rfl 1 (by decide) (hts _ q65) (fun _ h9 => h9) rfl (by decide +kernel) rfl rfl (Nat.le_of_ble_eq_true rfl) dX1_length_10 (fun H locs hP hD hS => ?_)
  have hP : va_P (dC, dI) vwCl [(h, .inr (1, [.ref r, .int (nI (ns_len p0))])), (r, .inl (d, 64, .inl f))] H := hP
  have hD : va_D A [(h, .inr (1, [.ref r, .int (nI (ns_len p0))])), (r, .inl (d, 64, .inl f))] := hD
  exact W.vret hx hb hr (fun t ht hW => ⟨⟨(), rfl, trivial, by rw [ht]; exact hP, va_K.moved hW.alike hK, hD⟩, hS.F ht⟩) hS.2.2 dX1_length_13
set_option maxHeartbeats 4000000 in
set_option maxRecDepth 100000 in
/-- NetworkSortModel.get(i) -/
theorem met1_get (l : Launch) (dC : Nat → ClassId) (dI : Nat → Nat → Nat) (d : ClassId) (h r sz : Nat) (f : Nat → Int32) (n : Nat) (p0 : Int32) : Met l yX1_get wsX1_get ({ frames := 0, cells := 0, slots := 0, locals := 0 }) (va_Pc [.ref h, .int p0] (fun U => U.heap.size = sz ∧ va_P (dC, dI) vwCl [(h, .inr (1, [.ref r, .int (nI n)])), (r, .inl (d, 64, .inl f))] U.heap ∧ va_K (dC, dI) vwCl [(d, .int)] U ∧ va_D (fun _ => True) [(h, .inr (1, [.ref r, .int (nI n)])), (r, .inl (d, 64, .inl f))])) (va_Qi (fun (v : Int32) (_ : Unit) => v = f (p0 &&& 63).toNatClampNeg) (fun _ t => Bw dC dI 1 d (va_A [(h, .inr (1, [.ref r, .int (nI n)])), (r, .inl (d, 64, .inl f))] sz) h r f n t) (va_A [(h, .inr (1, [.ref r, .int (nI n)])), (r, .inl (d, 64, .inl f))] sz)) 0 0 (va_A [(h, .inr (1, [.ref r, .int (nI n)])), (r, .inl (d, 64, .inl f))] sz) := by
  refine Met.ofW (cc := cX1_get) (maxL := 2) (ret := (some .int)) (by decide) rfl ?_
  intro p e s m args below meth c s₁ B hml hv
  obtain ⟨rfl, hsz, hP, hK, hD0⟩ := hv
  have hx := B.exec
  have hb := B.bytes
  have hr := B.returns
  have hts := atoms_spec (ws := wsX1_get) B.pre
  have hts : ∀ w ∈ lw_all, w.before _ s = true := fun w h => hts w (List.mem_cons_of_mem _ h)
  have hown : s.vm.findClass RX1 = some m.cls := findClass_of_methodNamed B.named
  have hlocks := B.notSynchronized
  subst hsz
  have hD := hD0.self (sz := s.heap.size)
  generalize hAe : va_A [(h, .inr (1, [.ref r, .int (nI n)])), (r, .inl (d, 64, .inl f))] s.heap.size = A at hD ⊢
  have hA : ∀ q : Nat, s.heap.size ≤ q → A q := fun q h => by rw [← hAe]; exact Or.inr h
  have hS : va_S A s.heap s.heap [] := va_S.rf
  have hP : va_P (dC, dI) vwCl [(h, .inr (1, [.ref r, .int (nI n)])), (r, .inl (d, 64, .inl f))] s.heap := hP
  have hl := lv_entry ([.ref h, .int p0]) (n := 2) (Nat.le_of_ble_eq_true rfl)
  rw [lg_entry_eq]
  generalize (lg_sl ([.ref h, .int p0]) ++ List.replicate (2 - (lg_sl ([.ref h, .int p0])).length) Slot.unset).toArray = ls at hl ⊢
  have hl : lv_has ls 2 [(0, .ref h), (1, .int p0)] := hl
  have hin : vp_in (p0 &&& 63) 64 := pk_andIn p0 (m := 63) 6 (by decide) (by decide)
  refine lv_aload_n hx hb dX1_get_0 rfl (lv_at hl 0 rfl) ?_
  refine va_get (D := (dC, dI)) (ci := 1) (v := .ref r) (C := RX1) (T := TX1) (N := 2) hx hb hts in_X1 hown hK hP 0 rfl rfl 0 (by decide) (hts _ q64) (fun _ h9 => h9) rfl dX1_get_1 ?_
  refine lv_iload_n hx hb dX1_get_4 rfl (lv_at hl 1 rfl) ?_
  refine lv_bipush (v := 63) hx hb dX1_get_5 (by decide) ?_
  refine lv_iand hx hb dX1_get_7 ?_
  refine va_iald hx hb hK hP 1 0 rfl rfl hin dX1_get_8 ?_
  exact W.iret hx hb hr (fun t ht hW => ⟨⟨_, (), rfl, rfl, by rw [ht]; exact hP, va_K.moved hW.alike hK, hD⟩, hS.F ht⟩) hS.2.2 dX1_get_9
set_option maxHeartbeats 4000000 in
set_option maxRecDepth 100000 in
/-- NetworkSortModel.length() -/
theorem met1_length_2 (l : Launch) (dC : Nat → ClassId) (dI : Nat → Nat → Nat) (d : ClassId) (h r sz : Nat) (f : Nat → Int32) (n : Nat) : Met l yX1_length_2 wsX1_length_2 ({ frames := 0, cells := 0, slots := 0, locals := 0 }) (va_Pc [.ref h] (fun U => U.heap.size = sz ∧ va_P (dC, dI) vwCl [(h, .inr (1, [.ref r, .int (nI n)])), (r, .inl (d, 64, .inl f))] U.heap ∧ va_K (dC, dI) vwCl [(d, .int)] U ∧ va_D (fun _ => True) [(h, .inr (1, [.ref r, .int (nI n)])), (r, .inl (d, 64, .inl f))])) (va_Qi (fun (v : Int32) (_ : Unit) => v = nI n) (fun _ t => Bw dC dI 1 d (va_A [(h, .inr (1, [.ref r, .int (nI n)])), (r, .inl (d, 64, .inl f))] sz) h r f n t) (va_A [(h, .inr (1, [.ref r, .int (nI n)])), (r, .inl (d, 64, .inl f))] sz)) 0 0 (va_A [(h, .inr (1, [.ref r, .int (nI n)])), (r, .inl (d, 64, .inl f))] sz) := by
  refine Met.ofW (cc := cX1_length_2) (maxL := 1) (ret := (some .int)) (by decide) rfl ?_
  intro p e s m args below meth c s₁ B hml hv
  obtain ⟨rfl, hsz, hP, hK, hD0⟩ := hv
  have hx := B.exec
  have hb := B.bytes
  have hr := B.returns
  have hts := atoms_spec (ws := wsX1_length_2) B.pre
  have hts : ∀ w ∈ lw_all, w.before _ s = true := fun w h => hts w (List.mem_cons_of_mem _ h)
  have hown : s.vm.findClass RX1 = some m.cls := findClass_of_methodNamed B.named
  have hlocks := B.notSynchronized
  subst hsz
  have hD := hD0.self (sz := s.heap.size)
  generalize hAe : va_A [(h, .inr (1, [.ref r, .int (nI n)])), (r, .inl (d, 64, .inl f))] s.heap.size = A at hD ⊢
  have hA : ∀ q : Nat, s.heap.size ≤ q → A q := fun q h => by rw [← hAe]; exact Or.inr h
  have hS : va_S A s.heap s.heap [] := va_S.rf
  have hP : va_P (dC, dI) vwCl [(h, .inr (1, [.ref r, .int (nI n)])), (r, .inl (d, 64, .inl f))] s.heap := hP
  have hl := lv_entry ([.ref h]) (n := 1) (Nat.le_of_ble_eq_true rfl)
  rw [lg_entry_eq]
  generalize (lg_sl ([.ref h]) ++ List.replicate (1 - (lg_sl ([.ref h])).length) Slot.unset).toArray = ls at hl ⊢
  have hl : lv_has ls 1 [(0, .ref h)] := hl
  refine lv_aload_n hx hb dX1_length_2_0 rfl (lv_at hl 0 rfl) ?_
  refine va_get (D := (dC, dI)) (ci := 1) (v := .int (nI n)) (C := RX1) (T := TX1) (N := 2) hx hb hts in_X1 hown hK hP 0 rfl rfl 1 (by decide) (hts _ q65) (fun _ h9 => h9) rfl dX1_length_2_1 ?_
  exact W.iret hx hb hr (fun t ht hW => ⟨⟨_, (), rfl, rfl, by rw [ht]; exact hP, va_K.moved hW.alike hK, hD⟩, hS.F ht⟩) hS.2.2 dX1_length_2_4
set_option maxHeartbeats 4000000 in
set_option maxRecDepth 100000 in
theorem lp1_sum {p : Program} {l : Launch} {e : Env} {R : Room} {s : State} {m : MethodId} {args : Array Value} {below : List Frame} {meth : Method} {c : Code} {Q : State → Prop} {dC : Nat → ClassId} {dI : Nat → Nat → Nat} {d : ClassId} {h r n : Nat} {A : Nat → Prop} (F : cw_Fx p s m args c A cX1_sum RX1 4) {f : Nat → Int32} (kk : cw_W p l e R s m args below meth c Q dC dI d h r A 1 n 4 30 f [(1, .long (ns_sum f 64))]) : ∀ k i, i + k = 64 → cw_W p l e R s m args below meth c Q dC dI d h r A 1 n 4 4 f [(3, .int (nI i)), (1, .long (ns_sum f i)), (0, .ref h)] := by
  obtain ⟨hx, hb, hml, hown, hts, hA⟩ := F
  intro k
  induction k with
  | zero =>
    intro i hi H locs ls hK hP hD hS hl
    have hi : i = 64 := by omega
    subst hi
    refine lv_iload_n hx hb dX1_sum_4 rfl (lv_at hl 0 rfl) ?_
    refine lv_bipush (v := nI 64) hx hb dX1_sum_5 (by decide) ?_
    refine lv_icmp_ge (tgt := 30) hx hb dX1_sum_7 (by decide) (fun _ => ?_) (fun c1 => absurd (Int32.le_refl _) c1)
    exact kk H locs ls hK hP hD hS (lv_sub hl [1] rfl)
  | succ k ih =>
    intro i hi H locs ls hK hP hD hS hl
    have ci : (nI i).toNatClampNeg = i := nI_clamp (by omega)
    have hin : vp_in (nI i) 64 := vp_in_nI (by omega) (by decide)
    refine lv_iload_n hx hb dX1_sum_4 rfl (lv_at hl 0 rfl) ?_
    refine lv_bipush (v := nI 64) hx hb dX1_sum_5 (by decide) ?_
    refine lv_icmp_ge (tgt := 30) hx hb dX1_sum_7 (by decide) (fun c1 => absurd c1 (nI_ge (by omega) (by decide))) (fun _ => ?_)
    refine lv_lload_n hx hb dX1_sum_10 rfl (lv_at hl 1 rfl) ?_
    refine lv_ldc2 (v := 31) hx hb hown (hts _ q101) dX1_sum_11 ?_
    refine lv_lmul hx hb dX1_sum_14 ?_
    refine lv_aload_n hx hb dX1_sum_15 rfl (lv_at hl 2 rfl) ?_
    refine va_get (D := (dC, dI)) (ci := 1) (v := .ref r) (C := RX1) (T := TX1) (N := 2) hx hb hts in_X1 hown hK hP 0 rfl rfl 0 (by decide) (hts _ q64) (fun _ h9 => h9) rfl dX1_sum_16 ?_
    refine lv_iload_n hx hb dX1_sum_19 rfl (lv_at hl 0 rfl) ?_
    refine va_iald hx hb hK hP 1 0 rfl rfl hin dX1_sum_20 ?_
    rw [ci]
    refine lv_i2l hx hb dX1_sum_21 rfl ?_
    refine lv_ladd hx hb dX1_sum_22 ?_
    refine lv_lstore_n (lv' := [(1, .long (ns_sum f (i + 1))), (3, .int (nI i)), (0, .ref h)]) hx hb dX1_sum_23 rfl hl (by decide) rfl (fun ls hl => ?_)
    refine lv_iinc (v := nI (i + 1)) (lv' := [(3, .int (nI (i + 1))), (1, .long (ns_sum f (i + 1))), (0, .ref h)]) hx hb dX1_sum_24 hl (k := 1) rfl (nI_1 i) (by decide) rfl (fun ls hl => ?_)
    refine lv_goto (tgt := 4) hx hb dX1_sum_27 (by decide) ?_
    exact ih (i + 1) (by omega) H locs ls hK hP hD hS hl
set_option maxHeartbeats 4000000 in
set_option maxRecDepth 100000 in
/-- NetworkSortModel.sum() -/
theorem met1_sum (l : Launch) (dC : Nat → ClassId) (dI : Nat → Nat → Nat) (d : ClassId) (h r sz : Nat) (f : Nat → Int32) (n : Nat) : Met l yX1_sum wsX1_sum ({ frames := 0, cells := 0, slots := 0, locals := 0 }) (va_Pc [.ref h] (fun U => U.heap.size = sz ∧ va_P (dC, dI) vwCl [(h, .inr (1, [.ref r, .int (nI n)])), (r, .inl (d, 64, .inl f))] U.heap ∧ va_K (dC, dI) vwCl [(d, .int)] U ∧ va_D (fun _ => True) [(h, .inr (1, [.ref r, .int (nI n)])), (r, .inl (d, 64, .inl f))])) (va_Ql (fun (v : Int64) (_ : Unit) => v = ns_sum f 64) (fun _ t => Bw dC dI 1 d (va_A [(h, .inr (1, [.ref r, .int (nI n)])), (r, .inl (d, 64, .inl f))] sz) h r f n t) (va_A [(h, .inr (1, [.ref r, .int (nI n)])), (r, .inl (d, 64, .inl f))] sz)) 0 0 (va_A [(h, .inr (1, [.ref r, .int (nI n)])), (r, .inl (d, 64, .inl f))] sz) := by
  refine Met.ofW (cc := cX1_sum) (maxL := 4) (ret := (some .long)) (by decide) rfl ?_
  intro p e s m args below meth c s₁ B hml hv
  obtain ⟨rfl, hsz, hP, hK, hD0⟩ := hv
  have hx := B.exec
  have hb := B.bytes
  have hr := B.returns
  have hts := atoms_spec (ws := wsX1_sum) B.pre
  have hts : ∀ w ∈ lw_all, w.before _ s = true := fun w h => hts w (List.mem_cons_of_mem _ h)
  have hown : s.vm.findClass RX1 = some m.cls := findClass_of_methodNamed B.named
  have hlocks := B.notSynchronized
  subst hsz
  have hD := hD0.self (sz := s.heap.size)
  generalize hAe : va_A [(h, .inr (1, [.ref r, .int (nI n)])), (r, .inl (d, 64, .inl f))] s.heap.size = A at hD ⊢
  have hA : ∀ q : Nat, s.heap.size ≤ q → A q := fun q h => by rw [← hAe]; exact Or.inr h
  have hS : va_S A s.heap s.heap [] := va_S.rf
  have hP : va_P (dC, dI) vwCl [(h, .inr (1, [.ref r, .int (nI n)])), (r, .inl (d, 64, .inl f))] s.heap := hP
  have hl := lv_entry ([.ref h]) (n := 4) (Nat.le_of_ble_eq_true rfl)
  rw [lg_entry_eq]
  generalize (lg_sl ([.ref h]) ++ List.replicate (4 - (lg_sl ([.ref h])).length) Slot.unset).toArray = ls at hl ⊢
  have hl : lv_has ls 4 [(0, .ref h)] := hl
  refine lv_lconst (v := 0) hx hb dX1_sum_0 (by decide) ?_
  refine lv_lstore_n (lv' := [(1, .long 0), (0, .ref h)]) hx hb dX1_sum_1 rfl hl (by decide) rfl (fun ls hl => ?_)
  refine lv_iconst (v := 0) hx hb dX1_sum_2 (by decide) ?_
  refine lv_istore_n (lv' := [(3, .int (nI 0)), (1, .long (ns_sum f 0)), (0, .ref h)]) hx hb dX1_sum_3 rfl hl (by decide) rfl (fun ls hl => ?_)
  refine lp1_sum (n := n) ⟨hx, hb, hml, hown, hts, hA⟩ (f := f) ?_ 64 0 rfl s.heap [] ls hK hP hD hS hl
  intro H locs ls hK hP hD hS hl
  refine lv_lload_n hx hb dX1_sum_30 rfl (lv_at hl 0 rfl) ?_
  exact W.lret hx hb hr (fun t ht hW => ⟨⟨_, (), rfl, rfl, by rw [ht]; exact hP, va_K.moved hW.alike hK, hD⟩, hS.F ht⟩) hS.2.2 dX1_sum_31
set_option maxHeartbeats 4000000 in
set_option maxRecDepth 100000 in
/-- the inner loop of the insertion: pc 19 to 55; the hole moves down from k -/
theorem lp1_in {p : Program} {l : Launch} {e : Env} {R : Room} {s : State} {m : MethodId} {args : Array Value} {below : List Frame} {meth : Method} {c : Code} {Q : State → Prop} {dC : Nat → ClassId} {dI : Nat → Nat → Nat} {d : ClassId} {h r n : Nat} {A : Nat → Prop} (F : cw_Fx p s m args c A cX1_sort RX1 4) {i : Nat} {mv : Int32} {g : Nat → Int32} (hi : i < n) (hn : n ≤ 64) (kk : ∀ f k, k ≤ i → ns_J n i mv g f k → (∀ q, q + 1 = k → f q ≤ mv) → cw_W p l e R s m args below meth c Q dC dI d h r A 1 n 4 55 f [(3, .int (nI k)), (2, .int mv), (1, .int (nI i)), (0, .ref h)]) : ∀ k f, k ≤ i → ns_J n i mv g f k → cw_W p l e R s m args below meth c Q dC dI d h r A 1 n 4 19 f [(3, .int (nI k)), (2, .int mv), (1, .int (nI i)), (0, .ref h)] := by
  obtain ⟨hx, hb, hml, hown, hts, hA⟩ := F
  intro k
  induction k with
  | zero =>
    intro f hk hJ H locs ls hK hP hD hS hl
    refine lv_iload_n hx hb dX1_sort_19 rfl (lv_at hl 0 rfl) ?_
    refine lv_if_le (tgt := 55) hx hb dX1_sort_20 (by decide) (fun _ => ?_) (fun c1 => absurd (by decide) c1)
    exact kk f 0 hk hJ (fun q h0 => by omega) H locs ls hK hP hD hS hl
  | succ k ih =>
    intro f hk hJ H locs ls hK hP hD hS hl
    have ci : (nI k).toNatClampNeg = k := nI_clamp (by omega)
    have ci1 : (nI (k + 1)).toNatClampNeg = k + 1 := nI_clamp (by omega)
    have hin : vp_in (nI k) 64 := vp_in_nI (by omega) (by decide)
    have hin1 : vp_in (nI (k + 1)) 64 := vp_in_nI (by omega) (by decide)
    refine lv_iload_n hx hb dX1_sort_19 rfl (lv_at hl 0 rfl) ?_
    refine lv_if_le (tgt := 55) hx hb dX1_sort_20 (by decide) (fun c1 => absurd c1 (nI_nle (by omega) (by omega))) (fun _ => ?_)
    refine lv_aload_n hx hb dX1_sort_23 rfl (lv_at hl 3 rfl) ?_
    refine va_get (D := (dC, dI)) (ci := 1) (v := .ref r) (C := RX1) (T := TX1) (N := 2) hx hb hts in_X1 hown hK hP 0 rfl rfl 0 (by decide) (hts _ q64) (fun _ h9 => h9) rfl dX1_sort_24 ?_
    refine lv_iload_n hx hb dX1_sort_27 rfl (lv_at hl 0 rfl) ?_
    refine lv_iconst (v := 1) hx hb dX1_sort_28 (by decide) ?_
    refine lv_isub hx hb dX1_sort_29 ?_
    rw [nI_pred]
    refine va_iald hx hb hK hP 1 0 rfl rfl hin dX1_sort_30 ?_
    rw [ci]
    refine lv_iload_n hx hb dX1_sort_31 rfl (lv_at hl 1 rfl) ?_
    refine lv_icmp_le (tgt := 55) hx hb dX1_sort_32 (by decide) (fun c1 => ?_) (fun c1 => ?_)
    · exact kk f (k + 1) hk hJ (fun q h0 => by rw [show q = k by omega]; exact c1) H locs ls hK hP hD hS hl
    · refine lv_aload_n hx hb dX1_sort_35 rfl (lv_at hl 3 rfl) ?_
      refine va_get (D := (dC, dI)) (ci := 1) (v := .ref r) (C := RX1) (T := TX1) (N := 2) hx hb hts in_X1 hown hK hP 0 rfl rfl 0 (by decide) (hts _ q64) (fun _ h9 => h9) rfl dX1_sort_36 ?_
      refine lv_iload_n hx hb dX1_sort_39 rfl (lv_at hl 0 rfl) ?_
      refine lv_aload_n hx hb dX1_sort_40 rfl (lv_at hl 3 rfl) ?_
      refine va_get (D := (dC, dI)) (ci := 1) (v := .ref r) (C := RX1) (T := TX1) (N := 2) hx hb hts in_X1 hown hK hP 0 rfl rfl 0 (by decide) (hts _ q64) (fun _ h9 => h9) rfl dX1_sort_41 ?_
      refine lv_iload_n hx hb dX1_sort_44 rfl (lv_at hl 0 rfl) ?_
      refine lv_iconst (v := 1) hx hb dX1_sort_45 (by decide) ?_
      refine lv_isub hx hb dX1_sort_46 ?_
      rw [nI_pred]
      refine va_iald hx hb hK hP 1 0 rfl rfl hin dX1_sort_47 ?_
      rw [ci]
      refine va_iast hx hb hK hP hD hS 1 0 rfl rfl hin1 dX1_sort_48 (fun H locs hP hD hS => ?_)
      rw [ci1] at hP hD
      refine lv_iinc (v := nI k) (lv' := [(3, .int (nI k)), (2, .int mv), (1, .int (nI i)), (0, .ref h)]) hx hb dX1_sort_49 hl (k := 0) rfl (pk_m1 k) (by decide) rfl (fun ls hl => ?_)
      refine lv_goto (tgt := 19) hx hb dX1_sort_52 (by decide) ?_
      exact ih (upd f (k + 1) (f k)) (by omega) (ns_J1 hi hJ (Int32.not_le.mp c1)) H locs ls hK hP hD hS hl
set_option maxHeartbeats 4000000 in
set_option maxRecDepth 100000 in
/-- the outer loop of the insertion: pc 2 to 68 -/
theorem lp1_out {p : Program} {l : Launch} {e : Env} {R : Room} {s : State} {m : MethodId} {args : Array Value} {below : List Frame} {meth : Method} {c : Code} {Q : State → Prop} {dC : Nat → ClassId} {dI : Nat → Nat → Nat} {d : ClassId} {h r n : Nat} {A : Nat → Prop} (F : cw_Fx p s m args c A cX1_sort RX1 4) {f0 : Nat → Int32} (hn : n ≤ 64) (kk : ∀ f, ns_Of n f0 f → cw_W p l e R s m args below meth c Q dC dI d h r A 1 n 4 68 f []) : ∀ k i f, i + k = n → ns_K n i f0 f → cw_W p l e R s m args below meth c Q dC dI d h r A 1 n 4 2 f [(1, .int (nI i)), (0, .ref h)] := by
  have F' := F
  obtain ⟨hx, hb, hml, hown, hts, hA⟩ := F'
  intro k
  induction k with
  | zero =>
    intro i f hi hKK H locs ls hK hP hD hS hl
    have hi : i = n := by omega
    rw [hi] at hKK hl
    refine lv_iload_n hx hb dX1_sort_2 rfl (lv_at hl 0 rfl) ?_
    refine lv_aload_n hx hb dX1_sort_3 rfl (lv_at hl 1 rfl) ?_
    refine va_get (D := (dC, dI)) (ci := 1) (v := .int (nI n)) (C := RX1) (T := TX1) (N := 2) hx hb hts in_X1 hown hK hP 0 rfl rfl 1 (by decide) (hts _ q65) (fun _ h9 => h9) rfl dX1_sort_4 ?_
    refine lv_icmp_ge (tgt := 68) hx hb dX1_sort_7 (by decide) (fun _ => ?_) (fun c1 => absurd (Int32.le_refl _) c1)
    exact kk f (ns_K_end hKK) H locs ls hK hP hD hS (lv_sub hl [] rfl)
  | succ k ih =>
    intro i f hi hKK H locs ls hK hP hD hS hl
    have ci : (nI i).toNatClampNeg = i := nI_clamp (by omega)
    have hin : vp_in (nI i) 64 := vp_in_nI (by omega) (by decide)
    refine lv_iload_n hx hb dX1_sort_2 rfl (lv_at hl 0 rfl) ?_
    refine lv_aload_n hx hb dX1_sort_3 rfl (lv_at hl 1 rfl) ?_
    refine va_get (D := (dC, dI)) (ci := 1) (v := .int (nI n)) (C := RX1) (T := TX1) (N := 2) hx hb hts in_X1 hown hK hP 0 rfl rfl 1 (by decide) (hts _ q65) (fun _ h9 => h9) rfl dX1_sort_4 ?_
    refine lv_icmp_ge (tgt := 68) hx hb dX1_sort_7 (by decide) (fun c1 => absurd c1 (nI_ge (by omega) (by omega))) (fun _ => ?_)
    refine lv_aload_n hx hb dX1_sort_10 rfl (lv_at hl 1 rfl) ?_
    refine va_get (D := (dC, dI)) (ci := 1) (v := .ref r) (C := RX1) (T := TX1) (N := 2) hx hb hts in_X1 hown hK hP 0 rfl rfl 0 (by decide) (hts _ q64) (fun _ h9 => h9) rfl dX1_sort_11 ?_
    refine lv_iload_n hx hb dX1_sort_14 rfl (lv_at hl 0 rfl) ?_
    refine va_iald hx hb hK hP 1 0 rfl rfl hin dX1_sort_15 ?_
    rw [ci]
    refine lv_istore_n (lv' := [(2, .int (f i)), (1, .int (nI i)), (0, .ref h)]) hx hb dX1_sort_16 rfl hl (by decide) rfl (fun ls hl => ?_)
    refine lv_iload_n hx hb dX1_sort_17 rfl (lv_at hl 1 rfl) ?_
    refine lv_istore_n (lv' := [(3, .int (nI i)), (2, .int (f i)), (1, .int (nI i)), (0, .ref h)]) hx hb dX1_sort_18 rfl hl (by decide) rfl (fun ls hl => ?_)
    refine lp1_in F (i := i) (mv := f i) (g := f) (by omega) hn (fun f' k' hk' hJ hq => ?_) i f (Nat.le_refl _) (ns_J0 hKK.1) H locs ls hK hP hD hS hl
    intro H locs ls hK hP hD hS hl
    have ck : (nI k').toNatClampNeg = k' := nI_clamp (by omega)
    have hink : vp_in (nI k') 64 := vp_in_nI (by omega) (by decide)
    refine lv_aload_n hx hb dX1_sort_55 rfl (lv_at hl 3 rfl) ?_
    refine va_get (D := (dC, dI)) (ci := 1) (v := .ref r) (C := RX1) (T := TX1) (N := 2) hx hb hts in_X1 hown hK hP 0 rfl rfl 0 (by decide) (hts _ q64) (fun _ h9 => h9) rfl dX1_sort_56 ?_
    refine lv_iload_n hx hb dX1_sort_59 rfl (lv_at hl 0 rfl) ?_
    refine lv_iload_n hx hb dX1_sort_60 rfl (lv_at hl 1 rfl) ?_
    refine va_iast hx hb hK hP hD hS 1 0 rfl rfl hink dX1_sort_61 (fun H locs hP hD hS => ?_)
    rw [ck] at hP hD
    refine lv_iinc (v := nI (i + 1)) (lv' := [(1, .int (nI (i + 1))), (3, .int (nI k')), (2, .int (f i)), (0, .ref h)]) hx hb dX1_sort_62 hl (k := 2) rfl (nI_1 i) (by decide) rfl (fun ls hl => ?_)
    refine lv_goto (tgt := 2) hx hb dX1_sort_65 (by decide) ?_
    exact ih (i + 1) (upd f' k' (f i)) (by omega) (ns_Ks (by omega) hKK hJ hq) H locs ls hK hP hD hS (lv_sub hl [0, 3] rfl)
set_option maxHeartbeats 4000000 in
set_option maxRecDepth 100000 in
/-- NetworkSortModel.sort(): the first n in ascending order -/
theorem met1_sort (l : Launch) (dC : Nat → ClassId) (dI : Nat → Nat → Nat) (d : ClassId) (h r sz : Nat) (f : Nat → Int32) (n : Nat) (h2 : 2 ≤ n) (hn : n ≤ 64) : Met l yX1_sort wsX1_sort ({ frames := 0, cells := 0, slots := 0, locals := 0 }) (va_Pc [.ref h] (fun U => U.heap.size = sz ∧ va_P (dC, dI) vwCl [(h, .inr (1, [.ref r, .int (nI n)])), (r, .inl (d, 64, .inl f))] U.heap ∧ va_K (dC, dI) vwCl [(d, .int)] U ∧ va_D (fun _ => True) [(h, .inr (1, [.ref r, .int (nI n)])), (r, .inl (d, 64, .inl f))])) (va_Qv (fun g : Nat → Int32 => ns_Of n f g) (fun g t => Bw dC dI 1 d (va_A [(h, .inr (1, [.ref r, .int (nI n)])), (r, .inl (d, 64, .inl f))] sz) h r g n t) (va_A [(h, .inr (1, [.ref r, .int (nI n)])), (r, .inl (d, 64, .inl f))] sz)) 0 0 (va_A [(h, .inr (1, [.ref r, .int (nI n)])), (r, .inl (d, 64, .inl f))] sz) := by
  refine Met.ofW (cc := cX1_sort) (maxL := 4) (ret := none) (by decide) rfl ?_
  intro p e s m args below meth c s₁ B hml hv
  obtain ⟨rfl, hsz, hP, hK, hD0⟩ := hv
  have hx := B.exec
  have hb := B.bytes
  have hr := B.returns
  have hts := atoms_spec (ws := wsX1_sort) B.pre
  have hts : ∀ w ∈ lw_all, w.before _ s = true := fun w h => hts w (List.mem_cons_of_mem _ h)
  have hown : s.vm.findClass RX1 = some m.cls := findClass_of_methodNamed B.named
  have hlocks := B.notSynchronized
  subst hsz
  have hD := hD0.self (sz := s.heap.size)
  generalize hAe : va_A [(h, .inr (1, [.ref r, .int (nI n)])), (r, .inl (d, 64, .inl f))] s.heap.size = A at hD ⊢
  have hA : ∀ q : Nat, s.heap.size ≤ q → A q := fun q h => by rw [← hAe]; exact Or.inr h
  have hS : va_S A s.heap s.heap [] := va_S.rf
  have hP : va_P (dC, dI) vwCl [(h, .inr (1, [.ref r, .int (nI n)])), (r, .inl (d, 64, .inl f))] s.heap := hP
  have hl := lv_entry ([.ref h]) (n := 4) (Nat.le_of_ble_eq_true rfl)
  rw [lg_entry_eq]
  generalize (lg_sl ([.ref h]) ++ List.replicate (4 - (lg_sl ([.ref h])).length) Slot.unset).toArray = ls at hl ⊢
  have hl : lv_has ls 4 [(0, .ref h)] := hl
  refine lv_iconst (v := 1) hx hb dX1_sort_0 (by decide) ?_
  refine lv_istore_n (lv' := [(1, .int (nI 1)), (0, .ref h)]) hx hb dX1_sort_1 rfl hl (by decide) rfl (fun ls hl => ?_)
  refine lp1_out (n := n) ⟨hx, hb, hml, hown, hts, hA⟩ (f0 := f) hn (fun f' hO => ?_) (n - 1) 1 f (by omega) ns_K1 s.heap [] ls hK hP hD hS hl
  intro H locs ls hK hP hD hS hl
  exact W.vret hx hb hr (fun t ht hW => ⟨⟨f', rfl, hO, by rw [ht]; exact hP, va_K.moved hW.alike hK, hD⟩, hS.F ht⟩) hS.2.2 dX1_sort_68
end
section
/-! THE CLAIM OUT OF ONE WALK OF THE LAW'S BODY. Your part is whole_start (and what it stands on); all else here is the same for every law, but numbers. -/
def R_law : String := "NetworkSortLaw"
def lw_P (b : Addr) (xs : List Int32) (args : Array Value) (s : State) : Prop := args = #[.ref b] ∧ s.IntsAt b xs ∧ xs.length ≤ 288 ∧ (Jvm.Cond.and given_1 narrow_1).before args s = true
def lw_Q (_ : Array Value) (s : State) (o : Outcome) (t : State) : Prop := o = .returned (some (.int 1)) ∧ Framed s o t [] 600000 7290000
def lw_Z (below : List Frame) (a : Array Value) (s : State) : State → Prop := fun t => ∃ o, t.status = .running ∧ Ended t below o ∧ lw_Q a s o t
/-- the law's own end, with 1 on the stack, nothing written that was there before, its room as the claim has it -/
theorem lw_ret {p : Program} {l : Launch} {e : Env} {s : State} {m : MethodId} {below : List Frame} {meth : Method} {c : Code} {b : Nat} (hx : p.tables.exec = Jvm.exec) (hb : c.code = code) (hr : meth.sig.returnType = ret) (hlocks : meth.locks = false) {pc : Nat} {H : Heap} {ls : Array Slot} (hdg : decode code pc = .ok (.ireturn, 1)) : W p l e room_1 s m #[Value.ref b] below meth c H [] 600000 7290000 (lw_Z below #[Value.ref b] s) (F0 m pc ls [.int 1]) := by
  intro T hT X
  obtain ⟨fs, hret, hrun, hended, hW, hframe⟩ := X.leave (v := some (.int 1)) (hlocks := hlocks) (fun h => by rw [hr] at h; cases h)
  have hmeth' : T.vm.method? m = some meth := X.method'
  refine ⟨T.setFrames fs, ?_, .returned (some (.int 1)), hrun, hended, rfl, ⟨_, rfl⟩, hW, hframe⟩
  jvm_step X.here [X.here.top, hx, hb, hdg, hmeth', hr, ret, narrow_b1]
  (try refine ⟨rfl, ?_⟩); (try refine ⟨rfl, ?_⟩)
  first | (intro acts; rw [hret _ acts rfl rfl rfl]) | rw [hret _ _ rfl rfl rfl]
  exact Steps.refl _
/-- what holds at the law's entry: the machine, the code, the tables' words (any of lw_tbl by 'hts w (by decide +kernel)'), the script of L ints xs at the cell b, what the Statement gives of the start (any of its parts by flat_of_before) -/
def lw_At (p : Program) (s : State) (m : MethodId) (meth : Method) (c : Code) (b L : Nat) (xs : Nat → Int32) : Prop :=
  p.tables.exec = Jvm.exec ∧ c.code = code ∧ meth.sig.returnType = ret ∧ c.maxLocals = 4 ∧ s.vm.findClass R_law = some m.cls ∧ (∀ w ∈ lw_tbl, w.before #[Value.ref b] s = true) ∧ va_X b L xs s s.heap ∧ b < s.heap.size ∧ meth.locks = false ∧ (Jvm.Cond.and given_1 narrow_1).before #[Value.ref b] s = true
/-! THE LAW'S LOOP, a lemma a call -/
/-- from pc, with the system's row f0, its length n0, the reference's f1, n1, and i ints read, the goal is reached -/
def la_W (p : Program) (l : Launch) (e : Env) (s : State) (m : MethodId) (below : List Frame) (meth : Method) (c : Code) (b : Nat) (dC : Nat → ClassId) (dI : Nat → Nat → Nat) (h0 r0 h1 r1 : Nat) (d0 d1 : ClassId) (pc : Nat) (f0 : Nat → Int32) (n0 : Nat) (f1 : Nat → Int32) (n1 : Nat) (i : Nat) : Prop := ∀ (H : Heap) (locs : List Loc) (ls : Array Slot), va_K (dC, dI) vwCl [(d0, .int), (d1, .int)] s → va_P (dC, dI) vwCl [(h0, .inr (0, [.ref r0, .int (nI n0)])), (r0, .inl (d0, 64, .inl f0)), (h1, .inr (1, [.ref r1, .int (nI n1)])), (r1, .inl (d1, 64, .inl f1))] H → va_D (fun q : Nat => s.heap.size ≤ q) [(h0, .inr (0, [.ref r0, .int (nI n0)])), (r0, .inl (d0, 64, .inl f0)), (h1, .inr (1, [.ref r1, .int (nI n1)])), (r1, .inl (d1, 64, .inl f1))] → va_S (fun q : Nat => s.heap.size ≤ q) s.heap H locs → lv_has ls 4 [(0, .ref b), (1, .ref h0), (2, .ref h1), (3, .int (nI i))] → W p l e room_1 s m #[Value.ref b] below meth c H locs 4 132 (lw_Z below #[Value.ref b] s) (F0 m pc ls [])
set_option maxHeartbeats 4000000 in
set_option maxRecDepth 100000 in
/-- the law's case set: pc 76 to 220 -/
theorem la_set {p : Program} {l : Launch} {e : Env} {s : State} {m : MethodId} {below : List Frame} {meth : Method} {c : Code} {b L : Nat} {xs : Nat → Int32} {dC : Nat → ClassId} {dI : Nat → Nat → Nat} {h0 r0 h1 r1 : Nat} {d0 d1 : ClassId} (hL : L ≤ 288) (C0 : lw_At p s m meth c b L xs) {i n : Nat} {f : Nat → Int32} (hi : i + 6 ≤ L) (hn2 : 2 ≤ n) (hn64 : n ≤ 64) (hf : ns_Nn f) (kk : ∀ n' f', 2 ≤ n' → n' ≤ 64 → ns_Nn f' → la_W p l e s m below meth c b dC dI h0 r0 h1 r1 d0 d1 220 f' n' f' n' i) : la_W p l e s m below meth c b dC dI h0 r0 h1 r1 d0 d1 76 f n f n i := by
  obtain ⟨hx, hb, hr, hml, hown, hts0, hX, hbl, hlocks, hgv⟩ := C0
  have hts : ∀ w ∈ lw_all, w.before #[Value.ref b] s = true := fun w h => hts0 w (lw_all_tbl h)
  have hA : ∀ q : Nat, s.heap.size ≤ q → (fun q : Nat => s.heap.size ≤ q) q := fun _ h => h
  have hbA : ¬ (fun q : Nat => s.heap.size ≤ q) b := Nat.not_le.mpr hbl
  have ci1 : (nI (i + 1)).toNatClampNeg = i + 1 := nI_clamp (by omega)
  have ci2 : (nI (i + 2)).toNatClampNeg = i + 2 := nI_clamp (by omega)
  have hi1 : vp_in (nI (i + 1)) L := vp_in_nI (by omega) (by omega)
  have hi2 : vp_in (nI (i + 2)) L := vp_in_nI (by omega) (by omega)
  intro H locs ls hK hP hD hS hl
  refine lv_aload_n hx hb dL_law_76 rfl (lv_at hl 1 rfl) ?_
  refine lv_aload_n hx hb dL_law_77 rfl (lv_at hl 0 rfl) ?_
  refine lv_iload_n hx hb dL_law_78 rfl (lv_at hl 3 rfl) ?_
  refine lv_iconst (v := nI 1) hx hb dL_law_79 (by decide) ?_
  refine lv_iadd hx hb dL_law_80 ?_
  rw [nI_add]
  refine va_sld hx hb hX hbl hbA hS hi1 dL_law_81 ?_
  rw [ci1]
  refine lv_aload_n hx hb dL_law_82 rfl (lv_at hl 0 rfl) ?_
  refine lv_iload_n hx hb dL_law_83 rfl (lv_at hl 3 rfl) ?_
  refine lv_iconst (v := nI 2) hx hb dL_law_84 (by decide) ?_
  refine lv_iadd hx hb dL_law_85 ?_
  rw [nI_add]
  refine va_sld hx hb hX hbl hbA hS hi2 dL_law_86 ?_
  rw [ci2]
  have hPc := hP.sub (ws' := [(h0, .inr (0, [.ref r0, .int (nI n)])), (r0, .inl (d0, 64, .inl f))]) [0, 1] rfl
  have hDc := hD.sub (ws' := [(h0, .inr (0, [.ref r0, .int (nI n)])), (r0, .inl (d0, 64, .inl f))]) [0, 1] (by decide) rfl
  have hKc := hK.sub (tys' := [(d0, .int)]) [0] rfl
  have hFc := va_free (wc := [(h0, .inr (0, [.ref r0, .int (nI n)])), (r0, .inl (d0, 64, .inl f))]) hD hS hA [0, 1] rfl
  refine va_callv (va_runV (As := [.int (xs (i + 1)), .int (xs (i + 2))]) (rest := []) ⟨hx, hb, hml, hown, hts⟩ (met0_set l dC dI d0 h0 r0 H.size f n (xs (i + 1)) (xs (i + 2))) (cwV 2 hts (lw_V q20 q21 q22 q1 q23) rfl rfl rfl (by decide +kernel) ⟨Nat.le_of_ble_eq_true rfl, Nat.le_of_ble_eq_true rfl⟩) ⟨fun a U g mk q => by obtain ⟨q0, q1, qP, qK, qD⟩ := q; exact ⟨q0, q1, qP, va_K.moved (u := U) (U := U.calling g mk a) (Vm.Alike.refl U.vm) qK, qD⟩, va_recv hKc hPc (ci := 0) (q0 := 0) rfl rfl, fun U hU hW => ⟨rfl, by rw [hU], by rw [hU]; exact hPc, va_K.moved hW.alike hKc, hDc.weaken (fun _ _ _ _ => trivial)⟩⟩ rfl rfl hl.1 rfl (lv_room (Nat.le_of_ble_eq_true rfl)) dL_law_87 ⟨Nat.le_of_ble_eq_true rfl, Nat.le_of_ble_eq_true rfl⟩) hS (fun q _ h => hFc q h) hFc (fun u t H1 locs ht hvm hw0 hB hz1 hk1 hS => ?_)
  obtain ⟨hP1, hK1, hD1⟩ := hB
  rw [ht] at hP1
  obtain ⟨hP, hD⟩ := va_join (wr := [(h1, .inr (1, [.ref r1, .int (nI n)])), (r1, .inl (d1, 64, .inl f))]) (w1 := [(h0, .inr (0, [.ref r0, .int (nI n)])), (r0, .inl (d0, 64, .inl (upd f (xs (i + 1) &&& 63).toNatClampNeg (xs (i + 2) &&& 1073741823))))]) hP hD [0, 1] [2, 3] rfl rfl (by decide) (by decide) hk1 hFc hP1 hD1
  have hP := hP.sub (ws' := [(h0, .inr (0, [.ref r0, .int (nI n)])), (r0, .inl (d0, 64, .inl (upd f (xs (i + 1) &&& 63).toNatClampNeg (xs (i + 2) &&& 1073741823)))), (h1, .inr (1, [.ref r1, .int (nI n)])), (r1, .inl (d1, 64, .inl f))]) [2, 3, 0, 1] rfl
  have hD := hD.sub (ws' := [(h0, .inr (0, [.ref r0, .int (nI n)])), (r0, .inl (d0, 64, .inl (upd f (xs (i + 1) &&& 63).toNatClampNeg (xs (i + 2) &&& 1073741823)))), (h1, .inr (1, [.ref r1, .int (nI n)])), (r1, .inl (d1, 64, .inl f))]) [2, 3, 0, 1] (by decide) rfl
  generalize H1 = H at hP hS ⊢
  refine lv_aload_n hx hb dL_law_90 rfl (lv_at hl 2 rfl) ?_
  refine lv_aload_n hx hb dL_law_91 rfl (lv_at hl 0 rfl) ?_
  refine lv_iload_n hx hb dL_law_92 rfl (lv_at hl 3 rfl) ?_
  refine lv_iconst (v := nI 1) hx hb dL_law_93 (by decide) ?_
  refine lv_iadd hx hb dL_law_94 ?_
  rw [nI_add]
  refine va_sld hx hb hX hbl hbA hS hi1 dL_law_95 ?_
  rw [ci1]
  refine lv_aload_n hx hb dL_law_96 rfl (lv_at hl 0 rfl) ?_
  refine lv_iload_n hx hb dL_law_97 rfl (lv_at hl 3 rfl) ?_
  refine lv_iconst (v := nI 2) hx hb dL_law_98 (by decide) ?_
  refine lv_iadd hx hb dL_law_99 ?_
  rw [nI_add]
  refine va_sld hx hb hX hbl hbA hS hi2 dL_law_100 ?_
  rw [ci2]
  have hPc := hP.sub (ws' := [(h1, .inr (1, [.ref r1, .int (nI n)])), (r1, .inl (d1, 64, .inl f))]) [2, 3] rfl
  have hDc := hD.sub (ws' := [(h1, .inr (1, [.ref r1, .int (nI n)])), (r1, .inl (d1, 64, .inl f))]) [2, 3] (by decide) rfl
  have hKc := hK.sub (tys' := [(d1, .int)]) [1] rfl
  have hFc := va_free (wc := [(h1, .inr (1, [.ref r1, .int (nI n)])), (r1, .inl (d1, 64, .inl f))]) hD hS hA [2, 3] rfl
  refine va_callv (va_runV (As := [.int (xs (i + 1)), .int (xs (i + 2))]) (rest := []) ⟨hx, hb, hml, hown, hts⟩ (met1_set l dC dI d1 h1 r1 H.size f n (xs (i + 1)) (xs (i + 2))) (cwV 2 hts (lw_V q71 q72 q73 q2 q74) rfl rfl rfl (by decide +kernel) ⟨Nat.le_of_ble_eq_true rfl, Nat.le_of_ble_eq_true rfl⟩) ⟨fun a U g mk q => by obtain ⟨q0, q1, qP, qK, qD⟩ := q; exact ⟨q0, q1, qP, va_K.moved (u := U) (U := U.calling g mk a) (Vm.Alike.refl U.vm) qK, qD⟩, va_recv hKc hPc (ci := 1) (q0 := 0) rfl rfl, fun U hU hW => ⟨rfl, by rw [hU], by rw [hU]; exact hPc, va_K.moved hW.alike hKc, hDc.weaken (fun _ _ _ _ => trivial)⟩⟩ rfl rfl hl.1 rfl (lv_room (Nat.le_of_ble_eq_true rfl)) dL_law_101 ⟨Nat.le_of_ble_eq_true rfl, Nat.le_of_ble_eq_true rfl⟩) hS (fun q _ h => hFc q h) hFc (fun u t H1 locs ht hvm hw1 hB hz1 hk1 hS => ?_)
  obtain ⟨hP1, hK1, hD1⟩ := hB
  rw [ht] at hP1
  obtain ⟨hP, hD⟩ := va_join (wr := [(h0, .inr (0, [.ref r0, .int (nI n)])), (r0, .inl (d0, 64, .inl (upd f (xs (i + 1) &&& 63).toNatClampNeg (xs (i + 2) &&& 1073741823))))]) (w1 := [(h1, .inr (1, [.ref r1, .int (nI n)])), (r1, .inl (d1, 64, .inl (upd f (xs (i + 1) &&& 63).toNatClampNeg (xs (i + 2) &&& 1073741823))))]) hP hD [2, 3] [0, 1] rfl rfl (by decide) (by decide) hk1 hFc hP1 hD1
  have hP := hP.sub (ws' := [(h0, .inr (0, [.ref r0, .int (nI n)])), (r0, .inl (d0, 64, .inl (upd f (xs (i + 1) &&& 63).toNatClampNeg (xs (i + 2) &&& 1073741823)))), (h1, .inr (1, [.ref r1, .int (nI n)])), (r1, .inl (d1, 64, .inl (upd f (xs (i + 1) &&& 63).toNatClampNeg (xs (i + 2) &&& 1073741823))))]) [0, 1, 2, 3] rfl
  have hD := hD.sub (ws' := [(h0, .inr (0, [.ref r0, .int (nI n)])), (r0, .inl (d0, 64, .inl (upd f (xs (i + 1) &&& 63).toNatClampNeg (xs (i + 2) &&& 1073741823)))), (h1, .inr (1, [.ref r1, .int (nI n)])), (r1, .inl (d1, 64, .inl (upd f (xs (i + 1) &&& 63).toNatClampNeg (xs (i + 2) &&& 1073741823))))]) [0, 1, 2, 3] (by decide) rfl
  generalize H1 = H at hP hS ⊢
  refine lv_goto (tgt := 220) hx hb dL_law_104 (by decide) ?_
  exact kk n (upd f (xs (i + 1) &&& 63).toNatClampNeg (xs (i + 2) &&& 1073741823)) hn2 hn64 (ns_upd_Nn hf (ns_mask _)) H locs ls hK hP hD hS hl
set_option maxHeartbeats 4000000 in
set_option maxRecDepth 100000 in
/-- the law's case fill: pc 107 to 220 -/
theorem la_fill {p : Program} {l : Launch} {e : Env} {s : State} {m : MethodId} {below : List Frame} {meth : Method} {c : Code} {b L : Nat} {xs : Nat → Int32} {dC : Nat → ClassId} {dI : Nat → Nat → Nat} {h0 r0 h1 r1 : Nat} {d0 d1 : ClassId} (hL : L ≤ 288) (C0 : lw_At p s m meth c b L xs) {i n : Nat} {f : Nat → Int32} (hi : i + 6 ≤ L) (hn2 : 2 ≤ n) (hn64 : n ≤ 64) (hf : ns_Nn f) (kk : ∀ n' f', 2 ≤ n' → n' ≤ 64 → ns_Nn f' → la_W p l e s m below meth c b dC dI h0 r0 h1 r1 d0 d1 220 f' n' f' n' i) : la_W p l e s m below meth c b dC dI h0 r0 h1 r1 d0 d1 107 f n f n i := by
  obtain ⟨hx, hb, hr, hml, hown, hts0, hX, hbl, hlocks, hgv⟩ := C0
  have hts : ∀ w ∈ lw_all, w.before #[Value.ref b] s = true := fun w h => hts0 w (lw_all_tbl h)
  have hA : ∀ q : Nat, s.heap.size ≤ q → (fun q : Nat => s.heap.size ≤ q) q := fun _ h => h
  have hbA : ¬ (fun q : Nat => s.heap.size ≤ q) b := Nat.not_le.mpr hbl
  have ci1 : (nI (i + 1)).toNatClampNeg = i + 1 := nI_clamp (by omega)
  have ci2 : (nI (i + 2)).toNatClampNeg = i + 2 := nI_clamp (by omega)
  have hi1 : vp_in (nI (i + 1)) L := vp_in_nI (by omega) (by omega)
  have hi2 : vp_in (nI (i + 2)) L := vp_in_nI (by omega) (by omega)
  intro H locs ls hK hP hD hS hl
  refine lv_aload_n hx hb dL_law_107 rfl (lv_at hl 1 rfl) ?_
  refine lv_aload_n hx hb dL_law_108 rfl (lv_at hl 0 rfl) ?_
  refine lv_iload_n hx hb dL_law_109 rfl (lv_at hl 3 rfl) ?_
  refine lv_iconst (v := nI 1) hx hb dL_law_110 (by decide) ?_
  refine lv_iadd hx hb dL_law_111 ?_
  rw [nI_add]
  refine va_sld hx hb hX hbl hbA hS hi1 dL_law_112 ?_
  rw [ci1]
  refine lv_aload_n hx hb dL_law_113 rfl (lv_at hl 0 rfl) ?_
  refine lv_iload_n hx hb dL_law_114 rfl (lv_at hl 3 rfl) ?_
  refine lv_iconst (v := nI 2) hx hb dL_law_115 (by decide) ?_
  refine lv_iadd hx hb dL_law_116 ?_
  rw [nI_add]
  refine va_sld hx hb hX hbl hbA hS hi2 dL_law_117 ?_
  rw [ci2]
  have hPc := hP.sub (ws' := [(h0, .inr (0, [.ref r0, .int (nI n)])), (r0, .inl (d0, 64, .inl f))]) [0, 1] rfl
  have hDc := hD.sub (ws' := [(h0, .inr (0, [.ref r0, .int (nI n)])), (r0, .inl (d0, 64, .inl f))]) [0, 1] (by decide) rfl
  have hKc := hK.sub (tys' := [(d0, .int)]) [0] rfl
  have hFc := va_free (wc := [(h0, .inr (0, [.ref r0, .int (nI n)])), (r0, .inl (d0, 64, .inl f))]) hD hS hA [0, 1] rfl
  refine va_callv (va_runV (As := [.int (xs (i + 1)), .int (xs (i + 2))]) (rest := []) ⟨hx, hb, hml, hown, hts⟩ (met0_fill l dC dI d0 h0 r0 H.size f n (xs (i + 1)) (xs (i + 2))) (cwV 2 hts (lw_V q25 q26 q27 q1 q28) rfl rfl rfl (by decide +kernel) ⟨Nat.le_of_ble_eq_true rfl, Nat.le_of_ble_eq_true rfl⟩) ⟨fun a U g mk q => by obtain ⟨q0, q1, qP, qK, qD⟩ := q; exact ⟨q0, q1, qP, va_K.moved (u := U) (U := U.calling g mk a) (Vm.Alike.refl U.vm) qK, qD⟩, va_recv hKc hPc (ci := 0) (q0 := 0) rfl rfl, fun U hU hW => ⟨rfl, by rw [hU], by rw [hU]; exact hPc, va_K.moved hW.alike hKc, hDc.weaken (fun _ _ _ _ => trivial)⟩⟩ rfl rfl hl.1 rfl (lv_room (Nat.le_of_ble_eq_true rfl)) dL_law_118 ⟨Nat.le_of_ble_eq_true rfl, Nat.le_of_ble_eq_true rfl⟩) hS (fun q _ h => hFc q h) hFc (fun u t H1 locs ht hvm hw0 hB hz1 hk1 hS => ?_)
  obtain ⟨hP1, hK1, hD1⟩ := hB
  rw [ht] at hP1
  obtain ⟨hP, hD⟩ := va_join (wr := [(h1, .inr (1, [.ref r1, .int (nI n)])), (r1, .inl (d1, 64, .inl f))]) (w1 := [(h0, .inr (0, [.ref r0, .int (nI n)])), (r0, .inl (d0, 64, .inl (ns_fill f (xs (i + 1)) (xs (i + 2)) 64)))]) hP hD [0, 1] [2, 3] rfl rfl (by decide) (by decide) hk1 hFc hP1 hD1
  have hP := hP.sub (ws' := [(h0, .inr (0, [.ref r0, .int (nI n)])), (r0, .inl (d0, 64, .inl (ns_fill f (xs (i + 1)) (xs (i + 2)) 64))), (h1, .inr (1, [.ref r1, .int (nI n)])), (r1, .inl (d1, 64, .inl f))]) [2, 3, 0, 1] rfl
  have hD := hD.sub (ws' := [(h0, .inr (0, [.ref r0, .int (nI n)])), (r0, .inl (d0, 64, .inl (ns_fill f (xs (i + 1)) (xs (i + 2)) 64))), (h1, .inr (1, [.ref r1, .int (nI n)])), (r1, .inl (d1, 64, .inl f))]) [2, 3, 0, 1] (by decide) rfl
  generalize H1 = H at hP hS ⊢
  refine lv_aload_n hx hb dL_law_121 rfl (lv_at hl 2 rfl) ?_
  refine lv_aload_n hx hb dL_law_122 rfl (lv_at hl 0 rfl) ?_
  refine lv_iload_n hx hb dL_law_123 rfl (lv_at hl 3 rfl) ?_
  refine lv_iconst (v := nI 1) hx hb dL_law_124 (by decide) ?_
  refine lv_iadd hx hb dL_law_125 ?_
  rw [nI_add]
  refine va_sld hx hb hX hbl hbA hS hi1 dL_law_126 ?_
  rw [ci1]
  refine lv_aload_n hx hb dL_law_127 rfl (lv_at hl 0 rfl) ?_
  refine lv_iload_n hx hb dL_law_128 rfl (lv_at hl 3 rfl) ?_
  refine lv_iconst (v := nI 2) hx hb dL_law_129 (by decide) ?_
  refine lv_iadd hx hb dL_law_130 ?_
  rw [nI_add]
  refine va_sld hx hb hX hbl hbA hS hi2 dL_law_131 ?_
  rw [ci2]
  have hPc := hP.sub (ws' := [(h1, .inr (1, [.ref r1, .int (nI n)])), (r1, .inl (d1, 64, .inl f))]) [2, 3] rfl
  have hDc := hD.sub (ws' := [(h1, .inr (1, [.ref r1, .int (nI n)])), (r1, .inl (d1, 64, .inl f))]) [2, 3] (by decide) rfl
  have hKc := hK.sub (tys' := [(d1, .int)]) [1] rfl
  have hFc := va_free (wc := [(h1, .inr (1, [.ref r1, .int (nI n)])), (r1, .inl (d1, 64, .inl f))]) hD hS hA [2, 3] rfl
  refine va_callv (va_runV (As := [.int (xs (i + 1)), .int (xs (i + 2))]) (rest := []) ⟨hx, hb, hml, hown, hts⟩ (met1_fill l dC dI d1 h1 r1 H.size f n (xs (i + 1)) (xs (i + 2))) (cwV 2 hts (lw_V q76 q77 q78 q2 q79) rfl rfl rfl (by decide +kernel) ⟨Nat.le_of_ble_eq_true rfl, Nat.le_of_ble_eq_true rfl⟩) ⟨fun a U g mk q => by obtain ⟨q0, q1, qP, qK, qD⟩ := q; exact ⟨q0, q1, qP, va_K.moved (u := U) (U := U.calling g mk a) (Vm.Alike.refl U.vm) qK, qD⟩, va_recv hKc hPc (ci := 1) (q0 := 0) rfl rfl, fun U hU hW => ⟨rfl, by rw [hU], by rw [hU]; exact hPc, va_K.moved hW.alike hKc, hDc.weaken (fun _ _ _ _ => trivial)⟩⟩ rfl rfl hl.1 rfl (lv_room (Nat.le_of_ble_eq_true rfl)) dL_law_132 ⟨Nat.le_of_ble_eq_true rfl, Nat.le_of_ble_eq_true rfl⟩) hS (fun q _ h => hFc q h) hFc (fun u t H1 locs ht hvm hw1 hB hz1 hk1 hS => ?_)
  obtain ⟨hP1, hK1, hD1⟩ := hB
  rw [ht] at hP1
  obtain ⟨hP, hD⟩ := va_join (wr := [(h0, .inr (0, [.ref r0, .int (nI n)])), (r0, .inl (d0, 64, .inl (ns_fill f (xs (i + 1)) (xs (i + 2)) 64)))]) (w1 := [(h1, .inr (1, [.ref r1, .int (nI n)])), (r1, .inl (d1, 64, .inl (ns_fill f (xs (i + 1)) (xs (i + 2)) 64)))]) hP hD [2, 3] [0, 1] rfl rfl (by decide) (by decide) hk1 hFc hP1 hD1
  have hP := hP.sub (ws' := [(h0, .inr (0, [.ref r0, .int (nI n)])), (r0, .inl (d0, 64, .inl (ns_fill f (xs (i + 1)) (xs (i + 2)) 64))), (h1, .inr (1, [.ref r1, .int (nI n)])), (r1, .inl (d1, 64, .inl (ns_fill f (xs (i + 1)) (xs (i + 2)) 64)))]) [0, 1, 2, 3] rfl
  have hD := hD.sub (ws' := [(h0, .inr (0, [.ref r0, .int (nI n)])), (r0, .inl (d0, 64, .inl (ns_fill f (xs (i + 1)) (xs (i + 2)) 64))), (h1, .inr (1, [.ref r1, .int (nI n)])), (r1, .inl (d1, 64, .inl (ns_fill f (xs (i + 1)) (xs (i + 2)) 64)))]) [0, 1, 2, 3] (by decide) rfl
  generalize H1 = H at hP hS ⊢
  refine lv_goto (tgt := 220) hx hb dL_law_135 (by decide) ?_
  exact kk n (ns_fill f (xs (i + 1)) (xs (i + 2)) 64) hn2 hn64 (ns_fill_Nn hf 64) H locs ls hK hP hD hS hl
set_option maxHeartbeats 4000000 in
set_option maxRecDepth 100000 in
/-- the law's case length: pc 138 to 220 -/
theorem la_length {p : Program} {l : Launch} {e : Env} {s : State} {m : MethodId} {below : List Frame} {meth : Method} {c : Code} {b L : Nat} {xs : Nat → Int32} {dC : Nat → ClassId} {dI : Nat → Nat → Nat} {h0 r0 h1 r1 : Nat} {d0 d1 : ClassId} (hL : L ≤ 288) (C0 : lw_At p s m meth c b L xs) {i n : Nat} {f : Nat → Int32} (hi : i + 6 ≤ L) (hn2 : 2 ≤ n) (hn64 : n ≤ 64) (hf : ns_Nn f) (kk : ∀ n' f', 2 ≤ n' → n' ≤ 64 → ns_Nn f' → la_W p l e s m below meth c b dC dI h0 r0 h1 r1 d0 d1 220 f' n' f' n' i) : la_W p l e s m below meth c b dC dI h0 r0 h1 r1 d0 d1 138 f n f n i := by
  obtain ⟨hx, hb, hr, hml, hown, hts0, hX, hbl, hlocks, hgv⟩ := C0
  have hts : ∀ w ∈ lw_all, w.before #[Value.ref b] s = true := fun w h => hts0 w (lw_all_tbl h)
  have hA : ∀ q : Nat, s.heap.size ≤ q → (fun q : Nat => s.heap.size ≤ q) q := fun _ h => h
  have hbA : ¬ (fun q : Nat => s.heap.size ≤ q) b := Nat.not_le.mpr hbl
  have ci1 : (nI (i + 1)).toNatClampNeg = i + 1 := nI_clamp (by omega)
  have ci2 : (nI (i + 2)).toNatClampNeg = i + 2 := nI_clamp (by omega)
  have hi1 : vp_in (nI (i + 1)) L := vp_in_nI (by omega) (by omega)
  have hi2 : vp_in (nI (i + 2)) L := vp_in_nI (by omega) (by omega)
  intro H locs ls hK hP hD hS hl
  refine lv_aload_n hx hb dL_law_138 rfl (lv_at hl 1 rfl) ?_
  refine lv_aload_n hx hb dL_law_139 rfl (lv_at hl 0 rfl) ?_
  refine lv_iload_n hx hb dL_law_140 rfl (lv_at hl 3 rfl) ?_
  refine lv_iconst (v := nI 1) hx hb dL_law_141 (by decide) ?_
  refine lv_iadd hx hb dL_law_142 ?_
  rw [nI_add]
  refine va_sld hx hb hX hbl hbA hS hi1 dL_law_143 ?_
  rw [ci1]
  have hPc := hP.sub (ws' := [(h0, .inr (0, [.ref r0, .int (nI n)])), (r0, .inl (d0, 64, .inl f))]) [0, 1] rfl
  have hDc := hD.sub (ws' := [(h0, .inr (0, [.ref r0, .int (nI n)])), (r0, .inl (d0, 64, .inl f))]) [0, 1] (by decide) rfl
  have hKc := hK.sub (tys' := [(d0, .int)]) [0] rfl
  have hFc := va_free (wc := [(h0, .inr (0, [.ref r0, .int (nI n)])), (r0, .inl (d0, 64, .inl f))]) hD hS hA [0, 1] rfl
  refine va_callv (va_runV (As := [.int (xs (i + 1))]) (rest := []) ⟨hx, hb, hml, hown, hts⟩ (met0_length l dC dI d0 h0 r0 H.size f n (xs (i + 1))) (cwV 1 hts (lw_V q29 q30 q31 q1 q32) rfl rfl rfl (by decide +kernel) ⟨Nat.le_of_ble_eq_true rfl, Nat.le_of_ble_eq_true rfl⟩) ⟨fun a U g mk q => by obtain ⟨q0, q1, qP, qK, qD⟩ := q; exact ⟨q0, q1, qP, va_K.moved (u := U) (U := U.calling g mk a) (Vm.Alike.refl U.vm) qK, qD⟩, va_recv hKc hPc (ci := 0) (q0 := 0) rfl rfl, fun U hU hW => ⟨rfl, by rw [hU], by rw [hU]; exact hPc, va_K.moved hW.alike hKc, hDc.weaken (fun _ _ _ _ => trivial)⟩⟩ rfl rfl hl.1 rfl (lv_room (Nat.le_of_ble_eq_true rfl)) dL_law_144 ⟨Nat.le_of_ble_eq_true rfl, Nat.le_of_ble_eq_true rfl⟩) hS (fun q _ h => hFc q h) hFc (fun u t H1 locs ht hvm hw0 hB hz1 hk1 hS => ?_)
  obtain ⟨hP1, hK1, hD1⟩ := hB
  rw [ht] at hP1
  obtain ⟨hP, hD⟩ := va_join (wr := [(h1, .inr (1, [.ref r1, .int (nI n)])), (r1, .inl (d1, 64, .inl f))]) (w1 := [(h0, .inr (0, [.ref r0, .int (nI (ns_len (xs (i + 1))))])), (r0, .inl (d0, 64, .inl f))]) hP hD [0, 1] [2, 3] rfl rfl (by decide) (by decide) hk1 hFc hP1 hD1
  have hP := hP.sub (ws' := [(h0, .inr (0, [.ref r0, .int (nI (ns_len (xs (i + 1))))])), (r0, .inl (d0, 64, .inl f)), (h1, .inr (1, [.ref r1, .int (nI n)])), (r1, .inl (d1, 64, .inl f))]) [2, 3, 0, 1] rfl
  have hD := hD.sub (ws' := [(h0, .inr (0, [.ref r0, .int (nI (ns_len (xs (i + 1))))])), (r0, .inl (d0, 64, .inl f)), (h1, .inr (1, [.ref r1, .int (nI n)])), (r1, .inl (d1, 64, .inl f))]) [2, 3, 0, 1] (by decide) rfl
  generalize H1 = H at hP hS ⊢
  refine lv_aload_n hx hb dL_law_147 rfl (lv_at hl 2 rfl) ?_
  refine lv_aload_n hx hb dL_law_148 rfl (lv_at hl 0 rfl) ?_
  refine lv_iload_n hx hb dL_law_149 rfl (lv_at hl 3 rfl) ?_
  refine lv_iconst (v := nI 1) hx hb dL_law_150 (by decide) ?_
  refine lv_iadd hx hb dL_law_151 ?_
  rw [nI_add]
  refine va_sld hx hb hX hbl hbA hS hi1 dL_law_152 ?_
  rw [ci1]
  have hPc := hP.sub (ws' := [(h1, .inr (1, [.ref r1, .int (nI n)])), (r1, .inl (d1, 64, .inl f))]) [2, 3] rfl
  have hDc := hD.sub (ws' := [(h1, .inr (1, [.ref r1, .int (nI n)])), (r1, .inl (d1, 64, .inl f))]) [2, 3] (by decide) rfl
  have hKc := hK.sub (tys' := [(d1, .int)]) [1] rfl
  have hFc := va_free (wc := [(h1, .inr (1, [.ref r1, .int (nI n)])), (r1, .inl (d1, 64, .inl f))]) hD hS hA [2, 3] rfl
  refine va_callv (va_runV (As := [.int (xs (i + 1))]) (rest := []) ⟨hx, hb, hml, hown, hts⟩ (met1_length l dC dI d1 h1 r1 H.size f n (xs (i + 1))) (cwV 1 hts (lw_V q80 q81 q82 q2 q83) rfl rfl rfl (by decide +kernel) ⟨Nat.le_of_ble_eq_true rfl, Nat.le_of_ble_eq_true rfl⟩) ⟨fun a U g mk q => by obtain ⟨q0, q1, qP, qK, qD⟩ := q; exact ⟨q0, q1, qP, va_K.moved (u := U) (U := U.calling g mk a) (Vm.Alike.refl U.vm) qK, qD⟩, va_recv hKc hPc (ci := 1) (q0 := 0) rfl rfl, fun U hU hW => ⟨rfl, by rw [hU], by rw [hU]; exact hPc, va_K.moved hW.alike hKc, hDc.weaken (fun _ _ _ _ => trivial)⟩⟩ rfl rfl hl.1 rfl (lv_room (Nat.le_of_ble_eq_true rfl)) dL_law_153 ⟨Nat.le_of_ble_eq_true rfl, Nat.le_of_ble_eq_true rfl⟩) hS (fun q _ h => hFc q h) hFc (fun u t H1 locs ht hvm hw1 hB hz1 hk1 hS => ?_)
  obtain ⟨hP1, hK1, hD1⟩ := hB
  rw [ht] at hP1
  obtain ⟨hP, hD⟩ := va_join (wr := [(h0, .inr (0, [.ref r0, .int (nI (ns_len (xs (i + 1))))])), (r0, .inl (d0, 64, .inl f))]) (w1 := [(h1, .inr (1, [.ref r1, .int (nI (ns_len (xs (i + 1))))])), (r1, .inl (d1, 64, .inl f))]) hP hD [2, 3] [0, 1] rfl rfl (by decide) (by decide) hk1 hFc hP1 hD1
  have hP := hP.sub (ws' := [(h0, .inr (0, [.ref r0, .int (nI (ns_len (xs (i + 1))))])), (r0, .inl (d0, 64, .inl f)), (h1, .inr (1, [.ref r1, .int (nI (ns_len (xs (i + 1))))])), (r1, .inl (d1, 64, .inl f))]) [0, 1, 2, 3] rfl
  have hD := hD.sub (ws' := [(h0, .inr (0, [.ref r0, .int (nI (ns_len (xs (i + 1))))])), (r0, .inl (d0, 64, .inl f)), (h1, .inr (1, [.ref r1, .int (nI (ns_len (xs (i + 1))))])), (r1, .inl (d1, 64, .inl f))]) [0, 1, 2, 3] (by decide) rfl
  generalize H1 = H at hP hS ⊢
  refine lv_goto (tgt := 220) hx hb dL_law_156 (by decide) ?_
  exact kk (ns_len (xs (i + 1))) f (ns_len_ge _) (ns_len_le _) hf H locs ls hK hP hD hS hl
set_option maxHeartbeats 4000000 in
set_option maxRecDepth 100000 in
/-- the law's case sort: pc 159 to 220 -/
theorem la_sort {p : Program} {l : Launch} {e : Env} {s : State} {m : MethodId} {below : List Frame} {meth : Method} {c : Code} {b L : Nat} {xs : Nat → Int32} {dC : Nat → ClassId} {dI : Nat → Nat → Nat} {h0 r0 h1 r1 : Nat} {d0 d1 : ClassId} (hL : L ≤ 288) (C0 : lw_At p s m meth c b L xs) {i n : Nat} {f : Nat → Int32} (hi : i + 6 ≤ L) (hn2 : 2 ≤ n) (hn64 : n ≤ 64) (hf : ns_Nn f) (kk : ∀ n' f', 2 ≤ n' → n' ≤ 64 → ns_Nn f' → la_W p l e s m below meth c b dC dI h0 r0 h1 r1 d0 d1 220 f' n' f' n' i) : la_W p l e s m below meth c b dC dI h0 r0 h1 r1 d0 d1 159 f n f n i := by
  obtain ⟨hx, hb, hr, hml, hown, hts0, hX, hbl, hlocks, hgv⟩ := C0
  have hts : ∀ w ∈ lw_all, w.before #[Value.ref b] s = true := fun w h => hts0 w (lw_all_tbl h)
  have hA : ∀ q : Nat, s.heap.size ≤ q → (fun q : Nat => s.heap.size ≤ q) q := fun _ h => h
  have hbA : ¬ (fun q : Nat => s.heap.size ≤ q) b := Nat.not_le.mpr hbl
  have ci1 : (nI (i + 1)).toNatClampNeg = i + 1 := nI_clamp (by omega)
  have ci2 : (nI (i + 2)).toNatClampNeg = i + 2 := nI_clamp (by omega)
  have hi1 : vp_in (nI (i + 1)) L := vp_in_nI (by omega) (by omega)
  have hi2 : vp_in (nI (i + 2)) L := vp_in_nI (by omega) (by omega)
  intro H locs ls hK hP hD hS hl
  refine lv_aload_n hx hb dL_law_159 rfl (lv_at hl 1 rfl) ?_
  have hPc := hP.sub (ws' := [(h0, .inr (0, [.ref r0, .int (nI n)])), (r0, .inl (d0, 64, .inl f))]) [0, 1] rfl
  have hDc := hD.sub (ws' := [(h0, .inr (0, [.ref r0, .int (nI n)])), (r0, .inl (d0, 64, .inl f))]) [0, 1] (by decide) rfl
  have hKc := hK.sub (tys' := [(d0, .int)]) [0] rfl
  have hFc := va_free (wc := [(h0, .inr (0, [.ref r0, .int (nI n)])), (r0, .inl (d0, 64, .inl f))]) hD hS hA [0, 1] rfl
  refine va_callv (va_runV (As := []) (rest := []) ⟨hx, hb, hml, hown, hts⟩ (met0_sort l dC dI d0 h0 r0 H.size f n hn2 hn64 hf) (cwV 0 hts (lw_V q34 q35 q36 q1 q37) rfl rfl rfl (by decide +kernel) ⟨Nat.le_of_ble_eq_true rfl, Nat.le_of_ble_eq_true rfl⟩) ⟨fun a U g mk q => by obtain ⟨q0, q1, qP, qK, qD⟩ := q; exact ⟨q0, q1, qP, va_K.moved (u := U) (U := U.calling g mk a) (Vm.Alike.refl U.vm) qK, qD⟩, va_recv hKc hPc (ci := 0) (q0 := 0) rfl rfl, fun U hU hW => ⟨rfl, by rw [hU], by rw [hU]; exact hPc, va_K.moved hW.alike hKc, hDc.weaken (fun _ _ _ _ => trivial)⟩⟩ rfl rfl hl.1 rfl (lv_room (Nat.le_of_ble_eq_true rfl)) dL_law_160 ⟨Nat.le_of_ble_eq_true rfl, Nat.le_of_ble_eq_true rfl⟩) hS (fun q _ h => hFc q h) hFc (fun g t H1 locs ht hvm hw0 hB hz1 hk1 hS => ?_)
  obtain ⟨hP1, hK1, hD1⟩ := hB
  rw [ht] at hP1
  obtain ⟨hP, hD⟩ := va_join (wr := [(h1, .inr (1, [.ref r1, .int (nI n)])), (r1, .inl (d1, 64, .inl f))]) (w1 := [(h0, .inr (0, [.ref r0, .int (nI n)])), (r0, .inl (d0, 64, .inl g))]) hP hD [0, 1] [2, 3] rfl rfl (by decide) (by decide) hk1 hFc hP1 hD1
  have hP := hP.sub (ws' := [(h0, .inr (0, [.ref r0, .int (nI n)])), (r0, .inl (d0, 64, .inl g)), (h1, .inr (1, [.ref r1, .int (nI n)])), (r1, .inl (d1, 64, .inl f))]) [2, 3, 0, 1] rfl
  have hD := hD.sub (ws' := [(h0, .inr (0, [.ref r0, .int (nI n)])), (r0, .inl (d0, 64, .inl g)), (h1, .inr (1, [.ref r1, .int (nI n)])), (r1, .inl (d1, 64, .inl f))]) [2, 3, 0, 1] (by decide) rfl
  generalize H1 = H at hP hS ⊢
  refine lv_aload_n hx hb dL_law_163 rfl (lv_at hl 2 rfl) ?_
  have hPc := hP.sub (ws' := [(h1, .inr (1, [.ref r1, .int (nI n)])), (r1, .inl (d1, 64, .inl f))]) [2, 3] rfl
  have hDc := hD.sub (ws' := [(h1, .inr (1, [.ref r1, .int (nI n)])), (r1, .inl (d1, 64, .inl f))]) [2, 3] (by decide) rfl
  have hKc := hK.sub (tys' := [(d1, .int)]) [1] rfl
  have hFc := va_free (wc := [(h1, .inr (1, [.ref r1, .int (nI n)])), (r1, .inl (d1, 64, .inl f))]) hD hS hA [2, 3] rfl
  refine va_callv (va_runV (As := []) (rest := []) ⟨hx, hb, hml, hown, hts⟩ (met1_sort l dC dI d1 h1 r1 H.size f n hn2 hn64) (cwV 0 hts (lw_V q85 q86 q87 q2 q88) rfl rfl rfl (by decide +kernel) ⟨Nat.le_of_ble_eq_true rfl, Nat.le_of_ble_eq_true rfl⟩) ⟨fun a U g mk q => by obtain ⟨q0, q1, qP, qK, qD⟩ := q; exact ⟨q0, q1, qP, va_K.moved (u := U) (U := U.calling g mk a) (Vm.Alike.refl U.vm) qK, qD⟩, va_recv hKc hPc (ci := 1) (q0 := 0) rfl rfl, fun U hU hW => ⟨rfl, by rw [hU], by rw [hU]; exact hPc, va_K.moved hW.alike hKc, hDc.weaken (fun _ _ _ _ => trivial)⟩⟩ rfl rfl hl.1 rfl (lv_room (Nat.le_of_ble_eq_true rfl)) dL_law_164 ⟨Nat.le_of_ble_eq_true rfl, Nat.le_of_ble_eq_true rfl⟩) hS (fun q _ h => hFc q h) hFc (fun g' t H1 locs ht hvm hw1 hB hz1 hk1 hS => ?_)
  obtain ⟨hP1, hK1, hD1⟩ := hB
  rw [ht] at hP1
  obtain ⟨hP, hD⟩ := va_join (wr := [(h0, .inr (0, [.ref r0, .int (nI n)])), (r0, .inl (d0, 64, .inl g))]) (w1 := [(h1, .inr (1, [.ref r1, .int (nI n)])), (r1, .inl (d1, 64, .inl g'))]) hP hD [2, 3] [0, 1] rfl rfl (by decide) (by decide) hk1 hFc hP1 hD1
  have hP := hP.sub (ws' := [(h0, .inr (0, [.ref r0, .int (nI n)])), (r0, .inl (d0, 64, .inl g)), (h1, .inr (1, [.ref r1, .int (nI n)])), (r1, .inl (d1, 64, .inl g'))]) [0, 1, 2, 3] rfl
  have hD := hD.sub (ws' := [(h0, .inr (0, [.ref r0, .int (nI n)])), (r0, .inl (d0, 64, .inl g)), (h1, .inr (1, [.ref r1, .int (nI n)])), (r1, .inl (d1, 64, .inl g'))]) [0, 1, 2, 3] (by decide) rfl
  generalize H1 = H at hP hS ⊢
  have eg : g' = g := ns_Of_uniq hw1 hw0
  rw [eg] at hP hD
  refine lv_goto (tgt := 220) hx hb dL_law_167 (by decide) ?_
  exact kk n g hn2 hn64 (ns_Of_Nn hw0 hf) H locs ls hK hP hD hS hl
set_option maxHeartbeats 4000000 in
set_option maxRecDepth 100000 in
/-- the law's case get: pc 170 to 220 -/
theorem la_get {p : Program} {l : Launch} {e : Env} {s : State} {m : MethodId} {below : List Frame} {meth : Method} {c : Code} {b L : Nat} {xs : Nat → Int32} {dC : Nat → ClassId} {dI : Nat → Nat → Nat} {h0 r0 h1 r1 : Nat} {d0 d1 : ClassId} (hL : L ≤ 288) (C0 : lw_At p s m meth c b L xs) {i n : Nat} {f : Nat → Int32} (hi : i + 6 ≤ L) (hn2 : 2 ≤ n) (hn64 : n ≤ 64) (hf : ns_Nn f) (kk : ∀ n' f', 2 ≤ n' → n' ≤ 64 → ns_Nn f' → la_W p l e s m below meth c b dC dI h0 r0 h1 r1 d0 d1 220 f' n' f' n' i) : la_W p l e s m below meth c b dC dI h0 r0 h1 r1 d0 d1 170 f n f n i := by
  obtain ⟨hx, hb, hr, hml, hown, hts0, hX, hbl, hlocks, hgv⟩ := C0
  have hts : ∀ w ∈ lw_all, w.before #[Value.ref b] s = true := fun w h => hts0 w (lw_all_tbl h)
  have hA : ∀ q : Nat, s.heap.size ≤ q → (fun q : Nat => s.heap.size ≤ q) q := fun _ h => h
  have hbA : ¬ (fun q : Nat => s.heap.size ≤ q) b := Nat.not_le.mpr hbl
  have ci1 : (nI (i + 1)).toNatClampNeg = i + 1 := nI_clamp (by omega)
  have ci2 : (nI (i + 2)).toNatClampNeg = i + 2 := nI_clamp (by omega)
  have hi1 : vp_in (nI (i + 1)) L := vp_in_nI (by omega) (by omega)
  have hi2 : vp_in (nI (i + 2)) L := vp_in_nI (by omega) (by omega)
  intro H locs ls hK hP hD hS hl
  refine lv_aload_n hx hb dL_law_170 rfl (lv_at hl 1 rfl) ?_
  refine lv_aload_n hx hb dL_law_171 rfl (lv_at hl 0 rfl) ?_
  refine lv_iload_n hx hb dL_law_172 rfl (lv_at hl 3 rfl) ?_
  refine lv_iconst (v := nI 1) hx hb dL_law_173 (by decide) ?_
  refine lv_iadd hx hb dL_law_174 ?_
  rw [nI_add]
  refine va_sld hx hb hX hbl hbA hS hi1 dL_law_175 ?_
  rw [ci1]
  have hPc := hP.sub (ws' := [(h0, .inr (0, [.ref r0, .int (nI n)])), (r0, .inl (d0, 64, .inl f))]) [0, 1] rfl
  have hDc := hD.sub (ws' := [(h0, .inr (0, [.ref r0, .int (nI n)])), (r0, .inl (d0, 64, .inl f))]) [0, 1] (by decide) rfl
  have hKc := hK.sub (tys' := [(d0, .int)]) [0] rfl
  have hFc := va_free (wc := [(h0, .inr (0, [.ref r0, .int (nI n)])), (r0, .inl (d0, 64, .inl f))]) hD hS hA [0, 1] rfl
  refine va_calli (va_runV (As := [.int (xs (i + 1))]) (rest := []) ⟨hx, hb, hml, hown, hts⟩ (met0_get l dC dI d0 h0 r0 H.size f n (xs (i + 1))) (cwV 1 hts (lw_V q45 q46 q47 q1 q48) rfl rfl rfl (by decide +kernel) ⟨Nat.le_of_ble_eq_true rfl, Nat.le_of_ble_eq_true rfl⟩) ⟨fun a U g mk q => by obtain ⟨q0, q1, qP, qK, qD⟩ := q; exact ⟨q0, q1, qP, va_K.moved (u := U) (U := U.calling g mk a) (Vm.Alike.refl U.vm) qK, qD⟩, va_recv hKc hPc (ci := 0) (q0 := 0) rfl rfl, fun U hU hW => ⟨rfl, by rw [hU], by rw [hU]; exact hPc, va_K.moved hW.alike hKc, hDc.weaken (fun _ _ _ _ => trivial)⟩⟩ rfl rfl hl.1 rfl (lv_room (Nat.le_of_ble_eq_true rfl)) dL_law_176 ⟨Nat.le_of_ble_eq_true rfl, Nat.le_of_ble_eq_true rfl⟩) hS (fun q _ h => hFc q h) hFc (fun a0 u t H1 locs ht hvm hw0 hB hz1 hk1 hS => ?_)
  obtain ⟨hP1, hK1, hD1⟩ := hB
  rw [ht] at hP1
  obtain ⟨hP, hD⟩ := va_join (wr := [(h1, .inr (1, [.ref r1, .int (nI n)])), (r1, .inl (d1, 64, .inl f))]) (w1 := [(h0, .inr (0, [.ref r0, .int (nI n)])), (r0, .inl (d0, 64, .inl f))]) hP hD [0, 1] [2, 3] rfl rfl (by decide) (by decide) hk1 hFc hP1 hD1
  have hP := hP.sub (ws' := [(h0, .inr (0, [.ref r0, .int (nI n)])), (r0, .inl (d0, 64, .inl f)), (h1, .inr (1, [.ref r1, .int (nI n)])), (r1, .inl (d1, 64, .inl f))]) [2, 3, 0, 1] rfl
  have hD := hD.sub (ws' := [(h0, .inr (0, [.ref r0, .int (nI n)])), (r0, .inl (d0, 64, .inl f)), (h1, .inr (1, [.ref r1, .int (nI n)])), (r1, .inl (d1, 64, .inl f))]) [2, 3, 0, 1] (by decide) rfl
  generalize H1 = H at hP hS ⊢
  refine lv_aload_n hx hb dL_law_179 rfl (lv_at hl 2 rfl) ?_
  refine lv_aload_n hx hb dL_law_180 rfl (lv_at hl 0 rfl) ?_
  refine lv_iload_n hx hb dL_law_181 rfl (lv_at hl 3 rfl) ?_
  refine lv_iconst (v := nI 1) hx hb dL_law_182 (by decide) ?_
  refine lv_iadd hx hb dL_law_183 ?_
  rw [nI_add]
  refine va_sld hx hb hX hbl hbA hS hi1 dL_law_184 ?_
  rw [ci1]
  have hPc := hP.sub (ws' := [(h1, .inr (1, [.ref r1, .int (nI n)])), (r1, .inl (d1, 64, .inl f))]) [2, 3] rfl
  have hDc := hD.sub (ws' := [(h1, .inr (1, [.ref r1, .int (nI n)])), (r1, .inl (d1, 64, .inl f))]) [2, 3] (by decide) rfl
  have hKc := hK.sub (tys' := [(d1, .int)]) [1] rfl
  have hFc := va_free (wc := [(h1, .inr (1, [.ref r1, .int (nI n)])), (r1, .inl (d1, 64, .inl f))]) hD hS hA [2, 3] rfl
  refine va_calli (va_runV (As := [.int (xs (i + 1))]) (rest := [.int a0]) ⟨hx, hb, hml, hown, hts⟩ (met1_get l dC dI d1 h1 r1 H.size f n (xs (i + 1))) (cwV 1 hts (lw_V q89 q90 q91 q2 q92) rfl rfl rfl (by decide +kernel) ⟨Nat.le_of_ble_eq_true rfl, Nat.le_of_ble_eq_true rfl⟩) ⟨fun a U g mk q => by obtain ⟨q0, q1, qP, qK, qD⟩ := q; exact ⟨q0, q1, qP, va_K.moved (u := U) (U := U.calling g mk a) (Vm.Alike.refl U.vm) qK, qD⟩, va_recv hKc hPc (ci := 1) (q0 := 0) rfl rfl, fun U hU hW => ⟨rfl, by rw [hU], by rw [hU]; exact hPc, va_K.moved hW.alike hKc, hDc.weaken (fun _ _ _ _ => trivial)⟩⟩ rfl rfl hl.1 rfl (lv_room (Nat.le_of_ble_eq_true rfl)) dL_law_185 ⟨Nat.le_of_ble_eq_true rfl, Nat.le_of_ble_eq_true rfl⟩) hS (fun q _ h => hFc q h) hFc (fun a1 u t H1 locs ht hvm hw1 hB hz1 hk1 hS => ?_)
  obtain ⟨hP1, hK1, hD1⟩ := hB
  rw [ht] at hP1
  obtain ⟨hP, hD⟩ := va_join (wr := [(h0, .inr (0, [.ref r0, .int (nI n)])), (r0, .inl (d0, 64, .inl f))]) (w1 := [(h1, .inr (1, [.ref r1, .int (nI n)])), (r1, .inl (d1, 64, .inl f))]) hP hD [2, 3] [0, 1] rfl rfl (by decide) (by decide) hk1 hFc hP1 hD1
  have hP := hP.sub (ws' := [(h0, .inr (0, [.ref r0, .int (nI n)])), (r0, .inl (d0, 64, .inl f)), (h1, .inr (1, [.ref r1, .int (nI n)])), (r1, .inl (d1, 64, .inl f))]) [0, 1, 2, 3] rfl
  have hD := hD.sub (ws' := [(h0, .inr (0, [.ref r0, .int (nI n)])), (r0, .inl (d0, 64, .inl f)), (h1, .inr (1, [.ref r1, .int (nI n)])), (r1, .inl (d1, 64, .inl f))]) [0, 1, 2, 3] (by decide) rfl
  generalize H1 = H at hP hS ⊢
  refine lv_icmp_eq (tgt := 220) hx hb dL_law_188 (by decide) (fun _ => ?_) (fun c1 => absurd (hw0.trans hw1.symm) c1)
  exact kk n f hn2 hn64 hf H locs ls hK hP hD hS hl
set_option maxHeartbeats 4000000 in
set_option maxRecDepth 100000 in
/-- the law's case length_2: pc 193 to 220 -/
theorem la_length_2 {p : Program} {l : Launch} {e : Env} {s : State} {m : MethodId} {below : List Frame} {meth : Method} {c : Code} {b L : Nat} {xs : Nat → Int32} {dC : Nat → ClassId} {dI : Nat → Nat → Nat} {h0 r0 h1 r1 : Nat} {d0 d1 : ClassId} (hL : L ≤ 288) (C0 : lw_At p s m meth c b L xs) {i n : Nat} {f : Nat → Int32} (hi : i + 6 ≤ L) (hn2 : 2 ≤ n) (hn64 : n ≤ 64) (hf : ns_Nn f) (kk : ∀ n' f', 2 ≤ n' → n' ≤ 64 → ns_Nn f' → la_W p l e s m below meth c b dC dI h0 r0 h1 r1 d0 d1 220 f' n' f' n' i) : la_W p l e s m below meth c b dC dI h0 r0 h1 r1 d0 d1 193 f n f n i := by
  obtain ⟨hx, hb, hr, hml, hown, hts0, hX, hbl, hlocks, hgv⟩ := C0
  have hts : ∀ w ∈ lw_all, w.before #[Value.ref b] s = true := fun w h => hts0 w (lw_all_tbl h)
  have hA : ∀ q : Nat, s.heap.size ≤ q → (fun q : Nat => s.heap.size ≤ q) q := fun _ h => h
  have hbA : ¬ (fun q : Nat => s.heap.size ≤ q) b := Nat.not_le.mpr hbl
  have ci1 : (nI (i + 1)).toNatClampNeg = i + 1 := nI_clamp (by omega)
  have ci2 : (nI (i + 2)).toNatClampNeg = i + 2 := nI_clamp (by omega)
  have hi1 : vp_in (nI (i + 1)) L := vp_in_nI (by omega) (by omega)
  have hi2 : vp_in (nI (i + 2)) L := vp_in_nI (by omega) (by omega)
  intro H locs ls hK hP hD hS hl
  refine lv_aload_n hx hb dL_law_193 rfl (lv_at hl 1 rfl) ?_
  have hPc := hP.sub (ws' := [(h0, .inr (0, [.ref r0, .int (nI n)])), (r0, .inl (d0, 64, .inl f))]) [0, 1] rfl
  have hDc := hD.sub (ws' := [(h0, .inr (0, [.ref r0, .int (nI n)])), (r0, .inl (d0, 64, .inl f))]) [0, 1] (by decide) rfl
  have hKc := hK.sub (tys' := [(d0, .int)]) [0] rfl
  have hFc := va_free (wc := [(h0, .inr (0, [.ref r0, .int (nI n)])), (r0, .inl (d0, 64, .inl f))]) hD hS hA [0, 1] rfl
  refine va_calli (va_runV (As := []) (rest := []) ⟨hx, hb, hml, hown, hts⟩ (met0_length_2 l dC dI d0 h0 r0 H.size f n) (cwV 0 hts (lw_V q49 q50 q51 q1 q52) rfl rfl rfl (by decide +kernel) ⟨Nat.le_of_ble_eq_true rfl, Nat.le_of_ble_eq_true rfl⟩) ⟨fun a U g mk q => by obtain ⟨q0, q1, qP, qK, qD⟩ := q; exact ⟨q0, q1, qP, va_K.moved (u := U) (U := U.calling g mk a) (Vm.Alike.refl U.vm) qK, qD⟩, va_recv hKc hPc (ci := 0) (q0 := 0) rfl rfl, fun U hU hW => ⟨rfl, by rw [hU], by rw [hU]; exact hPc, va_K.moved hW.alike hKc, hDc.weaken (fun _ _ _ _ => trivial)⟩⟩ rfl rfl hl.1 rfl (lv_room (Nat.le_of_ble_eq_true rfl)) dL_law_194 ⟨Nat.le_of_ble_eq_true rfl, Nat.le_of_ble_eq_true rfl⟩) hS (fun q _ h => hFc q h) hFc (fun a0 u t H1 locs ht hvm hw0 hB hz1 hk1 hS => ?_)
  obtain ⟨hP1, hK1, hD1⟩ := hB
  rw [ht] at hP1
  obtain ⟨hP, hD⟩ := va_join (wr := [(h1, .inr (1, [.ref r1, .int (nI n)])), (r1, .inl (d1, 64, .inl f))]) (w1 := [(h0, .inr (0, [.ref r0, .int (nI n)])), (r0, .inl (d0, 64, .inl f))]) hP hD [0, 1] [2, 3] rfl rfl (by decide) (by decide) hk1 hFc hP1 hD1
  have hP := hP.sub (ws' := [(h0, .inr (0, [.ref r0, .int (nI n)])), (r0, .inl (d0, 64, .inl f)), (h1, .inr (1, [.ref r1, .int (nI n)])), (r1, .inl (d1, 64, .inl f))]) [2, 3, 0, 1] rfl
  have hD := hD.sub (ws' := [(h0, .inr (0, [.ref r0, .int (nI n)])), (r0, .inl (d0, 64, .inl f)), (h1, .inr (1, [.ref r1, .int (nI n)])), (r1, .inl (d1, 64, .inl f))]) [2, 3, 0, 1] (by decide) rfl
  generalize H1 = H at hP hS ⊢
  refine lv_aload_n hx hb dL_law_197 rfl (lv_at hl 2 rfl) ?_
  have hPc := hP.sub (ws' := [(h1, .inr (1, [.ref r1, .int (nI n)])), (r1, .inl (d1, 64, .inl f))]) [2, 3] rfl
  have hDc := hD.sub (ws' := [(h1, .inr (1, [.ref r1, .int (nI n)])), (r1, .inl (d1, 64, .inl f))]) [2, 3] (by decide) rfl
  have hKc := hK.sub (tys' := [(d1, .int)]) [1] rfl
  have hFc := va_free (wc := [(h1, .inr (1, [.ref r1, .int (nI n)])), (r1, .inl (d1, 64, .inl f))]) hD hS hA [2, 3] rfl
  refine va_calli (va_runV (As := []) (rest := [.int a0]) ⟨hx, hb, hml, hown, hts⟩ (met1_length_2 l dC dI d1 h1 r1 H.size f n) (cwV 0 hts (lw_V q93 q94 q95 q2 q96) rfl rfl rfl (by decide +kernel) ⟨Nat.le_of_ble_eq_true rfl, Nat.le_of_ble_eq_true rfl⟩) ⟨fun a U g mk q => by obtain ⟨q0, q1, qP, qK, qD⟩ := q; exact ⟨q0, q1, qP, va_K.moved (u := U) (U := U.calling g mk a) (Vm.Alike.refl U.vm) qK, qD⟩, va_recv hKc hPc (ci := 1) (q0 := 0) rfl rfl, fun U hU hW => ⟨rfl, by rw [hU], by rw [hU]; exact hPc, va_K.moved hW.alike hKc, hDc.weaken (fun _ _ _ _ => trivial)⟩⟩ rfl rfl hl.1 rfl (lv_room (Nat.le_of_ble_eq_true rfl)) dL_law_198 ⟨Nat.le_of_ble_eq_true rfl, Nat.le_of_ble_eq_true rfl⟩) hS (fun q _ h => hFc q h) hFc (fun a1 u t H1 locs ht hvm hw1 hB hz1 hk1 hS => ?_)
  obtain ⟨hP1, hK1, hD1⟩ := hB
  rw [ht] at hP1
  obtain ⟨hP, hD⟩ := va_join (wr := [(h0, .inr (0, [.ref r0, .int (nI n)])), (r0, .inl (d0, 64, .inl f))]) (w1 := [(h1, .inr (1, [.ref r1, .int (nI n)])), (r1, .inl (d1, 64, .inl f))]) hP hD [2, 3] [0, 1] rfl rfl (by decide) (by decide) hk1 hFc hP1 hD1
  have hP := hP.sub (ws' := [(h0, .inr (0, [.ref r0, .int (nI n)])), (r0, .inl (d0, 64, .inl f)), (h1, .inr (1, [.ref r1, .int (nI n)])), (r1, .inl (d1, 64, .inl f))]) [0, 1, 2, 3] rfl
  have hD := hD.sub (ws' := [(h0, .inr (0, [.ref r0, .int (nI n)])), (r0, .inl (d0, 64, .inl f)), (h1, .inr (1, [.ref r1, .int (nI n)])), (r1, .inl (d1, 64, .inl f))]) [0, 1, 2, 3] (by decide) rfl
  generalize H1 = H at hP hS ⊢
  refine lv_icmp_eq (tgt := 220) hx hb dL_law_201 (by decide) (fun _ => ?_) (fun c1 => absurd (hw0.trans hw1.symm) c1)
  exact kk n f hn2 hn64 hf H locs ls hK hP hD hS hl
set_option maxHeartbeats 4000000 in
set_option maxRecDepth 100000 in
/-- the law's case sum: pc 206 to 220 -/
theorem la_sum {p : Program} {l : Launch} {e : Env} {s : State} {m : MethodId} {below : List Frame} {meth : Method} {c : Code} {b L : Nat} {xs : Nat → Int32} {dC : Nat → ClassId} {dI : Nat → Nat → Nat} {h0 r0 h1 r1 : Nat} {d0 d1 : ClassId} (hL : L ≤ 288) (C0 : lw_At p s m meth c b L xs) {i n : Nat} {f : Nat → Int32} (hi : i + 6 ≤ L) (hn2 : 2 ≤ n) (hn64 : n ≤ 64) (hf : ns_Nn f) (kk : ∀ n' f', 2 ≤ n' → n' ≤ 64 → ns_Nn f' → la_W p l e s m below meth c b dC dI h0 r0 h1 r1 d0 d1 220 f' n' f' n' i) : la_W p l e s m below meth c b dC dI h0 r0 h1 r1 d0 d1 206 f n f n i := by
  obtain ⟨hx, hb, hr, hml, hown, hts0, hX, hbl, hlocks, hgv⟩ := C0
  have hts : ∀ w ∈ lw_all, w.before #[Value.ref b] s = true := fun w h => hts0 w (lw_all_tbl h)
  have hA : ∀ q : Nat, s.heap.size ≤ q → (fun q : Nat => s.heap.size ≤ q) q := fun _ h => h
  have hbA : ¬ (fun q : Nat => s.heap.size ≤ q) b := Nat.not_le.mpr hbl
  have ci1 : (nI (i + 1)).toNatClampNeg = i + 1 := nI_clamp (by omega)
  have ci2 : (nI (i + 2)).toNatClampNeg = i + 2 := nI_clamp (by omega)
  have hi1 : vp_in (nI (i + 1)) L := vp_in_nI (by omega) (by omega)
  have hi2 : vp_in (nI (i + 2)) L := vp_in_nI (by omega) (by omega)
  intro H locs ls hK hP hD hS hl
  refine lv_aload_n hx hb dL_law_206 rfl (lv_at hl 1 rfl) ?_
  have hPc := hP.sub (ws' := [(h0, .inr (0, [.ref r0, .int (nI n)])), (r0, .inl (d0, 64, .inl f))]) [0, 1] rfl
  have hDc := hD.sub (ws' := [(h0, .inr (0, [.ref r0, .int (nI n)])), (r0, .inl (d0, 64, .inl f))]) [0, 1] (by decide) rfl
  have hKc := hK.sub (tys' := [(d0, .int)]) [0] rfl
  have hFc := va_free (wc := [(h0, .inr (0, [.ref r0, .int (nI n)])), (r0, .inl (d0, 64, .inl f))]) hD hS hA [0, 1] rfl
  refine va_calll (va_runV (As := []) (rest := []) ⟨hx, hb, hml, hown, hts⟩ (met0_sum l dC dI d0 h0 r0 H.size f n) (cwV 0 hts (lw_V q53 q54 q55 q1 q56) rfl rfl rfl (by decide +kernel) ⟨Nat.le_of_ble_eq_true rfl, Nat.le_of_ble_eq_true rfl⟩) ⟨fun a U g mk q => by obtain ⟨q0, q1, qP, qK, qD⟩ := q; exact ⟨q0, q1, qP, va_K.moved (u := U) (U := U.calling g mk a) (Vm.Alike.refl U.vm) qK, qD⟩, va_recv hKc hPc (ci := 0) (q0 := 0) rfl rfl, fun U hU hW => ⟨rfl, by rw [hU], by rw [hU]; exact hPc, va_K.moved hW.alike hKc, hDc.weaken (fun _ _ _ _ => trivial)⟩⟩ rfl rfl hl.1 rfl (lv_room (Nat.le_of_ble_eq_true rfl)) dL_law_207 ⟨Nat.le_of_ble_eq_true rfl, Nat.le_of_ble_eq_true rfl⟩) hS (fun q _ h => hFc q h) hFc (fun a0 u t H1 locs ht hvm hw0 hB hz1 hk1 hS => ?_)
  obtain ⟨hP1, hK1, hD1⟩ := hB
  rw [ht] at hP1
  obtain ⟨hP, hD⟩ := va_join (wr := [(h1, .inr (1, [.ref r1, .int (nI n)])), (r1, .inl (d1, 64, .inl f))]) (w1 := [(h0, .inr (0, [.ref r0, .int (nI n)])), (r0, .inl (d0, 64, .inl f))]) hP hD [0, 1] [2, 3] rfl rfl (by decide) (by decide) hk1 hFc hP1 hD1
  have hP := hP.sub (ws' := [(h0, .inr (0, [.ref r0, .int (nI n)])), (r0, .inl (d0, 64, .inl f)), (h1, .inr (1, [.ref r1, .int (nI n)])), (r1, .inl (d1, 64, .inl f))]) [2, 3, 0, 1] rfl
  have hD := hD.sub (ws' := [(h0, .inr (0, [.ref r0, .int (nI n)])), (r0, .inl (d0, 64, .inl f)), (h1, .inr (1, [.ref r1, .int (nI n)])), (r1, .inl (d1, 64, .inl f))]) [2, 3, 0, 1] (by decide) rfl
  generalize H1 = H at hP hS ⊢
  refine lv_aload_n hx hb dL_law_210 rfl (lv_at hl 2 rfl) ?_
  have hPc := hP.sub (ws' := [(h1, .inr (1, [.ref r1, .int (nI n)])), (r1, .inl (d1, 64, .inl f))]) [2, 3] rfl
  have hDc := hD.sub (ws' := [(h1, .inr (1, [.ref r1, .int (nI n)])), (r1, .inl (d1, 64, .inl f))]) [2, 3] (by decide) rfl
  have hKc := hK.sub (tys' := [(d1, .int)]) [1] rfl
  have hFc := va_free (wc := [(h1, .inr (1, [.ref r1, .int (nI n)])), (r1, .inl (d1, 64, .inl f))]) hD hS hA [2, 3] rfl
  refine va_calll (va_runV (As := []) (rest := [.long a0]) ⟨hx, hb, hml, hown, hts⟩ (met1_sum l dC dI d1 h1 r1 H.size f n) (cwV 0 hts (lw_V q97 q98 q99 q2 q100) rfl rfl rfl (by decide +kernel) ⟨Nat.le_of_ble_eq_true rfl, Nat.le_of_ble_eq_true rfl⟩) ⟨fun a U g mk q => by obtain ⟨q0, q1, qP, qK, qD⟩ := q; exact ⟨q0, q1, qP, va_K.moved (u := U) (U := U.calling g mk a) (Vm.Alike.refl U.vm) qK, qD⟩, va_recv hKc hPc (ci := 1) (q0 := 0) rfl rfl, fun U hU hW => ⟨rfl, by rw [hU], by rw [hU]; exact hPc, va_K.moved hW.alike hKc, hDc.weaken (fun _ _ _ _ => trivial)⟩⟩ rfl rfl hl.1 rfl (lv_room (Nat.le_of_ble_eq_true rfl)) dL_law_211 ⟨Nat.le_of_ble_eq_true rfl, Nat.le_of_ble_eq_true rfl⟩) hS (fun q _ h => hFc q h) hFc (fun a1 u t H1 locs ht hvm hw1 hB hz1 hk1 hS => ?_)
  obtain ⟨hP1, hK1, hD1⟩ := hB
  rw [ht] at hP1
  obtain ⟨hP, hD⟩ := va_join (wr := [(h0, .inr (0, [.ref r0, .int (nI n)])), (r0, .inl (d0, 64, .inl f))]) (w1 := [(h1, .inr (1, [.ref r1, .int (nI n)])), (r1, .inl (d1, 64, .inl f))]) hP hD [2, 3] [0, 1] rfl rfl (by decide) (by decide) hk1 hFc hP1 hD1
  have hP := hP.sub (ws' := [(h0, .inr (0, [.ref r0, .int (nI n)])), (r0, .inl (d0, 64, .inl f)), (h1, .inr (1, [.ref r1, .int (nI n)])), (r1, .inl (d1, 64, .inl f))]) [0, 1, 2, 3] rfl
  have hD := hD.sub (ws' := [(h0, .inr (0, [.ref r0, .int (nI n)])), (r0, .inl (d0, 64, .inl f)), (h1, .inr (1, [.ref r1, .int (nI n)])), (r1, .inl (d1, 64, .inl f))]) [0, 1, 2, 3] (by decide) rfl
  generalize H1 = H at hP hS ⊢
  have ea : a0 = a1 := hw0.trans hw1.symm
  subst ea
  refine W.lcmp hx hb dL_law_214 ?_
  rw [show lg_cmp a0 a0 = 0 by simp [lg_cmp]]
  refine lv_if_eq (tgt := 220) hx hb dL_law_215 (by decide) (fun _ => ?_) (fun c1 => absurd rfl c1)
  exact kk n f hn2 hn64 hf H locs ls hK hP hD hS hl
set_option maxHeartbeats 4000000 in
set_option maxRecDepth 100000 in
/-- the law's loop at its head, with i ints read: the system's row and length are the reference's -/
theorem la_loop {p : Program} {l : Launch} {e : Env} {s : State} {m : MethodId} {below : List Frame} {meth : Method} {c : Code} {b L : Nat} {xs : Nat → Int32} {dC : Nat → ClassId} {dI : Nat → Nat → Nat} {h0 r0 h1 r1 : Nat} {d0 d1 : ClassId} (hL : L ≤ 288) (C0 : lw_At p s m meth c b L xs) : ∀ k i n f, i ≤ L → L + 1 ≤ i + k → 2 ≤ n → n ≤ 64 → ns_Nn f → la_W p l e s m below meth c b dC dI h0 r0 h1 r1 d0 d1 18 f n f n i := by
  have C1 := C0
  obtain ⟨hx, hb, hr, hml, hown, hts0, hX, hbl, hlocks, hgv⟩ := C1
  have hbA : ¬ (fun q : Nat => s.heap.size ≤ q) b := Nat.not_le.mpr hbl
  intro k
  induction k with
  | zero => intro i n f hiL hik; exact absurd hik (by omega)
  | succ k ih =>
    intro i n f hiL hik hn2 hn64 hf H locs ls hK hP hD hS hl
    refine lv_iload_n hx hb dL_law_18 rfl (lv_at hl 3 rfl) ?_
    refine lv_aload_n hx hb dL_law_19 rfl (lv_at hl 0 rfl) ?_
    refine va_slen hx hb hX hbl hbA hS dL_law_20 ?_
    refine lv_bipush (v := nI 6) hx hb dL_law_21 (by decide) ?_
    refine lv_isub hx hb dL_law_23 ?_
    have ed : (Int32.ofNat L - nI 6).toInt = (L : Int) - 6 := pk_sub_toInt (a := L) (b := 6) (by omega) (by decide)
    have ei : (nI i).toInt = (i : Int) := nI_toInt (by omega)
    refine lv_icmp_gt (tgt := 226) hx hb dL_law_24 (by decide) (fun _ => ?_) (fun c1 => ?_)
    · refine lv_iconst (v := 1) hx hb dL_law_226 (by decide) ?_
      refine va_forget (fun q hq => hS.2.2 q hq) ?_
      refine W.widen (k := 600000) (n := 7290000) (Nat.le_of_ble_eq_true rfl) (Nat.le_of_ble_eq_true rfl) ?_
      exact lw_ret hx hb hr hlocks dL_law_227
    have hi6 : i + 6 ≤ L := by
      rw [Int32.lt_iff_toInt_lt, ed, ei] at c1
      omega
    have inc : ∀ n' f', 2 ≤ n' → n' ≤ 64 → ns_Nn f' → la_W p l e s m below meth c b dC dI h0 r0 h1 r1 d0 d1 220 f' n' f' n' i := by
      intro n' f' a1 a2 a3 H locs ls hK hP hD hS hl
      refine lv_iinc (v := nI (i + 6)) (lv' := [(3, .int (nI (i + 6))), (0, .ref b), (1, .ref h0), (2, .ref h1)]) hx hb dL_law_220 hl (k := 3) rfl (nI_add i 6) (by decide) rfl (fun ls hl => ?_)
      refine lv_goto (tgt := 18) hx hb dL_law_223 (by decide) ?_
      exact ih (i + 6) n' f' hi6 (by omega) a1 a2 a3 H locs ls hK hP hD hS (lv_sub hl [1, 2, 3, 0] rfl)
    have ci : (nI i).toNatClampNeg = i := nI_clamp (by omega)
    have hin : vp_in (nI i) L := vp_in_nI (by omega) (by omega)
    refine lv_aload_n hx hb dL_law_27 rfl (lv_at hl 0 rfl) ?_
    refine lv_iload_n hx hb dL_law_28 rfl (lv_at hl 3 rfl) ?_
    refine va_sld hx hb hX hbl hbA hS hin dL_law_29 ?_
    refine lv_bipush (v := 7) hx hb dL_law_30 (by decide) ?_
    refine lv_iand hx hb dL_law_32 ?_
    obtain ⟨j, hj, ej⟩ := pk_andE (xs (nI i).toNatClampNeg) (m := 7) 3 (by decide)
    rw [ej]
    have hj : j < 8 := hj
    rcases (show j = 0 ∨ j = 1 ∨ j = 2 ∨ j = 3 ∨ j = 4 ∨ j = 5 ∨ j = 6 ∨ j = 7 by omega) with rfl | rfl | rfl | rfl | rfl | rfl | rfl | rfl
    · refine lv_tableIn (tgt := 76) (off := 43) hx hb dL_law_33 (by decide) (by decide) rfl (by decide) ?_
      exact la_set hL C0 hi6 hn2 hn64 hf inc H locs ls hK hP hD hS hl
    · refine lv_tableIn (tgt := 107) (off := 74) hx hb dL_law_33 (by decide) (by decide) rfl (by decide) ?_
      exact la_fill hL C0 hi6 hn2 hn64 hf inc H locs ls hK hP hD hS hl
    · refine lv_tableIn (tgt := 138) (off := 105) hx hb dL_law_33 (by decide) (by decide) rfl (by decide) ?_
      exact la_length hL C0 hi6 hn2 hn64 hf inc H locs ls hK hP hD hS hl
    · refine lv_tableIn (tgt := 159) (off := 126) hx hb dL_law_33 (by decide) (by decide) rfl (by decide) ?_
      exact la_sort hL C0 hi6 hn2 hn64 hf inc H locs ls hK hP hD hS hl
    · refine lv_tableIn (tgt := 170) (off := 137) hx hb dL_law_33 (by decide) (by decide) rfl (by decide) ?_
      exact la_get hL C0 hi6 hn2 hn64 hf inc H locs ls hK hP hD hS hl
    · refine lv_tableIn (tgt := 193) (off := 160) hx hb dL_law_33 (by decide) (by decide) rfl (by decide) ?_
      exact la_length_2 hL C0 hi6 hn2 hn64 hf inc H locs ls hK hP hD hS hl
    · refine lv_tableIn (tgt := 206) (off := 173) hx hb dL_law_33 (by decide) (by decide) rfl (by decide) ?_
      exact la_sum hL C0 hi6 hn2 hn64 hf inc H locs ls hK hP hD hS hl
    · refine lv_tableOut (tgt := 220) hx hb dL_law_33 (Or.inr (by decide)) (by decide) ?_
      exact inc n f hn2 hn64 hf H locs ls hK hP hD hS hl
end
section
set_option maxHeartbeats 4000000 in
set_option maxRecDepth 100000 in
/-- THE LAW: from the entry, for every script of at most 288 ints, the law comes to its end with true ('hflags': the launch's flags, for a law that throws: no stack traces) -/
theorem whole_start {p : Program} {e : Env} {s : State} {m : MethodId} {below : List Frame} {meth : Method} {c : Code} (l : Launch) (hflags : l.flags = flags0) {b L : Nat} {xs : Nat → Int32} (hL : L ≤ 288) (C0 : lw_At p s m meth c b L xs) : W p l e room_1 s m #[Value.ref b] below meth c s.heap [] 0 0 (lw_Z below #[Value.ref b] s) (entryFrame m ([Value.ref b] : List Value).toArray 4) := by
  obtain ⟨hx, hb, hr, hml, hown, hts0, hX, hbl, hlocks, hgv⟩ := id C0
  have hts : ∀ w ∈ lw_all, w.before #[Value.ref b] s = true := fun w h => hts0 w (lw_all_tbl h)
  have hA : ∀ q : Nat, s.heap.size ≤ q → (fun q : Nat => s.heap.size ≤ q) q := fun _ h => h
  have hbA : ¬ (fun q : Nat => s.heap.size ≤ q) b := Nat.not_le.mpr hbl
  obtain ⟨c0, iS0, hKn0⟩ := u_known (C := RX0) (T := TX0) (N := 2) (n := 2) hts0 (fun w h => lw_all_tbl (in_X0 w h)) (hts0 _ (lw_all_tbl q5))
  obtain ⟨c1, iS1, hKn1⟩ := u_known (C := RX1) (T := TX1) (N := 2) (n := 2) hts0 (fun w h => lw_all_tbl (in_X1 w h)) (hts0 _ (lw_all_tbl q59))
  obtain ⟨dC, dI, hKc⟩ : ∃ (dC : Nat → ClassId) (dI : Nat → Nat → Nat), ∀ (k : Nat) (q : vw_C), vwCl[k]? = some q → u_Kn s q.1 q.2.1 q.2.2 (dC k) (dI k) := by
    refine ⟨fun k => if k = 0 then c0 else c1, fun k => if k = 0 then iS0 else iS1, ?_⟩
    intro k q hq
    match k, hq with
    | 0, hq => cases hq; exact hKn0
    | 1, hq => cases hq; exact hKn1
    | k + 2, hq => simp [vwCl] at hq
  have hS : va_S (fun q : Nat => s.heap.size ≤ q) s.heap s.heap [] := va_S.rf
  have hK : va_K (dC, dI) vwCl [] s := ⟨hKc, fun k q h => by simp at h⟩
  have hP : va_P (dC, dI) vwCl [] s.heap := fun k q h => by simp at h
  have hD : va_D (fun q : Nat => s.heap.size ≤ q) [] := ⟨fun i j p q h => by simp at h, fun k q h => by simp at h⟩
  have hl := lv_entry ([.ref b]) (n := 4) (Nat.le_of_ble_eq_true rfl)
  rw [lg_entry_eq]
  generalize (lg_sl ([.ref b]) ++ List.replicate (4 - (lg_sl ([.ref b])).length) Slot.unset).toArray = ls at hl ⊢
  have hl : lv_has ls 4 [(0, .ref b)] := hl
  refine va_new (ci := 0) (fs := [.null, .int 0]) (C := RX0) (T := TX0) (N := 2) hx hb hts in_X0 tyX0 tyX0_ok hown (hts _ q4) (hts _ q5) (hts _ q1) hK hP hD hS hA rfl (fun j hj => by rcases (show j = 0 ∨ j = 1 by omega) with rfl | rfl <;> rfl) (Nat.le_of_ble_eq_true rfl) (Nat.le_of_ble_eq_true rfl) dL_law_0 (fun h0 H hP hD hS => ?_)
  have hP : va_P (dC, dI) vwCl [(h0, .inr (0, [.null, .int 0]))] H := hP
  have hD : va_D (fun q : Nat => s.heap.size ≤ q) [(h0, .inr (0, [.null, .int 0]))] := hD
  refine W.widen (k := 1) (n := 2) (Nat.le_refl _) (Nat.le_refl _) ?_
  refine lv_dup hx hb dL_law_3 rfl ?_
  have hPc := hP.sub (ws' := [(h0, .inr (0, [.null, .int 0]))]) [0] rfl
  have hDc := hD.sub (ws' := [(h0, .inr (0, [.null, .int 0]))]) [0] (by decide) rfl
  have hKc := hK.sub (tys' := []) [] rfl
  have hFc := va_free (wc := [(h0, .inr (0, [.null, .int 0]))]) hD hS hA [0] rfl
  refine va_callv (va_runI (As := []) (rest := [.ref h0]) ⟨hx, hb, hml, hown, hts⟩ (met0_init l dC dI h0 H.size) (cwI 0 hts (lw_meth q8) rfl rfl rfl (hts _ q1) (hts _ q6) (hts _ q7) rfl (by decide +kernel) ⟨Nat.le_of_ble_eq_true rfl, Nat.le_of_ble_eq_true rfl⟩) ⟨fun a U g mk q => by obtain ⟨q0, q1, qP, qK, qD⟩ := q; exact ⟨q0, q1, qP, va_K.moved (u := U) (U := U.calling g mk a) (Vm.Alike.refl U.vm) qK, qD⟩, fun U hU hW => ⟨rfl, by rw [hU], by rw [hU]; exact hPc, va_K.moved hW.alike hKc, hDc.weaken (fun _ _ _ _ => trivial)⟩⟩ rfl rfl hl.1 rfl (lv_room (Nat.le_of_ble_eq_true rfl)) dL_law_4 ⟨Nat.le_of_ble_eq_true rfl, Nat.le_of_ble_eq_true rfl⟩) hS (fun q _ h => hFc q h) hFc (fun u t H1 locs ht hvm hw hB hz1 hk1 hS => ?_)
  obtain ⟨d0, r0⟩ := u
  obtain ⟨hP1, hK1, hD1⟩ := hB
  rw [ht] at hP1
  have hK1 := va_K.moved hvm.symm hK1
  obtain ⟨hP, hD⟩ := va_join (wr := []) (w1 := [(h0, .inr (0, [.ref r0, .int (nI 64)])), (r0, .inl (d0, 64, .inl (fun _ => 0)))]) hP hD [0] [] rfl rfl (by decide) (by decide) hk1 hFc hP1 hD1
  have hK := (hK.sub (tys' := []) [] rfl).app hK1
  generalize H1 = H at hP hS ⊢
  have hP : va_P (dC, dI) vwCl [(h0, .inr (0, [.ref r0, .int (nI 64)])), (r0, .inl (d0, 64, .inl (fun _ => 0)))] H := hP
  have hD : va_D (fun q : Nat => s.heap.size ≤ q) [(h0, .inr (0, [.ref r0, .int (nI 64)])), (r0, .inl (d0, 64, .inl (fun _ => 0)))] := hD
  have hK : va_K (dC, dI) vwCl [(d0, .int)] s := hK
  refine W.widen (k := 2) (n := 66) (Nat.le_refl _) (Nat.le_refl _) ?_
  refine lv_astore_n (lv' := [(1, .ref h0), (0, .ref b)]) hx hb dL_law_7 rfl hl (by decide) rfl (fun ls hl => ?_)
  refine va_new (ci := 1) (fs := [.null, .int 0]) (C := RX1) (T := TX1) (N := 2) hx hb hts in_X1 tyX1 tyX1_ok hown (hts _ q58) (hts _ q59) (hts _ q2) hK hP hD hS hA rfl (fun j hj => by rcases (show j = 0 ∨ j = 1 by omega) with rfl | rfl <;> rfl) (Nat.le_of_ble_eq_true rfl) (Nat.le_of_ble_eq_true rfl) dL_law_8 (fun h1 H hP hD hS => ?_)
  have hP : va_P (dC, dI) vwCl [(h0, .inr (0, [.ref r0, .int (nI 64)])), (r0, .inl (d0, 64, .inl (fun _ => 0))), (h1, .inr (1, [.null, .int 0]))] H := hP
  have hD : va_D (fun q : Nat => s.heap.size ≤ q) [(h0, .inr (0, [.ref r0, .int (nI 64)])), (r0, .inl (d0, 64, .inl (fun _ => 0))), (h1, .inr (1, [.null, .int 0]))] := hD
  refine W.widen (k := 3) (n := 68) (Nat.le_refl _) (Nat.le_refl _) ?_
  refine lv_dup hx hb dL_law_11 rfl ?_
  have hPc := hP.sub (ws' := [(h1, .inr (1, [.null, .int 0]))]) [2] rfl
  have hDc := hD.sub (ws' := [(h1, .inr (1, [.null, .int 0]))]) [2] (by decide) rfl
  have hKc := hK.sub (tys' := []) [] rfl
  have hFc := va_free (wc := [(h1, .inr (1, [.null, .int 0]))]) hD hS hA [2] rfl
  refine va_callv (va_runI (As := []) (rest := [.ref h1]) ⟨hx, hb, hml, hown, hts⟩ (met1_init l dC dI h1 H.size) (cwI 0 hts (lw_meth q62) rfl rfl rfl (hts _ q2) (hts _ q60) (hts _ q61) rfl (by decide +kernel) ⟨Nat.le_of_ble_eq_true rfl, Nat.le_of_ble_eq_true rfl⟩) ⟨fun a U g mk q => by obtain ⟨q0, q1, qP, qK, qD⟩ := q; exact ⟨q0, q1, qP, va_K.moved (u := U) (U := U.calling g mk a) (Vm.Alike.refl U.vm) qK, qD⟩, fun U hU hW => ⟨rfl, by rw [hU], by rw [hU]; exact hPc, va_K.moved hW.alike hKc, hDc.weaken (fun _ _ _ _ => trivial)⟩⟩ rfl rfl hl.1 rfl (lv_room (Nat.le_of_ble_eq_true rfl)) dL_law_12 ⟨Nat.le_of_ble_eq_true rfl, Nat.le_of_ble_eq_true rfl⟩) hS (fun q _ h => hFc q h) hFc (fun u t H1 locs ht hvm hw hB hz1 hk1 hS => ?_)
  obtain ⟨d1, r1⟩ := u
  obtain ⟨hP1, hK1, hD1⟩ := hB
  rw [ht] at hP1
  have hK1 := va_K.moved hvm.symm hK1
  obtain ⟨hP, hD⟩ := va_join (wr := [(h0, .inr (0, [.ref r0, .int (nI 64)])), (r0, .inl (d0, 64, .inl (fun _ => 0)))]) (w1 := [(h1, .inr (1, [.ref r1, .int (nI 64)])), (r1, .inl (d1, 64, .inl (fun _ => 0)))]) hP hD [2] [0, 1] rfl rfl (by decide) (by decide) hk1 hFc hP1 hD1
  have hK := (hK.sub (tys' := [(d0, .int)]) [0] rfl).app hK1
  generalize H1 = H at hP hS ⊢
  have hP : va_P (dC, dI) vwCl [(h0, .inr (0, [.ref r0, .int (nI 64)])), (r0, .inl (d0, 64, .inl (fun _ => 0))), (h1, .inr (1, [.ref r1, .int (nI 64)])), (r1, .inl (d1, 64, .inl (fun _ => 0)))] H := hP
  have hD : va_D (fun q : Nat => s.heap.size ≤ q) [(h0, .inr (0, [.ref r0, .int (nI 64)])), (r0, .inl (d0, 64, .inl (fun _ => 0))), (h1, .inr (1, [.ref r1, .int (nI 64)])), (r1, .inl (d1, 64, .inl (fun _ => 0)))] := hD
  have hK : va_K (dC, dI) vwCl [(d0, .int), (d1, .int)] s := hK
  refine W.widen (k := 4) (n := 132) (Nat.le_refl _) (Nat.le_refl _) ?_
  refine lv_astore_n (lv' := [(2, .ref h1), (1, .ref h0), (0, .ref b)]) hx hb dL_law_15 rfl hl (by decide) rfl (fun ls hl => ?_)
  refine lv_iconst (v := 0) hx hb dL_law_16 (by decide) ?_
  refine lv_istore_n (lv' := [(3, .int 0), (2, .ref h1), (1, .ref h0), (0, .ref b)]) hx hb dL_law_17 rfl hl (by decide) rfl (fun ls hl => ?_)
  exact la_loop hL C0 (L + 1) 0 64 (fun _ => 0) (Nat.zero_le L) (by omega) (by decide) (by decide) (fun _ => Int32.le_refl _) H locs ls hK hP hD hS (lv_sub hl [3, 2, 1, 0] rfl)
set_option maxHeartbeats 4000000 in
theorem lw_walk (l : Launch) (hflags : l.flags = flags0) (b : Addr) (xs : List Int32) : MetFree l x (headSpec (Jvm.Cond.code x code maxLocals ret :: tables_1) room_1) (lw_P b xs) (fun _ _ _ _ _ => True) lw_Q := by
  refine MetFree.of_bodyS (code := code) (maxLocals := maxLocals) (ret := ret) (by decide) ?_ ?_
  · intro args s m h hn
    obtain ⟨meth, c, h1, h2, h3, h4, h5, h6, -, -⟩ := Cond.code_spec hn (atoms_spec (ws := Jvm.Cond.code x code maxLocals ret :: tables_1) h _ List.mem_cons_self)
    exact ⟨meth, c, h1, h2, h3, h4, h5, h6⟩
  · intro p e s m args below meth c s₁ B hml0 hP _
    obtain ⟨rfl, hx, hbd, hgv⟩ := hP
    obtain ⟨scr, harrAt, hlist, hof, hsmall⟩ := hx
    obtain ⟨hcb, hkn, -, -⟩ := State.arrayAt?_spec harrAt
    have hown : s.vm.findClass R_law = some m.cls := findClass_of_methodNamed B.named
    have hts0 : ∀ c ∈ (Jvm.Cond.code x code maxLocals ret :: tables_1), c.before #[Value.ref b] s = true := atoms_spec (ws := Jvm.Cond.code x code maxLocals ret :: tables_1) B.pre
    have hts : ∀ w ∈ lw_tbl, w.before #[Value.ref b] s = true := k2_hts_sels lw_privs (fun w hw => hts0 w (List.mem_cons_of_mem _ hw)) lw_privs_ok
    have hml : c.maxLocals = 4 := B.maxLocals_eq (hts0 _ List.mem_cons_self)
    have X₀ : Stand p l e room_1 s m #[Value.ref b] below meth c s₁ [] 0 0 := Stand.of_body B
    have hh0 : s₁.heap = s.heap := by rw [B.state]; rfl
    have hsz : scr.slots.size = xs.length := by rw [← Array.length_toList, hlist, List.length_map]
    have hval : ∀ j : Nat, j < xs.length → scr.slots[j]? = some (.int (xs.getD j 0)) := fun j hj => by
      rw [← Array.getElem?_toList, hlist]
      simp [hj]
    have hbl : b < s.heap.size := (Array.getElem?_eq_some_iff.mp hcb).1
    have hX : va_X b xs.length (fun j => xs.getD j 0) s s.heap := ⟨scr, hcb, hof, hkn, hsz, hval⟩
    have K : W p l e room_1 s m #[Value.ref b] below meth c s₁.heap [] 0 0 (lw_Z below #[Value.ref b] s) (entryFrame m ([Value.ref b] : List Value).toArray 4) := by
      rw [hh0]
      exact whole_start l hflags hbd ⟨B.exec, B.bytes, B.returns, hml, hown, hts, hX, hbl, B.notSynchronized, hgv⟩
    obtain ⟨t, a1, o, b1, b2, b3⟩ := K s₁ rfl X₀
    exact ⟨t, o, a1, b1, b2, b3⟩
theorem lw_pre_spec {args : Array Value} {s : State} (h : (Jvm.Cond.and given_1 narrow_1).before args s = true) (hr : rest_1_c.before args s = true) : ∃ (b : Addr) (xs : List Int32), lw_P b xs args s := by
  have hs := flat_of_before _ h
  have hq := flat_of_before _ hr
  have hc : (Cond.count 1).before args s = true := hs _ (by decide +kernel)
  have harr : (Cond.arrayOf (.arg 0) .int).before args s = true := hs _ (by decide +kernel)
  have hle : (Cond.le (.length (.arg 0)) (.int 288)).before args s = true := hs _ (by decide +kernel)
  have hlen : (Cond.isInt (.length (.arg 0))).before args s = true := hq _ (by decide +kernel)
  have hall : (Cond.all (.arg 0) (.isInt (.elem (.arg 0) (.index 0)))).before args s = true := hq _ (by decide +kernel)
  obtain ⟨b, xs, hb, hx⟩ := State.ints_of_pre rfl harr hlen hall
  have hsm : xs.length < 2 ^ 31 := hx.choose_spec.2.2.2
  have hev : (Term.length (.arg 0)).eval args s none [] s = some (.int xs.length.toInt32) := hx.length_eval hb
  have hv := Cond.le_ints hev (show (Term.int 288).eval args s none [] s = some (.int 288) from rfl)
  have hd : xs.length.toInt32 ≤ 288 := by
    simpa [Cond.before, Cond.holds, hv] using hle
  have hN : xs.length ≤ 288 := (Int32.ofNat_le_ofNat hsm (by decide)).mp (show Int32.ofNat xs.length ≤ Int32.ofNat 288 from hd)
  exact ⟨b, xs, Cond.one_arg hc (show args[0]? = some (.ref b) from hb), hx, hN, h⟩
theorem lw_comes (l : Launch) (hflags : l.flags = flags0) : Comes l x (Jvm.Cond.code x code maxLocals ret :: tables_1) room_1 (fun tb e args s => Calls_1 tb e args s ∧ rest_1 tb e args s ∧ Pre_1 tb e args s)
    (fun _ _ args s o t => lw_Q args s o t) := by
  intro p e ha hc hk s m args below hf hfit hheap happ hpre
  obtain ⟨b, xs, hP⟩ := lw_pre_spec hpre.2.2 hpre.2.1
  obtain ⟨k, o, h1, h2, h3, hQ⟩ := lw_walk l hflags b xs p e ha hc hk s m args below hf ((Spec.applies_iff_loose hf).mp happ).1 hP trivial
  exact ⟨k, o, h1, h2, h3, hQ⟩
theorem lw_frame {s t : State} {o : Outcome} {args : Array Value} (h : Framed s o t [] 600000 7290000) :
    Framed s o t (fieldLocs frame_1_writes args s ++ arrayLocs frame_1_arrays args s ++ staticLocs frame_1_statics s) 600000 7290000 := h
theorem lw_limb (L : Cond) (hL : ∀ (args : Array Value) (s t : State), L.after args s (.returned (some (.int 1))) t = true) :
    ArmFor flags0 classFile x code maxLocals ret World_1 tables_1 room_1 Calls_1 rest_1 Pre_1
      (fun tb e a s o t => postC L tb e a s o t ∧ Framed s o t (fieldLocs frame_1_writes a s ++ arrayLocs frame_1_arrays a s ++ staticLocs frame_1_statics s) 600000 7290000) := by
  intro l hflags _ _ p e ha hc hk s m args below hf hfit hheap happ hpre
  obtain ⟨k, o, h1, h2, h3, rfl, hF⟩ := lw_comes l hflags p e ha hc hk s m args below hf hfit hheap happ hpre
  exact ⟨k, _, h1, h2, h3, hL args s _, lw_frame hF⟩
theorem i_vc : Claimed_1_1 ∧ Claimed_1_2 := ⟨lw_limb limb_1_1 (fun args s t => by simp [limb_1_1, Cond.after, Cond.holds, Cond.value]), lw_limb limb_1_2 (fun args s t => Cond.after_iff.mpr (by
  first | (rw [show limb_1_2 = Cond.eq .result (.int 1) from rfl, Cond.eq_ints (x := 1) (y := 1) rfl rfl]; simp; done) | (simp [limb_1_2, Cond.value, Term.eval]; done)))⟩
end
