section
-- ===== PART A: goes FIRST, ahead of the names: the tables' words, and 'selects' of the private methods out of them =====
/-- a private method of a class that the tables say can be made, by its rows of tables_1 -/
def lw_okq (q : MethodName × Nat) : Prop := (q.1.cls ≠ "java/lang/invoke/MethodHandle" ∧ q.1.cls ≠ "java/lang/invoke/VarHandle") ∧ Cond.instantiable q.1.cls q.2 ∈ tables_1 ∧ Cond.privateMethod q.1 ∈ tables_1 ∧ Cond.instanceMethod q.1 ∈ tables_1
set_option maxRecDepth 100000
theorem lw_p0 : lw_okq (⟨"java/lang/Throwable", "fillInStackTrace", "(I)Ljava/lang/Throwable;"⟩, 6) := ⟨⟨by decide +kernel, by decide +kernel⟩, List.mem_of_getElem? (i := 72) rfl, List.mem_of_getElem? (i := 70) rfl, List.mem_of_getElem? (i := 71) rfl⟩
def lw_privs_1 : List (MethodName × Nat) := [(⟨"java/lang/Throwable", "fillInStackTrace", "(I)Ljava/lang/Throwable;"⟩, 6)]
theorem lw_r1 : ∀ q ∈ lw_privs_1, lw_okq q := List.forall_mem_cons.mpr ⟨lw_p0, fun _ h => absurd h List.not_mem_nil⟩
def lw_privs : List (MethodName × Nat) := lw_privs_1
def lw_tbl : List Cond := k2_sels lw_privs ++ tables_1
theorem lw_privs_ok : ∀ q ∈ lw_privs, lw_okq q := lw_r1
-- ===== ONE list of words for every method: the tables' words that hold all through a run =====
def lw_all : List Cond := lw_tbl.filter goodWord
/-- a word of the tables by its place: claim/WORDS.tsv -/
theorem lw_w {w : Cond} (i : Nat) (h : lw_tbl[i]? = some w) (g : goodWord w = true) : w ∈ lw_all := List.mem_filter.mpr ⟨List.mem_of_getElem? h, g⟩
theorem lw_all_tbl {w : Cond} (h : w ∈ lw_all) : w ∈ lw_tbl := (List.mem_filter.mp h).1
theorem lw_self : GoodIn lw_all lw_all := fun w h => ⟨h, good_of_word (List.mem_filter.mp h).2⟩
/-- a class's field words, by their places -/
theorem lw_in (ws : List Cond) (ps : List Nat) (hp : ws = ps.filterMap (fun i => lw_tbl[i]?)) (hg : ws.all goodWord = true) : ∀ w ∈ ws, w ∈ lw_all := by
  intro w h
  have h1 := List.all_eq_true.mp hg w h
  rw [hp] at h
  obtain ⟨i, -, hi⟩ := List.mem_filterMap.mp h
  exact lw_w i hi h1
/-- the words of a contract for the method y with code b, L locals, answer r -/
abbrev ws_ (y : MethodName) (b : ByteArray) (L : Nat) (r : Option FieldType) : List Cond := Cond.code y b L r :: lw_all
theorem lw_meth {y : MethodName} {b : ByteArray} {L : Nat} {r : Option FieldType} (h : Cond.code y b L r ∈ lw_all) : GoodIn lw_all (ws_ y b L r) := by
  intro w hw
  rcases List.mem_cons.mp hw with e | e
  · rw [e]
    exact lw_self _ h
  · exact lw_self _ e
theorem lw_app {a c : List Cond} (ha : ∀ w ∈ a, w ∈ lw_all) (hc : GoodIn lw_all c) : GoodIn lw_all (a ++ c) := by
  intro w hw
  rcases List.mem_append.mp hw with e | e
  · exact lw_self w (ha w e)
  · exact hc w e
/-- what a call through an object asks: cwV n hts (lw_V ..) -/
theorem lw_V {own : String} {idx : Nat} {C : String} {y : MethodName} {b : ByteArray} {L : Nat} {r : Option FieldType} (h1 : Cond.methodLink own idx y ∈ lw_all) (h2 : Cond.instanceMethod y ∈ lw_all) (h3 : Cond.selects C y y ∈ lw_all) (h4 : Cond.initialized C ∈ lw_all) (h5 : Cond.code y b L r ∈ lw_all) : GoodIn lw_all (wsV own idx C y (ws_ y b L r)) := by
  refine lw_app ?_ (lw_meth h5)
  intro w hw
  simp only [List.mem_cons, List.not_mem_nil, or_false] at hw
  rcases hw with e | e | e | e
  · rw [e]; exact h1
  · rw [e]; exact h2
  · rw [e]; exact h3
  · rw [e]; exact h4
/-- what a static call asks: va_cwS n hts (lw_S ..) -/
theorem lw_S {own : String} {idx : Nat} {y : MethodName} {b : ByteArray} {L : Nat} {r : Option FieldType} (h1 : Cond.methodLink own idx y ∈ lw_all) (h2 : Cond.static y ∈ lw_all) (h3 : Cond.initialized y.cls ∈ lw_all) (h4 : Cond.code y b L r ∈ lw_all) : GoodIn lw_all (va_wsS own idx y (ws_ y b L r)) := by
  refine lw_app ?_ (lw_meth h4)
  intro w hw
  simp only [List.mem_cons, List.not_mem_nil, or_false] at hw
  rcases hw with e | e | e
  · rw [e]; exact h1
  · rw [e]; exact h2
  · rw [e]; exact h3
/-- the words of a contract for a method WITH HANDLERS (hh: its table) -/
abbrev wsW_ (y : MethodName) (b : ByteArray) (L : Nat) (r : Option FieldType) (hh : List (Nat × Nat × Nat × Nat)) : List Cond := Cond.codeWith y b L r hh :: lw_all
theorem lw_methW {y : MethodName} {b : ByteArray} {L : Nat} {r : Option FieldType} {hh : List (Nat × Nat × Nat × Nat)} (h : Cond.codeWith y b L r hh ∈ lw_all) : GoodIn lw_all (wsW_ y b L r hh) := by
  intro w hw
  rcases List.mem_cons.mp hw with e | e
  · rw [e]
    exact lw_self _ h
  · exact lw_self _ e
/-- any list of words by their places (lw_in), good -/
theorem lw_good {ws : List Cond} (h : ∀ w ∈ ws, w ∈ lw_all) : GoodIn lw_all ws := fun w hw => lw_self w (h w hw)
/-- what a call of a method with handlers asks: vx_cwVW n hts (lw_VW ..), vx_cwSW n hts (lw_SW ..) -/
theorem lw_VW {own : String} {idx : Nat} {C : String} {y : MethodName} {b : ByteArray} {L : Nat} {r : Option FieldType} {hh : List (Nat × Nat × Nat × Nat)} (h1 : Cond.methodLink own idx y ∈ lw_all) (h2 : Cond.instanceMethod y ∈ lw_all) (h3 : Cond.selects C y y ∈ lw_all) (h4 : Cond.initialized C ∈ lw_all) (h5 : Cond.codeWith y b L r hh ∈ lw_all) : GoodIn lw_all (wsV own idx C y (wsW_ y b L r hh)) := by
  refine lw_app ?_ (lw_methW h5)
  intro w hw
  simp only [List.mem_cons, List.not_mem_nil, or_false] at hw
  rcases hw with e | e | e | e
  · rw [e]; exact h1
  · rw [e]; exact h2
  · rw [e]; exact h3
  · rw [e]; exact h4
theorem lw_SW {own : String} {idx : Nat} {y : MethodName} {b : ByteArray} {L : Nat} {r : Option FieldType} {hh : List (Nat × Nat × Nat × Nat)} (h1 : Cond.methodLink own idx y ∈ lw_all) (h2 : Cond.static y ∈ lw_all) (h3 : Cond.initialized y.cls ∈ lw_all) (h4 : Cond.codeWith y b L r hh ∈ lw_all) : GoodIn lw_all (va_wsS own idx y (wsW_ y b L r hh)) := by
  refine lw_app ?_ (lw_methW h4)
  intro w hw
  simp only [List.mem_cons, List.not_mem_nil, or_false] at hw
  rcases hw with e | e | e
  · rw [e]; exact h1
  · rw [e]; exact h2
  · rw [e]; exact h3
/-- a word by its place in its run of the tables -/
theorem lw_at {r : List Cond} (hr : ∀ w ∈ r, w ∈ lw_tbl) {w : Cond} (i : Nat) (h : r[i]? = some w) : w ∈ lw_tbl := hr w (List.mem_of_getElem? h)
theorem lw_g {w : Cond} (h : w ∈ lw_tbl) (g : goodWord w = true) : w ∈ lw_all := List.mem_filter.mpr ⟨h, g⟩
theorem lw_ms : ∀ w ∈ k2_sels lw_privs, w ∈ lw_tbl := fun w h => show w ∈ k2_sels lw_privs ++ tables_1 from List.mem_append_left _ h
theorem lw_m0 : ∀ w ∈ tables_1, w ∈ lw_tbl := fun w h => show w ∈ k2_sels lw_privs ++ tables_1 from List.mem_append_right (k2_sels lw_privs) h
theorem qs0 : (Cond.selects "java/lang/Throwable" ⟨"java/lang/Throwable", "fillInStackTrace", "(I)Ljava/lang/Throwable;"⟩ ⟨"java/lang/Throwable", "fillInStackTrace", "(I)Ljava/lang/Throwable;"⟩) ∈ lw_all := lw_g (lw_at lw_ms 0 rfl) rfl
/-! DECODE ROWS BY BYTES: one lemma an opcode; a method's code is cut into short pieces once, and a row reads its own piece alone. -/
set_option maxRecDepth 100000
/-- the code has just these bytes from pc on -/
def DkAt (code : ByteArray) (pc : Nat) (bs : List UInt8) : Prop := ∀ (j : Nat) (b : UInt8), bs[j]? = some b → code.data.toList[pc + j]? = some b
/-- the piece W has the bytes bs from its place j on -/
def dkIn (W : List UInt8) (j : Nat) (bs : List UInt8) : Bool := decide ((W.drop j).take bs.length = bs)
theorem dk_seg {l W T : List UInt8} {o o2 : Nat} (h : l.drop o = W ++ T) (n : Nat) (hn : W.length = n) (ho : o + n = o2) : l.drop o2 = T := by
  subst ho
  rw [← List.drop_drop, h, List.drop_left' hn]
theorem dk_at {code : ByteArray} {W T bs : List UInt8} {o pc : Nat} (h : code.data.toList.drop o = W ++ T) (j : Nat) (hp : o + j = pc) (hw : dkIn W j bs = true) : DkAt code pc bs := by
  subst hp
  intro i b e
  have h1 := of_decide_eq_true hw
  have h2 : i < bs.length := (List.getElem?_eq_some_iff.mp e).1
  have h3 : W[j + i]? = some b := by
    rw [← h1, List.getElem?_take, if_pos h2, List.getElem?_drop] at e
    exact e
  have h4 : j + i < W.length := (List.getElem?_eq_some_iff.mp h3).1
  have h5 : (code.data.toList.drop o)[j + i]? = some b := by
    rw [h, List.getElem?_append_left h4]
    exact h3
  rw [List.getElem?_drop, ← Nat.add_assoc] at h5
  exact h5
theorem dk_u1 {A : ByteArray} {p : Nat} {b : UInt8} (h : A.data.toList[p]? = some b) : (Reader.u1 : Reader DecodeError Nat) A p = .ok (b.toNat, p + 1) := by
  obtain ⟨h1, h2⟩ := List.getElem?_eq_some_iff.mp h
  have h3 : p < A.size := by simpa using h1
  have h4 : A[p]'h3 = b := h2
  have e : (Reader.u1 : Reader DecodeError Nat) A p = (if h : p < A.size then .ok (A[p].toNat, p + 1) else .error (HasTruncated.truncated p)) := by
    show (do if h : p < A.size then do set (p + 1); Pure.pure A[p].toNat else MonadExcept.throw (HasTruncated.truncated p) : Reader DecodeError Nat) A p = _
    by_cases hi : p < A.size
    · rw [dif_pos hi, dif_pos hi]; rfl
    · rw [dif_neg hi, dif_neg hi]; rfl
  rw [e, dif_pos h3, h4]
theorem dk_bind {α β : Type} {r : Reader DecodeError α} {f : α → Reader DecodeError β} {A : ByteArray} {p s : Nat} {a : α} (h : r A p = .ok (a, s)) : (r >>= f) A p = f a A s := by
  show (do let (a, s) ← r A p; f a A s : Except DecodeError (β × Nat)) = _
  rw [h]
  rfl
theorem dk_map {α β : Type} {r : Reader DecodeError α} {g : α → β} {A : ByteArray} {p s : Nat} {a : α} (h : r A p = .ok (a, s)) : (g <$> r) A p = .ok (g a, s) := by
  show (do let (a, s) ← r A p; .ok (g a, s) : Except DecodeError (β × Nat)) = _
  rw [h]
  rfl
theorem dk_u2 {A : ByteArray} {p : Nat} {a b : UInt8} (h : A.data.toList[p]? = some a) (h2 : A.data.toList[p + 1]? = some b) : (Reader.u2 : Reader DecodeError Nat) A p = .ok (a.toNat * 256 + b.toNat, p + 2) := by
  show (Reader.u1 >>= fun hi => Reader.u1 >>= fun lo => Pure.pure (hi * 256 + lo) : Reader DecodeError Nat) A p = _
  rw [dk_bind (dk_u1 h), dk_bind (dk_u1 h2)]
  rfl
theorem dk_of {code : ByteArray} {pc n : Nat} {i : Instr} (h : Decoder.instr pc code pc = .ok (i, pc + n)) : decode code pc = .ok (i, n) := by
  have e : decode code pc = (match Decoder.instr pc code pc with | .error x => .error x | .ok (j, s) => .ok (j, s - pc)) := by
    show (do let (j, s) ← Decoder.instr pc code pc; Pure.pure (j, s - pc) : Except DecodeError (Instr × Nat)) = _
    cases Decoder.instr pc code pc <;> rfl
  rw [e, h]
  show Except.ok (i, pc + n - pc) = _
  rw [Nat.add_sub_cancel_left]
theorem dk_3 {code : ByteArray} {pc : Nat} (h : DkAt code pc [3]) : decode code pc = .ok (.iconst 0, 1) := dk_of ((dk_bind (dk_u1 (h 0 _ rfl))).trans rfl)
theorem dk_4 {code : ByteArray} {pc : Nat} (h : DkAt code pc [4]) : decode code pc = .ok (.iconst 1, 1) := dk_of ((dk_bind (dk_u1 (h 0 _ rfl))).trans rfl)
theorem dk_5 {code : ByteArray} {pc : Nat} (h : DkAt code pc [5]) : decode code pc = .ok (.iconst 2, 1) := dk_of ((dk_bind (dk_u1 (h 0 _ rfl))).trans rfl)
theorem dk_7 {code : ByteArray} {pc : Nat} (h : DkAt code pc [7]) : decode code pc = .ok (.iconst 4, 1) := dk_of ((dk_bind (dk_u1 (h 0 _ rfl))).trans rfl)
theorem dk_16 {code : ByteArray} {pc : Nat} (a : UInt8) (h : DkAt code pc [16, a]) : decode code pc = .ok (.bipush (Reader.signed 8 a.toNat), 2) := dk_of ((dk_bind (dk_u1 (h 0 _ rfl))).trans ((dk_bind (dk_map (dk_u1 (h 1 _ rfl)))).trans rfl))
theorem dk_17 {code : ByteArray} {pc : Nat} (a b : UInt8) (h : DkAt code pc [17, a, b]) : decode code pc = .ok (.sipush (Reader.signed 16 (a.toNat * 256 + b.toNat)), 3) := dk_of ((dk_bind (dk_u1 (h 0 _ rfl))).trans ((dk_bind (dk_map (dk_u2 (h 1 _ rfl) (h 2 _ rfl)))).trans rfl))
theorem dk_18 {code : ByteArray} {pc : Nat} (a : UInt8) (h : DkAt code pc [18, a]) : decode code pc = .ok (.ldc a.toNat, 2) := dk_of ((dk_bind (dk_u1 (h 0 _ rfl))).trans ((dk_bind (dk_u1 (h 1 _ rfl))).trans rfl))
theorem dk_19 {code : ByteArray} {pc : Nat} (a b : UInt8) (h : DkAt code pc [19, a, b]) : decode code pc = .ok (.ldc_w (a.toNat * 256 + b.toNat), 3) := dk_of ((dk_bind (dk_u1 (h 0 _ rfl))).trans ((dk_bind (dk_u2 (h 1 _ rfl) (h 2 _ rfl))).trans rfl))
theorem dk_21 {code : ByteArray} {pc : Nat} (a : UInt8) (h : DkAt code pc [21, a]) : decode code pc = .ok (.iload a.toNat, 2) := dk_of ((dk_bind (dk_u1 (h 0 _ rfl))).trans ((dk_bind (dk_u1 (h 1 _ rfl))).trans rfl))
theorem dk_26 {code : ByteArray} {pc : Nat} (h : DkAt code pc [26]) : decode code pc = .ok (.iload_n 0, 1) := dk_of ((dk_bind (dk_u1 (h 0 _ rfl))).trans rfl)
theorem dk_27 {code : ByteArray} {pc : Nat} (h : DkAt code pc [27]) : decode code pc = .ok (.iload_n 1, 1) := dk_of ((dk_bind (dk_u1 (h 0 _ rfl))).trans rfl)
theorem dk_28 {code : ByteArray} {pc : Nat} (h : DkAt code pc [28]) : decode code pc = .ok (.iload_n 2, 1) := dk_of ((dk_bind (dk_u1 (h 0 _ rfl))).trans rfl)
theorem dk_29 {code : ByteArray} {pc : Nat} (h : DkAt code pc [29]) : decode code pc = .ok (.iload_n 3, 1) := dk_of ((dk_bind (dk_u1 (h 0 _ rfl))).trans rfl)
theorem dk_42 {code : ByteArray} {pc : Nat} (h : DkAt code pc [42]) : decode code pc = .ok (.aload_n 0, 1) := dk_of ((dk_bind (dk_u1 (h 0 _ rfl))).trans rfl)
theorem dk_43 {code : ByteArray} {pc : Nat} (h : DkAt code pc [43]) : decode code pc = .ok (.aload_n 1, 1) := dk_of ((dk_bind (dk_u1 (h 0 _ rfl))).trans rfl)
theorem dk_46 {code : ByteArray} {pc : Nat} (h : DkAt code pc [46]) : decode code pc = .ok (.iaload, 1) := dk_of ((dk_bind (dk_u1 (h 0 _ rfl))).trans rfl)
theorem dk_54 {code : ByteArray} {pc : Nat} (a : UInt8) (h : DkAt code pc [54, a]) : decode code pc = .ok (.istore a.toNat, 2) := dk_of ((dk_bind (dk_u1 (h 0 _ rfl))).trans ((dk_bind (dk_u1 (h 1 _ rfl))).trans rfl))
theorem dk_59 {code : ByteArray} {pc : Nat} (h : DkAt code pc [59]) : decode code pc = .ok (.istore_n 0, 1) := dk_of ((dk_bind (dk_u1 (h 0 _ rfl))).trans rfl)
theorem dk_60 {code : ByteArray} {pc : Nat} (h : DkAt code pc [60]) : decode code pc = .ok (.istore_n 1, 1) := dk_of ((dk_bind (dk_u1 (h 0 _ rfl))).trans rfl)
theorem dk_61 {code : ByteArray} {pc : Nat} (h : DkAt code pc [61]) : decode code pc = .ok (.istore_n 2, 1) := dk_of ((dk_bind (dk_u1 (h 0 _ rfl))).trans rfl)
theorem dk_62 {code : ByteArray} {pc : Nat} (h : DkAt code pc [62]) : decode code pc = .ok (.istore_n 3, 1) := dk_of ((dk_bind (dk_u1 (h 0 _ rfl))).trans rfl)
theorem dk_76 {code : ByteArray} {pc : Nat} (h : DkAt code pc [76]) : decode code pc = .ok (.astore_n 1, 1) := dk_of ((dk_bind (dk_u1 (h 0 _ rfl))).trans rfl)
theorem dk_87 {code : ByteArray} {pc : Nat} (h : DkAt code pc [87]) : decode code pc = .ok (.pop, 1) := dk_of ((dk_bind (dk_u1 (h 0 _ rfl))).trans rfl)
theorem dk_89 {code : ByteArray} {pc : Nat} (h : DkAt code pc [89]) : decode code pc = .ok (.dup, 1) := dk_of ((dk_bind (dk_u1 (h 0 _ rfl))).trans rfl)
theorem dk_96 {code : ByteArray} {pc : Nat} (h : DkAt code pc [96]) : decode code pc = .ok (.iadd, 1) := dk_of ((dk_bind (dk_u1 (h 0 _ rfl))).trans rfl)
theorem dk_100 {code : ByteArray} {pc : Nat} (h : DkAt code pc [100]) : decode code pc = .ok (.isub, 1) := dk_of ((dk_bind (dk_u1 (h 0 _ rfl))).trans rfl)
theorem dk_112 {code : ByteArray} {pc : Nat} (h : DkAt code pc [112]) : decode code pc = .ok (.irem, 1) := dk_of ((dk_bind (dk_u1 (h 0 _ rfl))).trans rfl)
theorem dk_120 {code : ByteArray} {pc : Nat} (h : DkAt code pc [120]) : decode code pc = .ok (.ishl, 1) := dk_of ((dk_bind (dk_u1 (h 0 _ rfl))).trans rfl)
theorem dk_124 {code : ByteArray} {pc : Nat} (h : DkAt code pc [124]) : decode code pc = .ok (.iushr, 1) := dk_of ((dk_bind (dk_u1 (h 0 _ rfl))).trans rfl)
theorem dk_126 {code : ByteArray} {pc : Nat} (h : DkAt code pc [126]) : decode code pc = .ok (.iand, 1) := dk_of ((dk_bind (dk_u1 (h 0 _ rfl))).trans rfl)
theorem dk_128 {code : ByteArray} {pc : Nat} (h : DkAt code pc [128]) : decode code pc = .ok (.ior, 1) := dk_of ((dk_bind (dk_u1 (h 0 _ rfl))).trans rfl)
theorem dk_130 {code : ByteArray} {pc : Nat} (h : DkAt code pc [130]) : decode code pc = .ok (.ixor, 1) := dk_of ((dk_bind (dk_u1 (h 0 _ rfl))).trans rfl)
theorem dk_132 {code : ByteArray} {pc : Nat} (a b : UInt8) (h : DkAt code pc [132, a, b]) : decode code pc = .ok (.iinc a.toNat (Reader.signed 8 b.toNat), 3) := dk_of ((dk_bind (dk_u1 (h 0 _ rfl))).trans ((dk_bind (dk_u1 (h 1 _ rfl))).trans ((dk_bind (dk_map (dk_u1 (h 2 _ rfl)))).trans rfl)))
theorem dk_153 {code : ByteArray} {pc : Nat} (a b : UInt8) (h : DkAt code pc [153, a, b]) : decode code pc = .ok (.ifCond .eq (Reader.signed 16 (a.toNat * 256 + b.toNat)), 3) := dk_of ((dk_bind (dk_u1 (h 0 _ rfl))).trans ((dk_bind (dk_map (dk_u2 (h 1 _ rfl) (h 2 _ rfl)))).trans rfl))
theorem dk_154 {code : ByteArray} {pc : Nat} (a b : UInt8) (h : DkAt code pc [154, a, b]) : decode code pc = .ok (.ifCond .ne (Reader.signed 16 (a.toNat * 256 + b.toNat)), 3) := dk_of ((dk_bind (dk_u1 (h 0 _ rfl))).trans ((dk_bind (dk_map (dk_u2 (h 1 _ rfl) (h 2 _ rfl)))).trans rfl))
theorem dk_155 {code : ByteArray} {pc : Nat} (a b : UInt8) (h : DkAt code pc [155, a, b]) : decode code pc = .ok (.ifCond .lt (Reader.signed 16 (a.toNat * 256 + b.toNat)), 3) := dk_of ((dk_bind (dk_u1 (h 0 _ rfl))).trans ((dk_bind (dk_map (dk_u2 (h 1 _ rfl) (h 2 _ rfl)))).trans rfl))
theorem dk_157 {code : ByteArray} {pc : Nat} (a b : UInt8) (h : DkAt code pc [157, a, b]) : decode code pc = .ok (.ifCond .gt (Reader.signed 16 (a.toNat * 256 + b.toNat)), 3) := dk_of ((dk_bind (dk_u1 (h 0 _ rfl))).trans ((dk_bind (dk_map (dk_u2 (h 1 _ rfl) (h 2 _ rfl)))).trans rfl))
theorem dk_159 {code : ByteArray} {pc : Nat} (a b : UInt8) (h : DkAt code pc [159, a, b]) : decode code pc = .ok (.if_icmp .eq (Reader.signed 16 (a.toNat * 256 + b.toNat)), 3) := dk_of ((dk_bind (dk_u1 (h 0 _ rfl))).trans ((dk_bind (dk_map (dk_u2 (h 1 _ rfl) (h 2 _ rfl)))).trans rfl))
theorem dk_160 {code : ByteArray} {pc : Nat} (a b : UInt8) (h : DkAt code pc [160, a, b]) : decode code pc = .ok (.if_icmp .ne (Reader.signed 16 (a.toNat * 256 + b.toNat)), 3) := dk_of ((dk_bind (dk_u1 (h 0 _ rfl))).trans ((dk_bind (dk_map (dk_u2 (h 1 _ rfl) (h 2 _ rfl)))).trans rfl))
theorem dk_161 {code : ByteArray} {pc : Nat} (a b : UInt8) (h : DkAt code pc [161, a, b]) : decode code pc = .ok (.if_icmp .lt (Reader.signed 16 (a.toNat * 256 + b.toNat)), 3) := dk_of ((dk_bind (dk_u1 (h 0 _ rfl))).trans ((dk_bind (dk_map (dk_u2 (h 1 _ rfl) (h 2 _ rfl)))).trans rfl))
theorem dk_162 {code : ByteArray} {pc : Nat} (a b : UInt8) (h : DkAt code pc [162, a, b]) : decode code pc = .ok (.if_icmp .ge (Reader.signed 16 (a.toNat * 256 + b.toNat)), 3) := dk_of ((dk_bind (dk_u1 (h 0 _ rfl))).trans ((dk_bind (dk_map (dk_u2 (h 1 _ rfl) (h 2 _ rfl)))).trans rfl))
theorem dk_163 {code : ByteArray} {pc : Nat} (a b : UInt8) (h : DkAt code pc [163, a, b]) : decode code pc = .ok (.if_icmp .gt (Reader.signed 16 (a.toNat * 256 + b.toNat)), 3) := dk_of ((dk_bind (dk_u1 (h 0 _ rfl))).trans ((dk_bind (dk_map (dk_u2 (h 1 _ rfl) (h 2 _ rfl)))).trans rfl))
theorem dk_167 {code : ByteArray} {pc : Nat} (a b : UInt8) (h : DkAt code pc [167, a, b]) : decode code pc = .ok (.goto (Reader.signed 16 (a.toNat * 256 + b.toNat)), 3) := dk_of ((dk_bind (dk_u1 (h 0 _ rfl))).trans ((dk_bind (dk_map (dk_u2 (h 1 _ rfl) (h 2 _ rfl)))).trans rfl))
theorem dk_172 {code : ByteArray} {pc : Nat} (h : DkAt code pc [172]) : decode code pc = .ok (.ireturn, 1) := dk_of ((dk_bind (dk_u1 (h 0 _ rfl))).trans rfl)
theorem dk_177 {code : ByteArray} {pc : Nat} (h : DkAt code pc [177]) : decode code pc = .ok (.return_, 1) := dk_of ((dk_bind (dk_u1 (h 0 _ rfl))).trans rfl)
theorem dk_178 {code : ByteArray} {pc : Nat} (a b : UInt8) (h : DkAt code pc [178, a, b]) : decode code pc = .ok (.getstatic (a.toNat * 256 + b.toNat), 3) := dk_of ((dk_bind (dk_u1 (h 0 _ rfl))).trans ((dk_bind (dk_u2 (h 1 _ rfl) (h 2 _ rfl))).trans rfl))
theorem dk_181 {code : ByteArray} {pc : Nat} (a b : UInt8) (h : DkAt code pc [181, a, b]) : decode code pc = .ok (.putfield (a.toNat * 256 + b.toNat), 3) := dk_of ((dk_bind (dk_u1 (h 0 _ rfl))).trans ((dk_bind (dk_u2 (h 1 _ rfl) (h 2 _ rfl))).trans rfl))
theorem dk_182 {code : ByteArray} {pc : Nat} (a b : UInt8) (h : DkAt code pc [182, a, b]) : decode code pc = .ok (.invokevirtual (a.toNat * 256 + b.toNat), 3) := dk_of ((dk_bind (dk_u1 (h 0 _ rfl))).trans ((dk_bind (dk_u2 (h 1 _ rfl) (h 2 _ rfl))).trans rfl))
theorem dk_183 {code : ByteArray} {pc : Nat} (a b : UInt8) (h : DkAt code pc [183, a, b]) : decode code pc = .ok (.invokespecial (a.toNat * 256 + b.toNat), 3) := dk_of ((dk_bind (dk_u1 (h 0 _ rfl))).trans ((dk_bind (dk_u2 (h 1 _ rfl) (h 2 _ rfl))).trans rfl))
theorem dk_184 {code : ByteArray} {pc : Nat} (a b : UInt8) (h : DkAt code pc [184, a, b]) : decode code pc = .ok (.invokestatic (a.toNat * 256 + b.toNat), 3) := dk_of ((dk_bind (dk_u1 (h 0 _ rfl))).trans ((dk_bind (dk_u2 (h 1 _ rfl) (h 2 _ rfl))).trans rfl))
theorem dk_187 {code : ByteArray} {pc : Nat} (a b : UInt8) (h : DkAt code pc [187, a, b]) : decode code pc = .ok (.new (a.toNat * 256 + b.toNat), 3) := dk_of ((dk_bind (dk_u1 (h 0 _ rfl))).trans ((dk_bind (dk_u2 (h 1 _ rfl) (h 2 _ rfl))).trans rfl))
theorem dk_190 {code : ByteArray} {pc : Nat} (h : DkAt code pc [190]) : decode code pc = .ok (.arraylength, 1) := dk_of ((dk_bind (dk_u1 (h 0 _ rfl))).trans rfl)
theorem dk_191 {code : ByteArray} {pc : Nat} (h : DkAt code pc [191]) : decode code pc = .ok (.athrow, 1) := dk_of ((dk_bind (dk_u1 (h 0 _ rfl))).trans rfl)
/-! BchDeskLaw -/
set_option maxRecDepth 100000
def RX0 : String := "BchDeskLaw"
abbrev cX0_cell : ByteArray := method_2_code
def yX0_cell : MethodName := ⟨RX0, "cell", "([II)I"⟩
def dkwX0_cell_0 : List UInt8 := [27, 42, 190, 162, 0, 9, 42, 27, 46, 167, 0, 4, 3, 172]
abbrev dktX0_cell_0 : List UInt8 := dkwX0_cell_0 ++ []
theorem dksX0_cell_0 : cX0_cell.data.toList.drop 0 = dktX0_cell_0 := by decide +kernel
theorem dX0_cell_0 : decode cX0_cell 0 = .ok (.iload_n 1, 1) := dk_27 (dk_at dksX0_cell_0 0 rfl rfl)
theorem dX0_cell_1 : decode cX0_cell 1 = .ok (.aload_n 0, 1) := dk_42 (dk_at dksX0_cell_0 1 rfl rfl)
theorem dX0_cell_2 : decode cX0_cell 2 = .ok (.arraylength, 1) := dk_190 (dk_at dksX0_cell_0 2 rfl rfl)
theorem dX0_cell_3 : decode cX0_cell 3 = .ok (.if_icmp .ge 9, 3) := dk_162 0 9 (dk_at dksX0_cell_0 3 rfl rfl)
theorem dX0_cell_6 : decode cX0_cell 6 = .ok (.aload_n 0, 1) := dk_42 (dk_at dksX0_cell_0 6 rfl rfl)
theorem dX0_cell_7 : decode cX0_cell 7 = .ok (.iload_n 1, 1) := dk_27 (dk_at dksX0_cell_0 7 rfl rfl)
theorem dX0_cell_8 : decode cX0_cell 8 = .ok (.iaload, 1) := dk_46 (dk_at dksX0_cell_0 8 rfl rfl)
theorem dX0_cell_9 : decode cX0_cell 9 = .ok (.goto 4, 3) := dk_167 0 4 (dk_at dksX0_cell_0 9 rfl rfl)
theorem dX0_cell_12 : decode cX0_cell 12 = .ok (.iconst 0, 1) := dk_3 (dk_at dksX0_cell_0 12 rfl rfl)
theorem dX0_cell_13 : decode cX0_cell 13 = .ok (.ireturn, 1) := dk_172 (dk_at dksX0_cell_0 13 rfl rfl)
abbrev cX0_highest : ByteArray := method_3_code
def yX0_highest : MethodName := ⟨RX0, "highest", "(I)I"⟩
def dkwX0_highest_1 : List UInt8 := [167, 0, 4, 27, 60, 132, 2, 1, 167, 255, 230, 27, 172]
abbrev dktX0_highest_1 : List UInt8 := dkwX0_highest_1 ++ []
def dkwX0_highest_0 : List UInt8 := [3, 60, 3, 61, 28, 16, 32, 162, 0, 26, 26, 28, 124, 4, 126, 4, 160, 0, 9, 28, 4, 96]
abbrev dktX0_highest_0 : List UInt8 := dkwX0_highest_0 ++ dktX0_highest_1
theorem dksX0_highest_0 : cX0_highest.data.toList.drop 0 = dktX0_highest_0 := by decide +kernel
theorem dksX0_highest_1 : cX0_highest.data.toList.drop 22 = dktX0_highest_1 := dk_seg dksX0_highest_0 22 rfl rfl
theorem dX0_highest_0 : decode cX0_highest 0 = .ok (.iconst 0, 1) := dk_3 (dk_at dksX0_highest_0 0 rfl rfl)
theorem dX0_highest_1 : decode cX0_highest 1 = .ok (.istore_n 1, 1) := dk_60 (dk_at dksX0_highest_0 1 rfl rfl)
theorem dX0_highest_2 : decode cX0_highest 2 = .ok (.iconst 0, 1) := dk_3 (dk_at dksX0_highest_0 2 rfl rfl)
theorem dX0_highest_3 : decode cX0_highest 3 = .ok (.istore_n 2, 1) := dk_61 (dk_at dksX0_highest_0 3 rfl rfl)
theorem dX0_highest_4 : decode cX0_highest 4 = .ok (.iload_n 2, 1) := dk_28 (dk_at dksX0_highest_0 4 rfl rfl)
theorem dX0_highest_5 : decode cX0_highest 5 = .ok (.bipush 32, 2) := dk_16 32 (dk_at dksX0_highest_0 5 rfl rfl)
theorem dX0_highest_7 : decode cX0_highest 7 = .ok (.if_icmp .ge 26, 3) := dk_162 0 26 (dk_at dksX0_highest_0 7 rfl rfl)
theorem dX0_highest_10 : decode cX0_highest 10 = .ok (.iload_n 0, 1) := dk_26 (dk_at dksX0_highest_0 10 rfl rfl)
theorem dX0_highest_11 : decode cX0_highest 11 = .ok (.iload_n 2, 1) := dk_28 (dk_at dksX0_highest_0 11 rfl rfl)
theorem dX0_highest_12 : decode cX0_highest 12 = .ok (.iushr, 1) := dk_124 (dk_at dksX0_highest_0 12 rfl rfl)
theorem dX0_highest_13 : decode cX0_highest 13 = .ok (.iconst 1, 1) := dk_4 (dk_at dksX0_highest_0 13 rfl rfl)
theorem dX0_highest_14 : decode cX0_highest 14 = .ok (.iand, 1) := dk_126 (dk_at dksX0_highest_0 14 rfl rfl)
theorem dX0_highest_15 : decode cX0_highest 15 = .ok (.iconst 1, 1) := dk_4 (dk_at dksX0_highest_0 15 rfl rfl)
theorem dX0_highest_16 : decode cX0_highest 16 = .ok (.if_icmp .ne 9, 3) := dk_160 0 9 (dk_at dksX0_highest_0 16 rfl rfl)
theorem dX0_highest_19 : decode cX0_highest 19 = .ok (.iload_n 2, 1) := dk_28 (dk_at dksX0_highest_0 19 rfl rfl)
theorem dX0_highest_20 : decode cX0_highest 20 = .ok (.iconst 1, 1) := dk_4 (dk_at dksX0_highest_0 20 rfl rfl)
theorem dX0_highest_21 : decode cX0_highest 21 = .ok (.iadd, 1) := dk_96 (dk_at dksX0_highest_0 21 rfl rfl)
theorem dX0_highest_22 : decode cX0_highest 22 = .ok (.goto 4, 3) := dk_167 0 4 (dk_at dksX0_highest_1 0 rfl rfl)
theorem dX0_highest_25 : decode cX0_highest 25 = .ok (.iload_n 1, 1) := dk_27 (dk_at dksX0_highest_1 3 rfl rfl)
theorem dX0_highest_26 : decode cX0_highest 26 = .ok (.istore_n 1, 1) := dk_60 (dk_at dksX0_highest_1 4 rfl rfl)
theorem dX0_highest_27 : decode cX0_highest 27 = .ok (.iinc 2 1, 3) := dk_132 2 1 (dk_at dksX0_highest_1 5 rfl rfl)
theorem dX0_highest_30 : decode cX0_highest 30 = .ok (.goto (-26), 3) := dk_167 255 230 (dk_at dksX0_highest_1 8 rfl rfl)
theorem dX0_highest_33 : decode cX0_highest 33 = .ok (.iload_n 1, 1) := dk_27 (dk_at dksX0_highest_1 11 rfl rfl)
theorem dX0_highest_34 : decode cX0_highest 34 = .ok (.ireturn, 1) := dk_172 (dk_at dksX0_highest_1 12 rfl rfl)
abbrev cX0_left : ByteArray := method_4_code
def yX0_left : MethodName := ⟨RX0, "left", "(II)I"⟩
def dkwX0_left_2 : List UInt8 := [167, 255, 224, 29, 172]
abbrev dktX0_left_2 : List UInt8 := dkwX0_left_2 ++ []
def dkwX0_left_1 : List UInt8 := [124, 4, 126, 4, 160, 0, 14, 29, 27, 21, 4, 28, 100, 120, 130, 167, 0, 4, 29, 62, 132, 4, 255]
abbrev dktX0_left_1 : List UInt8 := dkwX0_left_1 ++ dktX0_left_2
def dkwX0_left_0 : List UInt8 := [27, 184, 0, 7, 4, 100, 61, 26, 28, 120, 62, 16, 30, 54, 4, 21, 4, 28, 161, 0, 32, 29, 21, 4]
abbrev dktX0_left_0 : List UInt8 := dkwX0_left_0 ++ dktX0_left_1
theorem dksX0_left_0 : cX0_left.data.toList.drop 0 = dktX0_left_0 := by decide +kernel
theorem dksX0_left_1 : cX0_left.data.toList.drop 24 = dktX0_left_1 := dk_seg dksX0_left_0 24 rfl rfl
theorem dksX0_left_2 : cX0_left.data.toList.drop 47 = dktX0_left_2 := dk_seg dksX0_left_1 23 rfl rfl
theorem dX0_left_0 : decode cX0_left 0 = .ok (.iload_n 1, 1) := dk_27 (dk_at dksX0_left_0 0 rfl rfl)
theorem dX0_left_1 : decode cX0_left 1 = .ok (.invokestatic 7, 3) := dk_184 0 7 (dk_at dksX0_left_0 1 rfl rfl)
theorem dX0_left_4 : decode cX0_left 4 = .ok (.iconst 1, 1) := dk_4 (dk_at dksX0_left_0 4 rfl rfl)
theorem dX0_left_5 : decode cX0_left 5 = .ok (.isub, 1) := dk_100 (dk_at dksX0_left_0 5 rfl rfl)
theorem dX0_left_6 : decode cX0_left 6 = .ok (.istore_n 2, 1) := dk_61 (dk_at dksX0_left_0 6 rfl rfl)
theorem dX0_left_7 : decode cX0_left 7 = .ok (.iload_n 0, 1) := dk_26 (dk_at dksX0_left_0 7 rfl rfl)
theorem dX0_left_8 : decode cX0_left 8 = .ok (.iload_n 2, 1) := dk_28 (dk_at dksX0_left_0 8 rfl rfl)
theorem dX0_left_9 : decode cX0_left 9 = .ok (.ishl, 1) := dk_120 (dk_at dksX0_left_0 9 rfl rfl)
theorem dX0_left_10 : decode cX0_left 10 = .ok (.istore_n 3, 1) := dk_62 (dk_at dksX0_left_0 10 rfl rfl)
theorem dX0_left_11 : decode cX0_left 11 = .ok (.bipush 30, 2) := dk_16 30 (dk_at dksX0_left_0 11 rfl rfl)
theorem dX0_left_13 : decode cX0_left 13 = .ok (.istore 4, 2) := dk_54 4 (dk_at dksX0_left_0 13 rfl rfl)
theorem dX0_left_15 : decode cX0_left 15 = .ok (.iload 4, 2) := dk_21 4 (dk_at dksX0_left_0 15 rfl rfl)
theorem dX0_left_17 : decode cX0_left 17 = .ok (.iload_n 2, 1) := dk_28 (dk_at dksX0_left_0 17 rfl rfl)
theorem dX0_left_18 : decode cX0_left 18 = .ok (.if_icmp .lt 32, 3) := dk_161 0 32 (dk_at dksX0_left_0 18 rfl rfl)
theorem dX0_left_21 : decode cX0_left 21 = .ok (.iload_n 3, 1) := dk_29 (dk_at dksX0_left_0 21 rfl rfl)
theorem dX0_left_22 : decode cX0_left 22 = .ok (.iload 4, 2) := dk_21 4 (dk_at dksX0_left_0 22 rfl rfl)
theorem dX0_left_24 : decode cX0_left 24 = .ok (.iushr, 1) := dk_124 (dk_at dksX0_left_1 0 rfl rfl)
theorem dX0_left_25 : decode cX0_left 25 = .ok (.iconst 1, 1) := dk_4 (dk_at dksX0_left_1 1 rfl rfl)
theorem dX0_left_26 : decode cX0_left 26 = .ok (.iand, 1) := dk_126 (dk_at dksX0_left_1 2 rfl rfl)
theorem dX0_left_27 : decode cX0_left 27 = .ok (.iconst 1, 1) := dk_4 (dk_at dksX0_left_1 3 rfl rfl)
theorem dX0_left_28 : decode cX0_left 28 = .ok (.if_icmp .ne 14, 3) := dk_160 0 14 (dk_at dksX0_left_1 4 rfl rfl)
theorem dX0_left_31 : decode cX0_left 31 = .ok (.iload_n 3, 1) := dk_29 (dk_at dksX0_left_1 7 rfl rfl)
theorem dX0_left_32 : decode cX0_left 32 = .ok (.iload_n 1, 1) := dk_27 (dk_at dksX0_left_1 8 rfl rfl)
theorem dX0_left_33 : decode cX0_left 33 = .ok (.iload 4, 2) := dk_21 4 (dk_at dksX0_left_1 9 rfl rfl)
theorem dX0_left_35 : decode cX0_left 35 = .ok (.iload_n 2, 1) := dk_28 (dk_at dksX0_left_1 11 rfl rfl)
theorem dX0_left_36 : decode cX0_left 36 = .ok (.isub, 1) := dk_100 (dk_at dksX0_left_1 12 rfl rfl)
theorem dX0_left_37 : decode cX0_left 37 = .ok (.ishl, 1) := dk_120 (dk_at dksX0_left_1 13 rfl rfl)
theorem dX0_left_38 : decode cX0_left 38 = .ok (.ixor, 1) := dk_130 (dk_at dksX0_left_1 14 rfl rfl)
theorem dX0_left_39 : decode cX0_left 39 = .ok (.goto 4, 3) := dk_167 0 4 (dk_at dksX0_left_1 15 rfl rfl)
theorem dX0_left_42 : decode cX0_left 42 = .ok (.iload_n 3, 1) := dk_29 (dk_at dksX0_left_1 18 rfl rfl)
theorem dX0_left_43 : decode cX0_left 43 = .ok (.istore_n 3, 1) := dk_62 (dk_at dksX0_left_1 19 rfl rfl)
theorem dX0_left_44 : decode cX0_left 44 = .ok (.iinc 4 (-1), 3) := dk_132 4 255 (dk_at dksX0_left_1 20 rfl rfl)
theorem dX0_left_47 : decode cX0_left 47 = .ok (.goto (-32), 3) := dk_167 255 224 (dk_at dksX0_left_2 0 rfl rfl)
theorem dX0_left_50 : decode cX0_left 50 = .ok (.iload_n 3, 1) := dk_29 (dk_at dksX0_left_2 3 rfl rfl)
theorem dX0_left_51 : decode cX0_left 51 = .ok (.ireturn, 1) := dk_172 (dk_at dksX0_left_2 4 rfl rfl)
abbrev cX0_ones : ByteArray := method_5_code
def yX0_ones : MethodName := ⟨RX0, "ones", "(I)I"⟩
def dkwX0_ones_1 : List UInt8 := [27, 172]
abbrev dktX0_ones_1 : List UInt8 := dkwX0_ones_1 ++ []
def dkwX0_ones_0 : List UInt8 := [3, 60, 3, 61, 28, 16, 32, 162, 0, 17, 27, 26, 28, 124, 4, 126, 96, 60, 132, 2, 1, 167, 255, 239]
abbrev dktX0_ones_0 : List UInt8 := dkwX0_ones_0 ++ dktX0_ones_1
theorem dksX0_ones_0 : cX0_ones.data.toList.drop 0 = dktX0_ones_0 := by decide +kernel
theorem dksX0_ones_1 : cX0_ones.data.toList.drop 24 = dktX0_ones_1 := dk_seg dksX0_ones_0 24 rfl rfl
theorem dX0_ones_0 : decode cX0_ones 0 = .ok (.iconst 0, 1) := dk_3 (dk_at dksX0_ones_0 0 rfl rfl)
theorem dX0_ones_1 : decode cX0_ones 1 = .ok (.istore_n 1, 1) := dk_60 (dk_at dksX0_ones_0 1 rfl rfl)
theorem dX0_ones_2 : decode cX0_ones 2 = .ok (.iconst 0, 1) := dk_3 (dk_at dksX0_ones_0 2 rfl rfl)
theorem dX0_ones_3 : decode cX0_ones 3 = .ok (.istore_n 2, 1) := dk_61 (dk_at dksX0_ones_0 3 rfl rfl)
theorem dX0_ones_4 : decode cX0_ones 4 = .ok (.iload_n 2, 1) := dk_28 (dk_at dksX0_ones_0 4 rfl rfl)
theorem dX0_ones_5 : decode cX0_ones 5 = .ok (.bipush 32, 2) := dk_16 32 (dk_at dksX0_ones_0 5 rfl rfl)
theorem dX0_ones_7 : decode cX0_ones 7 = .ok (.if_icmp .ge 17, 3) := dk_162 0 17 (dk_at dksX0_ones_0 7 rfl rfl)
theorem dX0_ones_10 : decode cX0_ones 10 = .ok (.iload_n 1, 1) := dk_27 (dk_at dksX0_ones_0 10 rfl rfl)
theorem dX0_ones_11 : decode cX0_ones 11 = .ok (.iload_n 0, 1) := dk_26 (dk_at dksX0_ones_0 11 rfl rfl)
theorem dX0_ones_12 : decode cX0_ones 12 = .ok (.iload_n 2, 1) := dk_28 (dk_at dksX0_ones_0 12 rfl rfl)
theorem dX0_ones_13 : decode cX0_ones 13 = .ok (.iushr, 1) := dk_124 (dk_at dksX0_ones_0 13 rfl rfl)
theorem dX0_ones_14 : decode cX0_ones 14 = .ok (.iconst 1, 1) := dk_4 (dk_at dksX0_ones_0 14 rfl rfl)
theorem dX0_ones_15 : decode cX0_ones 15 = .ok (.iand, 1) := dk_126 (dk_at dksX0_ones_0 15 rfl rfl)
theorem dX0_ones_16 : decode cX0_ones 16 = .ok (.iadd, 1) := dk_96 (dk_at dksX0_ones_0 16 rfl rfl)
theorem dX0_ones_17 : decode cX0_ones 17 = .ok (.istore_n 1, 1) := dk_60 (dk_at dksX0_ones_0 17 rfl rfl)
theorem dX0_ones_18 : decode cX0_ones 18 = .ok (.iinc 2 1, 3) := dk_132 2 1 (dk_at dksX0_ones_0 18 rfl rfl)
theorem dX0_ones_21 : decode cX0_ones 21 = .ok (.goto (-17), 3) := dk_167 255 239 (dk_at dksX0_ones_0 21 rfl rfl)
theorem dX0_ones_24 : decode cX0_ones 24 = .ok (.iload_n 1, 1) := dk_27 (dk_at dksX0_ones_1 0 rfl rfl)
theorem dX0_ones_25 : decode cX0_ones 25 = .ok (.ireturn, 1) := dk_172 (dk_at dksX0_ones_1 1 rfl rfl)
abbrev cX0_isRest : ByteArray := method_6_code
def yX0_isRest : MethodName := ⟨RX0, "isRest", "(LBchDesk;III)Z"⟩
def dkwX0_isRest_7 : List UInt8 := [3, 172]
abbrev dktX0_isRest_7 : List UInt8 := dkwX0_isRest_7 ++ []
def dkwX0_isRest_6 : List UInt8 := [182, 0, 13, 154, 0, 21, 42, 21, 7, 27, 130, 28, 182, 0, 13, 21, 5, 160, 0, 7, 4, 167, 0, 4]
abbrev dktX0_isRest_6 : List UInt8 := dkwX0_isRest_6 ++ dktX0_isRest_7
def dkwX0_isRest_5 : List UInt8 := [21, 4, 21, 8, 120, 167, 0, 4, 3, 130, 54, 7, 132, 8, 1, 167, 255, 216, 42, 21, 7, 28]
abbrev dktX0_isRest_5 : List UInt8 := dkwX0_isRest_5 ++ dktX0_isRest_6
def dkwX0_isRest_4 : List UInt8 := [16, 16, 21, 4, 184, 0, 7, 100, 162, 0, 33, 21, 7, 29, 21, 8, 124, 4, 126, 4, 160, 0, 11]
abbrev dktX0_isRest_4 : List UInt8 := dkwX0_isRest_4 ++ dktX0_isRest_5
def dkwX0_isRest_3 : List UInt8 := [182, 0, 13, 130, 160, 0, 12, 42, 3, 28, 182, 0, 13, 153, 0, 5, 3, 172, 3, 54, 8, 21, 8]
abbrev dktX0_isRest_3 : List UInt8 := dkwX0_isRest_3 ++ dktX0_isRest_4
def dkwX0_isRest_2 : List UInt8 := [21, 5, 184, 0, 7, 21, 6, 163, 0, 32, 42, 27, 29, 130, 28, 182, 0, 13, 21, 5, 42, 29, 28]
abbrev dktX0_isRest_2 : List UInt8 := dkwX0_isRest_2 ++ dktX0_isRest_3
def dkwX0_isRest_1 : List UInt8 := [54, 6, 3, 54, 7, 21, 5, 27, 18, 19, 126, 21, 4, 184, 0, 20, 160, 0, 47, 21, 5, 155, 0, 42]
abbrev dktX0_isRest_1 : List UInt8 := dkwX0_isRest_1 ++ dktX0_isRest_2
def dkwX0_isRest_0 : List UInt8 := [5, 28, 17, 31, 255, 126, 96, 54, 4, 42, 27, 28, 182, 0, 13, 54, 5, 21, 4, 184, 0, 7, 4, 100]
abbrev dktX0_isRest_0 : List UInt8 := dkwX0_isRest_0 ++ dktX0_isRest_1
theorem dksX0_isRest_0 : cX0_isRest.data.toList.drop 0 = dktX0_isRest_0 := by decide +kernel
theorem dksX0_isRest_1 : cX0_isRest.data.toList.drop 24 = dktX0_isRest_1 := dk_seg dksX0_isRest_0 24 rfl rfl
theorem dksX0_isRest_2 : cX0_isRest.data.toList.drop 48 = dktX0_isRest_2 := dk_seg dksX0_isRest_1 24 rfl rfl
theorem dksX0_isRest_3 : cX0_isRest.data.toList.drop 71 = dktX0_isRest_3 := dk_seg dksX0_isRest_2 23 rfl rfl
theorem dksX0_isRest_4 : cX0_isRest.data.toList.drop 94 = dktX0_isRest_4 := dk_seg dksX0_isRest_3 23 rfl rfl
theorem dksX0_isRest_5 : cX0_isRest.data.toList.drop 117 = dktX0_isRest_5 := dk_seg dksX0_isRest_4 23 rfl rfl
theorem dksX0_isRest_6 : cX0_isRest.data.toList.drop 139 = dktX0_isRest_6 := dk_seg dksX0_isRest_5 22 rfl rfl
theorem dksX0_isRest_7 : cX0_isRest.data.toList.drop 163 = dktX0_isRest_7 := dk_seg dksX0_isRest_6 24 rfl rfl
theorem dX0_isRest_0 : decode cX0_isRest 0 = .ok (.iconst 2, 1) := dk_5 (dk_at dksX0_isRest_0 0 rfl rfl)
theorem dX0_isRest_1 : decode cX0_isRest 1 = .ok (.iload_n 2, 1) := dk_28 (dk_at dksX0_isRest_0 1 rfl rfl)
theorem dX0_isRest_2 : decode cX0_isRest 2 = .ok (.sipush 8191, 3) := dk_17 31 255 (dk_at dksX0_isRest_0 2 rfl rfl)
theorem dX0_isRest_5 : decode cX0_isRest 5 = .ok (.iand, 1) := dk_126 (dk_at dksX0_isRest_0 5 rfl rfl)
theorem dX0_isRest_6 : decode cX0_isRest 6 = .ok (.iadd, 1) := dk_96 (dk_at dksX0_isRest_0 6 rfl rfl)
theorem dX0_isRest_7 : decode cX0_isRest 7 = .ok (.istore 4, 2) := dk_54 4 (dk_at dksX0_isRest_0 7 rfl rfl)
theorem dX0_isRest_9 : decode cX0_isRest 9 = .ok (.aload_n 0, 1) := dk_42 (dk_at dksX0_isRest_0 9 rfl rfl)
theorem dX0_isRest_10 : decode cX0_isRest 10 = .ok (.iload_n 1, 1) := dk_27 (dk_at dksX0_isRest_0 10 rfl rfl)
theorem dX0_isRest_11 : decode cX0_isRest 11 = .ok (.iload_n 2, 1) := dk_28 (dk_at dksX0_isRest_0 11 rfl rfl)
theorem dX0_isRest_12 : decode cX0_isRest 12 = .ok (.invokevirtual 13, 3) := dk_182 0 13 (dk_at dksX0_isRest_0 12 rfl rfl)
theorem dX0_isRest_15 : decode cX0_isRest 15 = .ok (.istore 5, 2) := dk_54 5 (dk_at dksX0_isRest_0 15 rfl rfl)
theorem dX0_isRest_17 : decode cX0_isRest 17 = .ok (.iload 4, 2) := dk_21 4 (dk_at dksX0_isRest_0 17 rfl rfl)
theorem dX0_isRest_19 : decode cX0_isRest 19 = .ok (.invokestatic 7, 3) := dk_184 0 7 (dk_at dksX0_isRest_0 19 rfl rfl)
theorem dX0_isRest_22 : decode cX0_isRest 22 = .ok (.iconst 1, 1) := dk_4 (dk_at dksX0_isRest_0 22 rfl rfl)
theorem dX0_isRest_23 : decode cX0_isRest 23 = .ok (.isub, 1) := dk_100 (dk_at dksX0_isRest_0 23 rfl rfl)
theorem dX0_isRest_24 : decode cX0_isRest 24 = .ok (.istore 6, 2) := dk_54 6 (dk_at dksX0_isRest_1 0 rfl rfl)
theorem dX0_isRest_26 : decode cX0_isRest 26 = .ok (.iconst 0, 1) := dk_3 (dk_at dksX0_isRest_1 2 rfl rfl)
theorem dX0_isRest_27 : decode cX0_isRest 27 = .ok (.istore 7, 2) := dk_54 7 (dk_at dksX0_isRest_1 3 rfl rfl)
theorem dX0_isRest_29 : decode cX0_isRest 29 = .ok (.iload 5, 2) := dk_21 5 (dk_at dksX0_isRest_1 5 rfl rfl)
theorem dX0_isRest_31 : decode cX0_isRest 31 = .ok (.iload_n 1, 1) := dk_27 (dk_at dksX0_isRest_1 7 rfl rfl)
theorem dX0_isRest_32 : decode cX0_isRest 32 = .ok (.ldc 19, 2) := dk_18 19 (dk_at dksX0_isRest_1 8 rfl rfl)
theorem dX0_isRest_34 : decode cX0_isRest 34 = .ok (.iand, 1) := dk_126 (dk_at dksX0_isRest_1 10 rfl rfl)
theorem dX0_isRest_35 : decode cX0_isRest 35 = .ok (.iload 4, 2) := dk_21 4 (dk_at dksX0_isRest_1 11 rfl rfl)
theorem dX0_isRest_37 : decode cX0_isRest 37 = .ok (.invokestatic 20, 3) := dk_184 0 20 (dk_at dksX0_isRest_1 13 rfl rfl)
theorem dX0_isRest_40 : decode cX0_isRest 40 = .ok (.if_icmp .ne 47, 3) := dk_160 0 47 (dk_at dksX0_isRest_1 16 rfl rfl)
theorem dX0_isRest_43 : decode cX0_isRest 43 = .ok (.iload 5, 2) := dk_21 5 (dk_at dksX0_isRest_1 19 rfl rfl)
theorem dX0_isRest_45 : decode cX0_isRest 45 = .ok (.ifCond .lt 42, 3) := dk_155 0 42 (dk_at dksX0_isRest_1 21 rfl rfl)
theorem dX0_isRest_48 : decode cX0_isRest 48 = .ok (.iload 5, 2) := dk_21 5 (dk_at dksX0_isRest_2 0 rfl rfl)
theorem dX0_isRest_50 : decode cX0_isRest 50 = .ok (.invokestatic 7, 3) := dk_184 0 7 (dk_at dksX0_isRest_2 2 rfl rfl)
theorem dX0_isRest_53 : decode cX0_isRest 53 = .ok (.iload 6, 2) := dk_21 6 (dk_at dksX0_isRest_2 5 rfl rfl)
theorem dX0_isRest_55 : decode cX0_isRest 55 = .ok (.if_icmp .gt 32, 3) := dk_163 0 32 (dk_at dksX0_isRest_2 7 rfl rfl)
theorem dX0_isRest_58 : decode cX0_isRest 58 = .ok (.aload_n 0, 1) := dk_42 (dk_at dksX0_isRest_2 10 rfl rfl)
theorem dX0_isRest_59 : decode cX0_isRest 59 = .ok (.iload_n 1, 1) := dk_27 (dk_at dksX0_isRest_2 11 rfl rfl)
theorem dX0_isRest_60 : decode cX0_isRest 60 = .ok (.iload_n 3, 1) := dk_29 (dk_at dksX0_isRest_2 12 rfl rfl)
theorem dX0_isRest_61 : decode cX0_isRest 61 = .ok (.ixor, 1) := dk_130 (dk_at dksX0_isRest_2 13 rfl rfl)
theorem dX0_isRest_62 : decode cX0_isRest 62 = .ok (.iload_n 2, 1) := dk_28 (dk_at dksX0_isRest_2 14 rfl rfl)
theorem dX0_isRest_63 : decode cX0_isRest 63 = .ok (.invokevirtual 13, 3) := dk_182 0 13 (dk_at dksX0_isRest_2 15 rfl rfl)
theorem dX0_isRest_66 : decode cX0_isRest 66 = .ok (.iload 5, 2) := dk_21 5 (dk_at dksX0_isRest_2 18 rfl rfl)
theorem dX0_isRest_68 : decode cX0_isRest 68 = .ok (.aload_n 0, 1) := dk_42 (dk_at dksX0_isRest_2 20 rfl rfl)
theorem dX0_isRest_69 : decode cX0_isRest 69 = .ok (.iload_n 3, 1) := dk_29 (dk_at dksX0_isRest_2 21 rfl rfl)
theorem dX0_isRest_70 : decode cX0_isRest 70 = .ok (.iload_n 2, 1) := dk_28 (dk_at dksX0_isRest_2 22 rfl rfl)
theorem dX0_isRest_71 : decode cX0_isRest 71 = .ok (.invokevirtual 13, 3) := dk_182 0 13 (dk_at dksX0_isRest_3 0 rfl rfl)
theorem dX0_isRest_74 : decode cX0_isRest 74 = .ok (.ixor, 1) := dk_130 (dk_at dksX0_isRest_3 3 rfl rfl)
theorem dX0_isRest_75 : decode cX0_isRest 75 = .ok (.if_icmp .ne 12, 3) := dk_160 0 12 (dk_at dksX0_isRest_3 4 rfl rfl)
theorem dX0_isRest_78 : decode cX0_isRest 78 = .ok (.aload_n 0, 1) := dk_42 (dk_at dksX0_isRest_3 7 rfl rfl)
theorem dX0_isRest_79 : decode cX0_isRest 79 = .ok (.iconst 0, 1) := dk_3 (dk_at dksX0_isRest_3 8 rfl rfl)
theorem dX0_isRest_80 : decode cX0_isRest 80 = .ok (.iload_n 2, 1) := dk_28 (dk_at dksX0_isRest_3 9 rfl rfl)
theorem dX0_isRest_81 : decode cX0_isRest 81 = .ok (.invokevirtual 13, 3) := dk_182 0 13 (dk_at dksX0_isRest_3 10 rfl rfl)
theorem dX0_isRest_84 : decode cX0_isRest 84 = .ok (.ifCond .eq 5, 3) := dk_153 0 5 (dk_at dksX0_isRest_3 13 rfl rfl)
theorem dX0_isRest_87 : decode cX0_isRest 87 = .ok (.iconst 0, 1) := dk_3 (dk_at dksX0_isRest_3 16 rfl rfl)
theorem dX0_isRest_88 : decode cX0_isRest 88 = .ok (.ireturn, 1) := dk_172 (dk_at dksX0_isRest_3 17 rfl rfl)
theorem dX0_isRest_89 : decode cX0_isRest 89 = .ok (.iconst 0, 1) := dk_3 (dk_at dksX0_isRest_3 18 rfl rfl)
theorem dX0_isRest_90 : decode cX0_isRest 90 = .ok (.istore 8, 2) := dk_54 8 (dk_at dksX0_isRest_3 19 rfl rfl)
theorem dX0_isRest_92 : decode cX0_isRest 92 = .ok (.iload 8, 2) := dk_21 8 (dk_at dksX0_isRest_3 21 rfl rfl)
theorem dX0_isRest_94 : decode cX0_isRest 94 = .ok (.bipush 16, 2) := dk_16 16 (dk_at dksX0_isRest_4 0 rfl rfl)
theorem dX0_isRest_96 : decode cX0_isRest 96 = .ok (.iload 4, 2) := dk_21 4 (dk_at dksX0_isRest_4 2 rfl rfl)
theorem dX0_isRest_98 : decode cX0_isRest 98 = .ok (.invokestatic 7, 3) := dk_184 0 7 (dk_at dksX0_isRest_4 4 rfl rfl)
theorem dX0_isRest_101 : decode cX0_isRest 101 = .ok (.isub, 1) := dk_100 (dk_at dksX0_isRest_4 7 rfl rfl)
theorem dX0_isRest_102 : decode cX0_isRest 102 = .ok (.if_icmp .ge 33, 3) := dk_162 0 33 (dk_at dksX0_isRest_4 8 rfl rfl)
theorem dX0_isRest_105 : decode cX0_isRest 105 = .ok (.iload 7, 2) := dk_21 7 (dk_at dksX0_isRest_4 11 rfl rfl)
theorem dX0_isRest_107 : decode cX0_isRest 107 = .ok (.iload_n 3, 1) := dk_29 (dk_at dksX0_isRest_4 13 rfl rfl)
theorem dX0_isRest_108 : decode cX0_isRest 108 = .ok (.iload 8, 2) := dk_21 8 (dk_at dksX0_isRest_4 14 rfl rfl)
theorem dX0_isRest_110 : decode cX0_isRest 110 = .ok (.iushr, 1) := dk_124 (dk_at dksX0_isRest_4 16 rfl rfl)
theorem dX0_isRest_111 : decode cX0_isRest 111 = .ok (.iconst 1, 1) := dk_4 (dk_at dksX0_isRest_4 17 rfl rfl)
theorem dX0_isRest_112 : decode cX0_isRest 112 = .ok (.iand, 1) := dk_126 (dk_at dksX0_isRest_4 18 rfl rfl)
theorem dX0_isRest_113 : decode cX0_isRest 113 = .ok (.iconst 1, 1) := dk_4 (dk_at dksX0_isRest_4 19 rfl rfl)
theorem dX0_isRest_114 : decode cX0_isRest 114 = .ok (.if_icmp .ne 11, 3) := dk_160 0 11 (dk_at dksX0_isRest_4 20 rfl rfl)
theorem dX0_isRest_117 : decode cX0_isRest 117 = .ok (.iload 4, 2) := dk_21 4 (dk_at dksX0_isRest_5 0 rfl rfl)
theorem dX0_isRest_119 : decode cX0_isRest 119 = .ok (.iload 8, 2) := dk_21 8 (dk_at dksX0_isRest_5 2 rfl rfl)
theorem dX0_isRest_121 : decode cX0_isRest 121 = .ok (.ishl, 1) := dk_120 (dk_at dksX0_isRest_5 4 rfl rfl)
theorem dX0_isRest_122 : decode cX0_isRest 122 = .ok (.goto 4, 3) := dk_167 0 4 (dk_at dksX0_isRest_5 5 rfl rfl)
theorem dX0_isRest_125 : decode cX0_isRest 125 = .ok (.iconst 0, 1) := dk_3 (dk_at dksX0_isRest_5 8 rfl rfl)
theorem dX0_isRest_126 : decode cX0_isRest 126 = .ok (.ixor, 1) := dk_130 (dk_at dksX0_isRest_5 9 rfl rfl)
theorem dX0_isRest_127 : decode cX0_isRest 127 = .ok (.istore 7, 2) := dk_54 7 (dk_at dksX0_isRest_5 10 rfl rfl)
theorem dX0_isRest_129 : decode cX0_isRest 129 = .ok (.iinc 8 1, 3) := dk_132 8 1 (dk_at dksX0_isRest_5 12 rfl rfl)
theorem dX0_isRest_132 : decode cX0_isRest 132 = .ok (.goto (-40), 3) := dk_167 255 216 (dk_at dksX0_isRest_5 15 rfl rfl)
theorem dX0_isRest_135 : decode cX0_isRest 135 = .ok (.aload_n 0, 1) := dk_42 (dk_at dksX0_isRest_5 18 rfl rfl)
theorem dX0_isRest_136 : decode cX0_isRest 136 = .ok (.iload 7, 2) := dk_21 7 (dk_at dksX0_isRest_5 19 rfl rfl)
theorem dX0_isRest_138 : decode cX0_isRest 138 = .ok (.iload_n 2, 1) := dk_28 (dk_at dksX0_isRest_5 21 rfl rfl)
theorem dX0_isRest_139 : decode cX0_isRest 139 = .ok (.invokevirtual 13, 3) := dk_182 0 13 (dk_at dksX0_isRest_6 0 rfl rfl)
theorem dX0_isRest_142 : decode cX0_isRest 142 = .ok (.ifCond .ne 21, 3) := dk_154 0 21 (dk_at dksX0_isRest_6 3 rfl rfl)
theorem dX0_isRest_145 : decode cX0_isRest 145 = .ok (.aload_n 0, 1) := dk_42 (dk_at dksX0_isRest_6 6 rfl rfl)
theorem dX0_isRest_146 : decode cX0_isRest 146 = .ok (.iload 7, 2) := dk_21 7 (dk_at dksX0_isRest_6 7 rfl rfl)
theorem dX0_isRest_148 : decode cX0_isRest 148 = .ok (.iload_n 1, 1) := dk_27 (dk_at dksX0_isRest_6 9 rfl rfl)
theorem dX0_isRest_149 : decode cX0_isRest 149 = .ok (.ixor, 1) := dk_130 (dk_at dksX0_isRest_6 10 rfl rfl)
theorem dX0_isRest_150 : decode cX0_isRest 150 = .ok (.iload_n 2, 1) := dk_28 (dk_at dksX0_isRest_6 11 rfl rfl)
theorem dX0_isRest_151 : decode cX0_isRest 151 = .ok (.invokevirtual 13, 3) := dk_182 0 13 (dk_at dksX0_isRest_6 12 rfl rfl)
theorem dX0_isRest_154 : decode cX0_isRest 154 = .ok (.iload 5, 2) := dk_21 5 (dk_at dksX0_isRest_6 15 rfl rfl)
theorem dX0_isRest_156 : decode cX0_isRest 156 = .ok (.if_icmp .ne 7, 3) := dk_160 0 7 (dk_at dksX0_isRest_6 17 rfl rfl)
theorem dX0_isRest_159 : decode cX0_isRest 159 = .ok (.iconst 1, 1) := dk_4 (dk_at dksX0_isRest_6 20 rfl rfl)
theorem dX0_isRest_160 : decode cX0_isRest 160 = .ok (.goto 4, 3) := dk_167 0 4 (dk_at dksX0_isRest_6 21 rfl rfl)
theorem dX0_isRest_163 : decode cX0_isRest 163 = .ok (.iconst 0, 1) := dk_3 (dk_at dksX0_isRest_7 0 rfl rfl)
theorem dX0_isRest_164 : decode cX0_isRest 164 = .ok (.ireturn, 1) := dk_172 (dk_at dksX0_isRest_7 1 rfl rfl)
theorem q1 : (Jvm.Cond.initialized "BchDeskLaw") ∈ lw_all := lw_g (lw_at lw_m0 0 rfl) rfl
theorem q9 : (Jvm.Cond.classLink "BchDeskLaw" (14 : Nat) "BchDesk") ∈ lw_all := lw_g (lw_at lw_m0 8 rfl) rfl
theorem q11 : (Jvm.Cond.methodLink "BchDeskLaw" (23 : Nat) ({ cls := "BchDesk", name := "<init>", desc := "()V" } : Jvm.MethodName)) ∈ lw_all := lw_g (lw_at lw_m0 10 rfl) rfl
theorem q18 : (Jvm.Cond.methodLink "BchDeskLaw" (28 : Nat) ({ cls := "BchDesk", name := "highest", desc := "(I)I" } : Jvm.MethodName)) ∈ lw_all := lw_g (lw_at lw_m0 17 rfl) rfl
theorem q29 : (Jvm.Cond.methodLink "BchDeskLaw" (34 : Nat) ({ cls := "BchDesk", name := "format", desc := "(I)I" } : Jvm.MethodName)) ∈ lw_all := lw_g (lw_at lw_m0 28 rfl) rfl
theorem q103 : (Jvm.Cond.methodLink "BchDeskLaw" (37 : Nat) ({ cls := "BchDesk", name := "version", desc := "(I)I" } : Jvm.MethodName)) ∈ lw_all := lw_g (lw_at lw_m0 102 rfl) rfl
theorem q108 : (Jvm.Cond.methodLink "BchDeskLaw" (24 : Nat) ({ cls := "BchDeskLaw", name := "cell", desc := "([II)I" } : Jvm.MethodName)) ∈ lw_all := lw_g (lw_at lw_m0 107 rfl) rfl
theorem q109 : (Jvm.Cond.static ({ cls := "BchDeskLaw", name := "cell", desc := "([II)I" } : Jvm.MethodName)) ∈ lw_all := lw_g (lw_at lw_m0 108 rfl) rfl
theorem q110 : (Jvm.Cond.code ({ cls := "BchDeskLaw", name := "cell", desc := "([II)I" } : Jvm.MethodName) method_2_code (2 : Nat) (Option.some Jvm.ClassFile.FieldType.int)) ∈ lw_all := lw_g (lw_at lw_m0 109 rfl) rfl
theorem q111 : (Jvm.Cond.methodLink "BchDeskLaw" (7 : Nat) ({ cls := "BchDeskLaw", name := "highest", desc := "(I)I" } : Jvm.MethodName)) ∈ lw_all := lw_g (lw_at lw_m0 110 rfl) rfl
theorem q112 : (Jvm.Cond.static ({ cls := "BchDeskLaw", name := "highest", desc := "(I)I" } : Jvm.MethodName)) ∈ lw_all := lw_g (lw_at lw_m0 111 rfl) rfl
theorem q113 : (Jvm.Cond.code ({ cls := "BchDeskLaw", name := "highest", desc := "(I)I" } : Jvm.MethodName) method_3_code (3 : Nat) (Option.some Jvm.ClassFile.FieldType.int)) ∈ lw_all := lw_g (lw_at lw_m0 112 rfl) rfl
theorem q114 : (Jvm.Cond.methodLink "BchDeskLaw" (20 : Nat) ({ cls := "BchDeskLaw", name := "left", desc := "(II)I" } : Jvm.MethodName)) ∈ lw_all := lw_g (lw_at lw_m0 113 rfl) rfl
theorem q115 : (Jvm.Cond.static ({ cls := "BchDeskLaw", name := "left", desc := "(II)I" } : Jvm.MethodName)) ∈ lw_all := lw_g (lw_at lw_m0 114 rfl) rfl
theorem q116 : (Jvm.Cond.code ({ cls := "BchDeskLaw", name := "left", desc := "(II)I" } : Jvm.MethodName) method_4_code (5 : Nat) (Option.some Jvm.ClassFile.FieldType.int)) ∈ lw_all := lw_g (lw_at lw_m0 115 rfl) rfl
theorem q117 : (Jvm.Cond.methodLink "BchDeskLaw" (40 : Nat) ({ cls := "BchDeskLaw", name := "ones", desc := "(I)I" } : Jvm.MethodName)) ∈ lw_all := lw_g (lw_at lw_m0 116 rfl) rfl
theorem q118 : (Jvm.Cond.static ({ cls := "BchDeskLaw", name := "ones", desc := "(I)I" } : Jvm.MethodName)) ∈ lw_all := lw_g (lw_at lw_m0 117 rfl) rfl
theorem q119 : (Jvm.Cond.code ({ cls := "BchDeskLaw", name := "ones", desc := "(I)I" } : Jvm.MethodName) method_5_code (3 : Nat) (Option.some Jvm.ClassFile.FieldType.int)) ∈ lw_all := lw_g (lw_at lw_m0 118 rfl) rfl
theorem q120 : (Jvm.Cond.methodLink "BchDeskLaw" (29 : Nat) ({ cls := "BchDeskLaw", name := "isRest", desc := "(LBchDesk;III)Z" } : Jvm.MethodName)) ∈ lw_all := lw_g (lw_at lw_m0 119 rfl) rfl
theorem q121 : (Jvm.Cond.static ({ cls := "BchDeskLaw", name := "isRest", desc := "(LBchDesk;III)Z" } : Jvm.MethodName)) ∈ lw_all := lw_g (lw_at lw_m0 120 rfl) rfl
theorem q122 : (Jvm.Cond.code ({ cls := "BchDeskLaw", name := "isRest", desc := "(LBchDesk;III)Z" } : Jvm.MethodName) method_6_code (9 : Nat) (Option.some Jvm.ClassFile.FieldType.boolean)) ∈ lw_all := lw_g (lw_at lw_m0 121 rfl) rfl
theorem q123 : (Jvm.Cond.methodLink "BchDeskLaw" (13 : Nat) ({ cls := "BchDesk", name := "rest", desc := "(II)I" } : Jvm.MethodName)) ∈ lw_all := lw_g (lw_at lw_m0 122 rfl) rfl
theorem q128 : (Jvm.Cond.constant "BchDeskLaw" (19 : Nat) (65535 : Int32)) ∈ lw_all := lw_g (lw_at lw_m0 127 rfl) rfl
theorem q129 : (Jvm.Cond.constant "BchDeskLaw" (33 : Nat) (2147483647 : Int32)) ∈ lw_all := lw_g (lw_at lw_m0 128 rfl) rfl
/-! BchDesk -/
set_option maxRecDepth 100000
def RX1 : String := "BchDesk"
abbrev cX1_init : ByteArray := prog_1_method_1_code
def yX1_init : MethodName := ⟨RX1, "<init>", "()V"⟩
theorem dX1_init_0 : decode cX1_init 0 = .ok (.aload_n 0, 1) := by decide +kernel
theorem dX1_init_1 : decode cX1_init 1 = .ok (.invokespecial 1, 3) := by decide +kernel
theorem dX1_init_4 : decode cX1_init 4 = .ok (.return_, 1) := by decide +kernel
abbrev cX1_highest : ByteArray := prog_1_method_2_code
def yX1_highest : MethodName := ⟨RX1, "highest", "(I)I"⟩
theorem dX1_highest_0 : decode cX1_highest 0 = .ok (.iload_n 1, 1) := by decide +kernel
theorem dX1_highest_1 : decode cX1_highest 1 = .ok (.invokestatic 7, 3) := by decide +kernel
theorem dX1_highest_4 : decode cX1_highest 4 = .ok (.ireturn, 1) := by decide +kernel
abbrev cX1_format : ByteArray := prog_1_method_4_code
def yX1_format : MethodName := ⟨RX1, "format", "(I)I"⟩
def dkwX1_format_0 : List UInt8 := [27, 16, 31, 126, 61, 28, 16, 10, 120, 28, 17, 5, 55, 184, 0, 14, 128, 17, 84, 18, 130, 172]
abbrev dktX1_format_0 : List UInt8 := dkwX1_format_0 ++ []
theorem dksX1_format_0 : cX1_format.data.toList.drop 0 = dktX1_format_0 := by decide +kernel
theorem dX1_format_0 : decode cX1_format 0 = .ok (.iload_n 1, 1) := dk_27 (dk_at dksX1_format_0 0 rfl rfl)
theorem dX1_format_1 : decode cX1_format 1 = .ok (.bipush 31, 2) := dk_16 31 (dk_at dksX1_format_0 1 rfl rfl)
theorem dX1_format_3 : decode cX1_format 3 = .ok (.iand, 1) := dk_126 (dk_at dksX1_format_0 3 rfl rfl)
theorem dX1_format_4 : decode cX1_format 4 = .ok (.istore_n 2, 1) := dk_61 (dk_at dksX1_format_0 4 rfl rfl)
theorem dX1_format_5 : decode cX1_format 5 = .ok (.iload_n 2, 1) := dk_28 (dk_at dksX1_format_0 5 rfl rfl)
theorem dX1_format_6 : decode cX1_format 6 = .ok (.bipush 10, 2) := dk_16 10 (dk_at dksX1_format_0 6 rfl rfl)
theorem dX1_format_8 : decode cX1_format 8 = .ok (.ishl, 1) := dk_120 (dk_at dksX1_format_0 8 rfl rfl)
theorem dX1_format_9 : decode cX1_format 9 = .ok (.iload_n 2, 1) := dk_28 (dk_at dksX1_format_0 9 rfl rfl)
theorem dX1_format_10 : decode cX1_format 10 = .ok (.sipush 1335, 3) := dk_17 5 55 (dk_at dksX1_format_0 10 rfl rfl)
theorem dX1_format_13 : decode cX1_format 13 = .ok (.invokestatic 14, 3) := dk_184 0 14 (dk_at dksX1_format_0 13 rfl rfl)
theorem dX1_format_16 : decode cX1_format 16 = .ok (.ior, 1) := dk_128 (dk_at dksX1_format_0 16 rfl rfl)
theorem dX1_format_17 : decode cX1_format 17 = .ok (.sipush 21522, 3) := dk_17 84 18 (dk_at dksX1_format_0 17 rfl rfl)
theorem dX1_format_20 : decode cX1_format 20 = .ok (.ixor, 1) := dk_130 (dk_at dksX1_format_0 20 rfl rfl)
theorem dX1_format_21 : decode cX1_format 21 = .ok (.ireturn, 1) := dk_172 (dk_at dksX1_format_0 21 rfl rfl)
abbrev cX1_version : ByteArray := prog_1_method_5_code
def yX1_version : MethodName := ⟨RX1, "version", "(I)I"⟩
def dkwX1_version_0 : List UInt8 := [16, 7, 27, 18, 18, 126, 16, 34, 112, 96, 61, 28, 16, 12, 120, 28, 17, 31, 37, 184, 0, 14, 128, 172]
abbrev dktX1_version_0 : List UInt8 := dkwX1_version_0 ++ []
theorem dksX1_version_0 : cX1_version.data.toList.drop 0 = dktX1_version_0 := by decide +kernel
theorem dX1_version_0 : decode cX1_version 0 = .ok (.bipush 7, 2) := dk_16 7 (dk_at dksX1_version_0 0 rfl rfl)
theorem dX1_version_2 : decode cX1_version 2 = .ok (.iload_n 1, 1) := dk_27 (dk_at dksX1_version_0 2 rfl rfl)
theorem dX1_version_3 : decode cX1_version 3 = .ok (.ldc 18, 2) := dk_18 18 (dk_at dksX1_version_0 3 rfl rfl)
theorem dX1_version_5 : decode cX1_version 5 = .ok (.iand, 1) := dk_126 (dk_at dksX1_version_0 5 rfl rfl)
theorem dX1_version_6 : decode cX1_version 6 = .ok (.bipush 34, 2) := dk_16 34 (dk_at dksX1_version_0 6 rfl rfl)
theorem dX1_version_8 : decode cX1_version 8 = .ok (.irem, 1) := dk_112 (dk_at dksX1_version_0 8 rfl rfl)
theorem dX1_version_9 : decode cX1_version 9 = .ok (.iadd, 1) := dk_96 (dk_at dksX1_version_0 9 rfl rfl)
theorem dX1_version_10 : decode cX1_version 10 = .ok (.istore_n 2, 1) := dk_61 (dk_at dksX1_version_0 10 rfl rfl)
theorem dX1_version_11 : decode cX1_version 11 = .ok (.iload_n 2, 1) := dk_28 (dk_at dksX1_version_0 11 rfl rfl)
theorem dX1_version_12 : decode cX1_version 12 = .ok (.bipush 12, 2) := dk_16 12 (dk_at dksX1_version_0 12 rfl rfl)
theorem dX1_version_14 : decode cX1_version 14 = .ok (.ishl, 1) := dk_120 (dk_at dksX1_version_0 14 rfl rfl)
theorem dX1_version_15 : decode cX1_version 15 = .ok (.iload_n 2, 1) := dk_28 (dk_at dksX1_version_0 15 rfl rfl)
theorem dX1_version_16 : decode cX1_version 16 = .ok (.sipush 7973, 3) := dk_17 31 37 (dk_at dksX1_version_0 16 rfl rfl)
theorem dX1_version_19 : decode cX1_version 19 = .ok (.invokestatic 14, 3) := dk_184 0 14 (dk_at dksX1_version_0 19 rfl rfl)
theorem dX1_version_22 : decode cX1_version 22 = .ok (.ior, 1) := dk_128 (dk_at dksX1_version_0 22 rfl rfl)
theorem dX1_version_23 : decode cX1_version 23 = .ok (.ireturn, 1) := dk_172 (dk_at dksX1_version_0 23 rfl rfl)
abbrev cX1_rest : ByteArray := prog_1_method_3_code
def yX1_rest : MethodName := ⟨RX1, "rest", "(II)I"⟩
def dkwX1_rest_0 : List UInt8 := [5, 28, 17, 31, 255, 126, 96, 62, 27, 18, 13, 126, 29, 184, 0, 14, 172]
abbrev dktX1_rest_0 : List UInt8 := dkwX1_rest_0 ++ []
theorem dksX1_rest_0 : cX1_rest.data.toList.drop 0 = dktX1_rest_0 := by decide +kernel
theorem dX1_rest_0 : decode cX1_rest 0 = .ok (.iconst 2, 1) := dk_5 (dk_at dksX1_rest_0 0 rfl rfl)
theorem dX1_rest_1 : decode cX1_rest 1 = .ok (.iload_n 2, 1) := dk_28 (dk_at dksX1_rest_0 1 rfl rfl)
theorem dX1_rest_2 : decode cX1_rest 2 = .ok (.sipush 8191, 3) := dk_17 31 255 (dk_at dksX1_rest_0 2 rfl rfl)
theorem dX1_rest_5 : decode cX1_rest 5 = .ok (.iand, 1) := dk_126 (dk_at dksX1_rest_0 5 rfl rfl)
theorem dX1_rest_6 : decode cX1_rest 6 = .ok (.iadd, 1) := dk_96 (dk_at dksX1_rest_0 6 rfl rfl)
theorem dX1_rest_7 : decode cX1_rest 7 = .ok (.istore_n 3, 1) := dk_62 (dk_at dksX1_rest_0 7 rfl rfl)
theorem dX1_rest_8 : decode cX1_rest 8 = .ok (.iload_n 1, 1) := dk_27 (dk_at dksX1_rest_0 8 rfl rfl)
theorem dX1_rest_9 : decode cX1_rest 9 = .ok (.ldc 13, 2) := dk_18 13 (dk_at dksX1_rest_0 9 rfl rfl)
theorem dX1_rest_11 : decode cX1_rest 11 = .ok (.iand, 1) := dk_126 (dk_at dksX1_rest_0 11 rfl rfl)
theorem dX1_rest_12 : decode cX1_rest 12 = .ok (.iload_n 3, 1) := dk_29 (dk_at dksX1_rest_0 12 rfl rfl)
theorem dX1_rest_13 : decode cX1_rest 13 = .ok (.invokestatic 14, 3) := dk_184 0 14 (dk_at dksX1_rest_0 13 rfl rfl)
theorem dX1_rest_16 : decode cX1_rest 16 = .ok (.ireturn, 1) := dk_172 (dk_at dksX1_rest_0 16 rfl rfl)
theorem q2 : (Jvm.Cond.initialized "BchDesk") ∈ lw_all := lw_g (lw_at lw_m0 1 rfl) rfl
theorem q10 : (Jvm.Cond.instantiable "BchDesk" (0 : Nat)) ∈ lw_all := lw_g (lw_at lw_m0 9 rfl) rfl
theorem q12 : (Jvm.Cond.instanceMethod ({ cls := "BchDesk", name := "<init>", desc := "()V" } : Jvm.MethodName)) ∈ lw_all := lw_g (lw_at lw_m0 11 rfl) rfl
theorem q13 : (Jvm.Cond.code ({ cls := "BchDesk", name := "<init>", desc := "()V" } : Jvm.MethodName) prog_1_method_1_code (1 : Nat) (Option.none : Option Jvm.ClassFile.FieldType)) ∈ lw_all := lw_g (lw_at lw_m0 12 rfl) rfl
theorem q14 : (Jvm.Cond.methodLink "BchDesk" (1 : Nat) ({ cls := "java/lang/Object", name := "<init>", desc := "()V" } : Jvm.MethodName)) ∈ lw_all := lw_g (lw_at lw_m0 13 rfl) rfl
theorem q17 : (Jvm.Cond.superclass "BchDesk" "java/lang/Object") ∈ lw_all := lw_g (lw_at lw_m0 16 rfl) rfl
theorem q19 : (Jvm.Cond.instanceMethod ({ cls := "BchDesk", name := "highest", desc := "(I)I" } : Jvm.MethodName)) ∈ lw_all := lw_g (lw_at lw_m0 18 rfl) rfl
theorem q20 : (Jvm.Cond.selects "BchDesk" ({ cls := "BchDesk", name := "highest", desc := "(I)I" } : Jvm.MethodName) ({ cls := "BchDesk", name := "highest", desc := "(I)I" } : Jvm.MethodName)) ∈ lw_all := lw_g (lw_at lw_m0 19 rfl) rfl
theorem q21 : (Jvm.Cond.code ({ cls := "BchDesk", name := "highest", desc := "(I)I" } : Jvm.MethodName) prog_1_method_2_code (2 : Nat) (Option.some Jvm.ClassFile.FieldType.int)) ∈ lw_all := lw_g (lw_at lw_m0 20 rfl) rfl
theorem q22 : (Jvm.Cond.methodLink "BchDesk" (7 : Nat) ({ cls := "MatrixUtil", name := "findMSBSet", desc := "(I)I" } : Jvm.MethodName)) ∈ lw_all := lw_g (lw_at lw_m0 21 rfl) rfl
theorem q30 : (Jvm.Cond.instanceMethod ({ cls := "BchDesk", name := "format", desc := "(I)I" } : Jvm.MethodName)) ∈ lw_all := lw_g (lw_at lw_m0 29 rfl) rfl
theorem q31 : (Jvm.Cond.selects "BchDesk" ({ cls := "BchDesk", name := "format", desc := "(I)I" } : Jvm.MethodName) ({ cls := "BchDesk", name := "format", desc := "(I)I" } : Jvm.MethodName)) ∈ lw_all := lw_g (lw_at lw_m0 30 rfl) rfl
theorem q32 : (Jvm.Cond.code ({ cls := "BchDesk", name := "format", desc := "(I)I" } : Jvm.MethodName) prog_1_method_4_code (3 : Nat) (Option.some Jvm.ClassFile.FieldType.int)) ∈ lw_all := lw_g (lw_at lw_m0 31 rfl) rfl
theorem q33 : (Jvm.Cond.methodLink "BchDesk" (14 : Nat) ({ cls := "MatrixUtil", name := "calculateBCHCode", desc := "(II)I" } : Jvm.MethodName)) ∈ lw_all := lw_g (lw_at lw_m0 32 rfl) rfl
theorem q104 : (Jvm.Cond.instanceMethod ({ cls := "BchDesk", name := "version", desc := "(I)I" } : Jvm.MethodName)) ∈ lw_all := lw_g (lw_at lw_m0 103 rfl) rfl
theorem q105 : (Jvm.Cond.selects "BchDesk" ({ cls := "BchDesk", name := "version", desc := "(I)I" } : Jvm.MethodName) ({ cls := "BchDesk", name := "version", desc := "(I)I" } : Jvm.MethodName)) ∈ lw_all := lw_g (lw_at lw_m0 104 rfl) rfl
theorem q106 : (Jvm.Cond.code ({ cls := "BchDesk", name := "version", desc := "(I)I" } : Jvm.MethodName) prog_1_method_5_code (3 : Nat) (Option.some Jvm.ClassFile.FieldType.int)) ∈ lw_all := lw_g (lw_at lw_m0 105 rfl) rfl
theorem q107 : (Jvm.Cond.constant "BchDesk" (18 : Nat) (2147483647 : Int32)) ∈ lw_all := lw_g (lw_at lw_m0 106 rfl) rfl
theorem q124 : (Jvm.Cond.instanceMethod ({ cls := "BchDesk", name := "rest", desc := "(II)I" } : Jvm.MethodName)) ∈ lw_all := lw_g (lw_at lw_m0 123 rfl) rfl
theorem q125 : (Jvm.Cond.selects "BchDesk" ({ cls := "BchDesk", name := "rest", desc := "(II)I" } : Jvm.MethodName) ({ cls := "BchDesk", name := "rest", desc := "(II)I" } : Jvm.MethodName)) ∈ lw_all := lw_g (lw_at lw_m0 124 rfl) rfl
theorem q126 : (Jvm.Cond.code ({ cls := "BchDesk", name := "rest", desc := "(II)I" } : Jvm.MethodName) prog_1_method_3_code (4 : Nat) (Option.some Jvm.ClassFile.FieldType.int)) ∈ lw_all := lw_g (lw_at lw_m0 125 rfl) rfl
theorem q127 : (Jvm.Cond.constant "BchDesk" (13 : Nat) (65535 : Int32)) ∈ lw_all := lw_g (lw_at lw_m0 126 rfl) rfl
/-! MatrixUtil -/
set_option maxRecDepth 100000
def RX2 : String := "MatrixUtil"
abbrev cX2_findMSBSet : ByteArray := prog_3_method_1_code
def yX2_findMSBSet : MethodName := ⟨RX2, "findMSBSet", "(I)I"⟩
def dkwX2_findMSBSet_0 : List UInt8 := [16, 32, 26, 184, 0, 1, 100, 172]
abbrev dktX2_findMSBSet_0 : List UInt8 := dkwX2_findMSBSet_0 ++ []
theorem dksX2_findMSBSet_0 : cX2_findMSBSet.data.toList.drop 0 = dktX2_findMSBSet_0 := by decide +kernel
theorem dX2_findMSBSet_0 : decode cX2_findMSBSet 0 = .ok (.bipush 32, 2) := dk_16 32 (dk_at dksX2_findMSBSet_0 0 rfl rfl)
theorem dX2_findMSBSet_2 : decode cX2_findMSBSet 2 = .ok (.iload_n 0, 1) := dk_26 (dk_at dksX2_findMSBSet_0 2 rfl rfl)
theorem dX2_findMSBSet_3 : decode cX2_findMSBSet 3 = .ok (.invokestatic 1, 3) := dk_184 0 1 (dk_at dksX2_findMSBSet_0 3 rfl rfl)
theorem dX2_findMSBSet_6 : decode cX2_findMSBSet 6 = .ok (.isub, 1) := dk_100 (dk_at dksX2_findMSBSet_0 6 rfl rfl)
theorem dX2_findMSBSet_7 : decode cX2_findMSBSet 7 = .ok (.ireturn, 1) := dk_172 (dk_at dksX2_findMSBSet_0 7 rfl rfl)
abbrev cX2_calculateBCHCode : ByteArray := prog_3_method_2_code
def yX2_calculateBCHCode : MethodName := ⟨RX2, "calculateBCHCode", "(II)I"⟩
def dkwX2_calculateBCHCode_2 : List UInt8 := [172]
abbrev dktX2_calculateBCHCode_2 : List UInt8 := dkwX2_calculateBCHCode_2 ++ []
def dkwX2_calculateBCHCode_1 : List UInt8 := [59, 26, 184, 0, 15, 28, 161, 0, 17, 26, 27, 26, 184, 0, 15, 28, 100, 120, 130, 59, 167, 255, 237, 26]
abbrev dktX2_calculateBCHCode_1 : List UInt8 := dkwX2_calculateBCHCode_1 ++ dktX2_calculateBCHCode_2
def dkwX2_calculateBCHCode_0 : List UInt8 := [27, 154, 0, 13, 187, 0, 7, 89, 18, 9, 183, 0, 11, 191, 27, 184, 0, 15, 61, 26, 28, 4, 100, 120]
abbrev dktX2_calculateBCHCode_0 : List UInt8 := dkwX2_calculateBCHCode_0 ++ dktX2_calculateBCHCode_1
theorem dksX2_calculateBCHCode_0 : cX2_calculateBCHCode.data.toList.drop 0 = dktX2_calculateBCHCode_0 := by decide +kernel
theorem dksX2_calculateBCHCode_1 : cX2_calculateBCHCode.data.toList.drop 24 = dktX2_calculateBCHCode_1 := dk_seg dksX2_calculateBCHCode_0 24 rfl rfl
theorem dksX2_calculateBCHCode_2 : cX2_calculateBCHCode.data.toList.drop 48 = dktX2_calculateBCHCode_2 := dk_seg dksX2_calculateBCHCode_1 24 rfl rfl
theorem dX2_calculateBCHCode_0 : decode cX2_calculateBCHCode 0 = .ok (.iload_n 1, 1) := dk_27 (dk_at dksX2_calculateBCHCode_0 0 rfl rfl)
theorem dX2_calculateBCHCode_1 : decode cX2_calculateBCHCode 1 = .ok (.ifCond .ne 13, 3) := dk_154 0 13 (dk_at dksX2_calculateBCHCode_0 1 rfl rfl)
theorem dX2_calculateBCHCode_4 : decode cX2_calculateBCHCode 4 = .ok (.new 7, 3) := dk_187 0 7 (dk_at dksX2_calculateBCHCode_0 4 rfl rfl)
theorem dX2_calculateBCHCode_7 : decode cX2_calculateBCHCode 7 = .ok (.dup, 1) := dk_89 (dk_at dksX2_calculateBCHCode_0 7 rfl rfl)
theorem dX2_calculateBCHCode_8 : decode cX2_calculateBCHCode 8 = .ok (.ldc 9, 2) := dk_18 9 (dk_at dksX2_calculateBCHCode_0 8 rfl rfl)
theorem dX2_calculateBCHCode_10 : decode cX2_calculateBCHCode 10 = .ok (.invokespecial 11, 3) := dk_183 0 11 (dk_at dksX2_calculateBCHCode_0 10 rfl rfl)
theorem dX2_calculateBCHCode_13 : decode cX2_calculateBCHCode 13 = .ok (.athrow, 1) := dk_191 (dk_at dksX2_calculateBCHCode_0 13 rfl rfl)
theorem dX2_calculateBCHCode_14 : decode cX2_calculateBCHCode 14 = .ok (.iload_n 1, 1) := dk_27 (dk_at dksX2_calculateBCHCode_0 14 rfl rfl)
theorem dX2_calculateBCHCode_15 : decode cX2_calculateBCHCode 15 = .ok (.invokestatic 15, 3) := dk_184 0 15 (dk_at dksX2_calculateBCHCode_0 15 rfl rfl)
theorem dX2_calculateBCHCode_18 : decode cX2_calculateBCHCode 18 = .ok (.istore_n 2, 1) := dk_61 (dk_at dksX2_calculateBCHCode_0 18 rfl rfl)
theorem dX2_calculateBCHCode_19 : decode cX2_calculateBCHCode 19 = .ok (.iload_n 0, 1) := dk_26 (dk_at dksX2_calculateBCHCode_0 19 rfl rfl)
theorem dX2_calculateBCHCode_20 : decode cX2_calculateBCHCode 20 = .ok (.iload_n 2, 1) := dk_28 (dk_at dksX2_calculateBCHCode_0 20 rfl rfl)
theorem dX2_calculateBCHCode_21 : decode cX2_calculateBCHCode 21 = .ok (.iconst 1, 1) := dk_4 (dk_at dksX2_calculateBCHCode_0 21 rfl rfl)
theorem dX2_calculateBCHCode_22 : decode cX2_calculateBCHCode 22 = .ok (.isub, 1) := dk_100 (dk_at dksX2_calculateBCHCode_0 22 rfl rfl)
theorem dX2_calculateBCHCode_23 : decode cX2_calculateBCHCode 23 = .ok (.ishl, 1) := dk_120 (dk_at dksX2_calculateBCHCode_0 23 rfl rfl)
theorem dX2_calculateBCHCode_24 : decode cX2_calculateBCHCode 24 = .ok (.istore_n 0, 1) := dk_59 (dk_at dksX2_calculateBCHCode_1 0 rfl rfl)
theorem dX2_calculateBCHCode_25 : decode cX2_calculateBCHCode 25 = .ok (.iload_n 0, 1) := dk_26 (dk_at dksX2_calculateBCHCode_1 1 rfl rfl)
theorem dX2_calculateBCHCode_26 : decode cX2_calculateBCHCode 26 = .ok (.invokestatic 15, 3) := dk_184 0 15 (dk_at dksX2_calculateBCHCode_1 2 rfl rfl)
theorem dX2_calculateBCHCode_29 : decode cX2_calculateBCHCode 29 = .ok (.iload_n 2, 1) := dk_28 (dk_at dksX2_calculateBCHCode_1 5 rfl rfl)
theorem dX2_calculateBCHCode_30 : decode cX2_calculateBCHCode 30 = .ok (.if_icmp .lt 17, 3) := dk_161 0 17 (dk_at dksX2_calculateBCHCode_1 6 rfl rfl)
theorem dX2_calculateBCHCode_33 : decode cX2_calculateBCHCode 33 = .ok (.iload_n 0, 1) := dk_26 (dk_at dksX2_calculateBCHCode_1 9 rfl rfl)
theorem dX2_calculateBCHCode_34 : decode cX2_calculateBCHCode 34 = .ok (.iload_n 1, 1) := dk_27 (dk_at dksX2_calculateBCHCode_1 10 rfl rfl)
theorem dX2_calculateBCHCode_35 : decode cX2_calculateBCHCode 35 = .ok (.iload_n 0, 1) := dk_26 (dk_at dksX2_calculateBCHCode_1 11 rfl rfl)
theorem dX2_calculateBCHCode_36 : decode cX2_calculateBCHCode 36 = .ok (.invokestatic 15, 3) := dk_184 0 15 (dk_at dksX2_calculateBCHCode_1 12 rfl rfl)
theorem dX2_calculateBCHCode_39 : decode cX2_calculateBCHCode 39 = .ok (.iload_n 2, 1) := dk_28 (dk_at dksX2_calculateBCHCode_1 15 rfl rfl)
theorem dX2_calculateBCHCode_40 : decode cX2_calculateBCHCode 40 = .ok (.isub, 1) := dk_100 (dk_at dksX2_calculateBCHCode_1 16 rfl rfl)
theorem dX2_calculateBCHCode_41 : decode cX2_calculateBCHCode 41 = .ok (.ishl, 1) := dk_120 (dk_at dksX2_calculateBCHCode_1 17 rfl rfl)
theorem dX2_calculateBCHCode_42 : decode cX2_calculateBCHCode 42 = .ok (.ixor, 1) := dk_130 (dk_at dksX2_calculateBCHCode_1 18 rfl rfl)
theorem dX2_calculateBCHCode_43 : decode cX2_calculateBCHCode 43 = .ok (.istore_n 0, 1) := dk_59 (dk_at dksX2_calculateBCHCode_1 19 rfl rfl)
theorem dX2_calculateBCHCode_44 : decode cX2_calculateBCHCode 44 = .ok (.goto (-19), 3) := dk_167 255 237 (dk_at dksX2_calculateBCHCode_1 20 rfl rfl)
theorem dX2_calculateBCHCode_47 : decode cX2_calculateBCHCode 47 = .ok (.iload_n 0, 1) := dk_26 (dk_at dksX2_calculateBCHCode_1 23 rfl rfl)
theorem dX2_calculateBCHCode_48 : decode cX2_calculateBCHCode 48 = .ok (.ireturn, 1) := dk_172 (dk_at dksX2_calculateBCHCode_2 0 rfl rfl)
theorem q3 : (Jvm.Cond.initialized "MatrixUtil") ∈ lw_all := lw_g (lw_at lw_m0 2 rfl) rfl
theorem q23 : (Jvm.Cond.static ({ cls := "MatrixUtil", name := "findMSBSet", desc := "(I)I" } : Jvm.MethodName)) ∈ lw_all := lw_g (lw_at lw_m0 22 rfl) rfl
theorem q24 : (Jvm.Cond.code ({ cls := "MatrixUtil", name := "findMSBSet", desc := "(I)I" } : Jvm.MethodName) prog_3_method_1_code (1 : Nat) (Option.some Jvm.ClassFile.FieldType.int)) ∈ lw_all := lw_g (lw_at lw_m0 23 rfl) rfl
theorem q25 : (Jvm.Cond.methodLink "MatrixUtil" (1 : Nat) ({ cls := "java/lang/Integer", name := "numberOfLeadingZeros", desc := "(I)I" } : Jvm.MethodName)) ∈ lw_all := lw_g (lw_at lw_m0 24 rfl) rfl
theorem q34 : (Jvm.Cond.static ({ cls := "MatrixUtil", name := "calculateBCHCode", desc := "(II)I" } : Jvm.MethodName)) ∈ lw_all := lw_g (lw_at lw_m0 33 rfl) rfl
theorem q35 : (Jvm.Cond.code ({ cls := "MatrixUtil", name := "calculateBCHCode", desc := "(II)I" } : Jvm.MethodName) prog_3_method_2_code (3 : Nat) (Option.some Jvm.ClassFile.FieldType.int)) ∈ lw_all := lw_g (lw_at lw_m0 34 rfl) rfl
theorem q36 : (Jvm.Cond.classLink "MatrixUtil" (7 : Nat) "java/lang/IllegalArgumentException") ∈ lw_all := lw_g (lw_at lw_m0 35 rfl) rfl
theorem q75 : (Jvm.Cond.stringRef "MatrixUtil" (9 : Nat) "0 polynomial") ∈ lw_tbl := lw_at lw_m0 74 rfl
theorem q76 : (Jvm.Cond.methodLink "MatrixUtil" (11 : Nat) ({ cls := "java/lang/IllegalArgumentException", name := "<init>", desc := "(Ljava/lang/String;)V" } : Jvm.MethodName)) ∈ lw_all := lw_g (lw_at lw_m0 75 rfl) rfl
theorem q102 : (Jvm.Cond.methodLink "MatrixUtil" (15 : Nat) ({ cls := "MatrixUtil", name := "findMSBSet", desc := "(I)I" } : Jvm.MethodName)) ∈ lw_all := lw_g (lw_at lw_m0 101 rfl) rfl
/-! java/lang/Integer -/
set_option maxRecDepth 100000
def RJ0 : String := "java/lang/Integer"
abbrev cJ0_numberOfLeadingZeros : ByteArray := prog_6_method_47_code
def yJ0_numberOfLeadingZeros : MethodName := ⟨RJ0, "numberOfLeadingZeros", "(I)I"⟩
def dkwJ0_numberOfLeadingZeros_3 : List UInt8 := [5, 124, 59, 27, 26, 4, 124, 100, 172]
abbrev dktJ0_numberOfLeadingZeros_3 : List UInt8 := dkwJ0_numberOfLeadingZeros_3 ++ []
def dkwJ0_numberOfLeadingZeros_2 : List UInt8 := [124, 59, 26, 16, 16, 161, 0, 10, 132, 1, 252, 26, 7, 124, 59, 26, 7, 161, 0, 10, 132, 1, 254, 26]
abbrev dktJ0_numberOfLeadingZeros_2 : List UInt8 := dkwJ0_numberOfLeadingZeros_2 ++ dktJ0_numberOfLeadingZeros_3
def dkwJ0_numberOfLeadingZeros_1 : List UInt8 := [161, 0, 11, 132, 1, 240, 26, 16, 16, 124, 59, 26, 17, 1, 0, 161, 0, 11, 132, 1, 248, 26, 16, 8]
abbrev dktJ0_numberOfLeadingZeros_1 : List UInt8 := dkwJ0_numberOfLeadingZeros_1 ++ dktJ0_numberOfLeadingZeros_2
def dkwJ0_numberOfLeadingZeros_0 : List UInt8 := [26, 157, 0, 14, 26, 154, 0, 8, 16, 32, 167, 0, 4, 3, 172, 16, 31, 60, 26, 19, 1, 8]
abbrev dktJ0_numberOfLeadingZeros_0 : List UInt8 := dkwJ0_numberOfLeadingZeros_0 ++ dktJ0_numberOfLeadingZeros_1
theorem dksJ0_numberOfLeadingZeros_0 : cJ0_numberOfLeadingZeros.data.toList.drop 0 = dktJ0_numberOfLeadingZeros_0 := by decide +kernel
theorem dksJ0_numberOfLeadingZeros_1 : cJ0_numberOfLeadingZeros.data.toList.drop 22 = dktJ0_numberOfLeadingZeros_1 := dk_seg dksJ0_numberOfLeadingZeros_0 22 rfl rfl
theorem dksJ0_numberOfLeadingZeros_2 : cJ0_numberOfLeadingZeros.data.toList.drop 46 = dktJ0_numberOfLeadingZeros_2 := dk_seg dksJ0_numberOfLeadingZeros_1 24 rfl rfl
theorem dksJ0_numberOfLeadingZeros_3 : cJ0_numberOfLeadingZeros.data.toList.drop 70 = dktJ0_numberOfLeadingZeros_3 := dk_seg dksJ0_numberOfLeadingZeros_2 24 rfl rfl
theorem dJ0_numberOfLeadingZeros_0 : decode cJ0_numberOfLeadingZeros 0 = .ok (.iload_n 0, 1) := dk_26 (dk_at dksJ0_numberOfLeadingZeros_0 0 rfl rfl)
theorem dJ0_numberOfLeadingZeros_1 : decode cJ0_numberOfLeadingZeros 1 = .ok (.ifCond .gt 14, 3) := dk_157 0 14 (dk_at dksJ0_numberOfLeadingZeros_0 1 rfl rfl)
theorem dJ0_numberOfLeadingZeros_4 : decode cJ0_numberOfLeadingZeros 4 = .ok (.iload_n 0, 1) := dk_26 (dk_at dksJ0_numberOfLeadingZeros_0 4 rfl rfl)
theorem dJ0_numberOfLeadingZeros_5 : decode cJ0_numberOfLeadingZeros 5 = .ok (.ifCond .ne 8, 3) := dk_154 0 8 (dk_at dksJ0_numberOfLeadingZeros_0 5 rfl rfl)
theorem dJ0_numberOfLeadingZeros_8 : decode cJ0_numberOfLeadingZeros 8 = .ok (.bipush 32, 2) := dk_16 32 (dk_at dksJ0_numberOfLeadingZeros_0 8 rfl rfl)
theorem dJ0_numberOfLeadingZeros_10 : decode cJ0_numberOfLeadingZeros 10 = .ok (.goto 4, 3) := dk_167 0 4 (dk_at dksJ0_numberOfLeadingZeros_0 10 rfl rfl)
theorem dJ0_numberOfLeadingZeros_13 : decode cJ0_numberOfLeadingZeros 13 = .ok (.iconst 0, 1) := dk_3 (dk_at dksJ0_numberOfLeadingZeros_0 13 rfl rfl)
theorem dJ0_numberOfLeadingZeros_14 : decode cJ0_numberOfLeadingZeros 14 = .ok (.ireturn, 1) := dk_172 (dk_at dksJ0_numberOfLeadingZeros_0 14 rfl rfl)
theorem dJ0_numberOfLeadingZeros_15 : decode cJ0_numberOfLeadingZeros 15 = .ok (.bipush 31, 2) := dk_16 31 (dk_at dksJ0_numberOfLeadingZeros_0 15 rfl rfl)
theorem dJ0_numberOfLeadingZeros_17 : decode cJ0_numberOfLeadingZeros 17 = .ok (.istore_n 1, 1) := dk_60 (dk_at dksJ0_numberOfLeadingZeros_0 17 rfl rfl)
theorem dJ0_numberOfLeadingZeros_18 : decode cJ0_numberOfLeadingZeros 18 = .ok (.iload_n 0, 1) := dk_26 (dk_at dksJ0_numberOfLeadingZeros_0 18 rfl rfl)
theorem dJ0_numberOfLeadingZeros_19 : decode cJ0_numberOfLeadingZeros 19 = .ok (.ldc_w 264, 3) := dk_19 1 8 (dk_at dksJ0_numberOfLeadingZeros_0 19 rfl rfl)
theorem dJ0_numberOfLeadingZeros_22 : decode cJ0_numberOfLeadingZeros 22 = .ok (.if_icmp .lt 11, 3) := dk_161 0 11 (dk_at dksJ0_numberOfLeadingZeros_1 0 rfl rfl)
theorem dJ0_numberOfLeadingZeros_25 : decode cJ0_numberOfLeadingZeros 25 = .ok (.iinc 1 (-16), 3) := dk_132 1 240 (dk_at dksJ0_numberOfLeadingZeros_1 3 rfl rfl)
theorem dJ0_numberOfLeadingZeros_28 : decode cJ0_numberOfLeadingZeros 28 = .ok (.iload_n 0, 1) := dk_26 (dk_at dksJ0_numberOfLeadingZeros_1 6 rfl rfl)
theorem dJ0_numberOfLeadingZeros_29 : decode cJ0_numberOfLeadingZeros 29 = .ok (.bipush 16, 2) := dk_16 16 (dk_at dksJ0_numberOfLeadingZeros_1 7 rfl rfl)
theorem dJ0_numberOfLeadingZeros_31 : decode cJ0_numberOfLeadingZeros 31 = .ok (.iushr, 1) := dk_124 (dk_at dksJ0_numberOfLeadingZeros_1 9 rfl rfl)
theorem dJ0_numberOfLeadingZeros_32 : decode cJ0_numberOfLeadingZeros 32 = .ok (.istore_n 0, 1) := dk_59 (dk_at dksJ0_numberOfLeadingZeros_1 10 rfl rfl)
theorem dJ0_numberOfLeadingZeros_33 : decode cJ0_numberOfLeadingZeros 33 = .ok (.iload_n 0, 1) := dk_26 (dk_at dksJ0_numberOfLeadingZeros_1 11 rfl rfl)
theorem dJ0_numberOfLeadingZeros_34 : decode cJ0_numberOfLeadingZeros 34 = .ok (.sipush 256, 3) := dk_17 1 0 (dk_at dksJ0_numberOfLeadingZeros_1 12 rfl rfl)
theorem dJ0_numberOfLeadingZeros_37 : decode cJ0_numberOfLeadingZeros 37 = .ok (.if_icmp .lt 11, 3) := dk_161 0 11 (dk_at dksJ0_numberOfLeadingZeros_1 15 rfl rfl)
theorem dJ0_numberOfLeadingZeros_40 : decode cJ0_numberOfLeadingZeros 40 = .ok (.iinc 1 (-8), 3) := dk_132 1 248 (dk_at dksJ0_numberOfLeadingZeros_1 18 rfl rfl)
theorem dJ0_numberOfLeadingZeros_43 : decode cJ0_numberOfLeadingZeros 43 = .ok (.iload_n 0, 1) := dk_26 (dk_at dksJ0_numberOfLeadingZeros_1 21 rfl rfl)
theorem dJ0_numberOfLeadingZeros_44 : decode cJ0_numberOfLeadingZeros 44 = .ok (.bipush 8, 2) := dk_16 8 (dk_at dksJ0_numberOfLeadingZeros_1 22 rfl rfl)
theorem dJ0_numberOfLeadingZeros_46 : decode cJ0_numberOfLeadingZeros 46 = .ok (.iushr, 1) := dk_124 (dk_at dksJ0_numberOfLeadingZeros_2 0 rfl rfl)
theorem dJ0_numberOfLeadingZeros_47 : decode cJ0_numberOfLeadingZeros 47 = .ok (.istore_n 0, 1) := dk_59 (dk_at dksJ0_numberOfLeadingZeros_2 1 rfl rfl)
theorem dJ0_numberOfLeadingZeros_48 : decode cJ0_numberOfLeadingZeros 48 = .ok (.iload_n 0, 1) := dk_26 (dk_at dksJ0_numberOfLeadingZeros_2 2 rfl rfl)
theorem dJ0_numberOfLeadingZeros_49 : decode cJ0_numberOfLeadingZeros 49 = .ok (.bipush 16, 2) := dk_16 16 (dk_at dksJ0_numberOfLeadingZeros_2 3 rfl rfl)
theorem dJ0_numberOfLeadingZeros_51 : decode cJ0_numberOfLeadingZeros 51 = .ok (.if_icmp .lt 10, 3) := dk_161 0 10 (dk_at dksJ0_numberOfLeadingZeros_2 5 rfl rfl)
theorem dJ0_numberOfLeadingZeros_54 : decode cJ0_numberOfLeadingZeros 54 = .ok (.iinc 1 (-4), 3) := dk_132 1 252 (dk_at dksJ0_numberOfLeadingZeros_2 8 rfl rfl)
theorem dJ0_numberOfLeadingZeros_57 : decode cJ0_numberOfLeadingZeros 57 = .ok (.iload_n 0, 1) := dk_26 (dk_at dksJ0_numberOfLeadingZeros_2 11 rfl rfl)
theorem dJ0_numberOfLeadingZeros_58 : decode cJ0_numberOfLeadingZeros 58 = .ok (.iconst 4, 1) := dk_7 (dk_at dksJ0_numberOfLeadingZeros_2 12 rfl rfl)
theorem dJ0_numberOfLeadingZeros_59 : decode cJ0_numberOfLeadingZeros 59 = .ok (.iushr, 1) := dk_124 (dk_at dksJ0_numberOfLeadingZeros_2 13 rfl rfl)
theorem dJ0_numberOfLeadingZeros_60 : decode cJ0_numberOfLeadingZeros 60 = .ok (.istore_n 0, 1) := dk_59 (dk_at dksJ0_numberOfLeadingZeros_2 14 rfl rfl)
theorem dJ0_numberOfLeadingZeros_61 : decode cJ0_numberOfLeadingZeros 61 = .ok (.iload_n 0, 1) := dk_26 (dk_at dksJ0_numberOfLeadingZeros_2 15 rfl rfl)
theorem dJ0_numberOfLeadingZeros_62 : decode cJ0_numberOfLeadingZeros 62 = .ok (.iconst 4, 1) := dk_7 (dk_at dksJ0_numberOfLeadingZeros_2 16 rfl rfl)
theorem dJ0_numberOfLeadingZeros_63 : decode cJ0_numberOfLeadingZeros 63 = .ok (.if_icmp .lt 10, 3) := dk_161 0 10 (dk_at dksJ0_numberOfLeadingZeros_2 17 rfl rfl)
theorem dJ0_numberOfLeadingZeros_66 : decode cJ0_numberOfLeadingZeros 66 = .ok (.iinc 1 (-2), 3) := dk_132 1 254 (dk_at dksJ0_numberOfLeadingZeros_2 20 rfl rfl)
theorem dJ0_numberOfLeadingZeros_69 : decode cJ0_numberOfLeadingZeros 69 = .ok (.iload_n 0, 1) := dk_26 (dk_at dksJ0_numberOfLeadingZeros_2 23 rfl rfl)
theorem dJ0_numberOfLeadingZeros_70 : decode cJ0_numberOfLeadingZeros 70 = .ok (.iconst 2, 1) := dk_5 (dk_at dksJ0_numberOfLeadingZeros_3 0 rfl rfl)
theorem dJ0_numberOfLeadingZeros_71 : decode cJ0_numberOfLeadingZeros 71 = .ok (.iushr, 1) := dk_124 (dk_at dksJ0_numberOfLeadingZeros_3 1 rfl rfl)
theorem dJ0_numberOfLeadingZeros_72 : decode cJ0_numberOfLeadingZeros 72 = .ok (.istore_n 0, 1) := dk_59 (dk_at dksJ0_numberOfLeadingZeros_3 2 rfl rfl)
theorem dJ0_numberOfLeadingZeros_73 : decode cJ0_numberOfLeadingZeros 73 = .ok (.iload_n 1, 1) := dk_27 (dk_at dksJ0_numberOfLeadingZeros_3 3 rfl rfl)
theorem dJ0_numberOfLeadingZeros_74 : decode cJ0_numberOfLeadingZeros 74 = .ok (.iload_n 0, 1) := dk_26 (dk_at dksJ0_numberOfLeadingZeros_3 4 rfl rfl)
theorem dJ0_numberOfLeadingZeros_75 : decode cJ0_numberOfLeadingZeros 75 = .ok (.iconst 1, 1) := dk_4 (dk_at dksJ0_numberOfLeadingZeros_3 5 rfl rfl)
theorem dJ0_numberOfLeadingZeros_76 : decode cJ0_numberOfLeadingZeros 76 = .ok (.iushr, 1) := dk_124 (dk_at dksJ0_numberOfLeadingZeros_3 6 rfl rfl)
theorem dJ0_numberOfLeadingZeros_77 : decode cJ0_numberOfLeadingZeros 77 = .ok (.isub, 1) := dk_100 (dk_at dksJ0_numberOfLeadingZeros_3 7 rfl rfl)
theorem dJ0_numberOfLeadingZeros_78 : decode cJ0_numberOfLeadingZeros 78 = .ok (.ireturn, 1) := dk_172 (dk_at dksJ0_numberOfLeadingZeros_3 8 rfl rfl)
theorem q4 : (Jvm.Cond.initialized "java/lang/Integer") ∈ lw_all := lw_g (lw_at lw_m0 3 rfl) rfl
theorem q26 : (Jvm.Cond.static ({ cls := "java/lang/Integer", name := "numberOfLeadingZeros", desc := "(I)I" } : Jvm.MethodName)) ∈ lw_all := lw_g (lw_at lw_m0 25 rfl) rfl
theorem q27 : (Jvm.Cond.code ({ cls := "java/lang/Integer", name := "numberOfLeadingZeros", desc := "(I)I" } : Jvm.MethodName) prog_6_method_47_code (2 : Nat) (Option.some Jvm.ClassFile.FieldType.int)) ∈ lw_all := lw_g (lw_at lw_m0 26 rfl) rfl
theorem q28 : (Jvm.Cond.constant "java/lang/Integer" (264 : Nat) (65536 : Int32)) ∈ lw_all := lw_g (lw_at lw_m0 27 rfl) rfl
/-! java/lang/Object -/
set_option maxRecDepth 100000
def RJ5 : String := "java/lang/Object"
abbrev cJ5_init : ByteArray := object_method_1_code
def yJ5_init : MethodName := ⟨RJ5, "<init>", "()V"⟩
theorem dJ5_init_0 : decode cJ5_init 0 = .ok (.return_, 1) := by decide +kernel
theorem q15 : (Jvm.Cond.instanceMethod ({ cls := "java/lang/Object", name := "<init>", desc := "()V" } : Jvm.MethodName)) ∈ lw_all := lw_g (lw_at lw_m0 14 rfl) rfl
theorem q16 : (Jvm.Cond.code ({ cls := "java/lang/Object", name := "<init>", desc := "()V" } : Jvm.MethodName) object_method_1_code (1 : Nat) (Option.none : Option Jvm.ClassFile.FieldType)) ∈ lw_all := lw_g (lw_at lw_m0 15 rfl) rfl
/-! the law's own entry -/
set_option maxRecDepth 100000
abbrev cL_law : ByteArray := code
def dkwL_law_10 : List UInt8 := [3, 172, 132, 3, 1, 167, 255, 202, 132, 2, 1, 167, 255, 188, 4, 172]
abbrev dktL_law_10 : List UInt8 := dkwL_law_10 ++ []
def dkwL_law_9 : List UInt8 := [16, 7, 161, 0, 22, 43, 28, 182, 0, 37, 43, 29, 182, 0, 37, 130, 184, 0, 40, 16, 8, 162, 0, 5]
abbrev dktL_law_9 : List UInt8 := dkwL_law_9 ++ dktL_law_10
def dkwL_law_8 : List UInt8 := [162, 0, 55, 28, 16, 32, 162, 0, 22, 43, 28, 182, 0, 34, 43, 29, 182, 0, 34, 130, 184, 0, 40]
abbrev dktL_law_8 : List UInt8 := dkwL_law_8 ++ dktL_law_9
def dkwL_law_7 : List UInt8 := [159, 0, 5, 3, 172, 132, 2, 1, 167, 255, 96, 3, 61, 28, 16, 34, 162, 0, 68, 3, 62, 29, 28]
abbrev dktL_law_7 : List UInt8 := dkwL_law_7 ++ dktL_law_8
def dkwL_law_6 : List UInt8 := [160, 0, 25, 43, 29, 182, 0, 37, 21, 7, 16, 12, 120, 21, 7, 17, 31, 37, 184, 0, 20, 128]
abbrev dktL_law_6 : List UInt8 := dkwL_law_6 ++ dktL_law_7
def dkwL_law_5 : List UInt8 := [29, 182, 0, 34, 21, 6, 16, 10, 120, 21, 6, 17, 5, 55, 184, 0, 20, 128, 17, 84, 18, 130]
abbrev dktL_law_5 : List UInt8 := dkwL_law_5 ++ dktL_law_6
def dkwL_law_4 : List UInt8 := [153, 0, 5, 3, 172, 29, 16, 31, 126, 54, 6, 16, 7, 29, 18, 33, 126, 16, 34, 112, 96, 54, 7, 43]
abbrev dktL_law_4 : List UInt8 := dkwL_law_4 ++ dktL_law_5
def dkwL_law_3 : List UInt8 := [29, 16, 31, 126, 120, 182, 0, 28, 29, 16, 31, 126, 4, 96, 160, 0, 11, 43, 3, 182, 0, 28]
abbrev dktL_law_3 : List UInt8 := dkwL_law_3 ++ dktL_law_4
def dkwL_law_2 : List UInt8 := [182, 0, 28, 29, 184, 0, 7, 160, 0, 42, 43, 29, 21, 4, 21, 5, 184, 0, 29, 153, 0, 30, 43, 4]
abbrev dktL_law_2 : List UInt8 := dkwL_law_2 ++ dktL_law_3
def dkwL_law_1 : List UInt8 := [4, 96, 16, 96, 112, 184, 0, 24, 54, 4, 42, 28, 5, 96, 16, 96, 112, 184, 0, 24, 54, 5, 43, 29]
abbrev dktL_law_1 : List UInt8 := dkwL_law_1 ++ dktL_law_2
def dkwL_law_0 : List UInt8 := [187, 0, 14, 89, 183, 0, 23, 76, 3, 61, 28, 16, 96, 162, 0, 160, 42, 28, 184, 0, 24, 62, 42, 28]
abbrev dktL_law_0 : List UInt8 := dkwL_law_0 ++ dktL_law_1
theorem dksL_law_0 : cL_law.data.toList.drop 0 = dktL_law_0 := by decide +kernel
theorem dksL_law_1 : cL_law.data.toList.drop 24 = dktL_law_1 := dk_seg dksL_law_0 24 rfl rfl
theorem dksL_law_2 : cL_law.data.toList.drop 48 = dktL_law_2 := dk_seg dksL_law_1 24 rfl rfl
theorem dksL_law_3 : cL_law.data.toList.drop 72 = dktL_law_3 := dk_seg dksL_law_2 24 rfl rfl
theorem dksL_law_4 : cL_law.data.toList.drop 94 = dktL_law_4 := dk_seg dksL_law_3 22 rfl rfl
theorem dksL_law_5 : cL_law.data.toList.drop 118 = dktL_law_5 := dk_seg dksL_law_4 24 rfl rfl
theorem dksL_law_6 : cL_law.data.toList.drop 140 = dktL_law_6 := dk_seg dksL_law_5 22 rfl rfl
theorem dksL_law_7 : cL_law.data.toList.drop 162 = dktL_law_7 := dk_seg dksL_law_6 22 rfl rfl
theorem dksL_law_8 : cL_law.data.toList.drop 185 = dktL_law_8 := dk_seg dksL_law_7 23 rfl rfl
theorem dksL_law_9 : cL_law.data.toList.drop 208 = dktL_law_9 := dk_seg dksL_law_8 23 rfl rfl
theorem dksL_law_10 : cL_law.data.toList.drop 232 = dktL_law_10 := dk_seg dksL_law_9 24 rfl rfl
theorem dL_law_0 : decode cL_law 0 = .ok (.new 14, 3) := dk_187 0 14 (dk_at dksL_law_0 0 rfl rfl)
theorem dL_law_3 : decode cL_law 3 = .ok (.dup, 1) := dk_89 (dk_at dksL_law_0 3 rfl rfl)
theorem dL_law_4 : decode cL_law 4 = .ok (.invokespecial 23, 3) := dk_183 0 23 (dk_at dksL_law_0 4 rfl rfl)
theorem dL_law_7 : decode cL_law 7 = .ok (.astore_n 1, 1) := dk_76 (dk_at dksL_law_0 7 rfl rfl)
theorem dL_law_8 : decode cL_law 8 = .ok (.iconst 0, 1) := dk_3 (dk_at dksL_law_0 8 rfl rfl)
theorem dL_law_9 : decode cL_law 9 = .ok (.istore_n 2, 1) := dk_61 (dk_at dksL_law_0 9 rfl rfl)
theorem dL_law_10 : decode cL_law 10 = .ok (.iload_n 2, 1) := dk_28 (dk_at dksL_law_0 10 rfl rfl)
theorem dL_law_11 : decode cL_law 11 = .ok (.bipush 96, 2) := dk_16 96 (dk_at dksL_law_0 11 rfl rfl)
theorem dL_law_13 : decode cL_law 13 = .ok (.if_icmp .ge 160, 3) := dk_162 0 160 (dk_at dksL_law_0 13 rfl rfl)
theorem dL_law_16 : decode cL_law 16 = .ok (.aload_n 0, 1) := dk_42 (dk_at dksL_law_0 16 rfl rfl)
theorem dL_law_17 : decode cL_law 17 = .ok (.iload_n 2, 1) := dk_28 (dk_at dksL_law_0 17 rfl rfl)
theorem dL_law_18 : decode cL_law 18 = .ok (.invokestatic 24, 3) := dk_184 0 24 (dk_at dksL_law_0 18 rfl rfl)
theorem dL_law_21 : decode cL_law 21 = .ok (.istore_n 3, 1) := dk_62 (dk_at dksL_law_0 21 rfl rfl)
theorem dL_law_22 : decode cL_law 22 = .ok (.aload_n 0, 1) := dk_42 (dk_at dksL_law_0 22 rfl rfl)
theorem dL_law_23 : decode cL_law 23 = .ok (.iload_n 2, 1) := dk_28 (dk_at dksL_law_0 23 rfl rfl)
theorem dL_law_24 : decode cL_law 24 = .ok (.iconst 1, 1) := dk_4 (dk_at dksL_law_1 0 rfl rfl)
theorem dL_law_25 : decode cL_law 25 = .ok (.iadd, 1) := dk_96 (dk_at dksL_law_1 1 rfl rfl)
theorem dL_law_26 : decode cL_law 26 = .ok (.bipush 96, 2) := dk_16 96 (dk_at dksL_law_1 2 rfl rfl)
theorem dL_law_28 : decode cL_law 28 = .ok (.irem, 1) := dk_112 (dk_at dksL_law_1 4 rfl rfl)
theorem dL_law_29 : decode cL_law 29 = .ok (.invokestatic 24, 3) := dk_184 0 24 (dk_at dksL_law_1 5 rfl rfl)
theorem dL_law_32 : decode cL_law 32 = .ok (.istore 4, 2) := dk_54 4 (dk_at dksL_law_1 8 rfl rfl)
theorem dL_law_34 : decode cL_law 34 = .ok (.aload_n 0, 1) := dk_42 (dk_at dksL_law_1 10 rfl rfl)
theorem dL_law_35 : decode cL_law 35 = .ok (.iload_n 2, 1) := dk_28 (dk_at dksL_law_1 11 rfl rfl)
theorem dL_law_36 : decode cL_law 36 = .ok (.iconst 2, 1) := dk_5 (dk_at dksL_law_1 12 rfl rfl)
theorem dL_law_37 : decode cL_law 37 = .ok (.iadd, 1) := dk_96 (dk_at dksL_law_1 13 rfl rfl)
theorem dL_law_38 : decode cL_law 38 = .ok (.bipush 96, 2) := dk_16 96 (dk_at dksL_law_1 14 rfl rfl)
theorem dL_law_40 : decode cL_law 40 = .ok (.irem, 1) := dk_112 (dk_at dksL_law_1 16 rfl rfl)
theorem dL_law_41 : decode cL_law 41 = .ok (.invokestatic 24, 3) := dk_184 0 24 (dk_at dksL_law_1 17 rfl rfl)
theorem dL_law_44 : decode cL_law 44 = .ok (.istore 5, 2) := dk_54 5 (dk_at dksL_law_1 20 rfl rfl)
theorem dL_law_46 : decode cL_law 46 = .ok (.aload_n 1, 1) := dk_43 (dk_at dksL_law_1 22 rfl rfl)
theorem dL_law_47 : decode cL_law 47 = .ok (.iload_n 3, 1) := dk_29 (dk_at dksL_law_1 23 rfl rfl)
theorem dL_law_48 : decode cL_law 48 = .ok (.invokevirtual 28, 3) := dk_182 0 28 (dk_at dksL_law_2 0 rfl rfl)
theorem dL_law_51 : decode cL_law 51 = .ok (.iload_n 3, 1) := dk_29 (dk_at dksL_law_2 3 rfl rfl)
theorem dL_law_52 : decode cL_law 52 = .ok (.invokestatic 7, 3) := dk_184 0 7 (dk_at dksL_law_2 4 rfl rfl)
theorem dL_law_55 : decode cL_law 55 = .ok (.if_icmp .ne 42, 3) := dk_160 0 42 (dk_at dksL_law_2 7 rfl rfl)
theorem dL_law_58 : decode cL_law 58 = .ok (.aload_n 1, 1) := dk_43 (dk_at dksL_law_2 10 rfl rfl)
theorem dL_law_59 : decode cL_law 59 = .ok (.iload_n 3, 1) := dk_29 (dk_at dksL_law_2 11 rfl rfl)
theorem dL_law_60 : decode cL_law 60 = .ok (.iload 4, 2) := dk_21 4 (dk_at dksL_law_2 12 rfl rfl)
theorem dL_law_62 : decode cL_law 62 = .ok (.iload 5, 2) := dk_21 5 (dk_at dksL_law_2 14 rfl rfl)
theorem dL_law_64 : decode cL_law 64 = .ok (.invokestatic 29, 3) := dk_184 0 29 (dk_at dksL_law_2 16 rfl rfl)
theorem dL_law_67 : decode cL_law 67 = .ok (.ifCond .eq 30, 3) := dk_153 0 30 (dk_at dksL_law_2 19 rfl rfl)
theorem dL_law_70 : decode cL_law 70 = .ok (.aload_n 1, 1) := dk_43 (dk_at dksL_law_2 22 rfl rfl)
theorem dL_law_71 : decode cL_law 71 = .ok (.iconst 1, 1) := dk_4 (dk_at dksL_law_2 23 rfl rfl)
theorem dL_law_72 : decode cL_law 72 = .ok (.iload_n 3, 1) := dk_29 (dk_at dksL_law_3 0 rfl rfl)
theorem dL_law_73 : decode cL_law 73 = .ok (.bipush 31, 2) := dk_16 31 (dk_at dksL_law_3 1 rfl rfl)
theorem dL_law_75 : decode cL_law 75 = .ok (.iand, 1) := dk_126 (dk_at dksL_law_3 3 rfl rfl)
theorem dL_law_76 : decode cL_law 76 = .ok (.ishl, 1) := dk_120 (dk_at dksL_law_3 4 rfl rfl)
theorem dL_law_77 : decode cL_law 77 = .ok (.invokevirtual 28, 3) := dk_182 0 28 (dk_at dksL_law_3 5 rfl rfl)
theorem dL_law_80 : decode cL_law 80 = .ok (.iload_n 3, 1) := dk_29 (dk_at dksL_law_3 8 rfl rfl)
theorem dL_law_81 : decode cL_law 81 = .ok (.bipush 31, 2) := dk_16 31 (dk_at dksL_law_3 9 rfl rfl)
theorem dL_law_83 : decode cL_law 83 = .ok (.iand, 1) := dk_126 (dk_at dksL_law_3 11 rfl rfl)
theorem dL_law_84 : decode cL_law 84 = .ok (.iconst 1, 1) := dk_4 (dk_at dksL_law_3 12 rfl rfl)
theorem dL_law_85 : decode cL_law 85 = .ok (.iadd, 1) := dk_96 (dk_at dksL_law_3 13 rfl rfl)
theorem dL_law_86 : decode cL_law 86 = .ok (.if_icmp .ne 11, 3) := dk_160 0 11 (dk_at dksL_law_3 14 rfl rfl)
theorem dL_law_89 : decode cL_law 89 = .ok (.aload_n 1, 1) := dk_43 (dk_at dksL_law_3 17 rfl rfl)
theorem dL_law_90 : decode cL_law 90 = .ok (.iconst 0, 1) := dk_3 (dk_at dksL_law_3 18 rfl rfl)
theorem dL_law_91 : decode cL_law 91 = .ok (.invokevirtual 28, 3) := dk_182 0 28 (dk_at dksL_law_3 19 rfl rfl)
theorem dL_law_94 : decode cL_law 94 = .ok (.ifCond .eq 5, 3) := dk_153 0 5 (dk_at dksL_law_4 0 rfl rfl)
theorem dL_law_97 : decode cL_law 97 = .ok (.iconst 0, 1) := dk_3 (dk_at dksL_law_4 3 rfl rfl)
theorem dL_law_98 : decode cL_law 98 = .ok (.ireturn, 1) := dk_172 (dk_at dksL_law_4 4 rfl rfl)
theorem dL_law_99 : decode cL_law 99 = .ok (.iload_n 3, 1) := dk_29 (dk_at dksL_law_4 5 rfl rfl)
theorem dL_law_100 : decode cL_law 100 = .ok (.bipush 31, 2) := dk_16 31 (dk_at dksL_law_4 6 rfl rfl)
theorem dL_law_102 : decode cL_law 102 = .ok (.iand, 1) := dk_126 (dk_at dksL_law_4 8 rfl rfl)
theorem dL_law_103 : decode cL_law 103 = .ok (.istore 6, 2) := dk_54 6 (dk_at dksL_law_4 9 rfl rfl)
theorem dL_law_105 : decode cL_law 105 = .ok (.bipush 7, 2) := dk_16 7 (dk_at dksL_law_4 11 rfl rfl)
theorem dL_law_107 : decode cL_law 107 = .ok (.iload_n 3, 1) := dk_29 (dk_at dksL_law_4 13 rfl rfl)
theorem dL_law_108 : decode cL_law 108 = .ok (.ldc 33, 2) := dk_18 33 (dk_at dksL_law_4 14 rfl rfl)
theorem dL_law_110 : decode cL_law 110 = .ok (.iand, 1) := dk_126 (dk_at dksL_law_4 16 rfl rfl)
theorem dL_law_111 : decode cL_law 111 = .ok (.bipush 34, 2) := dk_16 34 (dk_at dksL_law_4 17 rfl rfl)
theorem dL_law_113 : decode cL_law 113 = .ok (.irem, 1) := dk_112 (dk_at dksL_law_4 19 rfl rfl)
theorem dL_law_114 : decode cL_law 114 = .ok (.iadd, 1) := dk_96 (dk_at dksL_law_4 20 rfl rfl)
theorem dL_law_115 : decode cL_law 115 = .ok (.istore 7, 2) := dk_54 7 (dk_at dksL_law_4 21 rfl rfl)
theorem dL_law_117 : decode cL_law 117 = .ok (.aload_n 1, 1) := dk_43 (dk_at dksL_law_4 23 rfl rfl)
theorem dL_law_118 : decode cL_law 118 = .ok (.iload_n 3, 1) := dk_29 (dk_at dksL_law_5 0 rfl rfl)
theorem dL_law_119 : decode cL_law 119 = .ok (.invokevirtual 34, 3) := dk_182 0 34 (dk_at dksL_law_5 1 rfl rfl)
theorem dL_law_122 : decode cL_law 122 = .ok (.iload 6, 2) := dk_21 6 (dk_at dksL_law_5 4 rfl rfl)
theorem dL_law_124 : decode cL_law 124 = .ok (.bipush 10, 2) := dk_16 10 (dk_at dksL_law_5 6 rfl rfl)
theorem dL_law_126 : decode cL_law 126 = .ok (.ishl, 1) := dk_120 (dk_at dksL_law_5 8 rfl rfl)
theorem dL_law_127 : decode cL_law 127 = .ok (.iload 6, 2) := dk_21 6 (dk_at dksL_law_5 9 rfl rfl)
theorem dL_law_129 : decode cL_law 129 = .ok (.sipush 1335, 3) := dk_17 5 55 (dk_at dksL_law_5 11 rfl rfl)
theorem dL_law_132 : decode cL_law 132 = .ok (.invokestatic 20, 3) := dk_184 0 20 (dk_at dksL_law_5 14 rfl rfl)
theorem dL_law_135 : decode cL_law 135 = .ok (.ior, 1) := dk_128 (dk_at dksL_law_5 17 rfl rfl)
theorem dL_law_136 : decode cL_law 136 = .ok (.sipush 21522, 3) := dk_17 84 18 (dk_at dksL_law_5 18 rfl rfl)
theorem dL_law_139 : decode cL_law 139 = .ok (.ixor, 1) := dk_130 (dk_at dksL_law_5 21 rfl rfl)
theorem dL_law_140 : decode cL_law 140 = .ok (.if_icmp .ne 25, 3) := dk_160 0 25 (dk_at dksL_law_6 0 rfl rfl)
theorem dL_law_143 : decode cL_law 143 = .ok (.aload_n 1, 1) := dk_43 (dk_at dksL_law_6 3 rfl rfl)
theorem dL_law_144 : decode cL_law 144 = .ok (.iload_n 3, 1) := dk_29 (dk_at dksL_law_6 4 rfl rfl)
theorem dL_law_145 : decode cL_law 145 = .ok (.invokevirtual 37, 3) := dk_182 0 37 (dk_at dksL_law_6 5 rfl rfl)
theorem dL_law_148 : decode cL_law 148 = .ok (.iload 7, 2) := dk_21 7 (dk_at dksL_law_6 8 rfl rfl)
theorem dL_law_150 : decode cL_law 150 = .ok (.bipush 12, 2) := dk_16 12 (dk_at dksL_law_6 10 rfl rfl)
theorem dL_law_152 : decode cL_law 152 = .ok (.ishl, 1) := dk_120 (dk_at dksL_law_6 12 rfl rfl)
theorem dL_law_153 : decode cL_law 153 = .ok (.iload 7, 2) := dk_21 7 (dk_at dksL_law_6 13 rfl rfl)
theorem dL_law_155 : decode cL_law 155 = .ok (.sipush 7973, 3) := dk_17 31 37 (dk_at dksL_law_6 15 rfl rfl)
theorem dL_law_158 : decode cL_law 158 = .ok (.invokestatic 20, 3) := dk_184 0 20 (dk_at dksL_law_6 18 rfl rfl)
theorem dL_law_161 : decode cL_law 161 = .ok (.ior, 1) := dk_128 (dk_at dksL_law_6 21 rfl rfl)
theorem dL_law_162 : decode cL_law 162 = .ok (.if_icmp .eq 5, 3) := dk_159 0 5 (dk_at dksL_law_7 0 rfl rfl)
theorem dL_law_165 : decode cL_law 165 = .ok (.iconst 0, 1) := dk_3 (dk_at dksL_law_7 3 rfl rfl)
theorem dL_law_166 : decode cL_law 166 = .ok (.ireturn, 1) := dk_172 (dk_at dksL_law_7 4 rfl rfl)
theorem dL_law_167 : decode cL_law 167 = .ok (.iinc 2 1, 3) := dk_132 2 1 (dk_at dksL_law_7 5 rfl rfl)
theorem dL_law_170 : decode cL_law 170 = .ok (.goto (-160), 3) := dk_167 255 96 (dk_at dksL_law_7 8 rfl rfl)
theorem dL_law_173 : decode cL_law 173 = .ok (.iconst 0, 1) := dk_3 (dk_at dksL_law_7 11 rfl rfl)
theorem dL_law_174 : decode cL_law 174 = .ok (.istore_n 2, 1) := dk_61 (dk_at dksL_law_7 12 rfl rfl)
theorem dL_law_175 : decode cL_law 175 = .ok (.iload_n 2, 1) := dk_28 (dk_at dksL_law_7 13 rfl rfl)
theorem dL_law_176 : decode cL_law 176 = .ok (.bipush 34, 2) := dk_16 34 (dk_at dksL_law_7 14 rfl rfl)
theorem dL_law_178 : decode cL_law 178 = .ok (.if_icmp .ge 68, 3) := dk_162 0 68 (dk_at dksL_law_7 16 rfl rfl)
theorem dL_law_181 : decode cL_law 181 = .ok (.iconst 0, 1) := dk_3 (dk_at dksL_law_7 19 rfl rfl)
theorem dL_law_182 : decode cL_law 182 = .ok (.istore_n 3, 1) := dk_62 (dk_at dksL_law_7 20 rfl rfl)
theorem dL_law_183 : decode cL_law 183 = .ok (.iload_n 3, 1) := dk_29 (dk_at dksL_law_7 21 rfl rfl)
theorem dL_law_184 : decode cL_law 184 = .ok (.iload_n 2, 1) := dk_28 (dk_at dksL_law_7 22 rfl rfl)
theorem dL_law_185 : decode cL_law 185 = .ok (.if_icmp .ge 55, 3) := dk_162 0 55 (dk_at dksL_law_8 0 rfl rfl)
theorem dL_law_188 : decode cL_law 188 = .ok (.iload_n 2, 1) := dk_28 (dk_at dksL_law_8 3 rfl rfl)
theorem dL_law_189 : decode cL_law 189 = .ok (.bipush 32, 2) := dk_16 32 (dk_at dksL_law_8 4 rfl rfl)
theorem dL_law_191 : decode cL_law 191 = .ok (.if_icmp .ge 22, 3) := dk_162 0 22 (dk_at dksL_law_8 6 rfl rfl)
theorem dL_law_194 : decode cL_law 194 = .ok (.aload_n 1, 1) := dk_43 (dk_at dksL_law_8 9 rfl rfl)
theorem dL_law_195 : decode cL_law 195 = .ok (.iload_n 2, 1) := dk_28 (dk_at dksL_law_8 10 rfl rfl)
theorem dL_law_196 : decode cL_law 196 = .ok (.invokevirtual 34, 3) := dk_182 0 34 (dk_at dksL_law_8 11 rfl rfl)
theorem dL_law_199 : decode cL_law 199 = .ok (.aload_n 1, 1) := dk_43 (dk_at dksL_law_8 14 rfl rfl)
theorem dL_law_200 : decode cL_law 200 = .ok (.iload_n 3, 1) := dk_29 (dk_at dksL_law_8 15 rfl rfl)
theorem dL_law_201 : decode cL_law 201 = .ok (.invokevirtual 34, 3) := dk_182 0 34 (dk_at dksL_law_8 16 rfl rfl)
theorem dL_law_204 : decode cL_law 204 = .ok (.ixor, 1) := dk_130 (dk_at dksL_law_8 19 rfl rfl)
theorem dL_law_205 : decode cL_law 205 = .ok (.invokestatic 40, 3) := dk_184 0 40 (dk_at dksL_law_8 20 rfl rfl)
theorem dL_law_208 : decode cL_law 208 = .ok (.bipush 7, 2) := dk_16 7 (dk_at dksL_law_9 0 rfl rfl)
theorem dL_law_210 : decode cL_law 210 = .ok (.if_icmp .lt 22, 3) := dk_161 0 22 (dk_at dksL_law_9 2 rfl rfl)
theorem dL_law_213 : decode cL_law 213 = .ok (.aload_n 1, 1) := dk_43 (dk_at dksL_law_9 5 rfl rfl)
theorem dL_law_214 : decode cL_law 214 = .ok (.iload_n 2, 1) := dk_28 (dk_at dksL_law_9 6 rfl rfl)
theorem dL_law_215 : decode cL_law 215 = .ok (.invokevirtual 37, 3) := dk_182 0 37 (dk_at dksL_law_9 7 rfl rfl)
theorem dL_law_218 : decode cL_law 218 = .ok (.aload_n 1, 1) := dk_43 (dk_at dksL_law_9 10 rfl rfl)
theorem dL_law_219 : decode cL_law 219 = .ok (.iload_n 3, 1) := dk_29 (dk_at dksL_law_9 11 rfl rfl)
theorem dL_law_220 : decode cL_law 220 = .ok (.invokevirtual 37, 3) := dk_182 0 37 (dk_at dksL_law_9 12 rfl rfl)
theorem dL_law_223 : decode cL_law 223 = .ok (.ixor, 1) := dk_130 (dk_at dksL_law_9 15 rfl rfl)
theorem dL_law_224 : decode cL_law 224 = .ok (.invokestatic 40, 3) := dk_184 0 40 (dk_at dksL_law_9 16 rfl rfl)
theorem dL_law_227 : decode cL_law 227 = .ok (.bipush 8, 2) := dk_16 8 (dk_at dksL_law_9 19 rfl rfl)
theorem dL_law_229 : decode cL_law 229 = .ok (.if_icmp .ge 5, 3) := dk_162 0 5 (dk_at dksL_law_9 21 rfl rfl)
theorem dL_law_232 : decode cL_law 232 = .ok (.iconst 0, 1) := dk_3 (dk_at dksL_law_10 0 rfl rfl)
theorem dL_law_233 : decode cL_law 233 = .ok (.ireturn, 1) := dk_172 (dk_at dksL_law_10 1 rfl rfl)
theorem dL_law_234 : decode cL_law 234 = .ok (.iinc 3 1, 3) := dk_132 3 1 (dk_at dksL_law_10 2 rfl rfl)
theorem dL_law_237 : decode cL_law 237 = .ok (.goto (-54), 3) := dk_167 255 202 (dk_at dksL_law_10 5 rfl rfl)
theorem dL_law_240 : decode cL_law 240 = .ok (.iinc 2 1, 3) := dk_132 2 1 (dk_at dksL_law_10 8 rfl rfl)
theorem dL_law_243 : decode cL_law 243 = .ok (.goto (-68), 3) := dk_167 255 188 (dk_at dksL_law_10 11 rfl rfl)
theorem dL_law_246 : decode cL_law 246 = .ok (.iconst 1, 1) := dk_4 (dk_at dksL_law_10 14 rfl rfl)
theorem dL_law_247 : decode cL_law 247 = .ok (.ireturn, 1) := dk_172 (dk_at dksL_law_10 15 rfl rfl)
end
section
/-! THE PLAIN LAW, no program in sight: how long a number is, the long division over bits -/
/-- how many bits a number has, up to the highest one that is set -/
def bc_bl (n : Nat) : Nat := if n = 0 then 0 else n.log2 + 1
theorem bc_bl_le {n k : Nat} : bc_bl n ≤ k ↔ n < 2 ^ k := by
  unfold bc_bl
  by_cases h : n = 0
  · subst h
    rw [if_pos rfl]
    exact ⟨fun _ => Nat.two_pow_pos k, fun _ => Nat.zero_le k⟩
  · rw [if_neg h, ← Nat.log2_lt h]
    exact Nat.succ_le_iff
theorem bc_lt_bl {n k : Nat} : k < bc_bl n ↔ 2 ^ k ≤ n := by
  have h := bc_bl_le (n := n) (k := k)
  omega
theorem bc_bl_of {n k : Nat} (h1 : 2 ^ k ≤ n) (h2 : n < 2 ^ (k + 1)) : bc_bl n = k + 1 := by
  have a := bc_lt_bl.mpr h1
  have b := bc_bl_le.mpr h2
  omega
theorem bc_bl_0 : bc_bl 0 = 0 := rfl
theorem bc_bl_div {n k : Nat} (h : 2 ^ k ≤ n) : bc_bl (n / 2 ^ k) + k = bc_bl n := by
  have key : ∀ t, bc_bl (n / 2 ^ k) ≤ t ↔ bc_bl n ≤ t + k := by
    intro t
    rw [bc_bl_le, bc_bl_le, Nat.pow_add, Nat.div_lt_iff_lt_mul (Nat.two_pow_pos k)]
  have h0 := bc_lt_bl.mpr h
  have h1 := (key (bc_bl (n / 2 ^ k))).mp (Nat.le_refl _)
  have h2 := (key (bc_bl n - k)).mpr (by omega)
  omega
theorem bc_bl_mod (v k : Nat) : bc_bl (v % 2 ^ (k + 1)) = if v.testBit k = true then k + 1 else bc_bl (v % 2 ^ k) := by
  have hm : v % 2 ^ k < 2 ^ k := Nat.mod_lt _ (Nat.two_pow_pos k)
  rw [Nat.mod_pow_succ, Nat.testBit_eq_decide_div_mod_eq]
  rcases Nat.mod_two_eq_zero_or_one (v / 2 ^ k) with e | e
  · rw [e, if_neg (by decide), Nat.mul_zero, Nat.add_zero]
  · rw [e, if_pos (by decide), Nat.mul_one]
    exact bc_bl_of (Nat.le_add_left _ _) (by rw [Nat.pow_add_one]; omega)
theorem bc_tb1 {n k : Nat} (h1 : 2 ^ k ≤ n) (h2 : n < 2 ^ (k + 1)) : n.testBit k = true := by
  rw [Nat.testBit_eq_decide_div_mod_eq]
  have e : n / 2 ^ k = 1 := Nat.div_eq_of_lt_le (by omega) (by rw [Nat.pow_add_one] at h2; omega)
  exact decide_eq_true (by omega)
theorem bc_tb0 {n k : Nat} (h : n < 2 ^ k) : n.testBit k = false := Nat.testBit_lt_two_pow h
theorem bc_x1 (a b q : Nat) : a ^^^ b ^^^ q = (a ^^^ q) ^^^ b := by
  apply Nat.eq_of_testBit_eq
  intro i
  simp only [Nat.testBit_xor]
  cases a.testBit i <;> cases b.testBit i <;> cases q.testBit i <;> rfl
theorem bc_x2 (a b q : Nat) : a ^^^ b ^^^ q = a ^^^ (b ^^^ q) := by
  apply Nat.eq_of_testBit_eq
  intro i
  simp only [Nat.testBit_xor]
  cases a.testBit i <;> cases b.testBit i <;> cases q.testBit i <;> rfl
theorem bc_x3 (a b q : Nat) : a ^^^ b = (a ^^^ q) ^^^ (b ^^^ q) := by
  apply Nat.eq_of_testBit_eq
  intro i
  simp only [Nat.testBit_xor]
  cases a.testBit i <;> cases b.testBit i <;> cases q.testBit i <;> rfl
/-- two numbers of the same length: their difference over bits is shorter -/
theorem bc_drop {x y k : Nat} (hx1 : 2 ^ k ≤ x) (hx2 : x < 2 ^ (k + 1)) (hy1 : 2 ^ k ≤ y) (hy2 : y < 2 ^ (k + 1)) : x ^^^ y < 2 ^ k := by
  apply Nat.lt_pow_two_of_testBit
  intro i hi
  rw [Nat.testBit_xor]
  rcases Nat.lt_or_ge k i with h | h
  · have hp : 2 ^ (k + 1) ≤ 2 ^ i := Nat.pow_le_pow_right (by decide) h
    rw [bc_tb0 (Nat.lt_of_lt_of_le hx2 hp), bc_tb0 (Nat.lt_of_lt_of_le hy2 hp)] <;> rfl
  · have e : k = i := Nat.le_antisymm hi h
    subst e
    rw [bc_tb1 hx1 hx2, bc_tb1 hy1 hy2] <;> rfl
/-- the long division over bits: n steps, from the bit d + n - 1 down to the bit d -/
def bc_red (p d : Nat) : Nat → Nat → Nat
  | 0, r => r
  | n + 1, r => bc_red p d n (if r.testBit (d + n) = true then r ^^^ (p * 2 ^ n) else r)
theorem bc_red_s (p d n r : Nat) : bc_red p d (n + 1) r = bc_red p d n (if r.testBit (d + n) = true then r ^^^ (p * 2 ^ n) else r) := rfl
/-- one step adds over bits -/
theorem bc_step_lin (x y : Bool) (a b q : Nat) : (if (x ^^ y) = true then a ^^^ b ^^^ q else a ^^^ b) = (if x = true then a ^^^ q else a) ^^^ (if y = true then b ^^^ q else b) := by
  cases x <;> cases y
  · rfl
  · exact bc_x2 a b q
  · exact bc_x1 a b q
  · exact bc_x3 a b q
/-- the rests add over bits -/
theorem bc_red_lin (p d : Nat) : ∀ (n a b : Nat), bc_red p d n (a ^^^ b) = bc_red p d n a ^^^ bc_red p d n b := by
  intro n
  induction n with
  | zero => intro a b; rfl
  | succ n ih =>
    intro a b
    rw [bc_red_s p d n (a ^^^ b), bc_red_s p d n a, bc_red_s p d n b, ← ih, Nat.testBit_xor, bc_step_lin]
theorem bc_skip {p d n r : Nat} (h : r < 2 ^ (d + n)) : bc_red p d (n + 1) r = bc_red p d n r := by
  rw [bc_red_s, bc_tb0 h, if_neg Bool.false_ne_true]
theorem bc_skips {p d n r : Nat} (h : r < 2 ^ (d + n)) : ∀ j, bc_red p d (n + j) r = bc_red p d n r := by
  intro j
  induction j with
  | zero => rfl
  | succ j ih =>
    rw [← ih]
    exact bc_skip (n := n + j) (Nat.lt_of_lt_of_le h (Nat.pow_le_pow_right (by decide) (by omega)))
theorem bc_small {p d r : Nat} (h : r < 2 ^ d) (n : Nat) : bc_red p d n r = r := by
  have e := bc_skips (p := p) (d := d) (n := 0) (r := r) h n
  rw [Nat.zero_add] at e
  exact e
theorem bc_step {p d n r : Nat} (h1 : 2 ^ (d + n) ≤ r) (h2 : r < 2 ^ (d + n + 1)) : bc_red p d (n + 1) r = bc_red p d n (r ^^^ (p * 2 ^ n)) := by
  rw [bc_red_s, bc_tb1 h1 h2, if_pos rfl]
theorem bc_pow1 (d n : Nat) : 2 ^ (d + n + 1) = 2 ^ (d + 1) * 2 ^ n := by
  rw [← Nat.pow_add]
  congr 1
  omega
theorem bc_pb {p d : Nat} (n : Nat) (hp1 : 2 ^ d ≤ p) (hp2 : p < 2 ^ (d + 1)) : 2 ^ (d + n) ≤ p * 2 ^ n ∧ p * 2 ^ n < 2 ^ (d + n + 1) := by
  rw [bc_pow1 d n, Nat.pow_add 2 d n]
  exact ⟨Nat.mul_le_mul_right _ hp1, Nat.mul_lt_mul_of_pos_right hp2 (Nat.two_pow_pos n)⟩
/-- a rest is shorter than the polynomial -/
theorem bc_red_lt {p d : Nat} (hp1 : 2 ^ d ≤ p) (hp2 : p < 2 ^ (d + 1)) : ∀ (n r : Nat), r < 2 ^ (d + n) → bc_red p d n r < 2 ^ d := by
  intro n
  induction n with
  | zero => intro r h; exact h
  | succ n ih =>
    intro r h
    rcases Nat.lt_or_ge r (2 ^ (d + n)) with q | q
    · rw [bc_skip q]
      exact ih r q
    · rw [bc_step q h]
      obtain ⟨a, b⟩ := bc_pb n hp1 hp2
      exact ih _ (bc_drop q h a b)
theorem bc_red_0 (p d n : Nat) : bc_red p d n 0 = 0 := bc_small (Nat.two_pow_pos d) n
theorem bc_red_p {p d j n : Nat} (hp1 : 2 ^ d ≤ p) (hp2 : p < 2 ^ (d + 1)) (h : j < n) : bc_red p d n (p * 2 ^ j) = 0 := by
  obtain ⟨a, b⟩ := bc_pb j hp1 hp2
  obtain ⟨t, rfl⟩ : ∃ t, n = j + 1 + t := ⟨n - (j + 1), by omega⟩
  rw [bc_skips (n := j + 1) b t, bc_step a b, Nat.xor_self, bc_red_0]
/-- the law's multiple of the polynomial: k bits of w say which shifts of p it adds -/
def bc_tms (p w : Nat) : Nat → Nat
  | 0 => 0
  | k + 1 => bc_tms p w k ^^^ (if w.testBit k = true then p * 2 ^ k else 0)
theorem bc_tms_s (p w k : Nat) : bc_tms p w (k + 1) = bc_tms p w k ^^^ (if w.testBit k = true then p * 2 ^ k else 0) := rfl
theorem bc_tms_lt {p d : Nat} (w : Nat) (hp2 : p < 2 ^ (d + 1)) : ∀ k, bc_tms p w k < 2 ^ (d + k) := by
  intro k
  induction k with
  | zero => exact Nat.two_pow_pos _
  | succ k ih =>
    rw [bc_tms_s]
    refine Nat.xor_lt_two_pow (Nat.lt_of_lt_of_le ih (Nat.pow_le_pow_right (by decide) (by omega))) ?_
    split
    · show p * 2 ^ k < 2 ^ (d + k + 1)
      rw [bc_pow1]
      exact Nat.mul_lt_mul_of_pos_right hp2 (Nat.two_pow_pos k)
    · exact Nat.two_pow_pos _
theorem bc_mul_xor (a b d : Nat) : (a ^^^ b) * 2 ^ d = a * 2 ^ d ^^^ b * 2 ^ d := by
  rw [← Nat.shiftLeft_eq, ← Nat.shiftLeft_eq, ← Nat.shiftLeft_eq, Nat.shiftLeft_xor_distrib]
theorem bc_red_tms {p d : Nat} (w : Nat) (hp1 : 2 ^ d ≤ p) (hp2 : p < 2 ^ (d + 1)) {N : Nat} : ∀ k, k + d ≤ N → bc_red p d N (bc_tms p w k * 2 ^ d) = 0 := by
  intro k
  induction k with
  | zero =>
    intro _
    show bc_red p d N (0 * 2 ^ d) = 0
    rw [Nat.zero_mul, bc_red_0]
  | succ k ih =>
    intro h
    rw [bc_tms_s, bc_mul_xor, bc_red_lin, ih (by omega), Nat.zero_xor]
    split
    · rw [Nat.mul_assoc, ← Nat.pow_add]
      exact bc_red_p hp1 hp2 (by omega)
    · rw [Nat.zero_mul, bc_red_0]
/-- what the long division by p leaves of the lowest 16 bits of a, moved up by the degree of p -/
def bc_rst (a p : Nat) : Nat := bc_red p (bc_bl p - 1) (32 - bc_bl p) (a % 65536 * 2 ^ (bc_bl p - 1))
/-- a polynomial of the law: its degree -/
theorem bc_pd {p : Nat} (h2 : 2 ≤ p) (h14 : p < 16384) : ∃ d, 1 ≤ d ∧ d ≤ 13 ∧ bc_bl p = d + 1 ∧ 2 ^ d ≤ p ∧ p < 2 ^ (d + 1) := by
  have a : 1 < bc_bl p := bc_lt_bl.mpr (show 2 ^ 1 ≤ p from h2)
  have b : bc_bl p ≤ 14 := bc_bl_le.mpr (show p < 2 ^ 14 from h14)
  exact ⟨bc_bl p - 1, by omega, by omega, by omega, bc_lt_bl.mp (by omega), bc_bl_le.mp (by omega)⟩
theorem bc_rst_d {p d : Nat} (a : Nat) (hb : bc_bl p = d + 1) : bc_rst a p = bc_red p d (31 - d) (a % 65536 * 2 ^ d) := by
  unfold bc_rst
  rw [hb, Nat.add_sub_cancel, show 32 - (d + 1) = 31 - d by omega]
theorem bc_sh16 {d : Nat} (a : Nat) (hd : d ≤ 13) : a % 65536 * 2 ^ d < 2 ^ (d + (31 - d)) := by
  have h1 : a % 65536 * 2 ^ d < 2 ^ 16 * 2 ^ d := Nat.mul_lt_mul_of_pos_right (Nat.mod_lt _ (by decide)) (Nat.two_pow_pos d)
  rw [← Nat.pow_add] at h1
  exact Nat.lt_of_lt_of_le h1 (Nat.pow_le_pow_right (by decide) (by omega))
theorem bc_rst_lt {p d : Nat} (a : Nat) (hd : d ≤ 13) (hb : bc_bl p = d + 1) (hp1 : 2 ^ d ≤ p) (hp2 : p < 2 ^ (d + 1)) : bc_rst a p < 2 ^ d := by
  rw [bc_rst_d a hb]
  exact bc_red_lt hp1 hp2 _ _ (bc_sh16 a hd)
theorem bc_rst_lin (a b p : Nat) : bc_rst (a ^^^ b) p = bc_rst a p ^^^ bc_rst b p := by
  unfold bc_rst
  rw [show (65536 : Nat) = 2 ^ 16 from rfl, Nat.xor_mod_two_pow, bc_mul_xor, bc_red_lin]
theorem bc_rst_0 (p : Nat) : bc_rst 0 p = 0 := by
  unfold bc_rst
  rw [Nat.zero_mod, Nat.zero_mul, bc_red_0]
theorem bc_tms_16 {p d k : Nat} (w : Nat) (hk : k + d ≤ 15) (hp2 : p < 2 ^ (d + 1)) : bc_tms p w k < 32768 :=
  Nat.lt_of_lt_of_le (bc_tms_lt w hp2 k) (show 2 ^ (d + k) ≤ 2 ^ 15 from Nat.pow_le_pow_right (by decide) (by omega))
theorem bc_rst_tms {p d k : Nat} (w : Nat) (hk : k + d ≤ 15) (hb : bc_bl p = d + 1) (hp1 : 2 ^ d ≤ p) (hp2 : p < 2 ^ (d + 1)) : bc_rst (bc_tms p w k) p = 0 := by
  have h := bc_tms_16 w hk hp2
  rw [bc_rst_d _ hb, Nat.mod_eq_of_lt (by omega)]
  exact bc_red_tms w hp1 hp2 k (by omega)
/-- how many of the lowest k bits are set -/
def bc_cnt (n : Nat) : Nat → Nat
  | 0 => 0
  | k + 1 => bc_cnt n k + n / 2 ^ k % 2
theorem bc_cnt_s (n k : Nat) : bc_cnt n (k + 1) = bc_cnt n k + n / 2 ^ k % 2 := rfl
theorem bc_cnt_le (n : Nat) : ∀ k, bc_cnt n k ≤ k := by
  intro k
  induction k with
  | zero => exact Nat.le_refl 0
  | succ k ih =>
    rw [bc_cnt_s]
    have h : n / 2 ^ k % 2 < 2 := Nat.mod_lt _ (by decide)
    omega
/-- the words of format and of version information -/
def bc_fmt (f : Nat) : Nat := (f * 2 ^ 10 ||| bc_rst f 1335) ^^^ 21522
def bc_ver (n : Nat) : Nat := n * 2 ^ 12 ||| bc_rst n 7973
theorem bc_fmt_lt : ∀ a, a < 32 → bc_fmt a < 65536 := by decide +kernel
theorem bc_ver_lt : ∀ a, a < 41 → bc_ver a < 262144 := by decide +kernel
theorem bc_fmt_ok : ∀ a, a < 32 → ∀ b, b < a → 7 ≤ bc_cnt (bc_fmt a ^^^ bc_fmt b) 32 := by decide +kernel
theorem bc_ver_ok : ∀ a, a < 34 → ∀ b, b < a → 8 ≤ bc_cnt (bc_ver (7 + a) ^^^ bc_ver (7 + b)) 32 := by decide +kernel
theorem bc_rst_mod (a p : Nat) : bc_rst (a % 65536) p = bc_rst a p := by
  unfold bc_rst
  rw [Nat.mod_mod]
end
section
/-! INTS AS NUMBERS: what Java's operations do to nI n. The first four rows are out of BITS.to-paste -/
theorem s_l : ∀ n, n < 32 → ((nI n &&& 31).toBitVec.smod 32).toNat = n := by decide +kernel
theorem s_u : ∀ n, n < 32 → (((nI n).toUInt32 &&& Int32.toUInt32 31).toBitVec % 32).toNat = n := by decide +kernel
theorem nx_xor (a b : Nat) : nI a ^^^ nI b = nI (a ^^^ b) := by
  apply Int32.toBitVec_inj.1
  show BitVec.ofNat 32 a ^^^ BitVec.ofNat 32 b = BitVec.ofNat 32 (a ^^^ b)
  apply BitVec.eq_of_getLsbD_eq
  intro i hi
  simp [hi]
theorem wb_of32 (x : Int32) : ∃ n, n < 2 ^ 32 ∧ x = nI n := ⟨x.toBitVec.toNat, x.toBitVec.isLt, Int32.toBitVec_inj.mp (by show _ = BitVec.ofNat 32 _; simp)⟩
theorem bc_or (a b : Nat) : nI a ||| nI b = nI (a ||| b) := by
  apply Int32.toBitVec_inj.1
  show BitVec.ofNat 32 a ||| BitVec.ofNat 32 b = BitVec.ofNat 32 (a ||| b)
  apply BitVec.eq_of_getLsbD_eq
  intro i hi
  simp [hi]
theorem bc_sh {n k : Nat} (hk : k < 32) (h : n * 2 ^ k < 2 ^ 32) : nI n <<< (nI k &&& 31) = nI (n * 2 ^ k) := pk_shlN _ k (s_l k hk) h
theorem bc_us {n k : Nat} (hn : n < 2 ^ 32) (hk : k < 32) : ((nI n).toUInt32 >>> ((nI k).toUInt32 &&& Int32.toUInt32 31)).toInt32 = nI (n / 2 ^ k) := pk_ushrN hn (nI k) k (s_u k hk)
theorem bc_and1 {n : Nat} (hn : n < 2 ^ 32) : nI n &&& nI 1 = nI (n % 2) := pk_andN hn 1 (m := nI 1) (by decide +kernel)
theorem bc_and31 {n : Nat} (hn : n < 2 ^ 32) : nI n &&& nI 31 = nI (n % 32) := pk_andN hn 5 (m := nI 31) (by decide +kernel)
theorem bc_and13 {n : Nat} (hn : n < 2 ^ 32) : nI n &&& nI 8191 = nI (n % 8192) := pk_andN hn 13 (m := nI 8191) (by decide +kernel)
theorem bc_and16 {n : Nat} (hn : n < 2 ^ 32) : nI n &&& nI 65535 = nI (n % 65536) := pk_andN hn 16 (m := nI 65535) (by decide +kernel)
theorem bc_and2g {n : Nat} (hn : n < 2 ^ 32) : nI n &&& nI 2147483647 = nI (n % 2147483648) := pk_andN hn 31 (m := nI 2147483647) (by decide +kernel)
theorem bc_eq {a b : Nat} (ha : a < 2 ^ 32) (hb : b < 2 ^ 32) : nI a = nI b ↔ a = b := by
  refine ⟨fun h => ?_, fun h => congrArg nI h⟩
  have e := congrArg (fun x : Int32 => x.toBitVec.toNat) h
  rw [pk_tn ha, pk_tn hb] at e
  exact e
theorem bc_div_lt {n : Nat} (k : Nat) (hn : n < 2 ^ 32) : n / 2 ^ k < 2 ^ 32 := Nat.lt_of_le_of_lt (Nat.div_le_self _ _) hn
/-- the bit k, as Java asks for it -/
theorem bc_bit {n k : Nat} (hn : n < 2 ^ 32) : (nI (n / 2 ^ k) &&& nI 1 = nI 1) ↔ n.testBit k = true := by
  have h : n / 2 ^ k % 2 < 2 := Nat.mod_lt _ (by decide)
  rw [bc_and1 (bc_div_lt k hn), bc_eq (Nat.lt_of_lt_of_le h (by decide)) (by decide), Nat.testBit_eq_decide_div_mod_eq, decide_eq_true_iff]
theorem bc_ti {m : Nat} (h : m < 2 ^ 32) : (nI m).toInt = if m < 2 ^ 31 then (m : Int) else (m : Int) - 2 ^ 32 := by
  have c := BitVec.toInt_eq_toNat_cond (nI m).toBitVec
  rw [pk_tn h] at c
  show (nI m).toBitVec.toInt = _
  rw [c]
  split <;> split <;> omega
theorem bc_pos {n : Nat} (hn : n < 2 ^ 32) : (0 : Int32) < nI n ↔ 0 < n ∧ n < 2 ^ 31 := by
  rw [Int32.lt_iff_toInt_lt, bc_ti hn, show (0 : Int32).toInt = 0 from by decide]
  split <;> omega
theorem bc_sub {a b : Nat} (h : b ≤ a) : nI a - nI b = nI (a - b) := pk_sub h
theorem bc_dec {a k : Nat} {z : Int32} (h : k ≤ a) (hz : nI k + z = 0) : nI a + z = nI (a - k) := by
  have e : nI a = nI (a - k) + nI k := by rw [nI_add, Nat.sub_add_cancel h]
  rw [e, Int32.add_assoc, hz, Int32.add_zero]
end
section
/-! METHODS THAT ONLY COMPUTE: the contract, its call, its end -/
/-- the method y, called with As, answers the int r; nothing is made, no cell changes -/
abbrev Pu (l : Launch) (y : MethodName) (ws : List Cond) (rm : Room) (As : List Value) (r : Int32) : Prop := Met l y ws rm (fun v _ => v = As.toArray) (QcRead r) 0 0 (fun _ => False)
section PU
variable {p : Program} {l : Launch} {e : Env} {R : Room} {s : State} {m : MethodId} {args : Array Value} {below : List Frame} {meth : Method} {c : Code} {H : Heap} {locs : List Loc} {cells slots : Nat} {Q : State → Prop}
variable {pc : Nat} {ls : Array Slot} {rest st0 : List Value} {cc bytes : ByteArray} {y : MethodName} {maxL nL n index : Nat} {ret : Option FieldType} {ws : List Cond} {rm : Room} {own C : String} {As : List Value} {r : Int32} {b : Nat}
/-- the number on top by another name -/
theorem pu_as {x z : Int32} (h : x = z) (k : W p l e R s m args below meth c H locs cells slots Q (F0 m pc ls (.int z :: rest))) : W p l e R s m args below meth c H locs cells slots Q (F0 m pc ls (.int x :: rest)) := by
  rw [h]
  exact k
theorem pu_S (hx : p.tables.exec = Jvm.exec) (hb : c.code = cc) (hml : c.maxLocals = nL) (hown : s.vm.findClass own = some m.cls) (hts : ∀ w ∈ lw_all, w.before args s = true) (hM : Pu l y ws rm As r) (cw : CallB R s args own index y bytes maxL ret ws rm 0 0 n ∧ (Cond.static y).before args s = true) (hn : As.length = n) (hsize : ls.size = nL) (hst : st0 = As.reverse ++ rest) (hW : (rest.map fun v => v.category).sum ≤ 8) (hdg : decode cc pc = .ok (.invokestatic index, 3)) (hf : cells ≤ R.cells ∧ slots ≤ R.slots)
    (kk : W p l e R s m args below meth c H locs cells slots Q (F0 m (pc + 3) ls (.int r :: rest))) : W p l e R s m args below meth c H locs cells slots Q (F0 m pc ls st0) :=
  W.callR (W.runS (cc := cc) (As := As) (rest := rest) (bytes := bytes) (maxL := maxL) (ret := ret) (Ts := lw_all) (cells := cells) (slots := slots) ⟨hx, hb, hml, hown, hts⟩ hM cw preEq rfl hn hsize hst (lv_room hW) hdg hf) kk
theorem pu_V (hx : p.tables.exec = Jvm.exec) (hb : c.code = cc) (hml : c.maxLocals = nL) (hown : s.vm.findClass own = some m.cls) (hts : ∀ w ∈ lw_all, w.before args s = true) (hM : Pu l y ws rm (.ref b :: As) r) (ho : ∃ cellB : Cell, H[b]? = some cellB ∧ cellB.vm.isStatics = false ∧ s.vm.findClass C = some cellB.cls) (cw : CallW R s args own C index y bytes maxL ret ws rm 0 0 n) (hn : As.length = n) (hsize : ls.size = nL) (hst : st0 = As.reverse ++ .ref b :: rest) (hW : (rest.map fun v => v.category).sum ≤ 8) (hdg : decode cc pc = .ok (.invokevirtual index, 3)) (hf : cells ≤ R.cells ∧ slots ≤ R.slots)
    (kk : W p l e R s m args below meth c H locs cells slots Q (F0 m (pc + 3) ls (.int r :: rest))) : W p l e R s m args below meth c H locs cells slots Q (F0 m pc ls st0) :=
  W.callR (W.runV (cc := cc) (As := As) (rest := rest) (bytes := bytes) (maxL := maxL) (ret := ret) (Ts := lw_all) (cells := cells) (slots := slots) ⟨hx, hb, hml, hown, hts⟩ hM cw ⟨fun _ _ _ _ q => q, ho, fun _ _ _ => rfl⟩ rfl hn hsize hst (lv_room hW) hdg hf) kk
theorem pu_ret {v : Int32} (hx : p.tables.exec = Jvm.exec) (hb : c.code = cc) (hr : meth.sig.returnType = some .int) (hlocks : meth.locks = false) (hv : v = r) (hdg : decode cc pc = .ok (.ireturn, 1)) : W p l e R s m args below meth c s.heap [] 0 0 (MQ below (QcRead r) args s 0 0 (fun _ => False)) (F0 m pc ls [.int v]) := by
  subst hv
  exact W.iret hx hb hr (fun t ht _ => ⟨rfl, ht⟩) (fun q h => absurd h List.not_mem_nil) hdg hlocks
theorem pu_retz {v : Int32} (hx : p.tables.exec = Jvm.exec) (hb : c.code = cc) (hr : meth.sig.returnType = some .boolean) (hlocks : meth.locks = false) (hn : narrow .boolean (.int v) = .int v) (hv : v = r) (hdg : decode cc pc = .ok (.ireturn, 1)) : W p l e R s m args below meth c s.heap [] 0 0 (MQ below (QcRead r) args s 0 0 (fun _ => False)) (F0 m pc ls [.int v]) := by
  subst hv
  exact W.zret hx hb hr hn (fun t ht _ => ⟨rfl, ht⟩) (fun q h => absurd h List.not_mem_nil) hdg hlocks
end PU
/-- the contract out of a walk of the body -/
theorem pu_of {l : Launch} {y : MethodName} {cc : ByteArray} {maxL : Nat} {rm : Room} {As : List Value} {r : Int32} (hy : plainName y.cls = true) (hlen : (lg_sl As).length ≤ maxL)
    (body : ∀ (p : Program) (e : Env) (s : State) (m : MethodId) (below : List Frame) (meth : Method) (c : Code) (ls : Array Slot), p.tables.exec = Jvm.exec → c.code = cc → meth.sig.returnType = some .int → meth.locks = false → c.maxLocals = maxL → s.vm.findClass y.cls = some m.cls → (∀ w ∈ lw_all, w.before As.toArray s = true) → lv_has ls maxL (lv_args 0 As) →
      W p l e rm s m As.toArray below meth c s.heap [] 0 0 (MQ below (QcRead r) As.toArray s 0 0 (fun _ => False)) (F0 m 0 ls [])) :
    Pu l y (ws_ y cc maxL (some .int)) rm As r := by
  refine Met.ofW (cc := cc) (maxL := maxL) (ret := (some .int)) hy rfl ?_
  intro p e s m args below meth c s₁ B hml hv
  have hv : args = As.toArray := hv
  subst hv
  have hts := atoms_spec (ws := ws_ y cc maxL (some .int)) B.pre
  have hl := lv_entry As (n := maxL) hlen
  rw [lg_entry_eq]
  exact body p e s m below meth c _ B.exec B.bytes B.returns B.notSynchronized hml (findClass_of_methodNamed B.named) (fun w h => hts w (List.mem_cons_of_mem _ h)) hl
end
section
/-! INTEGER.numberOfLeadingZeros, MatrixUtil.findMSBSet, MatrixUtil.calculateBCHCode -/
abbrev rmJ0_nlz : Room := { frames := 0, cells := 0, slots := 0, locals := 0 }
abbrev rmX2_find : Room := { frames := 1, cells := 0, slots := 0, locals := 21 }
abbrev rmX2_calc : Room := { frames := 2, cells := 0, slots := 0, locals := 41 }
abbrev wsJ0_nlz : List Cond := ws_ yJ0_numberOfLeadingZeros cJ0_numberOfLeadingZeros 2 (some .int)
abbrev wsX2_find : List Cond := ws_ yX2_findMSBSet cX2_findMSBSet 1 (some .int)
abbrev wsX2_calc : List Cond := ws_ yX2_calculateBCHCode cX2_calculateBCHCode 3 (some .int)
set_option maxHeartbeats 4000000 in
set_option maxRecDepth 100000 in
/-- numberOfLeadingZeros: 32 less the length -/
theorem metJ0_nlz (l : Launch) {n : Nat} (hn : n < 2 ^ 32) : Pu l yJ0_numberOfLeadingZeros wsJ0_nlz rmJ0_nlz [.int (nI n)] (nI (32 - bc_bl n)) := by
  refine pu_of (cc := cJ0_numberOfLeadingZeros) (maxL := 2) (As := [.int (nI n)]) (by decide) (Nat.le_of_ble_eq_true rfl) ?_
  intro p e s m below meth c ls hx hb hr hlocks hml hown hts hl
  have hown : s.vm.findClass RJ0 = some m.cls := hown
  have hl : lv_has ls 2 [(0, .int (nI n))] := hl
  have hb32 : bc_bl n ≤ 32 := bc_bl_le.mpr hn
  have K73 : ∀ (a k : Nat) (ls : Array Slot), 1 ≤ a → a < 4 → k + 1 + bc_bl n = 32 + bc_bl a → lv_has ls 2 [(0, .int (nI a)), (1, .int (nI k))] → W p l e rmJ0_nlz s m ([.int (nI n)] : List Value).toArray below meth c s.heap [] 0 0 (MQ below (QcRead (nI (32 - bc_bl n))) ([.int (nI n)] : List Value).toArray s 0 0 (fun _ => False)) (F0 m 73 ls []) := by
    intro a k ls h1 h2 he hl
    have ha : bc_bl a = a / 2 + 1 := by
      rcases (show a = 1 ∨ a = 2 ∨ a = 3 by omega) with rfl | rfl | rfl <;> decide +kernel
    refine lv_iload_n hx hb dJ0_numberOfLeadingZeros_73 rfl (lv_at hl 1 rfl) ?_
    refine lv_iload_n hx hb dJ0_numberOfLeadingZeros_74 rfl (lv_at hl 0 rfl) ?_
    refine lv_iconst (v := nI 1) hx hb dJ0_numberOfLeadingZeros_75 (by decide +kernel) ?_
    refine lv_iushr (v := nI (a / 2)) hx hb dJ0_numberOfLeadingZeros_76 (bc_us (k := 1) (by omega) (by decide)) ?_
    refine lv_isub hx hb dJ0_numberOfLeadingZeros_77 ?_
    refine pu_as (z := nI (k - a / 2)) (bc_sub (by omega)) ?_
    exact pu_ret hx hb hr hlocks (congrArg nI (by omega)) dJ0_numberOfLeadingZeros_78
  have K61 : ∀ (a k : Nat) (ls : Array Slot), 1 ≤ a → a < 16 → k + 1 + bc_bl n = 32 + bc_bl a → lv_has ls 2 [(0, .int (nI a)), (1, .int (nI k))] → W p l e rmJ0_nlz s m ([.int (nI n)] : List Value).toArray below meth c s.heap [] 0 0 (MQ below (QcRead (nI (32 - bc_bl n))) ([.int (nI n)] : List Value).toArray s 0 0 (fun _ => False)) (F0 m 61 ls []) := by
    intro a k ls h1 h2 he hl
    refine lv_iload_n hx hb dJ0_numberOfLeadingZeros_61 rfl (lv_at hl 0 rfl) ?_
    refine lv_iconst (v := nI 4) hx hb dJ0_numberOfLeadingZeros_62 (by decide +kernel) ?_
    refine lv_icmp_lt (tgt := 73) hx hb dJ0_numberOfLeadingZeros_63 (by decide) (fun h => ?_) (fun h => ?_)
    · exact K73 a k ls h1 ((nI_ltI (by omega) (by decide)).mp h) he hl
    · have h4 : ¬ a < 4 := fun q => h ((nI_ltI (by omega) (by decide)).mpr q)
      have hd : bc_bl (a / 4) + 2 = bc_bl a := bc_bl_div (k := 2) (show 2 ^ 2 ≤ a by omega)
      have h3 : 2 < bc_bl a := bc_lt_bl.mpr (show 2 ^ 2 ≤ a by omega)
      refine lv_iinc (v := nI (k - 2)) (lv' := [(1, .int (nI (k - 2))), (0, .int (nI a))]) hx hb dJ0_numberOfLeadingZeros_66 hl (k := 1) rfl (bc_dec (k := 2) (by omega) (by decide +kernel)) (by decide) rfl (fun ls hl => ?_)
      refine lv_iload_n hx hb dJ0_numberOfLeadingZeros_69 rfl (lv_at hl 1 rfl) ?_
      refine lv_iconst (v := nI 2) hx hb dJ0_numberOfLeadingZeros_70 (by decide +kernel) ?_
      refine lv_iushr (v := nI (a / 4)) hx hb dJ0_numberOfLeadingZeros_71 (bc_us (k := 2) (by omega) (by decide)) ?_
      refine lv_istore_n (lv' := [(0, .int (nI (a / 4))), (1, .int (nI (k - 2)))]) hx hb dJ0_numberOfLeadingZeros_72 rfl hl (by decide) rfl (fun ls hl => ?_)
      exact K73 (a / 4) (k - 2) ls (by omega) (by omega) (by omega) (lv_sub hl [0, 1] rfl)
  have K48 : ∀ (a k : Nat) (ls : Array Slot), 1 ≤ a → a < 256 → k + 1 + bc_bl n = 32 + bc_bl a → lv_has ls 2 [(0, .int (nI a)), (1, .int (nI k))] → W p l e rmJ0_nlz s m ([.int (nI n)] : List Value).toArray below meth c s.heap [] 0 0 (MQ below (QcRead (nI (32 - bc_bl n))) ([.int (nI n)] : List Value).toArray s 0 0 (fun _ => False)) (F0 m 48 ls []) := by
    intro a k ls h1 h2 he hl
    refine lv_iload_n hx hb dJ0_numberOfLeadingZeros_48 rfl (lv_at hl 0 rfl) ?_
    refine lv_bipush (v := nI 16) hx hb dJ0_numberOfLeadingZeros_49 (by decide +kernel) ?_
    refine lv_icmp_lt (tgt := 61) hx hb dJ0_numberOfLeadingZeros_51 (by decide) (fun h => ?_) (fun h => ?_)
    · exact K61 a k ls h1 ((nI_ltI (by omega) (by decide)).mp h) he hl
    · have h4 : ¬ a < 16 := fun q => h ((nI_ltI (by omega) (by decide)).mpr q)
      have hd : bc_bl (a / 16) + 4 = bc_bl a := bc_bl_div (k := 4) (show 2 ^ 4 ≤ a by omega)
      have h3 : 4 < bc_bl a := bc_lt_bl.mpr (show 2 ^ 4 ≤ a by omega)
      refine lv_iinc (v := nI (k - 4)) (lv' := [(1, .int (nI (k - 4))), (0, .int (nI a))]) hx hb dJ0_numberOfLeadingZeros_54 hl (k := 1) rfl (bc_dec (k := 4) (by omega) (by decide +kernel)) (by decide) rfl (fun ls hl => ?_)
      refine lv_iload_n hx hb dJ0_numberOfLeadingZeros_57 rfl (lv_at hl 1 rfl) ?_
      refine lv_iconst (v := nI 4) hx hb dJ0_numberOfLeadingZeros_58 (by decide +kernel) ?_
      refine lv_iushr (v := nI (a / 16)) hx hb dJ0_numberOfLeadingZeros_59 (bc_us (k := 4) (by omega) (by decide)) ?_
      refine lv_istore_n (lv' := [(0, .int (nI (a / 16))), (1, .int (nI (k - 4)))]) hx hb dJ0_numberOfLeadingZeros_60 rfl hl (by decide) rfl (fun ls hl => ?_)
      exact K61 (a / 16) (k - 4) ls (by omega) (by omega) (by omega) (lv_sub hl [0, 1] rfl)
  have K33 : ∀ (a k : Nat) (ls : Array Slot), 1 ≤ a → a < 65536 → k + 1 + bc_bl n = 32 + bc_bl a → lv_has ls 2 [(0, .int (nI a)), (1, .int (nI k))] → W p l e rmJ0_nlz s m ([.int (nI n)] : List Value).toArray below meth c s.heap [] 0 0 (MQ below (QcRead (nI (32 - bc_bl n))) ([.int (nI n)] : List Value).toArray s 0 0 (fun _ => False)) (F0 m 33 ls []) := by
    intro a k ls h1 h2 he hl
    refine lv_iload_n hx hb dJ0_numberOfLeadingZeros_33 rfl (lv_at hl 0 rfl) ?_
    refine lv_sipush (v := nI 256) hx hb dJ0_numberOfLeadingZeros_34 (by decide +kernel) ?_
    refine lv_icmp_lt (tgt := 48) hx hb dJ0_numberOfLeadingZeros_37 (by decide) (fun h => ?_) (fun h => ?_)
    · exact K48 a k ls h1 ((nI_ltI (by omega) (by decide)).mp h) he hl
    · have h4 : ¬ a < 256 := fun q => h ((nI_ltI (by omega) (by decide)).mpr q)
      have hd : bc_bl (a / 256) + 8 = bc_bl a := bc_bl_div (k := 8) (show 2 ^ 8 ≤ a by omega)
      have h3 : 8 < bc_bl a := bc_lt_bl.mpr (show 2 ^ 8 ≤ a by omega)
      refine lv_iinc (v := nI (k - 8)) (lv' := [(1, .int (nI (k - 8))), (0, .int (nI a))]) hx hb dJ0_numberOfLeadingZeros_40 hl (k := 1) rfl (bc_dec (k := 8) (by omega) (by decide +kernel)) (by decide) rfl (fun ls hl => ?_)
      refine lv_iload_n hx hb dJ0_numberOfLeadingZeros_43 rfl (lv_at hl 1 rfl) ?_
      refine lv_bipush (v := nI 8) hx hb dJ0_numberOfLeadingZeros_44 (by decide +kernel) ?_
      refine lv_iushr (v := nI (a / 256)) hx hb dJ0_numberOfLeadingZeros_46 (bc_us (k := 8) (by omega) (by decide)) ?_
      refine lv_istore_n (lv' := [(0, .int (nI (a / 256))), (1, .int (nI (k - 8)))]) hx hb dJ0_numberOfLeadingZeros_47 rfl hl (by decide) rfl (fun ls hl => ?_)
      exact K48 (a / 256) (k - 8) ls (by omega) (by omega) (by omega) (lv_sub hl [0, 1] rfl)
  have K18 : ∀ (a k : Nat) (ls : Array Slot), 1 ≤ a → a < 2147483648 → k + 1 + bc_bl n = 32 + bc_bl a → lv_has ls 2 [(0, .int (nI a)), (1, .int (nI k))] → W p l e rmJ0_nlz s m ([.int (nI n)] : List Value).toArray below meth c s.heap [] 0 0 (MQ below (QcRead (nI (32 - bc_bl n))) ([.int (nI n)] : List Value).toArray s 0 0 (fun _ => False)) (F0 m 18 ls []) := by
    intro a k ls h1 h2 he hl
    refine lv_iload_n hx hb dJ0_numberOfLeadingZeros_18 rfl (lv_at hl 0 rfl) ?_
    refine lv_ldcw (v := nI 65536) hx hb hown (hts _ q28) dJ0_numberOfLeadingZeros_19 ?_
    refine lv_icmp_lt (tgt := 33) hx hb dJ0_numberOfLeadingZeros_22 (by decide) (fun h => ?_) (fun h => ?_)
    · exact K33 a k ls h1 ((nI_ltI (by omega) (by decide)).mp h) he hl
    · have h4 : ¬ a < 65536 := fun q => h ((nI_ltI (by omega) (by decide)).mpr q)
      have hd : bc_bl (a / 65536) + 16 = bc_bl a := bc_bl_div (k := 16) (show 2 ^ 16 ≤ a by omega)
      have h3 : 16 < bc_bl a := bc_lt_bl.mpr (show 2 ^ 16 ≤ a by omega)
      refine lv_iinc (v := nI (k - 16)) (lv' := [(1, .int (nI (k - 16))), (0, .int (nI a))]) hx hb dJ0_numberOfLeadingZeros_25 hl (k := 1) rfl (bc_dec (k := 16) (by omega) (by decide +kernel)) (by decide) rfl (fun ls hl => ?_)
      refine lv_iload_n hx hb dJ0_numberOfLeadingZeros_28 rfl (lv_at hl 1 rfl) ?_
      refine lv_bipush (v := nI 16) hx hb dJ0_numberOfLeadingZeros_29 (by decide +kernel) ?_
      refine lv_iushr (v := nI (a / 65536)) hx hb dJ0_numberOfLeadingZeros_31 (bc_us (k := 16) (by omega) (by decide)) ?_
      refine lv_istore_n (lv' := [(0, .int (nI (a / 65536))), (1, .int (nI (k - 16)))]) hx hb dJ0_numberOfLeadingZeros_32 rfl hl (by decide) rfl (fun ls hl => ?_)
      exact K33 (a / 65536) (k - 16) ls (by omega) (by omega) (by omega) (lv_sub hl [0, 1] rfl)
  refine lv_iload_n hx hb dJ0_numberOfLeadingZeros_0 rfl (lv_at hl 0 rfl) ?_
  refine lv_if_gt (tgt := 15) hx hb dJ0_numberOfLeadingZeros_1 (by decide) (fun h => ?_) (fun h => ?_)
  · obtain ⟨h1, h2⟩ := (bc_pos hn).mp h
    refine lv_bipush (v := nI 31) hx hb dJ0_numberOfLeadingZeros_15 (by decide +kernel) ?_
    refine lv_istore_n (lv' := [(1, .int (nI 31)), (0, .int (nI n))]) hx hb dJ0_numberOfLeadingZeros_17 rfl hl (by decide) rfl (fun ls hl => ?_)
    exact K18 n 31 ls h1 (by omega) (by omega) (lv_sub hl [1, 0] rfl)
  · have hz : ¬ (0 < n ∧ n < 2 ^ 31) := fun q => h ((bc_pos hn).mpr q)
    refine lv_iload_n hx hb dJ0_numberOfLeadingZeros_4 rfl (lv_at hl 0 rfl) ?_
    refine lv_if_ne (tgt := 13) hx hb dJ0_numberOfLeadingZeros_5 (by decide) (fun h5 => ?_) (fun h5 => ?_)
    · have hne : n ≠ 0 := fun q => h5 ((congrArg nI q).trans nI_0)
      have h31 : 31 < bc_bl n := bc_lt_bl.mpr (by omega)
      refine lv_iconst (v := nI 0) hx hb dJ0_numberOfLeadingZeros_13 (by decide +kernel) ?_
      exact pu_ret hx hb hr hlocks (congrArg nI (show 0 = 32 - bc_bl n by omega)) dJ0_numberOfLeadingZeros_14
    · have hz0 : n = 0 := (bc_eq hn (show 0 < 2 ^ 32 by decide)).mp h5
      have hb0 : bc_bl n = 0 := by rw [hz0, bc_bl_0]
      refine lv_bipush (v := nI 32) hx hb dJ0_numberOfLeadingZeros_8 (by decide +kernel) ?_
      refine lv_goto (tgt := 14) hx hb dJ0_numberOfLeadingZeros_10 (by decide) ?_
      exact pu_ret hx hb hr hlocks (congrArg nI (show 32 = 32 - bc_bl n by omega)) dJ0_numberOfLeadingZeros_14
set_option maxHeartbeats 4000000 in
set_option maxRecDepth 100000 in
/-- findMSBSet: the length -/
theorem metX2_find (l : Launch) {n : Nat} (hn : n < 2 ^ 32) : Pu l yX2_findMSBSet wsX2_find rmX2_find [.int (nI n)] (nI (bc_bl n)) := by
  refine pu_of (cc := cX2_findMSBSet) (maxL := 1) (As := [.int (nI n)]) (by decide) (Nat.le_of_ble_eq_true rfl) ?_
  intro p e s m below meth c ls hx hb hr hlocks hml hown hts hl
  have hown : s.vm.findClass RX2 = some m.cls := hown
  have hl : lv_has ls 1 [(0, .int (nI n))] := hl
  refine lv_bipush (v := nI 32) hx hb dX2_findMSBSet_0 (by decide +kernel) ?_
  refine lv_iload_n hx hb dX2_findMSBSet_2 rfl (lv_at hl 0 rfl) ?_
  refine pu_S (As := [.int (nI n)]) (rest := [.int (nI 32)]) hx hb hml hown hts (metJ0_nlz l hn) (va_cwS 1 hts (lw_S q25 q26 q4 q27) rfl rfl rfl (by decide +kernel) ⟨Nat.le_of_ble_eq_true rfl, Nat.le_of_ble_eq_true rfl⟩) rfl hl.1 rfl (Nat.le_of_ble_eq_true rfl) dX2_findMSBSet_3 ⟨Nat.le_of_ble_eq_true rfl, Nat.le_of_ble_eq_true rfl⟩ ?_
  refine lv_isub hx hb dX2_findMSBSet_6 ?_
  refine pu_as (z := nI (32 - (32 - bc_bl n))) (bc_sub (Nat.sub_le _ _)) ?_
  exact pu_ret hx hb hr hlocks (congrArg nI (by have h := bc_bl_le.mpr hn; omega)) dX2_findMSBSet_7
set_option maxHeartbeats 4000000 in
set_option maxRecDepth 100000 in
/-- calculateBCHCode: the rest of the long division -/
theorem metX2_calc (l : Launch) {a g : Nat} (ha : a < 65536) (h2 : 2 ≤ g) (h14 : g < 16384) : Pu l yX2_calculateBCHCode wsX2_calc rmX2_calc [.int (nI a), .int (nI g)] (nI (bc_rst a g)) := by
  refine pu_of (cc := cX2_calculateBCHCode) (maxL := 3) (As := [.int (nI a), .int (nI g)]) (by decide) (Nat.le_of_ble_eq_true rfl) ?_
  intro p e s m below meth c ls hx hb hr hlocks hml hown hts hl
  have hown : s.vm.findClass RX2 = some m.cls := hown
  have hl : lv_has ls 3 [(0, .int (nI a)), (1, .int (nI g))] := hl
  obtain ⟨d, hd1, hd2, hbl, hg1, hg2⟩ := bc_pd h2 h14
  have hrs : bc_rst a g = bc_red g d (31 - d) (a * 2 ^ d) := by rw [bc_rst_d a hbl, Nat.mod_eq_of_lt ha]
  have hg32 : g < 2 ^ 32 := by omega
  have K25 : ∀ (N t : Nat) (ls : Array Slot), t < 2 ^ (d + N) → d + N ≤ 31 → bc_red g d N t = bc_rst a g → lv_has ls 3 [(0, .int (nI t)), (1, .int (nI g)), (2, .int (nI (d + 1)))] → W p l e rmX2_calc s m ([.int (nI a), .int (nI g)] : List Value).toArray below meth c s.heap [] 0 0 (MQ below (QcRead (nI (bc_rst a g))) ([.int (nI a), .int (nI g)] : List Value).toArray s 0 0 (fun _ => False)) (F0 m 25 ls []) := by
    intro N
    induction N using Nat.strongRecOn with
    | ind N ih =>
      intro t ls ht hN he hl
      have ht32 : t < 2 ^ 32 := Nat.lt_of_lt_of_le ht (Nat.pow_le_pow_right (by decide) (by omega))
      have htb : bc_bl t ≤ d + N := bc_bl_le.mpr ht
      refine lv_iload_n hx hb dX2_calculateBCHCode_25 rfl (lv_at hl 0 rfl) ?_
      refine pu_S (As := [.int (nI t)]) (rest := []) hx hb hml hown hts (metX2_find l ht32) (va_cwS 1 hts (lw_S q102 q23 q3 q24) rfl rfl rfl (by decide +kernel) ⟨Nat.le_of_ble_eq_true rfl, Nat.le_of_ble_eq_true rfl⟩) rfl hl.1 rfl (Nat.le_of_ble_eq_true rfl) dX2_calculateBCHCode_26 ⟨Nat.le_of_ble_eq_true rfl, Nat.le_of_ble_eq_true rfl⟩ ?_
      refine lv_iload_n hx hb dX2_calculateBCHCode_29 rfl (lv_at hl 2 rfl) ?_
      refine lv_icmp_lt (tgt := 47) hx hb dX2_calculateBCHCode_30 (by decide) (fun h => ?_) (fun h => ?_)
      · have h0 : bc_bl t < d + 1 := (nI_ltI (by omega) (by omega)).mp h
        have h1 : t < 2 ^ d := bc_bl_le.mp (by omega)
        refine lv_iload_n hx hb dX2_calculateBCHCode_47 rfl (lv_at hl 0 rfl) ?_
        exact pu_ret hx hb hr hlocks (by rw [← he, bc_small h1]) dX2_calculateBCHCode_48
      · have h0 : ¬ bc_bl t < d + 1 := fun q => h ((nI_ltI (by omega) (by omega)).mpr q)
        obtain ⟨n, hn⟩ : ∃ n, bc_bl t = d + n + 1 := ⟨bc_bl t - d - 1, by omega⟩
        have ht1 : 2 ^ (d + n) ≤ t := bc_lt_bl.mp (by omega)
        have ht2 : t < 2 ^ (d + n + 1) := bc_bl_le.mp (by omega)
        obtain ⟨hq1, hq2⟩ := bc_pb n hg1 hg2
        have hq3 : g * 2 ^ n < 2 ^ 32 := Nat.lt_of_lt_of_le hq2 (Nat.pow_le_pow_right (by decide) (by omega))
        have he2 : bc_red g d n (t ^^^ (g * 2 ^ n)) = bc_rst a g := by
          rw [← he, ← bc_step ht1 ht2]
          obtain ⟨j, rfl⟩ : ∃ j, N = n + 1 + j := ⟨N - (n + 1), by omega⟩
          exact (bc_skips (n := n + 1) ht2 j).symm
        refine lv_iload_n hx hb dX2_calculateBCHCode_33 rfl (lv_at hl 0 rfl) ?_
        refine lv_iload_n hx hb dX2_calculateBCHCode_34 rfl (lv_at hl 1 rfl) ?_
        refine lv_iload_n hx hb dX2_calculateBCHCode_35 rfl (lv_at hl 0 rfl) ?_
        refine pu_S (As := [.int (nI t)]) (rest := [.int (nI g), .int (nI t)]) hx hb hml hown hts (metX2_find l ht32) (va_cwS 1 hts (lw_S q102 q23 q3 q24) rfl rfl rfl (by decide +kernel) ⟨Nat.le_of_ble_eq_true rfl, Nat.le_of_ble_eq_true rfl⟩) rfl hl.1 rfl (Nat.le_of_ble_eq_true rfl) dX2_calculateBCHCode_36 ⟨Nat.le_of_ble_eq_true rfl, Nat.le_of_ble_eq_true rfl⟩ ?_
        refine lv_iload_n hx hb dX2_calculateBCHCode_39 rfl (lv_at hl 2 rfl) ?_
        refine lv_isub hx hb dX2_calculateBCHCode_40 ?_
        refine pu_as (z := nI n) (by rw [hn, bc_sub (by omega)]; exact congrArg nI (by omega)) ?_
        refine lv_ishl hx hb dX2_calculateBCHCode_41 ?_
        refine pu_as (z := nI (g * 2 ^ n)) (bc_sh (by omega) hq3) ?_
        refine lv_ixor hx hb dX2_calculateBCHCode_42 ?_
        refine pu_as (z := nI (t ^^^ (g * 2 ^ n))) (nx_xor _ _) ?_
        refine lv_istore_n (lv' := [(0, .int (nI (t ^^^ (g * 2 ^ n)))), (1, .int (nI g)), (2, .int (nI (d + 1)))]) hx hb dX2_calculateBCHCode_43 rfl hl (by decide) rfl (fun ls hl => ?_)
        refine lv_goto (tgt := 25) hx hb dX2_calculateBCHCode_44 (by decide) ?_
        exact ih n (by omega) _ ls (bc_drop ht1 ht2 hq1 hq2) (by omega) he2 (lv_sub hl [0, 1, 2] rfl)
  refine lv_iload_n hx hb dX2_calculateBCHCode_0 rfl (lv_at hl 1 rfl) ?_
  refine lv_if_ne (tgt := 14) hx hb dX2_calculateBCHCode_1 (by decide) (fun h => ?_) (fun h => ?_)
  · have had : a * 2 ^ d < 2 ^ (d + (31 - d)) := by
      have h9 := bc_sh16 a hd2
      rw [Nat.mod_eq_of_lt ha] at h9
      exact h9
    have had32 : a * 2 ^ d < 2 ^ 32 := Nat.lt_of_lt_of_le had (Nat.pow_le_pow_right (by decide) (by omega))
    refine lv_iload_n hx hb dX2_calculateBCHCode_14 rfl (lv_at hl 1 rfl) ?_
    refine pu_S (As := [.int (nI g)]) (rest := []) hx hb hml hown hts (metX2_find l hg32) (va_cwS 1 hts (lw_S q102 q23 q3 q24) rfl rfl rfl (by decide +kernel) ⟨Nat.le_of_ble_eq_true rfl, Nat.le_of_ble_eq_true rfl⟩) rfl hl.1 rfl (Nat.le_of_ble_eq_true rfl) dX2_calculateBCHCode_15 ⟨Nat.le_of_ble_eq_true rfl, Nat.le_of_ble_eq_true rfl⟩ ?_
    refine pu_as (z := nI (d + 1)) (by rw [hbl]) ?_
    refine lv_istore_n (lv' := [(2, .int (nI (d + 1))), (0, .int (nI a)), (1, .int (nI g))]) hx hb dX2_calculateBCHCode_18 rfl hl (by decide) rfl (fun ls hl => ?_)
    refine lv_iload_n hx hb dX2_calculateBCHCode_19 rfl (lv_at hl 1 rfl) ?_
    refine lv_iload_n hx hb dX2_calculateBCHCode_20 rfl (lv_at hl 0 rfl) ?_
    refine lv_iconst (v := nI 1) hx hb dX2_calculateBCHCode_21 (by decide +kernel) ?_
    refine lv_isub hx hb dX2_calculateBCHCode_22 ?_
    refine pu_as (z := nI d) (bc_sub (Nat.le_add_left 1 d)) ?_
    refine lv_ishl hx hb dX2_calculateBCHCode_23 ?_
    refine pu_as (z := nI (a * 2 ^ d)) (bc_sh (by omega) had32) ?_
    refine lv_istore_n (lv' := [(0, .int (nI (a * 2 ^ d))), (2, .int (nI (d + 1))), (1, .int (nI g))]) hx hb dX2_calculateBCHCode_24 rfl hl (by decide) rfl (fun ls hl => ?_)
    exact K25 (31 - d) (a * 2 ^ d) ls had (by omega) hrs.symm (lv_sub hl [0, 2, 1] rfl)
  · have h9 : g = 0 := (bc_eq hg32 (show 0 < 2 ^ 32 by decide)).mp h
    exact absurd h9 (by omega)
end
section
/-! BchDesk: its face of the two methods -/
abbrev rmX1_hi : Room := { frames := 2, cells := 0, slots := 0, locals := 41 }
abbrev rmX1_bch : Room := { frames := 3, cells := 0, slots := 0, locals := 63 }
abbrev wsX1_highest : List Cond := ws_ yX1_highest cX1_highest 2 (some .int)
abbrev wsX1_rest : List Cond := ws_ yX1_rest cX1_rest 4 (some .int)
abbrev wsX1_format : List Cond := ws_ yX1_format cX1_format 3 (some .int)
abbrev wsX1_version : List Cond := ws_ yX1_version cX1_version 3 (some .int)
abbrev wsX1_init : List Cond := ws_ yX1_init cX1_init 1 none
set_option maxHeartbeats 4000000 in
set_option maxRecDepth 100000 in
/-- BchDesk.highest -/
theorem metX1_highest (l : Launch) (b : Nat) {v : Nat} (hv : v < 2 ^ 32) : Pu l yX1_highest wsX1_highest rmX1_hi [.ref b, .int (nI v)] (nI (bc_bl v)) := by
  refine pu_of (cc := cX1_highest) (maxL := 2) (As := [.ref b, .int (nI v)]) (by decide) (Nat.le_of_ble_eq_true rfl) ?_
  intro p e s m below meth c ls hx hb hr hlocks hml hown hts hl
  have hown : s.vm.findClass RX1 = some m.cls := hown
  have hl : lv_has ls 2 [(0, .ref b), (1, .int (nI v))] := hl
  refine lv_iload_n hx hb dX1_highest_0 rfl (lv_at hl 1 rfl) ?_
  refine pu_S (As := [.int (nI v)]) (rest := []) hx hb hml hown hts (metX2_find l hv) (va_cwS 1 hts (lw_S q22 q23 q3 q24) rfl rfl rfl (by decide +kernel) ⟨Nat.le_of_ble_eq_true rfl, Nat.le_of_ble_eq_true rfl⟩) rfl hl.1 rfl (Nat.le_of_ble_eq_true rfl) dX1_highest_1 ⟨Nat.le_of_ble_eq_true rfl, Nat.le_of_ble_eq_true rfl⟩ ?_
  exact pu_ret hx hb hr hlocks (rfl) dX1_highest_4
set_option maxHeartbeats 4000000 in
set_option maxRecDepth 100000 in
/-- BchDesk.rest -/
theorem metX1_rest (l : Launch) (b : Nat) {v q : Nat} (hv : v < 2 ^ 32) (hq : q < 2 ^ 32) : Pu l yX1_rest wsX1_rest rmX1_bch [.ref b, .int (nI v), .int (nI q)] (nI (bc_rst v (2 + q % 8192))) := by
  refine pu_of (cc := cX1_rest) (maxL := 4) (As := [.ref b, .int (nI v), .int (nI q)]) (by decide) (Nat.le_of_ble_eq_true rfl) ?_
  intro p e s m below meth c ls hx hb hr hlocks hml hown hts hl
  have hown : s.vm.findClass RX1 = some m.cls := hown
  have hl : lv_has ls 4 [(0, .ref b), (1, .int (nI v)), (2, .int (nI q))] := hl
  have hq2 : q % 8192 < 8192 := Nat.mod_lt _ (by decide)
  refine lv_iconst (v := nI 2) hx hb dX1_rest_0 (by decide +kernel) ?_
  refine lv_iload_n hx hb dX1_rest_1 rfl (lv_at hl 2 rfl) ?_
  refine lv_sipush (v := nI 8191) hx hb dX1_rest_2 (by decide +kernel) ?_
  refine lv_iand hx hb dX1_rest_5 ?_
  refine pu_as (z := nI (q % 8192)) (bc_and13 hq) ?_
  refine lv_iadd hx hb dX1_rest_6 ?_
  refine pu_as (z := nI (2 + q % 8192)) (nI_add _ _) ?_
  refine lv_istore_n (lv' := [(3, .int (nI (2 + q % 8192))), (0, .ref b), (1, .int (nI v)), (2, .int (nI q))]) hx hb dX1_rest_7 rfl hl (by decide) rfl (fun ls hl => ?_)
  refine lv_iload_n hx hb dX1_rest_8 rfl (lv_at hl 2 rfl) ?_
  refine lv_ldc (v := nI 65535) hx hb hown (hts _ q127) dX1_rest_9 ?_
  refine lv_iand hx hb dX1_rest_11 ?_
  refine pu_as (z := nI (v % 65536)) (bc_and16 hv) ?_
  refine lv_iload_n hx hb dX1_rest_12 rfl (lv_at hl 0 rfl) ?_
  refine pu_S (As := [.int (nI (v % 65536)), .int (nI (2 + q % 8192))]) (rest := []) hx hb hml hown hts (metX2_calc l (a := v % 65536) (g := 2 + q % 8192) (Nat.mod_lt _ (by decide)) (by omega) (by omega)) (va_cwS 2 hts (lw_S q33 q34 q3 q35) rfl rfl rfl (by decide +kernel) ⟨Nat.le_of_ble_eq_true rfl, Nat.le_of_ble_eq_true rfl⟩) rfl hl.1 rfl (Nat.le_of_ble_eq_true rfl) dX1_rest_13 ⟨Nat.le_of_ble_eq_true rfl, Nat.le_of_ble_eq_true rfl⟩ ?_
  exact pu_ret hx hb hr hlocks (by rw [bc_rst_mod]) dX1_rest_16
set_option maxHeartbeats 4000000 in
set_option maxRecDepth 100000 in
/-- BchDesk.format -/
theorem metX1_format (l : Launch) (b : Nat) {v : Nat} (hv : v < 2 ^ 32) : Pu l yX1_format wsX1_format rmX1_bch [.ref b, .int (nI v)] (nI (bc_fmt (v % 32))) := by
  refine pu_of (cc := cX1_format) (maxL := 3) (As := [.ref b, .int (nI v)]) (by decide) (Nat.le_of_ble_eq_true rfl) ?_
  intro p e s m below meth c ls hx hb hr hlocks hml hown hts hl
  have hown : s.vm.findClass RX1 = some m.cls := hown
  have hl : lv_has ls 3 [(0, .ref b), (1, .int (nI v))] := hl
  have hf : v % 32 < 32 := Nat.mod_lt _ (by decide)
  refine lv_iload_n hx hb dX1_format_0 rfl (lv_at hl 1 rfl) ?_
  refine lv_bipush (v := nI 31) hx hb dX1_format_1 (by decide +kernel) ?_
  refine lv_iand hx hb dX1_format_3 ?_
  refine pu_as (z := nI (v % 32)) (bc_and31 hv) ?_
  refine lv_istore_n (lv' := [(2, .int (nI (v % 32))), (0, .ref b), (1, .int (nI v))]) hx hb dX1_format_4 rfl hl (by decide) rfl (fun ls hl => ?_)
  refine lv_iload_n hx hb dX1_format_5 rfl (lv_at hl 0 rfl) ?_
  refine lv_bipush (v := nI 10) hx hb dX1_format_6 (by decide +kernel) ?_
  refine lv_ishl hx hb dX1_format_8 ?_
  refine pu_as (z := nI (v % 32 * 2 ^ 10)) (bc_sh (k := 10) (by decide) (by omega)) ?_
  refine lv_iload_n hx hb dX1_format_9 rfl (lv_at hl 0 rfl) ?_
  refine lv_sipush (v := nI 1335) hx hb dX1_format_10 (by decide +kernel) ?_
  refine pu_S (As := [.int (nI (v % 32)), .int (nI 1335)]) (rest := [.int (nI (v % 32 * 2 ^ 10))]) hx hb hml hown hts (metX2_calc l (a := v % 32) (g := 1335) (by omega) (by decide) (by decide)) (va_cwS 2 hts (lw_S q33 q34 q3 q35) rfl rfl rfl (by decide +kernel) ⟨Nat.le_of_ble_eq_true rfl, Nat.le_of_ble_eq_true rfl⟩) rfl hl.1 rfl (Nat.le_of_ble_eq_true rfl) dX1_format_13 ⟨Nat.le_of_ble_eq_true rfl, Nat.le_of_ble_eq_true rfl⟩ ?_
  refine lv_ior hx hb dX1_format_16 ?_
  refine pu_as (z := nI (v % 32 * 2 ^ 10 ||| bc_rst (v % 32) 1335)) (bc_or _ _) ?_
  refine lv_sipush (v := nI 21522) hx hb dX1_format_17 (by decide +kernel) ?_
  refine lv_ixor hx hb dX1_format_20 ?_
  refine pu_as (z := nI ((v % 32 * 2 ^ 10 ||| bc_rst (v % 32) 1335) ^^^ 21522)) (nx_xor _ _) ?_
  exact pu_ret hx hb hr hlocks (rfl) dX1_format_21
set_option maxHeartbeats 4000000 in
set_option maxRecDepth 100000 in
/-- BchDesk.version -/
theorem metX1_version (l : Launch) (b : Nat) {v : Nat} (hv : v < 2 ^ 32) : Pu l yX1_version wsX1_version rmX1_bch [.ref b, .int (nI v)] (nI (bc_ver (7 + v % 2147483648 % 34))) := by
  refine pu_of (cc := cX1_version) (maxL := 3) (As := [.ref b, .int (nI v)]) (by decide) (Nat.le_of_ble_eq_true rfl) ?_
  intro p e s m below meth c ls hx hb hr hlocks hml hown hts hl
  have hown : s.vm.findClass RX1 = some m.cls := hown
  have hl : lv_has ls 3 [(0, .ref b), (1, .int (nI v))] := hl
  have h1 : v % 2147483648 < 2147483648 := Nat.mod_lt _ (by decide)
  obtain ⟨f, hf⟩ : ∃ f, f = v % 2147483648 % 34 := ⟨_, rfl⟩
  have hf2 : f < 34 := by rw [hf]; exact Nat.mod_lt _ (by decide)
  refine lv_bipush (v := nI 7) hx hb dX1_version_0 (by decide +kernel) ?_
  refine lv_iload_n hx hb dX1_version_2 rfl (lv_at hl 1 rfl) ?_
  refine lv_ldc (v := nI 2147483647) hx hb hown (hts _ q107) dX1_version_3 ?_
  refine lv_iand hx hb dX1_version_5 ?_
  refine pu_as (z := nI (v % 2147483648)) (bc_and2g hv) ?_
  refine lv_bipush (v := nI 34) hx hb dX1_version_6 (by decide +kernel) ?_
  refine lv_irem hx hb dX1_version_8 (by decide) ?_
  refine pu_as (z := nI f) (by rw [hf]; exact pk_rem h1 (by decide) (by decide)) ?_
  refine lv_iadd hx hb dX1_version_9 ?_
  refine pu_as (z := nI (7 + f)) (nI_add _ _) ?_
  refine lv_istore_n (lv' := [(2, .int (nI (7 + f))), (0, .ref b), (1, .int (nI v))]) hx hb dX1_version_10 rfl hl (by decide) rfl (fun ls hl => ?_)
  refine lv_iload_n hx hb dX1_version_11 rfl (lv_at hl 0 rfl) ?_
  refine lv_bipush (v := nI 12) hx hb dX1_version_12 (by decide +kernel) ?_
  refine lv_ishl hx hb dX1_version_14 ?_
  refine pu_as (z := nI ((7 + f) * 2 ^ 12)) (bc_sh (k := 12) (by decide) (by omega)) ?_
  refine lv_iload_n hx hb dX1_version_15 rfl (lv_at hl 0 rfl) ?_
  refine lv_sipush (v := nI 7973) hx hb dX1_version_16 (by decide +kernel) ?_
  refine pu_S (As := [.int (nI (7 + f)), .int (nI 7973)]) (rest := [.int (nI ((7 + f) * 2 ^ 12))]) hx hb hml hown hts (metX2_calc l (a := 7 + f) (g := 7973) (by omega) (by decide) (by decide)) (va_cwS 2 hts (lw_S q33 q34 q3 q35) rfl rfl rfl (by decide +kernel) ⟨Nat.le_of_ble_eq_true rfl, Nat.le_of_ble_eq_true rfl⟩) rfl hl.1 rfl (Nat.le_of_ble_eq_true rfl) dX1_version_19 ⟨Nat.le_of_ble_eq_true rfl, Nat.le_of_ble_eq_true rfl⟩ ?_
  refine lv_ior hx hb dX1_version_22 ?_
  refine pu_as (z := nI ((7 + f) * 2 ^ 12 ||| bc_rst (7 + f) 7973)) (bc_or _ _) ?_
  exact pu_ret hx hb hr hlocks (by rw [← hf]; rfl) dX1_version_23
set_option maxHeartbeats 4000000 in
set_option maxRecDepth 100000 in
/-- BchDesk(): nothing is written -/
theorem metX1_init (l : Launch) (b : Nat) : Met l yX1_init wsX1_init ({ frames := 1, cells := 0, slots := 0, locals := 12 }) (fun v _ => v = ([.ref b] : List Value).toArray) (fun _ st o t => o = .returned none ∧ t.heap = st.heap) 0 0 (fun _ => False) := by
  refine Met.ofW (cc := cX1_init) (maxL := 1) (ret := none) (by decide) rfl ?_
  intro p e s m args below meth c s₁ B hml hv
  have hv : args = ([.ref b] : List Value).toArray := hv
  subst hv
  have hx := B.exec
  have hb := B.bytes
  have hr := B.returns
  have hts := atoms_spec (ws := wsX1_init) B.pre
  have hts : ∀ w ∈ lw_all, w.before _ s = true := fun w h => hts w (List.mem_cons_of_mem _ h)
  have hown : s.vm.findClass RX1 = some m.cls := findClass_of_methodNamed B.named
  have hlocks := B.notSynchronized
  have hl := lv_entry ([.ref b]) (n := 1) (Nat.le_of_ble_eq_true rfl)
  rw [lg_entry_eq]
  generalize (lg_sl ([.ref b]) ++ List.replicate (1 - (lg_sl ([.ref b])).length) Slot.unset).toArray = ls at hl ⊢
  have hl : lv_has ls 1 [(0, .ref b)] := hl
  refine lv_aload_n hx hb dX1_init_0 rfl (lv_at hl 0 rfl) ?_
  refine W.objInit hx hb hown (hts _ q14) (hts _ q15) (hts _ q16) rfl (by rw [hml]; exact hl.1) rfl dX1_init_1 (Nat.le_of_ble_eq_true rfl) (Nat.le_of_ble_eq_true rfl) ?_
  refine W.eq (g2 := F0 m 4 ls []) rfl ?_
  exact W.vret hx hb hr (fun t ht _ => ⟨rfl, ht⟩) (fun q h => absurd h List.not_mem_nil) dX1_init_4 hlocks
end
section
/-! the law's own small methods: cell, highest, left, ones -/
abbrev rmX0_0 : Room := { frames := 0, cells := 0, slots := 0, locals := 0 }
abbrev rmX0_left : Room := { frames := 1, cells := 0, slots := 0, locals := 22 }
abbrev wsX0_cell : List Cond := ws_ yX0_cell cX0_cell 2 (some .int)
abbrev wsX0_highest : List Cond := ws_ yX0_highest cX0_highest 3 (some .int)
abbrev wsX0_left : List Cond := ws_ yX0_left cX0_left 5 (some .int)
abbrev wsX0_ones : List Cond := ws_ yX0_ones cX0_ones 3 (some .int)
set_option maxHeartbeats 4000000 in
set_option maxRecDepth 100000 in
/-- highest: the length -/
theorem metX0_highest (l : Launch) {v : Nat} (hv : v < 2 ^ 32) : Pu l yX0_highest wsX0_highest rmX0_0 [.int (nI v)] (nI (bc_bl v)) := by
  refine pu_of (cc := cX0_highest) (maxL := 3) (As := [.int (nI v)]) (by decide) (Nat.le_of_ble_eq_true rfl) ?_
  intro p e s m below meth c ls hx hb hr hlocks hml hown hts hl
  have hown : s.vm.findClass RX0 = some m.cls := hown
  have hl : lv_has ls 3 [(0, .int (nI v))] := hl
  have K4 : ∀ (j k : Nat) (ls : Array Slot), k + j = 32 → lv_has ls 3 [(0, .int (nI v)), (1, .int (nI (bc_bl (v % 2 ^ k)))), (2, .int (nI k))] → W p l e rmX0_0 s m ([.int (nI v)] : List Value).toArray below meth c s.heap [] 0 0 (MQ below (QcRead (nI (bc_bl v))) ([.int (nI v)] : List Value).toArray s 0 0 (fun _ => False)) (F0 m 4 ls []) := by
    intro j
    induction j with
    | zero =>
      intro k ls hk hl
      have hk : k = 32 := hk
      subst hk
      refine lv_iload_n hx hb dX0_highest_4 rfl (lv_at hl 2 rfl) ?_
      refine lv_bipush (v := nI 32) hx hb dX0_highest_5 (by decide +kernel) ?_
      refine lv_icmp_ge (tgt := 33) hx hb dX0_highest_7 (by decide) (fun h => ?_) (fun h => ?_)
      · have e : v % 2 ^ 32 = v := Nat.mod_eq_of_lt hv
        refine lv_iload_n hx hb dX0_highest_33 rfl (lv_at hl 1 rfl) ?_
        exact pu_ret hx hb hr hlocks (by rw [e]) dX0_highest_34
      · exact absurd (nI_le (Nat.le_refl 32) (by decide)) h
    | succ j ih =>
      intro k ls hk hl
      refine lv_iload_n hx hb dX0_highest_4 rfl (lv_at hl 2 rfl) ?_
      refine lv_bipush (v := nI 32) hx hb dX0_highest_5 (by decide +kernel) ?_
      refine lv_icmp_ge (tgt := 33) hx hb dX0_highest_7 (by decide) (fun h => ?_) (fun h => ?_)
      · exact absurd h (nI_ge (by omega) (by decide))
      · have hs := bc_bl_mod v k
        refine lv_iload_n hx hb dX0_highest_10 rfl (lv_at hl 0 rfl) ?_
        refine lv_iload_n hx hb dX0_highest_11 rfl (lv_at hl 2 rfl) ?_
        refine lv_iushr (v := nI (v / 2 ^ k)) hx hb dX0_highest_12 (bc_us hv (by omega)) ?_
        refine lv_iconst (v := nI 1) hx hb dX0_highest_13 (by decide +kernel) ?_
        refine lv_iand hx hb dX0_highest_14 ?_
        refine lv_iconst (v := nI 1) hx hb dX0_highest_15 (by decide +kernel) ?_
        refine lv_icmp_ne (tgt := 25) hx hb dX0_highest_16 (by decide) (fun hc => ?_) (fun hc => ?_)
        · have hc : ¬ v.testBit k = true := fun q => hc ((bc_bit hv).mpr q)
          rw [if_neg hc] at hs
          refine lv_iload_n hx hb dX0_highest_25 rfl (lv_at hl 1 rfl) ?_
          refine pu_as (z := nI (bc_bl (v % 2 ^ (k + 1)))) (by rw [hs]) ?_
          refine lv_istore_n (lv' := [(1, .int (nI (bc_bl (v % 2 ^ (k + 1))))), (0, .int (nI v)), (2, .int (nI k))]) hx hb dX0_highest_26 rfl hl (by decide) rfl (fun ls hl => ?_)
          refine lv_iinc (v := nI (k + 1)) (lv' := [(2, .int (nI (k + 1))), (1, .int (nI (bc_bl (v % 2 ^ (k + 1))))), (0, .int (nI v))]) hx hb dX0_highest_27 hl (k := 2) rfl (nI_1 k) (by decide) rfl (fun ls hl => ?_)
          refine lv_goto (tgt := 4) hx hb dX0_highest_30 (by decide) ?_
          exact ih (k + 1) ls (by omega) (lv_sub hl [2, 1, 0] rfl)
        · have hc : v.testBit k = true := (bc_bit hv).mp hc
          rw [if_pos hc] at hs
          refine lv_iload_n hx hb dX0_highest_19 rfl (lv_at hl 2 rfl) ?_
          refine lv_iconst (v := nI 1) hx hb dX0_highest_20 (by decide +kernel) ?_
          refine lv_iadd hx hb dX0_highest_21 ?_
          refine pu_as (z := nI (bc_bl (v % 2 ^ (k + 1)))) (by rw [nI_add, hs]) ?_
          refine lv_goto (tgt := 26) hx hb dX0_highest_22 (by decide) ?_
          refine lv_istore_n (lv' := [(1, .int (nI (bc_bl (v % 2 ^ (k + 1))))), (0, .int (nI v)), (2, .int (nI k))]) hx hb dX0_highest_26 rfl hl (by decide) rfl (fun ls hl => ?_)
          refine lv_iinc (v := nI (k + 1)) (lv' := [(2, .int (nI (k + 1))), (1, .int (nI (bc_bl (v % 2 ^ (k + 1))))), (0, .int (nI v))]) hx hb dX0_highest_27 hl (k := 2) rfl (nI_1 k) (by decide) rfl (fun ls hl => ?_)
          refine lv_goto (tgt := 4) hx hb dX0_highest_30 (by decide) ?_
          exact ih (k + 1) ls (by omega) (lv_sub hl [2, 1, 0] rfl)
  have h0 : bc_bl (v % 2 ^ 0) = 0 := by rw [Nat.pow_zero, Nat.mod_one, bc_bl_0]
  refine lv_iconst (v := nI 0) hx hb dX0_highest_0 (by decide +kernel) ?_
  refine pu_as (z := nI (bc_bl (v % 2 ^ 0))) (by rw [h0]) ?_
  refine lv_istore_n (lv' := [(1, .int (nI (bc_bl (v % 2 ^ 0)))), (0, .int (nI v))]) hx hb dX0_highest_1 rfl hl (by decide) rfl (fun ls hl => ?_)
  refine lv_iconst (v := nI 0) hx hb dX0_highest_2 (by decide +kernel) ?_
  refine lv_istore_n (lv' := [(2, .int (nI 0)), (1, .int (nI (bc_bl (v % 2 ^ 0)))), (0, .int (nI v))]) hx hb dX0_highest_3 rfl hl (by decide) rfl (fun ls hl => ?_)
  exact K4 32 0 ls rfl (lv_sub hl [2, 1, 0] rfl)
set_option maxHeartbeats 4000000 in
set_option maxRecDepth 100000 in
/-- ones: how many bits are set -/
theorem metX0_ones (l : Launch) {v : Nat} (hv : v < 2 ^ 32) : Pu l yX0_ones wsX0_ones rmX0_0 [.int (nI v)] (nI (bc_cnt v 32)) := by
  refine pu_of (cc := cX0_ones) (maxL := 3) (As := [.int (nI v)]) (by decide) (Nat.le_of_ble_eq_true rfl) ?_
  intro p e s m below meth c ls hx hb hr hlocks hml hown hts hl
  have hown : s.vm.findClass RX0 = some m.cls := hown
  have hl : lv_has ls 3 [(0, .int (nI v))] := hl
  have K4 : ∀ (j k : Nat) (ls : Array Slot), k + j = 32 → lv_has ls 3 [(0, .int (nI v)), (1, .int (nI (bc_cnt v k))), (2, .int (nI k))] → W p l e rmX0_0 s m ([.int (nI v)] : List Value).toArray below meth c s.heap [] 0 0 (MQ below (QcRead (nI (bc_cnt v 32))) ([.int (nI v)] : List Value).toArray s 0 0 (fun _ => False)) (F0 m 4 ls []) := by
    intro j
    induction j with
    | zero =>
      intro k ls hk hl
      have hk : k = 32 := hk
      subst hk
      refine lv_iload_n hx hb dX0_ones_4 rfl (lv_at hl 2 rfl) ?_
      refine lv_bipush (v := nI 32) hx hb dX0_ones_5 (by decide +kernel) ?_
      refine lv_icmp_ge (tgt := 24) hx hb dX0_ones_7 (by decide) (fun h => ?_) (fun h => ?_)
      · refine lv_iload_n hx hb dX0_ones_24 rfl (lv_at hl 1 rfl) ?_
        exact pu_ret hx hb hr hlocks (rfl) dX0_ones_25
      · exact absurd (nI_le (Nat.le_refl 32) (by decide)) h
    | succ j ih =>
      intro k ls hk hl
      refine lv_iload_n hx hb dX0_ones_4 rfl (lv_at hl 2 rfl) ?_
      refine lv_bipush (v := nI 32) hx hb dX0_ones_5 (by decide +kernel) ?_
      refine lv_icmp_ge (tgt := 24) hx hb dX0_ones_7 (by decide) (fun h => ?_) (fun h => ?_)
      · exact absurd h (nI_ge (by omega) (by decide))
      · refine lv_iload_n hx hb dX0_ones_10 rfl (lv_at hl 1 rfl) ?_
        refine lv_iload_n hx hb dX0_ones_11 rfl (lv_at hl 0 rfl) ?_
        refine lv_iload_n hx hb dX0_ones_12 rfl (lv_at hl 2 rfl) ?_
        refine lv_iushr (v := nI (v / 2 ^ k)) hx hb dX0_ones_13 (bc_us hv (by omega)) ?_
        refine lv_iconst (v := nI 1) hx hb dX0_ones_14 (by decide +kernel) ?_
        refine lv_iand hx hb dX0_ones_15 ?_
        refine pu_as (z := nI (v / 2 ^ k % 2)) (bc_and1 (bc_div_lt k hv)) ?_
        refine lv_iadd hx hb dX0_ones_16 ?_
        refine pu_as (z := nI (bc_cnt v (k + 1))) (by rw [nI_add, bc_cnt_s]) ?_
        refine lv_istore_n (lv' := [(1, .int (nI (bc_cnt v (k + 1)))), (0, .int (nI v)), (2, .int (nI k))]) hx hb dX0_ones_17 rfl hl (by decide) rfl (fun ls hl => ?_)
        refine lv_iinc (v := nI (k + 1)) (lv' := [(2, .int (nI (k + 1))), (1, .int (nI (bc_cnt v (k + 1)))), (0, .int (nI v))]) hx hb dX0_ones_18 hl (k := 2) rfl (nI_1 k) (by decide) rfl (fun ls hl => ?_)
        refine lv_goto (tgt := 4) hx hb dX0_ones_21 (by decide) ?_
        exact ih (k + 1) ls (by omega) (lv_sub hl [2, 1, 0] rfl)
  refine lv_iconst (v := nI 0) hx hb dX0_ones_0 (by decide +kernel) ?_
  refine pu_as (z := nI (bc_cnt v 0)) (rfl) ?_
  refine lv_istore_n (lv' := [(1, .int (nI (bc_cnt v 0))), (0, .int (nI v))]) hx hb dX0_ones_1 rfl hl (by decide) rfl (fun ls hl => ?_)
  refine lv_iconst (v := nI 0) hx hb dX0_ones_2 (by decide +kernel) ?_
  refine lv_istore_n (lv' := [(2, .int (nI 0)), (1, .int (nI (bc_cnt v 0))), (0, .int (nI v))]) hx hb dX0_ones_3 rfl hl (by decide) rfl (fun ls hl => ?_)
  exact K4 32 0 ls rfl (lv_sub hl [2, 1, 0] rfl)
set_option maxHeartbeats 4000000 in
set_option maxRecDepth 100000 in
/-- left: the long division, bit by bit -/
theorem metX0_left (l : Launch) {a g : Nat} (ha : a < 65536) (h2 : 2 ≤ g) (h14 : g < 16384) : Pu l yX0_left wsX0_left rmX0_left [.int (nI a), .int (nI g)] (nI (bc_rst a g)) := by
  refine pu_of (cc := cX0_left) (maxL := 5) (As := [.int (nI a), .int (nI g)]) (by decide) (Nat.le_of_ble_eq_true rfl) ?_
  intro p e s m below meth c ls hx hb hr hlocks hml hown hts hl
  have hown : s.vm.findClass RX0 = some m.cls := hown
  have hl : lv_has ls 5 [(0, .int (nI a)), (1, .int (nI g))] := hl
  obtain ⟨d, hd1, hd2, hbl, hg1, hg2⟩ := bc_pd h2 h14
  have hrs : bc_rst a g = bc_red g d (31 - d) (a * 2 ^ d) := by rw [bc_rst_d a hbl, Nat.mod_eq_of_lt ha]
  have hg32 : g < 2 ^ 32 := by omega
  have K15 : ∀ (n k t : Nat) (ls : Array Slot), k + 1 = d + n → d + n ≤ 31 → t < 2 ^ 32 → bc_red g d n t = bc_rst a g → lv_has ls 5 [(1, .int (nI g)), (2, .int (nI d)), (3, .int (nI t)), (4, .int (nI k))] → W p l e rmX0_left s m ([.int (nI a), .int (nI g)] : List Value).toArray below meth c s.heap [] 0 0 (MQ below (QcRead (nI (bc_rst a g))) ([.int (nI a), .int (nI g)] : List Value).toArray s 0 0 (fun _ => False)) (F0 m 15 ls []) := by
    intro n
    induction n with
    | zero =>
      intro k t ls hk hn ht he hl
      refine lv_iload hx hb dX0_left_15 (lv_at hl 3 rfl) ?_
      refine lv_iload_n hx hb dX0_left_17 rfl (lv_at hl 1 rfl) ?_
      refine lv_icmp_lt (tgt := 50) hx hb dX0_left_18 (by decide) (fun h => ?_) (fun h => ?_)
      · refine lv_iload_n hx hb dX0_left_50 rfl (lv_at hl 2 rfl) ?_
        exact pu_ret hx hb hr hlocks (congrArg nI he) dX0_left_51
      · exact absurd (nI_lt (by omega) (by omega)) h
    | succ n ih =>
      intro k t ls hk hn ht he hl
      have hk2 : k = d + n := by omega
      subst hk2
      refine lv_iload hx hb dX0_left_15 (lv_at hl 3 rfl) ?_
      refine lv_iload_n hx hb dX0_left_17 rfl (lv_at hl 1 rfl) ?_
      refine lv_icmp_lt (tgt := 50) hx hb dX0_left_18 (by decide) (fun h => ?_) (fun h => ?_)
      · exact absurd h (nI_nlt (by omega) (by omega))
      · rw [bc_red_s] at he
        refine lv_iload_n hx hb dX0_left_21 rfl (lv_at hl 2 rfl) ?_
        refine lv_iload hx hb dX0_left_22 (lv_at hl 3 rfl) ?_
        refine lv_iushr (v := nI (t / 2 ^ (d + n))) hx hb dX0_left_24 (bc_us ht (by omega)) ?_
        refine lv_iconst (v := nI 1) hx hb dX0_left_25 (by decide +kernel) ?_
        refine lv_iand hx hb dX0_left_26 ?_
        refine lv_iconst (v := nI 1) hx hb dX0_left_27 (by decide +kernel) ?_
        refine lv_icmp_ne (tgt := 42) hx hb dX0_left_28 (by decide) (fun hc => ?_) (fun hc => ?_)
        · have hc : ¬ t.testBit (d + n) = true := fun q => hc ((bc_bit ht).mpr q)
          rw [if_neg hc] at he
          refine lv_iload_n hx hb dX0_left_42 rfl (lv_at hl 2 rfl) ?_
          refine lv_istore_n (lv' := [(3, .int (nI t)), (1, .int (nI g)), (2, .int (nI d)), (4, .int (nI (d + n)))]) hx hb dX0_left_43 rfl hl (by decide) rfl (fun ls hl => ?_)
          refine lv_iinc (v := nI (d + n - 1)) (lv' := [(4, .int (nI (d + n - 1))), (3, .int (nI t)), (1, .int (nI g)), (2, .int (nI d))]) hx hb dX0_left_44 hl (k := 3) rfl (bc_dec (k := 1) (by omega) (by decide +kernel)) (by decide) rfl (fun ls hl => ?_)
          refine lv_goto (tgt := 15) hx hb dX0_left_47 (by decide) ?_
          exact ih (d + n - 1) t ls (by omega) (by omega) ht he (lv_sub hl [2, 3, 1, 0] rfl)
        · have hc : t.testBit (d + n) = true := (bc_bit ht).mp hc
          rw [if_pos hc] at he
          obtain ⟨hq1, hq2⟩ := bc_pb n hg1 hg2
          have hq3 : g * 2 ^ n < 2 ^ 32 := Nat.lt_of_lt_of_le hq2 (Nat.pow_le_pow_right (by decide) (by omega))
          refine lv_iload_n hx hb dX0_left_31 rfl (lv_at hl 2 rfl) ?_
          refine lv_iload_n hx hb dX0_left_32 rfl (lv_at hl 0 rfl) ?_
          refine lv_iload hx hb dX0_left_33 (lv_at hl 3 rfl) ?_
          refine lv_iload_n hx hb dX0_left_35 rfl (lv_at hl 1 rfl) ?_
          refine lv_isub hx hb dX0_left_36 ?_
          refine pu_as (z := nI n) (by rw [bc_sub (Nat.le_add_right d n)]; exact congrArg nI (by omega)) ?_
          refine lv_ishl hx hb dX0_left_37 ?_
          refine pu_as (z := nI (g * 2 ^ n)) (bc_sh (by omega) hq3) ?_
          refine lv_ixor hx hb dX0_left_38 ?_
          refine pu_as (z := nI (t ^^^ (g * 2 ^ n))) (nx_xor _ _) ?_
          refine lv_goto (tgt := 43) hx hb dX0_left_39 (by decide) ?_
          refine lv_istore_n (lv' := [(3, .int (nI (t ^^^ (g * 2 ^ n)))), (1, .int (nI g)), (2, .int (nI d)), (4, .int (nI (d + n)))]) hx hb dX0_left_43 rfl hl (by decide) rfl (fun ls hl => ?_)
          refine lv_iinc (v := nI (d + n - 1)) (lv' := [(4, .int (nI (d + n - 1))), (3, .int (nI (t ^^^ (g * 2 ^ n)))), (1, .int (nI g)), (2, .int (nI d))]) hx hb dX0_left_44 hl (k := 3) rfl (bc_dec (k := 1) (by omega) (by decide +kernel)) (by decide) rfl (fun ls hl => ?_)
          refine lv_goto (tgt := 15) hx hb dX0_left_47 (by decide) ?_
          exact ih (d + n - 1) _ ls (by omega) (by omega) (Nat.xor_lt_two_pow ht hq3) he (lv_sub hl [2, 3, 1, 0] rfl)
  have had32 : a * 2 ^ d < 2 ^ 32 := by
    have h9 := bc_sh16 a hd2
    rw [Nat.mod_eq_of_lt ha] at h9
    exact Nat.lt_of_lt_of_le h9 (Nat.pow_le_pow_right (by decide) (by omega))
  refine lv_iload_n hx hb dX0_left_0 rfl (lv_at hl 1 rfl) ?_
  refine pu_S (As := [.int (nI g)]) (rest := []) hx hb hml hown hts (metX0_highest l hg32) (va_cwS 1 hts (lw_S q111 q112 q1 q113) rfl rfl rfl (by decide +kernel) ⟨Nat.le_of_ble_eq_true rfl, Nat.le_of_ble_eq_true rfl⟩) rfl hl.1 rfl (Nat.le_of_ble_eq_true rfl) dX0_left_1 ⟨Nat.le_of_ble_eq_true rfl, Nat.le_of_ble_eq_true rfl⟩ ?_
  refine pu_as (z := nI (d + 1)) (by rw [hbl]) ?_
  refine lv_iconst (v := nI 1) hx hb dX0_left_4 (by decide +kernel) ?_
  refine lv_isub hx hb dX0_left_5 ?_
  refine pu_as (z := nI d) (bc_sub (Nat.le_add_left 1 d)) ?_
  refine lv_istore_n (lv' := [(2, .int (nI d)), (0, .int (nI a)), (1, .int (nI g))]) hx hb dX0_left_6 rfl hl (by decide) rfl (fun ls hl => ?_)
  refine lv_iload_n hx hb dX0_left_7 rfl (lv_at hl 1 rfl) ?_
  refine lv_iload_n hx hb dX0_left_8 rfl (lv_at hl 0 rfl) ?_
  refine lv_ishl hx hb dX0_left_9 ?_
  refine pu_as (z := nI (a * 2 ^ d)) (bc_sh (by omega) had32) ?_
  refine lv_istore_n (lv' := [(3, .int (nI (a * 2 ^ d))), (2, .int (nI d)), (0, .int (nI a)), (1, .int (nI g))]) hx hb dX0_left_10 rfl hl (by decide) rfl (fun ls hl => ?_)
  refine lv_bipush (v := nI 30) hx hb dX0_left_11 (by decide +kernel) ?_
  refine lv_istore (lv' := [(4, .int (nI 30)), (3, .int (nI (a * 2 ^ d))), (2, .int (nI d)), (0, .int (nI a)), (1, .int (nI g))]) hx hb dX0_left_13 hl (by decide) rfl (fun ls hl => ?_)
  exact K15 (31 - d) 30 (a * 2 ^ d) ls (by omega) (by omega) had32 hrs.symm (lv_sub hl [4, 2, 1, 0] rfl)
set_option maxHeartbeats 4000000 in
set_option maxRecDepth 100000 in
/-- cell: some int, nothing is written (L: the length of the script) -/
theorem metX0_cell (l : Launch) (b L : Nat) (xs : Nat → Int32) (hL : L ≤ 96) {j : Nat} (hj : j < 96) : Met l yX0_cell wsX0_cell rmX0_0 (fun v U => v = ([.ref b, .int (nI j)] : List Value).toArray ∧ va_X b L xs U U.heap) QcAny 0 0 (fun _ => False) := by
  refine Met.ofW (cc := cX0_cell) (maxL := 2) (ret := (some .int)) (by decide) rfl ?_
  intro p e s m args below meth c s₁ B hml hv
  obtain ⟨hv, hX⟩ : args = ([.ref b, .int (nI j)] : List Value).toArray ∧ va_X b L xs s s.heap := hv
  subst hv
  have hx := B.exec
  have hb := B.bytes
  have hr := B.returns
  have hlocks := B.notSynchronized
  have hbl : b < s.heap.size := by
    obtain ⟨scr, h1, -⟩ := hX
    exact (Array.getElem?_eq_some_iff.mp h1).1
  have hbA : ¬ (fun _ : Nat => False) b := fun h => h
  have hS : va_S (fun _ : Nat => False) s.heap s.heap [] := va_S.rf
  have hl := lv_entry ([.ref b, .int (nI j)]) (n := 2) (Nat.le_of_ble_eq_true rfl)
  rw [lg_entry_eq]
  generalize (lg_sl ([.ref b, .int (nI j)]) ++ List.replicate (2 - (lg_sl ([.ref b, .int (nI j)])).length) Slot.unset).toArray = ls at hl ⊢
  have hl : lv_has ls 2 [(0, .ref b), (1, .int (nI j))] := hl
  refine lv_iload_n hx hb dX0_cell_0 rfl (lv_at hl 1 rfl) ?_
  refine lv_aload_n hx hb dX0_cell_1 rfl (lv_at hl 0 rfl) ?_
  refine va_slen hx hb hX hbl hbA hS dX0_cell_2 ?_
  refine lv_icmp_ge (tgt := 12) hx hb dX0_cell_3 (by decide) (fun h => ?_) (fun h => ?_)
  · refine lv_iconst (v := nI 0) hx hb dX0_cell_12 (by decide +kernel) ?_
    exact W.iret hx hb hr (fun t ht _ => ⟨nI 0, rfl, ht⟩) (fun q h => absurd h List.not_mem_nil) dX0_cell_13 hlocks
  · have hlt : j < L := by
      rcases Nat.lt_or_ge j L with q | q
      · exact q
      · exact absurd (nI_le q (by omega)) h
    refine lv_aload_n hx hb dX0_cell_6 rfl (lv_at hl 0 rfl) ?_
    refine lv_iload_n hx hb dX0_cell_7 rfl (lv_at hl 1 rfl) ?_
    refine va_sld hx hb hX hbl hbA hS (vp_in_nI hlt (by omega)) dX0_cell_8 ?_
    refine lv_goto (tgt := 13) hx hb dX0_cell_9 (by decide) ?_
    exact W.iret hx hb hr (fun t ht _ => ⟨_, rfl, ht⟩) (fun q h => absurd h List.not_mem_nil) dX0_cell_13 hlocks
end
section
/-! isRest: the rest is that of the long division, adds over bits, and multiples leave none -/
/-- the cell b is an object of BchDesk -/
def bc_obj (s : State) (H : Heap) (b : Nat) : Prop := ∃ cellB : Cell, H[b]? = some cellB ∧ cellB.vm.isStatics = false ∧ s.vm.findClass RX1 = some cellB.cls
theorem bc_obj.moved {s U : State} {H : Heap} {b : Nat} (hvm : s.vm.Alike U.vm) (h : bc_obj s H b) : bc_obj U H b := by
  obtain ⟨cell, h1, h2, h3⟩ := h
  exact ⟨cell, h1, h2, by rw [hvm.findClass]; exact h3⟩
abbrev rmX0_isRest : Room := { frames := 4, cells := 0, slots := 0, locals := 86 }
abbrev wsX0_isRest : List Cond := ws_ yX0_isRest cX0_isRest 9 (some .boolean)
/-- what isRest asks at its start -/
abbrev bc_isP (b v q w : Nat) : Array Value → State → Prop := fun a U => a = ([.ref b, .int (nI v), .int (nI q), .int (nI w)] : List Value).toArray ∧ bc_obj U U.heap b
set_option maxHeartbeats 4000000 in
set_option maxRecDepth 100000 in
/-- isRest answers true -/
theorem metX0_isRest (l : Launch) (b : Nat) {v q w : Nat} (hv : v < 2 ^ 32) (hq : q < 2 ^ 32) (hw : w < 2 ^ 32) : Met l yX0_isRest wsX0_isRest rmX0_isRest (bc_isP b v q w) (QcRead (nI 1)) 0 0 (fun _ => False) := by
  refine Met.ofW (cc := cX0_isRest) (maxL := 9) (ret := (some .boolean)) (by decide) rfl ?_
  intro p e s m args below meth c s₁ B hml hpre
  obtain ⟨hpre, ho⟩ : args = ([.ref b, .int (nI v), .int (nI q), .int (nI w)] : List Value).toArray ∧ bc_obj s s.heap b := hpre
  subst hpre
  have hx := B.exec
  have hb := B.bytes
  have hr := B.returns
  have hts := atoms_spec (ws := wsX0_isRest) B.pre
  have hts : ∀ w ∈ lw_all, w.before _ s = true := fun w h => hts w (List.mem_cons_of_mem _ h)
  have hown : s.vm.findClass RX0 = some m.cls := findClass_of_methodNamed B.named
  have hlocks := B.notSynchronized
  have hl := lv_entry ([.ref b, .int (nI v), .int (nI q), .int (nI w)]) (n := 9) (Nat.le_of_ble_eq_true rfl)
  rw [lg_entry_eq]
  generalize (lg_sl ([.ref b, .int (nI v), .int (nI q), .int (nI w)]) ++ List.replicate (9 - (lg_sl ([.ref b, .int (nI v), .int (nI q), .int (nI w)])).length) Slot.unset).toArray = ls at hl ⊢
  have hl : lv_has ls 9 [(0, .ref b), (1, .int (nI v)), (2, .int (nI q)), (3, .int (nI w))] := hl
  show W p l e rmX0_isRest s m ([.ref b, .int (nI v), .int (nI q), .int (nI w)] : List Value).toArray below meth c s.heap [] 0 0 (MQ below (QcRead (nI 1)) ([.ref b, .int (nI v), .int (nI q), .int (nI w)] : List Value).toArray s 0 0 (fun _ => False)) (F0 m 0 ls [])
  obtain ⟨g, hg⟩ : ∃ g, g = 2 + q % 8192 := ⟨_, rfl⟩
  have hq2 : q % 8192 < 8192 := Nat.mod_lt _ (by decide)
  have h2 : 2 ≤ g := by omega
  have h14 : g < 16384 := by omega
  have hg32 : g < 2 ^ 32 := by omega
  obtain ⟨d, hd1, hd2, hbl, hg1, hg2⟩ := bc_pd h2 h14
  have hrest : ∀ {a : Nat}, a < 2 ^ 32 → Pu l yX1_rest wsX1_rest rmX1_bch [.ref b, .int (nI a), .int (nI q)] (nI (bc_rst a g)) := fun ha => by rw [hg]; exact metX1_rest l b ha hq
  have hlt : ∀ a, bc_rst a g < 2 ^ d := fun a => bc_rst_lt a hd2 hbl hg1 hg2
  have hd13 : 2 ^ d ≤ 8192 := show 2 ^ d ≤ 2 ^ 13 from Nat.pow_le_pow_right (by decide) hd2
  have K92 : ∀ (j k : Nat) (ls : Array Slot), k + j = 15 - d → lv_has ls 9 [(0, .ref b), (1, .int (nI v)), (2, .int (nI q)), (3, .int (nI w)), (4, .int (nI g)), (5, .int (nI (bc_rst v g))), (7, .int (nI (bc_tms g w k))), (8, .int (nI k))] → W p l e rmX0_isRest s m ([.ref b, .int (nI v), .int (nI q), .int (nI w)] : List Value).toArray below meth c s.heap [] 0 0 (MQ below (QcRead (nI 1)) ([.ref b, .int (nI v), .int (nI q), .int (nI w)] : List Value).toArray s 0 0 (fun _ => False)) (F0 m 92 ls []) := by
    intro j
    induction j with
    | zero =>
      intro k ls hk hl
      have hk : k = 15 - d := hk
      have hkd : k + d ≤ 15 := by omega
      have ht16 := bc_tms_16 w hkd hg2
      have ht0 := bc_rst_tms w hkd hbl hg1 hg2
      refine lv_iload hx hb dX0_isRest_92 (lv_at hl 7 rfl) ?_
      refine lv_bipush (v := nI 16) hx hb dX0_isRest_94 (by decide +kernel) ?_
      refine lv_iload hx hb dX0_isRest_96 (lv_at hl 4 rfl) ?_
      refine pu_S (As := [.int (nI g)]) (rest := [.int (nI 16), .int (nI k)]) hx hb hml hown hts (metX0_highest l hg32) (va_cwS 1 hts (lw_S q111 q112 q1 q113) rfl rfl rfl (by decide +kernel) ⟨Nat.le_of_ble_eq_true rfl, Nat.le_of_ble_eq_true rfl⟩) rfl hl.1 rfl (Nat.le_of_ble_eq_true rfl) dX0_isRest_98 ⟨Nat.le_of_ble_eq_true rfl, Nat.le_of_ble_eq_true rfl⟩ ?_
      refine pu_as (z := nI (d + 1)) (by rw [hbl]) ?_
      refine lv_isub hx hb dX0_isRest_101 ?_
      refine pu_as (z := nI (16 - (d + 1))) (bc_sub (by omega)) ?_
      refine lv_icmp_ge (tgt := 135) hx hb dX0_isRest_102 (by decide) (fun h => ?_) (fun h => ?_)
      · refine lv_aload_n hx hb dX0_isRest_135 rfl (lv_at hl 0 rfl) ?_
        refine lv_iload hx hb dX0_isRest_136 (lv_at hl 6 rfl) ?_
        refine lv_iload_n hx hb dX0_isRest_138 rfl (lv_at hl 2 rfl) ?_
        refine pu_V (As := [.int (nI (bc_tms g w k)), .int (nI q)]) (rest := []) hx hb hml hown hts (hrest (a := bc_tms g w k) (by omega)) ho (cwV 2 hts (lw_V q123 q124 q125 q2 q126) rfl rfl rfl (by decide +kernel) ⟨Nat.le_of_ble_eq_true rfl, Nat.le_of_ble_eq_true rfl⟩) rfl hl.1 rfl (Nat.le_of_ble_eq_true rfl) dX0_isRest_139 ⟨Nat.le_of_ble_eq_true rfl, Nat.le_of_ble_eq_true rfl⟩ ?_
        refine lv_if_ne (tgt := 163) hx hb dX0_isRest_142 (by decide) (fun h9 => ?_) (fun h9 => ?_)
        · exact absurd ((congrArg nI ht0).trans nI_0) h9
        · refine lv_aload_n hx hb dX0_isRest_145 rfl (lv_at hl 0 rfl) ?_
          refine lv_iload hx hb dX0_isRest_146 (lv_at hl 6 rfl) ?_
          refine lv_iload_n hx hb dX0_isRest_148 rfl (lv_at hl 1 rfl) ?_
          refine lv_ixor hx hb dX0_isRest_149 ?_
          refine pu_as (z := nI (bc_tms g w k ^^^ v)) (nx_xor _ _) ?_
          refine lv_iload_n hx hb dX0_isRest_150 rfl (lv_at hl 2 rfl) ?_
          refine pu_V (As := [.int (nI (bc_tms g w k ^^^ v)), .int (nI q)]) (rest := []) hx hb hml hown hts (hrest (a := bc_tms g w k ^^^ v) (Nat.xor_lt_two_pow (by omega) hv)) ho (cwV 2 hts (lw_V q123 q124 q125 q2 q126) rfl rfl rfl (by decide +kernel) ⟨Nat.le_of_ble_eq_true rfl, Nat.le_of_ble_eq_true rfl⟩) rfl hl.1 rfl (Nat.le_of_ble_eq_true rfl) dX0_isRest_151 ⟨Nat.le_of_ble_eq_true rfl, Nat.le_of_ble_eq_true rfl⟩ ?_
          refine lv_iload hx hb dX0_isRest_154 (lv_at hl 5 rfl) ?_
          refine lv_icmp_ne (tgt := 163) hx hb dX0_isRest_156 (by decide) (fun h8 => ?_) (fun h8 => ?_)
          · exact absurd (by rw [bc_rst_lin, ht0, Nat.zero_xor]) h8
          · refine lv_iconst (v := nI 1) hx hb dX0_isRest_159 (by decide +kernel) ?_
            refine lv_goto (tgt := 164) hx hb dX0_isRest_160 (by decide) ?_
            exact pu_retz hx hb hr hlocks rfl (rfl) dX0_isRest_164
      · exact absurd (nI_le (by omega) (by omega)) h
    | succ j ih =>
      intro k ls hk hl
      refine lv_iload hx hb dX0_isRest_92 (lv_at hl 7 rfl) ?_
      refine lv_bipush (v := nI 16) hx hb dX0_isRest_94 (by decide +kernel) ?_
      refine lv_iload hx hb dX0_isRest_96 (lv_at hl 4 rfl) ?_
      refine pu_S (As := [.int (nI g)]) (rest := [.int (nI 16), .int (nI k)]) hx hb hml hown hts (metX0_highest l hg32) (va_cwS 1 hts (lw_S q111 q112 q1 q113) rfl rfl rfl (by decide +kernel) ⟨Nat.le_of_ble_eq_true rfl, Nat.le_of_ble_eq_true rfl⟩) rfl hl.1 rfl (Nat.le_of_ble_eq_true rfl) dX0_isRest_98 ⟨Nat.le_of_ble_eq_true rfl, Nat.le_of_ble_eq_true rfl⟩ ?_
      refine pu_as (z := nI (d + 1)) (by rw [hbl]) ?_
      refine lv_isub hx hb dX0_isRest_101 ?_
      refine pu_as (z := nI (16 - (d + 1))) (bc_sub (by omega)) ?_
      refine lv_icmp_ge (tgt := 135) hx hb dX0_isRest_102 (by decide) (fun h => ?_) (fun h => ?_)
      · exact absurd h (nI_ge (by omega) (by omega))
      · have hs := bc_tms_s g w k
        obtain ⟨hp1, hp2⟩ := bc_pb k hg1 hg2
        have hp3 : g * 2 ^ k < 2 ^ 32 := Nat.lt_of_lt_of_le hp2 (Nat.pow_le_pow_right (by decide) (by omega))
        refine lv_iload hx hb dX0_isRest_105 (lv_at hl 6 rfl) ?_
        refine lv_iload_n hx hb dX0_isRest_107 rfl (lv_at hl 3 rfl) ?_
        refine lv_iload hx hb dX0_isRest_108 (lv_at hl 7 rfl) ?_
        refine lv_iushr (v := nI (w / 2 ^ k)) hx hb dX0_isRest_110 (bc_us hw (by omega)) ?_
        refine lv_iconst (v := nI 1) hx hb dX0_isRest_111 (by decide +kernel) ?_
        refine lv_iand hx hb dX0_isRest_112 ?_
        refine lv_iconst (v := nI 1) hx hb dX0_isRest_113 (by decide +kernel) ?_
        refine lv_icmp_ne (tgt := 125) hx hb dX0_isRest_114 (by decide) (fun hc => ?_) (fun hc => ?_)
        · have hc : ¬ w.testBit k = true := fun q => hc ((bc_bit hw).mpr q)
          rw [if_neg hc] at hs
          refine lv_iconst (v := nI 0) hx hb dX0_isRest_125 (by decide +kernel) ?_
          refine lv_ixor hx hb dX0_isRest_126 ?_
          refine pu_as (z := nI (bc_tms g w (k + 1))) (by rw [nx_xor, hs]) ?_
          refine lv_istore (lv' := [(7, .int (nI (bc_tms g w (k + 1)))), (0, .ref b), (1, .int (nI v)), (2, .int (nI q)), (3, .int (nI w)), (4, .int (nI g)), (5, .int (nI (bc_rst v g))), (8, .int (nI k))]) hx hb dX0_isRest_127 hl (by decide) rfl (fun ls hl => ?_)
          refine lv_iinc (v := nI (k + 1)) (lv' := [(8, .int (nI (k + 1))), (7, .int (nI (bc_tms g w (k + 1)))), (0, .ref b), (1, .int (nI v)), (2, .int (nI q)), (3, .int (nI w)), (4, .int (nI g)), (5, .int (nI (bc_rst v g)))]) hx hb dX0_isRest_129 hl (k := 7) rfl (nI_1 k) (by decide) rfl (fun ls hl => ?_)
          refine lv_goto (tgt := 92) hx hb dX0_isRest_132 (by decide) ?_
          exact ih (k + 1) ls (by omega) (lv_sub hl [2, 3, 4, 5, 6, 7, 1, 0] rfl)
        · have hc : w.testBit k = true := (bc_bit hw).mp hc
          rw [if_pos hc] at hs
          refine lv_iload hx hb dX0_isRest_117 (lv_at hl 4 rfl) ?_
          refine lv_iload hx hb dX0_isRest_119 (lv_at hl 7 rfl) ?_
          refine lv_ishl hx hb dX0_isRest_121 ?_
          refine pu_as (z := nI (g * 2 ^ k)) (bc_sh (by omega) hp3) ?_
          refine lv_goto (tgt := 126) hx hb dX0_isRest_122 (by decide) ?_
          refine lv_ixor hx hb dX0_isRest_126 ?_
          refine pu_as (z := nI (bc_tms g w (k + 1))) (by rw [nx_xor, hs]) ?_
          refine lv_istore (lv' := [(7, .int (nI (bc_tms g w (k + 1)))), (0, .ref b), (1, .int (nI v)), (2, .int (nI q)), (3, .int (nI w)), (4, .int (nI g)), (5, .int (nI (bc_rst v g))), (8, .int (nI k))]) hx hb dX0_isRest_127 hl (by decide) rfl (fun ls hl => ?_)
          refine lv_iinc (v := nI (k + 1)) (lv' := [(8, .int (nI (k + 1))), (7, .int (nI (bc_tms g w (k + 1)))), (0, .ref b), (1, .int (nI v)), (2, .int (nI q)), (3, .int (nI w)), (4, .int (nI g)), (5, .int (nI (bc_rst v g)))]) hx hb dX0_isRest_129 hl (k := 7) rfl (nI_1 k) (by decide) rfl (fun ls hl => ?_)
          refine lv_goto (tgt := 92) hx hb dX0_isRest_132 (by decide) ?_
          exact ih (k + 1) ls (by omega) (lv_sub hl [2, 3, 4, 5, 6, 7, 1, 0] rfl)
  refine lv_iconst (v := nI 2) hx hb dX0_isRest_0 (by decide +kernel) ?_
  refine lv_iload_n hx hb dX0_isRest_1 rfl (lv_at hl 2 rfl) ?_
  refine lv_sipush (v := nI 8191) hx hb dX0_isRest_2 (by decide +kernel) ?_
  refine lv_iand hx hb dX0_isRest_5 ?_
  refine pu_as (z := nI (q % 8192)) (bc_and13 hq) ?_
  refine lv_iadd hx hb dX0_isRest_6 ?_
  refine pu_as (z := nI g) (by rw [nI_add, hg]) ?_
  refine lv_istore (lv' := [(4, .int (nI g)), (0, .ref b), (1, .int (nI v)), (2, .int (nI q)), (3, .int (nI w))]) hx hb dX0_isRest_7 hl (by decide) rfl (fun ls hl => ?_)
  refine lv_aload_n hx hb dX0_isRest_9 rfl (lv_at hl 1 rfl) ?_
  refine lv_iload_n hx hb dX0_isRest_10 rfl (lv_at hl 2 rfl) ?_
  refine lv_iload_n hx hb dX0_isRest_11 rfl (lv_at hl 3 rfl) ?_
  refine pu_V (As := [.int (nI v), .int (nI q)]) (rest := []) hx hb hml hown hts (hrest hv) ho (cwV 2 hts (lw_V q123 q124 q125 q2 q126) rfl rfl rfl (by decide +kernel) ⟨Nat.le_of_ble_eq_true rfl, Nat.le_of_ble_eq_true rfl⟩) rfl hl.1 rfl (Nat.le_of_ble_eq_true rfl) dX0_isRest_12 ⟨Nat.le_of_ble_eq_true rfl, Nat.le_of_ble_eq_true rfl⟩ ?_
  refine lv_istore (lv' := [(5, .int (nI (bc_rst v g))), (4, .int (nI g)), (0, .ref b), (1, .int (nI v)), (2, .int (nI q)), (3, .int (nI w))]) hx hb dX0_isRest_15 hl (by decide) rfl (fun ls hl => ?_)
  refine lv_iload hx hb dX0_isRest_17 (lv_at hl 1 rfl) ?_
  refine pu_S (As := [.int (nI g)]) (rest := []) hx hb hml hown hts (metX0_highest l hg32) (va_cwS 1 hts (lw_S q111 q112 q1 q113) rfl rfl rfl (by decide +kernel) ⟨Nat.le_of_ble_eq_true rfl, Nat.le_of_ble_eq_true rfl⟩) rfl hl.1 rfl (Nat.le_of_ble_eq_true rfl) dX0_isRest_19 ⟨Nat.le_of_ble_eq_true rfl, Nat.le_of_ble_eq_true rfl⟩ ?_
  refine pu_as (z := nI (d + 1)) (by rw [hbl]) ?_
  refine lv_iconst (v := nI 1) hx hb dX0_isRest_22 (by decide +kernel) ?_
  refine lv_isub hx hb dX0_isRest_23 ?_
  refine pu_as (z := nI d) (bc_sub (Nat.le_add_left 1 d)) ?_
  refine lv_istore (lv' := [(6, .int (nI d)), (5, .int (nI (bc_rst v g))), (4, .int (nI g)), (0, .ref b), (1, .int (nI v)), (2, .int (nI q)), (3, .int (nI w))]) hx hb dX0_isRest_24 hl (by decide) rfl (fun ls hl => ?_)
  refine lv_iconst (v := nI 0) hx hb dX0_isRest_26 (by decide +kernel) ?_
  refine lv_istore (lv' := [(7, .int (nI 0)), (6, .int (nI d)), (5, .int (nI (bc_rst v g))), (4, .int (nI g)), (0, .ref b), (1, .int (nI v)), (2, .int (nI q)), (3, .int (nI w))]) hx hb dX0_isRest_27 hl (by decide) rfl (fun ls hl => ?_)
  refine lv_iload hx hb dX0_isRest_29 (lv_at hl 2 rfl) ?_
  refine lv_iload_n hx hb dX0_isRest_31 rfl (lv_at hl 5 rfl) ?_
  refine lv_ldc (v := nI 65535) hx hb hown (hts _ q128) dX0_isRest_32 ?_
  refine lv_iand hx hb dX0_isRest_34 ?_
  refine pu_as (z := nI (v % 65536)) (bc_and16 hv) ?_
  refine lv_iload hx hb dX0_isRest_35 (lv_at hl 3 rfl) ?_
  refine pu_S (As := [.int (nI (v % 65536)), .int (nI g)]) (rest := [.int (nI (bc_rst v g))]) hx hb hml hown hts (metX0_left l (a := v % 65536) (Nat.mod_lt _ (by decide)) h2 h14) (va_cwS 2 hts (lw_S q114 q115 q1 q116) rfl rfl rfl (by decide +kernel) ⟨Nat.le_of_ble_eq_true rfl, Nat.le_of_ble_eq_true rfl⟩) rfl hl.1 rfl (Nat.le_of_ble_eq_true rfl) dX0_isRest_37 ⟨Nat.le_of_ble_eq_true rfl, Nat.le_of_ble_eq_true rfl⟩ ?_
  refine pu_as (z := nI (bc_rst v g)) (by rw [bc_rst_mod]) ?_
  refine lv_icmp_ne (tgt := 87) hx hb dX0_isRest_40 (by decide) (fun h => ?_) (fun h => ?_)
  · exact absurd rfl h
  · refine lv_iload hx hb dX0_isRest_43 (lv_at hl 2 rfl) ?_
    refine lv_if_lt (tgt := 87) hx hb dX0_isRest_45 (by decide) (fun h5 => ?_) (fun h5 => ?_)
    · exact absurd h5 (nI_pos (by have := hlt v; omega))
    · refine lv_iload hx hb dX0_isRest_48 (lv_at hl 2 rfl) ?_
      have hv32 : bc_rst v g < 2 ^ 32 := by have := hlt v; omega
      have hvd : bc_bl (bc_rst v g) ≤ d := bc_bl_le.mpr (hlt v)
      refine pu_S (As := [.int (nI (bc_rst v g))]) (rest := []) hx hb hml hown hts (metX0_highest l hv32) (va_cwS 1 hts (lw_S q111 q112 q1 q113) rfl rfl rfl (by decide +kernel) ⟨Nat.le_of_ble_eq_true rfl, Nat.le_of_ble_eq_true rfl⟩) rfl hl.1 rfl (Nat.le_of_ble_eq_true rfl) dX0_isRest_50 ⟨Nat.le_of_ble_eq_true rfl, Nat.le_of_ble_eq_true rfl⟩ ?_
      refine lv_iload hx hb dX0_isRest_53 (lv_at hl 1 rfl) ?_
      refine lv_icmp_gt (tgt := 87) hx hb dX0_isRest_55 (by decide) (fun h6 => ?_) (fun h6 => ?_)
      · exact absurd h6 (nI_nlt hvd (by omega))
      · refine lv_aload_n hx hb dX0_isRest_58 rfl (lv_at hl 4 rfl) ?_
        refine lv_iload_n hx hb dX0_isRest_59 rfl (lv_at hl 5 rfl) ?_
        refine lv_iload_n hx hb dX0_isRest_60 rfl (lv_at hl 7 rfl) ?_
        refine lv_ixor hx hb dX0_isRest_61 ?_
        refine pu_as (z := nI (v ^^^ w)) (nx_xor _ _) ?_
        refine lv_iload_n hx hb dX0_isRest_62 rfl (lv_at hl 6 rfl) ?_
        refine pu_V (As := [.int (nI (v ^^^ w)), .int (nI q)]) (rest := []) hx hb hml hown hts (hrest (a := v ^^^ w) (Nat.xor_lt_two_pow hv hw)) ho (cwV 2 hts (lw_V q123 q124 q125 q2 q126) rfl rfl rfl (by decide +kernel) ⟨Nat.le_of_ble_eq_true rfl, Nat.le_of_ble_eq_true rfl⟩) rfl hl.1 rfl (Nat.le_of_ble_eq_true rfl) dX0_isRest_63 ⟨Nat.le_of_ble_eq_true rfl, Nat.le_of_ble_eq_true rfl⟩ ?_
        refine lv_iload hx hb dX0_isRest_66 (lv_at hl 2 rfl) ?_
        refine lv_aload_n hx hb dX0_isRest_68 rfl (lv_at hl 4 rfl) ?_
        refine lv_iload_n hx hb dX0_isRest_69 rfl (lv_at hl 7 rfl) ?_
        refine lv_iload_n hx hb dX0_isRest_70 rfl (lv_at hl 6 rfl) ?_
        refine pu_V (As := [.int (nI w), .int (nI q)]) (rest := [.int (nI (bc_rst v g)), .int (nI (bc_rst (v ^^^ w) g))]) hx hb hml hown hts (hrest hw) ho (cwV 2 hts (lw_V q123 q124 q125 q2 q126) rfl rfl rfl (by decide +kernel) ⟨Nat.le_of_ble_eq_true rfl, Nat.le_of_ble_eq_true rfl⟩) rfl hl.1 rfl (Nat.le_of_ble_eq_true rfl) dX0_isRest_71 ⟨Nat.le_of_ble_eq_true rfl, Nat.le_of_ble_eq_true rfl⟩ ?_
        refine lv_ixor hx hb dX0_isRest_74 ?_
        refine pu_as (z := nI (bc_rst v g ^^^ bc_rst w g)) (nx_xor _ _) ?_
        refine lv_icmp_ne (tgt := 87) hx hb dX0_isRest_75 (by decide) (fun h7 => ?_) (fun h7 => ?_)
        · exact absurd (by rw [bc_rst_lin]) h7
        · refine lv_aload_n hx hb dX0_isRest_78 rfl (lv_at hl 4 rfl) ?_
          refine lv_iconst (v := nI 0) hx hb dX0_isRest_79 (by decide +kernel) ?_
          refine lv_iload_n hx hb dX0_isRest_80 rfl (lv_at hl 6 rfl) ?_
          refine pu_V (As := [.int (nI 0), .int (nI q)]) (rest := []) hx hb hml hown hts (hrest (a := 0) (by decide)) ho (cwV 2 hts (lw_V q123 q124 q125 q2 q126) rfl rfl rfl (by decide +kernel) ⟨Nat.le_of_ble_eq_true rfl, Nat.le_of_ble_eq_true rfl⟩) rfl hl.1 rfl (Nat.le_of_ble_eq_true rfl) dX0_isRest_81 ⟨Nat.le_of_ble_eq_true rfl, Nat.le_of_ble_eq_true rfl⟩ ?_
          refine lv_if_eq (tgt := 89) hx hb dX0_isRest_84 (by decide) (fun h8 => ?_) (fun h8 => ?_)
          · refine lv_iconst (v := nI 0) hx hb dX0_isRest_89 (by decide +kernel) ?_
            refine lv_istore (lv' := [(8, .int (nI 0)), (7, .int (nI 0)), (6, .int (nI d)), (5, .int (nI (bc_rst v g))), (4, .int (nI g)), (0, .ref b), (1, .int (nI v)), (2, .int (nI q)), (3, .int (nI w))]) hx hb dX0_isRest_90 hl (by decide) rfl (fun ls hl => ?_)
            exact K92 (15 - d) 0 ls (Nat.zero_add _) (lv_sub hl [5, 6, 7, 8, 4, 3, 1, 0] rfl)
          · exact absurd ((congrArg nI (bc_rst_0 g)).trans nI_0) h8
end
section
/-! THE CLAIM OUT OF ONE WALK OF THE LAW'S BODY. Your part is whole_start (and what it stands on); all else here is the same for every law, but numbers. -/
def R_law : String := "BchDeskLaw"
def lw_P (b : Addr) (xs : List Int32) (args : Array Value) (s : State) : Prop := args = #[.ref b] ∧ s.IntsAt b xs ∧ xs.length ≤ 96 ∧ (Jvm.Cond.and given_1 narrow_1).before args s = true
def lw_Q (_ : Array Value) (s : State) (o : Outcome) (t : State) : Prop := o = .returned (some (.int 1)) ∧ Framed s o t [] 600000 7290000
def lw_Z (below : List Frame) (a : Array Value) (s : State) : State → Prop := fun t => ∃ o, t.status = .running ∧ Ended t below o ∧ lw_Q a s o t
/-- the law's own end, with 1 on the stack, nothing written that was there before, its room as the claim has it -/
theorem lw_ret {p : Program} {l : Launch} {e : Env} {s : State} {m : MethodId} {below : List Frame} {meth : Method} {c : Code} {b : Nat} (hx : p.tables.exec = Jvm.exec) (hb : c.code = code) (hr : meth.sig.returnType = ret) (hlocks : meth.locks = false) {pc : Nat} {H : Heap} {ls : Array Slot} (hdg : decode code pc = .ok (.ireturn, 1)) : W p l e room_1 s m #[Value.ref b] below meth c H [] 600000 7290000 (lw_Z below #[Value.ref b] s) (F0 m pc ls [.int 1]) := by
  intro T hT X
  obtain ⟨fs, hret, hrun, hended, hW, hframe⟩ := X.leave (v := some (.int 1)) (hlocks := hlocks) (fun h => by rw [hr] at h; cases h)
  have hmeth' : T.vm.method? m = some meth := X.method'
  refine ⟨T.setFrames fs, ?_, .returned (some (.int 1)), hrun, hended, rfl, ⟨_, rfl⟩, hW, hframe⟩
  jvm_step X.here [X.here.top, hx, hb, hdg, hmeth', hr, ret, narrow_b1]
  (try refine ⟨rfl, ?_⟩); (try refine ⟨rfl, ?_⟩)
  first | (intro acts; rw [hret _ acts rfl rfl rfl]) | rw [hret _ _ rfl rfl rfl]
  exact Steps.refl _
/-- what holds at the law's entry: the machine, the code, the tables' words (any of lw_tbl by 'hts w (by decide +kernel)'), the script of L ints xs at the cell b, what the Statement gives of the start (any of its parts by flat_of_before) -/
def lw_At (p : Program) (s : State) (m : MethodId) (meth : Method) (c : Code) (b L : Nat) (xs : Nat → Int32) : Prop :=
  p.tables.exec = Jvm.exec ∧ c.code = code ∧ meth.sig.returnType = ret ∧ c.maxLocals = 8 ∧ s.vm.findClass R_law = some m.cls ∧ (∀ w ∈ lw_tbl, w.before #[Value.ref b] s = true) ∧ va_X b L xs s s.heap ∧ b < s.heap.size ∧ meth.locks = false ∧ (Jvm.Cond.and given_1 narrow_1).before #[Value.ref b] s = true
set_option maxHeartbeats 4000000 in
set_option maxRecDepth 100000 in
/-- the law's second loop: x counts the words left, a the word, y the words before it that are left, d the one before it -/
theorem law_pairs {p : Program} {l : Launch} {e : Env} {s : State} {m : MethodId} {below : List Frame} {meth : Method} {c : Code} {H : Heap} {b o : Nat} (hx : p.tables.exec = Jvm.exec) (hb : c.code = code) (hr : meth.sig.returnType = ret) (hlocks : meth.locks = false) (hml : c.maxLocals = 8) (hown : s.vm.findClass RX0 = some m.cls) (hts : ∀ w ∈ lw_all, w.before #[Value.ref b] s = true) (ho : bc_obj s H o) :
    ∀ (x a : Nat) (ls : Array Slot), a + x = 34 → lv_has ls 8 [(0, .ref b), (1, .ref o), (2, .int (nI a))] → W p l e room_1 s m #[Value.ref b] below meth c H [] 600000 7290000 (lw_Z below #[Value.ref b] s) (F0 m 175 ls []) := by
  intro x
  induction x with
  | zero =>
    intro a ls ha hl
    have ha : a = 34 := ha
    refine lv_iload_n hx hb dL_law_175 rfl (lv_at hl 2 rfl) ?_
    refine lv_bipush (v := nI 34) hx hb dL_law_176 (by decide +kernel) ?_
    refine lv_icmp_ge (tgt := 246) hx hb dL_law_178 (by decide) (fun h => ?_) (fun h => ?_)
    · refine lv_iconst (v := nI 1) hx hb dL_law_246 (by decide +kernel) ?_
      exact lw_ret hx hb hr hlocks dL_law_247
    · exact absurd (nI_le (by omega) (by omega)) h
  | succ x ihx =>
    intro a ls ha hl
    have ha34 : a < 34 := by omega
    have hf34 : ∀ z, z < 34 → z % 2147483648 % 34 = z := fun z hz => by rw [Nat.mod_eq_of_lt (show z < 2147483648 by omega), Nat.mod_eq_of_lt hz]
    refine lv_iload_n hx hb dL_law_175 rfl (lv_at hl 2 rfl) ?_
    refine lv_bipush (v := nI 34) hx hb dL_law_176 (by decide +kernel) ?_
    refine lv_icmp_ge (tgt := 246) hx hb dL_law_178 (by decide) (fun h => ?_) (fun h => ?_)
    · exact absurd h (nI_ge (by omega) (by omega))
    · have K183 : ∀ (y d : Nat) (ls : Array Slot), d + y = a → lv_has ls 8 [(0, .ref b), (1, .ref o), (2, .int (nI a)), (3, .int (nI d))] → W p l e room_1 s m #[Value.ref b] below meth c H [] 600000 7290000 (lw_Z below #[Value.ref b] s) (F0 m 183 ls []) := by
        intro y
        induction y with
        | zero =>
          intro d ls hd hl
          have hd : d = a := hd
          refine lv_iload_n hx hb dL_law_183 rfl (lv_at hl 3 rfl) ?_
          refine lv_iload_n hx hb dL_law_184 rfl (lv_at hl 2 rfl) ?_
          refine lv_icmp_ge (tgt := 240) hx hb dL_law_185 (by decide) (fun h3 => ?_) (fun h3 => ?_)
          · refine lv_iinc (v := nI (a + 1)) (lv' := [(2, .int (nI (a + 1))), (0, .ref b), (1, .ref o), (3, .int (nI d))]) hx hb dL_law_240 hl (k := 2) rfl (nI_1 a) (by decide) rfl (fun ls hl => ?_)
            refine lv_goto (tgt := 175) hx hb dL_law_243 (by decide) ?_
            exact ihx (a + 1) ls (by omega) (lv_sub hl [1, 2, 0] rfl)
          · exact absurd (nI_le (by omega) (by omega)) h3
        | succ y ihy =>
          intro d ls hd hl
          have hda : d < a := by omega
          refine lv_iload_n hx hb dL_law_183 rfl (lv_at hl 3 rfl) ?_
          refine lv_iload_n hx hb dL_law_184 rfl (lv_at hl 2 rfl) ?_
          refine lv_icmp_ge (tgt := 240) hx hb dL_law_185 (by decide) (fun h3 => ?_) (fun h3 => ?_)
          · exact absurd h3 (nI_ge (by omega) (by omega))
          · have K213 : ∀ (ls : Array Slot), lv_has ls 8 [(0, .ref b), (1, .ref o), (2, .int (nI a)), (3, .int (nI d))] → W p l e room_1 s m #[Value.ref b] below meth c H [] 600000 7290000 (lw_Z below #[Value.ref b] s) (F0 m 213 ls []) := by
              intro ls hl
              have hok := bc_ver_ok a ha34 d hda
              have hla := bc_ver_lt (7 + a) (by omega)
              have hld := bc_ver_lt (7 + d) (by omega)
              have hxx : bc_ver (7 + a) ^^^ bc_ver (7 + d) < 2 ^ 32 := Nat.xor_lt_two_pow (by omega) (by omega)
              have hcn := bc_cnt_le (bc_ver (7 + a) ^^^ bc_ver (7 + d)) 32
              refine lv_aload_n hx hb dL_law_213 rfl (lv_at hl 1 rfl) ?_
              refine lv_iload_n hx hb dL_law_214 rfl (lv_at hl 2 rfl) ?_
              refine pu_V (As := [.int (nI a)]) (rest := []) hx hb hml hown hts (metX1_version l o (v := a) (by omega)) ho (cwV 1 hts (lw_V q103 q104 q105 q2 q106) rfl rfl rfl (by decide +kernel) ⟨Nat.le_of_ble_eq_true rfl, Nat.le_of_ble_eq_true rfl⟩) rfl hl.1 rfl (Nat.le_of_ble_eq_true rfl) dL_law_215 ⟨Nat.le_of_ble_eq_true rfl, Nat.le_of_ble_eq_true rfl⟩ ?_
              refine pu_as (z := nI (bc_ver (7 + a))) (by rw [hf34 a ha34]) ?_
              refine lv_aload_n hx hb dL_law_218 rfl (lv_at hl 1 rfl) ?_
              refine lv_iload_n hx hb dL_law_219 rfl (lv_at hl 3 rfl) ?_
              refine pu_V (As := [.int (nI d)]) (rest := [.int (nI (bc_ver (7 + a)))]) hx hb hml hown hts (metX1_version l o (v := d) (by omega)) ho (cwV 1 hts (lw_V q103 q104 q105 q2 q106) rfl rfl rfl (by decide +kernel) ⟨Nat.le_of_ble_eq_true rfl, Nat.le_of_ble_eq_true rfl⟩) rfl hl.1 rfl (Nat.le_of_ble_eq_true rfl) dL_law_220 ⟨Nat.le_of_ble_eq_true rfl, Nat.le_of_ble_eq_true rfl⟩ ?_
              refine pu_as (z := nI (bc_ver (7 + d))) (by rw [hf34 d (by omega)]) ?_
              refine lv_ixor hx hb dL_law_223 ?_
              refine pu_as (z := nI (bc_ver (7 + a) ^^^ bc_ver (7 + d))) (nx_xor _ _) ?_
              refine pu_S (As := [.int (nI (bc_ver (7 + a) ^^^ bc_ver (7 + d)))]) (rest := []) hx hb hml hown hts (metX0_ones l hxx) (va_cwS 1 hts (lw_S q117 q118 q1 q119) rfl rfl rfl (by decide +kernel) ⟨Nat.le_of_ble_eq_true rfl, Nat.le_of_ble_eq_true rfl⟩) rfl hl.1 rfl (Nat.le_of_ble_eq_true rfl) dL_law_224 ⟨Nat.le_of_ble_eq_true rfl, Nat.le_of_ble_eq_true rfl⟩ ?_
              refine lv_bipush (v := nI 8) hx hb dL_law_227 (by decide +kernel) ?_
              refine lv_icmp_ge (tgt := 234) hx hb dL_law_229 (by decide) (fun h4 => ?_) (fun h4 => ?_)
              · refine lv_iinc (v := nI (d + 1)) (lv' := [(3, .int (nI (d + 1))), (0, .ref b), (1, .ref o), (2, .int (nI a))]) hx hb dL_law_234 hl (k := 3) rfl (nI_1 d) (by decide) rfl (fun ls hl => ?_)
                refine lv_goto (tgt := 183) hx hb dL_law_237 (by decide) ?_
                exact ihy (d + 1) ls (by omega) (lv_sub hl [1, 2, 3, 0] rfl)
              · exact absurd (nI_le hok (by omega)) h4
            refine lv_iload_n hx hb dL_law_188 rfl (lv_at hl 2 rfl) ?_
            refine lv_bipush (v := nI 32) hx hb dL_law_189 (by decide +kernel) ?_
            refine lv_icmp_ge (tgt := 213) hx hb dL_law_191 (by decide) (fun h5 => ?_) (fun h5 => ?_)
            · exact K213 ls hl
            · have ha32 : a < 32 := by
                rcases Nat.lt_or_ge a 32 with q | q
                · exact q
                · exact absurd (nI_le q (by omega)) h5
              have hok := bc_fmt_ok a ha32 d hda
              have hla := bc_fmt_lt a ha32
              have hld := bc_fmt_lt d (by omega)
              have hxx : bc_fmt a ^^^ bc_fmt d < 2 ^ 32 := Nat.xor_lt_two_pow (by omega) (by omega)
              have hcn := bc_cnt_le (bc_fmt a ^^^ bc_fmt d) 32
              refine lv_aload_n hx hb dL_law_194 rfl (lv_at hl 1 rfl) ?_
              refine lv_iload_n hx hb dL_law_195 rfl (lv_at hl 2 rfl) ?_
              refine pu_V (As := [.int (nI a)]) (rest := []) hx hb hml hown hts (metX1_format l o (v := a) (by omega)) ho (cwV 1 hts (lw_V q29 q30 q31 q2 q32) rfl rfl rfl (by decide +kernel) ⟨Nat.le_of_ble_eq_true rfl, Nat.le_of_ble_eq_true rfl⟩) rfl hl.1 rfl (Nat.le_of_ble_eq_true rfl) dL_law_196 ⟨Nat.le_of_ble_eq_true rfl, Nat.le_of_ble_eq_true rfl⟩ ?_
              refine pu_as (z := nI (bc_fmt a)) (by rw [Nat.mod_eq_of_lt ha32]) ?_
              refine lv_aload_n hx hb dL_law_199 rfl (lv_at hl 1 rfl) ?_
              refine lv_iload_n hx hb dL_law_200 rfl (lv_at hl 3 rfl) ?_
              refine pu_V (As := [.int (nI d)]) (rest := [.int (nI (bc_fmt a))]) hx hb hml hown hts (metX1_format l o (v := d) (by omega)) ho (cwV 1 hts (lw_V q29 q30 q31 q2 q32) rfl rfl rfl (by decide +kernel) ⟨Nat.le_of_ble_eq_true rfl, Nat.le_of_ble_eq_true rfl⟩) rfl hl.1 rfl (Nat.le_of_ble_eq_true rfl) dL_law_201 ⟨Nat.le_of_ble_eq_true rfl, Nat.le_of_ble_eq_true rfl⟩ ?_
              refine pu_as (z := nI (bc_fmt d)) (by rw [Nat.mod_eq_of_lt (show d < 32 by omega)]) ?_
              refine lv_ixor hx hb dL_law_204 ?_
              refine pu_as (z := nI (bc_fmt a ^^^ bc_fmt d)) (nx_xor _ _) ?_
              refine pu_S (As := [.int (nI (bc_fmt a ^^^ bc_fmt d))]) (rest := []) hx hb hml hown hts (metX0_ones l hxx) (va_cwS 1 hts (lw_S q117 q118 q1 q119) rfl rfl rfl (by decide +kernel) ⟨Nat.le_of_ble_eq_true rfl, Nat.le_of_ble_eq_true rfl⟩) rfl hl.1 rfl (Nat.le_of_ble_eq_true rfl) dL_law_205 ⟨Nat.le_of_ble_eq_true rfl, Nat.le_of_ble_eq_true rfl⟩ ?_
              refine lv_bipush (v := nI 7) hx hb dL_law_208 (by decide +kernel) ?_
              refine lv_icmp_lt (tgt := 232) hx hb dL_law_210 (by decide) (fun h6 => ?_) (fun h6 => ?_)
              · exact absurd h6 (nI_nlt hok (by omega))
              · exact K213 ls hl
      refine lv_iconst (v := nI 0) hx hb dL_law_181 (by decide +kernel) ?_
      refine lv_istore_n (lv' := [(3, .int (nI 0)), (0, .ref b), (1, .ref o), (2, .int (nI a))]) hx hb dL_law_182 rfl hl (by decide) rfl (fun ls hl => ?_)
      exact K183 a 0 ls (Nat.zero_add a) (lv_sub hl [1, 2, 3, 0] rfl)
end
section
set_option maxHeartbeats 4000000 in
set_option maxRecDepth 100000 in
/-- one round of the law's first loop, for any three ints of the script, and the loop -/
theorem law_numbers {p : Program} {l : Launch} {e : Env} {s : State} {m : MethodId} {below : List Frame} {meth : Method} {c : Code} {H : Heap} {b o : Nat} (hx : p.tables.exec = Jvm.exec) (hb : c.code = code) (hr : meth.sig.returnType = ret) (hlocks : meth.locks = false) (hml : c.maxLocals = 8) (hown : s.vm.findClass RX0 = some m.cls) (hts : ∀ w ∈ lw_all, w.before #[Value.ref b] s = true) (ho : bc_obj s H o) (L : Nat) (xs : Nat → Int32) (hL : L ≤ 96) (hX : va_X b L xs s H) :
    ∀ (x a : Nat) (ls : Array Slot), a + x = 96 → lv_has ls 8 [(0, .ref b), (1, .ref o), (2, .int (nI a))] → W p l e room_1 s m #[Value.ref b] below meth c H [] 600000 7290000 (lw_Z below #[Value.ref b] s) (F0 m 10 ls []) := by
  have hcell : ∀ {j : Nat}, j < 96 → PreS s H (fun v U => v = ([.ref b, .int (nI j)] : List Value).toArray ∧ va_X b L xs U U.heap) [.ref b, .int (nI j)] := fun {j} hj => ⟨fun a U g mk h => ⟨h.1, va_X.moved (u := U) (U := U.calling g mk a) (Vm.Alike.refl U.vm) h.2⟩, fun U hU hW => ⟨rfl, by rw [hU]; exact va_X.moved hW.alike hX⟩⟩
  intro x
  induction x with
  | zero =>
    intro a ls ha hl
    have ha : a = 96 := ha
    refine lv_iload_n hx hb dL_law_10 rfl (lv_at hl 2 rfl) ?_
    refine lv_bipush (v := nI 96) hx hb dL_law_11 (by decide +kernel) ?_
    refine lv_icmp_ge (tgt := 173) hx hb dL_law_13 (by decide) (fun h => ?_) (fun h => ?_)
    · refine lv_iconst (v := nI 0) hx hb dL_law_173 (by decide +kernel) ?_
      refine lv_istore_n (lv' := [(2, .int (nI 0)), (0, .ref b), (1, .ref o)]) hx hb dL_law_174 rfl hl (by decide) rfl (fun ls hl => ?_)
      exact law_pairs hx hb hr hlocks hml hown hts ho 34 0 ls rfl (lv_sub hl [1, 2, 0] rfl)
    · exact absurd (nI_le (by omega) (by omega)) h
  | succ x ih =>
    intro a ls ha hl
    refine lv_iload_n hx hb dL_law_10 rfl (lv_at hl 2 rfl) ?_
    refine lv_bipush (v := nI 96) hx hb dL_law_11 (by decide +kernel) ?_
    refine lv_icmp_ge (tgt := 173) hx hb dL_law_13 (by decide) (fun h => ?_) (fun h => ?_)
    · exact absurd h (nI_ge (by omega) (by omega))
    · refine lv_aload_n hx hb dL_law_16 rfl (lv_at hl 0 rfl) ?_
      refine lv_iload_n hx hb dL_law_17 rfl (lv_at hl 2 rfl) ?_
      refine W.callA (W.runS (cc := code) (As := [.ref b, .int (nI a)]) (rest := []) ⟨hx, hb, hml, hown, hts⟩ (metX0_cell l b L xs hL (j := a) (by omega)) (va_cwS 2 hts (lw_S q108 q109 q1 q110) rfl rfl rfl (by decide +kernel) ⟨Nat.le_of_ble_eq_true rfl, Nat.le_of_ble_eq_true rfl⟩) (hcell (by omega)) rfl rfl hl.1 rfl (lv_room (Nat.le_of_ble_eq_true rfl)) dL_law_18 ⟨Nat.le_of_ble_eq_true rfl, Nat.le_of_ble_eq_true rfl⟩) (fun zv => ?_)
      obtain ⟨v, hv, rfl⟩ := wb_of32 zv
      refine W.eq (g2 := F0 m 21 ls [.int (nI v)]) rfl ?_
      refine lv_istore_n (lv' := [(3, .int (nI v)), (0, .ref b), (1, .ref o), (2, .int (nI a))]) hx hb dL_law_21 rfl hl (by decide) rfl (fun ls hl => ?_)
      refine lv_aload_n hx hb dL_law_22 rfl (lv_at hl 1 rfl) ?_
      refine lv_iload_n hx hb dL_law_23 rfl (lv_at hl 3 rfl) ?_
      refine lv_iconst (v := nI 1) hx hb dL_law_24 (by decide +kernel) ?_
      refine lv_iadd hx hb dL_law_25 ?_
      refine pu_as (z := nI (a + 1)) (nI_add _ _) ?_
      refine lv_bipush (v := nI 96) hx hb dL_law_26 (by decide +kernel) ?_
      refine lv_irem hx hb dL_law_28 (by decide) ?_
      refine pu_as (z := nI ((a + 1) % 96)) (pk_rem (by omega) (by decide) (by decide)) ?_
      refine W.callA (W.runS (cc := code) (As := [.ref b, .int (nI ((a + 1) % 96))]) (rest := []) ⟨hx, hb, hml, hown, hts⟩ (metX0_cell l b L xs hL (j := (a + 1) % 96) (Nat.mod_lt _ (by decide))) (va_cwS 2 hts (lw_S q108 q109 q1 q110) rfl rfl rfl (by decide +kernel) ⟨Nat.le_of_ble_eq_true rfl, Nat.le_of_ble_eq_true rfl⟩) (hcell (Nat.mod_lt _ (by decide))) rfl rfl hl.1 rfl (lv_room (Nat.le_of_ble_eq_true rfl)) dL_law_29 ⟨Nat.le_of_ble_eq_true rfl, Nat.le_of_ble_eq_true rfl⟩) (fun zq => ?_)
      obtain ⟨q, hq, rfl⟩ := wb_of32 zq
      refine W.eq (g2 := F0 m 32 ls [.int (nI q)]) rfl ?_
      refine lv_istore (lv' := [(4, .int (nI q)), (3, .int (nI v)), (0, .ref b), (1, .ref o), (2, .int (nI a))]) hx hb dL_law_32 hl (by decide) rfl (fun ls hl => ?_)
      refine lv_aload_n hx hb dL_law_34 rfl (lv_at hl 2 rfl) ?_
      refine lv_iload_n hx hb dL_law_35 rfl (lv_at hl 4 rfl) ?_
      refine lv_iconst (v := nI 2) hx hb dL_law_36 (by decide +kernel) ?_
      refine lv_iadd hx hb dL_law_37 ?_
      refine pu_as (z := nI (a + 2)) (nI_add _ _) ?_
      refine lv_bipush (v := nI 96) hx hb dL_law_38 (by decide +kernel) ?_
      refine lv_irem hx hb dL_law_40 (by decide) ?_
      refine pu_as (z := nI ((a + 2) % 96)) (pk_rem (by omega) (by decide) (by decide)) ?_
      refine W.callA (W.runS (cc := code) (As := [.ref b, .int (nI ((a + 2) % 96))]) (rest := []) ⟨hx, hb, hml, hown, hts⟩ (metX0_cell l b L xs hL (j := (a + 2) % 96) (Nat.mod_lt _ (by decide))) (va_cwS 2 hts (lw_S q108 q109 q1 q110) rfl rfl rfl (by decide +kernel) ⟨Nat.le_of_ble_eq_true rfl, Nat.le_of_ble_eq_true rfl⟩) (hcell (Nat.mod_lt _ (by decide))) rfl rfl hl.1 rfl (lv_room (Nat.le_of_ble_eq_true rfl)) dL_law_41 ⟨Nat.le_of_ble_eq_true rfl, Nat.le_of_ble_eq_true rfl⟩) (fun zw => ?_)
      obtain ⟨w, hw, rfl⟩ := wb_of32 zw
      refine W.eq (g2 := F0 m 44 ls [.int (nI w)]) rfl ?_
      refine lv_istore (lv' := [(5, .int (nI w)), (4, .int (nI q)), (3, .int (nI v)), (0, .ref b), (1, .ref o), (2, .int (nI a))]) hx hb dL_law_44 hl (by decide) rfl (fun ls hl => ?_)
      refine lv_aload_n hx hb dL_law_46 rfl (lv_at hl 4 rfl) ?_
      refine lv_iload_n hx hb dL_law_47 rfl (lv_at hl 2 rfl) ?_
      refine pu_V (As := [.int (nI v)]) (rest := []) hx hb hml hown hts (metX1_highest l o hv) ho (cwV 1 hts (lw_V q18 q19 q20 q2 q21) rfl rfl rfl (by decide +kernel) ⟨Nat.le_of_ble_eq_true rfl, Nat.le_of_ble_eq_true rfl⟩) rfl hl.1 rfl (Nat.le_of_ble_eq_true rfl) dL_law_48 ⟨Nat.le_of_ble_eq_true rfl, Nat.le_of_ble_eq_true rfl⟩ ?_
      refine lv_iload_n hx hb dL_law_51 rfl (lv_at hl 2 rfl) ?_
      refine pu_S (As := [.int (nI v)]) (rest := [.int (nI (bc_bl v))]) hx hb hml hown hts (metX0_highest l hv) (va_cwS 1 hts (lw_S q111 q112 q1 q113) rfl rfl rfl (by decide +kernel) ⟨Nat.le_of_ble_eq_true rfl, Nat.le_of_ble_eq_true rfl⟩) rfl hl.1 rfl (Nat.le_of_ble_eq_true rfl) dL_law_52 ⟨Nat.le_of_ble_eq_true rfl, Nat.le_of_ble_eq_true rfl⟩ ?_
      refine lv_icmp_ne (tgt := 97) hx hb dL_law_55 (by decide) (fun h1 => ?_) (fun h1 => ?_)
      · exact absurd rfl h1
      · refine lv_aload_n hx hb dL_law_58 rfl (lv_at hl 4 rfl) ?_
        refine lv_iload_n hx hb dL_law_59 rfl (lv_at hl 2 rfl) ?_
        refine lv_iload hx hb dL_law_60 (lv_at hl 1 rfl) ?_
        refine lv_iload hx hb dL_law_62 (lv_at hl 0 rfl) ?_
        refine W.callR (W.runS (cc := code) (As := [.ref o, .int (nI v), .int (nI q), .int (nI w)]) (rest := []) ⟨hx, hb, hml, hown, hts⟩ (metX0_isRest l o hv hq hw) (va_cwS 4 hts (lw_S q120 q121 q1 q122) rfl rfl rfl (by decide +kernel) ⟨Nat.le_of_ble_eq_true rfl, Nat.le_of_ble_eq_true rfl⟩) ⟨fun a U g mk h => ⟨h.1, bc_obj.moved (s := U) (U := U.calling g mk a) (Vm.Alike.refl U.vm) h.2⟩, fun U hU hW => ⟨rfl, by rw [hU]; exact ho.moved hW.alike⟩⟩ rfl rfl hl.1 rfl (lv_room (Nat.le_of_ble_eq_true rfl)) dL_law_64 ⟨Nat.le_of_ble_eq_true rfl, Nat.le_of_ble_eq_true rfl⟩) ?_
        refine W.eq (g2 := F0 m 67 ls [.int (nI 1)]) rfl ?_
        refine lv_if_eq (tgt := 97) hx hb dL_law_67 (by decide) (fun h2 => ?_) (fun h2 => ?_)
        · exact absurd h2 (nI_ne0 (by decide) (by decide))
        · have hf : v % 32 < 32 := Nat.mod_lt _ (by decide)
          have hpw : 1 * 2 ^ (v % 32) < 2 ^ 32 := by
            rw [Nat.one_mul]
            exact Nat.pow_lt_pow_right (by decide) hf
          have hbl1 : bc_bl (1 * 2 ^ (v % 32)) = v % 32 + 1 := by
            rw [Nat.one_mul]
            exact bc_bl_of (Nat.le_refl _) (Nat.pow_lt_pow_right (by decide) (Nat.lt_succ_self _))
          refine lv_aload_n hx hb dL_law_70 rfl (lv_at hl 4 rfl) ?_
          refine lv_iconst (v := nI 1) hx hb dL_law_71 (by decide +kernel) ?_
          refine lv_iload_n hx hb dL_law_72 rfl (lv_at hl 2 rfl) ?_
          refine lv_bipush (v := nI 31) hx hb dL_law_73 (by decide +kernel) ?_
          refine lv_iand hx hb dL_law_75 ?_
          refine pu_as (z := nI (v % 32)) (bc_and31 hv) ?_
          refine lv_ishl hx hb dL_law_76 ?_
          refine pu_as (z := nI (1 * 2 ^ (v % 32))) (bc_sh hf hpw) ?_
          refine pu_V (As := [.int (nI (1 * 2 ^ (v % 32)))]) (rest := []) hx hb hml hown hts (metX1_highest l o hpw) ho (cwV 1 hts (lw_V q18 q19 q20 q2 q21) rfl rfl rfl (by decide +kernel) ⟨Nat.le_of_ble_eq_true rfl, Nat.le_of_ble_eq_true rfl⟩) rfl hl.1 rfl (Nat.le_of_ble_eq_true rfl) dL_law_77 ⟨Nat.le_of_ble_eq_true rfl, Nat.le_of_ble_eq_true rfl⟩ ?_
          refine pu_as (z := nI (v % 32 + 1)) (by rw [hbl1]) ?_
          refine lv_iload_n hx hb dL_law_80 rfl (lv_at hl 2 rfl) ?_
          refine lv_bipush (v := nI 31) hx hb dL_law_81 (by decide +kernel) ?_
          refine lv_iand hx hb dL_law_83 ?_
          refine pu_as (z := nI (v % 32)) (bc_and31 hv) ?_
          refine lv_iconst (v := nI 1) hx hb dL_law_84 (by decide +kernel) ?_
          refine lv_iadd hx hb dL_law_85 ?_
          refine pu_as (z := nI (v % 32 + 1)) (nI_add _ _) ?_
          refine lv_icmp_ne (tgt := 97) hx hb dL_law_86 (by decide) (fun h3 => ?_) (fun h3 => ?_)
          · exact absurd rfl h3
          · refine lv_aload_n hx hb dL_law_89 rfl (lv_at hl 4 rfl) ?_
            refine lv_iconst (v := nI 0) hx hb dL_law_90 (by decide +kernel) ?_
            refine pu_V (As := [.int (nI 0)]) (rest := []) hx hb hml hown hts (metX1_highest l o (v := 0) (by decide)) ho (cwV 1 hts (lw_V q18 q19 q20 q2 q21) rfl rfl rfl (by decide +kernel) ⟨Nat.le_of_ble_eq_true rfl, Nat.le_of_ble_eq_true rfl⟩) rfl hl.1 rfl (Nat.le_of_ble_eq_true rfl) dL_law_91 ⟨Nat.le_of_ble_eq_true rfl, Nat.le_of_ble_eq_true rfl⟩ ?_
            refine lv_if_eq (tgt := 99) hx hb dL_law_94 (by decide) (fun h4 => ?_) (fun h4 => ?_)
            · have h1m : v % 2147483648 < 2147483648 := Nat.mod_lt _ (by decide)
              obtain ⟨f, hf34⟩ : ∃ f, f = v % 2147483648 % 34 := ⟨_, rfl⟩
              have hf2 : f < 34 := by rw [hf34]; exact Nat.mod_lt _ (by decide)
              refine lv_iload_n hx hb dL_law_99 rfl (lv_at hl 2 rfl) ?_
              refine lv_bipush (v := nI 31) hx hb dL_law_100 (by decide +kernel) ?_
              refine lv_iand hx hb dL_law_102 ?_
              refine pu_as (z := nI (v % 32)) (bc_and31 hv) ?_
              refine lv_istore (lv' := [(6, .int (nI (v % 32))), (5, .int (nI w)), (4, .int (nI q)), (3, .int (nI v)), (0, .ref b), (1, .ref o), (2, .int (nI a))]) hx hb dL_law_103 hl (by decide) rfl (fun ls hl => ?_)
              refine lv_bipush (v := nI 7) hx hb dL_law_105 (by decide +kernel) ?_
              refine lv_iload_n hx hb dL_law_107 rfl (lv_at hl 3 rfl) ?_
              refine lv_ldc (v := nI 2147483647) hx hb hown (hts _ q129) dL_law_108 ?_
              refine lv_iand hx hb dL_law_110 ?_
              refine pu_as (z := nI (v % 2147483648)) (bc_and2g hv) ?_
              refine lv_bipush (v := nI 34) hx hb dL_law_111 (by decide +kernel) ?_
              refine lv_irem hx hb dL_law_113 (by decide) ?_
              refine pu_as (z := nI f) (by rw [hf34]; exact pk_rem h1m (by decide) (by decide)) ?_
              refine lv_iadd hx hb dL_law_114 ?_
              refine pu_as (z := nI (7 + f)) (nI_add _ _) ?_
              refine lv_istore (lv' := [(7, .int (nI (7 + f))), (6, .int (nI (v % 32))), (5, .int (nI w)), (4, .int (nI q)), (3, .int (nI v)), (0, .ref b), (1, .ref o), (2, .int (nI a))]) hx hb dL_law_115 hl (by decide) rfl (fun ls hl => ?_)
              refine lv_aload_n hx hb dL_law_117 rfl (lv_at hl 6 rfl) ?_
              refine lv_iload_n hx hb dL_law_118 rfl (lv_at hl 4 rfl) ?_
              refine pu_V (As := [.int (nI v)]) (rest := []) hx hb hml hown hts (metX1_format l o hv) ho (cwV 1 hts (lw_V q29 q30 q31 q2 q32) rfl rfl rfl (by decide +kernel) ⟨Nat.le_of_ble_eq_true rfl, Nat.le_of_ble_eq_true rfl⟩) rfl hl.1 rfl (Nat.le_of_ble_eq_true rfl) dL_law_119 ⟨Nat.le_of_ble_eq_true rfl, Nat.le_of_ble_eq_true rfl⟩ ?_
              refine lv_iload hx hb dL_law_122 (lv_at hl 1 rfl) ?_
              refine lv_bipush (v := nI 10) hx hb dL_law_124 (by decide +kernel) ?_
              refine lv_ishl hx hb dL_law_126 ?_
              refine pu_as (z := nI (v % 32 * 2 ^ 10)) (bc_sh (k := 10) (by decide) (by omega)) ?_
              refine lv_iload hx hb dL_law_127 (lv_at hl 1 rfl) ?_
              refine lv_sipush (v := nI 1335) hx hb dL_law_129 (by decide +kernel) ?_
              refine pu_S (As := [.int (nI (v % 32)), .int (nI 1335)]) (rest := [.int (nI (v % 32 * 2 ^ 10)), .int (nI (bc_fmt (v % 32)))]) hx hb hml hown hts (metX0_left l (a := v % 32) (g := 1335) (by omega) (by decide) (by decide)) (va_cwS 2 hts (lw_S q114 q115 q1 q116) rfl rfl rfl (by decide +kernel) ⟨Nat.le_of_ble_eq_true rfl, Nat.le_of_ble_eq_true rfl⟩) rfl hl.1 rfl (Nat.le_of_ble_eq_true rfl) dL_law_132 ⟨Nat.le_of_ble_eq_true rfl, Nat.le_of_ble_eq_true rfl⟩ ?_
              refine lv_ior hx hb dL_law_135 ?_
              refine pu_as (z := nI (v % 32 * 2 ^ 10 ||| bc_rst (v % 32) 1335)) (bc_or _ _) ?_
              refine lv_sipush (v := nI 21522) hx hb dL_law_136 (by decide +kernel) ?_
              refine lv_ixor hx hb dL_law_139 ?_
              refine pu_as (z := nI ((v % 32 * 2 ^ 10 ||| bc_rst (v % 32) 1335) ^^^ 21522)) (nx_xor _ _) ?_
              refine lv_icmp_ne (tgt := 165) hx hb dL_law_140 (by decide) (fun h5 => ?_) (fun h5 => ?_)
              · exact absurd rfl h5
              · refine lv_aload_n hx hb dL_law_143 rfl (lv_at hl 6 rfl) ?_
                refine lv_iload_n hx hb dL_law_144 rfl (lv_at hl 4 rfl) ?_
                refine pu_V (As := [.int (nI v)]) (rest := []) hx hb hml hown hts (metX1_version l o hv) ho (cwV 1 hts (lw_V q103 q104 q105 q2 q106) rfl rfl rfl (by decide +kernel) ⟨Nat.le_of_ble_eq_true rfl, Nat.le_of_ble_eq_true rfl⟩) rfl hl.1 rfl (Nat.le_of_ble_eq_true rfl) dL_law_145 ⟨Nat.le_of_ble_eq_true rfl, Nat.le_of_ble_eq_true rfl⟩ ?_
                refine pu_as (z := nI (bc_ver (7 + f))) (by rw [hf34]) ?_
                refine lv_iload hx hb dL_law_148 (lv_at hl 0 rfl) ?_
                refine lv_bipush (v := nI 12) hx hb dL_law_150 (by decide +kernel) ?_
                refine lv_ishl hx hb dL_law_152 ?_
                refine pu_as (z := nI ((7 + f) * 2 ^ 12)) (bc_sh (k := 12) (by decide) (by omega)) ?_
                refine lv_iload hx hb dL_law_153 (lv_at hl 0 rfl) ?_
                refine lv_sipush (v := nI 7973) hx hb dL_law_155 (by decide +kernel) ?_
                refine pu_S (As := [.int (nI (7 + f)), .int (nI 7973)]) (rest := [.int (nI ((7 + f) * 2 ^ 12)), .int (nI (bc_ver (7 + f)))]) hx hb hml hown hts (metX0_left l (a := 7 + f) (g := 7973) (by omega) (by decide) (by decide)) (va_cwS 2 hts (lw_S q114 q115 q1 q116) rfl rfl rfl (by decide +kernel) ⟨Nat.le_of_ble_eq_true rfl, Nat.le_of_ble_eq_true rfl⟩) rfl hl.1 rfl (Nat.le_of_ble_eq_true rfl) dL_law_158 ⟨Nat.le_of_ble_eq_true rfl, Nat.le_of_ble_eq_true rfl⟩ ?_
                refine lv_ior hx hb dL_law_161 ?_
                refine pu_as (z := nI ((7 + f) * 2 ^ 12 ||| bc_rst (7 + f) 7973)) (bc_or _ _) ?_
                refine lv_icmp_eq (tgt := 167) hx hb dL_law_162 (by decide) (fun h6 => ?_) (fun h6 => ?_)
                · refine lv_iinc (v := nI (a + 1)) (lv' := [(2, .int (nI (a + 1))), (7, .int (nI (7 + f))), (6, .int (nI (v % 32))), (5, .int (nI w)), (4, .int (nI q)), (3, .int (nI v)), (0, .ref b), (1, .ref o)]) hx hb dL_law_167 hl (k := 7) rfl (nI_1 a) (by decide) rfl (fun ls hl => ?_)
                  refine lv_goto (tgt := 10) hx hb dL_law_170 (by decide) ?_
                  exact ih (a + 1) ls (by omega) (lv_sub hl [6, 7, 0] rfl)
                · exact absurd rfl h6
            · exact absurd ((congrArg nI bc_bl_0).trans nI_0) h4
end
section
/-! THE LAW from its entry, and the claim -/
def TX1 : u_T := fun _ => ("BchDesk", "", "I", false)
def tyX1 : Nat → FieldType := fun _ => .int
abbrev vwCl : List vw_C := [(RX1, TX1, 0)]
theorem in_X1 : ∀ w ∈ u_ws RX1 TX1 0, w ∈ lw_all := fun w h => by simp [u_ws] at h
set_option maxHeartbeats 4000000 in
set_option maxRecDepth 100000 in
theorem whole_start {p : Program} {e : Env} {s : State} {m : MethodId} {below : List Frame} {meth : Method} {c : Code} (l : Launch) (hflags : l.flags = flags0) {b L : Nat} {xs : Nat → Int32} (hL : L ≤ 96) (C0 : lw_At p s m meth c b L xs) : W p l e room_1 s m #[Value.ref b] below meth c s.heap [] 0 0 (lw_Z below #[Value.ref b] s) (entryFrame m ([Value.ref b] : List Value).toArray 8) := by
  obtain ⟨hx, hb, hr, hml, hown, hts0, hX, hbl, hlocks, hgv⟩ := C0
  have hts : ∀ w ∈ lw_all, w.before #[Value.ref b] s = true := fun w h => hts0 w (lw_all_tbl h)
  have hown : s.vm.findClass RX0 = some m.cls := hown
  have hA : ∀ q : Nat, s.heap.size ≤ q → (fun q : Nat => s.heap.size ≤ q) q := fun _ h => h
  have hbA : ¬ (fun q : Nat => s.heap.size ≤ q) b := Nat.not_le.mpr hbl
  obtain ⟨c0, iS0, hKn0⟩ := u_known (C := RX1) (T := TX1) (N := 0) (n := 0) hts in_X1 (hts _ q10)
  obtain ⟨dC, dI, hKc⟩ : ∃ (dC : Nat → ClassId) (dI : Nat → Nat → Nat), ∀ (k : Nat) (q : vw_C), vwCl[k]? = some q → u_Kn s q.1 q.2.1 q.2.2 (dC k) (dI k) := by
    refine ⟨fun _ => c0, fun _ => iS0, ?_⟩
    intro k q hq
    match k, hq with
    | 0, hq => cases hq; exact hKn0
    | k + 1, hq => simp [vwCl] at hq
  have hS : va_S (fun q : Nat => s.heap.size ≤ q) s.heap s.heap [] := va_S.rf
  have hK : va_K (dC, dI) vwCl [] s := ⟨hKc, fun k q h => by simp at h⟩
  have hP : va_P (dC, dI) vwCl [] s.heap := fun k q h => by simp at h
  have hD : va_D (fun q : Nat => s.heap.size ≤ q) [] := ⟨fun i j p q h => by simp at h, fun k q h => by simp at h⟩
  have hl := lv_entry ([.ref b]) (n := 8) (Nat.le_of_ble_eq_true rfl)
  rw [lg_entry_eq]
  generalize (lg_sl ([.ref b]) ++ List.replicate (8 - (lg_sl ([.ref b])).length) Slot.unset).toArray = ls at hl ⊢
  have hl : lv_has ls 8 [(0, .ref b)] := hl
  refine va_new (ci := 0) (fs := []) (C := RX1) (T := TX1) (N := 0) hx hb hts in_X1 tyX1 (fun k hk => absurd hk (Nat.not_lt_zero k)) hown (hts _ q9) (hts _ q10) (hts _ q2) hK hP hD hS hA rfl (fun j hj => absurd hj (Nat.not_lt_zero j)) (Nat.le_of_ble_eq_true rfl) (Nat.le_of_ble_eq_true rfl) dL_law_0 (fun o H hP hD hS => ?_)
  have hP : va_P (dC, dI) vwCl [(o, .inr (0, []))] H := hP
  have ho : bc_obj s H o := va_recv hK hP (ci := 0) (q0 := 0) rfl rfl
  have hX1 : va_X b L xs s H := hX.kept (hS.2.1 b hbl hbA)
  refine W.widen (k := 600000) (n := 7290000) (Nat.le_of_ble_eq_true rfl) (Nat.le_of_ble_eq_true rfl) ?_
  refine lv_dup hx hb dL_law_3 rfl ?_
  refine W.callX (W.runI (cc := code) (As := []) (rest := [.ref o]) ⟨hx, hb, hml, hown, hts⟩ (metX1_init l o) (cwI 0 hts (lw_meth q13) rfl rfl rfl (hts _ q2) (hts _ q11) (hts _ q12) rfl (by decide +kernel) ⟨Nat.le_of_ble_eq_true rfl, Nat.le_of_ble_eq_true rfl⟩) ⟨fun _ _ _ _ h => h, fun _ _ _ => rfl⟩ rfl rfl hl.1 rfl (lv_room (Nat.le_of_ble_eq_true rfl)) dL_law_4 ⟨Nat.le_of_ble_eq_true rfl, Nat.le_of_ble_eq_true rfl⟩) (fun _ h => False.elim h) (fun v st₀ t h0 hq => ?_)
  obtain ⟨hv0, ht0⟩ := hq
  cases hv0
  rw [ht0, h0]
  refine W.eq (g2 := F0 m 7 ls [.ref o]) rfl ?_
  refine lv_astore_n (lv' := [(1, .ref o), (0, .ref b)]) hx hb dL_law_7 rfl hl (by decide) rfl (fun ls hl => ?_)
  refine lv_iconst (v := nI 0) hx hb dL_law_8 (by decide +kernel) ?_
  refine lv_istore_n (lv' := [(2, .int (nI 0)), (1, .ref o), (0, .ref b)]) hx hb dL_law_9 rfl hl (by decide) rfl (fun ls hl => ?_)
  exact law_numbers hx hb hr hlocks hml hown hts ho L xs hL hX1 96 0 ls rfl (lv_sub hl [2, 1, 0] rfl)
set_option maxHeartbeats 4000000 in
theorem lw_walk (l : Launch) (hflags : l.flags = flags0) (b : Addr) (xs : List Int32) : MetFree l x (headSpec (Jvm.Cond.code x code maxLocals ret :: tables_1) room_1) (lw_P b xs) (fun _ _ _ _ _ => True) lw_Q := by
  refine MetFree.of_bodyS (code := code) (maxLocals := maxLocals) (ret := ret) (by decide) ?_ ?_
  · intro args s m h hn
    obtain ⟨meth, c, h1, h2, h3, h4, h5, h6, -, -⟩ := Cond.code_spec hn (atoms_spec (ws := Jvm.Cond.code x code maxLocals ret :: tables_1) h _ List.mem_cons_self)
    exact ⟨meth, c, h1, h2, h3, h4, h5, h6⟩
  · intro p e s m args below meth c s₁ B hml0 hP _
    obtain ⟨rfl, hx, hbd, hgv⟩ := hP
    obtain ⟨scr, harrAt, hlist, hof, hsmall⟩ := hx
    obtain ⟨hcb, hkn, -, -⟩ := State.arrayAt?_spec harrAt
    have hown : s.vm.findClass R_law = some m.cls := findClass_of_methodNamed B.named
    have hts0 : ∀ c ∈ (Jvm.Cond.code x code maxLocals ret :: tables_1), c.before #[Value.ref b] s = true := atoms_spec (ws := Jvm.Cond.code x code maxLocals ret :: tables_1) B.pre
    have hts : ∀ w ∈ lw_tbl, w.before #[Value.ref b] s = true := k2_hts_sels lw_privs (fun w hw => hts0 w (List.mem_cons_of_mem _ hw)) lw_privs_ok
    have hml : c.maxLocals = 8 := B.maxLocals_eq (hts0 _ List.mem_cons_self)
    have X₀ : Stand p l e room_1 s m #[Value.ref b] below meth c s₁ [] 0 0 := Stand.of_body B
    have hh0 : s₁.heap = s.heap := by rw [B.state]; rfl
    have hsz : scr.slots.size = xs.length := by rw [← Array.length_toList, hlist, List.length_map]
    have hval : ∀ j : Nat, j < xs.length → scr.slots[j]? = some (.int (xs.getD j 0)) := fun j hj => by
      rw [← Array.getElem?_toList, hlist]
      simp [hj]
    have hbl : b < s.heap.size := (Array.getElem?_eq_some_iff.mp hcb).1
    have hX : va_X b xs.length (fun j => xs.getD j 0) s s.heap := ⟨scr, hcb, hof, hkn, hsz, hval⟩
    have K : W p l e room_1 s m #[Value.ref b] below meth c s₁.heap [] 0 0 (lw_Z below #[Value.ref b] s) (entryFrame m ([Value.ref b] : List Value).toArray 8) := by
      rw [hh0]
      exact whole_start l hflags hbd ⟨B.exec, B.bytes, B.returns, hml, hown, hts, hX, hbl, B.notSynchronized, hgv⟩
    obtain ⟨t, a1, o, b1, b2, b3⟩ := K s₁ rfl X₀
    exact ⟨t, o, a1, b1, b2, b3⟩
theorem lw_pre_spec {args : Array Value} {s : State} (h : (Jvm.Cond.and given_1 narrow_1).before args s = true) (hr : rest_1_c.before args s = true) : ∃ (b : Addr) (xs : List Int32), lw_P b xs args s := by
  have hs := flat_of_before _ h
  have hq := flat_of_before _ hr
  have hc : (Cond.count 1).before args s = true := hs _ (by decide +kernel)
  have harr : (Cond.arrayOf (.arg 0) .int).before args s = true := hs _ (by decide +kernel)
  have hle : (Cond.le (.length (.arg 0)) (.int 96)).before args s = true := hs _ (by decide +kernel)
  have hlen : (Cond.isInt (.length (.arg 0))).before args s = true := hq _ (by decide +kernel)
  have hall : (Cond.all (.arg 0) (.isInt (.elem (.arg 0) (.index 0)))).before args s = true := hq _ (by decide +kernel)
  obtain ⟨b, xs, hb, hx⟩ := State.ints_of_pre rfl harr hlen hall
  have hsm : xs.length < 2 ^ 31 := hx.choose_spec.2.2.2
  have hev : (Term.length (.arg 0)).eval args s none [] s = some (.int xs.length.toInt32) := hx.length_eval hb
  have hv := Cond.le_ints hev (show (Term.int 96).eval args s none [] s = some (.int 96) from rfl)
  have hd : xs.length.toInt32 ≤ 96 := by
    simpa [Cond.before, Cond.holds, hv] using hle
  have hN : xs.length ≤ 96 := (Int32.ofNat_le_ofNat hsm (by decide)).mp (show Int32.ofNat xs.length ≤ Int32.ofNat 96 from hd)
  exact ⟨b, xs, Cond.one_arg hc (show args[0]? = some (.ref b) from hb), hx, hN, h⟩
theorem lw_comes (l : Launch) (hflags : l.flags = flags0) : Comes l x (Jvm.Cond.code x code maxLocals ret :: tables_1) room_1 (fun tb e args s => Calls_1 tb e args s ∧ rest_1 tb e args s ∧ Pre_1 tb e args s)
    (fun _ _ args s o t => lw_Q args s o t) := by
  intro p e ha hc hk s m args below hf hfit hheap happ hpre
  obtain ⟨b, xs, hP⟩ := lw_pre_spec hpre.2.2 hpre.2.1
  obtain ⟨k, o, h1, h2, h3, hQ⟩ := lw_walk l hflags b xs p e ha hc hk s m args below hf ((Spec.applies_iff_loose hf).mp happ).1 hP trivial
  exact ⟨k, o, h1, h2, h3, hQ⟩
theorem lw_frame {s t : State} {o : Outcome} {args : Array Value} (h : Framed s o t [] 600000 7290000) :
    Framed s o t (fieldLocs frame_1_writes args s ++ arrayLocs frame_1_arrays args s ++ staticLocs frame_1_statics s) 600000 7290000 := h
theorem lw_limb (L : Cond) (hL : ∀ (args : Array Value) (s t : State), L.after args s (.returned (some (.int 1))) t = true) :
    ArmFor flags0 classFile x code maxLocals ret World_1 tables_1 room_1 Calls_1 rest_1 Pre_1
      (fun tb e a s o t => postC L tb e a s o t ∧ Framed s o t (fieldLocs frame_1_writes a s ++ arrayLocs frame_1_arrays a s ++ staticLocs frame_1_statics s) 600000 7290000) := by
  intro l hflags _ _ p e ha hc hk s m args below hf hfit hheap happ hpre
  obtain ⟨k, o, h1, h2, h3, rfl, hF⟩ := lw_comes l hflags p e ha hc hk s m args below hf hfit hheap happ hpre
  exact ⟨k, _, h1, h2, h3, hL args s _, lw_frame hF⟩
theorem i_vc : Claimed_1_1 ∧ Claimed_1_2 := ⟨lw_limb limb_1_1 (fun args s t => by simp [limb_1_1, Cond.after, Cond.holds, Cond.value]), lw_limb limb_1_2 (fun args s t => Cond.after_iff.mpr (by
  first | (rw [show limb_1_2 = Cond.eq .result (.int 1) from rfl, Cond.eq_ints (x := 1) (y := 1) rfl rfl]; simp; done) | (simp [limb_1_2, Cond.value, Term.eval]; done)))⟩
end
