section
-- ===== PART A: goes FIRST, ahead of the names: the tables' words, and 'selects' of the private methods out of them =====
/-- a private method of a class that the tables say can be made, by its rows of tables_1 -/
def lw_okq (q : MethodName × Nat) : Prop := (q.1.cls ≠ "java/lang/invoke/MethodHandle" ∧ q.1.cls ≠ "java/lang/invoke/VarHandle") ∧ Cond.instantiable q.1.cls q.2 ∈ tables_1 ∧ Cond.privateMethod q.1 ∈ tables_1 ∧ Cond.instanceMethod q.1 ∈ tables_1
set_option maxRecDepth 100000
theorem lw_p0 : lw_okq (⟨"java/lang/Throwable", "fillInStackTrace", "(I)Ljava/lang/Throwable;"⟩, 6) := ⟨⟨by decide +kernel, by decide +kernel⟩, List.mem_of_getElem? (i := 97) rfl, List.mem_of_getElem? (i := 95) rfl, List.mem_of_getElem? (i := 96) rfl⟩
def lw_privs_1 : List (MethodName × Nat) := [(⟨"java/lang/Throwable", "fillInStackTrace", "(I)Ljava/lang/Throwable;"⟩, 6)]
theorem lw_r1 : ∀ q ∈ lw_privs_1, lw_okq q := List.forall_mem_cons.mpr ⟨lw_p0, fun _ h => absurd h List.not_mem_nil⟩
def lw_privs : List (MethodName × Nat) := lw_privs_1
def lw_tbl : List Cond := k2_sels lw_privs ++ tables_1
theorem lw_privs_ok : ∀ q ∈ lw_privs, lw_okq q := lw_r1
-- ===== ONE list of words for every method: the tables' words that hold all through a run =====
def lw_all : List Cond := lw_tbl.filter goodWord
/-- a word of the tables by its place: claim/WORDS.tsv -/
theorem lw_w {w : Cond} (i : Nat) (h : lw_tbl[i]? = some w) (g : goodWord w = true) : w ∈ lw_all := List.mem_filter.mpr ⟨List.mem_of_getElem? h, g⟩
theorem lw_all_tbl {w : Cond} (h : w ∈ lw_all) : w ∈ lw_tbl := (List.mem_filter.mp h).1
theorem lw_self : GoodIn lw_all lw_all := fun w h => ⟨h, good_of_word (List.mem_filter.mp h).2⟩
/-- a class's field words, by their places -/
theorem lw_in (ws : List Cond) (ps : List Nat) (hp : ws = ps.filterMap (fun i => lw_tbl[i]?)) (hg : ws.all goodWord = true) : ∀ w ∈ ws, w ∈ lw_all := by
  intro w h
  have h1 := List.all_eq_true.mp hg w h
  rw [hp] at h
  obtain ⟨i, -, hi⟩ := List.mem_filterMap.mp h
  exact lw_w i hi h1
/-- the words of a contract for the method y with code b, L locals, answer r -/
abbrev ws_ (y : MethodName) (b : ByteArray) (L : Nat) (r : Option FieldType) : List Cond := Cond.code y b L r :: lw_all
theorem lw_meth {y : MethodName} {b : ByteArray} {L : Nat} {r : Option FieldType} (h : Cond.code y b L r ∈ lw_all) : GoodIn lw_all (ws_ y b L r) := by
  intro w hw
  rcases List.mem_cons.mp hw with e | e
  · rw [e]
    exact lw_self _ h
  · exact lw_self _ e
theorem lw_app {a c : List Cond} (ha : ∀ w ∈ a, w ∈ lw_all) (hc : GoodIn lw_all c) : GoodIn lw_all (a ++ c) := by
  intro w hw
  rcases List.mem_append.mp hw with e | e
  · exact lw_self w (ha w e)
  · exact hc w e
/-- what a call through an object asks: cwV n hts (lw_V ..) -/
theorem lw_V {own : String} {idx : Nat} {C : String} {y : MethodName} {b : ByteArray} {L : Nat} {r : Option FieldType} (h1 : Cond.methodLink own idx y ∈ lw_all) (h2 : Cond.instanceMethod y ∈ lw_all) (h3 : Cond.selects C y y ∈ lw_all) (h4 : Cond.initialized C ∈ lw_all) (h5 : Cond.code y b L r ∈ lw_all) : GoodIn lw_all (wsV own idx C y (ws_ y b L r)) := by
  refine lw_app ?_ (lw_meth h5)
  intro w hw
  simp only [List.mem_cons, List.not_mem_nil, or_false] at hw
  rcases hw with e | e | e | e
  · rw [e]; exact h1
  · rw [e]; exact h2
  · rw [e]; exact h3
  · rw [e]; exact h4
/-- what a static call asks: va_cwS n hts (lw_S ..) -/
theorem lw_S {own : String} {idx : Nat} {y : MethodName} {b : ByteArray} {L : Nat} {r : Option FieldType} (h1 : Cond.methodLink own idx y ∈ lw_all) (h2 : Cond.static y ∈ lw_all) (h3 : Cond.initialized y.cls ∈ lw_all) (h4 : Cond.code y b L r ∈ lw_all) : GoodIn lw_all (va_wsS own idx y (ws_ y b L r)) := by
  refine lw_app ?_ (lw_meth h4)
  intro w hw
  simp only [List.mem_cons, List.not_mem_nil, or_false] at hw
  rcases hw with e | e | e
  · rw [e]; exact h1
  · rw [e]; exact h2
  · rw [e]; exact h3
/-- the words of a contract for a method WITH HANDLERS (hh: its table) -/
abbrev wsW_ (y : MethodName) (b : ByteArray) (L : Nat) (r : Option FieldType) (hh : List (Nat × Nat × Nat × Nat)) : List Cond := Cond.codeWith y b L r hh :: lw_all
theorem lw_methW {y : MethodName} {b : ByteArray} {L : Nat} {r : Option FieldType} {hh : List (Nat × Nat × Nat × Nat)} (h : Cond.codeWith y b L r hh ∈ lw_all) : GoodIn lw_all (wsW_ y b L r hh) := by
  intro w hw
  rcases List.mem_cons.mp hw with e | e
  · rw [e]
    exact lw_self _ h
  · exact lw_self _ e
/-- any list of words by their places (lw_in), good -/
theorem lw_good {ws : List Cond} (h : ∀ w ∈ ws, w ∈ lw_all) : GoodIn lw_all ws := fun w hw => lw_self w (h w hw)
/-- what a call of a method with handlers asks: vx_cwVW n hts (lw_VW ..), vx_cwSW n hts (lw_SW ..) -/
theorem lw_VW {own : String} {idx : Nat} {C : String} {y : MethodName} {b : ByteArray} {L : Nat} {r : Option FieldType} {hh : List (Nat × Nat × Nat × Nat)} (h1 : Cond.methodLink own idx y ∈ lw_all) (h2 : Cond.instanceMethod y ∈ lw_all) (h3 : Cond.selects C y y ∈ lw_all) (h4 : Cond.initialized C ∈ lw_all) (h5 : Cond.codeWith y b L r hh ∈ lw_all) : GoodIn lw_all (wsV own idx C y (wsW_ y b L r hh)) := by
  refine lw_app ?_ (lw_methW h5)
  intro w hw
  simp only [List.mem_cons, List.not_mem_nil, or_false] at hw
  rcases hw with e | e | e | e
  · rw [e]; exact h1
  · rw [e]; exact h2
  · rw [e]; exact h3
  · rw [e]; exact h4
theorem lw_SW {own : String} {idx : Nat} {y : MethodName} {b : ByteArray} {L : Nat} {r : Option FieldType} {hh : List (Nat × Nat × Nat × Nat)} (h1 : Cond.methodLink own idx y ∈ lw_all) (h2 : Cond.static y ∈ lw_all) (h3 : Cond.initialized y.cls ∈ lw_all) (h4 : Cond.codeWith y b L r hh ∈ lw_all) : GoodIn lw_all (va_wsS own idx y (wsW_ y b L r hh)) := by
  refine lw_app ?_ (lw_methW h4)
  intro w hw
  simp only [List.mem_cons, List.not_mem_nil, or_false] at hw
  rcases hw with e | e | e
  · rw [e]; exact h1
  · rw [e]; exact h2
  · rw [e]; exact h3
/-- a word by its place in its run of the tables -/
theorem lw_at {r : List Cond} (hr : ∀ w ∈ r, w ∈ lw_tbl) {w : Cond} (i : Nat) (h : r[i]? = some w) : w ∈ lw_tbl := hr w (List.mem_of_getElem? h)
theorem lw_g {w : Cond} (h : w ∈ lw_tbl) (g : goodWord w = true) : w ∈ lw_all := List.mem_filter.mpr ⟨h, g⟩
theorem lw_ms : ∀ w ∈ k2_sels lw_privs, w ∈ lw_tbl := fun w h => show w ∈ k2_sels lw_privs ++ tables_1 from List.mem_append_left _ h
theorem lw_m0 : ∀ w ∈ tables_1, w ∈ lw_tbl := fun w h => show w ∈ k2_sels lw_privs ++ tables_1 from List.mem_append_right (k2_sels lw_privs) h
theorem qs0 : (Cond.selects "java/lang/Throwable" ⟨"java/lang/Throwable", "fillInStackTrace", "(I)Ljava/lang/Throwable;"⟩ ⟨"java/lang/Throwable", "fillInStackTrace", "(I)Ljava/lang/Throwable;"⟩) ∈ lw_all := lw_g (lw_at lw_ms 0 rfl) rfl
/-! DECODE ROWS BY BYTES: one lemma an opcode; a method's code is cut into short pieces once, and a row reads its own piece alone. -/
set_option maxRecDepth 100000
/-- the code has just these bytes from pc on -/
def DkAt (code : ByteArray) (pc : Nat) (bs : List UInt8) : Prop := ∀ (j : Nat) (b : UInt8), bs[j]? = some b → code.data.toList[pc + j]? = some b
/-- the piece W has the bytes bs from its place j on -/
def dkIn (W : List UInt8) (j : Nat) (bs : List UInt8) : Bool := decide ((W.drop j).take bs.length = bs)
theorem dk_seg {l W T : List UInt8} {o o2 : Nat} (h : l.drop o = W ++ T) (n : Nat) (hn : W.length = n) (ho : o + n = o2) : l.drop o2 = T := by
  subst ho
  rw [← List.drop_drop, h, List.drop_left' hn]
theorem dk_at {code : ByteArray} {W T bs : List UInt8} {o pc : Nat} (h : code.data.toList.drop o = W ++ T) (j : Nat) (hp : o + j = pc) (hw : dkIn W j bs = true) : DkAt code pc bs := by
  subst hp
  intro i b e
  have h1 := of_decide_eq_true hw
  have h2 : i < bs.length := (List.getElem?_eq_some_iff.mp e).1
  have h3 : W[j + i]? = some b := by
    rw [← h1, List.getElem?_take, if_pos h2, List.getElem?_drop] at e
    exact e
  have h4 : j + i < W.length := (List.getElem?_eq_some_iff.mp h3).1
  have h5 : (code.data.toList.drop o)[j + i]? = some b := by
    rw [h, List.getElem?_append_left h4]
    exact h3
  rw [List.getElem?_drop, ← Nat.add_assoc] at h5
  exact h5
theorem dk_u1 {A : ByteArray} {p : Nat} {b : UInt8} (h : A.data.toList[p]? = some b) : (Reader.u1 : Reader DecodeError Nat) A p = .ok (b.toNat, p + 1) := by
  obtain ⟨h1, h2⟩ := List.getElem?_eq_some_iff.mp h
  have h3 : p < A.size := by simpa using h1
  have h4 : A[p]'h3 = b := h2
  have e : (Reader.u1 : Reader DecodeError Nat) A p = (if h : p < A.size then .ok (A[p].toNat, p + 1) else .error (HasTruncated.truncated p)) := by
    show (do if h : p < A.size then do set (p + 1); Pure.pure A[p].toNat else MonadExcept.throw (HasTruncated.truncated p) : Reader DecodeError Nat) A p = _
    by_cases hi : p < A.size
    · rw [dif_pos hi, dif_pos hi]; rfl
    · rw [dif_neg hi, dif_neg hi]; rfl
  rw [e, dif_pos h3, h4]
theorem dk_bind {α β : Type} {r : Reader DecodeError α} {f : α → Reader DecodeError β} {A : ByteArray} {p s : Nat} {a : α} (h : r A p = .ok (a, s)) : (r >>= f) A p = f a A s := by
  show (do let (a, s) ← r A p; f a A s : Except DecodeError (β × Nat)) = _
  rw [h]
  rfl
theorem dk_map {α β : Type} {r : Reader DecodeError α} {g : α → β} {A : ByteArray} {p s : Nat} {a : α} (h : r A p = .ok (a, s)) : (g <$> r) A p = .ok (g a, s) := by
  show (do let (a, s) ← r A p; .ok (g a, s) : Except DecodeError (β × Nat)) = _
  rw [h]
  rfl
theorem dk_u2 {A : ByteArray} {p : Nat} {a b : UInt8} (h : A.data.toList[p]? = some a) (h2 : A.data.toList[p + 1]? = some b) : (Reader.u2 : Reader DecodeError Nat) A p = .ok (a.toNat * 256 + b.toNat, p + 2) := by
  show (Reader.u1 >>= fun hi => Reader.u1 >>= fun lo => Pure.pure (hi * 256 + lo) : Reader DecodeError Nat) A p = _
  rw [dk_bind (dk_u1 h), dk_bind (dk_u1 h2)]
  rfl
theorem dk_of {code : ByteArray} {pc n : Nat} {i : Instr} (h : Decoder.instr pc code pc = .ok (i, pc + n)) : decode code pc = .ok (i, n) := by
  have e : decode code pc = (match Decoder.instr pc code pc with | .error x => .error x | .ok (j, s) => .ok (j, s - pc)) := by
    show (do let (j, s) ← Decoder.instr pc code pc; Pure.pure (j, s - pc) : Except DecodeError (Instr × Nat)) = _
    cases Decoder.instr pc code pc <;> rfl
  rw [e, h]
  show Except.ok (i, pc + n - pc) = _
  rw [Nat.add_sub_cancel_left]
theorem dk_2 {code : ByteArray} {pc : Nat} (h : DkAt code pc [2]) : decode code pc = .ok (.iconst (-1), 1) := dk_of ((dk_bind (dk_u1 (h 0 _ rfl))).trans rfl)
theorem dk_3 {code : ByteArray} {pc : Nat} (h : DkAt code pc [3]) : decode code pc = .ok (.iconst 0, 1) := dk_of ((dk_bind (dk_u1 (h 0 _ rfl))).trans rfl)
theorem dk_4 {code : ByteArray} {pc : Nat} (h : DkAt code pc [4]) : decode code pc = .ok (.iconst 1, 1) := dk_of ((dk_bind (dk_u1 (h 0 _ rfl))).trans rfl)
theorem dk_5 {code : ByteArray} {pc : Nat} (h : DkAt code pc [5]) : decode code pc = .ok (.iconst 2, 1) := dk_of ((dk_bind (dk_u1 (h 0 _ rfl))).trans rfl)
theorem dk_6 {code : ByteArray} {pc : Nat} (h : DkAt code pc [6]) : decode code pc = .ok (.iconst 3, 1) := dk_of ((dk_bind (dk_u1 (h 0 _ rfl))).trans rfl)
theorem dk_7 {code : ByteArray} {pc : Nat} (h : DkAt code pc [7]) : decode code pc = .ok (.iconst 4, 1) := dk_of ((dk_bind (dk_u1 (h 0 _ rfl))).trans rfl)
theorem dk_8 {code : ByteArray} {pc : Nat} (h : DkAt code pc [8]) : decode code pc = .ok (.iconst 5, 1) := dk_of ((dk_bind (dk_u1 (h 0 _ rfl))).trans rfl)
theorem dk_16 {code : ByteArray} {pc : Nat} (a : UInt8) (h : DkAt code pc [16, a]) : decode code pc = .ok (.bipush (Reader.signed 8 a.toNat), 2) := dk_of ((dk_bind (dk_u1 (h 0 _ rfl))).trans ((dk_bind (dk_map (dk_u1 (h 1 _ rfl)))).trans rfl))
theorem dk_17 {code : ByteArray} {pc : Nat} (a b : UInt8) (h : DkAt code pc [17, a, b]) : decode code pc = .ok (.sipush (Reader.signed 16 (a.toNat * 256 + b.toNat)), 3) := dk_of ((dk_bind (dk_u1 (h 0 _ rfl))).trans ((dk_bind (dk_map (dk_u2 (h 1 _ rfl) (h 2 _ rfl)))).trans rfl))
theorem dk_18 {code : ByteArray} {pc : Nat} (a : UInt8) (h : DkAt code pc [18, a]) : decode code pc = .ok (.ldc a.toNat, 2) := dk_of ((dk_bind (dk_u1 (h 0 _ rfl))).trans ((dk_bind (dk_u1 (h 1 _ rfl))).trans rfl))
theorem dk_21 {code : ByteArray} {pc : Nat} (a : UInt8) (h : DkAt code pc [21, a]) : decode code pc = .ok (.iload a.toNat, 2) := dk_of ((dk_bind (dk_u1 (h 0 _ rfl))).trans ((dk_bind (dk_u1 (h 1 _ rfl))).trans rfl))
theorem dk_25 {code : ByteArray} {pc : Nat} (a : UInt8) (h : DkAt code pc [25, a]) : decode code pc = .ok (.aload a.toNat, 2) := dk_of ((dk_bind (dk_u1 (h 0 _ rfl))).trans ((dk_bind (dk_u1 (h 1 _ rfl))).trans rfl))
theorem dk_26 {code : ByteArray} {pc : Nat} (h : DkAt code pc [26]) : decode code pc = .ok (.iload_n 0, 1) := dk_of ((dk_bind (dk_u1 (h 0 _ rfl))).trans rfl)
theorem dk_27 {code : ByteArray} {pc : Nat} (h : DkAt code pc [27]) : decode code pc = .ok (.iload_n 1, 1) := dk_of ((dk_bind (dk_u1 (h 0 _ rfl))).trans rfl)
theorem dk_28 {code : ByteArray} {pc : Nat} (h : DkAt code pc [28]) : decode code pc = .ok (.iload_n 2, 1) := dk_of ((dk_bind (dk_u1 (h 0 _ rfl))).trans rfl)
theorem dk_29 {code : ByteArray} {pc : Nat} (h : DkAt code pc [29]) : decode code pc = .ok (.iload_n 3, 1) := dk_of ((dk_bind (dk_u1 (h 0 _ rfl))).trans rfl)
theorem dk_42 {code : ByteArray} {pc : Nat} (h : DkAt code pc [42]) : decode code pc = .ok (.aload_n 0, 1) := dk_of ((dk_bind (dk_u1 (h 0 _ rfl))).trans rfl)
theorem dk_43 {code : ByteArray} {pc : Nat} (h : DkAt code pc [43]) : decode code pc = .ok (.aload_n 1, 1) := dk_of ((dk_bind (dk_u1 (h 0 _ rfl))).trans rfl)
theorem dk_44 {code : ByteArray} {pc : Nat} (h : DkAt code pc [44]) : decode code pc = .ok (.aload_n 2, 1) := dk_of ((dk_bind (dk_u1 (h 0 _ rfl))).trans rfl)
theorem dk_45 {code : ByteArray} {pc : Nat} (h : DkAt code pc [45]) : decode code pc = .ok (.aload_n 3, 1) := dk_of ((dk_bind (dk_u1 (h 0 _ rfl))).trans rfl)
theorem dk_46 {code : ByteArray} {pc : Nat} (h : DkAt code pc [46]) : decode code pc = .ok (.iaload, 1) := dk_of ((dk_bind (dk_u1 (h 0 _ rfl))).trans rfl)
theorem dk_50 {code : ByteArray} {pc : Nat} (h : DkAt code pc [50]) : decode code pc = .ok (.aaload, 1) := dk_of ((dk_bind (dk_u1 (h 0 _ rfl))).trans rfl)
theorem dk_51 {code : ByteArray} {pc : Nat} (h : DkAt code pc [51]) : decode code pc = .ok (.baload, 1) := dk_of ((dk_bind (dk_u1 (h 0 _ rfl))).trans rfl)
theorem dk_54 {code : ByteArray} {pc : Nat} (a : UInt8) (h : DkAt code pc [54, a]) : decode code pc = .ok (.istore a.toNat, 2) := dk_of ((dk_bind (dk_u1 (h 0 _ rfl))).trans ((dk_bind (dk_u1 (h 1 _ rfl))).trans rfl))
theorem dk_58 {code : ByteArray} {pc : Nat} (a : UInt8) (h : DkAt code pc [58, a]) : decode code pc = .ok (.astore a.toNat, 2) := dk_of ((dk_bind (dk_u1 (h 0 _ rfl))).trans ((dk_bind (dk_u1 (h 1 _ rfl))).trans rfl))
theorem dk_60 {code : ByteArray} {pc : Nat} (h : DkAt code pc [60]) : decode code pc = .ok (.istore_n 1, 1) := dk_of ((dk_bind (dk_u1 (h 0 _ rfl))).trans rfl)
theorem dk_61 {code : ByteArray} {pc : Nat} (h : DkAt code pc [61]) : decode code pc = .ok (.istore_n 2, 1) := dk_of ((dk_bind (dk_u1 (h 0 _ rfl))).trans rfl)
theorem dk_62 {code : ByteArray} {pc : Nat} (h : DkAt code pc [62]) : decode code pc = .ok (.istore_n 3, 1) := dk_of ((dk_bind (dk_u1 (h 0 _ rfl))).trans rfl)
theorem dk_76 {code : ByteArray} {pc : Nat} (h : DkAt code pc [76]) : decode code pc = .ok (.astore_n 1, 1) := dk_of ((dk_bind (dk_u1 (h 0 _ rfl))).trans rfl)
theorem dk_77 {code : ByteArray} {pc : Nat} (h : DkAt code pc [77]) : decode code pc = .ok (.astore_n 2, 1) := dk_of ((dk_bind (dk_u1 (h 0 _ rfl))).trans rfl)
theorem dk_78 {code : ByteArray} {pc : Nat} (h : DkAt code pc [78]) : decode code pc = .ok (.astore_n 3, 1) := dk_of ((dk_bind (dk_u1 (h 0 _ rfl))).trans rfl)
theorem dk_79 {code : ByteArray} {pc : Nat} (h : DkAt code pc [79]) : decode code pc = .ok (.iastore, 1) := dk_of ((dk_bind (dk_u1 (h 0 _ rfl))).trans rfl)
theorem dk_84 {code : ByteArray} {pc : Nat} (h : DkAt code pc [84]) : decode code pc = .ok (.bastore, 1) := dk_of ((dk_bind (dk_u1 (h 0 _ rfl))).trans rfl)
theorem dk_87 {code : ByteArray} {pc : Nat} (h : DkAt code pc [87]) : decode code pc = .ok (.pop, 1) := dk_of ((dk_bind (dk_u1 (h 0 _ rfl))).trans rfl)
theorem dk_89 {code : ByteArray} {pc : Nat} (h : DkAt code pc [89]) : decode code pc = .ok (.dup, 1) := dk_of ((dk_bind (dk_u1 (h 0 _ rfl))).trans rfl)
theorem dk_92 {code : ByteArray} {pc : Nat} (h : DkAt code pc [92]) : decode code pc = .ok (.dup2, 1) := dk_of ((dk_bind (dk_u1 (h 0 _ rfl))).trans rfl)
theorem dk_96 {code : ByteArray} {pc : Nat} (h : DkAt code pc [96]) : decode code pc = .ok (.iadd, 1) := dk_of ((dk_bind (dk_u1 (h 0 _ rfl))).trans rfl)
theorem dk_100 {code : ByteArray} {pc : Nat} (h : DkAt code pc [100]) : decode code pc = .ok (.isub, 1) := dk_of ((dk_bind (dk_u1 (h 0 _ rfl))).trans rfl)
theorem dk_104 {code : ByteArray} {pc : Nat} (h : DkAt code pc [104]) : decode code pc = .ok (.imul, 1) := dk_of ((dk_bind (dk_u1 (h 0 _ rfl))).trans rfl)
theorem dk_108 {code : ByteArray} {pc : Nat} (h : DkAt code pc [108]) : decode code pc = .ok (.idiv, 1) := dk_of ((dk_bind (dk_u1 (h 0 _ rfl))).trans rfl)
theorem dk_112 {code : ByteArray} {pc : Nat} (h : DkAt code pc [112]) : decode code pc = .ok (.irem, 1) := dk_of ((dk_bind (dk_u1 (h 0 _ rfl))).trans rfl)
theorem dk_116 {code : ByteArray} {pc : Nat} (h : DkAt code pc [116]) : decode code pc = .ok (.ineg, 1) := dk_of ((dk_bind (dk_u1 (h 0 _ rfl))).trans rfl)
theorem dk_122 {code : ByteArray} {pc : Nat} (h : DkAt code pc [122]) : decode code pc = .ok (.ishr, 1) := dk_of ((dk_bind (dk_u1 (h 0 _ rfl))).trans rfl)
theorem dk_126 {code : ByteArray} {pc : Nat} (h : DkAt code pc [126]) : decode code pc = .ok (.iand, 1) := dk_of ((dk_bind (dk_u1 (h 0 _ rfl))).trans rfl)
theorem dk_130 {code : ByteArray} {pc : Nat} (h : DkAt code pc [130]) : decode code pc = .ok (.ixor, 1) := dk_of ((dk_bind (dk_u1 (h 0 _ rfl))).trans rfl)
theorem dk_132 {code : ByteArray} {pc : Nat} (a b : UInt8) (h : DkAt code pc [132, a, b]) : decode code pc = .ok (.iinc a.toNat (Reader.signed 8 b.toNat), 3) := dk_of ((dk_bind (dk_u1 (h 0 _ rfl))).trans ((dk_bind (dk_u1 (h 1 _ rfl))).trans ((dk_bind (dk_map (dk_u1 (h 2 _ rfl)))).trans rfl)))
theorem dk_145 {code : ByteArray} {pc : Nat} (h : DkAt code pc [145]) : decode code pc = .ok (.i2b, 1) := dk_of ((dk_bind (dk_u1 (h 0 _ rfl))).trans rfl)
theorem dk_153 {code : ByteArray} {pc : Nat} (a b : UInt8) (h : DkAt code pc [153, a, b]) : decode code pc = .ok (.ifCond .eq (Reader.signed 16 (a.toNat * 256 + b.toNat)), 3) := dk_of ((dk_bind (dk_u1 (h 0 _ rfl))).trans ((dk_bind (dk_map (dk_u2 (h 1 _ rfl) (h 2 _ rfl)))).trans rfl))
theorem dk_154 {code : ByteArray} {pc : Nat} (a b : UInt8) (h : DkAt code pc [154, a, b]) : decode code pc = .ok (.ifCond .ne (Reader.signed 16 (a.toNat * 256 + b.toNat)), 3) := dk_of ((dk_bind (dk_u1 (h 0 _ rfl))).trans ((dk_bind (dk_map (dk_u2 (h 1 _ rfl) (h 2 _ rfl)))).trans rfl))
theorem dk_155 {code : ByteArray} {pc : Nat} (a b : UInt8) (h : DkAt code pc [155, a, b]) : decode code pc = .ok (.ifCond .lt (Reader.signed 16 (a.toNat * 256 + b.toNat)), 3) := dk_of ((dk_bind (dk_u1 (h 0 _ rfl))).trans ((dk_bind (dk_map (dk_u2 (h 1 _ rfl) (h 2 _ rfl)))).trans rfl))
theorem dk_156 {code : ByteArray} {pc : Nat} (a b : UInt8) (h : DkAt code pc [156, a, b]) : decode code pc = .ok (.ifCond .ge (Reader.signed 16 (a.toNat * 256 + b.toNat)), 3) := dk_of ((dk_bind (dk_u1 (h 0 _ rfl))).trans ((dk_bind (dk_map (dk_u2 (h 1 _ rfl) (h 2 _ rfl)))).trans rfl))
theorem dk_158 {code : ByteArray} {pc : Nat} (a b : UInt8) (h : DkAt code pc [158, a, b]) : decode code pc = .ok (.ifCond .le (Reader.signed 16 (a.toNat * 256 + b.toNat)), 3) := dk_of ((dk_bind (dk_u1 (h 0 _ rfl))).trans ((dk_bind (dk_map (dk_u2 (h 1 _ rfl) (h 2 _ rfl)))).trans rfl))
theorem dk_160 {code : ByteArray} {pc : Nat} (a b : UInt8) (h : DkAt code pc [160, a, b]) : decode code pc = .ok (.if_icmp .ne (Reader.signed 16 (a.toNat * 256 + b.toNat)), 3) := dk_of ((dk_bind (dk_u1 (h 0 _ rfl))).trans ((dk_bind (dk_map (dk_u2 (h 1 _ rfl) (h 2 _ rfl)))).trans rfl))
theorem dk_161 {code : ByteArray} {pc : Nat} (a b : UInt8) (h : DkAt code pc [161, a, b]) : decode code pc = .ok (.if_icmp .lt (Reader.signed 16 (a.toNat * 256 + b.toNat)), 3) := dk_of ((dk_bind (dk_u1 (h 0 _ rfl))).trans ((dk_bind (dk_map (dk_u2 (h 1 _ rfl) (h 2 _ rfl)))).trans rfl))
theorem dk_162 {code : ByteArray} {pc : Nat} (a b : UInt8) (h : DkAt code pc [162, a, b]) : decode code pc = .ok (.if_icmp .ge (Reader.signed 16 (a.toNat * 256 + b.toNat)), 3) := dk_of ((dk_bind (dk_u1 (h 0 _ rfl))).trans ((dk_bind (dk_map (dk_u2 (h 1 _ rfl) (h 2 _ rfl)))).trans rfl))
theorem dk_163 {code : ByteArray} {pc : Nat} (a b : UInt8) (h : DkAt code pc [163, a, b]) : decode code pc = .ok (.if_icmp .gt (Reader.signed 16 (a.toNat * 256 + b.toNat)), 3) := dk_of ((dk_bind (dk_u1 (h 0 _ rfl))).trans ((dk_bind (dk_map (dk_u2 (h 1 _ rfl) (h 2 _ rfl)))).trans rfl))
theorem dk_164 {code : ByteArray} {pc : Nat} (a b : UInt8) (h : DkAt code pc [164, a, b]) : decode code pc = .ok (.if_icmp .le (Reader.signed 16 (a.toNat * 256 + b.toNat)), 3) := dk_of ((dk_bind (dk_u1 (h 0 _ rfl))).trans ((dk_bind (dk_map (dk_u2 (h 1 _ rfl) (h 2 _ rfl)))).trans rfl))
theorem dk_167 {code : ByteArray} {pc : Nat} (a b : UInt8) (h : DkAt code pc [167, a, b]) : decode code pc = .ok (.goto (Reader.signed 16 (a.toNat * 256 + b.toNat)), 3) := dk_of ((dk_bind (dk_u1 (h 0 _ rfl))).trans ((dk_bind (dk_map (dk_u2 (h 1 _ rfl) (h 2 _ rfl)))).trans rfl))
theorem dk_172 {code : ByteArray} {pc : Nat} (h : DkAt code pc [172]) : decode code pc = .ok (.ireturn, 1) := dk_of ((dk_bind (dk_u1 (h 0 _ rfl))).trans rfl)
theorem dk_177 {code : ByteArray} {pc : Nat} (h : DkAt code pc [177]) : decode code pc = .ok (.return_, 1) := dk_of ((dk_bind (dk_u1 (h 0 _ rfl))).trans rfl)
theorem dk_178 {code : ByteArray} {pc : Nat} (a b : UInt8) (h : DkAt code pc [178, a, b]) : decode code pc = .ok (.getstatic (a.toNat * 256 + b.toNat), 3) := dk_of ((dk_bind (dk_u1 (h 0 _ rfl))).trans ((dk_bind (dk_u2 (h 1 _ rfl) (h 2 _ rfl))).trans rfl))
theorem dk_180 {code : ByteArray} {pc : Nat} (a b : UInt8) (h : DkAt code pc [180, a, b]) : decode code pc = .ok (.getfield (a.toNat * 256 + b.toNat), 3) := dk_of ((dk_bind (dk_u1 (h 0 _ rfl))).trans ((dk_bind (dk_u2 (h 1 _ rfl) (h 2 _ rfl))).trans rfl))
theorem dk_181 {code : ByteArray} {pc : Nat} (a b : UInt8) (h : DkAt code pc [181, a, b]) : decode code pc = .ok (.putfield (a.toNat * 256 + b.toNat), 3) := dk_of ((dk_bind (dk_u1 (h 0 _ rfl))).trans ((dk_bind (dk_u2 (h 1 _ rfl) (h 2 _ rfl))).trans rfl))
theorem dk_182 {code : ByteArray} {pc : Nat} (a b : UInt8) (h : DkAt code pc [182, a, b]) : decode code pc = .ok (.invokevirtual (a.toNat * 256 + b.toNat), 3) := dk_of ((dk_bind (dk_u1 (h 0 _ rfl))).trans ((dk_bind (dk_u2 (h 1 _ rfl) (h 2 _ rfl))).trans rfl))
theorem dk_183 {code : ByteArray} {pc : Nat} (a b : UInt8) (h : DkAt code pc [183, a, b]) : decode code pc = .ok (.invokespecial (a.toNat * 256 + b.toNat), 3) := dk_of ((dk_bind (dk_u1 (h 0 _ rfl))).trans ((dk_bind (dk_u2 (h 1 _ rfl) (h 2 _ rfl))).trans rfl))
theorem dk_184 {code : ByteArray} {pc : Nat} (a b : UInt8) (h : DkAt code pc [184, a, b]) : decode code pc = .ok (.invokestatic (a.toNat * 256 + b.toNat), 3) := dk_of ((dk_bind (dk_u1 (h 0 _ rfl))).trans ((dk_bind (dk_u2 (h 1 _ rfl) (h 2 _ rfl))).trans rfl))
theorem dk_187 {code : ByteArray} {pc : Nat} (a b : UInt8) (h : DkAt code pc [187, a, b]) : decode code pc = .ok (.new (a.toNat * 256 + b.toNat), 3) := dk_of ((dk_bind (dk_u1 (h 0 _ rfl))).trans ((dk_bind (dk_u2 (h 1 _ rfl) (h 2 _ rfl))).trans rfl))
theorem dk_188_10 {code : ByteArray} {pc : Nat} (h : DkAt code pc [188, 10]) : decode code pc = .ok (.newarray .int, 2) := dk_of ((dk_bind (dk_u1 (h 0 _ rfl))).trans ((dk_bind (dk_u1 (h 1 _ rfl))).trans rfl))
theorem dk_190 {code : ByteArray} {pc : Nat} (h : DkAt code pc [190]) : decode code pc = .ok (.arraylength, 1) := dk_of ((dk_bind (dk_u1 (h 0 _ rfl))).trans rfl)
theorem dk_191 {code : ByteArray} {pc : Nat} (h : DkAt code pc [191]) : decode code pc = .ok (.athrow, 1) := dk_of ((dk_bind (dk_u1 (h 0 _ rfl))).trans rfl)
end
section
/-! java/lang/Math -/
set_option maxRecDepth 100000
def RJ0 : String := "java/lang/Math"
abbrev cJ0_abs : ByteArray := prog_7_method_59_code
def yJ0_abs : MethodName := ⟨RJ0, "abs", "(I)I"⟩
def dkwJ0_abs_0 : List UInt8 := [26, 156, 0, 8, 26, 116, 167, 0, 4, 26, 172]
abbrev dktJ0_abs_0 : List UInt8 := dkwJ0_abs_0 ++ []
theorem dksJ0_abs_0 : cJ0_abs.data.toList.drop 0 = dktJ0_abs_0 := by decide +kernel
theorem dJ0_abs_0 : decode cJ0_abs 0 = .ok (.iload_n 0, 1) := dk_26 (dk_at dksJ0_abs_0 0 rfl rfl)
theorem dJ0_abs_1 : decode cJ0_abs 1 = .ok (.ifCond .ge 8, 3) := dk_156 0 8 (dk_at dksJ0_abs_0 1 rfl rfl)
theorem dJ0_abs_4 : decode cJ0_abs 4 = .ok (.iload_n 0, 1) := dk_26 (dk_at dksJ0_abs_0 4 rfl rfl)
theorem dJ0_abs_5 : decode cJ0_abs 5 = .ok (.ineg, 1) := dk_116 (dk_at dksJ0_abs_0 5 rfl rfl)
theorem dJ0_abs_6 : decode cJ0_abs 6 = .ok (.goto 4, 3) := dk_167 0 4 (dk_at dksJ0_abs_0 6 rfl rfl)
theorem dJ0_abs_9 : decode cJ0_abs 9 = .ok (.iload_n 0, 1) := dk_26 (dk_at dksJ0_abs_0 9 rfl rfl)
theorem dJ0_abs_10 : decode cJ0_abs 10 = .ok (.ireturn, 1) := dk_172 (dk_at dksJ0_abs_0 10 rfl rfl)
theorem q5 : (Jvm.Cond.initialized "java/lang/Math") ∈ lw_all := lw_g (lw_at lw_m0 4 rfl) rfl
theorem q216 : (Jvm.Cond.static ({ cls := "java/lang/Math", name := "abs", desc := "(I)I" } : Jvm.MethodName)) ∈ lw_all := lw_g (lw_at lw_m0 215 rfl) rfl
theorem q217 : (Jvm.Cond.code ({ cls := "java/lang/Math", name := "abs", desc := "(I)I" } : Jvm.MethodName) prog_7_method_59_code (1 : Nat) (Option.some Jvm.ClassFile.FieldType.int)) ∈ lw_all := lw_g (lw_at lw_m0 216 rfl) rfl
/-! java/lang/Object -/
set_option maxRecDepth 100000
def RJ5 : String := "java/lang/Object"
abbrev cJ5_init : ByteArray := object_method_1_code
def yJ5_init : MethodName := ⟨RJ5, "<init>", "()V"⟩
theorem dJ5_init_0 : decode cJ5_init 0 = .ok (.return_, 1) := by decide +kernel
theorem q16 : (Jvm.Cond.instanceMethod ({ cls := "java/lang/Object", name := "<init>", desc := "()V" } : Jvm.MethodName)) ∈ lw_all := lw_g (lw_at lw_m0 15 rfl) rfl
theorem q17 : (Jvm.Cond.code ({ cls := "java/lang/Object", name := "<init>", desc := "()V" } : Jvm.MethodName) object_method_1_code (1 : Nat) (Option.none : Option Jvm.ClassFile.FieldType)) ∈ lw_all := lw_g (lw_at lw_m0 16 rfl) rfl
/-! ByteMatrix -/
set_option maxRecDepth 100000
def RX2 : String := "ByteMatrix"
def TX2 : u_T := fun k => match k with
  | 0 => ("ByteMatrix", "bytes", "[[B", true)
  | 1 => ("ByteMatrix", "width", "I", true)
  | _ => ("ByteMatrix", "height", "I", true)
def tyX2 : Nat → FieldType := fun k => match k with
  | 0 => .array (.array .byte)
  | 1 => .int
  | _ => .int
abbrev wsX20 : List Cond := u_ws RX2 TX2 3
theorem nmX2 : ∀ a, a < 3 → ∀ b, b < 3 → a ≠ b → (TX2 a).2.1 ≠ (TX2 b).2.1 := by decide +kernel
theorem tyX2_ok : ∀ k, k < 3 → parseFieldDescriptor (TX2 k).2.2.1 = some (tyX2 k) := by decide +kernel
abbrev cX2_init : ByteArray := prog_1_method_1_code
def yX2_init : MethodName := ⟨RX2, "<init>", "(II)V"⟩
def dkwX2_init_1 : List UInt8 := [177]
abbrev dktX2_init_1 : List UInt8 := dkwX2_init_1 ++ []
def dkwX2_init_0 : List UInt8 := [42, 183, 0, 1, 42, 28, 27, 197, 0, 7, 2, 181, 0, 9, 42, 27, 181, 0, 14, 42, 28, 181, 0, 18]
abbrev dktX2_init_0 : List UInt8 := dkwX2_init_0 ++ dktX2_init_1
theorem dksX2_init_0 : cX2_init.data.toList.drop 0 = dktX2_init_0 := by decide +kernel
theorem dksX2_init_1 : cX2_init.data.toList.drop 24 = dktX2_init_1 := dk_seg dksX2_init_0 24 rfl rfl
theorem dX2_init_0 : decode cX2_init 0 = .ok (.aload_n 0, 1) := dk_42 (dk_at dksX2_init_0 0 rfl rfl)
theorem dX2_init_1 : decode cX2_init 1 = .ok (.invokespecial 1, 3) := dk_183 0 1 (dk_at dksX2_init_0 1 rfl rfl)
theorem dX2_init_4 : decode cX2_init 4 = .ok (.aload_n 0, 1) := dk_42 (dk_at dksX2_init_0 4 rfl rfl)
theorem dX2_init_5 : decode cX2_init 5 = .ok (.iload_n 2, 1) := dk_28 (dk_at dksX2_init_0 5 rfl rfl)
theorem dX2_init_6 : decode cX2_init 6 = .ok (.iload_n 1, 1) := dk_27 (dk_at dksX2_init_0 6 rfl rfl)
theorem dX2_init_7 : decode cX2_init 7 = .ok (.multianewarray 7 2, 4) := by decide +kernel
theorem dX2_init_11 : decode cX2_init 11 = .ok (.putfield 9, 3) := dk_181 0 9 (dk_at dksX2_init_0 11 rfl rfl)
theorem dX2_init_14 : decode cX2_init 14 = .ok (.aload_n 0, 1) := dk_42 (dk_at dksX2_init_0 14 rfl rfl)
theorem dX2_init_15 : decode cX2_init 15 = .ok (.iload_n 1, 1) := dk_27 (dk_at dksX2_init_0 15 rfl rfl)
theorem dX2_init_16 : decode cX2_init 16 = .ok (.putfield 14, 3) := dk_181 0 14 (dk_at dksX2_init_0 16 rfl rfl)
theorem dX2_init_19 : decode cX2_init 19 = .ok (.aload_n 0, 1) := dk_42 (dk_at dksX2_init_0 19 rfl rfl)
theorem dX2_init_20 : decode cX2_init 20 = .ok (.iload_n 2, 1) := dk_28 (dk_at dksX2_init_0 20 rfl rfl)
theorem dX2_init_21 : decode cX2_init 21 = .ok (.putfield 18, 3) := dk_181 0 18 (dk_at dksX2_init_0 21 rfl rfl)
theorem dX2_init_24 : decode cX2_init 24 = .ok (.return_, 1) := dk_177 (dk_at dksX2_init_1 0 rfl rfl)
abbrev cX2_set : ByteArray := prog_1_method_6_code
def yX2_set : MethodName := ⟨RX2, "set", "(III)V"⟩
def dkwX2_set_0 : List UInt8 := [42, 180, 0, 9, 28, 50, 27, 29, 145, 84, 177]
abbrev dktX2_set_0 : List UInt8 := dkwX2_set_0 ++ []
theorem dksX2_set_0 : cX2_set.data.toList.drop 0 = dktX2_set_0 := by decide +kernel
theorem dX2_set_0 : decode cX2_set 0 = .ok (.aload_n 0, 1) := dk_42 (dk_at dksX2_set_0 0 rfl rfl)
theorem dX2_set_1 : decode cX2_set 1 = .ok (.getfield 9, 3) := dk_180 0 9 (dk_at dksX2_set_0 1 rfl rfl)
theorem dX2_set_4 : decode cX2_set 4 = .ok (.iload_n 2, 1) := dk_28 (dk_at dksX2_set_0 4 rfl rfl)
theorem dX2_set_5 : decode cX2_set 5 = .ok (.aaload, 1) := dk_50 (dk_at dksX2_set_0 5 rfl rfl)
theorem dX2_set_6 : decode cX2_set 6 = .ok (.iload_n 1, 1) := dk_27 (dk_at dksX2_set_0 6 rfl rfl)
theorem dX2_set_7 : decode cX2_set 7 = .ok (.iload_n 3, 1) := dk_29 (dk_at dksX2_set_0 7 rfl rfl)
theorem dX2_set_8 : decode cX2_set 8 = .ok (.i2b, 1) := dk_145 (dk_at dksX2_set_0 8 rfl rfl)
theorem dX2_set_9 : decode cX2_set 9 = .ok (.bastore, 1) := dk_84 (dk_at dksX2_set_0 9 rfl rfl)
theorem dX2_set_10 : decode cX2_set 10 = .ok (.return_, 1) := dk_177 (dk_at dksX2_set_0 10 rfl rfl)
abbrev cX2_get : ByteArray := prog_1_method_4_code
def yX2_get : MethodName := ⟨RX2, "get", "(II)B"⟩
def dkwX2_get_0 : List UInt8 := [42, 180, 0, 9, 28, 50, 27, 51, 172]
abbrev dktX2_get_0 : List UInt8 := dkwX2_get_0 ++ []
theorem dksX2_get_0 : cX2_get.data.toList.drop 0 = dktX2_get_0 := by decide +kernel
theorem dX2_get_0 : decode cX2_get 0 = .ok (.aload_n 0, 1) := dk_42 (dk_at dksX2_get_0 0 rfl rfl)
theorem dX2_get_1 : decode cX2_get 1 = .ok (.getfield 9, 3) := dk_180 0 9 (dk_at dksX2_get_0 1 rfl rfl)
theorem dX2_get_4 : decode cX2_get 4 = .ok (.iload_n 2, 1) := dk_28 (dk_at dksX2_get_0 4 rfl rfl)
theorem dX2_get_5 : decode cX2_get 5 = .ok (.aaload, 1) := dk_50 (dk_at dksX2_get_0 5 rfl rfl)
theorem dX2_get_6 : decode cX2_get 6 = .ok (.iload_n 1, 1) := dk_27 (dk_at dksX2_get_0 6 rfl rfl)
theorem dX2_get_7 : decode cX2_get 7 = .ok (.baload, 1) := dk_51 (dk_at dksX2_get_0 7 rfl rfl)
theorem dX2_get_8 : decode cX2_get 8 = .ok (.ireturn, 1) := dk_172 (dk_at dksX2_get_0 8 rfl rfl)
abbrev cX2_getArray : ByteArray := prog_1_method_5_code
def yX2_getArray : MethodName := ⟨RX2, "getArray", "()[[B"⟩
theorem dX2_getArray_0 : decode cX2_getArray 0 = .ok (.aload_n 0, 1) := by decide +kernel
theorem dX2_getArray_1 : decode cX2_getArray 1 = .ok (.getfield 9, 3) := by decide +kernel
theorem dX2_getArray_4 : decode cX2_getArray 4 = .ok (.areturn, 1) := by decide +kernel
abbrev cX2_getWidth : ByteArray := prog_1_method_3_code
def yX2_getWidth : MethodName := ⟨RX2, "getWidth", "()I"⟩
theorem dX2_getWidth_0 : decode cX2_getWidth 0 = .ok (.aload_n 0, 1) := by decide +kernel
theorem dX2_getWidth_1 : decode cX2_getWidth 1 = .ok (.getfield 14, 3) := by decide +kernel
theorem dX2_getWidth_4 : decode cX2_getWidth 4 = .ok (.ireturn, 1) := by decide +kernel
abbrev cX2_getHeight : ByteArray := prog_1_method_2_code
def yX2_getHeight : MethodName := ⟨RX2, "getHeight", "()I"⟩
theorem dX2_getHeight_0 : decode cX2_getHeight 0 = .ok (.aload_n 0, 1) := by decide +kernel
theorem dX2_getHeight_1 : decode cX2_getHeight 1 = .ok (.getfield 18, 3) := by decide +kernel
theorem dX2_getHeight_4 : decode cX2_getHeight 4 = .ok (.ireturn, 1) := by decide +kernel
theorem q3 : (Jvm.Cond.initialized "ByteMatrix") ∈ lw_all := lw_g (lw_at lw_m0 2 rfl) rfl
theorem q19 : (Jvm.Cond.instantiable "ByteMatrix" (3 : Nat)) ∈ lw_all := lw_g (lw_at lw_m0 18 rfl) rfl
theorem q21 : (Jvm.Cond.instanceMethod ({ cls := "ByteMatrix", name := "<init>", desc := "(II)V" } : Jvm.MethodName)) ∈ lw_all := lw_g (lw_at lw_m0 20 rfl) rfl
theorem q22 : (Jvm.Cond.code ({ cls := "ByteMatrix", name := "<init>", desc := "(II)V" } : Jvm.MethodName) prog_1_method_1_code (3 : Nat) (Option.none : Option Jvm.ClassFile.FieldType)) ∈ lw_all := lw_g (lw_at lw_m0 21 rfl) rfl
theorem q23 : (Jvm.Cond.methodLink "ByteMatrix" (1 : Nat) ({ cls := "java/lang/Object", name := "<init>", desc := "()V" } : Jvm.MethodName)) ∈ lw_all := lw_g (lw_at lw_m0 22 rfl) rfl
theorem q24 : (Jvm.Cond.classLink "ByteMatrix" (7 : Nat) "[[B") ∈ lw_all := lw_g (lw_at lw_m0 23 rfl) rfl
theorem q26 : (Jvm.Cond.fieldLink "ByteMatrix" (9 : Nat) "ByteMatrix" "bytes" "[[B") ∈ lw_all := lw_g (lw_at lw_m0 25 rfl) rfl
theorem q27 : (Jvm.Cond.fieldLink "ByteMatrix" (14 : Nat) "ByteMatrix" "width" "I") ∈ lw_all := lw_g (lw_at lw_m0 26 rfl) rfl
theorem q28 : (Jvm.Cond.fieldLink "ByteMatrix" (18 : Nat) "ByteMatrix" "height" "I") ∈ lw_all := lw_g (lw_at lw_m0 27 rfl) rfl
theorem q29 : (Jvm.Cond.laysFinal "ByteMatrix" "ByteMatrix" "bytes" "[[B") ∈ lw_all := lw_g (lw_at lw_m0 28 rfl) rfl
theorem q30 : (Jvm.Cond.soleField "ByteMatrix" "bytes") ∈ lw_all := lw_g (lw_at lw_m0 29 rfl) rfl
theorem q31 : (Jvm.Cond.laysFinal "ByteMatrix" "ByteMatrix" "width" "I") ∈ lw_all := lw_g (lw_at lw_m0 30 rfl) rfl
theorem q32 : (Jvm.Cond.soleField "ByteMatrix" "width") ∈ lw_all := lw_g (lw_at lw_m0 31 rfl) rfl
theorem q33 : (Jvm.Cond.laysFinal "ByteMatrix" "ByteMatrix" "height" "I") ∈ lw_all := lw_g (lw_at lw_m0 32 rfl) rfl
theorem q34 : (Jvm.Cond.soleField "ByteMatrix" "height") ∈ lw_all := lw_g (lw_at lw_m0 33 rfl) rfl
theorem q35 : (Jvm.Cond.superclass "ByteMatrix" "java/lang/Object") ∈ lw_all := lw_g (lw_at lw_m0 34 rfl) rfl
theorem q47 : (Jvm.Cond.instanceMethod ({ cls := "ByteMatrix", name := "set", desc := "(III)V" } : Jvm.MethodName)) ∈ lw_all := lw_g (lw_at lw_m0 46 rfl) rfl
theorem q48 : (Jvm.Cond.selects "ByteMatrix" ({ cls := "ByteMatrix", name := "set", desc := "(III)V" } : Jvm.MethodName) ({ cls := "ByteMatrix", name := "set", desc := "(III)V" } : Jvm.MethodName)) ∈ lw_all := lw_g (lw_at lw_m0 47 rfl) rfl
theorem q49 : (Jvm.Cond.code ({ cls := "ByteMatrix", name := "set", desc := "(III)V" } : Jvm.MethodName) prog_1_method_6_code (4 : Nat) (Option.none : Option Jvm.ClassFile.FieldType)) ∈ lw_all := lw_g (lw_at lw_m0 48 rfl) rfl
theorem q131 : (Jvm.Cond.instanceMethod ({ cls := "ByteMatrix", name := "get", desc := "(II)B" } : Jvm.MethodName)) ∈ lw_all := lw_g (lw_at lw_m0 130 rfl) rfl
theorem q132 : (Jvm.Cond.selects "ByteMatrix" ({ cls := "ByteMatrix", name := "get", desc := "(II)B" } : Jvm.MethodName) ({ cls := "ByteMatrix", name := "get", desc := "(II)B" } : Jvm.MethodName)) ∈ lw_all := lw_g (lw_at lw_m0 131 rfl) rfl
theorem q133 : (Jvm.Cond.code ({ cls := "ByteMatrix", name := "get", desc := "(II)B" } : Jvm.MethodName) prog_1_method_4_code (3 : Nat) (Option.some Jvm.ClassFile.FieldType.byte)) ∈ lw_all := lw_g (lw_at lw_m0 132 rfl) rfl
theorem q159 : (Jvm.Cond.instanceMethod ({ cls := "ByteMatrix", name := "getArray", desc := "()[[B" } : Jvm.MethodName)) ∈ lw_all := lw_g (lw_at lw_m0 158 rfl) rfl
theorem q160 : (Jvm.Cond.selects "ByteMatrix" ({ cls := "ByteMatrix", name := "getArray", desc := "()[[B" } : Jvm.MethodName) ({ cls := "ByteMatrix", name := "getArray", desc := "()[[B" } : Jvm.MethodName)) ∈ lw_all := lw_g (lw_at lw_m0 159 rfl) rfl
theorem q161 : (Jvm.Cond.code ({ cls := "ByteMatrix", name := "getArray", desc := "()[[B" } : Jvm.MethodName) prog_1_method_5_code (1 : Nat) (Option.some (Jvm.ClassFile.FieldType.array (Jvm.ClassFile.FieldType.array Jvm.ClassFile.FieldType.byte)))) ∈ lw_all := lw_g (lw_at lw_m0 160 rfl) rfl
theorem q163 : (Jvm.Cond.instanceMethod ({ cls := "ByteMatrix", name := "getWidth", desc := "()I" } : Jvm.MethodName)) ∈ lw_all := lw_g (lw_at lw_m0 162 rfl) rfl
theorem q164 : (Jvm.Cond.selects "ByteMatrix" ({ cls := "ByteMatrix", name := "getWidth", desc := "()I" } : Jvm.MethodName) ({ cls := "ByteMatrix", name := "getWidth", desc := "()I" } : Jvm.MethodName)) ∈ lw_all := lw_g (lw_at lw_m0 163 rfl) rfl
theorem q165 : (Jvm.Cond.code ({ cls := "ByteMatrix", name := "getWidth", desc := "()I" } : Jvm.MethodName) prog_1_method_3_code (1 : Nat) (Option.some Jvm.ClassFile.FieldType.int)) ∈ lw_all := lw_g (lw_at lw_m0 164 rfl) rfl
theorem q167 : (Jvm.Cond.instanceMethod ({ cls := "ByteMatrix", name := "getHeight", desc := "()I" } : Jvm.MethodName)) ∈ lw_all := lw_g (lw_at lw_m0 166 rfl) rfl
theorem q168 : (Jvm.Cond.selects "ByteMatrix" ({ cls := "ByteMatrix", name := "getHeight", desc := "()I" } : Jvm.MethodName) ({ cls := "ByteMatrix", name := "getHeight", desc := "()I" } : Jvm.MethodName)) ∈ lw_all := lw_g (lw_at lw_m0 167 rfl) rfl
theorem q169 : (Jvm.Cond.code ({ cls := "ByteMatrix", name := "getHeight", desc := "()I" } : Jvm.MethodName) prog_1_method_2_code (1 : Nat) (Option.some Jvm.ClassFile.FieldType.int)) ∈ lw_all := lw_g (lw_at lw_m0 168 rfl) rfl
theorem in_X2 : ∀ w ∈ wsX20, w ∈ lw_all := lw_in wsX20 [29, 31, 33] (by decide +kernel) (by decide +kernel)
/-! PenaltyDesk -/
set_option maxRecDepth 100000
def RX1 : String := "PenaltyDesk"
def TX1 : u_T := fun k => match k with
  | _ => ("PenaltyDesk", "sheet", "LByteMatrix;", true)
def tyX1 : Nat → FieldType := fun k => match k with
  | _ => .object "ByteMatrix"
abbrev wsX10 : List Cond := u_ws RX1 TX1 1
theorem nmX1 : ∀ a, a < 1 → ∀ b, b < 1 → a ≠ b → (TX1 a).2.1 ≠ (TX1 b).2.1 := by decide +kernel
theorem tyX1_ok : ∀ k, k < 1 → parseFieldDescriptor (TX1 k).2.2.1 = some (tyX1 k) := by decide +kernel
abbrev cX1_init : ByteArray := prog_3_method_1_code
def yX1_init : MethodName := ⟨RX1, "<init>", "()V"⟩
def dkwX1_init_0 : List UInt8 := [42, 183, 0, 1, 42, 187, 0, 7, 89, 16, 21, 16, 21, 183, 0, 9, 181, 0, 12, 177]
abbrev dktX1_init_0 : List UInt8 := dkwX1_init_0 ++ []
theorem dksX1_init_0 : cX1_init.data.toList.drop 0 = dktX1_init_0 := by decide +kernel
theorem dX1_init_0 : decode cX1_init 0 = .ok (.aload_n 0, 1) := dk_42 (dk_at dksX1_init_0 0 rfl rfl)
theorem dX1_init_1 : decode cX1_init 1 = .ok (.invokespecial 1, 3) := dk_183 0 1 (dk_at dksX1_init_0 1 rfl rfl)
theorem dX1_init_4 : decode cX1_init 4 = .ok (.aload_n 0, 1) := dk_42 (dk_at dksX1_init_0 4 rfl rfl)
theorem dX1_init_5 : decode cX1_init 5 = .ok (.new 7, 3) := dk_187 0 7 (dk_at dksX1_init_0 5 rfl rfl)
theorem dX1_init_8 : decode cX1_init 8 = .ok (.dup, 1) := dk_89 (dk_at dksX1_init_0 8 rfl rfl)
theorem dX1_init_9 : decode cX1_init 9 = .ok (.bipush 21, 2) := dk_16 21 (dk_at dksX1_init_0 9 rfl rfl)
theorem dX1_init_11 : decode cX1_init 11 = .ok (.bipush 21, 2) := dk_16 21 (dk_at dksX1_init_0 11 rfl rfl)
theorem dX1_init_13 : decode cX1_init 13 = .ok (.invokespecial 9, 3) := dk_183 0 9 (dk_at dksX1_init_0 13 rfl rfl)
theorem dX1_init_16 : decode cX1_init 16 = .ok (.putfield 12, 3) := dk_181 0 12 (dk_at dksX1_init_0 16 rfl rfl)
theorem dX1_init_19 : decode cX1_init 19 = .ok (.return_, 1) := dk_177 (dk_at dksX1_init_0 19 rfl rfl)
abbrev cX1_set : ByteArray := prog_3_method_2_code
def yX1_set : MethodName := ⟨RX1, "set", "(III)V"⟩
def dkwX1_set_1 : List UInt8 := [177]
abbrev dktX1_set_1 : List UInt8 := dkwX1_set_1 ++ []
def dkwX1_set_0 : List UInt8 := [42, 180, 0, 12, 27, 18, 18, 126, 16, 21, 112, 28, 18, 18, 126, 16, 21, 112, 29, 4, 126, 182, 0, 19]
abbrev dktX1_set_0 : List UInt8 := dkwX1_set_0 ++ dktX1_set_1
theorem dksX1_set_0 : cX1_set.data.toList.drop 0 = dktX1_set_0 := by decide +kernel
theorem dksX1_set_1 : cX1_set.data.toList.drop 24 = dktX1_set_1 := dk_seg dksX1_set_0 24 rfl rfl
theorem dX1_set_0 : decode cX1_set 0 = .ok (.aload_n 0, 1) := dk_42 (dk_at dksX1_set_0 0 rfl rfl)
theorem dX1_set_1 : decode cX1_set 1 = .ok (.getfield 12, 3) := dk_180 0 12 (dk_at dksX1_set_0 1 rfl rfl)
theorem dX1_set_4 : decode cX1_set 4 = .ok (.iload_n 1, 1) := dk_27 (dk_at dksX1_set_0 4 rfl rfl)
theorem dX1_set_5 : decode cX1_set 5 = .ok (.ldc 18, 2) := dk_18 18 (dk_at dksX1_set_0 5 rfl rfl)
theorem dX1_set_7 : decode cX1_set 7 = .ok (.iand, 1) := dk_126 (dk_at dksX1_set_0 7 rfl rfl)
theorem dX1_set_8 : decode cX1_set 8 = .ok (.bipush 21, 2) := dk_16 21 (dk_at dksX1_set_0 8 rfl rfl)
theorem dX1_set_10 : decode cX1_set 10 = .ok (.irem, 1) := dk_112 (dk_at dksX1_set_0 10 rfl rfl)
theorem dX1_set_11 : decode cX1_set 11 = .ok (.iload_n 2, 1) := dk_28 (dk_at dksX1_set_0 11 rfl rfl)
theorem dX1_set_12 : decode cX1_set 12 = .ok (.ldc 18, 2) := dk_18 18 (dk_at dksX1_set_0 12 rfl rfl)
theorem dX1_set_14 : decode cX1_set 14 = .ok (.iand, 1) := dk_126 (dk_at dksX1_set_0 14 rfl rfl)
theorem dX1_set_15 : decode cX1_set 15 = .ok (.bipush 21, 2) := dk_16 21 (dk_at dksX1_set_0 15 rfl rfl)
theorem dX1_set_17 : decode cX1_set 17 = .ok (.irem, 1) := dk_112 (dk_at dksX1_set_0 17 rfl rfl)
theorem dX1_set_18 : decode cX1_set 18 = .ok (.iload_n 3, 1) := dk_29 (dk_at dksX1_set_0 18 rfl rfl)
theorem dX1_set_19 : decode cX1_set 19 = .ok (.iconst 1, 1) := dk_4 (dk_at dksX1_set_0 19 rfl rfl)
theorem dX1_set_20 : decode cX1_set 20 = .ok (.iand, 1) := dk_126 (dk_at dksX1_set_0 20 rfl rfl)
theorem dX1_set_21 : decode cX1_set 21 = .ok (.invokevirtual 19, 3) := dk_182 0 19 (dk_at dksX1_set_0 21 rfl rfl)
theorem dX1_set_24 : decode cX1_set 24 = .ok (.return_, 1) := dk_177 (dk_at dksX1_set_1 0 rfl rfl)
abbrev cX1_fill : ByteArray := prog_3_method_3_code
def yX1_fill : MethodName := ⟨RX1, "fill", "(IIIII)V"⟩
def dkwX1_fill_4 : List UInt8 := [167, 255, 185, 177]
abbrev dktX1_fill_4 : List UInt8 := dkwX1_fill_4 ++ []
def dkwX1_fill_3 : List UInt8 := [180, 0, 12, 21, 8, 21, 9, 21, 5, 4, 126, 182, 0, 19, 132, 9, 1, 167, 255, 216, 132, 8, 1]
abbrev dktX1_fill_3 : List UInt8 := dkwX1_fill_3 ++ dktX1_fill_4
def dkwX1_fill_2 : List UInt8 := [21, 9, 16, 21, 162, 0, 39, 21, 9, 21, 7, 4, 96, 21, 4, 16, 7, 126, 96, 162, 0, 24, 42]
abbrev dktX1_fill_2 : List UInt8 := dkwX1_fill_2 ++ dktX1_fill_3
def dkwX1_fill_1 : List UInt8 := [16, 21, 162, 0, 70, 21, 8, 21, 6, 4, 96, 29, 16, 7, 126, 96, 162, 0, 56, 21, 7, 54, 9]
abbrev dktX1_fill_1 : List UInt8 := dkwX1_fill_1 ++ dktX1_fill_2
def dkwX1_fill_0 : List UInt8 := [27, 18, 18, 126, 16, 21, 112, 54, 6, 28, 18, 18, 126, 16, 21, 112, 54, 7, 21, 6, 54, 8, 21, 8]
abbrev dktX1_fill_0 : List UInt8 := dkwX1_fill_0 ++ dktX1_fill_1
theorem dksX1_fill_0 : cX1_fill.data.toList.drop 0 = dktX1_fill_0 := by decide +kernel
theorem dksX1_fill_1 : cX1_fill.data.toList.drop 24 = dktX1_fill_1 := dk_seg dksX1_fill_0 24 rfl rfl
theorem dksX1_fill_2 : cX1_fill.data.toList.drop 47 = dktX1_fill_2 := dk_seg dksX1_fill_1 23 rfl rfl
theorem dksX1_fill_3 : cX1_fill.data.toList.drop 70 = dktX1_fill_3 := dk_seg dksX1_fill_2 23 rfl rfl
theorem dksX1_fill_4 : cX1_fill.data.toList.drop 93 = dktX1_fill_4 := dk_seg dksX1_fill_3 23 rfl rfl
theorem dX1_fill_0 : decode cX1_fill 0 = .ok (.iload_n 1, 1) := dk_27 (dk_at dksX1_fill_0 0 rfl rfl)
theorem dX1_fill_1 : decode cX1_fill 1 = .ok (.ldc 18, 2) := dk_18 18 (dk_at dksX1_fill_0 1 rfl rfl)
theorem dX1_fill_3 : decode cX1_fill 3 = .ok (.iand, 1) := dk_126 (dk_at dksX1_fill_0 3 rfl rfl)
theorem dX1_fill_4 : decode cX1_fill 4 = .ok (.bipush 21, 2) := dk_16 21 (dk_at dksX1_fill_0 4 rfl rfl)
theorem dX1_fill_6 : decode cX1_fill 6 = .ok (.irem, 1) := dk_112 (dk_at dksX1_fill_0 6 rfl rfl)
theorem dX1_fill_7 : decode cX1_fill 7 = .ok (.istore 6, 2) := dk_54 6 (dk_at dksX1_fill_0 7 rfl rfl)
theorem dX1_fill_9 : decode cX1_fill 9 = .ok (.iload_n 2, 1) := dk_28 (dk_at dksX1_fill_0 9 rfl rfl)
theorem dX1_fill_10 : decode cX1_fill 10 = .ok (.ldc 18, 2) := dk_18 18 (dk_at dksX1_fill_0 10 rfl rfl)
theorem dX1_fill_12 : decode cX1_fill 12 = .ok (.iand, 1) := dk_126 (dk_at dksX1_fill_0 12 rfl rfl)
theorem dX1_fill_13 : decode cX1_fill 13 = .ok (.bipush 21, 2) := dk_16 21 (dk_at dksX1_fill_0 13 rfl rfl)
theorem dX1_fill_15 : decode cX1_fill 15 = .ok (.irem, 1) := dk_112 (dk_at dksX1_fill_0 15 rfl rfl)
theorem dX1_fill_16 : decode cX1_fill 16 = .ok (.istore 7, 2) := dk_54 7 (dk_at dksX1_fill_0 16 rfl rfl)
theorem dX1_fill_18 : decode cX1_fill 18 = .ok (.iload 6, 2) := dk_21 6 (dk_at dksX1_fill_0 18 rfl rfl)
theorem dX1_fill_20 : decode cX1_fill 20 = .ok (.istore 8, 2) := dk_54 8 (dk_at dksX1_fill_0 20 rfl rfl)
theorem dX1_fill_22 : decode cX1_fill 22 = .ok (.iload 8, 2) := dk_21 8 (dk_at dksX1_fill_0 22 rfl rfl)
theorem dX1_fill_24 : decode cX1_fill 24 = .ok (.bipush 21, 2) := dk_16 21 (dk_at dksX1_fill_1 0 rfl rfl)
theorem dX1_fill_26 : decode cX1_fill 26 = .ok (.if_icmp .ge 70, 3) := dk_162 0 70 (dk_at dksX1_fill_1 2 rfl rfl)
theorem dX1_fill_29 : decode cX1_fill 29 = .ok (.iload 8, 2) := dk_21 8 (dk_at dksX1_fill_1 5 rfl rfl)
theorem dX1_fill_31 : decode cX1_fill 31 = .ok (.iload 6, 2) := dk_21 6 (dk_at dksX1_fill_1 7 rfl rfl)
theorem dX1_fill_33 : decode cX1_fill 33 = .ok (.iconst 1, 1) := dk_4 (dk_at dksX1_fill_1 9 rfl rfl)
theorem dX1_fill_34 : decode cX1_fill 34 = .ok (.iadd, 1) := dk_96 (dk_at dksX1_fill_1 10 rfl rfl)
theorem dX1_fill_35 : decode cX1_fill 35 = .ok (.iload_n 3, 1) := dk_29 (dk_at dksX1_fill_1 11 rfl rfl)
theorem dX1_fill_36 : decode cX1_fill 36 = .ok (.bipush 7, 2) := dk_16 7 (dk_at dksX1_fill_1 12 rfl rfl)
theorem dX1_fill_38 : decode cX1_fill 38 = .ok (.iand, 1) := dk_126 (dk_at dksX1_fill_1 14 rfl rfl)
theorem dX1_fill_39 : decode cX1_fill 39 = .ok (.iadd, 1) := dk_96 (dk_at dksX1_fill_1 15 rfl rfl)
theorem dX1_fill_40 : decode cX1_fill 40 = .ok (.if_icmp .ge 56, 3) := dk_162 0 56 (dk_at dksX1_fill_1 16 rfl rfl)
theorem dX1_fill_43 : decode cX1_fill 43 = .ok (.iload 7, 2) := dk_21 7 (dk_at dksX1_fill_1 19 rfl rfl)
theorem dX1_fill_45 : decode cX1_fill 45 = .ok (.istore 9, 2) := dk_54 9 (dk_at dksX1_fill_1 21 rfl rfl)
theorem dX1_fill_47 : decode cX1_fill 47 = .ok (.iload 9, 2) := dk_21 9 (dk_at dksX1_fill_2 0 rfl rfl)
theorem dX1_fill_49 : decode cX1_fill 49 = .ok (.bipush 21, 2) := dk_16 21 (dk_at dksX1_fill_2 2 rfl rfl)
theorem dX1_fill_51 : decode cX1_fill 51 = .ok (.if_icmp .ge 39, 3) := dk_162 0 39 (dk_at dksX1_fill_2 4 rfl rfl)
theorem dX1_fill_54 : decode cX1_fill 54 = .ok (.iload 9, 2) := dk_21 9 (dk_at dksX1_fill_2 7 rfl rfl)
theorem dX1_fill_56 : decode cX1_fill 56 = .ok (.iload 7, 2) := dk_21 7 (dk_at dksX1_fill_2 9 rfl rfl)
theorem dX1_fill_58 : decode cX1_fill 58 = .ok (.iconst 1, 1) := dk_4 (dk_at dksX1_fill_2 11 rfl rfl)
theorem dX1_fill_59 : decode cX1_fill 59 = .ok (.iadd, 1) := dk_96 (dk_at dksX1_fill_2 12 rfl rfl)
theorem dX1_fill_60 : decode cX1_fill 60 = .ok (.iload 4, 2) := dk_21 4 (dk_at dksX1_fill_2 13 rfl rfl)
theorem dX1_fill_62 : decode cX1_fill 62 = .ok (.bipush 7, 2) := dk_16 7 (dk_at dksX1_fill_2 15 rfl rfl)
theorem dX1_fill_64 : decode cX1_fill 64 = .ok (.iand, 1) := dk_126 (dk_at dksX1_fill_2 17 rfl rfl)
theorem dX1_fill_65 : decode cX1_fill 65 = .ok (.iadd, 1) := dk_96 (dk_at dksX1_fill_2 18 rfl rfl)
theorem dX1_fill_66 : decode cX1_fill 66 = .ok (.if_icmp .ge 24, 3) := dk_162 0 24 (dk_at dksX1_fill_2 19 rfl rfl)
theorem dX1_fill_69 : decode cX1_fill 69 = .ok (.aload_n 0, 1) := dk_42 (dk_at dksX1_fill_2 22 rfl rfl)
theorem dX1_fill_70 : decode cX1_fill 70 = .ok (.getfield 12, 3) := dk_180 0 12 (dk_at dksX1_fill_3 0 rfl rfl)
theorem dX1_fill_73 : decode cX1_fill 73 = .ok (.iload 8, 2) := dk_21 8 (dk_at dksX1_fill_3 3 rfl rfl)
theorem dX1_fill_75 : decode cX1_fill 75 = .ok (.iload 9, 2) := dk_21 9 (dk_at dksX1_fill_3 5 rfl rfl)
theorem dX1_fill_77 : decode cX1_fill 77 = .ok (.iload 5, 2) := dk_21 5 (dk_at dksX1_fill_3 7 rfl rfl)
theorem dX1_fill_79 : decode cX1_fill 79 = .ok (.iconst 1, 1) := dk_4 (dk_at dksX1_fill_3 9 rfl rfl)
theorem dX1_fill_80 : decode cX1_fill 80 = .ok (.iand, 1) := dk_126 (dk_at dksX1_fill_3 10 rfl rfl)
theorem dX1_fill_81 : decode cX1_fill 81 = .ok (.invokevirtual 19, 3) := dk_182 0 19 (dk_at dksX1_fill_3 11 rfl rfl)
theorem dX1_fill_84 : decode cX1_fill 84 = .ok (.iinc 9 1, 3) := dk_132 9 1 (dk_at dksX1_fill_3 14 rfl rfl)
theorem dX1_fill_87 : decode cX1_fill 87 = .ok (.goto (-40), 3) := dk_167 255 216 (dk_at dksX1_fill_3 17 rfl rfl)
theorem dX1_fill_90 : decode cX1_fill 90 = .ok (.iinc 8 1, 3) := dk_132 8 1 (dk_at dksX1_fill_3 20 rfl rfl)
theorem dX1_fill_93 : decode cX1_fill 93 = .ok (.goto (-71), 3) := dk_167 255 185 (dk_at dksX1_fill_4 0 rfl rfl)
theorem dX1_fill_96 : decode cX1_fill 96 = .ok (.return_, 1) := dk_177 (dk_at dksX1_fill_4 3 rfl rfl)
abbrev cX1_mask : ByteArray := prog_3_method_9_code
def yX1_mask : MethodName := ⟨RX1, "mask", "(III)Z"⟩
def dkwX1_mask_0 : List UInt8 := [27, 16, 7, 126, 28, 17, 0, 255, 126, 29, 17, 0, 255, 126, 184, 0, 42, 172]
abbrev dktX1_mask_0 : List UInt8 := dkwX1_mask_0 ++ []
theorem dksX1_mask_0 : cX1_mask.data.toList.drop 0 = dktX1_mask_0 := by decide +kernel
theorem dX1_mask_0 : decode cX1_mask 0 = .ok (.iload_n 1, 1) := dk_27 (dk_at dksX1_mask_0 0 rfl rfl)
theorem dX1_mask_1 : decode cX1_mask 1 = .ok (.bipush 7, 2) := dk_16 7 (dk_at dksX1_mask_0 1 rfl rfl)
theorem dX1_mask_3 : decode cX1_mask 3 = .ok (.iand, 1) := dk_126 (dk_at dksX1_mask_0 3 rfl rfl)
theorem dX1_mask_4 : decode cX1_mask 4 = .ok (.iload_n 2, 1) := dk_28 (dk_at dksX1_mask_0 4 rfl rfl)
theorem dX1_mask_5 : decode cX1_mask 5 = .ok (.sipush 255, 3) := dk_17 0 255 (dk_at dksX1_mask_0 5 rfl rfl)
theorem dX1_mask_8 : decode cX1_mask 8 = .ok (.iand, 1) := dk_126 (dk_at dksX1_mask_0 8 rfl rfl)
theorem dX1_mask_9 : decode cX1_mask 9 = .ok (.iload_n 3, 1) := dk_29 (dk_at dksX1_mask_0 9 rfl rfl)
theorem dX1_mask_10 : decode cX1_mask 10 = .ok (.sipush 255, 3) := dk_17 0 255 (dk_at dksX1_mask_0 10 rfl rfl)
theorem dX1_mask_13 : decode cX1_mask 13 = .ok (.iand, 1) := dk_126 (dk_at dksX1_mask_0 13 rfl rfl)
theorem dX1_mask_14 : decode cX1_mask 14 = .ok (.invokestatic 42, 3) := dk_184 0 42 (dk_at dksX1_mask_0 14 rfl rfl)
theorem dX1_mask_17 : decode cX1_mask 17 = .ok (.ireturn, 1) := dk_172 (dk_at dksX1_mask_0 17 rfl rfl)
abbrev cX1_masked : ByteArray := prog_3_method_10_code
def yX1_masked : MethodName := ⟨RX1, "masked", "(I)V"⟩
def dkwX1_masked_2 : List UInt8 := [182, 0, 19, 132, 3, 1, 167, 255, 215, 132, 2, 1, 167, 255, 201, 177]
abbrev dktX1_masked_2 : List UInt8 := dkwX1_masked_2 ++ []
def dkwX1_masked_1 : List UInt8 := [184, 0, 42, 153, 0, 23, 42, 180, 0, 12, 28, 29, 4, 42, 180, 0, 12, 28, 29, 182, 0, 23, 100]
abbrev dktX1_masked_1 : List UInt8 := dkwX1_masked_1 ++ dktX1_masked_2
def dkwX1_masked_0 : List UInt8 := [3, 61, 28, 16, 21, 162, 0, 55, 3, 62, 29, 16, 21, 162, 0, 41, 27, 16, 7, 126, 28, 29]
abbrev dktX1_masked_0 : List UInt8 := dkwX1_masked_0 ++ dktX1_masked_1
theorem dksX1_masked_0 : cX1_masked.data.toList.drop 0 = dktX1_masked_0 := by decide +kernel
theorem dksX1_masked_1 : cX1_masked.data.toList.drop 22 = dktX1_masked_1 := dk_seg dksX1_masked_0 22 rfl rfl
theorem dksX1_masked_2 : cX1_masked.data.toList.drop 45 = dktX1_masked_2 := dk_seg dksX1_masked_1 23 rfl rfl
theorem dX1_masked_0 : decode cX1_masked 0 = .ok (.iconst 0, 1) := dk_3 (dk_at dksX1_masked_0 0 rfl rfl)
theorem dX1_masked_1 : decode cX1_masked 1 = .ok (.istore_n 2, 1) := dk_61 (dk_at dksX1_masked_0 1 rfl rfl)
theorem dX1_masked_2 : decode cX1_masked 2 = .ok (.iload_n 2, 1) := dk_28 (dk_at dksX1_masked_0 2 rfl rfl)
theorem dX1_masked_3 : decode cX1_masked 3 = .ok (.bipush 21, 2) := dk_16 21 (dk_at dksX1_masked_0 3 rfl rfl)
theorem dX1_masked_5 : decode cX1_masked 5 = .ok (.if_icmp .ge 55, 3) := dk_162 0 55 (dk_at dksX1_masked_0 5 rfl rfl)
theorem dX1_masked_8 : decode cX1_masked 8 = .ok (.iconst 0, 1) := dk_3 (dk_at dksX1_masked_0 8 rfl rfl)
theorem dX1_masked_9 : decode cX1_masked 9 = .ok (.istore_n 3, 1) := dk_62 (dk_at dksX1_masked_0 9 rfl rfl)
theorem dX1_masked_10 : decode cX1_masked 10 = .ok (.iload_n 3, 1) := dk_29 (dk_at dksX1_masked_0 10 rfl rfl)
theorem dX1_masked_11 : decode cX1_masked 11 = .ok (.bipush 21, 2) := dk_16 21 (dk_at dksX1_masked_0 11 rfl rfl)
theorem dX1_masked_13 : decode cX1_masked 13 = .ok (.if_icmp .ge 41, 3) := dk_162 0 41 (dk_at dksX1_masked_0 13 rfl rfl)
theorem dX1_masked_16 : decode cX1_masked 16 = .ok (.iload_n 1, 1) := dk_27 (dk_at dksX1_masked_0 16 rfl rfl)
theorem dX1_masked_17 : decode cX1_masked 17 = .ok (.bipush 7, 2) := dk_16 7 (dk_at dksX1_masked_0 17 rfl rfl)
theorem dX1_masked_19 : decode cX1_masked 19 = .ok (.iand, 1) := dk_126 (dk_at dksX1_masked_0 19 rfl rfl)
theorem dX1_masked_20 : decode cX1_masked 20 = .ok (.iload_n 2, 1) := dk_28 (dk_at dksX1_masked_0 20 rfl rfl)
theorem dX1_masked_21 : decode cX1_masked 21 = .ok (.iload_n 3, 1) := dk_29 (dk_at dksX1_masked_0 21 rfl rfl)
theorem dX1_masked_22 : decode cX1_masked 22 = .ok (.invokestatic 42, 3) := dk_184 0 42 (dk_at dksX1_masked_1 0 rfl rfl)
theorem dX1_masked_25 : decode cX1_masked 25 = .ok (.ifCond .eq 23, 3) := dk_153 0 23 (dk_at dksX1_masked_1 3 rfl rfl)
theorem dX1_masked_28 : decode cX1_masked 28 = .ok (.aload_n 0, 1) := dk_42 (dk_at dksX1_masked_1 6 rfl rfl)
theorem dX1_masked_29 : decode cX1_masked 29 = .ok (.getfield 12, 3) := dk_180 0 12 (dk_at dksX1_masked_1 7 rfl rfl)
theorem dX1_masked_32 : decode cX1_masked 32 = .ok (.iload_n 2, 1) := dk_28 (dk_at dksX1_masked_1 10 rfl rfl)
theorem dX1_masked_33 : decode cX1_masked 33 = .ok (.iload_n 3, 1) := dk_29 (dk_at dksX1_masked_1 11 rfl rfl)
theorem dX1_masked_34 : decode cX1_masked 34 = .ok (.iconst 1, 1) := dk_4 (dk_at dksX1_masked_1 12 rfl rfl)
theorem dX1_masked_35 : decode cX1_masked 35 = .ok (.aload_n 0, 1) := dk_42 (dk_at dksX1_masked_1 13 rfl rfl)
theorem dX1_masked_36 : decode cX1_masked 36 = .ok (.getfield 12, 3) := dk_180 0 12 (dk_at dksX1_masked_1 14 rfl rfl)
theorem dX1_masked_39 : decode cX1_masked 39 = .ok (.iload_n 2, 1) := dk_28 (dk_at dksX1_masked_1 17 rfl rfl)
theorem dX1_masked_40 : decode cX1_masked 40 = .ok (.iload_n 3, 1) := dk_29 (dk_at dksX1_masked_1 18 rfl rfl)
theorem dX1_masked_41 : decode cX1_masked 41 = .ok (.invokevirtual 23, 3) := dk_182 0 23 (dk_at dksX1_masked_1 19 rfl rfl)
theorem dX1_masked_44 : decode cX1_masked 44 = .ok (.isub, 1) := dk_100 (dk_at dksX1_masked_1 22 rfl rfl)
theorem dX1_masked_45 : decode cX1_masked 45 = .ok (.invokevirtual 19, 3) := dk_182 0 19 (dk_at dksX1_masked_2 0 rfl rfl)
theorem dX1_masked_48 : decode cX1_masked 48 = .ok (.iinc 3 1, 3) := dk_132 3 1 (dk_at dksX1_masked_2 3 rfl rfl)
theorem dX1_masked_51 : decode cX1_masked 51 = .ok (.goto (-41), 3) := dk_167 255 215 (dk_at dksX1_masked_2 6 rfl rfl)
theorem dX1_masked_54 : decode cX1_masked 54 = .ok (.iinc 2 1, 3) := dk_132 2 1 (dk_at dksX1_masked_2 9 rfl rfl)
theorem dX1_masked_57 : decode cX1_masked 57 = .ok (.goto (-55), 3) := dk_167 255 201 (dk_at dksX1_masked_2 12 rfl rfl)
theorem dX1_masked_60 : decode cX1_masked 60 = .ok (.return_, 1) := dk_177 (dk_at dksX1_masked_2 15 rfl rfl)
abbrev cX1_get : ByteArray := prog_3_method_4_code
def yX1_get : MethodName := ⟨RX1, "get", "(II)I"⟩
def dkwX1_get_0 : List UInt8 := [42, 180, 0, 12, 27, 18, 18, 126, 16, 21, 112, 28, 18, 18, 126, 16, 21, 112, 182, 0, 23, 172]
abbrev dktX1_get_0 : List UInt8 := dkwX1_get_0 ++ []
theorem dksX1_get_0 : cX1_get.data.toList.drop 0 = dktX1_get_0 := by decide +kernel
theorem dX1_get_0 : decode cX1_get 0 = .ok (.aload_n 0, 1) := dk_42 (dk_at dksX1_get_0 0 rfl rfl)
theorem dX1_get_1 : decode cX1_get 1 = .ok (.getfield 12, 3) := dk_180 0 12 (dk_at dksX1_get_0 1 rfl rfl)
theorem dX1_get_4 : decode cX1_get 4 = .ok (.iload_n 1, 1) := dk_27 (dk_at dksX1_get_0 4 rfl rfl)
theorem dX1_get_5 : decode cX1_get 5 = .ok (.ldc 18, 2) := dk_18 18 (dk_at dksX1_get_0 5 rfl rfl)
theorem dX1_get_7 : decode cX1_get 7 = .ok (.iand, 1) := dk_126 (dk_at dksX1_get_0 7 rfl rfl)
theorem dX1_get_8 : decode cX1_get 8 = .ok (.bipush 21, 2) := dk_16 21 (dk_at dksX1_get_0 8 rfl rfl)
theorem dX1_get_10 : decode cX1_get 10 = .ok (.irem, 1) := dk_112 (dk_at dksX1_get_0 10 rfl rfl)
theorem dX1_get_11 : decode cX1_get 11 = .ok (.iload_n 2, 1) := dk_28 (dk_at dksX1_get_0 11 rfl rfl)
theorem dX1_get_12 : decode cX1_get 12 = .ok (.ldc 18, 2) := dk_18 18 (dk_at dksX1_get_0 12 rfl rfl)
theorem dX1_get_14 : decode cX1_get 14 = .ok (.iand, 1) := dk_126 (dk_at dksX1_get_0 14 rfl rfl)
theorem dX1_get_15 : decode cX1_get 15 = .ok (.bipush 21, 2) := dk_16 21 (dk_at dksX1_get_0 15 rfl rfl)
theorem dX1_get_17 : decode cX1_get 17 = .ok (.irem, 1) := dk_112 (dk_at dksX1_get_0 17 rfl rfl)
theorem dX1_get_18 : decode cX1_get 18 = .ok (.invokevirtual 23, 3) := dk_182 0 23 (dk_at dksX1_get_0 18 rfl rfl)
theorem dX1_get_21 : decode cX1_get 21 = .ok (.ireturn, 1) := dk_172 (dk_at dksX1_get_0 21 rfl rfl)
abbrev cX1_finders : ByteArray := prog_3_method_7_code
def yX1_finders : MethodName := ⟨RX1, "finders", "()I"⟩
def dkwX1_finders_0 : List UInt8 := [42, 180, 0, 12, 184, 0, 36, 172]
abbrev dktX1_finders_0 : List UInt8 := dkwX1_finders_0 ++ []
theorem dksX1_finders_0 : cX1_finders.data.toList.drop 0 = dktX1_finders_0 := by decide +kernel
theorem dX1_finders_0 : decode cX1_finders 0 = .ok (.aload_n 0, 1) := dk_42 (dk_at dksX1_finders_0 0 rfl rfl)
theorem dX1_finders_1 : decode cX1_finders 1 = .ok (.getfield 12, 3) := dk_180 0 12 (dk_at dksX1_finders_0 1 rfl rfl)
theorem dX1_finders_4 : decode cX1_finders 4 = .ok (.invokestatic 36, 3) := dk_184 0 36 (dk_at dksX1_finders_0 4 rfl rfl)
theorem dX1_finders_7 : decode cX1_finders 7 = .ok (.ireturn, 1) := dk_172 (dk_at dksX1_finders_0 7 rfl rfl)
abbrev cX1_runs : ByteArray := prog_3_method_5_code
def yX1_runs : MethodName := ⟨RX1, "runs", "()I"⟩
def dkwX1_runs_0 : List UInt8 := [42, 180, 0, 12, 184, 0, 27, 172]
abbrev dktX1_runs_0 : List UInt8 := dkwX1_runs_0 ++ []
theorem dksX1_runs_0 : cX1_runs.data.toList.drop 0 = dktX1_runs_0 := by decide +kernel
theorem dX1_runs_0 : decode cX1_runs 0 = .ok (.aload_n 0, 1) := dk_42 (dk_at dksX1_runs_0 0 rfl rfl)
theorem dX1_runs_1 : decode cX1_runs 1 = .ok (.getfield 12, 3) := dk_180 0 12 (dk_at dksX1_runs_0 1 rfl rfl)
theorem dX1_runs_4 : decode cX1_runs 4 = .ok (.invokestatic 27, 3) := dk_184 0 27 (dk_at dksX1_runs_0 4 rfl rfl)
theorem dX1_runs_7 : decode cX1_runs 7 = .ok (.ireturn, 1) := dk_172 (dk_at dksX1_runs_0 7 rfl rfl)
abbrev cX1_squares : ByteArray := prog_3_method_6_code
def yX1_squares : MethodName := ⟨RX1, "squares", "()I"⟩
def dkwX1_squares_0 : List UInt8 := [42, 180, 0, 12, 184, 0, 33, 172]
abbrev dktX1_squares_0 : List UInt8 := dkwX1_squares_0 ++ []
theorem dksX1_squares_0 : cX1_squares.data.toList.drop 0 = dktX1_squares_0 := by decide +kernel
theorem dX1_squares_0 : decode cX1_squares 0 = .ok (.aload_n 0, 1) := dk_42 (dk_at dksX1_squares_0 0 rfl rfl)
theorem dX1_squares_1 : decode cX1_squares 1 = .ok (.getfield 12, 3) := dk_180 0 12 (dk_at dksX1_squares_0 1 rfl rfl)
theorem dX1_squares_4 : decode cX1_squares 4 = .ok (.invokestatic 33, 3) := dk_184 0 33 (dk_at dksX1_squares_0 4 rfl rfl)
theorem dX1_squares_7 : decode cX1_squares 7 = .ok (.ireturn, 1) := dk_172 (dk_at dksX1_squares_0 7 rfl rfl)
abbrev cX1_share : ByteArray := prog_3_method_8_code
def yX1_share : MethodName := ⟨RX1, "share", "()I"⟩
def dkwX1_share_0 : List UInt8 := [42, 180, 0, 12, 184, 0, 39, 172]
abbrev dktX1_share_0 : List UInt8 := dkwX1_share_0 ++ []
theorem dksX1_share_0 : cX1_share.data.toList.drop 0 = dktX1_share_0 := by decide +kernel
theorem dX1_share_0 : decode cX1_share 0 = .ok (.aload_n 0, 1) := dk_42 (dk_at dksX1_share_0 0 rfl rfl)
theorem dX1_share_1 : decode cX1_share 1 = .ok (.getfield 12, 3) := dk_180 0 12 (dk_at dksX1_share_0 1 rfl rfl)
theorem dX1_share_4 : decode cX1_share 4 = .ok (.invokestatic 39, 3) := dk_184 0 39 (dk_at dksX1_share_0 4 rfl rfl)
theorem dX1_share_7 : decode cX1_share 7 = .ok (.ireturn, 1) := dk_172 (dk_at dksX1_share_0 7 rfl rfl)
theorem q2 : (Jvm.Cond.initialized "PenaltyDesk") ∈ lw_all := lw_g (lw_at lw_m0 1 rfl) rfl
theorem q11 : (Jvm.Cond.instantiable "PenaltyDesk" (1 : Nat)) ∈ lw_all := lw_g (lw_at lw_m0 10 rfl) rfl
theorem q13 : (Jvm.Cond.instanceMethod ({ cls := "PenaltyDesk", name := "<init>", desc := "()V" } : Jvm.MethodName)) ∈ lw_all := lw_g (lw_at lw_m0 12 rfl) rfl
theorem q14 : (Jvm.Cond.code ({ cls := "PenaltyDesk", name := "<init>", desc := "()V" } : Jvm.MethodName) prog_3_method_1_code (1 : Nat) (Option.none : Option Jvm.ClassFile.FieldType)) ∈ lw_all := lw_g (lw_at lw_m0 13 rfl) rfl
theorem q15 : (Jvm.Cond.methodLink "PenaltyDesk" (1 : Nat) ({ cls := "java/lang/Object", name := "<init>", desc := "()V" } : Jvm.MethodName)) ∈ lw_all := lw_g (lw_at lw_m0 14 rfl) rfl
theorem q18 : (Jvm.Cond.classLink "PenaltyDesk" (7 : Nat) "ByteMatrix") ∈ lw_all := lw_g (lw_at lw_m0 17 rfl) rfl
theorem q20 : (Jvm.Cond.methodLink "PenaltyDesk" (9 : Nat) ({ cls := "ByteMatrix", name := "<init>", desc := "(II)V" } : Jvm.MethodName)) ∈ lw_all := lw_g (lw_at lw_m0 19 rfl) rfl
theorem q37 : (Jvm.Cond.fieldLink "PenaltyDesk" (12 : Nat) "PenaltyDesk" "sheet" "LByteMatrix;") ∈ lw_all := lw_g (lw_at lw_m0 36 rfl) rfl
theorem q38 : (Jvm.Cond.laysFinal "PenaltyDesk" "PenaltyDesk" "sheet" "LByteMatrix;") ∈ lw_all := lw_g (lw_at lw_m0 37 rfl) rfl
theorem q39 : (Jvm.Cond.soleField "PenaltyDesk" "sheet") ∈ lw_all := lw_g (lw_at lw_m0 38 rfl) rfl
theorem q40 : (Jvm.Cond.superclass "PenaltyDesk" "java/lang/Object") ∈ lw_all := lw_g (lw_at lw_m0 39 rfl) rfl
theorem q42 : (Jvm.Cond.instanceMethod ({ cls := "PenaltyDesk", name := "set", desc := "(III)V" } : Jvm.MethodName)) ∈ lw_all := lw_g (lw_at lw_m0 41 rfl) rfl
theorem q43 : (Jvm.Cond.selects "PenaltyDesk" ({ cls := "PenaltyDesk", name := "set", desc := "(III)V" } : Jvm.MethodName) ({ cls := "PenaltyDesk", name := "set", desc := "(III)V" } : Jvm.MethodName)) ∈ lw_all := lw_g (lw_at lw_m0 42 rfl) rfl
theorem q44 : (Jvm.Cond.code ({ cls := "PenaltyDesk", name := "set", desc := "(III)V" } : Jvm.MethodName) prog_3_method_2_code (4 : Nat) (Option.none : Option Jvm.ClassFile.FieldType)) ∈ lw_all := lw_g (lw_at lw_m0 43 rfl) rfl
theorem q45 : (Jvm.Cond.constant "PenaltyDesk" (18 : Nat) (2147483647 : Int32)) ∈ lw_all := lw_g (lw_at lw_m0 44 rfl) rfl
theorem q46 : (Jvm.Cond.methodLink "PenaltyDesk" (19 : Nat) ({ cls := "ByteMatrix", name := "set", desc := "(III)V" } : Jvm.MethodName)) ∈ lw_all := lw_g (lw_at lw_m0 45 rfl) rfl
theorem q51 : (Jvm.Cond.instanceMethod ({ cls := "PenaltyDesk", name := "fill", desc := "(IIIII)V" } : Jvm.MethodName)) ∈ lw_all := lw_g (lw_at lw_m0 50 rfl) rfl
theorem q52 : (Jvm.Cond.selects "PenaltyDesk" ({ cls := "PenaltyDesk", name := "fill", desc := "(IIIII)V" } : Jvm.MethodName) ({ cls := "PenaltyDesk", name := "fill", desc := "(IIIII)V" } : Jvm.MethodName)) ∈ lw_all := lw_g (lw_at lw_m0 51 rfl) rfl
theorem q53 : (Jvm.Cond.code ({ cls := "PenaltyDesk", name := "fill", desc := "(IIIII)V" } : Jvm.MethodName) prog_3_method_3_code (10 : Nat) (Option.none : Option Jvm.ClassFile.FieldType)) ∈ lw_all := lw_g (lw_at lw_m0 52 rfl) rfl
theorem q55 : (Jvm.Cond.instanceMethod ({ cls := "PenaltyDesk", name := "mask", desc := "(III)Z" } : Jvm.MethodName)) ∈ lw_all := lw_g (lw_at lw_m0 54 rfl) rfl
theorem q56 : (Jvm.Cond.selects "PenaltyDesk" ({ cls := "PenaltyDesk", name := "mask", desc := "(III)Z" } : Jvm.MethodName) ({ cls := "PenaltyDesk", name := "mask", desc := "(III)Z" } : Jvm.MethodName)) ∈ lw_all := lw_g (lw_at lw_m0 55 rfl) rfl
theorem q57 : (Jvm.Cond.code ({ cls := "PenaltyDesk", name := "mask", desc := "(III)Z" } : Jvm.MethodName) prog_3_method_9_code (4 : Nat) (Option.some Jvm.ClassFile.FieldType.boolean)) ∈ lw_all := lw_g (lw_at lw_m0 56 rfl) rfl
theorem q58 : (Jvm.Cond.methodLink "PenaltyDesk" (42 : Nat) ({ cls := "MaskUtil", name := "getDataMaskBit", desc := "(III)Z" } : Jvm.MethodName)) ∈ lw_all := lw_g (lw_at lw_m0 57 rfl) rfl
theorem q127 : (Jvm.Cond.instanceMethod ({ cls := "PenaltyDesk", name := "masked", desc := "(I)V" } : Jvm.MethodName)) ∈ lw_all := lw_g (lw_at lw_m0 126 rfl) rfl
theorem q128 : (Jvm.Cond.selects "PenaltyDesk" ({ cls := "PenaltyDesk", name := "masked", desc := "(I)V" } : Jvm.MethodName) ({ cls := "PenaltyDesk", name := "masked", desc := "(I)V" } : Jvm.MethodName)) ∈ lw_all := lw_g (lw_at lw_m0 127 rfl) rfl
theorem q129 : (Jvm.Cond.code ({ cls := "PenaltyDesk", name := "masked", desc := "(I)V" } : Jvm.MethodName) prog_3_method_10_code (4 : Nat) (Option.none : Option Jvm.ClassFile.FieldType)) ∈ lw_all := lw_g (lw_at lw_m0 128 rfl) rfl
theorem q130 : (Jvm.Cond.methodLink "PenaltyDesk" (23 : Nat) ({ cls := "ByteMatrix", name := "get", desc := "(II)B" } : Jvm.MethodName)) ∈ lw_all := lw_g (lw_at lw_m0 129 rfl) rfl
theorem q148 : (Jvm.Cond.instanceMethod ({ cls := "PenaltyDesk", name := "get", desc := "(II)I" } : Jvm.MethodName)) ∈ lw_all := lw_g (lw_at lw_m0 147 rfl) rfl
theorem q149 : (Jvm.Cond.selects "PenaltyDesk" ({ cls := "PenaltyDesk", name := "get", desc := "(II)I" } : Jvm.MethodName) ({ cls := "PenaltyDesk", name := "get", desc := "(II)I" } : Jvm.MethodName)) ∈ lw_all := lw_g (lw_at lw_m0 148 rfl) rfl
theorem q150 : (Jvm.Cond.code ({ cls := "PenaltyDesk", name := "get", desc := "(II)I" } : Jvm.MethodName) prog_3_method_4_code (3 : Nat) (Option.some Jvm.ClassFile.FieldType.int)) ∈ lw_all := lw_g (lw_at lw_m0 149 rfl) rfl
theorem q152 : (Jvm.Cond.instanceMethod ({ cls := "PenaltyDesk", name := "finders", desc := "()I" } : Jvm.MethodName)) ∈ lw_all := lw_g (lw_at lw_m0 151 rfl) rfl
theorem q153 : (Jvm.Cond.selects "PenaltyDesk" ({ cls := "PenaltyDesk", name := "finders", desc := "()I" } : Jvm.MethodName) ({ cls := "PenaltyDesk", name := "finders", desc := "()I" } : Jvm.MethodName)) ∈ lw_all := lw_g (lw_at lw_m0 152 rfl) rfl
theorem q154 : (Jvm.Cond.code ({ cls := "PenaltyDesk", name := "finders", desc := "()I" } : Jvm.MethodName) prog_3_method_7_code (1 : Nat) (Option.some Jvm.ClassFile.FieldType.int)) ∈ lw_all := lw_g (lw_at lw_m0 153 rfl) rfl
theorem q155 : (Jvm.Cond.methodLink "PenaltyDesk" (36 : Nat) ({ cls := "MaskUtil", name := "applyMaskPenaltyRule3", desc := "(LByteMatrix;)I" } : Jvm.MethodName)) ∈ lw_all := lw_g (lw_at lw_m0 154 rfl) rfl
theorem q186 : (Jvm.Cond.instanceMethod ({ cls := "PenaltyDesk", name := "runs", desc := "()I" } : Jvm.MethodName)) ∈ lw_all := lw_g (lw_at lw_m0 185 rfl) rfl
theorem q187 : (Jvm.Cond.selects "PenaltyDesk" ({ cls := "PenaltyDesk", name := "runs", desc := "()I" } : Jvm.MethodName) ({ cls := "PenaltyDesk", name := "runs", desc := "()I" } : Jvm.MethodName)) ∈ lw_all := lw_g (lw_at lw_m0 186 rfl) rfl
theorem q188 : (Jvm.Cond.code ({ cls := "PenaltyDesk", name := "runs", desc := "()I" } : Jvm.MethodName) prog_3_method_5_code (1 : Nat) (Option.some Jvm.ClassFile.FieldType.int)) ∈ lw_all := lw_g (lw_at lw_m0 187 rfl) rfl
theorem q189 : (Jvm.Cond.methodLink "PenaltyDesk" (27 : Nat) ({ cls := "MaskUtil", name := "applyMaskPenaltyRule1", desc := "(LByteMatrix;)I" } : Jvm.MethodName)) ∈ lw_all := lw_g (lw_at lw_m0 188 rfl) rfl
theorem q199 : (Jvm.Cond.instanceMethod ({ cls := "PenaltyDesk", name := "squares", desc := "()I" } : Jvm.MethodName)) ∈ lw_all := lw_g (lw_at lw_m0 198 rfl) rfl
theorem q200 : (Jvm.Cond.selects "PenaltyDesk" ({ cls := "PenaltyDesk", name := "squares", desc := "()I" } : Jvm.MethodName) ({ cls := "PenaltyDesk", name := "squares", desc := "()I" } : Jvm.MethodName)) ∈ lw_all := lw_g (lw_at lw_m0 199 rfl) rfl
theorem q201 : (Jvm.Cond.code ({ cls := "PenaltyDesk", name := "squares", desc := "()I" } : Jvm.MethodName) prog_3_method_6_code (1 : Nat) (Option.some Jvm.ClassFile.FieldType.int)) ∈ lw_all := lw_g (lw_at lw_m0 200 rfl) rfl
theorem q202 : (Jvm.Cond.methodLink "PenaltyDesk" (33 : Nat) ({ cls := "MaskUtil", name := "applyMaskPenaltyRule2", desc := "(LByteMatrix;)I" } : Jvm.MethodName)) ∈ lw_all := lw_g (lw_at lw_m0 201 rfl) rfl
theorem q209 : (Jvm.Cond.instanceMethod ({ cls := "PenaltyDesk", name := "share", desc := "()I" } : Jvm.MethodName)) ∈ lw_all := lw_g (lw_at lw_m0 208 rfl) rfl
theorem q210 : (Jvm.Cond.selects "PenaltyDesk" ({ cls := "PenaltyDesk", name := "share", desc := "()I" } : Jvm.MethodName) ({ cls := "PenaltyDesk", name := "share", desc := "()I" } : Jvm.MethodName)) ∈ lw_all := lw_g (lw_at lw_m0 209 rfl) rfl
theorem q211 : (Jvm.Cond.code ({ cls := "PenaltyDesk", name := "share", desc := "()I" } : Jvm.MethodName) prog_3_method_8_code (1 : Nat) (Option.some Jvm.ClassFile.FieldType.int)) ∈ lw_all := lw_g (lw_at lw_m0 210 rfl) rfl
theorem q212 : (Jvm.Cond.methodLink "PenaltyDesk" (39 : Nat) ({ cls := "MaskUtil", name := "applyMaskPenaltyRule4", desc := "(LByteMatrix;)I" } : Jvm.MethodName)) ∈ lw_all := lw_g (lw_at lw_m0 211 rfl) rfl
theorem in_X1 : ∀ w ∈ wsX10, w ∈ lw_all := lw_in wsX10 [38] (by decide +kernel) (by decide +kernel)
theorem q25 : (Jvm.Cond.arrayOver (Jvm.ClassFile.FieldType.array Jvm.ClassFile.FieldType.byte)) ∈ lw_tbl := lw_at lw_m0 24 rfl
set_option maxRecDepth 100000
theorem q36 : (Jvm.Cond.arrayClass Jvm.ClassFile.FieldType.byte) ∈ lw_all := lw_g (lw_at lw_m0 35 rfl) rfl
theorem q221 : (Jvm.Cond.arrayClass Jvm.ClassFile.FieldType.int) ∈ lw_all := lw_g (lw_at lw_m0 220 rfl) rfl
theorem q223 : (Jvm.Cond.arrayOver (Jvm.ClassFile.FieldType.array Jvm.ClassFile.FieldType.int)) ∈ lw_tbl := lw_at lw_m0 222 rfl
end
section
/-! MaskUtil -/
set_option maxRecDepth 100000
def RX3 : String := "MaskUtil"
abbrev cX3_getDataMaskBit : ByteArray := prog_2_method_7_code
def yX3_getDataMaskBit : MethodName := ⟨RX3, "getDataMaskBit", "(III)Z"⟩
def dkwX3_getDataMaskBit_7 : List UInt8 := [167, 0, 4, 3, 172]
abbrev dktX3_getDataMaskBit_7 : List UInt8 := dkwX3_getDataMaskBit_7 ++ []
def dkwX3_getDataMaskBit_6 : List UInt8 := [126, 96, 4, 126, 62, 167, 0, 13, 187, 0, 34, 89, 18, 36, 183, 0, 38, 191, 29, 154, 0, 7, 4]
abbrev dktX3_getDataMaskBit_6 : List UInt8 := dkwX3_getDataMaskBit_6 ++ dktX3_getDataMaskBit_7
def dkwX3_getDataMaskBit_5 : List UInt8 := [21, 4, 6, 112, 96, 4, 126, 62, 167, 0, 34, 28, 27, 104, 54, 4, 21, 4, 6, 112, 28, 27, 96, 4]
abbrev dktX3_getDataMaskBit_5 : List UInt8 := dkwX3_getDataMaskBit_5 ++ dktX3_getDataMaskBit_6
def dkwX3_getDataMaskBit_4 : List UInt8 := [54, 4, 21, 4, 4, 126, 21, 4, 6, 112, 96, 62, 167, 0, 54, 28, 27, 104, 54, 4, 21, 4, 4, 126]
abbrev dktX3_getDataMaskBit_4 : List UInt8 := dkwX3_getDataMaskBit_4 ++ dktX3_getDataMaskBit_5
def dkwX3_getDataMaskBit_3 : List UInt8 := [27, 96, 6, 112, 62, 167, 0, 85, 28, 5, 108, 27, 6, 108, 96, 4, 126, 62, 167, 0, 72, 28, 27, 104]
abbrev dktX3_getDataMaskBit_3 : List UInt8 := dkwX3_getDataMaskBit_3 ++ dktX3_getDataMaskBit_4
def dkwX3_getDataMaskBit_2 : List UInt8 := [28, 27, 96, 4, 126, 62, 167, 0, 108, 28, 4, 126, 62, 167, 0, 101, 27, 6, 112, 62, 167, 0, 94, 28]
abbrev dktX3_getDataMaskBit_2 : List UInt8 := dkwX3_getDataMaskBit_2 ++ dktX3_getDataMaskBit_3
def dkwX3_getDataMaskBit_1 : List UInt8 := [170, 0, 0, 0, 0, 0, 151, 0, 0, 0, 0, 0, 0, 0, 7, 0, 0, 0, 47, 0, 0, 0, 56, 0, 0, 0, 63, 0, 0, 0, 70, 0, 0, 0, 79, 0, 0, 0, 92, 0, 0, 0, 110, 0, 0, 0, 130]
abbrev dktX3_getDataMaskBit_1 : List UInt8 := dkwX3_getDataMaskBit_1 ++ dktX3_getDataMaskBit_2
def dkwX3_getDataMaskBit_0 : List UInt8 := [26]
abbrev dktX3_getDataMaskBit_0 : List UInt8 := dkwX3_getDataMaskBit_0 ++ dktX3_getDataMaskBit_1
theorem dksX3_getDataMaskBit_0 : cX3_getDataMaskBit.data.toList.drop 0 = dktX3_getDataMaskBit_0 := by decide +kernel
theorem dksX3_getDataMaskBit_1 : cX3_getDataMaskBit.data.toList.drop 1 = dktX3_getDataMaskBit_1 := dk_seg dksX3_getDataMaskBit_0 1 rfl rfl
theorem dksX3_getDataMaskBit_2 : cX3_getDataMaskBit.data.toList.drop 48 = dktX3_getDataMaskBit_2 := dk_seg dksX3_getDataMaskBit_1 47 rfl rfl
theorem dksX3_getDataMaskBit_3 : cX3_getDataMaskBit.data.toList.drop 72 = dktX3_getDataMaskBit_3 := dk_seg dksX3_getDataMaskBit_2 24 rfl rfl
theorem dksX3_getDataMaskBit_4 : cX3_getDataMaskBit.data.toList.drop 96 = dktX3_getDataMaskBit_4 := dk_seg dksX3_getDataMaskBit_3 24 rfl rfl
theorem dksX3_getDataMaskBit_5 : cX3_getDataMaskBit.data.toList.drop 120 = dktX3_getDataMaskBit_5 := dk_seg dksX3_getDataMaskBit_4 24 rfl rfl
theorem dksX3_getDataMaskBit_6 : cX3_getDataMaskBit.data.toList.drop 144 = dktX3_getDataMaskBit_6 := dk_seg dksX3_getDataMaskBit_5 24 rfl rfl
theorem dksX3_getDataMaskBit_7 : cX3_getDataMaskBit.data.toList.drop 167 = dktX3_getDataMaskBit_7 := dk_seg dksX3_getDataMaskBit_6 23 rfl rfl
theorem dX3_getDataMaskBit_0 : decode cX3_getDataMaskBit 0 = .ok (.iload_n 0, 1) := dk_26 (dk_at dksX3_getDataMaskBit_0 0 rfl rfl)
theorem dX3_getDataMaskBit_1 : decode cX3_getDataMaskBit 1 = .ok (.tableswitch 151 0 7 #[47, 56, 63, 70, 79, 92, 110, 130], 47) := by decide +kernel
theorem dX3_getDataMaskBit_48 : decode cX3_getDataMaskBit 48 = .ok (.iload_n 2, 1) := dk_28 (dk_at dksX3_getDataMaskBit_2 0 rfl rfl)
theorem dX3_getDataMaskBit_49 : decode cX3_getDataMaskBit 49 = .ok (.iload_n 1, 1) := dk_27 (dk_at dksX3_getDataMaskBit_2 1 rfl rfl)
theorem dX3_getDataMaskBit_50 : decode cX3_getDataMaskBit 50 = .ok (.iadd, 1) := dk_96 (dk_at dksX3_getDataMaskBit_2 2 rfl rfl)
theorem dX3_getDataMaskBit_51 : decode cX3_getDataMaskBit 51 = .ok (.iconst 1, 1) := dk_4 (dk_at dksX3_getDataMaskBit_2 3 rfl rfl)
theorem dX3_getDataMaskBit_52 : decode cX3_getDataMaskBit 52 = .ok (.iand, 1) := dk_126 (dk_at dksX3_getDataMaskBit_2 4 rfl rfl)
theorem dX3_getDataMaskBit_53 : decode cX3_getDataMaskBit 53 = .ok (.istore_n 3, 1) := dk_62 (dk_at dksX3_getDataMaskBit_2 5 rfl rfl)
theorem dX3_getDataMaskBit_54 : decode cX3_getDataMaskBit 54 = .ok (.goto 108, 3) := dk_167 0 108 (dk_at dksX3_getDataMaskBit_2 6 rfl rfl)
theorem dX3_getDataMaskBit_57 : decode cX3_getDataMaskBit 57 = .ok (.iload_n 2, 1) := dk_28 (dk_at dksX3_getDataMaskBit_2 9 rfl rfl)
theorem dX3_getDataMaskBit_58 : decode cX3_getDataMaskBit 58 = .ok (.iconst 1, 1) := dk_4 (dk_at dksX3_getDataMaskBit_2 10 rfl rfl)
theorem dX3_getDataMaskBit_59 : decode cX3_getDataMaskBit 59 = .ok (.iand, 1) := dk_126 (dk_at dksX3_getDataMaskBit_2 11 rfl rfl)
theorem dX3_getDataMaskBit_60 : decode cX3_getDataMaskBit 60 = .ok (.istore_n 3, 1) := dk_62 (dk_at dksX3_getDataMaskBit_2 12 rfl rfl)
theorem dX3_getDataMaskBit_61 : decode cX3_getDataMaskBit 61 = .ok (.goto 101, 3) := dk_167 0 101 (dk_at dksX3_getDataMaskBit_2 13 rfl rfl)
theorem dX3_getDataMaskBit_64 : decode cX3_getDataMaskBit 64 = .ok (.iload_n 1, 1) := dk_27 (dk_at dksX3_getDataMaskBit_2 16 rfl rfl)
theorem dX3_getDataMaskBit_65 : decode cX3_getDataMaskBit 65 = .ok (.iconst 3, 1) := dk_6 (dk_at dksX3_getDataMaskBit_2 17 rfl rfl)
theorem dX3_getDataMaskBit_66 : decode cX3_getDataMaskBit 66 = .ok (.irem, 1) := dk_112 (dk_at dksX3_getDataMaskBit_2 18 rfl rfl)
theorem dX3_getDataMaskBit_67 : decode cX3_getDataMaskBit 67 = .ok (.istore_n 3, 1) := dk_62 (dk_at dksX3_getDataMaskBit_2 19 rfl rfl)
theorem dX3_getDataMaskBit_68 : decode cX3_getDataMaskBit 68 = .ok (.goto 94, 3) := dk_167 0 94 (dk_at dksX3_getDataMaskBit_2 20 rfl rfl)
theorem dX3_getDataMaskBit_71 : decode cX3_getDataMaskBit 71 = .ok (.iload_n 2, 1) := dk_28 (dk_at dksX3_getDataMaskBit_2 23 rfl rfl)
theorem dX3_getDataMaskBit_72 : decode cX3_getDataMaskBit 72 = .ok (.iload_n 1, 1) := dk_27 (dk_at dksX3_getDataMaskBit_3 0 rfl rfl)
theorem dX3_getDataMaskBit_73 : decode cX3_getDataMaskBit 73 = .ok (.iadd, 1) := dk_96 (dk_at dksX3_getDataMaskBit_3 1 rfl rfl)
theorem dX3_getDataMaskBit_74 : decode cX3_getDataMaskBit 74 = .ok (.iconst 3, 1) := dk_6 (dk_at dksX3_getDataMaskBit_3 2 rfl rfl)
theorem dX3_getDataMaskBit_75 : decode cX3_getDataMaskBit 75 = .ok (.irem, 1) := dk_112 (dk_at dksX3_getDataMaskBit_3 3 rfl rfl)
theorem dX3_getDataMaskBit_76 : decode cX3_getDataMaskBit 76 = .ok (.istore_n 3, 1) := dk_62 (dk_at dksX3_getDataMaskBit_3 4 rfl rfl)
theorem dX3_getDataMaskBit_77 : decode cX3_getDataMaskBit 77 = .ok (.goto 85, 3) := dk_167 0 85 (dk_at dksX3_getDataMaskBit_3 5 rfl rfl)
theorem dX3_getDataMaskBit_80 : decode cX3_getDataMaskBit 80 = .ok (.iload_n 2, 1) := dk_28 (dk_at dksX3_getDataMaskBit_3 8 rfl rfl)
theorem dX3_getDataMaskBit_81 : decode cX3_getDataMaskBit 81 = .ok (.iconst 2, 1) := dk_5 (dk_at dksX3_getDataMaskBit_3 9 rfl rfl)
theorem dX3_getDataMaskBit_82 : decode cX3_getDataMaskBit 82 = .ok (.idiv, 1) := dk_108 (dk_at dksX3_getDataMaskBit_3 10 rfl rfl)
theorem dX3_getDataMaskBit_83 : decode cX3_getDataMaskBit 83 = .ok (.iload_n 1, 1) := dk_27 (dk_at dksX3_getDataMaskBit_3 11 rfl rfl)
theorem dX3_getDataMaskBit_84 : decode cX3_getDataMaskBit 84 = .ok (.iconst 3, 1) := dk_6 (dk_at dksX3_getDataMaskBit_3 12 rfl rfl)
theorem dX3_getDataMaskBit_85 : decode cX3_getDataMaskBit 85 = .ok (.idiv, 1) := dk_108 (dk_at dksX3_getDataMaskBit_3 13 rfl rfl)
theorem dX3_getDataMaskBit_86 : decode cX3_getDataMaskBit 86 = .ok (.iadd, 1) := dk_96 (dk_at dksX3_getDataMaskBit_3 14 rfl rfl)
theorem dX3_getDataMaskBit_87 : decode cX3_getDataMaskBit 87 = .ok (.iconst 1, 1) := dk_4 (dk_at dksX3_getDataMaskBit_3 15 rfl rfl)
theorem dX3_getDataMaskBit_88 : decode cX3_getDataMaskBit 88 = .ok (.iand, 1) := dk_126 (dk_at dksX3_getDataMaskBit_3 16 rfl rfl)
theorem dX3_getDataMaskBit_89 : decode cX3_getDataMaskBit 89 = .ok (.istore_n 3, 1) := dk_62 (dk_at dksX3_getDataMaskBit_3 17 rfl rfl)
theorem dX3_getDataMaskBit_90 : decode cX3_getDataMaskBit 90 = .ok (.goto 72, 3) := dk_167 0 72 (dk_at dksX3_getDataMaskBit_3 18 rfl rfl)
theorem dX3_getDataMaskBit_93 : decode cX3_getDataMaskBit 93 = .ok (.iload_n 2, 1) := dk_28 (dk_at dksX3_getDataMaskBit_3 21 rfl rfl)
theorem dX3_getDataMaskBit_94 : decode cX3_getDataMaskBit 94 = .ok (.iload_n 1, 1) := dk_27 (dk_at dksX3_getDataMaskBit_3 22 rfl rfl)
theorem dX3_getDataMaskBit_95 : decode cX3_getDataMaskBit 95 = .ok (.imul, 1) := dk_104 (dk_at dksX3_getDataMaskBit_3 23 rfl rfl)
theorem dX3_getDataMaskBit_96 : decode cX3_getDataMaskBit 96 = .ok (.istore 4, 2) := dk_54 4 (dk_at dksX3_getDataMaskBit_4 0 rfl rfl)
theorem dX3_getDataMaskBit_98 : decode cX3_getDataMaskBit 98 = .ok (.iload 4, 2) := dk_21 4 (dk_at dksX3_getDataMaskBit_4 2 rfl rfl)
theorem dX3_getDataMaskBit_100 : decode cX3_getDataMaskBit 100 = .ok (.iconst 1, 1) := dk_4 (dk_at dksX3_getDataMaskBit_4 4 rfl rfl)
theorem dX3_getDataMaskBit_101 : decode cX3_getDataMaskBit 101 = .ok (.iand, 1) := dk_126 (dk_at dksX3_getDataMaskBit_4 5 rfl rfl)
theorem dX3_getDataMaskBit_102 : decode cX3_getDataMaskBit 102 = .ok (.iload 4, 2) := dk_21 4 (dk_at dksX3_getDataMaskBit_4 6 rfl rfl)
theorem dX3_getDataMaskBit_104 : decode cX3_getDataMaskBit 104 = .ok (.iconst 3, 1) := dk_6 (dk_at dksX3_getDataMaskBit_4 8 rfl rfl)
theorem dX3_getDataMaskBit_105 : decode cX3_getDataMaskBit 105 = .ok (.irem, 1) := dk_112 (dk_at dksX3_getDataMaskBit_4 9 rfl rfl)
theorem dX3_getDataMaskBit_106 : decode cX3_getDataMaskBit 106 = .ok (.iadd, 1) := dk_96 (dk_at dksX3_getDataMaskBit_4 10 rfl rfl)
theorem dX3_getDataMaskBit_107 : decode cX3_getDataMaskBit 107 = .ok (.istore_n 3, 1) := dk_62 (dk_at dksX3_getDataMaskBit_4 11 rfl rfl)
theorem dX3_getDataMaskBit_108 : decode cX3_getDataMaskBit 108 = .ok (.goto 54, 3) := dk_167 0 54 (dk_at dksX3_getDataMaskBit_4 12 rfl rfl)
theorem dX3_getDataMaskBit_111 : decode cX3_getDataMaskBit 111 = .ok (.iload_n 2, 1) := dk_28 (dk_at dksX3_getDataMaskBit_4 15 rfl rfl)
theorem dX3_getDataMaskBit_112 : decode cX3_getDataMaskBit 112 = .ok (.iload_n 1, 1) := dk_27 (dk_at dksX3_getDataMaskBit_4 16 rfl rfl)
theorem dX3_getDataMaskBit_113 : decode cX3_getDataMaskBit 113 = .ok (.imul, 1) := dk_104 (dk_at dksX3_getDataMaskBit_4 17 rfl rfl)
theorem dX3_getDataMaskBit_114 : decode cX3_getDataMaskBit 114 = .ok (.istore 4, 2) := dk_54 4 (dk_at dksX3_getDataMaskBit_4 18 rfl rfl)
theorem dX3_getDataMaskBit_116 : decode cX3_getDataMaskBit 116 = .ok (.iload 4, 2) := dk_21 4 (dk_at dksX3_getDataMaskBit_4 20 rfl rfl)
theorem dX3_getDataMaskBit_118 : decode cX3_getDataMaskBit 118 = .ok (.iconst 1, 1) := dk_4 (dk_at dksX3_getDataMaskBit_4 22 rfl rfl)
theorem dX3_getDataMaskBit_119 : decode cX3_getDataMaskBit 119 = .ok (.iand, 1) := dk_126 (dk_at dksX3_getDataMaskBit_4 23 rfl rfl)
theorem dX3_getDataMaskBit_120 : decode cX3_getDataMaskBit 120 = .ok (.iload 4, 2) := dk_21 4 (dk_at dksX3_getDataMaskBit_5 0 rfl rfl)
theorem dX3_getDataMaskBit_122 : decode cX3_getDataMaskBit 122 = .ok (.iconst 3, 1) := dk_6 (dk_at dksX3_getDataMaskBit_5 2 rfl rfl)
theorem dX3_getDataMaskBit_123 : decode cX3_getDataMaskBit 123 = .ok (.irem, 1) := dk_112 (dk_at dksX3_getDataMaskBit_5 3 rfl rfl)
theorem dX3_getDataMaskBit_124 : decode cX3_getDataMaskBit 124 = .ok (.iadd, 1) := dk_96 (dk_at dksX3_getDataMaskBit_5 4 rfl rfl)
theorem dX3_getDataMaskBit_125 : decode cX3_getDataMaskBit 125 = .ok (.iconst 1, 1) := dk_4 (dk_at dksX3_getDataMaskBit_5 5 rfl rfl)
theorem dX3_getDataMaskBit_126 : decode cX3_getDataMaskBit 126 = .ok (.iand, 1) := dk_126 (dk_at dksX3_getDataMaskBit_5 6 rfl rfl)
theorem dX3_getDataMaskBit_127 : decode cX3_getDataMaskBit 127 = .ok (.istore_n 3, 1) := dk_62 (dk_at dksX3_getDataMaskBit_5 7 rfl rfl)
theorem dX3_getDataMaskBit_128 : decode cX3_getDataMaskBit 128 = .ok (.goto 34, 3) := dk_167 0 34 (dk_at dksX3_getDataMaskBit_5 8 rfl rfl)
theorem dX3_getDataMaskBit_131 : decode cX3_getDataMaskBit 131 = .ok (.iload_n 2, 1) := dk_28 (dk_at dksX3_getDataMaskBit_5 11 rfl rfl)
theorem dX3_getDataMaskBit_132 : decode cX3_getDataMaskBit 132 = .ok (.iload_n 1, 1) := dk_27 (dk_at dksX3_getDataMaskBit_5 12 rfl rfl)
theorem dX3_getDataMaskBit_133 : decode cX3_getDataMaskBit 133 = .ok (.imul, 1) := dk_104 (dk_at dksX3_getDataMaskBit_5 13 rfl rfl)
theorem dX3_getDataMaskBit_134 : decode cX3_getDataMaskBit 134 = .ok (.istore 4, 2) := dk_54 4 (dk_at dksX3_getDataMaskBit_5 14 rfl rfl)
theorem dX3_getDataMaskBit_136 : decode cX3_getDataMaskBit 136 = .ok (.iload 4, 2) := dk_21 4 (dk_at dksX3_getDataMaskBit_5 16 rfl rfl)
theorem dX3_getDataMaskBit_138 : decode cX3_getDataMaskBit 138 = .ok (.iconst 3, 1) := dk_6 (dk_at dksX3_getDataMaskBit_5 18 rfl rfl)
theorem dX3_getDataMaskBit_139 : decode cX3_getDataMaskBit 139 = .ok (.irem, 1) := dk_112 (dk_at dksX3_getDataMaskBit_5 19 rfl rfl)
theorem dX3_getDataMaskBit_140 : decode cX3_getDataMaskBit 140 = .ok (.iload_n 2, 1) := dk_28 (dk_at dksX3_getDataMaskBit_5 20 rfl rfl)
theorem dX3_getDataMaskBit_141 : decode cX3_getDataMaskBit 141 = .ok (.iload_n 1, 1) := dk_27 (dk_at dksX3_getDataMaskBit_5 21 rfl rfl)
theorem dX3_getDataMaskBit_142 : decode cX3_getDataMaskBit 142 = .ok (.iadd, 1) := dk_96 (dk_at dksX3_getDataMaskBit_5 22 rfl rfl)
theorem dX3_getDataMaskBit_143 : decode cX3_getDataMaskBit 143 = .ok (.iconst 1, 1) := dk_4 (dk_at dksX3_getDataMaskBit_5 23 rfl rfl)
theorem dX3_getDataMaskBit_144 : decode cX3_getDataMaskBit 144 = .ok (.iand, 1) := dk_126 (dk_at dksX3_getDataMaskBit_6 0 rfl rfl)
theorem dX3_getDataMaskBit_145 : decode cX3_getDataMaskBit 145 = .ok (.iadd, 1) := dk_96 (dk_at dksX3_getDataMaskBit_6 1 rfl rfl)
theorem dX3_getDataMaskBit_146 : decode cX3_getDataMaskBit 146 = .ok (.iconst 1, 1) := dk_4 (dk_at dksX3_getDataMaskBit_6 2 rfl rfl)
theorem dX3_getDataMaskBit_147 : decode cX3_getDataMaskBit 147 = .ok (.iand, 1) := dk_126 (dk_at dksX3_getDataMaskBit_6 3 rfl rfl)
theorem dX3_getDataMaskBit_148 : decode cX3_getDataMaskBit 148 = .ok (.istore_n 3, 1) := dk_62 (dk_at dksX3_getDataMaskBit_6 4 rfl rfl)
theorem dX3_getDataMaskBit_149 : decode cX3_getDataMaskBit 149 = .ok (.goto 13, 3) := dk_167 0 13 (dk_at dksX3_getDataMaskBit_6 5 rfl rfl)
theorem dX3_getDataMaskBit_152 : decode cX3_getDataMaskBit 152 = .ok (.new 34, 3) := dk_187 0 34 (dk_at dksX3_getDataMaskBit_6 8 rfl rfl)
theorem dX3_getDataMaskBit_155 : decode cX3_getDataMaskBit 155 = .ok (.dup, 1) := dk_89 (dk_at dksX3_getDataMaskBit_6 11 rfl rfl)
theorem dX3_getDataMaskBit_156 : decode cX3_getDataMaskBit 156 = .ok (.ldc 36, 2) := dk_18 36 (dk_at dksX3_getDataMaskBit_6 12 rfl rfl)
theorem dX3_getDataMaskBit_158 : decode cX3_getDataMaskBit 158 = .ok (.invokespecial 38, 3) := dk_183 0 38 (dk_at dksX3_getDataMaskBit_6 14 rfl rfl)
theorem dX3_getDataMaskBit_161 : decode cX3_getDataMaskBit 161 = .ok (.athrow, 1) := dk_191 (dk_at dksX3_getDataMaskBit_6 17 rfl rfl)
theorem dX3_getDataMaskBit_162 : decode cX3_getDataMaskBit 162 = .ok (.iload_n 3, 1) := dk_29 (dk_at dksX3_getDataMaskBit_6 18 rfl rfl)
theorem dX3_getDataMaskBit_163 : decode cX3_getDataMaskBit 163 = .ok (.ifCond .ne 7, 3) := dk_154 0 7 (dk_at dksX3_getDataMaskBit_6 19 rfl rfl)
theorem dX3_getDataMaskBit_166 : decode cX3_getDataMaskBit 166 = .ok (.iconst 1, 1) := dk_4 (dk_at dksX3_getDataMaskBit_6 22 rfl rfl)
theorem dX3_getDataMaskBit_167 : decode cX3_getDataMaskBit 167 = .ok (.goto 4, 3) := dk_167 0 4 (dk_at dksX3_getDataMaskBit_7 0 rfl rfl)
theorem dX3_getDataMaskBit_170 : decode cX3_getDataMaskBit 170 = .ok (.iconst 0, 1) := dk_3 (dk_at dksX3_getDataMaskBit_7 3 rfl rfl)
theorem dX3_getDataMaskBit_171 : decode cX3_getDataMaskBit 171 = .ok (.ireturn, 1) := dk_172 (dk_at dksX3_getDataMaskBit_7 4 rfl rfl)
abbrev cX3_applyMaskPenaltyRule3 : ByteArray := prog_2_method_3_code
def yX3_applyMaskPenaltyRule3 : MethodName := ⟨RX3, "applyMaskPenaltyRule3", "(LByteMatrix;)I"⟩
def dkwX3_applyMaskPenaltyRule3_13 : List UInt8 := [27, 16, 40, 104, 172]
abbrev dktX3_applyMaskPenaltyRule3_13 : List UInt8 := dkwX3_applyMaskPenaltyRule3_13 ++ []
def dkwX3_applyMaskPenaltyRule3_12 : List UInt8 := [16, 11, 96, 184, 0, 24, 153, 0, 6, 132, 1, 1, 132, 6, 1, 167, 254, 244, 132, 5, 1, 167, 254, 228]
abbrev dktX3_applyMaskPenaltyRule3_12 : List UInt8 := dkwX3_applyMaskPenaltyRule3_12 ++ dktX3_applyMaskPenaltyRule3_13
def dkwX3_applyMaskPenaltyRule3_11 : List UInt8 := [21, 6, 21, 5, 7, 100, 21, 5, 184, 0, 24, 154, 0, 22, 44, 21, 6, 21, 5, 16, 7, 96, 21, 5]
abbrev dktX3_applyMaskPenaltyRule3_11 : List UInt8 := dkwX3_applyMaskPenaltyRule3_11 ++ dktX3_applyMaskPenaltyRule3_12
def dkwX3_applyMaskPenaltyRule3_10 : List UInt8 := [96, 50, 21, 6, 51, 154, 0, 54, 44, 21, 5, 16, 6, 96, 50, 21, 6, 51, 4, 160, 0, 40, 44]
abbrev dktX3_applyMaskPenaltyRule3_10 : List UInt8 := dkwX3_applyMaskPenaltyRule3_10 ++ dktX3_applyMaskPenaltyRule3_11
def dkwX3_applyMaskPenaltyRule3_9 : List UInt8 := [21, 6, 51, 4, 160, 0, 79, 44, 21, 5, 7, 96, 50, 21, 6, 51, 4, 160, 0, 66, 44, 21, 5, 8]
abbrev dktX3_applyMaskPenaltyRule3_9 : List UInt8 := dkwX3_applyMaskPenaltyRule3_9 ++ dktX3_applyMaskPenaltyRule3_10
def dkwX3_applyMaskPenaltyRule3_8 : List UInt8 := [51, 154, 0, 105, 44, 21, 5, 5, 96, 50, 21, 6, 51, 4, 160, 0, 92, 44, 21, 5, 6, 96, 50]
abbrev dktX3_applyMaskPenaltyRule3_8 : List UInt8 := dkwX3_applyMaskPenaltyRule3_8 ++ dktX3_applyMaskPenaltyRule3_9
def dkwX3_applyMaskPenaltyRule3_7 : List UInt8 := [21, 4, 162, 0, 128, 44, 21, 5, 50, 21, 6, 51, 4, 160, 0, 117, 44, 21, 5, 4, 96, 50, 21, 6]
abbrev dktX3_applyMaskPenaltyRule3_7 : List UInt8 := dkwX3_applyMaskPenaltyRule3_7 ++ dktX3_applyMaskPenaltyRule3_8
def dkwX3_applyMaskPenaltyRule3_6 : List UInt8 := [21, 6, 16, 7, 96, 21, 6, 16, 11, 96, 184, 0, 20, 153, 0, 6, 132, 1, 1, 21, 5, 16, 6, 96]
abbrev dktX3_applyMaskPenaltyRule3_6 : List UInt8 := dkwX3_applyMaskPenaltyRule3_6 ++ dktX3_applyMaskPenaltyRule3_7
def dkwX3_applyMaskPenaltyRule3_5 : List UInt8 := [16, 6, 96, 51, 4, 160, 0, 38, 25, 7, 21, 6, 7, 100, 21, 6, 184, 0, 20, 154, 0, 21, 25, 7]
abbrev dktX3_applyMaskPenaltyRule3_5 : List UInt8 := dkwX3_applyMaskPenaltyRule3_5 ++ dktX3_applyMaskPenaltyRule3_6
def dkwX3_applyMaskPenaltyRule3_4 : List UInt8 := [21, 6, 7, 96, 51, 4, 160, 0, 60, 25, 7, 21, 6, 8, 96, 51, 154, 0, 50, 25, 7, 21, 6]
abbrev dktX3_applyMaskPenaltyRule3_4 : List UInt8 := dkwX3_applyMaskPenaltyRule3_4 ++ dktX3_applyMaskPenaltyRule3_5
def dkwX3_applyMaskPenaltyRule3_3 : List UInt8 := [25, 7, 21, 6, 5, 96, 51, 4, 160, 0, 82, 25, 7, 21, 6, 6, 96, 51, 4, 160, 0, 71, 25, 7]
abbrev dktX3_applyMaskPenaltyRule3_3 : List UInt8 := dkwX3_applyMaskPenaltyRule3_3 ++ dktX3_applyMaskPenaltyRule3_4
def dkwX3_applyMaskPenaltyRule3_2 : List UInt8 := [96, 29, 162, 0, 112, 25, 7, 21, 6, 51, 4, 160, 0, 103, 25, 7, 21, 6, 4, 96, 51, 154, 0, 93]
abbrev dktX3_applyMaskPenaltyRule3_2 : List UInt8 := dkwX3_applyMaskPenaltyRule3_2 ++ dktX3_applyMaskPenaltyRule3_3
def dkwX3_applyMaskPenaltyRule3_1 : List UInt8 := [21, 4, 162, 1, 27, 3, 54, 6, 21, 6, 29, 162, 1, 12, 44, 21, 5, 50, 58, 7, 21, 6, 16, 6]
abbrev dktX3_applyMaskPenaltyRule3_1 : List UInt8 := dkwX3_applyMaskPenaltyRule3_1 ++ dktX3_applyMaskPenaltyRule3_2
def dkwX3_applyMaskPenaltyRule3_0 : List UInt8 := [3, 60, 42, 182, 0, 7, 77, 42, 182, 0, 13, 62, 42, 182, 0, 17, 54, 4, 3, 54, 5, 21, 5]
abbrev dktX3_applyMaskPenaltyRule3_0 : List UInt8 := dkwX3_applyMaskPenaltyRule3_0 ++ dktX3_applyMaskPenaltyRule3_1
theorem dksX3_applyMaskPenaltyRule3_0 : cX3_applyMaskPenaltyRule3.data.toList.drop 0 = dktX3_applyMaskPenaltyRule3_0 := by decide +kernel
theorem dksX3_applyMaskPenaltyRule3_1 : cX3_applyMaskPenaltyRule3.data.toList.drop 23 = dktX3_applyMaskPenaltyRule3_1 := dk_seg dksX3_applyMaskPenaltyRule3_0 23 rfl rfl
theorem dksX3_applyMaskPenaltyRule3_2 : cX3_applyMaskPenaltyRule3.data.toList.drop 47 = dktX3_applyMaskPenaltyRule3_2 := dk_seg dksX3_applyMaskPenaltyRule3_1 24 rfl rfl
theorem dksX3_applyMaskPenaltyRule3_3 : cX3_applyMaskPenaltyRule3.data.toList.drop 71 = dktX3_applyMaskPenaltyRule3_3 := dk_seg dksX3_applyMaskPenaltyRule3_2 24 rfl rfl
theorem dksX3_applyMaskPenaltyRule3_4 : cX3_applyMaskPenaltyRule3.data.toList.drop 95 = dktX3_applyMaskPenaltyRule3_4 := dk_seg dksX3_applyMaskPenaltyRule3_3 24 rfl rfl
theorem dksX3_applyMaskPenaltyRule3_5 : cX3_applyMaskPenaltyRule3.data.toList.drop 118 = dktX3_applyMaskPenaltyRule3_5 := dk_seg dksX3_applyMaskPenaltyRule3_4 23 rfl rfl
theorem dksX3_applyMaskPenaltyRule3_6 : cX3_applyMaskPenaltyRule3.data.toList.drop 142 = dktX3_applyMaskPenaltyRule3_6 := dk_seg dksX3_applyMaskPenaltyRule3_5 24 rfl rfl
theorem dksX3_applyMaskPenaltyRule3_7 : cX3_applyMaskPenaltyRule3.data.toList.drop 166 = dktX3_applyMaskPenaltyRule3_7 := dk_seg dksX3_applyMaskPenaltyRule3_6 24 rfl rfl
theorem dksX3_applyMaskPenaltyRule3_8 : cX3_applyMaskPenaltyRule3.data.toList.drop 190 = dktX3_applyMaskPenaltyRule3_8 := dk_seg dksX3_applyMaskPenaltyRule3_7 24 rfl rfl
theorem dksX3_applyMaskPenaltyRule3_9 : cX3_applyMaskPenaltyRule3.data.toList.drop 213 = dktX3_applyMaskPenaltyRule3_9 := dk_seg dksX3_applyMaskPenaltyRule3_8 23 rfl rfl
theorem dksX3_applyMaskPenaltyRule3_10 : cX3_applyMaskPenaltyRule3.data.toList.drop 237 = dktX3_applyMaskPenaltyRule3_10 := dk_seg dksX3_applyMaskPenaltyRule3_9 24 rfl rfl
theorem dksX3_applyMaskPenaltyRule3_11 : cX3_applyMaskPenaltyRule3.data.toList.drop 260 = dktX3_applyMaskPenaltyRule3_11 := dk_seg dksX3_applyMaskPenaltyRule3_10 23 rfl rfl
theorem dksX3_applyMaskPenaltyRule3_12 : cX3_applyMaskPenaltyRule3.data.toList.drop 284 = dktX3_applyMaskPenaltyRule3_12 := dk_seg dksX3_applyMaskPenaltyRule3_11 24 rfl rfl
theorem dksX3_applyMaskPenaltyRule3_13 : cX3_applyMaskPenaltyRule3.data.toList.drop 308 = dktX3_applyMaskPenaltyRule3_13 := dk_seg dksX3_applyMaskPenaltyRule3_12 24 rfl rfl
theorem dX3_applyMaskPenaltyRule3_0 : decode cX3_applyMaskPenaltyRule3 0 = .ok (.iconst 0, 1) := dk_3 (dk_at dksX3_applyMaskPenaltyRule3_0 0 rfl rfl)
theorem dX3_applyMaskPenaltyRule3_1 : decode cX3_applyMaskPenaltyRule3 1 = .ok (.istore_n 1, 1) := dk_60 (dk_at dksX3_applyMaskPenaltyRule3_0 1 rfl rfl)
theorem dX3_applyMaskPenaltyRule3_2 : decode cX3_applyMaskPenaltyRule3 2 = .ok (.aload_n 0, 1) := dk_42 (dk_at dksX3_applyMaskPenaltyRule3_0 2 rfl rfl)
theorem dX3_applyMaskPenaltyRule3_3 : decode cX3_applyMaskPenaltyRule3 3 = .ok (.invokevirtual 7, 3) := dk_182 0 7 (dk_at dksX3_applyMaskPenaltyRule3_0 3 rfl rfl)
theorem dX3_applyMaskPenaltyRule3_6 : decode cX3_applyMaskPenaltyRule3 6 = .ok (.astore_n 2, 1) := dk_77 (dk_at dksX3_applyMaskPenaltyRule3_0 6 rfl rfl)
theorem dX3_applyMaskPenaltyRule3_7 : decode cX3_applyMaskPenaltyRule3 7 = .ok (.aload_n 0, 1) := dk_42 (dk_at dksX3_applyMaskPenaltyRule3_0 7 rfl rfl)
theorem dX3_applyMaskPenaltyRule3_8 : decode cX3_applyMaskPenaltyRule3 8 = .ok (.invokevirtual 13, 3) := dk_182 0 13 (dk_at dksX3_applyMaskPenaltyRule3_0 8 rfl rfl)
theorem dX3_applyMaskPenaltyRule3_11 : decode cX3_applyMaskPenaltyRule3 11 = .ok (.istore_n 3, 1) := dk_62 (dk_at dksX3_applyMaskPenaltyRule3_0 11 rfl rfl)
theorem dX3_applyMaskPenaltyRule3_12 : decode cX3_applyMaskPenaltyRule3 12 = .ok (.aload_n 0, 1) := dk_42 (dk_at dksX3_applyMaskPenaltyRule3_0 12 rfl rfl)
theorem dX3_applyMaskPenaltyRule3_13 : decode cX3_applyMaskPenaltyRule3 13 = .ok (.invokevirtual 17, 3) := dk_182 0 17 (dk_at dksX3_applyMaskPenaltyRule3_0 13 rfl rfl)
theorem dX3_applyMaskPenaltyRule3_16 : decode cX3_applyMaskPenaltyRule3 16 = .ok (.istore 4, 2) := dk_54 4 (dk_at dksX3_applyMaskPenaltyRule3_0 16 rfl rfl)
theorem dX3_applyMaskPenaltyRule3_18 : decode cX3_applyMaskPenaltyRule3 18 = .ok (.iconst 0, 1) := dk_3 (dk_at dksX3_applyMaskPenaltyRule3_0 18 rfl rfl)
theorem dX3_applyMaskPenaltyRule3_19 : decode cX3_applyMaskPenaltyRule3 19 = .ok (.istore 5, 2) := dk_54 5 (dk_at dksX3_applyMaskPenaltyRule3_0 19 rfl rfl)
theorem dX3_applyMaskPenaltyRule3_21 : decode cX3_applyMaskPenaltyRule3 21 = .ok (.iload 5, 2) := dk_21 5 (dk_at dksX3_applyMaskPenaltyRule3_0 21 rfl rfl)
theorem dX3_applyMaskPenaltyRule3_23 : decode cX3_applyMaskPenaltyRule3 23 = .ok (.iload 4, 2) := dk_21 4 (dk_at dksX3_applyMaskPenaltyRule3_1 0 rfl rfl)
theorem dX3_applyMaskPenaltyRule3_25 : decode cX3_applyMaskPenaltyRule3 25 = .ok (.if_icmp .ge 283, 3) := dk_162 1 27 (dk_at dksX3_applyMaskPenaltyRule3_1 2 rfl rfl)
theorem dX3_applyMaskPenaltyRule3_28 : decode cX3_applyMaskPenaltyRule3 28 = .ok (.iconst 0, 1) := dk_3 (dk_at dksX3_applyMaskPenaltyRule3_1 5 rfl rfl)
theorem dX3_applyMaskPenaltyRule3_29 : decode cX3_applyMaskPenaltyRule3 29 = .ok (.istore 6, 2) := dk_54 6 (dk_at dksX3_applyMaskPenaltyRule3_1 6 rfl rfl)
theorem dX3_applyMaskPenaltyRule3_31 : decode cX3_applyMaskPenaltyRule3 31 = .ok (.iload 6, 2) := dk_21 6 (dk_at dksX3_applyMaskPenaltyRule3_1 8 rfl rfl)
theorem dX3_applyMaskPenaltyRule3_33 : decode cX3_applyMaskPenaltyRule3 33 = .ok (.iload_n 3, 1) := dk_29 (dk_at dksX3_applyMaskPenaltyRule3_1 10 rfl rfl)
theorem dX3_applyMaskPenaltyRule3_34 : decode cX3_applyMaskPenaltyRule3 34 = .ok (.if_icmp .ge 268, 3) := dk_162 1 12 (dk_at dksX3_applyMaskPenaltyRule3_1 11 rfl rfl)
theorem dX3_applyMaskPenaltyRule3_37 : decode cX3_applyMaskPenaltyRule3 37 = .ok (.aload_n 2, 1) := dk_44 (dk_at dksX3_applyMaskPenaltyRule3_1 14 rfl rfl)
theorem dX3_applyMaskPenaltyRule3_38 : decode cX3_applyMaskPenaltyRule3 38 = .ok (.iload 5, 2) := dk_21 5 (dk_at dksX3_applyMaskPenaltyRule3_1 15 rfl rfl)
theorem dX3_applyMaskPenaltyRule3_40 : decode cX3_applyMaskPenaltyRule3 40 = .ok (.aaload, 1) := dk_50 (dk_at dksX3_applyMaskPenaltyRule3_1 17 rfl rfl)
theorem dX3_applyMaskPenaltyRule3_41 : decode cX3_applyMaskPenaltyRule3 41 = .ok (.astore 7, 2) := dk_58 7 (dk_at dksX3_applyMaskPenaltyRule3_1 18 rfl rfl)
theorem dX3_applyMaskPenaltyRule3_43 : decode cX3_applyMaskPenaltyRule3 43 = .ok (.iload 6, 2) := dk_21 6 (dk_at dksX3_applyMaskPenaltyRule3_1 20 rfl rfl)
theorem dX3_applyMaskPenaltyRule3_45 : decode cX3_applyMaskPenaltyRule3 45 = .ok (.bipush 6, 2) := dk_16 6 (dk_at dksX3_applyMaskPenaltyRule3_1 22 rfl rfl)
theorem dX3_applyMaskPenaltyRule3_47 : decode cX3_applyMaskPenaltyRule3 47 = .ok (.iadd, 1) := dk_96 (dk_at dksX3_applyMaskPenaltyRule3_2 0 rfl rfl)
theorem dX3_applyMaskPenaltyRule3_48 : decode cX3_applyMaskPenaltyRule3 48 = .ok (.iload_n 3, 1) := dk_29 (dk_at dksX3_applyMaskPenaltyRule3_2 1 rfl rfl)
theorem dX3_applyMaskPenaltyRule3_49 : decode cX3_applyMaskPenaltyRule3 49 = .ok (.if_icmp .ge 112, 3) := dk_162 0 112 (dk_at dksX3_applyMaskPenaltyRule3_2 2 rfl rfl)
theorem dX3_applyMaskPenaltyRule3_52 : decode cX3_applyMaskPenaltyRule3 52 = .ok (.aload 7, 2) := dk_25 7 (dk_at dksX3_applyMaskPenaltyRule3_2 5 rfl rfl)
theorem dX3_applyMaskPenaltyRule3_54 : decode cX3_applyMaskPenaltyRule3 54 = .ok (.iload 6, 2) := dk_21 6 (dk_at dksX3_applyMaskPenaltyRule3_2 7 rfl rfl)
theorem dX3_applyMaskPenaltyRule3_56 : decode cX3_applyMaskPenaltyRule3 56 = .ok (.baload, 1) := dk_51 (dk_at dksX3_applyMaskPenaltyRule3_2 9 rfl rfl)
theorem dX3_applyMaskPenaltyRule3_57 : decode cX3_applyMaskPenaltyRule3 57 = .ok (.iconst 1, 1) := dk_4 (dk_at dksX3_applyMaskPenaltyRule3_2 10 rfl rfl)
theorem dX3_applyMaskPenaltyRule3_58 : decode cX3_applyMaskPenaltyRule3 58 = .ok (.if_icmp .ne 103, 3) := dk_160 0 103 (dk_at dksX3_applyMaskPenaltyRule3_2 11 rfl rfl)
theorem dX3_applyMaskPenaltyRule3_61 : decode cX3_applyMaskPenaltyRule3 61 = .ok (.aload 7, 2) := dk_25 7 (dk_at dksX3_applyMaskPenaltyRule3_2 14 rfl rfl)
theorem dX3_applyMaskPenaltyRule3_63 : decode cX3_applyMaskPenaltyRule3 63 = .ok (.iload 6, 2) := dk_21 6 (dk_at dksX3_applyMaskPenaltyRule3_2 16 rfl rfl)
theorem dX3_applyMaskPenaltyRule3_65 : decode cX3_applyMaskPenaltyRule3 65 = .ok (.iconst 1, 1) := dk_4 (dk_at dksX3_applyMaskPenaltyRule3_2 18 rfl rfl)
theorem dX3_applyMaskPenaltyRule3_66 : decode cX3_applyMaskPenaltyRule3 66 = .ok (.iadd, 1) := dk_96 (dk_at dksX3_applyMaskPenaltyRule3_2 19 rfl rfl)
theorem dX3_applyMaskPenaltyRule3_67 : decode cX3_applyMaskPenaltyRule3 67 = .ok (.baload, 1) := dk_51 (dk_at dksX3_applyMaskPenaltyRule3_2 20 rfl rfl)
theorem dX3_applyMaskPenaltyRule3_68 : decode cX3_applyMaskPenaltyRule3 68 = .ok (.ifCond .ne 93, 3) := dk_154 0 93 (dk_at dksX3_applyMaskPenaltyRule3_2 21 rfl rfl)
theorem dX3_applyMaskPenaltyRule3_71 : decode cX3_applyMaskPenaltyRule3 71 = .ok (.aload 7, 2) := dk_25 7 (dk_at dksX3_applyMaskPenaltyRule3_3 0 rfl rfl)
theorem dX3_applyMaskPenaltyRule3_73 : decode cX3_applyMaskPenaltyRule3 73 = .ok (.iload 6, 2) := dk_21 6 (dk_at dksX3_applyMaskPenaltyRule3_3 2 rfl rfl)
theorem dX3_applyMaskPenaltyRule3_75 : decode cX3_applyMaskPenaltyRule3 75 = .ok (.iconst 2, 1) := dk_5 (dk_at dksX3_applyMaskPenaltyRule3_3 4 rfl rfl)
theorem dX3_applyMaskPenaltyRule3_76 : decode cX3_applyMaskPenaltyRule3 76 = .ok (.iadd, 1) := dk_96 (dk_at dksX3_applyMaskPenaltyRule3_3 5 rfl rfl)
theorem dX3_applyMaskPenaltyRule3_77 : decode cX3_applyMaskPenaltyRule3 77 = .ok (.baload, 1) := dk_51 (dk_at dksX3_applyMaskPenaltyRule3_3 6 rfl rfl)
theorem dX3_applyMaskPenaltyRule3_78 : decode cX3_applyMaskPenaltyRule3 78 = .ok (.iconst 1, 1) := dk_4 (dk_at dksX3_applyMaskPenaltyRule3_3 7 rfl rfl)
theorem dX3_applyMaskPenaltyRule3_79 : decode cX3_applyMaskPenaltyRule3 79 = .ok (.if_icmp .ne 82, 3) := dk_160 0 82 (dk_at dksX3_applyMaskPenaltyRule3_3 8 rfl rfl)
theorem dX3_applyMaskPenaltyRule3_82 : decode cX3_applyMaskPenaltyRule3 82 = .ok (.aload 7, 2) := dk_25 7 (dk_at dksX3_applyMaskPenaltyRule3_3 11 rfl rfl)
theorem dX3_applyMaskPenaltyRule3_84 : decode cX3_applyMaskPenaltyRule3 84 = .ok (.iload 6, 2) := dk_21 6 (dk_at dksX3_applyMaskPenaltyRule3_3 13 rfl rfl)
theorem dX3_applyMaskPenaltyRule3_86 : decode cX3_applyMaskPenaltyRule3 86 = .ok (.iconst 3, 1) := dk_6 (dk_at dksX3_applyMaskPenaltyRule3_3 15 rfl rfl)
theorem dX3_applyMaskPenaltyRule3_87 : decode cX3_applyMaskPenaltyRule3 87 = .ok (.iadd, 1) := dk_96 (dk_at dksX3_applyMaskPenaltyRule3_3 16 rfl rfl)
theorem dX3_applyMaskPenaltyRule3_88 : decode cX3_applyMaskPenaltyRule3 88 = .ok (.baload, 1) := dk_51 (dk_at dksX3_applyMaskPenaltyRule3_3 17 rfl rfl)
theorem dX3_applyMaskPenaltyRule3_89 : decode cX3_applyMaskPenaltyRule3 89 = .ok (.iconst 1, 1) := dk_4 (dk_at dksX3_applyMaskPenaltyRule3_3 18 rfl rfl)
theorem dX3_applyMaskPenaltyRule3_90 : decode cX3_applyMaskPenaltyRule3 90 = .ok (.if_icmp .ne 71, 3) := dk_160 0 71 (dk_at dksX3_applyMaskPenaltyRule3_3 19 rfl rfl)
theorem dX3_applyMaskPenaltyRule3_93 : decode cX3_applyMaskPenaltyRule3 93 = .ok (.aload 7, 2) := dk_25 7 (dk_at dksX3_applyMaskPenaltyRule3_3 22 rfl rfl)
theorem dX3_applyMaskPenaltyRule3_95 : decode cX3_applyMaskPenaltyRule3 95 = .ok (.iload 6, 2) := dk_21 6 (dk_at dksX3_applyMaskPenaltyRule3_4 0 rfl rfl)
theorem dX3_applyMaskPenaltyRule3_97 : decode cX3_applyMaskPenaltyRule3 97 = .ok (.iconst 4, 1) := dk_7 (dk_at dksX3_applyMaskPenaltyRule3_4 2 rfl rfl)
theorem dX3_applyMaskPenaltyRule3_98 : decode cX3_applyMaskPenaltyRule3 98 = .ok (.iadd, 1) := dk_96 (dk_at dksX3_applyMaskPenaltyRule3_4 3 rfl rfl)
theorem dX3_applyMaskPenaltyRule3_99 : decode cX3_applyMaskPenaltyRule3 99 = .ok (.baload, 1) := dk_51 (dk_at dksX3_applyMaskPenaltyRule3_4 4 rfl rfl)
theorem dX3_applyMaskPenaltyRule3_100 : decode cX3_applyMaskPenaltyRule3 100 = .ok (.iconst 1, 1) := dk_4 (dk_at dksX3_applyMaskPenaltyRule3_4 5 rfl rfl)
theorem dX3_applyMaskPenaltyRule3_101 : decode cX3_applyMaskPenaltyRule3 101 = .ok (.if_icmp .ne 60, 3) := dk_160 0 60 (dk_at dksX3_applyMaskPenaltyRule3_4 6 rfl rfl)
theorem dX3_applyMaskPenaltyRule3_104 : decode cX3_applyMaskPenaltyRule3 104 = .ok (.aload 7, 2) := dk_25 7 (dk_at dksX3_applyMaskPenaltyRule3_4 9 rfl rfl)
theorem dX3_applyMaskPenaltyRule3_106 : decode cX3_applyMaskPenaltyRule3 106 = .ok (.iload 6, 2) := dk_21 6 (dk_at dksX3_applyMaskPenaltyRule3_4 11 rfl rfl)
theorem dX3_applyMaskPenaltyRule3_108 : decode cX3_applyMaskPenaltyRule3 108 = .ok (.iconst 5, 1) := dk_8 (dk_at dksX3_applyMaskPenaltyRule3_4 13 rfl rfl)
theorem dX3_applyMaskPenaltyRule3_109 : decode cX3_applyMaskPenaltyRule3 109 = .ok (.iadd, 1) := dk_96 (dk_at dksX3_applyMaskPenaltyRule3_4 14 rfl rfl)
theorem dX3_applyMaskPenaltyRule3_110 : decode cX3_applyMaskPenaltyRule3 110 = .ok (.baload, 1) := dk_51 (dk_at dksX3_applyMaskPenaltyRule3_4 15 rfl rfl)
theorem dX3_applyMaskPenaltyRule3_111 : decode cX3_applyMaskPenaltyRule3 111 = .ok (.ifCond .ne 50, 3) := dk_154 0 50 (dk_at dksX3_applyMaskPenaltyRule3_4 16 rfl rfl)
theorem dX3_applyMaskPenaltyRule3_114 : decode cX3_applyMaskPenaltyRule3 114 = .ok (.aload 7, 2) := dk_25 7 (dk_at dksX3_applyMaskPenaltyRule3_4 19 rfl rfl)
theorem dX3_applyMaskPenaltyRule3_116 : decode cX3_applyMaskPenaltyRule3 116 = .ok (.iload 6, 2) := dk_21 6 (dk_at dksX3_applyMaskPenaltyRule3_4 21 rfl rfl)
theorem dX3_applyMaskPenaltyRule3_118 : decode cX3_applyMaskPenaltyRule3 118 = .ok (.bipush 6, 2) := dk_16 6 (dk_at dksX3_applyMaskPenaltyRule3_5 0 rfl rfl)
theorem dX3_applyMaskPenaltyRule3_120 : decode cX3_applyMaskPenaltyRule3 120 = .ok (.iadd, 1) := dk_96 (dk_at dksX3_applyMaskPenaltyRule3_5 2 rfl rfl)
theorem dX3_applyMaskPenaltyRule3_121 : decode cX3_applyMaskPenaltyRule3 121 = .ok (.baload, 1) := dk_51 (dk_at dksX3_applyMaskPenaltyRule3_5 3 rfl rfl)
theorem dX3_applyMaskPenaltyRule3_122 : decode cX3_applyMaskPenaltyRule3 122 = .ok (.iconst 1, 1) := dk_4 (dk_at dksX3_applyMaskPenaltyRule3_5 4 rfl rfl)
theorem dX3_applyMaskPenaltyRule3_123 : decode cX3_applyMaskPenaltyRule3 123 = .ok (.if_icmp .ne 38, 3) := dk_160 0 38 (dk_at dksX3_applyMaskPenaltyRule3_5 5 rfl rfl)
theorem dX3_applyMaskPenaltyRule3_126 : decode cX3_applyMaskPenaltyRule3 126 = .ok (.aload 7, 2) := dk_25 7 (dk_at dksX3_applyMaskPenaltyRule3_5 8 rfl rfl)
theorem dX3_applyMaskPenaltyRule3_128 : decode cX3_applyMaskPenaltyRule3 128 = .ok (.iload 6, 2) := dk_21 6 (dk_at dksX3_applyMaskPenaltyRule3_5 10 rfl rfl)
theorem dX3_applyMaskPenaltyRule3_130 : decode cX3_applyMaskPenaltyRule3 130 = .ok (.iconst 4, 1) := dk_7 (dk_at dksX3_applyMaskPenaltyRule3_5 12 rfl rfl)
theorem dX3_applyMaskPenaltyRule3_131 : decode cX3_applyMaskPenaltyRule3 131 = .ok (.isub, 1) := dk_100 (dk_at dksX3_applyMaskPenaltyRule3_5 13 rfl rfl)
theorem dX3_applyMaskPenaltyRule3_132 : decode cX3_applyMaskPenaltyRule3 132 = .ok (.iload 6, 2) := dk_21 6 (dk_at dksX3_applyMaskPenaltyRule3_5 14 rfl rfl)
theorem dX3_applyMaskPenaltyRule3_134 : decode cX3_applyMaskPenaltyRule3 134 = .ok (.invokestatic 20, 3) := dk_184 0 20 (dk_at dksX3_applyMaskPenaltyRule3_5 16 rfl rfl)
theorem dX3_applyMaskPenaltyRule3_137 : decode cX3_applyMaskPenaltyRule3 137 = .ok (.ifCond .ne 21, 3) := dk_154 0 21 (dk_at dksX3_applyMaskPenaltyRule3_5 19 rfl rfl)
theorem dX3_applyMaskPenaltyRule3_140 : decode cX3_applyMaskPenaltyRule3 140 = .ok (.aload 7, 2) := dk_25 7 (dk_at dksX3_applyMaskPenaltyRule3_5 22 rfl rfl)
theorem dX3_applyMaskPenaltyRule3_142 : decode cX3_applyMaskPenaltyRule3 142 = .ok (.iload 6, 2) := dk_21 6 (dk_at dksX3_applyMaskPenaltyRule3_6 0 rfl rfl)
theorem dX3_applyMaskPenaltyRule3_144 : decode cX3_applyMaskPenaltyRule3 144 = .ok (.bipush 7, 2) := dk_16 7 (dk_at dksX3_applyMaskPenaltyRule3_6 2 rfl rfl)
theorem dX3_applyMaskPenaltyRule3_146 : decode cX3_applyMaskPenaltyRule3 146 = .ok (.iadd, 1) := dk_96 (dk_at dksX3_applyMaskPenaltyRule3_6 4 rfl rfl)
theorem dX3_applyMaskPenaltyRule3_147 : decode cX3_applyMaskPenaltyRule3 147 = .ok (.iload 6, 2) := dk_21 6 (dk_at dksX3_applyMaskPenaltyRule3_6 5 rfl rfl)
theorem dX3_applyMaskPenaltyRule3_149 : decode cX3_applyMaskPenaltyRule3 149 = .ok (.bipush 11, 2) := dk_16 11 (dk_at dksX3_applyMaskPenaltyRule3_6 7 rfl rfl)
theorem dX3_applyMaskPenaltyRule3_151 : decode cX3_applyMaskPenaltyRule3 151 = .ok (.iadd, 1) := dk_96 (dk_at dksX3_applyMaskPenaltyRule3_6 9 rfl rfl)
theorem dX3_applyMaskPenaltyRule3_152 : decode cX3_applyMaskPenaltyRule3 152 = .ok (.invokestatic 20, 3) := dk_184 0 20 (dk_at dksX3_applyMaskPenaltyRule3_6 10 rfl rfl)
theorem dX3_applyMaskPenaltyRule3_155 : decode cX3_applyMaskPenaltyRule3 155 = .ok (.ifCond .eq 6, 3) := dk_153 0 6 (dk_at dksX3_applyMaskPenaltyRule3_6 13 rfl rfl)
theorem dX3_applyMaskPenaltyRule3_158 : decode cX3_applyMaskPenaltyRule3 158 = .ok (.iinc 1 1, 3) := dk_132 1 1 (dk_at dksX3_applyMaskPenaltyRule3_6 16 rfl rfl)
theorem dX3_applyMaskPenaltyRule3_161 : decode cX3_applyMaskPenaltyRule3 161 = .ok (.iload 5, 2) := dk_21 5 (dk_at dksX3_applyMaskPenaltyRule3_6 19 rfl rfl)
theorem dX3_applyMaskPenaltyRule3_163 : decode cX3_applyMaskPenaltyRule3 163 = .ok (.bipush 6, 2) := dk_16 6 (dk_at dksX3_applyMaskPenaltyRule3_6 21 rfl rfl)
theorem dX3_applyMaskPenaltyRule3_165 : decode cX3_applyMaskPenaltyRule3 165 = .ok (.iadd, 1) := dk_96 (dk_at dksX3_applyMaskPenaltyRule3_6 23 rfl rfl)
theorem dX3_applyMaskPenaltyRule3_166 : decode cX3_applyMaskPenaltyRule3 166 = .ok (.iload 4, 2) := dk_21 4 (dk_at dksX3_applyMaskPenaltyRule3_7 0 rfl rfl)
theorem dX3_applyMaskPenaltyRule3_168 : decode cX3_applyMaskPenaltyRule3 168 = .ok (.if_icmp .ge 128, 3) := dk_162 0 128 (dk_at dksX3_applyMaskPenaltyRule3_7 2 rfl rfl)
theorem dX3_applyMaskPenaltyRule3_171 : decode cX3_applyMaskPenaltyRule3 171 = .ok (.aload_n 2, 1) := dk_44 (dk_at dksX3_applyMaskPenaltyRule3_7 5 rfl rfl)
theorem dX3_applyMaskPenaltyRule3_172 : decode cX3_applyMaskPenaltyRule3 172 = .ok (.iload 5, 2) := dk_21 5 (dk_at dksX3_applyMaskPenaltyRule3_7 6 rfl rfl)
theorem dX3_applyMaskPenaltyRule3_174 : decode cX3_applyMaskPenaltyRule3 174 = .ok (.aaload, 1) := dk_50 (dk_at dksX3_applyMaskPenaltyRule3_7 8 rfl rfl)
theorem dX3_applyMaskPenaltyRule3_175 : decode cX3_applyMaskPenaltyRule3 175 = .ok (.iload 6, 2) := dk_21 6 (dk_at dksX3_applyMaskPenaltyRule3_7 9 rfl rfl)
theorem dX3_applyMaskPenaltyRule3_177 : decode cX3_applyMaskPenaltyRule3 177 = .ok (.baload, 1) := dk_51 (dk_at dksX3_applyMaskPenaltyRule3_7 11 rfl rfl)
theorem dX3_applyMaskPenaltyRule3_178 : decode cX3_applyMaskPenaltyRule3 178 = .ok (.iconst 1, 1) := dk_4 (dk_at dksX3_applyMaskPenaltyRule3_7 12 rfl rfl)
theorem dX3_applyMaskPenaltyRule3_179 : decode cX3_applyMaskPenaltyRule3 179 = .ok (.if_icmp .ne 117, 3) := dk_160 0 117 (dk_at dksX3_applyMaskPenaltyRule3_7 13 rfl rfl)
theorem dX3_applyMaskPenaltyRule3_182 : decode cX3_applyMaskPenaltyRule3 182 = .ok (.aload_n 2, 1) := dk_44 (dk_at dksX3_applyMaskPenaltyRule3_7 16 rfl rfl)
theorem dX3_applyMaskPenaltyRule3_183 : decode cX3_applyMaskPenaltyRule3 183 = .ok (.iload 5, 2) := dk_21 5 (dk_at dksX3_applyMaskPenaltyRule3_7 17 rfl rfl)
theorem dX3_applyMaskPenaltyRule3_185 : decode cX3_applyMaskPenaltyRule3 185 = .ok (.iconst 1, 1) := dk_4 (dk_at dksX3_applyMaskPenaltyRule3_7 19 rfl rfl)
theorem dX3_applyMaskPenaltyRule3_186 : decode cX3_applyMaskPenaltyRule3 186 = .ok (.iadd, 1) := dk_96 (dk_at dksX3_applyMaskPenaltyRule3_7 20 rfl rfl)
theorem dX3_applyMaskPenaltyRule3_187 : decode cX3_applyMaskPenaltyRule3 187 = .ok (.aaload, 1) := dk_50 (dk_at dksX3_applyMaskPenaltyRule3_7 21 rfl rfl)
theorem dX3_applyMaskPenaltyRule3_188 : decode cX3_applyMaskPenaltyRule3 188 = .ok (.iload 6, 2) := dk_21 6 (dk_at dksX3_applyMaskPenaltyRule3_7 22 rfl rfl)
theorem dX3_applyMaskPenaltyRule3_190 : decode cX3_applyMaskPenaltyRule3 190 = .ok (.baload, 1) := dk_51 (dk_at dksX3_applyMaskPenaltyRule3_8 0 rfl rfl)
theorem dX3_applyMaskPenaltyRule3_191 : decode cX3_applyMaskPenaltyRule3 191 = .ok (.ifCond .ne 105, 3) := dk_154 0 105 (dk_at dksX3_applyMaskPenaltyRule3_8 1 rfl rfl)
theorem dX3_applyMaskPenaltyRule3_194 : decode cX3_applyMaskPenaltyRule3 194 = .ok (.aload_n 2, 1) := dk_44 (dk_at dksX3_applyMaskPenaltyRule3_8 4 rfl rfl)
theorem dX3_applyMaskPenaltyRule3_195 : decode cX3_applyMaskPenaltyRule3 195 = .ok (.iload 5, 2) := dk_21 5 (dk_at dksX3_applyMaskPenaltyRule3_8 5 rfl rfl)
theorem dX3_applyMaskPenaltyRule3_197 : decode cX3_applyMaskPenaltyRule3 197 = .ok (.iconst 2, 1) := dk_5 (dk_at dksX3_applyMaskPenaltyRule3_8 7 rfl rfl)
theorem dX3_applyMaskPenaltyRule3_198 : decode cX3_applyMaskPenaltyRule3 198 = .ok (.iadd, 1) := dk_96 (dk_at dksX3_applyMaskPenaltyRule3_8 8 rfl rfl)
theorem dX3_applyMaskPenaltyRule3_199 : decode cX3_applyMaskPenaltyRule3 199 = .ok (.aaload, 1) := dk_50 (dk_at dksX3_applyMaskPenaltyRule3_8 9 rfl rfl)
theorem dX3_applyMaskPenaltyRule3_200 : decode cX3_applyMaskPenaltyRule3 200 = .ok (.iload 6, 2) := dk_21 6 (dk_at dksX3_applyMaskPenaltyRule3_8 10 rfl rfl)
theorem dX3_applyMaskPenaltyRule3_202 : decode cX3_applyMaskPenaltyRule3 202 = .ok (.baload, 1) := dk_51 (dk_at dksX3_applyMaskPenaltyRule3_8 12 rfl rfl)
theorem dX3_applyMaskPenaltyRule3_203 : decode cX3_applyMaskPenaltyRule3 203 = .ok (.iconst 1, 1) := dk_4 (dk_at dksX3_applyMaskPenaltyRule3_8 13 rfl rfl)
theorem dX3_applyMaskPenaltyRule3_204 : decode cX3_applyMaskPenaltyRule3 204 = .ok (.if_icmp .ne 92, 3) := dk_160 0 92 (dk_at dksX3_applyMaskPenaltyRule3_8 14 rfl rfl)
theorem dX3_applyMaskPenaltyRule3_207 : decode cX3_applyMaskPenaltyRule3 207 = .ok (.aload_n 2, 1) := dk_44 (dk_at dksX3_applyMaskPenaltyRule3_8 17 rfl rfl)
theorem dX3_applyMaskPenaltyRule3_208 : decode cX3_applyMaskPenaltyRule3 208 = .ok (.iload 5, 2) := dk_21 5 (dk_at dksX3_applyMaskPenaltyRule3_8 18 rfl rfl)
theorem dX3_applyMaskPenaltyRule3_210 : decode cX3_applyMaskPenaltyRule3 210 = .ok (.iconst 3, 1) := dk_6 (dk_at dksX3_applyMaskPenaltyRule3_8 20 rfl rfl)
theorem dX3_applyMaskPenaltyRule3_211 : decode cX3_applyMaskPenaltyRule3 211 = .ok (.iadd, 1) := dk_96 (dk_at dksX3_applyMaskPenaltyRule3_8 21 rfl rfl)
theorem dX3_applyMaskPenaltyRule3_212 : decode cX3_applyMaskPenaltyRule3 212 = .ok (.aaload, 1) := dk_50 (dk_at dksX3_applyMaskPenaltyRule3_8 22 rfl rfl)
theorem dX3_applyMaskPenaltyRule3_213 : decode cX3_applyMaskPenaltyRule3 213 = .ok (.iload 6, 2) := dk_21 6 (dk_at dksX3_applyMaskPenaltyRule3_9 0 rfl rfl)
theorem dX3_applyMaskPenaltyRule3_215 : decode cX3_applyMaskPenaltyRule3 215 = .ok (.baload, 1) := dk_51 (dk_at dksX3_applyMaskPenaltyRule3_9 2 rfl rfl)
theorem dX3_applyMaskPenaltyRule3_216 : decode cX3_applyMaskPenaltyRule3 216 = .ok (.iconst 1, 1) := dk_4 (dk_at dksX3_applyMaskPenaltyRule3_9 3 rfl rfl)
theorem dX3_applyMaskPenaltyRule3_217 : decode cX3_applyMaskPenaltyRule3 217 = .ok (.if_icmp .ne 79, 3) := dk_160 0 79 (dk_at dksX3_applyMaskPenaltyRule3_9 4 rfl rfl)
theorem dX3_applyMaskPenaltyRule3_220 : decode cX3_applyMaskPenaltyRule3 220 = .ok (.aload_n 2, 1) := dk_44 (dk_at dksX3_applyMaskPenaltyRule3_9 7 rfl rfl)
theorem dX3_applyMaskPenaltyRule3_221 : decode cX3_applyMaskPenaltyRule3 221 = .ok (.iload 5, 2) := dk_21 5 (dk_at dksX3_applyMaskPenaltyRule3_9 8 rfl rfl)
theorem dX3_applyMaskPenaltyRule3_223 : decode cX3_applyMaskPenaltyRule3 223 = .ok (.iconst 4, 1) := dk_7 (dk_at dksX3_applyMaskPenaltyRule3_9 10 rfl rfl)
theorem dX3_applyMaskPenaltyRule3_224 : decode cX3_applyMaskPenaltyRule3 224 = .ok (.iadd, 1) := dk_96 (dk_at dksX3_applyMaskPenaltyRule3_9 11 rfl rfl)
theorem dX3_applyMaskPenaltyRule3_225 : decode cX3_applyMaskPenaltyRule3 225 = .ok (.aaload, 1) := dk_50 (dk_at dksX3_applyMaskPenaltyRule3_9 12 rfl rfl)
theorem dX3_applyMaskPenaltyRule3_226 : decode cX3_applyMaskPenaltyRule3 226 = .ok (.iload 6, 2) := dk_21 6 (dk_at dksX3_applyMaskPenaltyRule3_9 13 rfl rfl)
theorem dX3_applyMaskPenaltyRule3_228 : decode cX3_applyMaskPenaltyRule3 228 = .ok (.baload, 1) := dk_51 (dk_at dksX3_applyMaskPenaltyRule3_9 15 rfl rfl)
theorem dX3_applyMaskPenaltyRule3_229 : decode cX3_applyMaskPenaltyRule3 229 = .ok (.iconst 1, 1) := dk_4 (dk_at dksX3_applyMaskPenaltyRule3_9 16 rfl rfl)
theorem dX3_applyMaskPenaltyRule3_230 : decode cX3_applyMaskPenaltyRule3 230 = .ok (.if_icmp .ne 66, 3) := dk_160 0 66 (dk_at dksX3_applyMaskPenaltyRule3_9 17 rfl rfl)
theorem dX3_applyMaskPenaltyRule3_233 : decode cX3_applyMaskPenaltyRule3 233 = .ok (.aload_n 2, 1) := dk_44 (dk_at dksX3_applyMaskPenaltyRule3_9 20 rfl rfl)
theorem dX3_applyMaskPenaltyRule3_234 : decode cX3_applyMaskPenaltyRule3 234 = .ok (.iload 5, 2) := dk_21 5 (dk_at dksX3_applyMaskPenaltyRule3_9 21 rfl rfl)
theorem dX3_applyMaskPenaltyRule3_236 : decode cX3_applyMaskPenaltyRule3 236 = .ok (.iconst 5, 1) := dk_8 (dk_at dksX3_applyMaskPenaltyRule3_9 23 rfl rfl)
theorem dX3_applyMaskPenaltyRule3_237 : decode cX3_applyMaskPenaltyRule3 237 = .ok (.iadd, 1) := dk_96 (dk_at dksX3_applyMaskPenaltyRule3_10 0 rfl rfl)
theorem dX3_applyMaskPenaltyRule3_238 : decode cX3_applyMaskPenaltyRule3 238 = .ok (.aaload, 1) := dk_50 (dk_at dksX3_applyMaskPenaltyRule3_10 1 rfl rfl)
theorem dX3_applyMaskPenaltyRule3_239 : decode cX3_applyMaskPenaltyRule3 239 = .ok (.iload 6, 2) := dk_21 6 (dk_at dksX3_applyMaskPenaltyRule3_10 2 rfl rfl)
theorem dX3_applyMaskPenaltyRule3_241 : decode cX3_applyMaskPenaltyRule3 241 = .ok (.baload, 1) := dk_51 (dk_at dksX3_applyMaskPenaltyRule3_10 4 rfl rfl)
theorem dX3_applyMaskPenaltyRule3_242 : decode cX3_applyMaskPenaltyRule3 242 = .ok (.ifCond .ne 54, 3) := dk_154 0 54 (dk_at dksX3_applyMaskPenaltyRule3_10 5 rfl rfl)
theorem dX3_applyMaskPenaltyRule3_245 : decode cX3_applyMaskPenaltyRule3 245 = .ok (.aload_n 2, 1) := dk_44 (dk_at dksX3_applyMaskPenaltyRule3_10 8 rfl rfl)
theorem dX3_applyMaskPenaltyRule3_246 : decode cX3_applyMaskPenaltyRule3 246 = .ok (.iload 5, 2) := dk_21 5 (dk_at dksX3_applyMaskPenaltyRule3_10 9 rfl rfl)
theorem dX3_applyMaskPenaltyRule3_248 : decode cX3_applyMaskPenaltyRule3 248 = .ok (.bipush 6, 2) := dk_16 6 (dk_at dksX3_applyMaskPenaltyRule3_10 11 rfl rfl)
theorem dX3_applyMaskPenaltyRule3_250 : decode cX3_applyMaskPenaltyRule3 250 = .ok (.iadd, 1) := dk_96 (dk_at dksX3_applyMaskPenaltyRule3_10 13 rfl rfl)
theorem dX3_applyMaskPenaltyRule3_251 : decode cX3_applyMaskPenaltyRule3 251 = .ok (.aaload, 1) := dk_50 (dk_at dksX3_applyMaskPenaltyRule3_10 14 rfl rfl)
theorem dX3_applyMaskPenaltyRule3_252 : decode cX3_applyMaskPenaltyRule3 252 = .ok (.iload 6, 2) := dk_21 6 (dk_at dksX3_applyMaskPenaltyRule3_10 15 rfl rfl)
theorem dX3_applyMaskPenaltyRule3_254 : decode cX3_applyMaskPenaltyRule3 254 = .ok (.baload, 1) := dk_51 (dk_at dksX3_applyMaskPenaltyRule3_10 17 rfl rfl)
theorem dX3_applyMaskPenaltyRule3_255 : decode cX3_applyMaskPenaltyRule3 255 = .ok (.iconst 1, 1) := dk_4 (dk_at dksX3_applyMaskPenaltyRule3_10 18 rfl rfl)
theorem dX3_applyMaskPenaltyRule3_256 : decode cX3_applyMaskPenaltyRule3 256 = .ok (.if_icmp .ne 40, 3) := dk_160 0 40 (dk_at dksX3_applyMaskPenaltyRule3_10 19 rfl rfl)
theorem dX3_applyMaskPenaltyRule3_259 : decode cX3_applyMaskPenaltyRule3 259 = .ok (.aload_n 2, 1) := dk_44 (dk_at dksX3_applyMaskPenaltyRule3_10 22 rfl rfl)
theorem dX3_applyMaskPenaltyRule3_260 : decode cX3_applyMaskPenaltyRule3 260 = .ok (.iload 6, 2) := dk_21 6 (dk_at dksX3_applyMaskPenaltyRule3_11 0 rfl rfl)
theorem dX3_applyMaskPenaltyRule3_262 : decode cX3_applyMaskPenaltyRule3 262 = .ok (.iload 5, 2) := dk_21 5 (dk_at dksX3_applyMaskPenaltyRule3_11 2 rfl rfl)
theorem dX3_applyMaskPenaltyRule3_264 : decode cX3_applyMaskPenaltyRule3 264 = .ok (.iconst 4, 1) := dk_7 (dk_at dksX3_applyMaskPenaltyRule3_11 4 rfl rfl)
theorem dX3_applyMaskPenaltyRule3_265 : decode cX3_applyMaskPenaltyRule3 265 = .ok (.isub, 1) := dk_100 (dk_at dksX3_applyMaskPenaltyRule3_11 5 rfl rfl)
theorem dX3_applyMaskPenaltyRule3_266 : decode cX3_applyMaskPenaltyRule3 266 = .ok (.iload 5, 2) := dk_21 5 (dk_at dksX3_applyMaskPenaltyRule3_11 6 rfl rfl)
theorem dX3_applyMaskPenaltyRule3_268 : decode cX3_applyMaskPenaltyRule3 268 = .ok (.invokestatic 24, 3) := dk_184 0 24 (dk_at dksX3_applyMaskPenaltyRule3_11 8 rfl rfl)
theorem dX3_applyMaskPenaltyRule3_271 : decode cX3_applyMaskPenaltyRule3 271 = .ok (.ifCond .ne 22, 3) := dk_154 0 22 (dk_at dksX3_applyMaskPenaltyRule3_11 11 rfl rfl)
theorem dX3_applyMaskPenaltyRule3_274 : decode cX3_applyMaskPenaltyRule3 274 = .ok (.aload_n 2, 1) := dk_44 (dk_at dksX3_applyMaskPenaltyRule3_11 14 rfl rfl)
theorem dX3_applyMaskPenaltyRule3_275 : decode cX3_applyMaskPenaltyRule3 275 = .ok (.iload 6, 2) := dk_21 6 (dk_at dksX3_applyMaskPenaltyRule3_11 15 rfl rfl)
theorem dX3_applyMaskPenaltyRule3_277 : decode cX3_applyMaskPenaltyRule3 277 = .ok (.iload 5, 2) := dk_21 5 (dk_at dksX3_applyMaskPenaltyRule3_11 17 rfl rfl)
theorem dX3_applyMaskPenaltyRule3_279 : decode cX3_applyMaskPenaltyRule3 279 = .ok (.bipush 7, 2) := dk_16 7 (dk_at dksX3_applyMaskPenaltyRule3_11 19 rfl rfl)
theorem dX3_applyMaskPenaltyRule3_281 : decode cX3_applyMaskPenaltyRule3 281 = .ok (.iadd, 1) := dk_96 (dk_at dksX3_applyMaskPenaltyRule3_11 21 rfl rfl)
theorem dX3_applyMaskPenaltyRule3_282 : decode cX3_applyMaskPenaltyRule3 282 = .ok (.iload 5, 2) := dk_21 5 (dk_at dksX3_applyMaskPenaltyRule3_11 22 rfl rfl)
theorem dX3_applyMaskPenaltyRule3_284 : decode cX3_applyMaskPenaltyRule3 284 = .ok (.bipush 11, 2) := dk_16 11 (dk_at dksX3_applyMaskPenaltyRule3_12 0 rfl rfl)
theorem dX3_applyMaskPenaltyRule3_286 : decode cX3_applyMaskPenaltyRule3 286 = .ok (.iadd, 1) := dk_96 (dk_at dksX3_applyMaskPenaltyRule3_12 2 rfl rfl)
theorem dX3_applyMaskPenaltyRule3_287 : decode cX3_applyMaskPenaltyRule3 287 = .ok (.invokestatic 24, 3) := dk_184 0 24 (dk_at dksX3_applyMaskPenaltyRule3_12 3 rfl rfl)
theorem dX3_applyMaskPenaltyRule3_290 : decode cX3_applyMaskPenaltyRule3 290 = .ok (.ifCond .eq 6, 3) := dk_153 0 6 (dk_at dksX3_applyMaskPenaltyRule3_12 6 rfl rfl)
theorem dX3_applyMaskPenaltyRule3_293 : decode cX3_applyMaskPenaltyRule3 293 = .ok (.iinc 1 1, 3) := dk_132 1 1 (dk_at dksX3_applyMaskPenaltyRule3_12 9 rfl rfl)
theorem dX3_applyMaskPenaltyRule3_296 : decode cX3_applyMaskPenaltyRule3 296 = .ok (.iinc 6 1, 3) := dk_132 6 1 (dk_at dksX3_applyMaskPenaltyRule3_12 12 rfl rfl)
theorem dX3_applyMaskPenaltyRule3_299 : decode cX3_applyMaskPenaltyRule3 299 = .ok (.goto (-268), 3) := dk_167 254 244 (dk_at dksX3_applyMaskPenaltyRule3_12 15 rfl rfl)
theorem dX3_applyMaskPenaltyRule3_302 : decode cX3_applyMaskPenaltyRule3 302 = .ok (.iinc 5 1, 3) := dk_132 5 1 (dk_at dksX3_applyMaskPenaltyRule3_12 18 rfl rfl)
theorem dX3_applyMaskPenaltyRule3_305 : decode cX3_applyMaskPenaltyRule3 305 = .ok (.goto (-284), 3) := dk_167 254 228 (dk_at dksX3_applyMaskPenaltyRule3_12 21 rfl rfl)
theorem dX3_applyMaskPenaltyRule3_308 : decode cX3_applyMaskPenaltyRule3 308 = .ok (.iload_n 1, 1) := dk_27 (dk_at dksX3_applyMaskPenaltyRule3_13 0 rfl rfl)
theorem dX3_applyMaskPenaltyRule3_309 : decode cX3_applyMaskPenaltyRule3 309 = .ok (.bipush 40, 2) := dk_16 40 (dk_at dksX3_applyMaskPenaltyRule3_13 1 rfl rfl)
theorem dX3_applyMaskPenaltyRule3_311 : decode cX3_applyMaskPenaltyRule3 311 = .ok (.imul, 1) := dk_104 (dk_at dksX3_applyMaskPenaltyRule3_13 3 rfl rfl)
theorem dX3_applyMaskPenaltyRule3_312 : decode cX3_applyMaskPenaltyRule3 312 = .ok (.ireturn, 1) := dk_172 (dk_at dksX3_applyMaskPenaltyRule3_13 4 rfl rfl)
abbrev cX3_isWhiteHorizontal : ByteArray := prog_2_method_4_code
def yX3_isWhiteHorizontal : MethodName := ⟨RX3, "isWhiteHorizontal", "([BII)Z"⟩
def dkwX3_isWhiteHorizontal_1 : List UInt8 := [160, 0, 5, 3, 172, 132, 3, 1, 167, 255, 239, 4, 172]
abbrev dktX3_isWhiteHorizontal_1 : List UInt8 := dkwX3_isWhiteHorizontal_1 ++ []
def dkwX3_isWhiteHorizontal_0 : List UInt8 := [27, 155, 0, 9, 42, 190, 28, 162, 0, 5, 3, 172, 27, 62, 29, 28, 162, 0, 18, 42, 29, 51, 4]
abbrev dktX3_isWhiteHorizontal_0 : List UInt8 := dkwX3_isWhiteHorizontal_0 ++ dktX3_isWhiteHorizontal_1
theorem dksX3_isWhiteHorizontal_0 : cX3_isWhiteHorizontal.data.toList.drop 0 = dktX3_isWhiteHorizontal_0 := by decide +kernel
theorem dksX3_isWhiteHorizontal_1 : cX3_isWhiteHorizontal.data.toList.drop 23 = dktX3_isWhiteHorizontal_1 := dk_seg dksX3_isWhiteHorizontal_0 23 rfl rfl
theorem dX3_isWhiteHorizontal_0 : decode cX3_isWhiteHorizontal 0 = .ok (.iload_n 1, 1) := dk_27 (dk_at dksX3_isWhiteHorizontal_0 0 rfl rfl)
theorem dX3_isWhiteHorizontal_1 : decode cX3_isWhiteHorizontal 1 = .ok (.ifCond .lt 9, 3) := dk_155 0 9 (dk_at dksX3_isWhiteHorizontal_0 1 rfl rfl)
theorem dX3_isWhiteHorizontal_4 : decode cX3_isWhiteHorizontal 4 = .ok (.aload_n 0, 1) := dk_42 (dk_at dksX3_isWhiteHorizontal_0 4 rfl rfl)
theorem dX3_isWhiteHorizontal_5 : decode cX3_isWhiteHorizontal 5 = .ok (.arraylength, 1) := dk_190 (dk_at dksX3_isWhiteHorizontal_0 5 rfl rfl)
theorem dX3_isWhiteHorizontal_6 : decode cX3_isWhiteHorizontal 6 = .ok (.iload_n 2, 1) := dk_28 (dk_at dksX3_isWhiteHorizontal_0 6 rfl rfl)
theorem dX3_isWhiteHorizontal_7 : decode cX3_isWhiteHorizontal 7 = .ok (.if_icmp .ge 5, 3) := dk_162 0 5 (dk_at dksX3_isWhiteHorizontal_0 7 rfl rfl)
theorem dX3_isWhiteHorizontal_10 : decode cX3_isWhiteHorizontal 10 = .ok (.iconst 0, 1) := dk_3 (dk_at dksX3_isWhiteHorizontal_0 10 rfl rfl)
theorem dX3_isWhiteHorizontal_11 : decode cX3_isWhiteHorizontal 11 = .ok (.ireturn, 1) := dk_172 (dk_at dksX3_isWhiteHorizontal_0 11 rfl rfl)
theorem dX3_isWhiteHorizontal_12 : decode cX3_isWhiteHorizontal 12 = .ok (.iload_n 1, 1) := dk_27 (dk_at dksX3_isWhiteHorizontal_0 12 rfl rfl)
theorem dX3_isWhiteHorizontal_13 : decode cX3_isWhiteHorizontal 13 = .ok (.istore_n 3, 1) := dk_62 (dk_at dksX3_isWhiteHorizontal_0 13 rfl rfl)
theorem dX3_isWhiteHorizontal_14 : decode cX3_isWhiteHorizontal 14 = .ok (.iload_n 3, 1) := dk_29 (dk_at dksX3_isWhiteHorizontal_0 14 rfl rfl)
theorem dX3_isWhiteHorizontal_15 : decode cX3_isWhiteHorizontal 15 = .ok (.iload_n 2, 1) := dk_28 (dk_at dksX3_isWhiteHorizontal_0 15 rfl rfl)
theorem dX3_isWhiteHorizontal_16 : decode cX3_isWhiteHorizontal 16 = .ok (.if_icmp .ge 18, 3) := dk_162 0 18 (dk_at dksX3_isWhiteHorizontal_0 16 rfl rfl)
theorem dX3_isWhiteHorizontal_19 : decode cX3_isWhiteHorizontal 19 = .ok (.aload_n 0, 1) := dk_42 (dk_at dksX3_isWhiteHorizontal_0 19 rfl rfl)
theorem dX3_isWhiteHorizontal_20 : decode cX3_isWhiteHorizontal 20 = .ok (.iload_n 3, 1) := dk_29 (dk_at dksX3_isWhiteHorizontal_0 20 rfl rfl)
theorem dX3_isWhiteHorizontal_21 : decode cX3_isWhiteHorizontal 21 = .ok (.baload, 1) := dk_51 (dk_at dksX3_isWhiteHorizontal_0 21 rfl rfl)
theorem dX3_isWhiteHorizontal_22 : decode cX3_isWhiteHorizontal 22 = .ok (.iconst 1, 1) := dk_4 (dk_at dksX3_isWhiteHorizontal_0 22 rfl rfl)
theorem dX3_isWhiteHorizontal_23 : decode cX3_isWhiteHorizontal 23 = .ok (.if_icmp .ne 5, 3) := dk_160 0 5 (dk_at dksX3_isWhiteHorizontal_1 0 rfl rfl)
theorem dX3_isWhiteHorizontal_26 : decode cX3_isWhiteHorizontal 26 = .ok (.iconst 0, 1) := dk_3 (dk_at dksX3_isWhiteHorizontal_1 3 rfl rfl)
theorem dX3_isWhiteHorizontal_27 : decode cX3_isWhiteHorizontal 27 = .ok (.ireturn, 1) := dk_172 (dk_at dksX3_isWhiteHorizontal_1 4 rfl rfl)
theorem dX3_isWhiteHorizontal_28 : decode cX3_isWhiteHorizontal 28 = .ok (.iinc 3 1, 3) := dk_132 3 1 (dk_at dksX3_isWhiteHorizontal_1 5 rfl rfl)
theorem dX3_isWhiteHorizontal_31 : decode cX3_isWhiteHorizontal 31 = .ok (.goto (-17), 3) := dk_167 255 239 (dk_at dksX3_isWhiteHorizontal_1 8 rfl rfl)
theorem dX3_isWhiteHorizontal_34 : decode cX3_isWhiteHorizontal 34 = .ok (.iconst 1, 1) := dk_4 (dk_at dksX3_isWhiteHorizontal_1 11 rfl rfl)
theorem dX3_isWhiteHorizontal_35 : decode cX3_isWhiteHorizontal 35 = .ok (.ireturn, 1) := dk_172 (dk_at dksX3_isWhiteHorizontal_1 12 rfl rfl)
abbrev cX3_isWhiteVertical : ByteArray := prog_2_method_5_code
def yX3_isWhiteVertical : MethodName := ⟨RX3, "isWhiteVertical", "([[BIII)Z"⟩
def dkwX3_isWhiteVertical_1 : List UInt8 := [50, 27, 51, 4, 160, 0, 5, 3, 172, 132, 4, 1, 167, 255, 235, 4, 172]
abbrev dktX3_isWhiteVertical_1 : List UInt8 := dkwX3_isWhiteVertical_1 ++ []
def dkwX3_isWhiteVertical_0 : List UInt8 := [28, 155, 0, 9, 42, 190, 29, 162, 0, 5, 3, 172, 28, 54, 4, 21, 4, 29, 162, 0, 21, 42, 21, 4]
abbrev dktX3_isWhiteVertical_0 : List UInt8 := dkwX3_isWhiteVertical_0 ++ dktX3_isWhiteVertical_1
theorem dksX3_isWhiteVertical_0 : cX3_isWhiteVertical.data.toList.drop 0 = dktX3_isWhiteVertical_0 := by decide +kernel
theorem dksX3_isWhiteVertical_1 : cX3_isWhiteVertical.data.toList.drop 24 = dktX3_isWhiteVertical_1 := dk_seg dksX3_isWhiteVertical_0 24 rfl rfl
theorem dX3_isWhiteVertical_0 : decode cX3_isWhiteVertical 0 = .ok (.iload_n 2, 1) := dk_28 (dk_at dksX3_isWhiteVertical_0 0 rfl rfl)
theorem dX3_isWhiteVertical_1 : decode cX3_isWhiteVertical 1 = .ok (.ifCond .lt 9, 3) := dk_155 0 9 (dk_at dksX3_isWhiteVertical_0 1 rfl rfl)
theorem dX3_isWhiteVertical_4 : decode cX3_isWhiteVertical 4 = .ok (.aload_n 0, 1) := dk_42 (dk_at dksX3_isWhiteVertical_0 4 rfl rfl)
theorem dX3_isWhiteVertical_5 : decode cX3_isWhiteVertical 5 = .ok (.arraylength, 1) := dk_190 (dk_at dksX3_isWhiteVertical_0 5 rfl rfl)
theorem dX3_isWhiteVertical_6 : decode cX3_isWhiteVertical 6 = .ok (.iload_n 3, 1) := dk_29 (dk_at dksX3_isWhiteVertical_0 6 rfl rfl)
theorem dX3_isWhiteVertical_7 : decode cX3_isWhiteVertical 7 = .ok (.if_icmp .ge 5, 3) := dk_162 0 5 (dk_at dksX3_isWhiteVertical_0 7 rfl rfl)
theorem dX3_isWhiteVertical_10 : decode cX3_isWhiteVertical 10 = .ok (.iconst 0, 1) := dk_3 (dk_at dksX3_isWhiteVertical_0 10 rfl rfl)
theorem dX3_isWhiteVertical_11 : decode cX3_isWhiteVertical 11 = .ok (.ireturn, 1) := dk_172 (dk_at dksX3_isWhiteVertical_0 11 rfl rfl)
theorem dX3_isWhiteVertical_12 : decode cX3_isWhiteVertical 12 = .ok (.iload_n 2, 1) := dk_28 (dk_at dksX3_isWhiteVertical_0 12 rfl rfl)
theorem dX3_isWhiteVertical_13 : decode cX3_isWhiteVertical 13 = .ok (.istore 4, 2) := dk_54 4 (dk_at dksX3_isWhiteVertical_0 13 rfl rfl)
theorem dX3_isWhiteVertical_15 : decode cX3_isWhiteVertical 15 = .ok (.iload 4, 2) := dk_21 4 (dk_at dksX3_isWhiteVertical_0 15 rfl rfl)
theorem dX3_isWhiteVertical_17 : decode cX3_isWhiteVertical 17 = .ok (.iload_n 3, 1) := dk_29 (dk_at dksX3_isWhiteVertical_0 17 rfl rfl)
theorem dX3_isWhiteVertical_18 : decode cX3_isWhiteVertical 18 = .ok (.if_icmp .ge 21, 3) := dk_162 0 21 (dk_at dksX3_isWhiteVertical_0 18 rfl rfl)
theorem dX3_isWhiteVertical_21 : decode cX3_isWhiteVertical 21 = .ok (.aload_n 0, 1) := dk_42 (dk_at dksX3_isWhiteVertical_0 21 rfl rfl)
theorem dX3_isWhiteVertical_22 : decode cX3_isWhiteVertical 22 = .ok (.iload 4, 2) := dk_21 4 (dk_at dksX3_isWhiteVertical_0 22 rfl rfl)
theorem dX3_isWhiteVertical_24 : decode cX3_isWhiteVertical 24 = .ok (.aaload, 1) := dk_50 (dk_at dksX3_isWhiteVertical_1 0 rfl rfl)
theorem dX3_isWhiteVertical_25 : decode cX3_isWhiteVertical 25 = .ok (.iload_n 1, 1) := dk_27 (dk_at dksX3_isWhiteVertical_1 1 rfl rfl)
theorem dX3_isWhiteVertical_26 : decode cX3_isWhiteVertical 26 = .ok (.baload, 1) := dk_51 (dk_at dksX3_isWhiteVertical_1 2 rfl rfl)
theorem dX3_isWhiteVertical_27 : decode cX3_isWhiteVertical 27 = .ok (.iconst 1, 1) := dk_4 (dk_at dksX3_isWhiteVertical_1 3 rfl rfl)
theorem dX3_isWhiteVertical_28 : decode cX3_isWhiteVertical 28 = .ok (.if_icmp .ne 5, 3) := dk_160 0 5 (dk_at dksX3_isWhiteVertical_1 4 rfl rfl)
theorem dX3_isWhiteVertical_31 : decode cX3_isWhiteVertical 31 = .ok (.iconst 0, 1) := dk_3 (dk_at dksX3_isWhiteVertical_1 7 rfl rfl)
theorem dX3_isWhiteVertical_32 : decode cX3_isWhiteVertical 32 = .ok (.ireturn, 1) := dk_172 (dk_at dksX3_isWhiteVertical_1 8 rfl rfl)
theorem dX3_isWhiteVertical_33 : decode cX3_isWhiteVertical 33 = .ok (.iinc 4 1, 3) := dk_132 4 1 (dk_at dksX3_isWhiteVertical_1 9 rfl rfl)
theorem dX3_isWhiteVertical_36 : decode cX3_isWhiteVertical 36 = .ok (.goto (-21), 3) := dk_167 255 235 (dk_at dksX3_isWhiteVertical_1 12 rfl rfl)
theorem dX3_isWhiteVertical_39 : decode cX3_isWhiteVertical 39 = .ok (.iconst 1, 1) := dk_4 (dk_at dksX3_isWhiteVertical_1 15 rfl rfl)
theorem dX3_isWhiteVertical_40 : decode cX3_isWhiteVertical 40 = .ok (.ireturn, 1) := dk_172 (dk_at dksX3_isWhiteVertical_1 16 rfl rfl)
abbrev cX3_applyMaskPenaltyRule1 : ByteArray := prog_2_method_1_code
def yX3_applyMaskPenaltyRule1 : MethodName := ⟨RX3, "applyMaskPenaltyRule1", "(LByteMatrix;)I"⟩
def dkwX3_applyMaskPenaltyRule1_0 : List UInt8 := [42, 4, 184, 0, 1, 42, 3, 184, 0, 1, 96, 172]
abbrev dktX3_applyMaskPenaltyRule1_0 : List UInt8 := dkwX3_applyMaskPenaltyRule1_0 ++ []
theorem dksX3_applyMaskPenaltyRule1_0 : cX3_applyMaskPenaltyRule1.data.toList.drop 0 = dktX3_applyMaskPenaltyRule1_0 := by decide +kernel
theorem dX3_applyMaskPenaltyRule1_0 : decode cX3_applyMaskPenaltyRule1 0 = .ok (.aload_n 0, 1) := dk_42 (dk_at dksX3_applyMaskPenaltyRule1_0 0 rfl rfl)
theorem dX3_applyMaskPenaltyRule1_1 : decode cX3_applyMaskPenaltyRule1 1 = .ok (.iconst 1, 1) := dk_4 (dk_at dksX3_applyMaskPenaltyRule1_0 1 rfl rfl)
theorem dX3_applyMaskPenaltyRule1_2 : decode cX3_applyMaskPenaltyRule1 2 = .ok (.invokestatic 1, 3) := dk_184 0 1 (dk_at dksX3_applyMaskPenaltyRule1_0 2 rfl rfl)
theorem dX3_applyMaskPenaltyRule1_5 : decode cX3_applyMaskPenaltyRule1 5 = .ok (.aload_n 0, 1) := dk_42 (dk_at dksX3_applyMaskPenaltyRule1_0 5 rfl rfl)
theorem dX3_applyMaskPenaltyRule1_6 : decode cX3_applyMaskPenaltyRule1 6 = .ok (.iconst 0, 1) := dk_3 (dk_at dksX3_applyMaskPenaltyRule1_0 6 rfl rfl)
theorem dX3_applyMaskPenaltyRule1_7 : decode cX3_applyMaskPenaltyRule1 7 = .ok (.invokestatic 1, 3) := dk_184 0 1 (dk_at dksX3_applyMaskPenaltyRule1_0 7 rfl rfl)
theorem dX3_applyMaskPenaltyRule1_10 : decode cX3_applyMaskPenaltyRule1 10 = .ok (.iadd, 1) := dk_96 (dk_at dksX3_applyMaskPenaltyRule1_0 10 rfl rfl)
theorem dX3_applyMaskPenaltyRule1_11 : decode cX3_applyMaskPenaltyRule1 11 = .ok (.ireturn, 1) := dk_172 (dk_at dksX3_applyMaskPenaltyRule1_0 11 rfl rfl)
abbrev cX3_applyMaskPenaltyRule1Internal : ByteArray := prog_2_method_8_code
def yX3_applyMaskPenaltyRule1Internal : MethodName := ⟨RX3, "applyMaskPenaltyRule1Internal", "(LByteMatrix;Z)I"⟩
def dkwX3_applyMaskPenaltyRule1Internal_6 : List UInt8 := [21, 7, 8, 100, 96, 96, 61, 132, 6, 1, 167, 255, 150, 28, 172]
abbrev dktX3_applyMaskPenaltyRule1Internal_6 : List UInt8 := dkwX3_applyMaskPenaltyRule1Internal_6 ++ []
def dkwX3_applyMaskPenaltyRule1Internal_5 : List UInt8 := [96, 61, 4, 54, 7, 21, 10, 54, 8, 132, 9, 1, 167, 255, 186, 21, 7, 8, 161, 0, 12, 28, 6]
abbrev dktX3_applyMaskPenaltyRule1Internal_5 : List UInt8 := dkwX3_applyMaskPenaltyRule1Internal_5 ++ dktX3_applyMaskPenaltyRule1Internal_6
def dkwX3_applyMaskPenaltyRule1Internal_4 : List UInt8 := [21, 8, 160, 0, 9, 132, 7, 1, 167, 0, 25, 21, 7, 8, 161, 0, 12, 28, 6, 21, 7, 8, 100, 96]
abbrev dktX3_applyMaskPenaltyRule1Internal_4 : List UInt8 := dkwX3_applyMaskPenaltyRule1Internal_4 ++ dktX3_applyMaskPenaltyRule1Internal_5
def dkwX3_applyMaskPenaltyRule1Internal_3 : List UInt8 := [25, 5, 21, 6, 50, 21, 9, 51, 167, 0, 11, 25, 5, 21, 9, 50, 21, 6, 51, 54, 10, 21, 10]
abbrev dktX3_applyMaskPenaltyRule1Internal_3 : List UInt8 := dkwX3_applyMaskPenaltyRule1Internal_3 ++ dktX3_applyMaskPenaltyRule1Internal_4
def dkwX3_applyMaskPenaltyRule1Internal_2 : List UInt8 := [162, 0, 106, 3, 54, 7, 2, 54, 8, 3, 54, 9, 21, 9, 21, 4, 162, 0, 69, 27, 153, 0, 14]
abbrev dktX3_applyMaskPenaltyRule1Internal_2 : List UInt8 := dkwX3_applyMaskPenaltyRule1Internal_2 ++ dktX3_applyMaskPenaltyRule1Internal_3
def dkwX3_applyMaskPenaltyRule1Internal_1 : List UInt8 := [182, 0, 13, 167, 0, 7, 42, 182, 0, 17, 54, 4, 42, 182, 0, 7, 58, 5, 3, 54, 6, 21, 6, 29]
abbrev dktX3_applyMaskPenaltyRule1Internal_1 : List UInt8 := dkwX3_applyMaskPenaltyRule1Internal_1 ++ dktX3_applyMaskPenaltyRule1Internal_2
def dkwX3_applyMaskPenaltyRule1Internal_0 : List UInt8 := [3, 61, 27, 153, 0, 10, 42, 182, 0, 17, 167, 0, 7, 42, 182, 0, 13, 62, 27, 153, 0, 10, 42]
abbrev dktX3_applyMaskPenaltyRule1Internal_0 : List UInt8 := dkwX3_applyMaskPenaltyRule1Internal_0 ++ dktX3_applyMaskPenaltyRule1Internal_1
theorem dksX3_applyMaskPenaltyRule1Internal_0 : cX3_applyMaskPenaltyRule1Internal.data.toList.drop 0 = dktX3_applyMaskPenaltyRule1Internal_0 := by decide +kernel
theorem dksX3_applyMaskPenaltyRule1Internal_1 : cX3_applyMaskPenaltyRule1Internal.data.toList.drop 23 = dktX3_applyMaskPenaltyRule1Internal_1 := dk_seg dksX3_applyMaskPenaltyRule1Internal_0 23 rfl rfl
theorem dksX3_applyMaskPenaltyRule1Internal_2 : cX3_applyMaskPenaltyRule1Internal.data.toList.drop 47 = dktX3_applyMaskPenaltyRule1Internal_2 := dk_seg dksX3_applyMaskPenaltyRule1Internal_1 24 rfl rfl
theorem dksX3_applyMaskPenaltyRule1Internal_3 : cX3_applyMaskPenaltyRule1Internal.data.toList.drop 70 = dktX3_applyMaskPenaltyRule1Internal_3 := dk_seg dksX3_applyMaskPenaltyRule1Internal_2 23 rfl rfl
theorem dksX3_applyMaskPenaltyRule1Internal_4 : cX3_applyMaskPenaltyRule1Internal.data.toList.drop 93 = dktX3_applyMaskPenaltyRule1Internal_4 := dk_seg dksX3_applyMaskPenaltyRule1Internal_3 23 rfl rfl
theorem dksX3_applyMaskPenaltyRule1Internal_5 : cX3_applyMaskPenaltyRule1Internal.data.toList.drop 117 = dktX3_applyMaskPenaltyRule1Internal_5 := dk_seg dksX3_applyMaskPenaltyRule1Internal_4 24 rfl rfl
theorem dksX3_applyMaskPenaltyRule1Internal_6 : cX3_applyMaskPenaltyRule1Internal.data.toList.drop 140 = dktX3_applyMaskPenaltyRule1Internal_6 := dk_seg dksX3_applyMaskPenaltyRule1Internal_5 23 rfl rfl
theorem dX3_applyMaskPenaltyRule1Internal_0 : decode cX3_applyMaskPenaltyRule1Internal 0 = .ok (.iconst 0, 1) := dk_3 (dk_at dksX3_applyMaskPenaltyRule1Internal_0 0 rfl rfl)
theorem dX3_applyMaskPenaltyRule1Internal_1 : decode cX3_applyMaskPenaltyRule1Internal 1 = .ok (.istore_n 2, 1) := dk_61 (dk_at dksX3_applyMaskPenaltyRule1Internal_0 1 rfl rfl)
theorem dX3_applyMaskPenaltyRule1Internal_2 : decode cX3_applyMaskPenaltyRule1Internal 2 = .ok (.iload_n 1, 1) := dk_27 (dk_at dksX3_applyMaskPenaltyRule1Internal_0 2 rfl rfl)
theorem dX3_applyMaskPenaltyRule1Internal_3 : decode cX3_applyMaskPenaltyRule1Internal 3 = .ok (.ifCond .eq 10, 3) := dk_153 0 10 (dk_at dksX3_applyMaskPenaltyRule1Internal_0 3 rfl rfl)
theorem dX3_applyMaskPenaltyRule1Internal_6 : decode cX3_applyMaskPenaltyRule1Internal 6 = .ok (.aload_n 0, 1) := dk_42 (dk_at dksX3_applyMaskPenaltyRule1Internal_0 6 rfl rfl)
theorem dX3_applyMaskPenaltyRule1Internal_7 : decode cX3_applyMaskPenaltyRule1Internal 7 = .ok (.invokevirtual 17, 3) := dk_182 0 17 (dk_at dksX3_applyMaskPenaltyRule1Internal_0 7 rfl rfl)
theorem dX3_applyMaskPenaltyRule1Internal_10 : decode cX3_applyMaskPenaltyRule1Internal 10 = .ok (.goto 7, 3) := dk_167 0 7 (dk_at dksX3_applyMaskPenaltyRule1Internal_0 10 rfl rfl)
theorem dX3_applyMaskPenaltyRule1Internal_13 : decode cX3_applyMaskPenaltyRule1Internal 13 = .ok (.aload_n 0, 1) := dk_42 (dk_at dksX3_applyMaskPenaltyRule1Internal_0 13 rfl rfl)
theorem dX3_applyMaskPenaltyRule1Internal_14 : decode cX3_applyMaskPenaltyRule1Internal 14 = .ok (.invokevirtual 13, 3) := dk_182 0 13 (dk_at dksX3_applyMaskPenaltyRule1Internal_0 14 rfl rfl)
theorem dX3_applyMaskPenaltyRule1Internal_17 : decode cX3_applyMaskPenaltyRule1Internal 17 = .ok (.istore_n 3, 1) := dk_62 (dk_at dksX3_applyMaskPenaltyRule1Internal_0 17 rfl rfl)
theorem dX3_applyMaskPenaltyRule1Internal_18 : decode cX3_applyMaskPenaltyRule1Internal 18 = .ok (.iload_n 1, 1) := dk_27 (dk_at dksX3_applyMaskPenaltyRule1Internal_0 18 rfl rfl)
theorem dX3_applyMaskPenaltyRule1Internal_19 : decode cX3_applyMaskPenaltyRule1Internal 19 = .ok (.ifCond .eq 10, 3) := dk_153 0 10 (dk_at dksX3_applyMaskPenaltyRule1Internal_0 19 rfl rfl)
theorem dX3_applyMaskPenaltyRule1Internal_22 : decode cX3_applyMaskPenaltyRule1Internal 22 = .ok (.aload_n 0, 1) := dk_42 (dk_at dksX3_applyMaskPenaltyRule1Internal_0 22 rfl rfl)
theorem dX3_applyMaskPenaltyRule1Internal_23 : decode cX3_applyMaskPenaltyRule1Internal 23 = .ok (.invokevirtual 13, 3) := dk_182 0 13 (dk_at dksX3_applyMaskPenaltyRule1Internal_1 0 rfl rfl)
theorem dX3_applyMaskPenaltyRule1Internal_26 : decode cX3_applyMaskPenaltyRule1Internal 26 = .ok (.goto 7, 3) := dk_167 0 7 (dk_at dksX3_applyMaskPenaltyRule1Internal_1 3 rfl rfl)
theorem dX3_applyMaskPenaltyRule1Internal_29 : decode cX3_applyMaskPenaltyRule1Internal 29 = .ok (.aload_n 0, 1) := dk_42 (dk_at dksX3_applyMaskPenaltyRule1Internal_1 6 rfl rfl)
theorem dX3_applyMaskPenaltyRule1Internal_30 : decode cX3_applyMaskPenaltyRule1Internal 30 = .ok (.invokevirtual 17, 3) := dk_182 0 17 (dk_at dksX3_applyMaskPenaltyRule1Internal_1 7 rfl rfl)
theorem dX3_applyMaskPenaltyRule1Internal_33 : decode cX3_applyMaskPenaltyRule1Internal 33 = .ok (.istore 4, 2) := dk_54 4 (dk_at dksX3_applyMaskPenaltyRule1Internal_1 10 rfl rfl)
theorem dX3_applyMaskPenaltyRule1Internal_35 : decode cX3_applyMaskPenaltyRule1Internal 35 = .ok (.aload_n 0, 1) := dk_42 (dk_at dksX3_applyMaskPenaltyRule1Internal_1 12 rfl rfl)
theorem dX3_applyMaskPenaltyRule1Internal_36 : decode cX3_applyMaskPenaltyRule1Internal 36 = .ok (.invokevirtual 7, 3) := dk_182 0 7 (dk_at dksX3_applyMaskPenaltyRule1Internal_1 13 rfl rfl)
theorem dX3_applyMaskPenaltyRule1Internal_39 : decode cX3_applyMaskPenaltyRule1Internal 39 = .ok (.astore 5, 2) := dk_58 5 (dk_at dksX3_applyMaskPenaltyRule1Internal_1 16 rfl rfl)
theorem dX3_applyMaskPenaltyRule1Internal_41 : decode cX3_applyMaskPenaltyRule1Internal 41 = .ok (.iconst 0, 1) := dk_3 (dk_at dksX3_applyMaskPenaltyRule1Internal_1 18 rfl rfl)
theorem dX3_applyMaskPenaltyRule1Internal_42 : decode cX3_applyMaskPenaltyRule1Internal 42 = .ok (.istore 6, 2) := dk_54 6 (dk_at dksX3_applyMaskPenaltyRule1Internal_1 19 rfl rfl)
theorem dX3_applyMaskPenaltyRule1Internal_44 : decode cX3_applyMaskPenaltyRule1Internal 44 = .ok (.iload 6, 2) := dk_21 6 (dk_at dksX3_applyMaskPenaltyRule1Internal_1 21 rfl rfl)
theorem dX3_applyMaskPenaltyRule1Internal_46 : decode cX3_applyMaskPenaltyRule1Internal 46 = .ok (.iload_n 3, 1) := dk_29 (dk_at dksX3_applyMaskPenaltyRule1Internal_1 23 rfl rfl)
theorem dX3_applyMaskPenaltyRule1Internal_47 : decode cX3_applyMaskPenaltyRule1Internal 47 = .ok (.if_icmp .ge 106, 3) := dk_162 0 106 (dk_at dksX3_applyMaskPenaltyRule1Internal_2 0 rfl rfl)
theorem dX3_applyMaskPenaltyRule1Internal_50 : decode cX3_applyMaskPenaltyRule1Internal 50 = .ok (.iconst 0, 1) := dk_3 (dk_at dksX3_applyMaskPenaltyRule1Internal_2 3 rfl rfl)
theorem dX3_applyMaskPenaltyRule1Internal_51 : decode cX3_applyMaskPenaltyRule1Internal 51 = .ok (.istore 7, 2) := dk_54 7 (dk_at dksX3_applyMaskPenaltyRule1Internal_2 4 rfl rfl)
theorem dX3_applyMaskPenaltyRule1Internal_53 : decode cX3_applyMaskPenaltyRule1Internal 53 = .ok (.iconst (-1), 1) := dk_2 (dk_at dksX3_applyMaskPenaltyRule1Internal_2 6 rfl rfl)
theorem dX3_applyMaskPenaltyRule1Internal_54 : decode cX3_applyMaskPenaltyRule1Internal 54 = .ok (.istore 8, 2) := dk_54 8 (dk_at dksX3_applyMaskPenaltyRule1Internal_2 7 rfl rfl)
theorem dX3_applyMaskPenaltyRule1Internal_56 : decode cX3_applyMaskPenaltyRule1Internal 56 = .ok (.iconst 0, 1) := dk_3 (dk_at dksX3_applyMaskPenaltyRule1Internal_2 9 rfl rfl)
theorem dX3_applyMaskPenaltyRule1Internal_57 : decode cX3_applyMaskPenaltyRule1Internal 57 = .ok (.istore 9, 2) := dk_54 9 (dk_at dksX3_applyMaskPenaltyRule1Internal_2 10 rfl rfl)
theorem dX3_applyMaskPenaltyRule1Internal_59 : decode cX3_applyMaskPenaltyRule1Internal 59 = .ok (.iload 9, 2) := dk_21 9 (dk_at dksX3_applyMaskPenaltyRule1Internal_2 12 rfl rfl)
theorem dX3_applyMaskPenaltyRule1Internal_61 : decode cX3_applyMaskPenaltyRule1Internal 61 = .ok (.iload 4, 2) := dk_21 4 (dk_at dksX3_applyMaskPenaltyRule1Internal_2 14 rfl rfl)
theorem dX3_applyMaskPenaltyRule1Internal_63 : decode cX3_applyMaskPenaltyRule1Internal 63 = .ok (.if_icmp .ge 69, 3) := dk_162 0 69 (dk_at dksX3_applyMaskPenaltyRule1Internal_2 16 rfl rfl)
theorem dX3_applyMaskPenaltyRule1Internal_66 : decode cX3_applyMaskPenaltyRule1Internal 66 = .ok (.iload_n 1, 1) := dk_27 (dk_at dksX3_applyMaskPenaltyRule1Internal_2 19 rfl rfl)
theorem dX3_applyMaskPenaltyRule1Internal_67 : decode cX3_applyMaskPenaltyRule1Internal 67 = .ok (.ifCond .eq 14, 3) := dk_153 0 14 (dk_at dksX3_applyMaskPenaltyRule1Internal_2 20 rfl rfl)
theorem dX3_applyMaskPenaltyRule1Internal_70 : decode cX3_applyMaskPenaltyRule1Internal 70 = .ok (.aload 5, 2) := dk_25 5 (dk_at dksX3_applyMaskPenaltyRule1Internal_3 0 rfl rfl)
theorem dX3_applyMaskPenaltyRule1Internal_72 : decode cX3_applyMaskPenaltyRule1Internal 72 = .ok (.iload 6, 2) := dk_21 6 (dk_at dksX3_applyMaskPenaltyRule1Internal_3 2 rfl rfl)
theorem dX3_applyMaskPenaltyRule1Internal_74 : decode cX3_applyMaskPenaltyRule1Internal 74 = .ok (.aaload, 1) := dk_50 (dk_at dksX3_applyMaskPenaltyRule1Internal_3 4 rfl rfl)
theorem dX3_applyMaskPenaltyRule1Internal_75 : decode cX3_applyMaskPenaltyRule1Internal 75 = .ok (.iload 9, 2) := dk_21 9 (dk_at dksX3_applyMaskPenaltyRule1Internal_3 5 rfl rfl)
theorem dX3_applyMaskPenaltyRule1Internal_77 : decode cX3_applyMaskPenaltyRule1Internal 77 = .ok (.baload, 1) := dk_51 (dk_at dksX3_applyMaskPenaltyRule1Internal_3 7 rfl rfl)
theorem dX3_applyMaskPenaltyRule1Internal_78 : decode cX3_applyMaskPenaltyRule1Internal 78 = .ok (.goto 11, 3) := dk_167 0 11 (dk_at dksX3_applyMaskPenaltyRule1Internal_3 8 rfl rfl)
theorem dX3_applyMaskPenaltyRule1Internal_81 : decode cX3_applyMaskPenaltyRule1Internal 81 = .ok (.aload 5, 2) := dk_25 5 (dk_at dksX3_applyMaskPenaltyRule1Internal_3 11 rfl rfl)
theorem dX3_applyMaskPenaltyRule1Internal_83 : decode cX3_applyMaskPenaltyRule1Internal 83 = .ok (.iload 9, 2) := dk_21 9 (dk_at dksX3_applyMaskPenaltyRule1Internal_3 13 rfl rfl)
theorem dX3_applyMaskPenaltyRule1Internal_85 : decode cX3_applyMaskPenaltyRule1Internal 85 = .ok (.aaload, 1) := dk_50 (dk_at dksX3_applyMaskPenaltyRule1Internal_3 15 rfl rfl)
theorem dX3_applyMaskPenaltyRule1Internal_86 : decode cX3_applyMaskPenaltyRule1Internal 86 = .ok (.iload 6, 2) := dk_21 6 (dk_at dksX3_applyMaskPenaltyRule1Internal_3 16 rfl rfl)
theorem dX3_applyMaskPenaltyRule1Internal_88 : decode cX3_applyMaskPenaltyRule1Internal 88 = .ok (.baload, 1) := dk_51 (dk_at dksX3_applyMaskPenaltyRule1Internal_3 18 rfl rfl)
theorem dX3_applyMaskPenaltyRule1Internal_89 : decode cX3_applyMaskPenaltyRule1Internal 89 = .ok (.istore 10, 2) := dk_54 10 (dk_at dksX3_applyMaskPenaltyRule1Internal_3 19 rfl rfl)
theorem dX3_applyMaskPenaltyRule1Internal_91 : decode cX3_applyMaskPenaltyRule1Internal 91 = .ok (.iload 10, 2) := dk_21 10 (dk_at dksX3_applyMaskPenaltyRule1Internal_3 21 rfl rfl)
theorem dX3_applyMaskPenaltyRule1Internal_93 : decode cX3_applyMaskPenaltyRule1Internal 93 = .ok (.iload 8, 2) := dk_21 8 (dk_at dksX3_applyMaskPenaltyRule1Internal_4 0 rfl rfl)
theorem dX3_applyMaskPenaltyRule1Internal_95 : decode cX3_applyMaskPenaltyRule1Internal 95 = .ok (.if_icmp .ne 9, 3) := dk_160 0 9 (dk_at dksX3_applyMaskPenaltyRule1Internal_4 2 rfl rfl)
theorem dX3_applyMaskPenaltyRule1Internal_98 : decode cX3_applyMaskPenaltyRule1Internal 98 = .ok (.iinc 7 1, 3) := dk_132 7 1 (dk_at dksX3_applyMaskPenaltyRule1Internal_4 5 rfl rfl)
theorem dX3_applyMaskPenaltyRule1Internal_101 : decode cX3_applyMaskPenaltyRule1Internal 101 = .ok (.goto 25, 3) := dk_167 0 25 (dk_at dksX3_applyMaskPenaltyRule1Internal_4 8 rfl rfl)
theorem dX3_applyMaskPenaltyRule1Internal_104 : decode cX3_applyMaskPenaltyRule1Internal 104 = .ok (.iload 7, 2) := dk_21 7 (dk_at dksX3_applyMaskPenaltyRule1Internal_4 11 rfl rfl)
theorem dX3_applyMaskPenaltyRule1Internal_106 : decode cX3_applyMaskPenaltyRule1Internal 106 = .ok (.iconst 5, 1) := dk_8 (dk_at dksX3_applyMaskPenaltyRule1Internal_4 13 rfl rfl)
theorem dX3_applyMaskPenaltyRule1Internal_107 : decode cX3_applyMaskPenaltyRule1Internal 107 = .ok (.if_icmp .lt 12, 3) := dk_161 0 12 (dk_at dksX3_applyMaskPenaltyRule1Internal_4 14 rfl rfl)
theorem dX3_applyMaskPenaltyRule1Internal_110 : decode cX3_applyMaskPenaltyRule1Internal 110 = .ok (.iload_n 2, 1) := dk_28 (dk_at dksX3_applyMaskPenaltyRule1Internal_4 17 rfl rfl)
theorem dX3_applyMaskPenaltyRule1Internal_111 : decode cX3_applyMaskPenaltyRule1Internal 111 = .ok (.iconst 3, 1) := dk_6 (dk_at dksX3_applyMaskPenaltyRule1Internal_4 18 rfl rfl)
theorem dX3_applyMaskPenaltyRule1Internal_112 : decode cX3_applyMaskPenaltyRule1Internal 112 = .ok (.iload 7, 2) := dk_21 7 (dk_at dksX3_applyMaskPenaltyRule1Internal_4 19 rfl rfl)
theorem dX3_applyMaskPenaltyRule1Internal_114 : decode cX3_applyMaskPenaltyRule1Internal 114 = .ok (.iconst 5, 1) := dk_8 (dk_at dksX3_applyMaskPenaltyRule1Internal_4 21 rfl rfl)
theorem dX3_applyMaskPenaltyRule1Internal_115 : decode cX3_applyMaskPenaltyRule1Internal 115 = .ok (.isub, 1) := dk_100 (dk_at dksX3_applyMaskPenaltyRule1Internal_4 22 rfl rfl)
theorem dX3_applyMaskPenaltyRule1Internal_116 : decode cX3_applyMaskPenaltyRule1Internal 116 = .ok (.iadd, 1) := dk_96 (dk_at dksX3_applyMaskPenaltyRule1Internal_4 23 rfl rfl)
theorem dX3_applyMaskPenaltyRule1Internal_117 : decode cX3_applyMaskPenaltyRule1Internal 117 = .ok (.iadd, 1) := dk_96 (dk_at dksX3_applyMaskPenaltyRule1Internal_5 0 rfl rfl)
theorem dX3_applyMaskPenaltyRule1Internal_118 : decode cX3_applyMaskPenaltyRule1Internal 118 = .ok (.istore_n 2, 1) := dk_61 (dk_at dksX3_applyMaskPenaltyRule1Internal_5 1 rfl rfl)
theorem dX3_applyMaskPenaltyRule1Internal_119 : decode cX3_applyMaskPenaltyRule1Internal 119 = .ok (.iconst 1, 1) := dk_4 (dk_at dksX3_applyMaskPenaltyRule1Internal_5 2 rfl rfl)
theorem dX3_applyMaskPenaltyRule1Internal_120 : decode cX3_applyMaskPenaltyRule1Internal 120 = .ok (.istore 7, 2) := dk_54 7 (dk_at dksX3_applyMaskPenaltyRule1Internal_5 3 rfl rfl)
theorem dX3_applyMaskPenaltyRule1Internal_122 : decode cX3_applyMaskPenaltyRule1Internal 122 = .ok (.iload 10, 2) := dk_21 10 (dk_at dksX3_applyMaskPenaltyRule1Internal_5 5 rfl rfl)
theorem dX3_applyMaskPenaltyRule1Internal_124 : decode cX3_applyMaskPenaltyRule1Internal 124 = .ok (.istore 8, 2) := dk_54 8 (dk_at dksX3_applyMaskPenaltyRule1Internal_5 7 rfl rfl)
theorem dX3_applyMaskPenaltyRule1Internal_126 : decode cX3_applyMaskPenaltyRule1Internal 126 = .ok (.iinc 9 1, 3) := dk_132 9 1 (dk_at dksX3_applyMaskPenaltyRule1Internal_5 9 rfl rfl)
theorem dX3_applyMaskPenaltyRule1Internal_129 : decode cX3_applyMaskPenaltyRule1Internal 129 = .ok (.goto (-70), 3) := dk_167 255 186 (dk_at dksX3_applyMaskPenaltyRule1Internal_5 12 rfl rfl)
theorem dX3_applyMaskPenaltyRule1Internal_132 : decode cX3_applyMaskPenaltyRule1Internal 132 = .ok (.iload 7, 2) := dk_21 7 (dk_at dksX3_applyMaskPenaltyRule1Internal_5 15 rfl rfl)
theorem dX3_applyMaskPenaltyRule1Internal_134 : decode cX3_applyMaskPenaltyRule1Internal 134 = .ok (.iconst 5, 1) := dk_8 (dk_at dksX3_applyMaskPenaltyRule1Internal_5 17 rfl rfl)
theorem dX3_applyMaskPenaltyRule1Internal_135 : decode cX3_applyMaskPenaltyRule1Internal 135 = .ok (.if_icmp .lt 12, 3) := dk_161 0 12 (dk_at dksX3_applyMaskPenaltyRule1Internal_5 18 rfl rfl)
theorem dX3_applyMaskPenaltyRule1Internal_138 : decode cX3_applyMaskPenaltyRule1Internal 138 = .ok (.iload_n 2, 1) := dk_28 (dk_at dksX3_applyMaskPenaltyRule1Internal_5 21 rfl rfl)
theorem dX3_applyMaskPenaltyRule1Internal_139 : decode cX3_applyMaskPenaltyRule1Internal 139 = .ok (.iconst 3, 1) := dk_6 (dk_at dksX3_applyMaskPenaltyRule1Internal_5 22 rfl rfl)
theorem dX3_applyMaskPenaltyRule1Internal_140 : decode cX3_applyMaskPenaltyRule1Internal 140 = .ok (.iload 7, 2) := dk_21 7 (dk_at dksX3_applyMaskPenaltyRule1Internal_6 0 rfl rfl)
theorem dX3_applyMaskPenaltyRule1Internal_142 : decode cX3_applyMaskPenaltyRule1Internal 142 = .ok (.iconst 5, 1) := dk_8 (dk_at dksX3_applyMaskPenaltyRule1Internal_6 2 rfl rfl)
theorem dX3_applyMaskPenaltyRule1Internal_143 : decode cX3_applyMaskPenaltyRule1Internal 143 = .ok (.isub, 1) := dk_100 (dk_at dksX3_applyMaskPenaltyRule1Internal_6 3 rfl rfl)
theorem dX3_applyMaskPenaltyRule1Internal_144 : decode cX3_applyMaskPenaltyRule1Internal 144 = .ok (.iadd, 1) := dk_96 (dk_at dksX3_applyMaskPenaltyRule1Internal_6 4 rfl rfl)
theorem dX3_applyMaskPenaltyRule1Internal_145 : decode cX3_applyMaskPenaltyRule1Internal 145 = .ok (.iadd, 1) := dk_96 (dk_at dksX3_applyMaskPenaltyRule1Internal_6 5 rfl rfl)
theorem dX3_applyMaskPenaltyRule1Internal_146 : decode cX3_applyMaskPenaltyRule1Internal 146 = .ok (.istore_n 2, 1) := dk_61 (dk_at dksX3_applyMaskPenaltyRule1Internal_6 6 rfl rfl)
theorem dX3_applyMaskPenaltyRule1Internal_147 : decode cX3_applyMaskPenaltyRule1Internal 147 = .ok (.iinc 6 1, 3) := dk_132 6 1 (dk_at dksX3_applyMaskPenaltyRule1Internal_6 7 rfl rfl)
theorem dX3_applyMaskPenaltyRule1Internal_150 : decode cX3_applyMaskPenaltyRule1Internal 150 = .ok (.goto (-106), 3) := dk_167 255 150 (dk_at dksX3_applyMaskPenaltyRule1Internal_6 10 rfl rfl)
theorem dX3_applyMaskPenaltyRule1Internal_153 : decode cX3_applyMaskPenaltyRule1Internal 153 = .ok (.iload_n 2, 1) := dk_28 (dk_at dksX3_applyMaskPenaltyRule1Internal_6 13 rfl rfl)
theorem dX3_applyMaskPenaltyRule1Internal_154 : decode cX3_applyMaskPenaltyRule1Internal 154 = .ok (.ireturn, 1) := dk_172 (dk_at dksX3_applyMaskPenaltyRule1Internal_6 14 rfl rfl)
abbrev cX3_applyMaskPenaltyRule2 : ByteArray := prog_2_method_2_code
def yX3_applyMaskPenaltyRule2 : MethodName := ⟨RX3, "applyMaskPenaltyRule2", "(LByteMatrix;)I"⟩
def dkwX3_applyMaskPenaltyRule2_4 : List UInt8 := [160, 0, 6, 132, 1, 1, 132, 7, 1, 167, 255, 193, 132, 5, 1, 167, 255, 169, 6, 27, 104, 172]
abbrev dktX3_applyMaskPenaltyRule2_4 : List UInt8 := dkwX3_applyMaskPenaltyRule2_4 ++ []
def dkwX3_applyMaskPenaltyRule2_3 : List UInt8 := [4, 96, 50, 21, 7, 51, 160, 0, 22, 21, 8, 44, 21, 5, 4, 96, 50, 21, 7, 4, 96, 51]
abbrev dktX3_applyMaskPenaltyRule2_3 : List UInt8 := dkwX3_applyMaskPenaltyRule2_3 ++ dktX3_applyMaskPenaltyRule2_4
def dkwX3_applyMaskPenaltyRule2_2 : List UInt8 := [25, 6, 21, 7, 51, 54, 8, 21, 8, 25, 6, 21, 7, 4, 96, 51, 160, 0, 36, 21, 8, 44, 21, 5]
abbrev dktX3_applyMaskPenaltyRule2_2 : List UInt8 := dkwX3_applyMaskPenaltyRule2_2 ++ dktX3_applyMaskPenaltyRule2_3
def dkwX3_applyMaskPenaltyRule2_1 : List UInt8 := [21, 4, 4, 100, 162, 0, 84, 44, 21, 5, 50, 58, 6, 3, 54, 7, 21, 7, 29, 4, 100, 162, 0, 61]
abbrev dktX3_applyMaskPenaltyRule2_1 : List UInt8 := dkwX3_applyMaskPenaltyRule2_1 ++ dktX3_applyMaskPenaltyRule2_2
def dkwX3_applyMaskPenaltyRule2_0 : List UInt8 := [3, 60, 42, 182, 0, 7, 77, 42, 182, 0, 13, 62, 42, 182, 0, 17, 54, 4, 3, 54, 5, 21, 5]
abbrev dktX3_applyMaskPenaltyRule2_0 : List UInt8 := dkwX3_applyMaskPenaltyRule2_0 ++ dktX3_applyMaskPenaltyRule2_1
theorem dksX3_applyMaskPenaltyRule2_0 : cX3_applyMaskPenaltyRule2.data.toList.drop 0 = dktX3_applyMaskPenaltyRule2_0 := by decide +kernel
theorem dksX3_applyMaskPenaltyRule2_1 : cX3_applyMaskPenaltyRule2.data.toList.drop 23 = dktX3_applyMaskPenaltyRule2_1 := dk_seg dksX3_applyMaskPenaltyRule2_0 23 rfl rfl
theorem dksX3_applyMaskPenaltyRule2_2 : cX3_applyMaskPenaltyRule2.data.toList.drop 47 = dktX3_applyMaskPenaltyRule2_2 := dk_seg dksX3_applyMaskPenaltyRule2_1 24 rfl rfl
theorem dksX3_applyMaskPenaltyRule2_3 : cX3_applyMaskPenaltyRule2.data.toList.drop 71 = dktX3_applyMaskPenaltyRule2_3 := dk_seg dksX3_applyMaskPenaltyRule2_2 24 rfl rfl
theorem dksX3_applyMaskPenaltyRule2_4 : cX3_applyMaskPenaltyRule2.data.toList.drop 93 = dktX3_applyMaskPenaltyRule2_4 := dk_seg dksX3_applyMaskPenaltyRule2_3 22 rfl rfl
theorem dX3_applyMaskPenaltyRule2_0 : decode cX3_applyMaskPenaltyRule2 0 = .ok (.iconst 0, 1) := dk_3 (dk_at dksX3_applyMaskPenaltyRule2_0 0 rfl rfl)
theorem dX3_applyMaskPenaltyRule2_1 : decode cX3_applyMaskPenaltyRule2 1 = .ok (.istore_n 1, 1) := dk_60 (dk_at dksX3_applyMaskPenaltyRule2_0 1 rfl rfl)
theorem dX3_applyMaskPenaltyRule2_2 : decode cX3_applyMaskPenaltyRule2 2 = .ok (.aload_n 0, 1) := dk_42 (dk_at dksX3_applyMaskPenaltyRule2_0 2 rfl rfl)
theorem dX3_applyMaskPenaltyRule2_3 : decode cX3_applyMaskPenaltyRule2 3 = .ok (.invokevirtual 7, 3) := dk_182 0 7 (dk_at dksX3_applyMaskPenaltyRule2_0 3 rfl rfl)
theorem dX3_applyMaskPenaltyRule2_6 : decode cX3_applyMaskPenaltyRule2 6 = .ok (.astore_n 2, 1) := dk_77 (dk_at dksX3_applyMaskPenaltyRule2_0 6 rfl rfl)
theorem dX3_applyMaskPenaltyRule2_7 : decode cX3_applyMaskPenaltyRule2 7 = .ok (.aload_n 0, 1) := dk_42 (dk_at dksX3_applyMaskPenaltyRule2_0 7 rfl rfl)
theorem dX3_applyMaskPenaltyRule2_8 : decode cX3_applyMaskPenaltyRule2 8 = .ok (.invokevirtual 13, 3) := dk_182 0 13 (dk_at dksX3_applyMaskPenaltyRule2_0 8 rfl rfl)
theorem dX3_applyMaskPenaltyRule2_11 : decode cX3_applyMaskPenaltyRule2 11 = .ok (.istore_n 3, 1) := dk_62 (dk_at dksX3_applyMaskPenaltyRule2_0 11 rfl rfl)
theorem dX3_applyMaskPenaltyRule2_12 : decode cX3_applyMaskPenaltyRule2 12 = .ok (.aload_n 0, 1) := dk_42 (dk_at dksX3_applyMaskPenaltyRule2_0 12 rfl rfl)
theorem dX3_applyMaskPenaltyRule2_13 : decode cX3_applyMaskPenaltyRule2 13 = .ok (.invokevirtual 17, 3) := dk_182 0 17 (dk_at dksX3_applyMaskPenaltyRule2_0 13 rfl rfl)
theorem dX3_applyMaskPenaltyRule2_16 : decode cX3_applyMaskPenaltyRule2 16 = .ok (.istore 4, 2) := dk_54 4 (dk_at dksX3_applyMaskPenaltyRule2_0 16 rfl rfl)
theorem dX3_applyMaskPenaltyRule2_18 : decode cX3_applyMaskPenaltyRule2 18 = .ok (.iconst 0, 1) := dk_3 (dk_at dksX3_applyMaskPenaltyRule2_0 18 rfl rfl)
theorem dX3_applyMaskPenaltyRule2_19 : decode cX3_applyMaskPenaltyRule2 19 = .ok (.istore 5, 2) := dk_54 5 (dk_at dksX3_applyMaskPenaltyRule2_0 19 rfl rfl)
theorem dX3_applyMaskPenaltyRule2_21 : decode cX3_applyMaskPenaltyRule2 21 = .ok (.iload 5, 2) := dk_21 5 (dk_at dksX3_applyMaskPenaltyRule2_0 21 rfl rfl)
theorem dX3_applyMaskPenaltyRule2_23 : decode cX3_applyMaskPenaltyRule2 23 = .ok (.iload 4, 2) := dk_21 4 (dk_at dksX3_applyMaskPenaltyRule2_1 0 rfl rfl)
theorem dX3_applyMaskPenaltyRule2_25 : decode cX3_applyMaskPenaltyRule2 25 = .ok (.iconst 1, 1) := dk_4 (dk_at dksX3_applyMaskPenaltyRule2_1 2 rfl rfl)
theorem dX3_applyMaskPenaltyRule2_26 : decode cX3_applyMaskPenaltyRule2 26 = .ok (.isub, 1) := dk_100 (dk_at dksX3_applyMaskPenaltyRule2_1 3 rfl rfl)
theorem dX3_applyMaskPenaltyRule2_27 : decode cX3_applyMaskPenaltyRule2 27 = .ok (.if_icmp .ge 84, 3) := dk_162 0 84 (dk_at dksX3_applyMaskPenaltyRule2_1 4 rfl rfl)
theorem dX3_applyMaskPenaltyRule2_30 : decode cX3_applyMaskPenaltyRule2 30 = .ok (.aload_n 2, 1) := dk_44 (dk_at dksX3_applyMaskPenaltyRule2_1 7 rfl rfl)
theorem dX3_applyMaskPenaltyRule2_31 : decode cX3_applyMaskPenaltyRule2 31 = .ok (.iload 5, 2) := dk_21 5 (dk_at dksX3_applyMaskPenaltyRule2_1 8 rfl rfl)
theorem dX3_applyMaskPenaltyRule2_33 : decode cX3_applyMaskPenaltyRule2 33 = .ok (.aaload, 1) := dk_50 (dk_at dksX3_applyMaskPenaltyRule2_1 10 rfl rfl)
theorem dX3_applyMaskPenaltyRule2_34 : decode cX3_applyMaskPenaltyRule2 34 = .ok (.astore 6, 2) := dk_58 6 (dk_at dksX3_applyMaskPenaltyRule2_1 11 rfl rfl)
theorem dX3_applyMaskPenaltyRule2_36 : decode cX3_applyMaskPenaltyRule2 36 = .ok (.iconst 0, 1) := dk_3 (dk_at dksX3_applyMaskPenaltyRule2_1 13 rfl rfl)
theorem dX3_applyMaskPenaltyRule2_37 : decode cX3_applyMaskPenaltyRule2 37 = .ok (.istore 7, 2) := dk_54 7 (dk_at dksX3_applyMaskPenaltyRule2_1 14 rfl rfl)
theorem dX3_applyMaskPenaltyRule2_39 : decode cX3_applyMaskPenaltyRule2 39 = .ok (.iload 7, 2) := dk_21 7 (dk_at dksX3_applyMaskPenaltyRule2_1 16 rfl rfl)
theorem dX3_applyMaskPenaltyRule2_41 : decode cX3_applyMaskPenaltyRule2 41 = .ok (.iload_n 3, 1) := dk_29 (dk_at dksX3_applyMaskPenaltyRule2_1 18 rfl rfl)
theorem dX3_applyMaskPenaltyRule2_42 : decode cX3_applyMaskPenaltyRule2 42 = .ok (.iconst 1, 1) := dk_4 (dk_at dksX3_applyMaskPenaltyRule2_1 19 rfl rfl)
theorem dX3_applyMaskPenaltyRule2_43 : decode cX3_applyMaskPenaltyRule2 43 = .ok (.isub, 1) := dk_100 (dk_at dksX3_applyMaskPenaltyRule2_1 20 rfl rfl)
theorem dX3_applyMaskPenaltyRule2_44 : decode cX3_applyMaskPenaltyRule2 44 = .ok (.if_icmp .ge 61, 3) := dk_162 0 61 (dk_at dksX3_applyMaskPenaltyRule2_1 21 rfl rfl)
theorem dX3_applyMaskPenaltyRule2_47 : decode cX3_applyMaskPenaltyRule2 47 = .ok (.aload 6, 2) := dk_25 6 (dk_at dksX3_applyMaskPenaltyRule2_2 0 rfl rfl)
theorem dX3_applyMaskPenaltyRule2_49 : decode cX3_applyMaskPenaltyRule2 49 = .ok (.iload 7, 2) := dk_21 7 (dk_at dksX3_applyMaskPenaltyRule2_2 2 rfl rfl)
theorem dX3_applyMaskPenaltyRule2_51 : decode cX3_applyMaskPenaltyRule2 51 = .ok (.baload, 1) := dk_51 (dk_at dksX3_applyMaskPenaltyRule2_2 4 rfl rfl)
theorem dX3_applyMaskPenaltyRule2_52 : decode cX3_applyMaskPenaltyRule2 52 = .ok (.istore 8, 2) := dk_54 8 (dk_at dksX3_applyMaskPenaltyRule2_2 5 rfl rfl)
theorem dX3_applyMaskPenaltyRule2_54 : decode cX3_applyMaskPenaltyRule2 54 = .ok (.iload 8, 2) := dk_21 8 (dk_at dksX3_applyMaskPenaltyRule2_2 7 rfl rfl)
theorem dX3_applyMaskPenaltyRule2_56 : decode cX3_applyMaskPenaltyRule2 56 = .ok (.aload 6, 2) := dk_25 6 (dk_at dksX3_applyMaskPenaltyRule2_2 9 rfl rfl)
theorem dX3_applyMaskPenaltyRule2_58 : decode cX3_applyMaskPenaltyRule2 58 = .ok (.iload 7, 2) := dk_21 7 (dk_at dksX3_applyMaskPenaltyRule2_2 11 rfl rfl)
theorem dX3_applyMaskPenaltyRule2_60 : decode cX3_applyMaskPenaltyRule2 60 = .ok (.iconst 1, 1) := dk_4 (dk_at dksX3_applyMaskPenaltyRule2_2 13 rfl rfl)
theorem dX3_applyMaskPenaltyRule2_61 : decode cX3_applyMaskPenaltyRule2 61 = .ok (.iadd, 1) := dk_96 (dk_at dksX3_applyMaskPenaltyRule2_2 14 rfl rfl)
theorem dX3_applyMaskPenaltyRule2_62 : decode cX3_applyMaskPenaltyRule2 62 = .ok (.baload, 1) := dk_51 (dk_at dksX3_applyMaskPenaltyRule2_2 15 rfl rfl)
theorem dX3_applyMaskPenaltyRule2_63 : decode cX3_applyMaskPenaltyRule2 63 = .ok (.if_icmp .ne 36, 3) := dk_160 0 36 (dk_at dksX3_applyMaskPenaltyRule2_2 16 rfl rfl)
theorem dX3_applyMaskPenaltyRule2_66 : decode cX3_applyMaskPenaltyRule2 66 = .ok (.iload 8, 2) := dk_21 8 (dk_at dksX3_applyMaskPenaltyRule2_2 19 rfl rfl)
theorem dX3_applyMaskPenaltyRule2_68 : decode cX3_applyMaskPenaltyRule2 68 = .ok (.aload_n 2, 1) := dk_44 (dk_at dksX3_applyMaskPenaltyRule2_2 21 rfl rfl)
theorem dX3_applyMaskPenaltyRule2_69 : decode cX3_applyMaskPenaltyRule2 69 = .ok (.iload 5, 2) := dk_21 5 (dk_at dksX3_applyMaskPenaltyRule2_2 22 rfl rfl)
theorem dX3_applyMaskPenaltyRule2_71 : decode cX3_applyMaskPenaltyRule2 71 = .ok (.iconst 1, 1) := dk_4 (dk_at dksX3_applyMaskPenaltyRule2_3 0 rfl rfl)
theorem dX3_applyMaskPenaltyRule2_72 : decode cX3_applyMaskPenaltyRule2 72 = .ok (.iadd, 1) := dk_96 (dk_at dksX3_applyMaskPenaltyRule2_3 1 rfl rfl)
theorem dX3_applyMaskPenaltyRule2_73 : decode cX3_applyMaskPenaltyRule2 73 = .ok (.aaload, 1) := dk_50 (dk_at dksX3_applyMaskPenaltyRule2_3 2 rfl rfl)
theorem dX3_applyMaskPenaltyRule2_74 : decode cX3_applyMaskPenaltyRule2 74 = .ok (.iload 7, 2) := dk_21 7 (dk_at dksX3_applyMaskPenaltyRule2_3 3 rfl rfl)
theorem dX3_applyMaskPenaltyRule2_76 : decode cX3_applyMaskPenaltyRule2 76 = .ok (.baload, 1) := dk_51 (dk_at dksX3_applyMaskPenaltyRule2_3 5 rfl rfl)
theorem dX3_applyMaskPenaltyRule2_77 : decode cX3_applyMaskPenaltyRule2 77 = .ok (.if_icmp .ne 22, 3) := dk_160 0 22 (dk_at dksX3_applyMaskPenaltyRule2_3 6 rfl rfl)
theorem dX3_applyMaskPenaltyRule2_80 : decode cX3_applyMaskPenaltyRule2 80 = .ok (.iload 8, 2) := dk_21 8 (dk_at dksX3_applyMaskPenaltyRule2_3 9 rfl rfl)
theorem dX3_applyMaskPenaltyRule2_82 : decode cX3_applyMaskPenaltyRule2 82 = .ok (.aload_n 2, 1) := dk_44 (dk_at dksX3_applyMaskPenaltyRule2_3 11 rfl rfl)
theorem dX3_applyMaskPenaltyRule2_83 : decode cX3_applyMaskPenaltyRule2 83 = .ok (.iload 5, 2) := dk_21 5 (dk_at dksX3_applyMaskPenaltyRule2_3 12 rfl rfl)
theorem dX3_applyMaskPenaltyRule2_85 : decode cX3_applyMaskPenaltyRule2 85 = .ok (.iconst 1, 1) := dk_4 (dk_at dksX3_applyMaskPenaltyRule2_3 14 rfl rfl)
theorem dX3_applyMaskPenaltyRule2_86 : decode cX3_applyMaskPenaltyRule2 86 = .ok (.iadd, 1) := dk_96 (dk_at dksX3_applyMaskPenaltyRule2_3 15 rfl rfl)
theorem dX3_applyMaskPenaltyRule2_87 : decode cX3_applyMaskPenaltyRule2 87 = .ok (.aaload, 1) := dk_50 (dk_at dksX3_applyMaskPenaltyRule2_3 16 rfl rfl)
theorem dX3_applyMaskPenaltyRule2_88 : decode cX3_applyMaskPenaltyRule2 88 = .ok (.iload 7, 2) := dk_21 7 (dk_at dksX3_applyMaskPenaltyRule2_3 17 rfl rfl)
theorem dX3_applyMaskPenaltyRule2_90 : decode cX3_applyMaskPenaltyRule2 90 = .ok (.iconst 1, 1) := dk_4 (dk_at dksX3_applyMaskPenaltyRule2_3 19 rfl rfl)
theorem dX3_applyMaskPenaltyRule2_91 : decode cX3_applyMaskPenaltyRule2 91 = .ok (.iadd, 1) := dk_96 (dk_at dksX3_applyMaskPenaltyRule2_3 20 rfl rfl)
theorem dX3_applyMaskPenaltyRule2_92 : decode cX3_applyMaskPenaltyRule2 92 = .ok (.baload, 1) := dk_51 (dk_at dksX3_applyMaskPenaltyRule2_3 21 rfl rfl)
theorem dX3_applyMaskPenaltyRule2_93 : decode cX3_applyMaskPenaltyRule2 93 = .ok (.if_icmp .ne 6, 3) := dk_160 0 6 (dk_at dksX3_applyMaskPenaltyRule2_4 0 rfl rfl)
theorem dX3_applyMaskPenaltyRule2_96 : decode cX3_applyMaskPenaltyRule2 96 = .ok (.iinc 1 1, 3) := dk_132 1 1 (dk_at dksX3_applyMaskPenaltyRule2_4 3 rfl rfl)
theorem dX3_applyMaskPenaltyRule2_99 : decode cX3_applyMaskPenaltyRule2 99 = .ok (.iinc 7 1, 3) := dk_132 7 1 (dk_at dksX3_applyMaskPenaltyRule2_4 6 rfl rfl)
theorem dX3_applyMaskPenaltyRule2_102 : decode cX3_applyMaskPenaltyRule2 102 = .ok (.goto (-63), 3) := dk_167 255 193 (dk_at dksX3_applyMaskPenaltyRule2_4 9 rfl rfl)
theorem dX3_applyMaskPenaltyRule2_105 : decode cX3_applyMaskPenaltyRule2 105 = .ok (.iinc 5 1, 3) := dk_132 5 1 (dk_at dksX3_applyMaskPenaltyRule2_4 12 rfl rfl)
theorem dX3_applyMaskPenaltyRule2_108 : decode cX3_applyMaskPenaltyRule2 108 = .ok (.goto (-87), 3) := dk_167 255 169 (dk_at dksX3_applyMaskPenaltyRule2_4 15 rfl rfl)
theorem dX3_applyMaskPenaltyRule2_111 : decode cX3_applyMaskPenaltyRule2 111 = .ok (.iconst 3, 1) := dk_6 (dk_at dksX3_applyMaskPenaltyRule2_4 18 rfl rfl)
theorem dX3_applyMaskPenaltyRule2_112 : decode cX3_applyMaskPenaltyRule2 112 = .ok (.iload_n 1, 1) := dk_27 (dk_at dksX3_applyMaskPenaltyRule2_4 19 rfl rfl)
theorem dX3_applyMaskPenaltyRule2_113 : decode cX3_applyMaskPenaltyRule2 113 = .ok (.imul, 1) := dk_104 (dk_at dksX3_applyMaskPenaltyRule2_4 20 rfl rfl)
theorem dX3_applyMaskPenaltyRule2_114 : decode cX3_applyMaskPenaltyRule2 114 = .ok (.ireturn, 1) := dk_172 (dk_at dksX3_applyMaskPenaltyRule2_4 21 rfl rfl)
abbrev cX3_applyMaskPenaltyRule4 : ByteArray := prog_2_method_6_code
def yX3_applyMaskPenaltyRule4 : MethodName := ⟨RX3, "applyMaskPenaltyRule4", "(LByteMatrix;)I"⟩
def dkwX3_applyMaskPenaltyRule4_4 : List UInt8 := [21, 6, 16, 10, 104, 172]
abbrev dktX3_applyMaskPenaltyRule4_4 : List UInt8 := dkwX3_applyMaskPenaltyRule4_4 ++ []
def dkwX3_applyMaskPenaltyRule4_3 : List UInt8 := [42, 182, 0, 13, 104, 54, 5, 27, 5, 104, 21, 5, 100, 184, 0, 28, 16, 10, 104, 21, 5, 108, 54, 6]
abbrev dktX3_applyMaskPenaltyRule4_3 : List UInt8 := dkwX3_applyMaskPenaltyRule4_3 ++ dktX3_applyMaskPenaltyRule4_4
def dkwX3_applyMaskPenaltyRule4_2 : List UInt8 := [51, 4, 160, 0, 6, 132, 1, 1, 132, 7, 1, 167, 255, 235, 132, 5, 1, 167, 255, 213, 42, 182, 0, 17]
abbrev dktX3_applyMaskPenaltyRule4_2 : List UInt8 := dkwX3_applyMaskPenaltyRule4_2 ++ dktX3_applyMaskPenaltyRule4_3
def dkwX3_applyMaskPenaltyRule4_1 : List UInt8 := [21, 4, 162, 0, 42, 44, 21, 5, 50, 58, 6, 3, 54, 7, 21, 7, 29, 162, 0, 21, 25, 6, 21, 7]
abbrev dktX3_applyMaskPenaltyRule4_1 : List UInt8 := dkwX3_applyMaskPenaltyRule4_1 ++ dktX3_applyMaskPenaltyRule4_2
def dkwX3_applyMaskPenaltyRule4_0 : List UInt8 := [3, 60, 42, 182, 0, 7, 77, 42, 182, 0, 13, 62, 42, 182, 0, 17, 54, 4, 3, 54, 5, 21, 5]
abbrev dktX3_applyMaskPenaltyRule4_0 : List UInt8 := dkwX3_applyMaskPenaltyRule4_0 ++ dktX3_applyMaskPenaltyRule4_1
theorem dksX3_applyMaskPenaltyRule4_0 : cX3_applyMaskPenaltyRule4.data.toList.drop 0 = dktX3_applyMaskPenaltyRule4_0 := by decide +kernel
theorem dksX3_applyMaskPenaltyRule4_1 : cX3_applyMaskPenaltyRule4.data.toList.drop 23 = dktX3_applyMaskPenaltyRule4_1 := dk_seg dksX3_applyMaskPenaltyRule4_0 23 rfl rfl
theorem dksX3_applyMaskPenaltyRule4_2 : cX3_applyMaskPenaltyRule4.data.toList.drop 47 = dktX3_applyMaskPenaltyRule4_2 := dk_seg dksX3_applyMaskPenaltyRule4_1 24 rfl rfl
theorem dksX3_applyMaskPenaltyRule4_3 : cX3_applyMaskPenaltyRule4.data.toList.drop 71 = dktX3_applyMaskPenaltyRule4_3 := dk_seg dksX3_applyMaskPenaltyRule4_2 24 rfl rfl
theorem dksX3_applyMaskPenaltyRule4_4 : cX3_applyMaskPenaltyRule4.data.toList.drop 95 = dktX3_applyMaskPenaltyRule4_4 := dk_seg dksX3_applyMaskPenaltyRule4_3 24 rfl rfl
theorem dX3_applyMaskPenaltyRule4_0 : decode cX3_applyMaskPenaltyRule4 0 = .ok (.iconst 0, 1) := dk_3 (dk_at dksX3_applyMaskPenaltyRule4_0 0 rfl rfl)
theorem dX3_applyMaskPenaltyRule4_1 : decode cX3_applyMaskPenaltyRule4 1 = .ok (.istore_n 1, 1) := dk_60 (dk_at dksX3_applyMaskPenaltyRule4_0 1 rfl rfl)
theorem dX3_applyMaskPenaltyRule4_2 : decode cX3_applyMaskPenaltyRule4 2 = .ok (.aload_n 0, 1) := dk_42 (dk_at dksX3_applyMaskPenaltyRule4_0 2 rfl rfl)
theorem dX3_applyMaskPenaltyRule4_3 : decode cX3_applyMaskPenaltyRule4 3 = .ok (.invokevirtual 7, 3) := dk_182 0 7 (dk_at dksX3_applyMaskPenaltyRule4_0 3 rfl rfl)
theorem dX3_applyMaskPenaltyRule4_6 : decode cX3_applyMaskPenaltyRule4 6 = .ok (.astore_n 2, 1) := dk_77 (dk_at dksX3_applyMaskPenaltyRule4_0 6 rfl rfl)
theorem dX3_applyMaskPenaltyRule4_7 : decode cX3_applyMaskPenaltyRule4 7 = .ok (.aload_n 0, 1) := dk_42 (dk_at dksX3_applyMaskPenaltyRule4_0 7 rfl rfl)
theorem dX3_applyMaskPenaltyRule4_8 : decode cX3_applyMaskPenaltyRule4 8 = .ok (.invokevirtual 13, 3) := dk_182 0 13 (dk_at dksX3_applyMaskPenaltyRule4_0 8 rfl rfl)
theorem dX3_applyMaskPenaltyRule4_11 : decode cX3_applyMaskPenaltyRule4 11 = .ok (.istore_n 3, 1) := dk_62 (dk_at dksX3_applyMaskPenaltyRule4_0 11 rfl rfl)
theorem dX3_applyMaskPenaltyRule4_12 : decode cX3_applyMaskPenaltyRule4 12 = .ok (.aload_n 0, 1) := dk_42 (dk_at dksX3_applyMaskPenaltyRule4_0 12 rfl rfl)
theorem dX3_applyMaskPenaltyRule4_13 : decode cX3_applyMaskPenaltyRule4 13 = .ok (.invokevirtual 17, 3) := dk_182 0 17 (dk_at dksX3_applyMaskPenaltyRule4_0 13 rfl rfl)
theorem dX3_applyMaskPenaltyRule4_16 : decode cX3_applyMaskPenaltyRule4 16 = .ok (.istore 4, 2) := dk_54 4 (dk_at dksX3_applyMaskPenaltyRule4_0 16 rfl rfl)
theorem dX3_applyMaskPenaltyRule4_18 : decode cX3_applyMaskPenaltyRule4 18 = .ok (.iconst 0, 1) := dk_3 (dk_at dksX3_applyMaskPenaltyRule4_0 18 rfl rfl)
theorem dX3_applyMaskPenaltyRule4_19 : decode cX3_applyMaskPenaltyRule4 19 = .ok (.istore 5, 2) := dk_54 5 (dk_at dksX3_applyMaskPenaltyRule4_0 19 rfl rfl)
theorem dX3_applyMaskPenaltyRule4_21 : decode cX3_applyMaskPenaltyRule4 21 = .ok (.iload 5, 2) := dk_21 5 (dk_at dksX3_applyMaskPenaltyRule4_0 21 rfl rfl)
theorem dX3_applyMaskPenaltyRule4_23 : decode cX3_applyMaskPenaltyRule4 23 = .ok (.iload 4, 2) := dk_21 4 (dk_at dksX3_applyMaskPenaltyRule4_1 0 rfl rfl)
theorem dX3_applyMaskPenaltyRule4_25 : decode cX3_applyMaskPenaltyRule4 25 = .ok (.if_icmp .ge 42, 3) := dk_162 0 42 (dk_at dksX3_applyMaskPenaltyRule4_1 2 rfl rfl)
theorem dX3_applyMaskPenaltyRule4_28 : decode cX3_applyMaskPenaltyRule4 28 = .ok (.aload_n 2, 1) := dk_44 (dk_at dksX3_applyMaskPenaltyRule4_1 5 rfl rfl)
theorem dX3_applyMaskPenaltyRule4_29 : decode cX3_applyMaskPenaltyRule4 29 = .ok (.iload 5, 2) := dk_21 5 (dk_at dksX3_applyMaskPenaltyRule4_1 6 rfl rfl)
theorem dX3_applyMaskPenaltyRule4_31 : decode cX3_applyMaskPenaltyRule4 31 = .ok (.aaload, 1) := dk_50 (dk_at dksX3_applyMaskPenaltyRule4_1 8 rfl rfl)
theorem dX3_applyMaskPenaltyRule4_32 : decode cX3_applyMaskPenaltyRule4 32 = .ok (.astore 6, 2) := dk_58 6 (dk_at dksX3_applyMaskPenaltyRule4_1 9 rfl rfl)
theorem dX3_applyMaskPenaltyRule4_34 : decode cX3_applyMaskPenaltyRule4 34 = .ok (.iconst 0, 1) := dk_3 (dk_at dksX3_applyMaskPenaltyRule4_1 11 rfl rfl)
theorem dX3_applyMaskPenaltyRule4_35 : decode cX3_applyMaskPenaltyRule4 35 = .ok (.istore 7, 2) := dk_54 7 (dk_at dksX3_applyMaskPenaltyRule4_1 12 rfl rfl)
theorem dX3_applyMaskPenaltyRule4_37 : decode cX3_applyMaskPenaltyRule4 37 = .ok (.iload 7, 2) := dk_21 7 (dk_at dksX3_applyMaskPenaltyRule4_1 14 rfl rfl)
theorem dX3_applyMaskPenaltyRule4_39 : decode cX3_applyMaskPenaltyRule4 39 = .ok (.iload_n 3, 1) := dk_29 (dk_at dksX3_applyMaskPenaltyRule4_1 16 rfl rfl)
theorem dX3_applyMaskPenaltyRule4_40 : decode cX3_applyMaskPenaltyRule4 40 = .ok (.if_icmp .ge 21, 3) := dk_162 0 21 (dk_at dksX3_applyMaskPenaltyRule4_1 17 rfl rfl)
theorem dX3_applyMaskPenaltyRule4_43 : decode cX3_applyMaskPenaltyRule4 43 = .ok (.aload 6, 2) := dk_25 6 (dk_at dksX3_applyMaskPenaltyRule4_1 20 rfl rfl)
theorem dX3_applyMaskPenaltyRule4_45 : decode cX3_applyMaskPenaltyRule4 45 = .ok (.iload 7, 2) := dk_21 7 (dk_at dksX3_applyMaskPenaltyRule4_1 22 rfl rfl)
theorem dX3_applyMaskPenaltyRule4_47 : decode cX3_applyMaskPenaltyRule4 47 = .ok (.baload, 1) := dk_51 (dk_at dksX3_applyMaskPenaltyRule4_2 0 rfl rfl)
theorem dX3_applyMaskPenaltyRule4_48 : decode cX3_applyMaskPenaltyRule4 48 = .ok (.iconst 1, 1) := dk_4 (dk_at dksX3_applyMaskPenaltyRule4_2 1 rfl rfl)
theorem dX3_applyMaskPenaltyRule4_49 : decode cX3_applyMaskPenaltyRule4 49 = .ok (.if_icmp .ne 6, 3) := dk_160 0 6 (dk_at dksX3_applyMaskPenaltyRule4_2 2 rfl rfl)
theorem dX3_applyMaskPenaltyRule4_52 : decode cX3_applyMaskPenaltyRule4 52 = .ok (.iinc 1 1, 3) := dk_132 1 1 (dk_at dksX3_applyMaskPenaltyRule4_2 5 rfl rfl)
theorem dX3_applyMaskPenaltyRule4_55 : decode cX3_applyMaskPenaltyRule4 55 = .ok (.iinc 7 1, 3) := dk_132 7 1 (dk_at dksX3_applyMaskPenaltyRule4_2 8 rfl rfl)
theorem dX3_applyMaskPenaltyRule4_58 : decode cX3_applyMaskPenaltyRule4 58 = .ok (.goto (-21), 3) := dk_167 255 235 (dk_at dksX3_applyMaskPenaltyRule4_2 11 rfl rfl)
theorem dX3_applyMaskPenaltyRule4_61 : decode cX3_applyMaskPenaltyRule4 61 = .ok (.iinc 5 1, 3) := dk_132 5 1 (dk_at dksX3_applyMaskPenaltyRule4_2 14 rfl rfl)
theorem dX3_applyMaskPenaltyRule4_64 : decode cX3_applyMaskPenaltyRule4 64 = .ok (.goto (-43), 3) := dk_167 255 213 (dk_at dksX3_applyMaskPenaltyRule4_2 17 rfl rfl)
theorem dX3_applyMaskPenaltyRule4_67 : decode cX3_applyMaskPenaltyRule4 67 = .ok (.aload_n 0, 1) := dk_42 (dk_at dksX3_applyMaskPenaltyRule4_2 20 rfl rfl)
theorem dX3_applyMaskPenaltyRule4_68 : decode cX3_applyMaskPenaltyRule4 68 = .ok (.invokevirtual 17, 3) := dk_182 0 17 (dk_at dksX3_applyMaskPenaltyRule4_2 21 rfl rfl)
theorem dX3_applyMaskPenaltyRule4_71 : decode cX3_applyMaskPenaltyRule4 71 = .ok (.aload_n 0, 1) := dk_42 (dk_at dksX3_applyMaskPenaltyRule4_3 0 rfl rfl)
theorem dX3_applyMaskPenaltyRule4_72 : decode cX3_applyMaskPenaltyRule4 72 = .ok (.invokevirtual 13, 3) := dk_182 0 13 (dk_at dksX3_applyMaskPenaltyRule4_3 1 rfl rfl)
theorem dX3_applyMaskPenaltyRule4_75 : decode cX3_applyMaskPenaltyRule4 75 = .ok (.imul, 1) := dk_104 (dk_at dksX3_applyMaskPenaltyRule4_3 4 rfl rfl)
theorem dX3_applyMaskPenaltyRule4_76 : decode cX3_applyMaskPenaltyRule4 76 = .ok (.istore 5, 2) := dk_54 5 (dk_at dksX3_applyMaskPenaltyRule4_3 5 rfl rfl)
theorem dX3_applyMaskPenaltyRule4_78 : decode cX3_applyMaskPenaltyRule4 78 = .ok (.iload_n 1, 1) := dk_27 (dk_at dksX3_applyMaskPenaltyRule4_3 7 rfl rfl)
theorem dX3_applyMaskPenaltyRule4_79 : decode cX3_applyMaskPenaltyRule4 79 = .ok (.iconst 2, 1) := dk_5 (dk_at dksX3_applyMaskPenaltyRule4_3 8 rfl rfl)
theorem dX3_applyMaskPenaltyRule4_80 : decode cX3_applyMaskPenaltyRule4 80 = .ok (.imul, 1) := dk_104 (dk_at dksX3_applyMaskPenaltyRule4_3 9 rfl rfl)
theorem dX3_applyMaskPenaltyRule4_81 : decode cX3_applyMaskPenaltyRule4 81 = .ok (.iload 5, 2) := dk_21 5 (dk_at dksX3_applyMaskPenaltyRule4_3 10 rfl rfl)
theorem dX3_applyMaskPenaltyRule4_83 : decode cX3_applyMaskPenaltyRule4 83 = .ok (.isub, 1) := dk_100 (dk_at dksX3_applyMaskPenaltyRule4_3 12 rfl rfl)
theorem dX3_applyMaskPenaltyRule4_84 : decode cX3_applyMaskPenaltyRule4 84 = .ok (.invokestatic 28, 3) := dk_184 0 28 (dk_at dksX3_applyMaskPenaltyRule4_3 13 rfl rfl)
theorem dX3_applyMaskPenaltyRule4_87 : decode cX3_applyMaskPenaltyRule4 87 = .ok (.bipush 10, 2) := dk_16 10 (dk_at dksX3_applyMaskPenaltyRule4_3 16 rfl rfl)
theorem dX3_applyMaskPenaltyRule4_89 : decode cX3_applyMaskPenaltyRule4 89 = .ok (.imul, 1) := dk_104 (dk_at dksX3_applyMaskPenaltyRule4_3 18 rfl rfl)
theorem dX3_applyMaskPenaltyRule4_90 : decode cX3_applyMaskPenaltyRule4 90 = .ok (.iload 5, 2) := dk_21 5 (dk_at dksX3_applyMaskPenaltyRule4_3 19 rfl rfl)
theorem dX3_applyMaskPenaltyRule4_92 : decode cX3_applyMaskPenaltyRule4 92 = .ok (.idiv, 1) := dk_108 (dk_at dksX3_applyMaskPenaltyRule4_3 21 rfl rfl)
theorem dX3_applyMaskPenaltyRule4_93 : decode cX3_applyMaskPenaltyRule4 93 = .ok (.istore 6, 2) := dk_54 6 (dk_at dksX3_applyMaskPenaltyRule4_3 22 rfl rfl)
theorem dX3_applyMaskPenaltyRule4_95 : decode cX3_applyMaskPenaltyRule4 95 = .ok (.iload 6, 2) := dk_21 6 (dk_at dksX3_applyMaskPenaltyRule4_4 0 rfl rfl)
theorem dX3_applyMaskPenaltyRule4_97 : decode cX3_applyMaskPenaltyRule4 97 = .ok (.bipush 10, 2) := dk_16 10 (dk_at dksX3_applyMaskPenaltyRule4_4 2 rfl rfl)
theorem dX3_applyMaskPenaltyRule4_99 : decode cX3_applyMaskPenaltyRule4 99 = .ok (.imul, 1) := dk_104 (dk_at dksX3_applyMaskPenaltyRule4_4 4 rfl rfl)
theorem dX3_applyMaskPenaltyRule4_100 : decode cX3_applyMaskPenaltyRule4 100 = .ok (.ireturn, 1) := dk_172 (dk_at dksX3_applyMaskPenaltyRule4_4 5 rfl rfl)
theorem q4 : (Jvm.Cond.initialized "MaskUtil") ∈ lw_all := lw_g (lw_at lw_m0 3 rfl) rfl
theorem q59 : (Jvm.Cond.static ({ cls := "MaskUtil", name := "getDataMaskBit", desc := "(III)Z" } : Jvm.MethodName)) ∈ lw_all := lw_g (lw_at lw_m0 58 rfl) rfl
theorem q60 : (Jvm.Cond.code ({ cls := "MaskUtil", name := "getDataMaskBit", desc := "(III)Z" } : Jvm.MethodName) prog_2_method_7_code (5 : Nat) (Option.some Jvm.ClassFile.FieldType.boolean)) ∈ lw_all := lw_g (lw_at lw_m0 59 rfl) rfl
theorem q61 : (Jvm.Cond.classLink "MaskUtil" (34 : Nat) "java/lang/IllegalArgumentException") ∈ lw_all := lw_g (lw_at lw_m0 60 rfl) rfl
theorem q100 : (Jvm.Cond.stringRef "MaskUtil" (36 : Nat) "left out") ∈ lw_tbl := lw_at lw_m0 99 rfl
theorem q101 : (Jvm.Cond.methodLink "MaskUtil" (38 : Nat) ({ cls := "java/lang/IllegalArgumentException", name := "<init>", desc := "(Ljava/lang/String;)V" } : Jvm.MethodName)) ∈ lw_all := lw_g (lw_at lw_m0 100 rfl) rfl
theorem q156 : (Jvm.Cond.static ({ cls := "MaskUtil", name := "applyMaskPenaltyRule3", desc := "(LByteMatrix;)I" } : Jvm.MethodName)) ∈ lw_all := lw_g (lw_at lw_m0 155 rfl) rfl
theorem q157 : (Jvm.Cond.code ({ cls := "MaskUtil", name := "applyMaskPenaltyRule3", desc := "(LByteMatrix;)I" } : Jvm.MethodName) prog_2_method_3_code (8 : Nat) (Option.some Jvm.ClassFile.FieldType.int)) ∈ lw_all := lw_g (lw_at lw_m0 156 rfl) rfl
theorem q158 : (Jvm.Cond.methodLink "MaskUtil" (7 : Nat) ({ cls := "ByteMatrix", name := "getArray", desc := "()[[B" } : Jvm.MethodName)) ∈ lw_all := lw_g (lw_at lw_m0 157 rfl) rfl
theorem q162 : (Jvm.Cond.methodLink "MaskUtil" (13 : Nat) ({ cls := "ByteMatrix", name := "getWidth", desc := "()I" } : Jvm.MethodName)) ∈ lw_all := lw_g (lw_at lw_m0 161 rfl) rfl
theorem q166 : (Jvm.Cond.methodLink "MaskUtil" (17 : Nat) ({ cls := "ByteMatrix", name := "getHeight", desc := "()I" } : Jvm.MethodName)) ∈ lw_all := lw_g (lw_at lw_m0 165 rfl) rfl
theorem q170 : (Jvm.Cond.methodLink "MaskUtil" (20 : Nat) ({ cls := "MaskUtil", name := "isWhiteHorizontal", desc := "([BII)Z" } : Jvm.MethodName)) ∈ lw_all := lw_g (lw_at lw_m0 169 rfl) rfl
theorem q171 : (Jvm.Cond.static ({ cls := "MaskUtil", name := "isWhiteHorizontal", desc := "([BII)Z" } : Jvm.MethodName)) ∈ lw_all := lw_g (lw_at lw_m0 170 rfl) rfl
theorem q172 : (Jvm.Cond.code ({ cls := "MaskUtil", name := "isWhiteHorizontal", desc := "([BII)Z" } : Jvm.MethodName) prog_2_method_4_code (4 : Nat) (Option.some Jvm.ClassFile.FieldType.boolean)) ∈ lw_all := lw_g (lw_at lw_m0 171 rfl) rfl
theorem q173 : (Jvm.Cond.methodLink "MaskUtil" (24 : Nat) ({ cls := "MaskUtil", name := "isWhiteVertical", desc := "([[BIII)Z" } : Jvm.MethodName)) ∈ lw_all := lw_g (lw_at lw_m0 172 rfl) rfl
theorem q174 : (Jvm.Cond.static ({ cls := "MaskUtil", name := "isWhiteVertical", desc := "([[BIII)Z" } : Jvm.MethodName)) ∈ lw_all := lw_g (lw_at lw_m0 173 rfl) rfl
theorem q175 : (Jvm.Cond.code ({ cls := "MaskUtil", name := "isWhiteVertical", desc := "([[BIII)Z" } : Jvm.MethodName) prog_2_method_5_code (5 : Nat) (Option.some Jvm.ClassFile.FieldType.boolean)) ∈ lw_all := lw_g (lw_at lw_m0 174 rfl) rfl
theorem q190 : (Jvm.Cond.static ({ cls := "MaskUtil", name := "applyMaskPenaltyRule1", desc := "(LByteMatrix;)I" } : Jvm.MethodName)) ∈ lw_all := lw_g (lw_at lw_m0 189 rfl) rfl
theorem q191 : (Jvm.Cond.code ({ cls := "MaskUtil", name := "applyMaskPenaltyRule1", desc := "(LByteMatrix;)I" } : Jvm.MethodName) prog_2_method_1_code (1 : Nat) (Option.some Jvm.ClassFile.FieldType.int)) ∈ lw_all := lw_g (lw_at lw_m0 190 rfl) rfl
theorem q192 : (Jvm.Cond.methodLink "MaskUtil" (1 : Nat) ({ cls := "MaskUtil", name := "applyMaskPenaltyRule1Internal", desc := "(LByteMatrix;Z)I" } : Jvm.MethodName)) ∈ lw_all := lw_g (lw_at lw_m0 191 rfl) rfl
theorem q193 : (Jvm.Cond.static ({ cls := "MaskUtil", name := "applyMaskPenaltyRule1Internal", desc := "(LByteMatrix;Z)I" } : Jvm.MethodName)) ∈ lw_all := lw_g (lw_at lw_m0 192 rfl) rfl
theorem q194 : (Jvm.Cond.code ({ cls := "MaskUtil", name := "applyMaskPenaltyRule1Internal", desc := "(LByteMatrix;Z)I" } : Jvm.MethodName) prog_2_method_8_code (11 : Nat) (Option.some Jvm.ClassFile.FieldType.int)) ∈ lw_all := lw_g (lw_at lw_m0 193 rfl) rfl
theorem q203 : (Jvm.Cond.static ({ cls := "MaskUtil", name := "applyMaskPenaltyRule2", desc := "(LByteMatrix;)I" } : Jvm.MethodName)) ∈ lw_all := lw_g (lw_at lw_m0 202 rfl) rfl
theorem q204 : (Jvm.Cond.code ({ cls := "MaskUtil", name := "applyMaskPenaltyRule2", desc := "(LByteMatrix;)I" } : Jvm.MethodName) prog_2_method_2_code (9 : Nat) (Option.some Jvm.ClassFile.FieldType.int)) ∈ lw_all := lw_g (lw_at lw_m0 203 rfl) rfl
theorem q213 : (Jvm.Cond.static ({ cls := "MaskUtil", name := "applyMaskPenaltyRule4", desc := "(LByteMatrix;)I" } : Jvm.MethodName)) ∈ lw_all := lw_g (lw_at lw_m0 212 rfl) rfl
theorem q214 : (Jvm.Cond.code ({ cls := "MaskUtil", name := "applyMaskPenaltyRule4", desc := "(LByteMatrix;)I" } : Jvm.MethodName) prog_2_method_6_code (8 : Nat) (Option.some Jvm.ClassFile.FieldType.int)) ∈ lw_all := lw_g (lw_at lw_m0 213 rfl) rfl
theorem q215 : (Jvm.Cond.methodLink "MaskUtil" (28 : Nat) ({ cls := "java/lang/Math", name := "abs", desc := "(I)I" } : Jvm.MethodName)) ∈ lw_all := lw_g (lw_at lw_m0 214 rfl) rfl
end
section
/-! PenaltyDeskLaw -/
set_option maxRecDepth 100000
def RX0 : String := "PenaltyDeskLaw"
abbrev cX0_cell : ByteArray := method_2_code
def yX0_cell : MethodName := ⟨RX0, "cell", "([II)I"⟩
def dkwX0_cell_0 : List UInt8 := [27, 42, 190, 162, 0, 15, 27, 16, 96, 162, 0, 9, 42, 27, 46, 167, 0, 4, 3, 172]
abbrev dktX0_cell_0 : List UInt8 := dkwX0_cell_0 ++ []
theorem dksX0_cell_0 : cX0_cell.data.toList.drop 0 = dktX0_cell_0 := by decide +kernel
theorem dX0_cell_0 : decode cX0_cell 0 = .ok (.iload_n 1, 1) := dk_27 (dk_at dksX0_cell_0 0 rfl rfl)
theorem dX0_cell_1 : decode cX0_cell 1 = .ok (.aload_n 0, 1) := dk_42 (dk_at dksX0_cell_0 1 rfl rfl)
theorem dX0_cell_2 : decode cX0_cell 2 = .ok (.arraylength, 1) := dk_190 (dk_at dksX0_cell_0 2 rfl rfl)
theorem dX0_cell_3 : decode cX0_cell 3 = .ok (.if_icmp .ge 15, 3) := dk_162 0 15 (dk_at dksX0_cell_0 3 rfl rfl)
theorem dX0_cell_6 : decode cX0_cell 6 = .ok (.iload_n 1, 1) := dk_27 (dk_at dksX0_cell_0 6 rfl rfl)
theorem dX0_cell_7 : decode cX0_cell 7 = .ok (.bipush 96, 2) := dk_16 96 (dk_at dksX0_cell_0 7 rfl rfl)
theorem dX0_cell_9 : decode cX0_cell 9 = .ok (.if_icmp .ge 9, 3) := dk_162 0 9 (dk_at dksX0_cell_0 9 rfl rfl)
theorem dX0_cell_12 : decode cX0_cell 12 = .ok (.aload_n 0, 1) := dk_42 (dk_at dksX0_cell_0 12 rfl rfl)
theorem dX0_cell_13 : decode cX0_cell 13 = .ok (.iload_n 1, 1) := dk_27 (dk_at dksX0_cell_0 13 rfl rfl)
theorem dX0_cell_14 : decode cX0_cell 14 = .ok (.iaload, 1) := dk_46 (dk_at dksX0_cell_0 14 rfl rfl)
theorem dX0_cell_15 : decode cX0_cell 15 = .ok (.goto 4, 3) := dk_167 0 4 (dk_at dksX0_cell_0 15 rfl rfl)
theorem dX0_cell_18 : decode cX0_cell 18 = .ok (.iconst 0, 1) := dk_3 (dk_at dksX0_cell_0 18 rfl rfl)
theorem dX0_cell_19 : decode cX0_cell 19 = .ok (.ireturn, 1) := dk_172 (dk_at dksX0_cell_0 19 rfl rfl)
abbrev cX0_mod : ByteArray := method_3_code
def yX0_mod : MethodName := ⟨RX0, "mod", "(II)I"⟩
def dkwX0_mod_0 : List UInt8 := [26, 18, 9, 126, 27, 112, 172]
abbrev dktX0_mod_0 : List UInt8 := dkwX0_mod_0 ++ []
theorem dksX0_mod_0 : cX0_mod.data.toList.drop 0 = dktX0_mod_0 := by decide +kernel
theorem dX0_mod_0 : decode cX0_mod 0 = .ok (.iload_n 0, 1) := dk_26 (dk_at dksX0_mod_0 0 rfl rfl)
theorem dX0_mod_1 : decode cX0_mod 1 = .ok (.ldc 9, 2) := dk_18 9 (dk_at dksX0_mod_0 1 rfl rfl)
theorem dX0_mod_3 : decode cX0_mod 3 = .ok (.iand, 1) := dk_126 (dk_at dksX0_mod_0 3 rfl rfl)
theorem dX0_mod_4 : decode cX0_mod 4 = .ok (.iload_n 1, 1) := dk_27 (dk_at dksX0_mod_0 4 rfl rfl)
theorem dX0_mod_5 : decode cX0_mod 5 = .ok (.irem, 1) := dk_112 (dk_at dksX0_mod_0 5 rfl rfl)
theorem dX0_mod_6 : decode cX0_mod 6 = .ok (.ireturn, 1) := dk_172 (dk_at dksX0_mod_0 6 rfl rfl)
abbrev cX0_turns : ByteArray := method_4_code
def yX0_turns : MethodName := ⟨RX0, "turns", "(III)Z"⟩
def dkwX0_turns_7 : List UInt8 := [104, 6, 112, 96, 5, 112, 154, 0, 7, 4, 167, 0, 4, 3, 172]
abbrev dktX0_turns_7 : List UInt8 := dkwX0_turns_7 ++ []
def dkwX0_turns_6 : List UInt8 := [27, 28, 104, 6, 112, 96, 5, 112, 154, 0, 7, 4, 167, 0, 4, 3, 172, 27, 28, 96, 5, 112, 27, 28]
abbrev dktX0_turns_6 : List UInt8 := dkwX0_turns_6 ++ dktX0_turns_7
def dkwX0_turns_5 : List UInt8 := [28, 104, 5, 112, 27, 28, 104, 6, 112, 96, 154, 0, 7, 4, 167, 0, 4, 3, 172, 27, 28, 104, 5, 112]
abbrev dktX0_turns_5 : List UInt8 := dkwX0_turns_5 ++ dktX0_turns_6
def dkwX0_turns_4 : List UInt8 := [167, 0, 4, 3, 172, 28, 5, 108, 27, 6, 108, 96, 5, 112, 154, 0, 7, 4, 167, 0, 4, 3, 172, 27]
abbrev dktX0_turns_4 : List UInt8 := dkwX0_turns_4 ++ dktX0_turns_5
def dkwX0_turns_3 : List UInt8 := [3, 172, 27, 6, 112, 154, 0, 7, 4, 167, 0, 4, 3, 172, 27, 28, 96, 6, 112, 154, 0, 7, 4]
abbrev dktX0_turns_3 : List UInt8 := dkwX0_turns_3 ++ dktX0_turns_4
def dkwX0_turns_2 : List UInt8 := [27, 28, 96, 5, 112, 154, 0, 7, 4, 167, 0, 4, 3, 172, 28, 5, 112, 154, 0, 7, 4, 167, 0, 4]
abbrev dktX0_turns_2 : List UInt8 := dkwX0_turns_2 ++ dktX0_turns_3
def dkwX0_turns_1 : List UInt8 := [170, 0, 0, 0, 0, 0, 0, 156, 0, 0, 0, 0, 0, 0, 0, 6, 0, 0, 0, 44, 0, 0, 0, 58, 0, 0, 0, 70, 0, 0, 0, 82, 0, 0, 0, 96, 0, 0, 0, 114, 0, 0, 0, 134]
abbrev dktX0_turns_1 : List UInt8 := dkwX0_turns_1 ++ dktX0_turns_2
def dkwX0_turns_0 : List UInt8 := [26, 16, 7, 126]
abbrev dktX0_turns_0 : List UInt8 := dkwX0_turns_0 ++ dktX0_turns_1
theorem dksX0_turns_0 : cX0_turns.data.toList.drop 0 = dktX0_turns_0 := by decide +kernel
theorem dksX0_turns_1 : cX0_turns.data.toList.drop 4 = dktX0_turns_1 := dk_seg dksX0_turns_0 4 rfl rfl
theorem dksX0_turns_2 : cX0_turns.data.toList.drop 48 = dktX0_turns_2 := dk_seg dksX0_turns_1 44 rfl rfl
theorem dksX0_turns_3 : cX0_turns.data.toList.drop 72 = dktX0_turns_3 := dk_seg dksX0_turns_2 24 rfl rfl
theorem dksX0_turns_4 : cX0_turns.data.toList.drop 95 = dktX0_turns_4 := dk_seg dksX0_turns_3 23 rfl rfl
theorem dksX0_turns_5 : cX0_turns.data.toList.drop 119 = dktX0_turns_5 := dk_seg dksX0_turns_4 24 rfl rfl
theorem dksX0_turns_6 : cX0_turns.data.toList.drop 143 = dktX0_turns_6 := dk_seg dksX0_turns_5 24 rfl rfl
theorem dksX0_turns_7 : cX0_turns.data.toList.drop 167 = dktX0_turns_7 := dk_seg dksX0_turns_6 24 rfl rfl
theorem dX0_turns_0 : decode cX0_turns 0 = .ok (.iload_n 0, 1) := dk_26 (dk_at dksX0_turns_0 0 rfl rfl)
theorem dX0_turns_1 : decode cX0_turns 1 = .ok (.bipush 7, 2) := dk_16 7 (dk_at dksX0_turns_0 1 rfl rfl)
theorem dX0_turns_3 : decode cX0_turns 3 = .ok (.iand, 1) := dk_126 (dk_at dksX0_turns_0 3 rfl rfl)
theorem dX0_turns_4 : decode cX0_turns 4 = .ok (.tableswitch 156 0 6 #[44, 58, 70, 82, 96, 114, 134], 44) := by decide +kernel
theorem dX0_turns_48 : decode cX0_turns 48 = .ok (.iload_n 1, 1) := dk_27 (dk_at dksX0_turns_2 0 rfl rfl)
theorem dX0_turns_49 : decode cX0_turns 49 = .ok (.iload_n 2, 1) := dk_28 (dk_at dksX0_turns_2 1 rfl rfl)
theorem dX0_turns_50 : decode cX0_turns 50 = .ok (.iadd, 1) := dk_96 (dk_at dksX0_turns_2 2 rfl rfl)
theorem dX0_turns_51 : decode cX0_turns 51 = .ok (.iconst 2, 1) := dk_5 (dk_at dksX0_turns_2 3 rfl rfl)
theorem dX0_turns_52 : decode cX0_turns 52 = .ok (.irem, 1) := dk_112 (dk_at dksX0_turns_2 4 rfl rfl)
theorem dX0_turns_53 : decode cX0_turns 53 = .ok (.ifCond .ne 7, 3) := dk_154 0 7 (dk_at dksX0_turns_2 5 rfl rfl)
theorem dX0_turns_56 : decode cX0_turns 56 = .ok (.iconst 1, 1) := dk_4 (dk_at dksX0_turns_2 8 rfl rfl)
theorem dX0_turns_57 : decode cX0_turns 57 = .ok (.goto 4, 3) := dk_167 0 4 (dk_at dksX0_turns_2 9 rfl rfl)
theorem dX0_turns_60 : decode cX0_turns 60 = .ok (.iconst 0, 1) := dk_3 (dk_at dksX0_turns_2 12 rfl rfl)
theorem dX0_turns_61 : decode cX0_turns 61 = .ok (.ireturn, 1) := dk_172 (dk_at dksX0_turns_2 13 rfl rfl)
theorem dX0_turns_62 : decode cX0_turns 62 = .ok (.iload_n 2, 1) := dk_28 (dk_at dksX0_turns_2 14 rfl rfl)
theorem dX0_turns_63 : decode cX0_turns 63 = .ok (.iconst 2, 1) := dk_5 (dk_at dksX0_turns_2 15 rfl rfl)
theorem dX0_turns_64 : decode cX0_turns 64 = .ok (.irem, 1) := dk_112 (dk_at dksX0_turns_2 16 rfl rfl)
theorem dX0_turns_65 : decode cX0_turns 65 = .ok (.ifCond .ne 7, 3) := dk_154 0 7 (dk_at dksX0_turns_2 17 rfl rfl)
theorem dX0_turns_68 : decode cX0_turns 68 = .ok (.iconst 1, 1) := dk_4 (dk_at dksX0_turns_2 20 rfl rfl)
theorem dX0_turns_69 : decode cX0_turns 69 = .ok (.goto 4, 3) := dk_167 0 4 (dk_at dksX0_turns_2 21 rfl rfl)
theorem dX0_turns_72 : decode cX0_turns 72 = .ok (.iconst 0, 1) := dk_3 (dk_at dksX0_turns_3 0 rfl rfl)
theorem dX0_turns_73 : decode cX0_turns 73 = .ok (.ireturn, 1) := dk_172 (dk_at dksX0_turns_3 1 rfl rfl)
theorem dX0_turns_74 : decode cX0_turns 74 = .ok (.iload_n 1, 1) := dk_27 (dk_at dksX0_turns_3 2 rfl rfl)
theorem dX0_turns_75 : decode cX0_turns 75 = .ok (.iconst 3, 1) := dk_6 (dk_at dksX0_turns_3 3 rfl rfl)
theorem dX0_turns_76 : decode cX0_turns 76 = .ok (.irem, 1) := dk_112 (dk_at dksX0_turns_3 4 rfl rfl)
theorem dX0_turns_77 : decode cX0_turns 77 = .ok (.ifCond .ne 7, 3) := dk_154 0 7 (dk_at dksX0_turns_3 5 rfl rfl)
theorem dX0_turns_80 : decode cX0_turns 80 = .ok (.iconst 1, 1) := dk_4 (dk_at dksX0_turns_3 8 rfl rfl)
theorem dX0_turns_81 : decode cX0_turns 81 = .ok (.goto 4, 3) := dk_167 0 4 (dk_at dksX0_turns_3 9 rfl rfl)
theorem dX0_turns_84 : decode cX0_turns 84 = .ok (.iconst 0, 1) := dk_3 (dk_at dksX0_turns_3 12 rfl rfl)
theorem dX0_turns_85 : decode cX0_turns 85 = .ok (.ireturn, 1) := dk_172 (dk_at dksX0_turns_3 13 rfl rfl)
theorem dX0_turns_86 : decode cX0_turns 86 = .ok (.iload_n 1, 1) := dk_27 (dk_at dksX0_turns_3 14 rfl rfl)
theorem dX0_turns_87 : decode cX0_turns 87 = .ok (.iload_n 2, 1) := dk_28 (dk_at dksX0_turns_3 15 rfl rfl)
theorem dX0_turns_88 : decode cX0_turns 88 = .ok (.iadd, 1) := dk_96 (dk_at dksX0_turns_3 16 rfl rfl)
theorem dX0_turns_89 : decode cX0_turns 89 = .ok (.iconst 3, 1) := dk_6 (dk_at dksX0_turns_3 17 rfl rfl)
theorem dX0_turns_90 : decode cX0_turns 90 = .ok (.irem, 1) := dk_112 (dk_at dksX0_turns_3 18 rfl rfl)
theorem dX0_turns_91 : decode cX0_turns 91 = .ok (.ifCond .ne 7, 3) := dk_154 0 7 (dk_at dksX0_turns_3 19 rfl rfl)
theorem dX0_turns_94 : decode cX0_turns 94 = .ok (.iconst 1, 1) := dk_4 (dk_at dksX0_turns_3 22 rfl rfl)
theorem dX0_turns_95 : decode cX0_turns 95 = .ok (.goto 4, 3) := dk_167 0 4 (dk_at dksX0_turns_4 0 rfl rfl)
theorem dX0_turns_98 : decode cX0_turns 98 = .ok (.iconst 0, 1) := dk_3 (dk_at dksX0_turns_4 3 rfl rfl)
theorem dX0_turns_99 : decode cX0_turns 99 = .ok (.ireturn, 1) := dk_172 (dk_at dksX0_turns_4 4 rfl rfl)
theorem dX0_turns_100 : decode cX0_turns 100 = .ok (.iload_n 2, 1) := dk_28 (dk_at dksX0_turns_4 5 rfl rfl)
theorem dX0_turns_101 : decode cX0_turns 101 = .ok (.iconst 2, 1) := dk_5 (dk_at dksX0_turns_4 6 rfl rfl)
theorem dX0_turns_102 : decode cX0_turns 102 = .ok (.idiv, 1) := dk_108 (dk_at dksX0_turns_4 7 rfl rfl)
theorem dX0_turns_103 : decode cX0_turns 103 = .ok (.iload_n 1, 1) := dk_27 (dk_at dksX0_turns_4 8 rfl rfl)
theorem dX0_turns_104 : decode cX0_turns 104 = .ok (.iconst 3, 1) := dk_6 (dk_at dksX0_turns_4 9 rfl rfl)
theorem dX0_turns_105 : decode cX0_turns 105 = .ok (.idiv, 1) := dk_108 (dk_at dksX0_turns_4 10 rfl rfl)
theorem dX0_turns_106 : decode cX0_turns 106 = .ok (.iadd, 1) := dk_96 (dk_at dksX0_turns_4 11 rfl rfl)
theorem dX0_turns_107 : decode cX0_turns 107 = .ok (.iconst 2, 1) := dk_5 (dk_at dksX0_turns_4 12 rfl rfl)
theorem dX0_turns_108 : decode cX0_turns 108 = .ok (.irem, 1) := dk_112 (dk_at dksX0_turns_4 13 rfl rfl)
theorem dX0_turns_109 : decode cX0_turns 109 = .ok (.ifCond .ne 7, 3) := dk_154 0 7 (dk_at dksX0_turns_4 14 rfl rfl)
theorem dX0_turns_112 : decode cX0_turns 112 = .ok (.iconst 1, 1) := dk_4 (dk_at dksX0_turns_4 17 rfl rfl)
theorem dX0_turns_113 : decode cX0_turns 113 = .ok (.goto 4, 3) := dk_167 0 4 (dk_at dksX0_turns_4 18 rfl rfl)
theorem dX0_turns_116 : decode cX0_turns 116 = .ok (.iconst 0, 1) := dk_3 (dk_at dksX0_turns_4 21 rfl rfl)
theorem dX0_turns_117 : decode cX0_turns 117 = .ok (.ireturn, 1) := dk_172 (dk_at dksX0_turns_4 22 rfl rfl)
theorem dX0_turns_118 : decode cX0_turns 118 = .ok (.iload_n 1, 1) := dk_27 (dk_at dksX0_turns_4 23 rfl rfl)
theorem dX0_turns_119 : decode cX0_turns 119 = .ok (.iload_n 2, 1) := dk_28 (dk_at dksX0_turns_5 0 rfl rfl)
theorem dX0_turns_120 : decode cX0_turns 120 = .ok (.imul, 1) := dk_104 (dk_at dksX0_turns_5 1 rfl rfl)
theorem dX0_turns_121 : decode cX0_turns 121 = .ok (.iconst 2, 1) := dk_5 (dk_at dksX0_turns_5 2 rfl rfl)
theorem dX0_turns_122 : decode cX0_turns 122 = .ok (.irem, 1) := dk_112 (dk_at dksX0_turns_5 3 rfl rfl)
theorem dX0_turns_123 : decode cX0_turns 123 = .ok (.iload_n 1, 1) := dk_27 (dk_at dksX0_turns_5 4 rfl rfl)
theorem dX0_turns_124 : decode cX0_turns 124 = .ok (.iload_n 2, 1) := dk_28 (dk_at dksX0_turns_5 5 rfl rfl)
theorem dX0_turns_125 : decode cX0_turns 125 = .ok (.imul, 1) := dk_104 (dk_at dksX0_turns_5 6 rfl rfl)
theorem dX0_turns_126 : decode cX0_turns 126 = .ok (.iconst 3, 1) := dk_6 (dk_at dksX0_turns_5 7 rfl rfl)
theorem dX0_turns_127 : decode cX0_turns 127 = .ok (.irem, 1) := dk_112 (dk_at dksX0_turns_5 8 rfl rfl)
theorem dX0_turns_128 : decode cX0_turns 128 = .ok (.iadd, 1) := dk_96 (dk_at dksX0_turns_5 9 rfl rfl)
theorem dX0_turns_129 : decode cX0_turns 129 = .ok (.ifCond .ne 7, 3) := dk_154 0 7 (dk_at dksX0_turns_5 10 rfl rfl)
theorem dX0_turns_132 : decode cX0_turns 132 = .ok (.iconst 1, 1) := dk_4 (dk_at dksX0_turns_5 13 rfl rfl)
theorem dX0_turns_133 : decode cX0_turns 133 = .ok (.goto 4, 3) := dk_167 0 4 (dk_at dksX0_turns_5 14 rfl rfl)
theorem dX0_turns_136 : decode cX0_turns 136 = .ok (.iconst 0, 1) := dk_3 (dk_at dksX0_turns_5 17 rfl rfl)
theorem dX0_turns_137 : decode cX0_turns 137 = .ok (.ireturn, 1) := dk_172 (dk_at dksX0_turns_5 18 rfl rfl)
theorem dX0_turns_138 : decode cX0_turns 138 = .ok (.iload_n 1, 1) := dk_27 (dk_at dksX0_turns_5 19 rfl rfl)
theorem dX0_turns_139 : decode cX0_turns 139 = .ok (.iload_n 2, 1) := dk_28 (dk_at dksX0_turns_5 20 rfl rfl)
theorem dX0_turns_140 : decode cX0_turns 140 = .ok (.imul, 1) := dk_104 (dk_at dksX0_turns_5 21 rfl rfl)
theorem dX0_turns_141 : decode cX0_turns 141 = .ok (.iconst 2, 1) := dk_5 (dk_at dksX0_turns_5 22 rfl rfl)
theorem dX0_turns_142 : decode cX0_turns 142 = .ok (.irem, 1) := dk_112 (dk_at dksX0_turns_5 23 rfl rfl)
theorem dX0_turns_143 : decode cX0_turns 143 = .ok (.iload_n 1, 1) := dk_27 (dk_at dksX0_turns_6 0 rfl rfl)
theorem dX0_turns_144 : decode cX0_turns 144 = .ok (.iload_n 2, 1) := dk_28 (dk_at dksX0_turns_6 1 rfl rfl)
theorem dX0_turns_145 : decode cX0_turns 145 = .ok (.imul, 1) := dk_104 (dk_at dksX0_turns_6 2 rfl rfl)
theorem dX0_turns_146 : decode cX0_turns 146 = .ok (.iconst 3, 1) := dk_6 (dk_at dksX0_turns_6 3 rfl rfl)
theorem dX0_turns_147 : decode cX0_turns 147 = .ok (.irem, 1) := dk_112 (dk_at dksX0_turns_6 4 rfl rfl)
theorem dX0_turns_148 : decode cX0_turns 148 = .ok (.iadd, 1) := dk_96 (dk_at dksX0_turns_6 5 rfl rfl)
theorem dX0_turns_149 : decode cX0_turns 149 = .ok (.iconst 2, 1) := dk_5 (dk_at dksX0_turns_6 6 rfl rfl)
theorem dX0_turns_150 : decode cX0_turns 150 = .ok (.irem, 1) := dk_112 (dk_at dksX0_turns_6 7 rfl rfl)
theorem dX0_turns_151 : decode cX0_turns 151 = .ok (.ifCond .ne 7, 3) := dk_154 0 7 (dk_at dksX0_turns_6 8 rfl rfl)
theorem dX0_turns_154 : decode cX0_turns 154 = .ok (.iconst 1, 1) := dk_4 (dk_at dksX0_turns_6 11 rfl rfl)
theorem dX0_turns_155 : decode cX0_turns 155 = .ok (.goto 4, 3) := dk_167 0 4 (dk_at dksX0_turns_6 12 rfl rfl)
theorem dX0_turns_158 : decode cX0_turns 158 = .ok (.iconst 0, 1) := dk_3 (dk_at dksX0_turns_6 15 rfl rfl)
theorem dX0_turns_159 : decode cX0_turns 159 = .ok (.ireturn, 1) := dk_172 (dk_at dksX0_turns_6 16 rfl rfl)
theorem dX0_turns_160 : decode cX0_turns 160 = .ok (.iload_n 1, 1) := dk_27 (dk_at dksX0_turns_6 17 rfl rfl)
theorem dX0_turns_161 : decode cX0_turns 161 = .ok (.iload_n 2, 1) := dk_28 (dk_at dksX0_turns_6 18 rfl rfl)
theorem dX0_turns_162 : decode cX0_turns 162 = .ok (.iadd, 1) := dk_96 (dk_at dksX0_turns_6 19 rfl rfl)
theorem dX0_turns_163 : decode cX0_turns 163 = .ok (.iconst 2, 1) := dk_5 (dk_at dksX0_turns_6 20 rfl rfl)
theorem dX0_turns_164 : decode cX0_turns 164 = .ok (.irem, 1) := dk_112 (dk_at dksX0_turns_6 21 rfl rfl)
theorem dX0_turns_165 : decode cX0_turns 165 = .ok (.iload_n 1, 1) := dk_27 (dk_at dksX0_turns_6 22 rfl rfl)
theorem dX0_turns_166 : decode cX0_turns 166 = .ok (.iload_n 2, 1) := dk_28 (dk_at dksX0_turns_6 23 rfl rfl)
theorem dX0_turns_167 : decode cX0_turns 167 = .ok (.imul, 1) := dk_104 (dk_at dksX0_turns_7 0 rfl rfl)
theorem dX0_turns_168 : decode cX0_turns 168 = .ok (.iconst 3, 1) := dk_6 (dk_at dksX0_turns_7 1 rfl rfl)
theorem dX0_turns_169 : decode cX0_turns 169 = .ok (.irem, 1) := dk_112 (dk_at dksX0_turns_7 2 rfl rfl)
theorem dX0_turns_170 : decode cX0_turns 170 = .ok (.iadd, 1) := dk_96 (dk_at dksX0_turns_7 3 rfl rfl)
theorem dX0_turns_171 : decode cX0_turns 171 = .ok (.iconst 2, 1) := dk_5 (dk_at dksX0_turns_7 4 rfl rfl)
theorem dX0_turns_172 : decode cX0_turns 172 = .ok (.irem, 1) := dk_112 (dk_at dksX0_turns_7 5 rfl rfl)
theorem dX0_turns_173 : decode cX0_turns 173 = .ok (.ifCond .ne 7, 3) := dk_154 0 7 (dk_at dksX0_turns_7 6 rfl rfl)
theorem dX0_turns_176 : decode cX0_turns 176 = .ok (.iconst 1, 1) := dk_4 (dk_at dksX0_turns_7 9 rfl rfl)
theorem dX0_turns_177 : decode cX0_turns 177 = .ok (.goto 4, 3) := dk_167 0 4 (dk_at dksX0_turns_7 10 rfl rfl)
theorem dX0_turns_180 : decode cX0_turns 180 = .ok (.iconst 0, 1) := dk_3 (dk_at dksX0_turns_7 13 rfl rfl)
theorem dX0_turns_181 : decode cX0_turns 181 = .ok (.ireturn, 1) := dk_172 (dk_at dksX0_turns_7 14 rfl rfl)
abbrev cX0_isTold : ByteArray := method_11_code
def yX0_isTold : MethodName := ⟨RX0, "isTold", "(LPenaltyDesk;[[I)Z"⟩
def dkwX0_isTold_5 : List UInt8 := [21, 5, 163, 0, 14, 29, 16, 40, 112, 154, 0, 7, 4, 167, 0, 4, 3, 172]
abbrev dktX0_isTold_5 : List UInt8 := dkwX0_isTold_5 ++ []
def dkwX0_isTold_4 : List UInt8 := [184, 0, 40, 160, 0, 37, 42, 182, 0, 42, 43, 184, 0, 45, 160, 0, 26, 29, 21, 4, 161, 0, 20, 29]
abbrev dktX0_isTold_4 : List UInt8 := dkwX0_isTold_4 ++ dktX0_isTold_5
def dkwX0_isTold_3 : List UInt8 := [54, 5, 28, 153, 0, 59, 42, 182, 0, 31, 43, 184, 0, 34, 160, 0, 48, 42, 182, 0, 37, 43]
abbrev dktX0_isTold_3 : List UInt8 := dkwX0_isTold_3 ++ dktX0_isTold_4
def dkwX0_isTold_2 : List UInt8 := [132, 3, 1, 167, 255, 210, 42, 182, 0, 24, 62, 43, 3, 184, 0, 28, 54, 4, 43, 4, 184, 0, 28]
abbrev dktX0_isTold_2 : List UInt8 := dkwX0_isTold_2 ++ dktX0_isTold_3
def dkwX0_isTold_1 : List UInt8 := [182, 0, 18, 43, 29, 16, 21, 108, 50, 29, 16, 21, 112, 46, 160, 0, 7, 4, 167, 0, 4, 3, 61]
abbrev dktX0_isTold_1 : List UInt8 := dkwX0_isTold_1 ++ dktX0_isTold_2
def dkwX0_isTold_0 : List UInt8 := [4, 61, 3, 62, 29, 17, 1, 185, 162, 0, 45, 28, 153, 0, 41, 42, 29, 16, 21, 108, 29, 16, 21, 112]
abbrev dktX0_isTold_0 : List UInt8 := dkwX0_isTold_0 ++ dktX0_isTold_1
theorem dksX0_isTold_0 : cX0_isTold.data.toList.drop 0 = dktX0_isTold_0 := by decide +kernel
theorem dksX0_isTold_1 : cX0_isTold.data.toList.drop 24 = dktX0_isTold_1 := dk_seg dksX0_isTold_0 24 rfl rfl
theorem dksX0_isTold_2 : cX0_isTold.data.toList.drop 47 = dktX0_isTold_2 := dk_seg dksX0_isTold_1 23 rfl rfl
theorem dksX0_isTold_3 : cX0_isTold.data.toList.drop 70 = dktX0_isTold_3 := dk_seg dksX0_isTold_2 23 rfl rfl
theorem dksX0_isTold_4 : cX0_isTold.data.toList.drop 92 = dktX0_isTold_4 := dk_seg dksX0_isTold_3 22 rfl rfl
theorem dksX0_isTold_5 : cX0_isTold.data.toList.drop 116 = dktX0_isTold_5 := dk_seg dksX0_isTold_4 24 rfl rfl
theorem dX0_isTold_0 : decode cX0_isTold 0 = .ok (.iconst 1, 1) := dk_4 (dk_at dksX0_isTold_0 0 rfl rfl)
theorem dX0_isTold_1 : decode cX0_isTold 1 = .ok (.istore_n 2, 1) := dk_61 (dk_at dksX0_isTold_0 1 rfl rfl)
theorem dX0_isTold_2 : decode cX0_isTold 2 = .ok (.iconst 0, 1) := dk_3 (dk_at dksX0_isTold_0 2 rfl rfl)
theorem dX0_isTold_3 : decode cX0_isTold 3 = .ok (.istore_n 3, 1) := dk_62 (dk_at dksX0_isTold_0 3 rfl rfl)
theorem dX0_isTold_4 : decode cX0_isTold 4 = .ok (.iload_n 3, 1) := dk_29 (dk_at dksX0_isTold_0 4 rfl rfl)
theorem dX0_isTold_5 : decode cX0_isTold 5 = .ok (.sipush 441, 3) := dk_17 1 185 (dk_at dksX0_isTold_0 5 rfl rfl)
theorem dX0_isTold_8 : decode cX0_isTold 8 = .ok (.if_icmp .ge 45, 3) := dk_162 0 45 (dk_at dksX0_isTold_0 8 rfl rfl)
theorem dX0_isTold_11 : decode cX0_isTold 11 = .ok (.iload_n 2, 1) := dk_28 (dk_at dksX0_isTold_0 11 rfl rfl)
theorem dX0_isTold_12 : decode cX0_isTold 12 = .ok (.ifCond .eq 41, 3) := dk_153 0 41 (dk_at dksX0_isTold_0 12 rfl rfl)
theorem dX0_isTold_15 : decode cX0_isTold 15 = .ok (.aload_n 0, 1) := dk_42 (dk_at dksX0_isTold_0 15 rfl rfl)
theorem dX0_isTold_16 : decode cX0_isTold 16 = .ok (.iload_n 3, 1) := dk_29 (dk_at dksX0_isTold_0 16 rfl rfl)
theorem dX0_isTold_17 : decode cX0_isTold 17 = .ok (.bipush 21, 2) := dk_16 21 (dk_at dksX0_isTold_0 17 rfl rfl)
theorem dX0_isTold_19 : decode cX0_isTold 19 = .ok (.idiv, 1) := dk_108 (dk_at dksX0_isTold_0 19 rfl rfl)
theorem dX0_isTold_20 : decode cX0_isTold 20 = .ok (.iload_n 3, 1) := dk_29 (dk_at dksX0_isTold_0 20 rfl rfl)
theorem dX0_isTold_21 : decode cX0_isTold 21 = .ok (.bipush 21, 2) := dk_16 21 (dk_at dksX0_isTold_0 21 rfl rfl)
theorem dX0_isTold_23 : decode cX0_isTold 23 = .ok (.irem, 1) := dk_112 (dk_at dksX0_isTold_0 23 rfl rfl)
theorem dX0_isTold_24 : decode cX0_isTold 24 = .ok (.invokevirtual 18, 3) := dk_182 0 18 (dk_at dksX0_isTold_1 0 rfl rfl)
theorem dX0_isTold_27 : decode cX0_isTold 27 = .ok (.aload_n 1, 1) := dk_43 (dk_at dksX0_isTold_1 3 rfl rfl)
theorem dX0_isTold_28 : decode cX0_isTold 28 = .ok (.iload_n 3, 1) := dk_29 (dk_at dksX0_isTold_1 4 rfl rfl)
theorem dX0_isTold_29 : decode cX0_isTold 29 = .ok (.bipush 21, 2) := dk_16 21 (dk_at dksX0_isTold_1 5 rfl rfl)
theorem dX0_isTold_31 : decode cX0_isTold 31 = .ok (.idiv, 1) := dk_108 (dk_at dksX0_isTold_1 7 rfl rfl)
theorem dX0_isTold_32 : decode cX0_isTold 32 = .ok (.aaload, 1) := dk_50 (dk_at dksX0_isTold_1 8 rfl rfl)
theorem dX0_isTold_33 : decode cX0_isTold 33 = .ok (.iload_n 3, 1) := dk_29 (dk_at dksX0_isTold_1 9 rfl rfl)
theorem dX0_isTold_34 : decode cX0_isTold 34 = .ok (.bipush 21, 2) := dk_16 21 (dk_at dksX0_isTold_1 10 rfl rfl)
theorem dX0_isTold_36 : decode cX0_isTold 36 = .ok (.irem, 1) := dk_112 (dk_at dksX0_isTold_1 12 rfl rfl)
theorem dX0_isTold_37 : decode cX0_isTold 37 = .ok (.iaload, 1) := dk_46 (dk_at dksX0_isTold_1 13 rfl rfl)
theorem dX0_isTold_38 : decode cX0_isTold 38 = .ok (.if_icmp .ne 7, 3) := dk_160 0 7 (dk_at dksX0_isTold_1 14 rfl rfl)
theorem dX0_isTold_41 : decode cX0_isTold 41 = .ok (.iconst 1, 1) := dk_4 (dk_at dksX0_isTold_1 17 rfl rfl)
theorem dX0_isTold_42 : decode cX0_isTold 42 = .ok (.goto 4, 3) := dk_167 0 4 (dk_at dksX0_isTold_1 18 rfl rfl)
theorem dX0_isTold_45 : decode cX0_isTold 45 = .ok (.iconst 0, 1) := dk_3 (dk_at dksX0_isTold_1 21 rfl rfl)
theorem dX0_isTold_46 : decode cX0_isTold 46 = .ok (.istore_n 2, 1) := dk_61 (dk_at dksX0_isTold_1 22 rfl rfl)
theorem dX0_isTold_47 : decode cX0_isTold 47 = .ok (.iinc 3 1, 3) := dk_132 3 1 (dk_at dksX0_isTold_2 0 rfl rfl)
theorem dX0_isTold_50 : decode cX0_isTold 50 = .ok (.goto (-46), 3) := dk_167 255 210 (dk_at dksX0_isTold_2 3 rfl rfl)
theorem dX0_isTold_53 : decode cX0_isTold 53 = .ok (.aload_n 0, 1) := dk_42 (dk_at dksX0_isTold_2 6 rfl rfl)
theorem dX0_isTold_54 : decode cX0_isTold 54 = .ok (.invokevirtual 24, 3) := dk_182 0 24 (dk_at dksX0_isTold_2 7 rfl rfl)
theorem dX0_isTold_57 : decode cX0_isTold 57 = .ok (.istore_n 3, 1) := dk_62 (dk_at dksX0_isTold_2 10 rfl rfl)
theorem dX0_isTold_58 : decode cX0_isTold 58 = .ok (.aload_n 1, 1) := dk_43 (dk_at dksX0_isTold_2 11 rfl rfl)
theorem dX0_isTold_59 : decode cX0_isTold 59 = .ok (.iconst 0, 1) := dk_3 (dk_at dksX0_isTold_2 12 rfl rfl)
theorem dX0_isTold_60 : decode cX0_isTold 60 = .ok (.invokestatic 28, 3) := dk_184 0 28 (dk_at dksX0_isTold_2 13 rfl rfl)
theorem dX0_isTold_63 : decode cX0_isTold 63 = .ok (.istore 4, 2) := dk_54 4 (dk_at dksX0_isTold_2 16 rfl rfl)
theorem dX0_isTold_65 : decode cX0_isTold 65 = .ok (.aload_n 1, 1) := dk_43 (dk_at dksX0_isTold_2 18 rfl rfl)
theorem dX0_isTold_66 : decode cX0_isTold 66 = .ok (.iconst 1, 1) := dk_4 (dk_at dksX0_isTold_2 19 rfl rfl)
theorem dX0_isTold_67 : decode cX0_isTold 67 = .ok (.invokestatic 28, 3) := dk_184 0 28 (dk_at dksX0_isTold_2 20 rfl rfl)
theorem dX0_isTold_70 : decode cX0_isTold 70 = .ok (.istore 5, 2) := dk_54 5 (dk_at dksX0_isTold_3 0 rfl rfl)
theorem dX0_isTold_72 : decode cX0_isTold 72 = .ok (.iload_n 2, 1) := dk_28 (dk_at dksX0_isTold_3 2 rfl rfl)
theorem dX0_isTold_73 : decode cX0_isTold 73 = .ok (.ifCond .eq 59, 3) := dk_153 0 59 (dk_at dksX0_isTold_3 3 rfl rfl)
theorem dX0_isTold_76 : decode cX0_isTold 76 = .ok (.aload_n 0, 1) := dk_42 (dk_at dksX0_isTold_3 6 rfl rfl)
theorem dX0_isTold_77 : decode cX0_isTold 77 = .ok (.invokevirtual 31, 3) := dk_182 0 31 (dk_at dksX0_isTold_3 7 rfl rfl)
theorem dX0_isTold_80 : decode cX0_isTold 80 = .ok (.aload_n 1, 1) := dk_43 (dk_at dksX0_isTold_3 10 rfl rfl)
theorem dX0_isTold_81 : decode cX0_isTold 81 = .ok (.invokestatic 34, 3) := dk_184 0 34 (dk_at dksX0_isTold_3 11 rfl rfl)
theorem dX0_isTold_84 : decode cX0_isTold 84 = .ok (.if_icmp .ne 48, 3) := dk_160 0 48 (dk_at dksX0_isTold_3 14 rfl rfl)
theorem dX0_isTold_87 : decode cX0_isTold 87 = .ok (.aload_n 0, 1) := dk_42 (dk_at dksX0_isTold_3 17 rfl rfl)
theorem dX0_isTold_88 : decode cX0_isTold 88 = .ok (.invokevirtual 37, 3) := dk_182 0 37 (dk_at dksX0_isTold_3 18 rfl rfl)
theorem dX0_isTold_91 : decode cX0_isTold 91 = .ok (.aload_n 1, 1) := dk_43 (dk_at dksX0_isTold_3 21 rfl rfl)
theorem dX0_isTold_92 : decode cX0_isTold 92 = .ok (.invokestatic 40, 3) := dk_184 0 40 (dk_at dksX0_isTold_4 0 rfl rfl)
theorem dX0_isTold_95 : decode cX0_isTold 95 = .ok (.if_icmp .ne 37, 3) := dk_160 0 37 (dk_at dksX0_isTold_4 3 rfl rfl)
theorem dX0_isTold_98 : decode cX0_isTold 98 = .ok (.aload_n 0, 1) := dk_42 (dk_at dksX0_isTold_4 6 rfl rfl)
theorem dX0_isTold_99 : decode cX0_isTold 99 = .ok (.invokevirtual 42, 3) := dk_182 0 42 (dk_at dksX0_isTold_4 7 rfl rfl)
theorem dX0_isTold_102 : decode cX0_isTold 102 = .ok (.aload_n 1, 1) := dk_43 (dk_at dksX0_isTold_4 10 rfl rfl)
theorem dX0_isTold_103 : decode cX0_isTold 103 = .ok (.invokestatic 45, 3) := dk_184 0 45 (dk_at dksX0_isTold_4 11 rfl rfl)
theorem dX0_isTold_106 : decode cX0_isTold 106 = .ok (.if_icmp .ne 26, 3) := dk_160 0 26 (dk_at dksX0_isTold_4 14 rfl rfl)
theorem dX0_isTold_109 : decode cX0_isTold 109 = .ok (.iload_n 3, 1) := dk_29 (dk_at dksX0_isTold_4 17 rfl rfl)
theorem dX0_isTold_110 : decode cX0_isTold 110 = .ok (.iload 4, 2) := dk_21 4 (dk_at dksX0_isTold_4 18 rfl rfl)
theorem dX0_isTold_112 : decode cX0_isTold 112 = .ok (.if_icmp .lt 20, 3) := dk_161 0 20 (dk_at dksX0_isTold_4 20 rfl rfl)
theorem dX0_isTold_115 : decode cX0_isTold 115 = .ok (.iload_n 3, 1) := dk_29 (dk_at dksX0_isTold_4 23 rfl rfl)
theorem dX0_isTold_116 : decode cX0_isTold 116 = .ok (.iload 5, 2) := dk_21 5 (dk_at dksX0_isTold_5 0 rfl rfl)
theorem dX0_isTold_118 : decode cX0_isTold 118 = .ok (.if_icmp .gt 14, 3) := dk_163 0 14 (dk_at dksX0_isTold_5 2 rfl rfl)
theorem dX0_isTold_121 : decode cX0_isTold 121 = .ok (.iload_n 3, 1) := dk_29 (dk_at dksX0_isTold_5 5 rfl rfl)
theorem dX0_isTold_122 : decode cX0_isTold 122 = .ok (.bipush 40, 2) := dk_16 40 (dk_at dksX0_isTold_5 6 rfl rfl)
theorem dX0_isTold_124 : decode cX0_isTold 124 = .ok (.irem, 1) := dk_112 (dk_at dksX0_isTold_5 8 rfl rfl)
theorem dX0_isTold_125 : decode cX0_isTold 125 = .ok (.ifCond .ne 7, 3) := dk_154 0 7 (dk_at dksX0_isTold_5 9 rfl rfl)
theorem dX0_isTold_128 : decode cX0_isTold 128 = .ok (.iconst 1, 1) := dk_4 (dk_at dksX0_isTold_5 12 rfl rfl)
theorem dX0_isTold_129 : decode cX0_isTold 129 = .ok (.goto 4, 3) := dk_167 0 4 (dk_at dksX0_isTold_5 13 rfl rfl)
theorem dX0_isTold_132 : decode cX0_isTold 132 = .ok (.iconst 0, 1) := dk_3 (dk_at dksX0_isTold_5 16 rfl rfl)
theorem dX0_isTold_133 : decode cX0_isTold 133 = .ok (.ireturn, 1) := dk_172 (dk_at dksX0_isTold_5 17 rfl rfl)
abbrev cX0_finders : ByteArray := method_10_code
def yX0_finders : MethodName := ⟨RX0, "finders", "([[IZ)I"⟩
def dkwX0_finders_8 : List UInt8 := [167, 255, 107, 16, 40, 29, 104, 172]
abbrev dktX0_finders_8 : List UInt8 := dkwX0_finders_8 ++ []
def dkwX0_finders_7 : List UInt8 := [27, 184, 0, 14, 153, 0, 7, 4, 167, 0, 4, 3, 96, 62, 132, 6, 1, 167, 255, 137, 132, 4, 1]
abbrev dktX0_finders_7 : List UInt8 := dkwX0_finders_7 ++ dktX0_finders_8
def dkwX0_finders_6 : List UInt8 := [21, 6, 7, 100, 27, 184, 0, 14, 154, 0, 23, 42, 21, 5, 21, 4, 16, 21, 112, 21, 6, 16, 7, 96]
abbrev dktX0_finders_6 : List UInt8 := dkwX0_finders_6 ++ dktX0_finders_7
def dkwX0_finders_5 : List UInt8 := [3, 54, 7, 132, 8, 1, 167, 255, 211, 29, 21, 7, 153, 0, 46, 42, 21, 5, 21, 4, 16, 21, 112]
abbrev dktX0_finders_5 : List UInt8 := dkwX0_finders_5 ++ dktX0_finders_6
def dkwX0_finders_4 : List UInt8 := [21, 4, 16, 21, 112, 21, 6, 21, 8, 96, 184, 0, 10, 44, 21, 8, 46, 160, 0, 7, 4, 167, 0, 4]
abbrev dktX0_finders_4 : List UInt8 := dkwX0_finders_4 ++ dktX0_finders_5
def dkwX0_finders_3 : List UInt8 := [163, 0, 115, 4, 54, 7, 3, 54, 8, 21, 8, 16, 7, 162, 0, 44, 21, 7, 153, 0, 30, 42, 21, 5]
abbrev dktX0_finders_3 : List UInt8 := dkwX0_finders_3 ++ dktX0_finders_4
def dkwX0_finders_2 : List UInt8 := [16, 21, 162, 0, 7, 4, 167, 0, 4, 3, 54, 5, 3, 54, 6, 21, 6, 16, 7, 96, 16, 21]
abbrev dktX0_finders_2 : List UInt8 := dkwX0_finders_2 ++ dktX0_finders_3
def dkwX0_finders_1 : List UInt8 := [89, 8, 3, 79, 89, 16, 6, 4, 79, 77, 3, 62, 3, 54, 4, 21, 4, 16, 42, 162, 0, 148, 21, 4]
abbrev dktX0_finders_1 : List UInt8 := dkwX0_finders_1 ++ dktX0_finders_2
def dkwX0_finders_0 : List UInt8 := [16, 7, 188, 10, 89, 3, 4, 79, 89, 4, 3, 79, 89, 5, 4, 79, 89, 6, 4, 79, 89, 7, 4, 79]
abbrev dktX0_finders_0 : List UInt8 := dkwX0_finders_0 ++ dktX0_finders_1
theorem dksX0_finders_0 : cX0_finders.data.toList.drop 0 = dktX0_finders_0 := by decide +kernel
theorem dksX0_finders_1 : cX0_finders.data.toList.drop 24 = dktX0_finders_1 := dk_seg dksX0_finders_0 24 rfl rfl
theorem dksX0_finders_2 : cX0_finders.data.toList.drop 48 = dktX0_finders_2 := dk_seg dksX0_finders_1 24 rfl rfl
theorem dksX0_finders_3 : cX0_finders.data.toList.drop 70 = dktX0_finders_3 := dk_seg dksX0_finders_2 22 rfl rfl
theorem dksX0_finders_4 : cX0_finders.data.toList.drop 94 = dktX0_finders_4 := dk_seg dksX0_finders_3 24 rfl rfl
theorem dksX0_finders_5 : cX0_finders.data.toList.drop 118 = dktX0_finders_5 := dk_seg dksX0_finders_4 24 rfl rfl
theorem dksX0_finders_6 : cX0_finders.data.toList.drop 141 = dktX0_finders_6 := dk_seg dksX0_finders_5 23 rfl rfl
theorem dksX0_finders_7 : cX0_finders.data.toList.drop 165 = dktX0_finders_7 := dk_seg dksX0_finders_6 24 rfl rfl
theorem dksX0_finders_8 : cX0_finders.data.toList.drop 188 = dktX0_finders_8 := dk_seg dksX0_finders_7 23 rfl rfl
theorem dX0_finders_0 : decode cX0_finders 0 = .ok (.bipush 7, 2) := dk_16 7 (dk_at dksX0_finders_0 0 rfl rfl)
theorem dX0_finders_2 : decode cX0_finders 2 = .ok (.newarray .int, 2) := dk_188_10 (dk_at dksX0_finders_0 2 rfl rfl)
theorem dX0_finders_4 : decode cX0_finders 4 = .ok (.dup, 1) := dk_89 (dk_at dksX0_finders_0 4 rfl rfl)
theorem dX0_finders_5 : decode cX0_finders 5 = .ok (.iconst 0, 1) := dk_3 (dk_at dksX0_finders_0 5 rfl rfl)
theorem dX0_finders_6 : decode cX0_finders 6 = .ok (.iconst 1, 1) := dk_4 (dk_at dksX0_finders_0 6 rfl rfl)
theorem dX0_finders_7 : decode cX0_finders 7 = .ok (.iastore, 1) := dk_79 (dk_at dksX0_finders_0 7 rfl rfl)
theorem dX0_finders_8 : decode cX0_finders 8 = .ok (.dup, 1) := dk_89 (dk_at dksX0_finders_0 8 rfl rfl)
theorem dX0_finders_9 : decode cX0_finders 9 = .ok (.iconst 1, 1) := dk_4 (dk_at dksX0_finders_0 9 rfl rfl)
theorem dX0_finders_10 : decode cX0_finders 10 = .ok (.iconst 0, 1) := dk_3 (dk_at dksX0_finders_0 10 rfl rfl)
theorem dX0_finders_11 : decode cX0_finders 11 = .ok (.iastore, 1) := dk_79 (dk_at dksX0_finders_0 11 rfl rfl)
theorem dX0_finders_12 : decode cX0_finders 12 = .ok (.dup, 1) := dk_89 (dk_at dksX0_finders_0 12 rfl rfl)
theorem dX0_finders_13 : decode cX0_finders 13 = .ok (.iconst 2, 1) := dk_5 (dk_at dksX0_finders_0 13 rfl rfl)
theorem dX0_finders_14 : decode cX0_finders 14 = .ok (.iconst 1, 1) := dk_4 (dk_at dksX0_finders_0 14 rfl rfl)
theorem dX0_finders_15 : decode cX0_finders 15 = .ok (.iastore, 1) := dk_79 (dk_at dksX0_finders_0 15 rfl rfl)
theorem dX0_finders_16 : decode cX0_finders 16 = .ok (.dup, 1) := dk_89 (dk_at dksX0_finders_0 16 rfl rfl)
theorem dX0_finders_17 : decode cX0_finders 17 = .ok (.iconst 3, 1) := dk_6 (dk_at dksX0_finders_0 17 rfl rfl)
theorem dX0_finders_18 : decode cX0_finders 18 = .ok (.iconst 1, 1) := dk_4 (dk_at dksX0_finders_0 18 rfl rfl)
theorem dX0_finders_19 : decode cX0_finders 19 = .ok (.iastore, 1) := dk_79 (dk_at dksX0_finders_0 19 rfl rfl)
theorem dX0_finders_20 : decode cX0_finders 20 = .ok (.dup, 1) := dk_89 (dk_at dksX0_finders_0 20 rfl rfl)
theorem dX0_finders_21 : decode cX0_finders 21 = .ok (.iconst 4, 1) := dk_7 (dk_at dksX0_finders_0 21 rfl rfl)
theorem dX0_finders_22 : decode cX0_finders 22 = .ok (.iconst 1, 1) := dk_4 (dk_at dksX0_finders_0 22 rfl rfl)
theorem dX0_finders_23 : decode cX0_finders 23 = .ok (.iastore, 1) := dk_79 (dk_at dksX0_finders_0 23 rfl rfl)
theorem dX0_finders_24 : decode cX0_finders 24 = .ok (.dup, 1) := dk_89 (dk_at dksX0_finders_1 0 rfl rfl)
theorem dX0_finders_25 : decode cX0_finders 25 = .ok (.iconst 5, 1) := dk_8 (dk_at dksX0_finders_1 1 rfl rfl)
theorem dX0_finders_26 : decode cX0_finders 26 = .ok (.iconst 0, 1) := dk_3 (dk_at dksX0_finders_1 2 rfl rfl)
theorem dX0_finders_27 : decode cX0_finders 27 = .ok (.iastore, 1) := dk_79 (dk_at dksX0_finders_1 3 rfl rfl)
theorem dX0_finders_28 : decode cX0_finders 28 = .ok (.dup, 1) := dk_89 (dk_at dksX0_finders_1 4 rfl rfl)
theorem dX0_finders_29 : decode cX0_finders 29 = .ok (.bipush 6, 2) := dk_16 6 (dk_at dksX0_finders_1 5 rfl rfl)
theorem dX0_finders_31 : decode cX0_finders 31 = .ok (.iconst 1, 1) := dk_4 (dk_at dksX0_finders_1 7 rfl rfl)
theorem dX0_finders_32 : decode cX0_finders 32 = .ok (.iastore, 1) := dk_79 (dk_at dksX0_finders_1 8 rfl rfl)
theorem dX0_finders_33 : decode cX0_finders 33 = .ok (.astore_n 2, 1) := dk_77 (dk_at dksX0_finders_1 9 rfl rfl)
theorem dX0_finders_34 : decode cX0_finders 34 = .ok (.iconst 0, 1) := dk_3 (dk_at dksX0_finders_1 10 rfl rfl)
theorem dX0_finders_35 : decode cX0_finders 35 = .ok (.istore_n 3, 1) := dk_62 (dk_at dksX0_finders_1 11 rfl rfl)
theorem dX0_finders_36 : decode cX0_finders 36 = .ok (.iconst 0, 1) := dk_3 (dk_at dksX0_finders_1 12 rfl rfl)
theorem dX0_finders_37 : decode cX0_finders 37 = .ok (.istore 4, 2) := dk_54 4 (dk_at dksX0_finders_1 13 rfl rfl)
theorem dX0_finders_39 : decode cX0_finders 39 = .ok (.iload 4, 2) := dk_21 4 (dk_at dksX0_finders_1 15 rfl rfl)
theorem dX0_finders_41 : decode cX0_finders 41 = .ok (.bipush 42, 2) := dk_16 42 (dk_at dksX0_finders_1 17 rfl rfl)
theorem dX0_finders_43 : decode cX0_finders 43 = .ok (.if_icmp .ge 148, 3) := dk_162 0 148 (dk_at dksX0_finders_1 19 rfl rfl)
theorem dX0_finders_46 : decode cX0_finders 46 = .ok (.iload 4, 2) := dk_21 4 (dk_at dksX0_finders_1 22 rfl rfl)
theorem dX0_finders_48 : decode cX0_finders 48 = .ok (.bipush 21, 2) := dk_16 21 (dk_at dksX0_finders_2 0 rfl rfl)
theorem dX0_finders_50 : decode cX0_finders 50 = .ok (.if_icmp .ge 7, 3) := dk_162 0 7 (dk_at dksX0_finders_2 2 rfl rfl)
theorem dX0_finders_53 : decode cX0_finders 53 = .ok (.iconst 1, 1) := dk_4 (dk_at dksX0_finders_2 5 rfl rfl)
theorem dX0_finders_54 : decode cX0_finders 54 = .ok (.goto 4, 3) := dk_167 0 4 (dk_at dksX0_finders_2 6 rfl rfl)
theorem dX0_finders_57 : decode cX0_finders 57 = .ok (.iconst 0, 1) := dk_3 (dk_at dksX0_finders_2 9 rfl rfl)
theorem dX0_finders_58 : decode cX0_finders 58 = .ok (.istore 5, 2) := dk_54 5 (dk_at dksX0_finders_2 10 rfl rfl)
theorem dX0_finders_60 : decode cX0_finders 60 = .ok (.iconst 0, 1) := dk_3 (dk_at dksX0_finders_2 12 rfl rfl)
theorem dX0_finders_61 : decode cX0_finders 61 = .ok (.istore 6, 2) := dk_54 6 (dk_at dksX0_finders_2 13 rfl rfl)
theorem dX0_finders_63 : decode cX0_finders 63 = .ok (.iload 6, 2) := dk_21 6 (dk_at dksX0_finders_2 15 rfl rfl)
theorem dX0_finders_65 : decode cX0_finders 65 = .ok (.bipush 7, 2) := dk_16 7 (dk_at dksX0_finders_2 17 rfl rfl)
theorem dX0_finders_67 : decode cX0_finders 67 = .ok (.iadd, 1) := dk_96 (dk_at dksX0_finders_2 19 rfl rfl)
theorem dX0_finders_68 : decode cX0_finders 68 = .ok (.bipush 21, 2) := dk_16 21 (dk_at dksX0_finders_2 20 rfl rfl)
theorem dX0_finders_70 : decode cX0_finders 70 = .ok (.if_icmp .gt 115, 3) := dk_163 0 115 (dk_at dksX0_finders_3 0 rfl rfl)
theorem dX0_finders_73 : decode cX0_finders 73 = .ok (.iconst 1, 1) := dk_4 (dk_at dksX0_finders_3 3 rfl rfl)
theorem dX0_finders_74 : decode cX0_finders 74 = .ok (.istore 7, 2) := dk_54 7 (dk_at dksX0_finders_3 4 rfl rfl)
theorem dX0_finders_76 : decode cX0_finders 76 = .ok (.iconst 0, 1) := dk_3 (dk_at dksX0_finders_3 6 rfl rfl)
theorem dX0_finders_77 : decode cX0_finders 77 = .ok (.istore 8, 2) := dk_54 8 (dk_at dksX0_finders_3 7 rfl rfl)
theorem dX0_finders_79 : decode cX0_finders 79 = .ok (.iload 8, 2) := dk_21 8 (dk_at dksX0_finders_3 9 rfl rfl)
theorem dX0_finders_81 : decode cX0_finders 81 = .ok (.bipush 7, 2) := dk_16 7 (dk_at dksX0_finders_3 11 rfl rfl)
theorem dX0_finders_83 : decode cX0_finders 83 = .ok (.if_icmp .ge 44, 3) := dk_162 0 44 (dk_at dksX0_finders_3 13 rfl rfl)
theorem dX0_finders_86 : decode cX0_finders 86 = .ok (.iload 7, 2) := dk_21 7 (dk_at dksX0_finders_3 16 rfl rfl)
theorem dX0_finders_88 : decode cX0_finders 88 = .ok (.ifCond .eq 30, 3) := dk_153 0 30 (dk_at dksX0_finders_3 18 rfl rfl)
theorem dX0_finders_91 : decode cX0_finders 91 = .ok (.aload_n 0, 1) := dk_42 (dk_at dksX0_finders_3 21 rfl rfl)
theorem dX0_finders_92 : decode cX0_finders 92 = .ok (.iload 5, 2) := dk_21 5 (dk_at dksX0_finders_3 22 rfl rfl)
theorem dX0_finders_94 : decode cX0_finders 94 = .ok (.iload 4, 2) := dk_21 4 (dk_at dksX0_finders_4 0 rfl rfl)
theorem dX0_finders_96 : decode cX0_finders 96 = .ok (.bipush 21, 2) := dk_16 21 (dk_at dksX0_finders_4 2 rfl rfl)
theorem dX0_finders_98 : decode cX0_finders 98 = .ok (.irem, 1) := dk_112 (dk_at dksX0_finders_4 4 rfl rfl)
theorem dX0_finders_99 : decode cX0_finders 99 = .ok (.iload 6, 2) := dk_21 6 (dk_at dksX0_finders_4 5 rfl rfl)
theorem dX0_finders_101 : decode cX0_finders 101 = .ok (.iload 8, 2) := dk_21 8 (dk_at dksX0_finders_4 7 rfl rfl)
theorem dX0_finders_103 : decode cX0_finders 103 = .ok (.iadd, 1) := dk_96 (dk_at dksX0_finders_4 9 rfl rfl)
theorem dX0_finders_104 : decode cX0_finders 104 = .ok (.invokestatic 10, 3) := dk_184 0 10 (dk_at dksX0_finders_4 10 rfl rfl)
theorem dX0_finders_107 : decode cX0_finders 107 = .ok (.aload_n 2, 1) := dk_44 (dk_at dksX0_finders_4 13 rfl rfl)
theorem dX0_finders_108 : decode cX0_finders 108 = .ok (.iload 8, 2) := dk_21 8 (dk_at dksX0_finders_4 14 rfl rfl)
theorem dX0_finders_110 : decode cX0_finders 110 = .ok (.iaload, 1) := dk_46 (dk_at dksX0_finders_4 16 rfl rfl)
theorem dX0_finders_111 : decode cX0_finders 111 = .ok (.if_icmp .ne 7, 3) := dk_160 0 7 (dk_at dksX0_finders_4 17 rfl rfl)
theorem dX0_finders_114 : decode cX0_finders 114 = .ok (.iconst 1, 1) := dk_4 (dk_at dksX0_finders_4 20 rfl rfl)
theorem dX0_finders_115 : decode cX0_finders 115 = .ok (.goto 4, 3) := dk_167 0 4 (dk_at dksX0_finders_4 21 rfl rfl)
theorem dX0_finders_118 : decode cX0_finders 118 = .ok (.iconst 0, 1) := dk_3 (dk_at dksX0_finders_5 0 rfl rfl)
theorem dX0_finders_119 : decode cX0_finders 119 = .ok (.istore 7, 2) := dk_54 7 (dk_at dksX0_finders_5 1 rfl rfl)
theorem dX0_finders_121 : decode cX0_finders 121 = .ok (.iinc 8 1, 3) := dk_132 8 1 (dk_at dksX0_finders_5 3 rfl rfl)
theorem dX0_finders_124 : decode cX0_finders 124 = .ok (.goto (-45), 3) := dk_167 255 211 (dk_at dksX0_finders_5 6 rfl rfl)
theorem dX0_finders_127 : decode cX0_finders 127 = .ok (.iload_n 3, 1) := dk_29 (dk_at dksX0_finders_5 9 rfl rfl)
theorem dX0_finders_128 : decode cX0_finders 128 = .ok (.iload 7, 2) := dk_21 7 (dk_at dksX0_finders_5 10 rfl rfl)
theorem dX0_finders_130 : decode cX0_finders 130 = .ok (.ifCond .eq 46, 3) := dk_153 0 46 (dk_at dksX0_finders_5 12 rfl rfl)
theorem dX0_finders_133 : decode cX0_finders 133 = .ok (.aload_n 0, 1) := dk_42 (dk_at dksX0_finders_5 15 rfl rfl)
theorem dX0_finders_134 : decode cX0_finders 134 = .ok (.iload 5, 2) := dk_21 5 (dk_at dksX0_finders_5 16 rfl rfl)
theorem dX0_finders_136 : decode cX0_finders 136 = .ok (.iload 4, 2) := dk_21 4 (dk_at dksX0_finders_5 18 rfl rfl)
theorem dX0_finders_138 : decode cX0_finders 138 = .ok (.bipush 21, 2) := dk_16 21 (dk_at dksX0_finders_5 20 rfl rfl)
theorem dX0_finders_140 : decode cX0_finders 140 = .ok (.irem, 1) := dk_112 (dk_at dksX0_finders_5 22 rfl rfl)
theorem dX0_finders_141 : decode cX0_finders 141 = .ok (.iload 6, 2) := dk_21 6 (dk_at dksX0_finders_6 0 rfl rfl)
theorem dX0_finders_143 : decode cX0_finders 143 = .ok (.iconst 4, 1) := dk_7 (dk_at dksX0_finders_6 2 rfl rfl)
theorem dX0_finders_144 : decode cX0_finders 144 = .ok (.isub, 1) := dk_100 (dk_at dksX0_finders_6 3 rfl rfl)
theorem dX0_finders_145 : decode cX0_finders 145 = .ok (.iload_n 1, 1) := dk_27 (dk_at dksX0_finders_6 4 rfl rfl)
theorem dX0_finders_146 : decode cX0_finders 146 = .ok (.invokestatic 14, 3) := dk_184 0 14 (dk_at dksX0_finders_6 5 rfl rfl)
theorem dX0_finders_149 : decode cX0_finders 149 = .ok (.ifCond .ne 23, 3) := dk_154 0 23 (dk_at dksX0_finders_6 8 rfl rfl)
theorem dX0_finders_152 : decode cX0_finders 152 = .ok (.aload_n 0, 1) := dk_42 (dk_at dksX0_finders_6 11 rfl rfl)
theorem dX0_finders_153 : decode cX0_finders 153 = .ok (.iload 5, 2) := dk_21 5 (dk_at dksX0_finders_6 12 rfl rfl)
theorem dX0_finders_155 : decode cX0_finders 155 = .ok (.iload 4, 2) := dk_21 4 (dk_at dksX0_finders_6 14 rfl rfl)
theorem dX0_finders_157 : decode cX0_finders 157 = .ok (.bipush 21, 2) := dk_16 21 (dk_at dksX0_finders_6 16 rfl rfl)
theorem dX0_finders_159 : decode cX0_finders 159 = .ok (.irem, 1) := dk_112 (dk_at dksX0_finders_6 18 rfl rfl)
theorem dX0_finders_160 : decode cX0_finders 160 = .ok (.iload 6, 2) := dk_21 6 (dk_at dksX0_finders_6 19 rfl rfl)
theorem dX0_finders_162 : decode cX0_finders 162 = .ok (.bipush 7, 2) := dk_16 7 (dk_at dksX0_finders_6 21 rfl rfl)
theorem dX0_finders_164 : decode cX0_finders 164 = .ok (.iadd, 1) := dk_96 (dk_at dksX0_finders_6 23 rfl rfl)
theorem dX0_finders_165 : decode cX0_finders 165 = .ok (.iload_n 1, 1) := dk_27 (dk_at dksX0_finders_7 0 rfl rfl)
theorem dX0_finders_166 : decode cX0_finders 166 = .ok (.invokestatic 14, 3) := dk_184 0 14 (dk_at dksX0_finders_7 1 rfl rfl)
theorem dX0_finders_169 : decode cX0_finders 169 = .ok (.ifCond .eq 7, 3) := dk_153 0 7 (dk_at dksX0_finders_7 4 rfl rfl)
theorem dX0_finders_172 : decode cX0_finders 172 = .ok (.iconst 1, 1) := dk_4 (dk_at dksX0_finders_7 7 rfl rfl)
theorem dX0_finders_173 : decode cX0_finders 173 = .ok (.goto 4, 3) := dk_167 0 4 (dk_at dksX0_finders_7 8 rfl rfl)
theorem dX0_finders_176 : decode cX0_finders 176 = .ok (.iconst 0, 1) := dk_3 (dk_at dksX0_finders_7 11 rfl rfl)
theorem dX0_finders_177 : decode cX0_finders 177 = .ok (.iadd, 1) := dk_96 (dk_at dksX0_finders_7 12 rfl rfl)
theorem dX0_finders_178 : decode cX0_finders 178 = .ok (.istore_n 3, 1) := dk_62 (dk_at dksX0_finders_7 13 rfl rfl)
theorem dX0_finders_179 : decode cX0_finders 179 = .ok (.iinc 6 1, 3) := dk_132 6 1 (dk_at dksX0_finders_7 14 rfl rfl)
theorem dX0_finders_182 : decode cX0_finders 182 = .ok (.goto (-119), 3) := dk_167 255 137 (dk_at dksX0_finders_7 17 rfl rfl)
theorem dX0_finders_185 : decode cX0_finders 185 = .ok (.iinc 4 1, 3) := dk_132 4 1 (dk_at dksX0_finders_7 20 rfl rfl)
theorem dX0_finders_188 : decode cX0_finders 188 = .ok (.goto (-149), 3) := dk_167 255 107 (dk_at dksX0_finders_8 0 rfl rfl)
theorem dX0_finders_191 : decode cX0_finders 191 = .ok (.bipush 40, 2) := dk_16 40 (dk_at dksX0_finders_8 3 rfl rfl)
theorem dX0_finders_193 : decode cX0_finders 193 = .ok (.iload_n 3, 1) := dk_29 (dk_at dksX0_finders_8 5 rfl rfl)
theorem dX0_finders_194 : decode cX0_finders 194 = .ok (.imul, 1) := dk_104 (dk_at dksX0_finders_8 6 rfl rfl)
theorem dX0_finders_195 : decode cX0_finders 195 = .ok (.ireturn, 1) := dk_172 (dk_at dksX0_finders_8 7 rfl rfl)
abbrev cX0_at : ByteArray := method_5_code
def yX0_at : MethodName := ⟨RX0, "at", "([[IZII)I"⟩
def dkwX0_at_0 : List UInt8 := [27, 153, 0, 11, 42, 29, 50, 28, 46, 167, 0, 8, 42, 28, 50, 29, 46, 172]
abbrev dktX0_at_0 : List UInt8 := dkwX0_at_0 ++ []
theorem dksX0_at_0 : cX0_at.data.toList.drop 0 = dktX0_at_0 := by decide +kernel
theorem dX0_at_0 : decode cX0_at 0 = .ok (.iload_n 1, 1) := dk_27 (dk_at dksX0_at_0 0 rfl rfl)
theorem dX0_at_1 : decode cX0_at 1 = .ok (.ifCond .eq 11, 3) := dk_153 0 11 (dk_at dksX0_at_0 1 rfl rfl)
theorem dX0_at_4 : decode cX0_at 4 = .ok (.aload_n 0, 1) := dk_42 (dk_at dksX0_at_0 4 rfl rfl)
theorem dX0_at_5 : decode cX0_at 5 = .ok (.iload_n 3, 1) := dk_29 (dk_at dksX0_at_0 5 rfl rfl)
theorem dX0_at_6 : decode cX0_at 6 = .ok (.aaload, 1) := dk_50 (dk_at dksX0_at_0 6 rfl rfl)
theorem dX0_at_7 : decode cX0_at 7 = .ok (.iload_n 2, 1) := dk_28 (dk_at dksX0_at_0 7 rfl rfl)
theorem dX0_at_8 : decode cX0_at 8 = .ok (.iaload, 1) := dk_46 (dk_at dksX0_at_0 8 rfl rfl)
theorem dX0_at_9 : decode cX0_at 9 = .ok (.goto 8, 3) := dk_167 0 8 (dk_at dksX0_at_0 9 rfl rfl)
theorem dX0_at_12 : decode cX0_at 12 = .ok (.aload_n 0, 1) := dk_42 (dk_at dksX0_at_0 12 rfl rfl)
theorem dX0_at_13 : decode cX0_at 13 = .ok (.iload_n 2, 1) := dk_28 (dk_at dksX0_at_0 13 rfl rfl)
theorem dX0_at_14 : decode cX0_at 14 = .ok (.aaload, 1) := dk_50 (dk_at dksX0_at_0 14 rfl rfl)
theorem dX0_at_15 : decode cX0_at 15 = .ok (.iload_n 3, 1) := dk_29 (dk_at dksX0_at_0 15 rfl rfl)
theorem dX0_at_16 : decode cX0_at 16 = .ok (.iaload, 1) := dk_46 (dk_at dksX0_at_0 16 rfl rfl)
theorem dX0_at_17 : decode cX0_at 17 = .ok (.ireturn, 1) := dk_172 (dk_at dksX0_at_0 17 rfl rfl)
abbrev cX0_isLight : ByteArray := method_9_code
def yX0_isLight : MethodName := ⟨RX0, "isLight", "([[IZIIZ)Z"⟩
def dkwX0_isLight_2 : List UInt8 := [154, 0, 7, 4, 167, 0, 4, 3, 54, 5, 132, 6, 1, 167, 255, 202, 21, 5, 172]
abbrev dktX0_isLight_2 : List UInt8 := dkwX0_isLight_2 ++ []
def dkwX0_isLight_1 : List UInt8 := [21, 6, 16, 21, 161, 0, 11, 21, 4, 153, 0, 21, 167, 0, 14, 42, 27, 28, 21, 6, 184, 0, 10]
abbrev dktX0_isLight_1 : List UInt8 := dkwX0_isLight_1 ++ dktX0_isLight_2
def dkwX0_isLight_0 : List UInt8 := [4, 54, 5, 29, 54, 6, 21, 6, 29, 7, 96, 162, 0, 52, 21, 5, 153, 0, 38, 21, 6, 155, 0, 10]
abbrev dktX0_isLight_0 : List UInt8 := dkwX0_isLight_0 ++ dktX0_isLight_1
theorem dksX0_isLight_0 : cX0_isLight.data.toList.drop 0 = dktX0_isLight_0 := by decide +kernel
theorem dksX0_isLight_1 : cX0_isLight.data.toList.drop 24 = dktX0_isLight_1 := dk_seg dksX0_isLight_0 24 rfl rfl
theorem dksX0_isLight_2 : cX0_isLight.data.toList.drop 47 = dktX0_isLight_2 := dk_seg dksX0_isLight_1 23 rfl rfl
theorem dX0_isLight_0 : decode cX0_isLight 0 = .ok (.iconst 1, 1) := dk_4 (dk_at dksX0_isLight_0 0 rfl rfl)
theorem dX0_isLight_1 : decode cX0_isLight 1 = .ok (.istore 5, 2) := dk_54 5 (dk_at dksX0_isLight_0 1 rfl rfl)
theorem dX0_isLight_3 : decode cX0_isLight 3 = .ok (.iload_n 3, 1) := dk_29 (dk_at dksX0_isLight_0 3 rfl rfl)
theorem dX0_isLight_4 : decode cX0_isLight 4 = .ok (.istore 6, 2) := dk_54 6 (dk_at dksX0_isLight_0 4 rfl rfl)
theorem dX0_isLight_6 : decode cX0_isLight 6 = .ok (.iload 6, 2) := dk_21 6 (dk_at dksX0_isLight_0 6 rfl rfl)
theorem dX0_isLight_8 : decode cX0_isLight 8 = .ok (.iload_n 3, 1) := dk_29 (dk_at dksX0_isLight_0 8 rfl rfl)
theorem dX0_isLight_9 : decode cX0_isLight 9 = .ok (.iconst 4, 1) := dk_7 (dk_at dksX0_isLight_0 9 rfl rfl)
theorem dX0_isLight_10 : decode cX0_isLight 10 = .ok (.iadd, 1) := dk_96 (dk_at dksX0_isLight_0 10 rfl rfl)
theorem dX0_isLight_11 : decode cX0_isLight 11 = .ok (.if_icmp .ge 52, 3) := dk_162 0 52 (dk_at dksX0_isLight_0 11 rfl rfl)
theorem dX0_isLight_14 : decode cX0_isLight 14 = .ok (.iload 5, 2) := dk_21 5 (dk_at dksX0_isLight_0 14 rfl rfl)
theorem dX0_isLight_16 : decode cX0_isLight 16 = .ok (.ifCond .eq 38, 3) := dk_153 0 38 (dk_at dksX0_isLight_0 16 rfl rfl)
theorem dX0_isLight_19 : decode cX0_isLight 19 = .ok (.iload 6, 2) := dk_21 6 (dk_at dksX0_isLight_0 19 rfl rfl)
theorem dX0_isLight_21 : decode cX0_isLight 21 = .ok (.ifCond .lt 10, 3) := dk_155 0 10 (dk_at dksX0_isLight_0 21 rfl rfl)
theorem dX0_isLight_24 : decode cX0_isLight 24 = .ok (.iload 6, 2) := dk_21 6 (dk_at dksX0_isLight_1 0 rfl rfl)
theorem dX0_isLight_26 : decode cX0_isLight 26 = .ok (.bipush 21, 2) := dk_16 21 (dk_at dksX0_isLight_1 2 rfl rfl)
theorem dX0_isLight_28 : decode cX0_isLight 28 = .ok (.if_icmp .lt 11, 3) := dk_161 0 11 (dk_at dksX0_isLight_1 4 rfl rfl)
theorem dX0_isLight_31 : decode cX0_isLight 31 = .ok (.iload 4, 2) := dk_21 4 (dk_at dksX0_isLight_1 7 rfl rfl)
theorem dX0_isLight_33 : decode cX0_isLight 33 = .ok (.ifCond .eq 21, 3) := dk_153 0 21 (dk_at dksX0_isLight_1 9 rfl rfl)
theorem dX0_isLight_36 : decode cX0_isLight 36 = .ok (.goto 14, 3) := dk_167 0 14 (dk_at dksX0_isLight_1 12 rfl rfl)
theorem dX0_isLight_39 : decode cX0_isLight 39 = .ok (.aload_n 0, 1) := dk_42 (dk_at dksX0_isLight_1 15 rfl rfl)
theorem dX0_isLight_40 : decode cX0_isLight 40 = .ok (.iload_n 1, 1) := dk_27 (dk_at dksX0_isLight_1 16 rfl rfl)
theorem dX0_isLight_41 : decode cX0_isLight 41 = .ok (.iload_n 2, 1) := dk_28 (dk_at dksX0_isLight_1 17 rfl rfl)
theorem dX0_isLight_42 : decode cX0_isLight 42 = .ok (.iload 6, 2) := dk_21 6 (dk_at dksX0_isLight_1 18 rfl rfl)
theorem dX0_isLight_44 : decode cX0_isLight 44 = .ok (.invokestatic 10, 3) := dk_184 0 10 (dk_at dksX0_isLight_1 20 rfl rfl)
theorem dX0_isLight_47 : decode cX0_isLight 47 = .ok (.ifCond .ne 7, 3) := dk_154 0 7 (dk_at dksX0_isLight_2 0 rfl rfl)
theorem dX0_isLight_50 : decode cX0_isLight 50 = .ok (.iconst 1, 1) := dk_4 (dk_at dksX0_isLight_2 3 rfl rfl)
theorem dX0_isLight_51 : decode cX0_isLight 51 = .ok (.goto 4, 3) := dk_167 0 4 (dk_at dksX0_isLight_2 4 rfl rfl)
theorem dX0_isLight_54 : decode cX0_isLight 54 = .ok (.iconst 0, 1) := dk_3 (dk_at dksX0_isLight_2 7 rfl rfl)
theorem dX0_isLight_55 : decode cX0_isLight 55 = .ok (.istore 5, 2) := dk_54 5 (dk_at dksX0_isLight_2 8 rfl rfl)
theorem dX0_isLight_57 : decode cX0_isLight 57 = .ok (.iinc 6 1, 3) := dk_132 6 1 (dk_at dksX0_isLight_2 10 rfl rfl)
theorem dX0_isLight_60 : decode cX0_isLight 60 = .ok (.goto (-54), 3) := dk_167 255 202 (dk_at dksX0_isLight_2 13 rfl rfl)
theorem dX0_isLight_63 : decode cX0_isLight 63 = .ok (.iload 5, 2) := dk_21 5 (dk_at dksX0_isLight_2 16 rfl rfl)
theorem dX0_isLight_65 : decode cX0_isLight 65 = .ok (.ireturn, 1) := dk_172 (dk_at dksX0_isLight_2 18 rfl rfl)
abbrev cX0_runs : ByteArray := method_6_code
def yX0_runs : MethodName := ⟨RX0, "runs", "([[I)I"⟩
def dkwX0_runs_5 : List UInt8 := [167, 255, 152, 132, 2, 1, 167, 255, 135, 27, 172]
abbrev dktX0_runs_5 : List UInt8 := dkwX0_runs_5 ++ []
def dkwX0_runs_4 : List UInt8 := [29, 8, 160, 0, 7, 6, 167, 0, 13, 29, 8, 164, 0, 7, 4, 167, 0, 4, 3, 96, 60, 132, 4, 1]
abbrev dktX0_runs_4 : List UInt8 := dkwX0_runs_4 ++ dktX0_runs_5
def dkwX0_runs_3 : List UInt8 := [160, 0, 7, 4, 167, 0, 4, 3, 54, 5, 21, 5, 153, 0, 9, 29, 4, 96, 167, 0, 4, 4, 62, 27]
abbrev dktX0_runs_3 : List UInt8 := dkwX0_runs_3 ++ dktX0_runs_4
def dkwX0_runs_2 : List UInt8 := [42, 28, 16, 21, 162, 0, 7, 4, 167, 0, 4, 3, 28, 16, 21, 112, 21, 4, 4, 100, 184, 0, 10]
abbrev dktX0_runs_2 : List UInt8 := dkwX0_runs_2 ++ dktX0_runs_3
def dkwX0_runs_1 : List UInt8 := [158, 0, 54, 42, 28, 16, 21, 162, 0, 7, 4, 167, 0, 4, 3, 28, 16, 21, 112, 21, 4, 184, 0, 10]
abbrev dktX0_runs_1 : List UInt8 := dkwX0_runs_1 ++ dktX0_runs_2
def dkwX0_runs_0 : List UInt8 := [3, 60, 3, 61, 28, 16, 42, 162, 0, 121, 3, 62, 3, 54, 4, 21, 4, 16, 21, 162, 0, 103, 21, 4]
abbrev dktX0_runs_0 : List UInt8 := dkwX0_runs_0 ++ dktX0_runs_1
theorem dksX0_runs_0 : cX0_runs.data.toList.drop 0 = dktX0_runs_0 := by decide +kernel
theorem dksX0_runs_1 : cX0_runs.data.toList.drop 24 = dktX0_runs_1 := dk_seg dksX0_runs_0 24 rfl rfl
theorem dksX0_runs_2 : cX0_runs.data.toList.drop 48 = dktX0_runs_2 := dk_seg dksX0_runs_1 24 rfl rfl
theorem dksX0_runs_3 : cX0_runs.data.toList.drop 71 = dktX0_runs_3 := dk_seg dksX0_runs_2 23 rfl rfl
theorem dksX0_runs_4 : cX0_runs.data.toList.drop 95 = dktX0_runs_4 := dk_seg dksX0_runs_3 24 rfl rfl
theorem dksX0_runs_5 : cX0_runs.data.toList.drop 119 = dktX0_runs_5 := dk_seg dksX0_runs_4 24 rfl rfl
theorem dX0_runs_0 : decode cX0_runs 0 = .ok (.iconst 0, 1) := dk_3 (dk_at dksX0_runs_0 0 rfl rfl)
theorem dX0_runs_1 : decode cX0_runs 1 = .ok (.istore_n 1, 1) := dk_60 (dk_at dksX0_runs_0 1 rfl rfl)
theorem dX0_runs_2 : decode cX0_runs 2 = .ok (.iconst 0, 1) := dk_3 (dk_at dksX0_runs_0 2 rfl rfl)
theorem dX0_runs_3 : decode cX0_runs 3 = .ok (.istore_n 2, 1) := dk_61 (dk_at dksX0_runs_0 3 rfl rfl)
theorem dX0_runs_4 : decode cX0_runs 4 = .ok (.iload_n 2, 1) := dk_28 (dk_at dksX0_runs_0 4 rfl rfl)
theorem dX0_runs_5 : decode cX0_runs 5 = .ok (.bipush 42, 2) := dk_16 42 (dk_at dksX0_runs_0 5 rfl rfl)
theorem dX0_runs_7 : decode cX0_runs 7 = .ok (.if_icmp .ge 121, 3) := dk_162 0 121 (dk_at dksX0_runs_0 7 rfl rfl)
theorem dX0_runs_10 : decode cX0_runs 10 = .ok (.iconst 0, 1) := dk_3 (dk_at dksX0_runs_0 10 rfl rfl)
theorem dX0_runs_11 : decode cX0_runs 11 = .ok (.istore_n 3, 1) := dk_62 (dk_at dksX0_runs_0 11 rfl rfl)
theorem dX0_runs_12 : decode cX0_runs 12 = .ok (.iconst 0, 1) := dk_3 (dk_at dksX0_runs_0 12 rfl rfl)
theorem dX0_runs_13 : decode cX0_runs 13 = .ok (.istore 4, 2) := dk_54 4 (dk_at dksX0_runs_0 13 rfl rfl)
theorem dX0_runs_15 : decode cX0_runs 15 = .ok (.iload 4, 2) := dk_21 4 (dk_at dksX0_runs_0 15 rfl rfl)
theorem dX0_runs_17 : decode cX0_runs 17 = .ok (.bipush 21, 2) := dk_16 21 (dk_at dksX0_runs_0 17 rfl rfl)
theorem dX0_runs_19 : decode cX0_runs 19 = .ok (.if_icmp .ge 103, 3) := dk_162 0 103 (dk_at dksX0_runs_0 19 rfl rfl)
theorem dX0_runs_22 : decode cX0_runs 22 = .ok (.iload 4, 2) := dk_21 4 (dk_at dksX0_runs_0 22 rfl rfl)
theorem dX0_runs_24 : decode cX0_runs 24 = .ok (.ifCond .le 54, 3) := dk_158 0 54 (dk_at dksX0_runs_1 0 rfl rfl)
theorem dX0_runs_27 : decode cX0_runs 27 = .ok (.aload_n 0, 1) := dk_42 (dk_at dksX0_runs_1 3 rfl rfl)
theorem dX0_runs_28 : decode cX0_runs 28 = .ok (.iload_n 2, 1) := dk_28 (dk_at dksX0_runs_1 4 rfl rfl)
theorem dX0_runs_29 : decode cX0_runs 29 = .ok (.bipush 21, 2) := dk_16 21 (dk_at dksX0_runs_1 5 rfl rfl)
theorem dX0_runs_31 : decode cX0_runs 31 = .ok (.if_icmp .ge 7, 3) := dk_162 0 7 (dk_at dksX0_runs_1 7 rfl rfl)
theorem dX0_runs_34 : decode cX0_runs 34 = .ok (.iconst 1, 1) := dk_4 (dk_at dksX0_runs_1 10 rfl rfl)
theorem dX0_runs_35 : decode cX0_runs 35 = .ok (.goto 4, 3) := dk_167 0 4 (dk_at dksX0_runs_1 11 rfl rfl)
theorem dX0_runs_38 : decode cX0_runs 38 = .ok (.iconst 0, 1) := dk_3 (dk_at dksX0_runs_1 14 rfl rfl)
theorem dX0_runs_39 : decode cX0_runs 39 = .ok (.iload_n 2, 1) := dk_28 (dk_at dksX0_runs_1 15 rfl rfl)
theorem dX0_runs_40 : decode cX0_runs 40 = .ok (.bipush 21, 2) := dk_16 21 (dk_at dksX0_runs_1 16 rfl rfl)
theorem dX0_runs_42 : decode cX0_runs 42 = .ok (.irem, 1) := dk_112 (dk_at dksX0_runs_1 18 rfl rfl)
theorem dX0_runs_43 : decode cX0_runs 43 = .ok (.iload 4, 2) := dk_21 4 (dk_at dksX0_runs_1 19 rfl rfl)
theorem dX0_runs_45 : decode cX0_runs 45 = .ok (.invokestatic 10, 3) := dk_184 0 10 (dk_at dksX0_runs_1 21 rfl rfl)
theorem dX0_runs_48 : decode cX0_runs 48 = .ok (.aload_n 0, 1) := dk_42 (dk_at dksX0_runs_2 0 rfl rfl)
theorem dX0_runs_49 : decode cX0_runs 49 = .ok (.iload_n 2, 1) := dk_28 (dk_at dksX0_runs_2 1 rfl rfl)
theorem dX0_runs_50 : decode cX0_runs 50 = .ok (.bipush 21, 2) := dk_16 21 (dk_at dksX0_runs_2 2 rfl rfl)
theorem dX0_runs_52 : decode cX0_runs 52 = .ok (.if_icmp .ge 7, 3) := dk_162 0 7 (dk_at dksX0_runs_2 4 rfl rfl)
theorem dX0_runs_55 : decode cX0_runs 55 = .ok (.iconst 1, 1) := dk_4 (dk_at dksX0_runs_2 7 rfl rfl)
theorem dX0_runs_56 : decode cX0_runs 56 = .ok (.goto 4, 3) := dk_167 0 4 (dk_at dksX0_runs_2 8 rfl rfl)
theorem dX0_runs_59 : decode cX0_runs 59 = .ok (.iconst 0, 1) := dk_3 (dk_at dksX0_runs_2 11 rfl rfl)
theorem dX0_runs_60 : decode cX0_runs 60 = .ok (.iload_n 2, 1) := dk_28 (dk_at dksX0_runs_2 12 rfl rfl)
theorem dX0_runs_61 : decode cX0_runs 61 = .ok (.bipush 21, 2) := dk_16 21 (dk_at dksX0_runs_2 13 rfl rfl)
theorem dX0_runs_63 : decode cX0_runs 63 = .ok (.irem, 1) := dk_112 (dk_at dksX0_runs_2 15 rfl rfl)
theorem dX0_runs_64 : decode cX0_runs 64 = .ok (.iload 4, 2) := dk_21 4 (dk_at dksX0_runs_2 16 rfl rfl)
theorem dX0_runs_66 : decode cX0_runs 66 = .ok (.iconst 1, 1) := dk_4 (dk_at dksX0_runs_2 18 rfl rfl)
theorem dX0_runs_67 : decode cX0_runs 67 = .ok (.isub, 1) := dk_100 (dk_at dksX0_runs_2 19 rfl rfl)
theorem dX0_runs_68 : decode cX0_runs 68 = .ok (.invokestatic 10, 3) := dk_184 0 10 (dk_at dksX0_runs_2 20 rfl rfl)
theorem dX0_runs_71 : decode cX0_runs 71 = .ok (.if_icmp .ne 7, 3) := dk_160 0 7 (dk_at dksX0_runs_3 0 rfl rfl)
theorem dX0_runs_74 : decode cX0_runs 74 = .ok (.iconst 1, 1) := dk_4 (dk_at dksX0_runs_3 3 rfl rfl)
theorem dX0_runs_75 : decode cX0_runs 75 = .ok (.goto 4, 3) := dk_167 0 4 (dk_at dksX0_runs_3 4 rfl rfl)
theorem dX0_runs_78 : decode cX0_runs 78 = .ok (.iconst 0, 1) := dk_3 (dk_at dksX0_runs_3 7 rfl rfl)
theorem dX0_runs_79 : decode cX0_runs 79 = .ok (.istore 5, 2) := dk_54 5 (dk_at dksX0_runs_3 8 rfl rfl)
theorem dX0_runs_81 : decode cX0_runs 81 = .ok (.iload 5, 2) := dk_21 5 (dk_at dksX0_runs_3 10 rfl rfl)
theorem dX0_runs_83 : decode cX0_runs 83 = .ok (.ifCond .eq 9, 3) := dk_153 0 9 (dk_at dksX0_runs_3 12 rfl rfl)
theorem dX0_runs_86 : decode cX0_runs 86 = .ok (.iload_n 3, 1) := dk_29 (dk_at dksX0_runs_3 15 rfl rfl)
theorem dX0_runs_87 : decode cX0_runs 87 = .ok (.iconst 1, 1) := dk_4 (dk_at dksX0_runs_3 16 rfl rfl)
theorem dX0_runs_88 : decode cX0_runs 88 = .ok (.iadd, 1) := dk_96 (dk_at dksX0_runs_3 17 rfl rfl)
theorem dX0_runs_89 : decode cX0_runs 89 = .ok (.goto 4, 3) := dk_167 0 4 (dk_at dksX0_runs_3 18 rfl rfl)
theorem dX0_runs_92 : decode cX0_runs 92 = .ok (.iconst 1, 1) := dk_4 (dk_at dksX0_runs_3 21 rfl rfl)
theorem dX0_runs_93 : decode cX0_runs 93 = .ok (.istore_n 3, 1) := dk_62 (dk_at dksX0_runs_3 22 rfl rfl)
theorem dX0_runs_94 : decode cX0_runs 94 = .ok (.iload_n 1, 1) := dk_27 (dk_at dksX0_runs_3 23 rfl rfl)
theorem dX0_runs_95 : decode cX0_runs 95 = .ok (.iload_n 3, 1) := dk_29 (dk_at dksX0_runs_4 0 rfl rfl)
theorem dX0_runs_96 : decode cX0_runs 96 = .ok (.iconst 5, 1) := dk_8 (dk_at dksX0_runs_4 1 rfl rfl)
theorem dX0_runs_97 : decode cX0_runs 97 = .ok (.if_icmp .ne 7, 3) := dk_160 0 7 (dk_at dksX0_runs_4 2 rfl rfl)
theorem dX0_runs_100 : decode cX0_runs 100 = .ok (.iconst 3, 1) := dk_6 (dk_at dksX0_runs_4 5 rfl rfl)
theorem dX0_runs_101 : decode cX0_runs 101 = .ok (.goto 13, 3) := dk_167 0 13 (dk_at dksX0_runs_4 6 rfl rfl)
theorem dX0_runs_104 : decode cX0_runs 104 = .ok (.iload_n 3, 1) := dk_29 (dk_at dksX0_runs_4 9 rfl rfl)
theorem dX0_runs_105 : decode cX0_runs 105 = .ok (.iconst 5, 1) := dk_8 (dk_at dksX0_runs_4 10 rfl rfl)
theorem dX0_runs_106 : decode cX0_runs 106 = .ok (.if_icmp .le 7, 3) := dk_164 0 7 (dk_at dksX0_runs_4 11 rfl rfl)
theorem dX0_runs_109 : decode cX0_runs 109 = .ok (.iconst 1, 1) := dk_4 (dk_at dksX0_runs_4 14 rfl rfl)
theorem dX0_runs_110 : decode cX0_runs 110 = .ok (.goto 4, 3) := dk_167 0 4 (dk_at dksX0_runs_4 15 rfl rfl)
theorem dX0_runs_113 : decode cX0_runs 113 = .ok (.iconst 0, 1) := dk_3 (dk_at dksX0_runs_4 18 rfl rfl)
theorem dX0_runs_114 : decode cX0_runs 114 = .ok (.iadd, 1) := dk_96 (dk_at dksX0_runs_4 19 rfl rfl)
theorem dX0_runs_115 : decode cX0_runs 115 = .ok (.istore_n 1, 1) := dk_60 (dk_at dksX0_runs_4 20 rfl rfl)
theorem dX0_runs_116 : decode cX0_runs 116 = .ok (.iinc 4 1, 3) := dk_132 4 1 (dk_at dksX0_runs_4 21 rfl rfl)
theorem dX0_runs_119 : decode cX0_runs 119 = .ok (.goto (-104), 3) := dk_167 255 152 (dk_at dksX0_runs_5 0 rfl rfl)
theorem dX0_runs_122 : decode cX0_runs 122 = .ok (.iinc 2 1, 3) := dk_132 2 1 (dk_at dksX0_runs_5 3 rfl rfl)
theorem dX0_runs_125 : decode cX0_runs 125 = .ok (.goto (-121), 3) := dk_167 255 135 (dk_at dksX0_runs_5 6 rfl rfl)
theorem dX0_runs_128 : decode cX0_runs 128 = .ok (.iload_n 1, 1) := dk_27 (dk_at dksX0_runs_5 9 rfl rfl)
theorem dX0_runs_129 : decode cX0_runs 129 = .ok (.ireturn, 1) := dk_172 (dk_at dksX0_runs_5 10 rfl rfl)
abbrev cX0_squares : ByteArray := method_7_code
def yX0_squares : MethodName := ⟨RX0, "squares", "([[I)I"⟩
def dkwX0_squares_3 : List UInt8 := [132, 3, 1, 167, 255, 197, 132, 2, 1, 167, 255, 181, 27, 172]
abbrev dktX0_squares_3 : List UInt8 := dkwX0_squares_3 ++ []
def dkwX0_squares_2 : List UInt8 := [29, 4, 96, 46, 96, 54, 4, 27, 21, 4, 7, 112, 154, 0, 7, 6, 167, 0, 4, 3, 96, 60]
abbrev dktX0_squares_2 : List UInt8 := dkwX0_squares_2 ++ dktX0_squares_3
def dkwX0_squares_1 : List UInt8 := [50, 29, 46, 42, 28, 4, 96, 50, 29, 46, 96, 42, 28, 50, 29, 4, 96, 46, 96, 42, 28, 4, 96, 50]
abbrev dktX0_squares_1 : List UInt8 := dkwX0_squares_1 ++ dktX0_squares_2
def dkwX0_squares_0 : List UInt8 := [3, 60, 3, 61, 28, 4, 96, 16, 21, 162, 0, 73, 3, 62, 29, 4, 96, 16, 21, 162, 0, 57, 42, 28]
abbrev dktX0_squares_0 : List UInt8 := dkwX0_squares_0 ++ dktX0_squares_1
theorem dksX0_squares_0 : cX0_squares.data.toList.drop 0 = dktX0_squares_0 := by decide +kernel
theorem dksX0_squares_1 : cX0_squares.data.toList.drop 24 = dktX0_squares_1 := dk_seg dksX0_squares_0 24 rfl rfl
theorem dksX0_squares_2 : cX0_squares.data.toList.drop 48 = dktX0_squares_2 := dk_seg dksX0_squares_1 24 rfl rfl
theorem dksX0_squares_3 : cX0_squares.data.toList.drop 70 = dktX0_squares_3 := dk_seg dksX0_squares_2 22 rfl rfl
theorem dX0_squares_0 : decode cX0_squares 0 = .ok (.iconst 0, 1) := dk_3 (dk_at dksX0_squares_0 0 rfl rfl)
theorem dX0_squares_1 : decode cX0_squares 1 = .ok (.istore_n 1, 1) := dk_60 (dk_at dksX0_squares_0 1 rfl rfl)
theorem dX0_squares_2 : decode cX0_squares 2 = .ok (.iconst 0, 1) := dk_3 (dk_at dksX0_squares_0 2 rfl rfl)
theorem dX0_squares_3 : decode cX0_squares 3 = .ok (.istore_n 2, 1) := dk_61 (dk_at dksX0_squares_0 3 rfl rfl)
theorem dX0_squares_4 : decode cX0_squares 4 = .ok (.iload_n 2, 1) := dk_28 (dk_at dksX0_squares_0 4 rfl rfl)
theorem dX0_squares_5 : decode cX0_squares 5 = .ok (.iconst 1, 1) := dk_4 (dk_at dksX0_squares_0 5 rfl rfl)
theorem dX0_squares_6 : decode cX0_squares 6 = .ok (.iadd, 1) := dk_96 (dk_at dksX0_squares_0 6 rfl rfl)
theorem dX0_squares_7 : decode cX0_squares 7 = .ok (.bipush 21, 2) := dk_16 21 (dk_at dksX0_squares_0 7 rfl rfl)
theorem dX0_squares_9 : decode cX0_squares 9 = .ok (.if_icmp .ge 73, 3) := dk_162 0 73 (dk_at dksX0_squares_0 9 rfl rfl)
theorem dX0_squares_12 : decode cX0_squares 12 = .ok (.iconst 0, 1) := dk_3 (dk_at dksX0_squares_0 12 rfl rfl)
theorem dX0_squares_13 : decode cX0_squares 13 = .ok (.istore_n 3, 1) := dk_62 (dk_at dksX0_squares_0 13 rfl rfl)
theorem dX0_squares_14 : decode cX0_squares 14 = .ok (.iload_n 3, 1) := dk_29 (dk_at dksX0_squares_0 14 rfl rfl)
theorem dX0_squares_15 : decode cX0_squares 15 = .ok (.iconst 1, 1) := dk_4 (dk_at dksX0_squares_0 15 rfl rfl)
theorem dX0_squares_16 : decode cX0_squares 16 = .ok (.iadd, 1) := dk_96 (dk_at dksX0_squares_0 16 rfl rfl)
theorem dX0_squares_17 : decode cX0_squares 17 = .ok (.bipush 21, 2) := dk_16 21 (dk_at dksX0_squares_0 17 rfl rfl)
theorem dX0_squares_19 : decode cX0_squares 19 = .ok (.if_icmp .ge 57, 3) := dk_162 0 57 (dk_at dksX0_squares_0 19 rfl rfl)
theorem dX0_squares_22 : decode cX0_squares 22 = .ok (.aload_n 0, 1) := dk_42 (dk_at dksX0_squares_0 22 rfl rfl)
theorem dX0_squares_23 : decode cX0_squares 23 = .ok (.iload_n 2, 1) := dk_28 (dk_at dksX0_squares_0 23 rfl rfl)
theorem dX0_squares_24 : decode cX0_squares 24 = .ok (.aaload, 1) := dk_50 (dk_at dksX0_squares_1 0 rfl rfl)
theorem dX0_squares_25 : decode cX0_squares 25 = .ok (.iload_n 3, 1) := dk_29 (dk_at dksX0_squares_1 1 rfl rfl)
theorem dX0_squares_26 : decode cX0_squares 26 = .ok (.iaload, 1) := dk_46 (dk_at dksX0_squares_1 2 rfl rfl)
theorem dX0_squares_27 : decode cX0_squares 27 = .ok (.aload_n 0, 1) := dk_42 (dk_at dksX0_squares_1 3 rfl rfl)
theorem dX0_squares_28 : decode cX0_squares 28 = .ok (.iload_n 2, 1) := dk_28 (dk_at dksX0_squares_1 4 rfl rfl)
theorem dX0_squares_29 : decode cX0_squares 29 = .ok (.iconst 1, 1) := dk_4 (dk_at dksX0_squares_1 5 rfl rfl)
theorem dX0_squares_30 : decode cX0_squares 30 = .ok (.iadd, 1) := dk_96 (dk_at dksX0_squares_1 6 rfl rfl)
theorem dX0_squares_31 : decode cX0_squares 31 = .ok (.aaload, 1) := dk_50 (dk_at dksX0_squares_1 7 rfl rfl)
theorem dX0_squares_32 : decode cX0_squares 32 = .ok (.iload_n 3, 1) := dk_29 (dk_at dksX0_squares_1 8 rfl rfl)
theorem dX0_squares_33 : decode cX0_squares 33 = .ok (.iaload, 1) := dk_46 (dk_at dksX0_squares_1 9 rfl rfl)
theorem dX0_squares_34 : decode cX0_squares 34 = .ok (.iadd, 1) := dk_96 (dk_at dksX0_squares_1 10 rfl rfl)
theorem dX0_squares_35 : decode cX0_squares 35 = .ok (.aload_n 0, 1) := dk_42 (dk_at dksX0_squares_1 11 rfl rfl)
theorem dX0_squares_36 : decode cX0_squares 36 = .ok (.iload_n 2, 1) := dk_28 (dk_at dksX0_squares_1 12 rfl rfl)
theorem dX0_squares_37 : decode cX0_squares 37 = .ok (.aaload, 1) := dk_50 (dk_at dksX0_squares_1 13 rfl rfl)
theorem dX0_squares_38 : decode cX0_squares 38 = .ok (.iload_n 3, 1) := dk_29 (dk_at dksX0_squares_1 14 rfl rfl)
theorem dX0_squares_39 : decode cX0_squares 39 = .ok (.iconst 1, 1) := dk_4 (dk_at dksX0_squares_1 15 rfl rfl)
theorem dX0_squares_40 : decode cX0_squares 40 = .ok (.iadd, 1) := dk_96 (dk_at dksX0_squares_1 16 rfl rfl)
theorem dX0_squares_41 : decode cX0_squares 41 = .ok (.iaload, 1) := dk_46 (dk_at dksX0_squares_1 17 rfl rfl)
theorem dX0_squares_42 : decode cX0_squares 42 = .ok (.iadd, 1) := dk_96 (dk_at dksX0_squares_1 18 rfl rfl)
theorem dX0_squares_43 : decode cX0_squares 43 = .ok (.aload_n 0, 1) := dk_42 (dk_at dksX0_squares_1 19 rfl rfl)
theorem dX0_squares_44 : decode cX0_squares 44 = .ok (.iload_n 2, 1) := dk_28 (dk_at dksX0_squares_1 20 rfl rfl)
theorem dX0_squares_45 : decode cX0_squares 45 = .ok (.iconst 1, 1) := dk_4 (dk_at dksX0_squares_1 21 rfl rfl)
theorem dX0_squares_46 : decode cX0_squares 46 = .ok (.iadd, 1) := dk_96 (dk_at dksX0_squares_1 22 rfl rfl)
theorem dX0_squares_47 : decode cX0_squares 47 = .ok (.aaload, 1) := dk_50 (dk_at dksX0_squares_1 23 rfl rfl)
theorem dX0_squares_48 : decode cX0_squares 48 = .ok (.iload_n 3, 1) := dk_29 (dk_at dksX0_squares_2 0 rfl rfl)
theorem dX0_squares_49 : decode cX0_squares 49 = .ok (.iconst 1, 1) := dk_4 (dk_at dksX0_squares_2 1 rfl rfl)
theorem dX0_squares_50 : decode cX0_squares 50 = .ok (.iadd, 1) := dk_96 (dk_at dksX0_squares_2 2 rfl rfl)
theorem dX0_squares_51 : decode cX0_squares 51 = .ok (.iaload, 1) := dk_46 (dk_at dksX0_squares_2 3 rfl rfl)
theorem dX0_squares_52 : decode cX0_squares 52 = .ok (.iadd, 1) := dk_96 (dk_at dksX0_squares_2 4 rfl rfl)
theorem dX0_squares_53 : decode cX0_squares 53 = .ok (.istore 4, 2) := dk_54 4 (dk_at dksX0_squares_2 5 rfl rfl)
theorem dX0_squares_55 : decode cX0_squares 55 = .ok (.iload_n 1, 1) := dk_27 (dk_at dksX0_squares_2 7 rfl rfl)
theorem dX0_squares_56 : decode cX0_squares 56 = .ok (.iload 4, 2) := dk_21 4 (dk_at dksX0_squares_2 8 rfl rfl)
theorem dX0_squares_58 : decode cX0_squares 58 = .ok (.iconst 4, 1) := dk_7 (dk_at dksX0_squares_2 10 rfl rfl)
theorem dX0_squares_59 : decode cX0_squares 59 = .ok (.irem, 1) := dk_112 (dk_at dksX0_squares_2 11 rfl rfl)
theorem dX0_squares_60 : decode cX0_squares 60 = .ok (.ifCond .ne 7, 3) := dk_154 0 7 (dk_at dksX0_squares_2 12 rfl rfl)
theorem dX0_squares_63 : decode cX0_squares 63 = .ok (.iconst 3, 1) := dk_6 (dk_at dksX0_squares_2 15 rfl rfl)
theorem dX0_squares_64 : decode cX0_squares 64 = .ok (.goto 4, 3) := dk_167 0 4 (dk_at dksX0_squares_2 16 rfl rfl)
theorem dX0_squares_67 : decode cX0_squares 67 = .ok (.iconst 0, 1) := dk_3 (dk_at dksX0_squares_2 19 rfl rfl)
theorem dX0_squares_68 : decode cX0_squares 68 = .ok (.iadd, 1) := dk_96 (dk_at dksX0_squares_2 20 rfl rfl)
theorem dX0_squares_69 : decode cX0_squares 69 = .ok (.istore_n 1, 1) := dk_60 (dk_at dksX0_squares_2 21 rfl rfl)
theorem dX0_squares_70 : decode cX0_squares 70 = .ok (.iinc 3 1, 3) := dk_132 3 1 (dk_at dksX0_squares_3 0 rfl rfl)
theorem dX0_squares_73 : decode cX0_squares 73 = .ok (.goto (-59), 3) := dk_167 255 197 (dk_at dksX0_squares_3 3 rfl rfl)
theorem dX0_squares_76 : decode cX0_squares 76 = .ok (.iinc 2 1, 3) := dk_132 2 1 (dk_at dksX0_squares_3 6 rfl rfl)
theorem dX0_squares_79 : decode cX0_squares 79 = .ok (.goto (-75), 3) := dk_167 255 181 (dk_at dksX0_squares_3 9 rfl rfl)
theorem dX0_squares_82 : decode cX0_squares 82 = .ok (.iload_n 1, 1) := dk_27 (dk_at dksX0_squares_3 12 rfl rfl)
theorem dX0_squares_83 : decode cX0_squares 83 = .ok (.ireturn, 1) := dk_172 (dk_at dksX0_squares_3 13 rfl rfl)
abbrev cX0_share : ByteArray := method_8_code
def yX0_share : MethodName := ⟨RX0, "share", "([[I)I"⟩
def dkwX0_share_2 : List UInt8 := [28, 16, 10, 104, 17, 1, 185, 108, 16, 10, 104, 172]
abbrev dktX0_share_2 : List UInt8 := dkwX0_share_2 ++ []
def dkwX0_share_1 : List UInt8 := [60, 132, 2, 1, 167, 255, 232, 5, 27, 104, 17, 1, 185, 100, 61, 28, 156, 0, 8, 28, 116, 167, 0, 4]
abbrev dktX0_share_1 : List UInt8 := dkwX0_share_1 ++ dktX0_share_2
def dkwX0_share_0 : List UInt8 := [3, 60, 3, 61, 28, 17, 1, 185, 162, 0, 23, 27, 42, 28, 16, 21, 108, 50, 28, 16, 21, 112, 46, 96]
abbrev dktX0_share_0 : List UInt8 := dkwX0_share_0 ++ dktX0_share_1
theorem dksX0_share_0 : cX0_share.data.toList.drop 0 = dktX0_share_0 := by decide +kernel
theorem dksX0_share_1 : cX0_share.data.toList.drop 24 = dktX0_share_1 := dk_seg dksX0_share_0 24 rfl rfl
theorem dksX0_share_2 : cX0_share.data.toList.drop 48 = dktX0_share_2 := dk_seg dksX0_share_1 24 rfl rfl
theorem dX0_share_0 : decode cX0_share 0 = .ok (.iconst 0, 1) := dk_3 (dk_at dksX0_share_0 0 rfl rfl)
theorem dX0_share_1 : decode cX0_share 1 = .ok (.istore_n 1, 1) := dk_60 (dk_at dksX0_share_0 1 rfl rfl)
theorem dX0_share_2 : decode cX0_share 2 = .ok (.iconst 0, 1) := dk_3 (dk_at dksX0_share_0 2 rfl rfl)
theorem dX0_share_3 : decode cX0_share 3 = .ok (.istore_n 2, 1) := dk_61 (dk_at dksX0_share_0 3 rfl rfl)
theorem dX0_share_4 : decode cX0_share 4 = .ok (.iload_n 2, 1) := dk_28 (dk_at dksX0_share_0 4 rfl rfl)
theorem dX0_share_5 : decode cX0_share 5 = .ok (.sipush 441, 3) := dk_17 1 185 (dk_at dksX0_share_0 5 rfl rfl)
theorem dX0_share_8 : decode cX0_share 8 = .ok (.if_icmp .ge 23, 3) := dk_162 0 23 (dk_at dksX0_share_0 8 rfl rfl)
theorem dX0_share_11 : decode cX0_share 11 = .ok (.iload_n 1, 1) := dk_27 (dk_at dksX0_share_0 11 rfl rfl)
theorem dX0_share_12 : decode cX0_share 12 = .ok (.aload_n 0, 1) := dk_42 (dk_at dksX0_share_0 12 rfl rfl)
theorem dX0_share_13 : decode cX0_share 13 = .ok (.iload_n 2, 1) := dk_28 (dk_at dksX0_share_0 13 rfl rfl)
theorem dX0_share_14 : decode cX0_share 14 = .ok (.bipush 21, 2) := dk_16 21 (dk_at dksX0_share_0 14 rfl rfl)
theorem dX0_share_16 : decode cX0_share 16 = .ok (.idiv, 1) := dk_108 (dk_at dksX0_share_0 16 rfl rfl)
theorem dX0_share_17 : decode cX0_share 17 = .ok (.aaload, 1) := dk_50 (dk_at dksX0_share_0 17 rfl rfl)
theorem dX0_share_18 : decode cX0_share 18 = .ok (.iload_n 2, 1) := dk_28 (dk_at dksX0_share_0 18 rfl rfl)
theorem dX0_share_19 : decode cX0_share 19 = .ok (.bipush 21, 2) := dk_16 21 (dk_at dksX0_share_0 19 rfl rfl)
theorem dX0_share_21 : decode cX0_share 21 = .ok (.irem, 1) := dk_112 (dk_at dksX0_share_0 21 rfl rfl)
theorem dX0_share_22 : decode cX0_share 22 = .ok (.iaload, 1) := dk_46 (dk_at dksX0_share_0 22 rfl rfl)
theorem dX0_share_23 : decode cX0_share 23 = .ok (.iadd, 1) := dk_96 (dk_at dksX0_share_0 23 rfl rfl)
theorem dX0_share_24 : decode cX0_share 24 = .ok (.istore_n 1, 1) := dk_60 (dk_at dksX0_share_1 0 rfl rfl)
theorem dX0_share_25 : decode cX0_share 25 = .ok (.iinc 2 1, 3) := dk_132 2 1 (dk_at dksX0_share_1 1 rfl rfl)
theorem dX0_share_28 : decode cX0_share 28 = .ok (.goto (-24), 3) := dk_167 255 232 (dk_at dksX0_share_1 4 rfl rfl)
theorem dX0_share_31 : decode cX0_share 31 = .ok (.iconst 2, 1) := dk_5 (dk_at dksX0_share_1 7 rfl rfl)
theorem dX0_share_32 : decode cX0_share 32 = .ok (.iload_n 1, 1) := dk_27 (dk_at dksX0_share_1 8 rfl rfl)
theorem dX0_share_33 : decode cX0_share 33 = .ok (.imul, 1) := dk_104 (dk_at dksX0_share_1 9 rfl rfl)
theorem dX0_share_34 : decode cX0_share 34 = .ok (.sipush 441, 3) := dk_17 1 185 (dk_at dksX0_share_1 10 rfl rfl)
theorem dX0_share_37 : decode cX0_share 37 = .ok (.isub, 1) := dk_100 (dk_at dksX0_share_1 13 rfl rfl)
theorem dX0_share_38 : decode cX0_share 38 = .ok (.istore_n 2, 1) := dk_61 (dk_at dksX0_share_1 14 rfl rfl)
theorem dX0_share_39 : decode cX0_share 39 = .ok (.iload_n 2, 1) := dk_28 (dk_at dksX0_share_1 15 rfl rfl)
theorem dX0_share_40 : decode cX0_share 40 = .ok (.ifCond .ge 8, 3) := dk_156 0 8 (dk_at dksX0_share_1 16 rfl rfl)
theorem dX0_share_43 : decode cX0_share 43 = .ok (.iload_n 2, 1) := dk_28 (dk_at dksX0_share_1 19 rfl rfl)
theorem dX0_share_44 : decode cX0_share 44 = .ok (.ineg, 1) := dk_116 (dk_at dksX0_share_1 20 rfl rfl)
theorem dX0_share_45 : decode cX0_share 45 = .ok (.goto 4, 3) := dk_167 0 4 (dk_at dksX0_share_1 21 rfl rfl)
theorem dX0_share_48 : decode cX0_share 48 = .ok (.iload_n 2, 1) := dk_28 (dk_at dksX0_share_2 0 rfl rfl)
theorem dX0_share_49 : decode cX0_share 49 = .ok (.bipush 10, 2) := dk_16 10 (dk_at dksX0_share_2 1 rfl rfl)
theorem dX0_share_51 : decode cX0_share 51 = .ok (.imul, 1) := dk_104 (dk_at dksX0_share_2 3 rfl rfl)
theorem dX0_share_52 : decode cX0_share 52 = .ok (.sipush 441, 3) := dk_17 1 185 (dk_at dksX0_share_2 4 rfl rfl)
theorem dX0_share_55 : decode cX0_share 55 = .ok (.idiv, 1) := dk_108 (dk_at dksX0_share_2 7 rfl rfl)
theorem dX0_share_56 : decode cX0_share 56 = .ok (.bipush 10, 2) := dk_16 10 (dk_at dksX0_share_2 8 rfl rfl)
theorem dX0_share_58 : decode cX0_share 58 = .ok (.imul, 1) := dk_104 (dk_at dksX0_share_2 10 rfl rfl)
theorem dX0_share_59 : decode cX0_share 59 = .ok (.ireturn, 1) := dk_172 (dk_at dksX0_share_2 11 rfl rfl)
theorem q1 : (Jvm.Cond.initialized "PenaltyDeskLaw") ∈ lw_all := lw_g (lw_at lw_m0 0 rfl) rfl
theorem q10 : (Jvm.Cond.classLink "PenaltyDeskLaw" (19 : Nat) "PenaltyDesk") ∈ lw_all := lw_g (lw_at lw_m0 9 rfl) rfl
theorem q12 : (Jvm.Cond.methodLink "PenaltyDeskLaw" (47 : Nat) ({ cls := "PenaltyDesk", name := "<init>", desc := "()V" } : Jvm.MethodName)) ∈ lw_all := lw_g (lw_at lw_m0 11 rfl) rfl
theorem q41 : (Jvm.Cond.methodLink "PenaltyDeskLaw" (61 : Nat) ({ cls := "PenaltyDesk", name := "set", desc := "(III)V" } : Jvm.MethodName)) ∈ lw_all := lw_g (lw_at lw_m0 40 rfl) rfl
theorem q50 : (Jvm.Cond.methodLink "PenaltyDeskLaw" (65 : Nat) ({ cls := "PenaltyDesk", name := "fill", desc := "(IIIII)V" } : Jvm.MethodName)) ∈ lw_all := lw_g (lw_at lw_m0 49 rfl) rfl
theorem q54 : (Jvm.Cond.methodLink "PenaltyDeskLaw" (77 : Nat) ({ cls := "PenaltyDesk", name := "mask", desc := "(III)Z" } : Jvm.MethodName)) ∈ lw_all := lw_g (lw_at lw_m0 53 rfl) rfl
theorem q126 : (Jvm.Cond.methodLink "PenaltyDeskLaw" (69 : Nat) ({ cls := "PenaltyDesk", name := "masked", desc := "(I)V" } : Jvm.MethodName)) ∈ lw_all := lw_g (lw_at lw_m0 125 rfl) rfl
theorem q134 : (Jvm.Cond.methodLink "PenaltyDeskLaw" (54 : Nat) ({ cls := "PenaltyDeskLaw", name := "cell", desc := "([II)I" } : Jvm.MethodName)) ∈ lw_all := lw_g (lw_at lw_m0 133 rfl) rfl
theorem q135 : (Jvm.Cond.static ({ cls := "PenaltyDeskLaw", name := "cell", desc := "([II)I" } : Jvm.MethodName)) ∈ lw_all := lw_g (lw_at lw_m0 134 rfl) rfl
theorem q136 : (Jvm.Cond.code ({ cls := "PenaltyDeskLaw", name := "cell", desc := "([II)I" } : Jvm.MethodName) method_2_code (2 : Nat) (Option.some Jvm.ClassFile.FieldType.int)) ∈ lw_all := lw_g (lw_at lw_m0 135 rfl) rfl
theorem q137 : (Jvm.Cond.methodLink "PenaltyDeskLaw" (58 : Nat) ({ cls := "PenaltyDeskLaw", name := "mod", desc := "(II)I" } : Jvm.MethodName)) ∈ lw_all := lw_g (lw_at lw_m0 136 rfl) rfl
theorem q138 : (Jvm.Cond.static ({ cls := "PenaltyDeskLaw", name := "mod", desc := "(II)I" } : Jvm.MethodName)) ∈ lw_all := lw_g (lw_at lw_m0 137 rfl) rfl
theorem q139 : (Jvm.Cond.code ({ cls := "PenaltyDeskLaw", name := "mod", desc := "(II)I" } : Jvm.MethodName) method_3_code (2 : Nat) (Option.some Jvm.ClassFile.FieldType.int)) ∈ lw_all := lw_g (lw_at lw_m0 138 rfl) rfl
theorem q140 : (Jvm.Cond.constant "PenaltyDeskLaw" (9 : Nat) (2147483647 : Int32)) ∈ lw_all := lw_g (lw_at lw_m0 139 rfl) rfl
theorem q141 : (Jvm.Cond.methodLink "PenaltyDeskLaw" (73 : Nat) ({ cls := "PenaltyDeskLaw", name := "turns", desc := "(III)Z" } : Jvm.MethodName)) ∈ lw_all := lw_g (lw_at lw_m0 140 rfl) rfl
theorem q142 : (Jvm.Cond.static ({ cls := "PenaltyDeskLaw", name := "turns", desc := "(III)Z" } : Jvm.MethodName)) ∈ lw_all := lw_g (lw_at lw_m0 141 rfl) rfl
theorem q143 : (Jvm.Cond.code ({ cls := "PenaltyDeskLaw", name := "turns", desc := "(III)Z" } : Jvm.MethodName) method_4_code (3 : Nat) (Option.some Jvm.ClassFile.FieldType.boolean)) ∈ lw_all := lw_g (lw_at lw_m0 142 rfl) rfl
theorem q144 : (Jvm.Cond.methodLink "PenaltyDeskLaw" (50 : Nat) ({ cls := "PenaltyDeskLaw", name := "isTold", desc := "(LPenaltyDesk;[[I)Z" } : Jvm.MethodName)) ∈ lw_all := lw_g (lw_at lw_m0 143 rfl) rfl
theorem q145 : (Jvm.Cond.static ({ cls := "PenaltyDeskLaw", name := "isTold", desc := "(LPenaltyDesk;[[I)Z" } : Jvm.MethodName)) ∈ lw_all := lw_g (lw_at lw_m0 144 rfl) rfl
theorem q146 : (Jvm.Cond.code ({ cls := "PenaltyDeskLaw", name := "isTold", desc := "(LPenaltyDesk;[[I)Z" } : Jvm.MethodName) method_11_code (6 : Nat) (Option.some Jvm.ClassFile.FieldType.boolean)) ∈ lw_all := lw_g (lw_at lw_m0 145 rfl) rfl
theorem q147 : (Jvm.Cond.methodLink "PenaltyDeskLaw" (18 : Nat) ({ cls := "PenaltyDesk", name := "get", desc := "(II)I" } : Jvm.MethodName)) ∈ lw_all := lw_g (lw_at lw_m0 146 rfl) rfl
theorem q151 : (Jvm.Cond.methodLink "PenaltyDeskLaw" (24 : Nat) ({ cls := "PenaltyDesk", name := "finders", desc := "()I" } : Jvm.MethodName)) ∈ lw_all := lw_g (lw_at lw_m0 150 rfl) rfl
theorem q176 : (Jvm.Cond.methodLink "PenaltyDeskLaw" (28 : Nat) ({ cls := "PenaltyDeskLaw", name := "finders", desc := "([[IZ)I" } : Jvm.MethodName)) ∈ lw_all := lw_g (lw_at lw_m0 175 rfl) rfl
theorem q177 : (Jvm.Cond.static ({ cls := "PenaltyDeskLaw", name := "finders", desc := "([[IZ)I" } : Jvm.MethodName)) ∈ lw_all := lw_g (lw_at lw_m0 176 rfl) rfl
theorem q178 : (Jvm.Cond.code ({ cls := "PenaltyDeskLaw", name := "finders", desc := "([[IZ)I" } : Jvm.MethodName) method_10_code (9 : Nat) (Option.some Jvm.ClassFile.FieldType.int)) ∈ lw_all := lw_g (lw_at lw_m0 177 rfl) rfl
theorem q179 : (Jvm.Cond.methodLink "PenaltyDeskLaw" (10 : Nat) ({ cls := "PenaltyDeskLaw", name := "at", desc := "([[IZII)I" } : Jvm.MethodName)) ∈ lw_all := lw_g (lw_at lw_m0 178 rfl) rfl
theorem q180 : (Jvm.Cond.static ({ cls := "PenaltyDeskLaw", name := "at", desc := "([[IZII)I" } : Jvm.MethodName)) ∈ lw_all := lw_g (lw_at lw_m0 179 rfl) rfl
theorem q181 : (Jvm.Cond.code ({ cls := "PenaltyDeskLaw", name := "at", desc := "([[IZII)I" } : Jvm.MethodName) method_5_code (4 : Nat) (Option.some Jvm.ClassFile.FieldType.int)) ∈ lw_all := lw_g (lw_at lw_m0 180 rfl) rfl
theorem q182 : (Jvm.Cond.methodLink "PenaltyDeskLaw" (14 : Nat) ({ cls := "PenaltyDeskLaw", name := "isLight", desc := "([[IZIIZ)Z" } : Jvm.MethodName)) ∈ lw_all := lw_g (lw_at lw_m0 181 rfl) rfl
theorem q183 : (Jvm.Cond.static ({ cls := "PenaltyDeskLaw", name := "isLight", desc := "([[IZIIZ)Z" } : Jvm.MethodName)) ∈ lw_all := lw_g (lw_at lw_m0 182 rfl) rfl
theorem q184 : (Jvm.Cond.code ({ cls := "PenaltyDeskLaw", name := "isLight", desc := "([[IZIIZ)Z" } : Jvm.MethodName) method_9_code (7 : Nat) (Option.some Jvm.ClassFile.FieldType.boolean)) ∈ lw_all := lw_g (lw_at lw_m0 183 rfl) rfl
theorem q185 : (Jvm.Cond.methodLink "PenaltyDeskLaw" (31 : Nat) ({ cls := "PenaltyDesk", name := "runs", desc := "()I" } : Jvm.MethodName)) ∈ lw_all := lw_g (lw_at lw_m0 184 rfl) rfl
theorem q195 : (Jvm.Cond.methodLink "PenaltyDeskLaw" (34 : Nat) ({ cls := "PenaltyDeskLaw", name := "runs", desc := "([[I)I" } : Jvm.MethodName)) ∈ lw_all := lw_g (lw_at lw_m0 194 rfl) rfl
theorem q196 : (Jvm.Cond.static ({ cls := "PenaltyDeskLaw", name := "runs", desc := "([[I)I" } : Jvm.MethodName)) ∈ lw_all := lw_g (lw_at lw_m0 195 rfl) rfl
theorem q197 : (Jvm.Cond.code ({ cls := "PenaltyDeskLaw", name := "runs", desc := "([[I)I" } : Jvm.MethodName) method_6_code (6 : Nat) (Option.some Jvm.ClassFile.FieldType.int)) ∈ lw_all := lw_g (lw_at lw_m0 196 rfl) rfl
theorem q198 : (Jvm.Cond.methodLink "PenaltyDeskLaw" (37 : Nat) ({ cls := "PenaltyDesk", name := "squares", desc := "()I" } : Jvm.MethodName)) ∈ lw_all := lw_g (lw_at lw_m0 197 rfl) rfl
theorem q205 : (Jvm.Cond.methodLink "PenaltyDeskLaw" (40 : Nat) ({ cls := "PenaltyDeskLaw", name := "squares", desc := "([[I)I" } : Jvm.MethodName)) ∈ lw_all := lw_g (lw_at lw_m0 204 rfl) rfl
theorem q206 : (Jvm.Cond.static ({ cls := "PenaltyDeskLaw", name := "squares", desc := "([[I)I" } : Jvm.MethodName)) ∈ lw_all := lw_g (lw_at lw_m0 205 rfl) rfl
theorem q207 : (Jvm.Cond.code ({ cls := "PenaltyDeskLaw", name := "squares", desc := "([[I)I" } : Jvm.MethodName) method_7_code (5 : Nat) (Option.some Jvm.ClassFile.FieldType.int)) ∈ lw_all := lw_g (lw_at lw_m0 206 rfl) rfl
theorem q208 : (Jvm.Cond.methodLink "PenaltyDeskLaw" (42 : Nat) ({ cls := "PenaltyDesk", name := "share", desc := "()I" } : Jvm.MethodName)) ∈ lw_all := lw_g (lw_at lw_m0 207 rfl) rfl
theorem q218 : (Jvm.Cond.methodLink "PenaltyDeskLaw" (45 : Nat) ({ cls := "PenaltyDeskLaw", name := "share", desc := "([[I)I" } : Jvm.MethodName)) ∈ lw_all := lw_g (lw_at lw_m0 217 rfl) rfl
theorem q219 : (Jvm.Cond.static ({ cls := "PenaltyDeskLaw", name := "share", desc := "([[I)I" } : Jvm.MethodName)) ∈ lw_all := lw_g (lw_at lw_m0 218 rfl) rfl
theorem q220 : (Jvm.Cond.code ({ cls := "PenaltyDeskLaw", name := "share", desc := "([[I)I" } : Jvm.MethodName) method_8_code (3 : Nat) (Option.some Jvm.ClassFile.FieldType.int)) ∈ lw_all := lw_g (lw_at lw_m0 219 rfl) rfl
theorem q222 : (Jvm.Cond.classLink "PenaltyDeskLaw" (48 : Nat) "[[I") ∈ lw_all := lw_g (lw_at lw_m0 221 rfl) rfl
end
section
/-! the law's own entry -/
set_option maxRecDepth 100000
abbrev cL_law : ByteArray := code
def dkwL_law_28 : List UInt8 := [132, 4, 6, 167, 253, 220, 4, 172]
abbrev dktL_law_28 : List UInt8 := dkwL_law_28 ++ []
def dkwL_law_27 : List UInt8 := [21, 7, 17, 0, 255, 126, 184, 0, 73, 160, 0, 11, 43, 44, 184, 0, 50, 154, 0, 5, 3, 172]
abbrev dktL_law_27 : List UInt8 := dkwL_law_27 ++ dktL_law_28
def dkwL_law_26 : List UInt8 := [132, 13, 1, 167, 255, 150, 43, 21, 5, 21, 6, 21, 7, 182, 0, 77, 21, 5, 21, 6, 17, 0, 255, 126]
abbrev dktL_law_26 : List UInt8 := dkwL_law_26 ++ dktL_law_27
def dkwL_law_25 : List UInt8 := [167, 0, 5, 21, 9, 50, 21, 15, 153, 0, 8, 21, 10, 167, 0, 5, 21, 14, 45, 21, 13, 46, 79]
abbrev dktL_law_25 : List UInt8 := dkwL_law_25 ++ dktL_law_26
def dkwL_law_24 : List UInt8 := [21, 10, 167, 0, 5, 21, 14, 45, 21, 13, 46, 182, 0, 61, 44, 21, 15, 153, 0, 8, 21, 14]
abbrev dktL_law_24 : List UInt8 := dkwL_law_24 ++ dktL_law_25
def dkwL_law_23 : List UInt8 := [167, 0, 4, 3, 54, 15, 43, 21, 15, 153, 0, 8, 21, 14, 167, 0, 5, 21, 9, 21, 15, 153, 0, 8]
abbrev dktL_law_23 : List UInt8 := dkwL_law_23 ++ dktL_law_24
def dkwL_law_22 : List UInt8 := [96, 54, 14, 21, 14, 155, 0, 87, 21, 14, 16, 21, 162, 0, 80, 21, 5, 7, 126, 154, 0, 7, 4]
abbrev dktL_law_22 : List UInt8 := dkwL_law_22 ++ dktL_law_23
def dkwL_law_21 : List UInt8 := [122, 4, 126, 79, 132, 13, 1, 167, 255, 189, 3, 54, 13, 21, 13, 16, 15, 162, 0, 105, 21, 12, 21, 13]
abbrev dktL_law_21 : List UInt8 := dkwL_law_21 ++ dktL_law_22
def dkwL_law_20 : List UInt8 := [21, 11, 21, 13, 122, 182, 0, 61, 44, 21, 14, 16, 21, 108, 50, 21, 14, 16, 21, 112, 21, 11, 21, 13]
abbrev dktL_law_20 : List UInt8 := dkwL_law_20 ++ dktL_law_21
def dkwL_law_19 : List UInt8 := [21, 11, 8, 122, 96, 17, 1, 185, 184, 0, 58, 54, 14, 43, 21, 14, 16, 21, 108, 21, 14, 16, 21, 112]
abbrev dktL_law_19 : List UInt8 := dkwL_law_19 ++ dktL_law_20
def dkwL_law_18 : List UInt8 := [184, 0, 58, 16, 6, 100, 54, 12, 3, 54, 13, 21, 13, 16, 32, 162, 0, 66, 21, 13, 16, 29, 104]
abbrev dktL_law_18 : List UInt8 := dkwL_law_18 ++ dktL_law_19
def dkwL_law_17 : List UInt8 := [160, 0, 216, 42, 21, 4, 6, 96, 184, 0, 54, 54, 11, 42, 21, 4, 7, 96, 184, 0, 54, 16, 21]
abbrev dktL_law_17 : List UInt8 := dkwL_law_17 ++ dktL_law_18
def dkwL_law_16 : List UInt8 := [153, 0, 7, 4, 167, 0, 4, 3, 130, 79, 132, 11, 1, 167, 255, 204, 167, 0, 224, 21, 5, 6, 126, 5]
abbrev dktL_law_16 : List UInt8 := dkwL_law_16 ++ dktL_law_17
def dkwL_law_15 : List UInt8 := [16, 21, 112, 92, 46, 21, 5, 5, 122, 21, 11, 16, 21, 108, 21, 11, 16, 21, 112, 184, 0, 73]
abbrev dktL_law_15 : List UInt8 := dkwL_law_15 ++ dktL_law_16
def dkwL_law_14 : List UInt8 := [182, 0, 69, 3, 54, 11, 21, 11, 17, 1, 185, 162, 0, 50, 44, 21, 11, 16, 21, 108, 50, 21, 11]
abbrev dktL_law_14 : List UInt8 := dkwL_law_14 ++ dktL_law_15
def dkwL_law_13 : List UInt8 := [132, 13, 1, 167, 255, 189, 167, 1, 45, 21, 5, 6, 126, 4, 160, 0, 72, 43, 21, 5, 5, 122]
abbrev dktL_law_13 : List UInt8 := dkwL_law_13 ++ dktL_law_14
def dkwL_law_12 : List UInt8 := [163, 0, 23, 44, 21, 13, 50, 21, 14, 21, 5, 16, 8, 122, 4, 126, 79, 132, 14, 1, 167, 255, 219]
abbrev dktL_law_12 : List UInt8 := dkwL_law_12 ++ dktL_law_13
def dkwL_law_11 : List UInt8 := [163, 0, 53, 21, 10, 54, 14, 21, 14, 16, 21, 162, 0, 36, 21, 14, 21, 10, 21, 12, 16, 7, 126, 96]
abbrev dktL_law_11 : List UInt8 := dkwL_law_11 ++ dktL_law_12
def dkwL_law_10 : List UInt8 := [182, 0, 65, 21, 9, 54, 13, 21, 13, 16, 21, 162, 0, 66, 21, 13, 21, 9, 21, 11, 16, 7, 126, 96]
abbrev dktL_law_10 : List UInt8 := dkwL_law_10 ++ dktL_law_11
def dkwL_law_9 : List UInt8 := [21, 4, 7, 96, 184, 0, 54, 54, 12, 43, 21, 6, 21, 7, 21, 11, 21, 12, 21, 5, 16, 8, 122]
abbrev dktL_law_9 : List UInt8 := dkwL_law_9 ++ dktL_law_10
def dkwL_law_8 : List UInt8 := [21, 8, 4, 126, 79, 21, 5, 6, 126, 154, 0, 117, 42, 21, 4, 6, 96, 184, 0, 54, 54, 11, 42]
abbrev dktL_law_8 : List UInt8 := dkwL_law_8 ++ dktL_law_9
def dkwL_law_7 : List UInt8 := [16, 21, 184, 0, 58, 54, 10, 43, 21, 6, 21, 7, 21, 8, 182, 0, 61, 44, 21, 9, 50, 21, 10]
abbrev dktL_law_7 : List UInt8 := dkwL_law_7 ++ dktL_law_8
def dkwL_law_6 : List UInt8 := [54, 7, 42, 21, 4, 8, 96, 184, 0, 54, 54, 8, 21, 6, 16, 21, 184, 0, 58, 54, 9, 21, 7]
abbrev dktL_law_6 : List UInt8 := dkwL_law_6 ++ dktL_law_7
def dkwL_law_5 : List UInt8 := [184, 0, 54, 54, 5, 42, 21, 4, 4, 96, 184, 0, 54, 54, 6, 42, 21, 4, 5, 96, 184, 0, 54]
abbrev dktL_law_5 : List UInt8 := dkwL_law_5 ++ dktL_law_6
def dkwL_law_4 : List UInt8 := [79, 89, 16, 14, 3, 79, 78, 3, 54, 4, 21, 4, 8, 96, 16, 96, 162, 2, 33, 42, 21, 4]
abbrev dktL_law_4 : List UInt8 := dkwL_law_4 ++ dktL_law_5
def dkwL_law_3 : List UInt8 := [89, 16, 9, 3, 79, 89, 16, 10, 4, 79, 89, 16, 11, 3, 79, 89, 16, 12, 3, 79, 89, 16, 13, 3]
abbrev dktL_law_3 : List UInt8 := dkwL_law_3 ++ dktL_law_4
def dkwL_law_2 : List UInt8 := [79, 89, 7, 4, 79, 89, 8, 3, 79, 89, 16, 6, 4, 79, 89, 16, 7, 4, 79, 89, 16, 8, 4, 79]
abbrev dktL_law_2 : List UInt8 := dkwL_law_2 ++ dktL_law_3
def dkwL_law_1 : List UInt8 := [154, 0, 5, 3, 172, 16, 15, 188, 10, 89, 3, 3, 79, 89, 4, 3, 79, 89, 5, 3, 79, 89, 6, 3]
abbrev dktL_law_1 : List UInt8 := dkwL_law_1 ++ dktL_law_2
def dkwL_law_0 : List UInt8 := [187, 0, 19, 89, 183, 0, 47, 76, 16, 21, 16, 21, 197, 0, 48, 2, 77, 43, 44, 184, 0, 50]
abbrev dktL_law_0 : List UInt8 := dkwL_law_0 ++ dktL_law_1
theorem dksL_law_0 : cL_law.data.toList.drop 0 = dktL_law_0 := by decide +kernel
theorem dksL_law_1 : cL_law.data.toList.drop 22 = dktL_law_1 := dk_seg dksL_law_0 22 rfl rfl
theorem dksL_law_2 : cL_law.data.toList.drop 46 = dktL_law_2 := dk_seg dksL_law_1 24 rfl rfl
theorem dksL_law_3 : cL_law.data.toList.drop 70 = dktL_law_3 := dk_seg dksL_law_2 24 rfl rfl
theorem dksL_law_4 : cL_law.data.toList.drop 94 = dktL_law_4 := dk_seg dksL_law_3 24 rfl rfl
theorem dksL_law_5 : cL_law.data.toList.drop 116 = dktL_law_5 := dk_seg dksL_law_4 22 rfl rfl
theorem dksL_law_6 : cL_law.data.toList.drop 139 = dktL_law_6 := dk_seg dksL_law_5 23 rfl rfl
theorem dksL_law_7 : cL_law.data.toList.drop 162 = dktL_law_7 := dk_seg dksL_law_6 23 rfl rfl
theorem dksL_law_8 : cL_law.data.toList.drop 185 = dktL_law_8 := dk_seg dksL_law_7 23 rfl rfl
theorem dksL_law_9 : cL_law.data.toList.drop 208 = dktL_law_9 := dk_seg dksL_law_8 23 rfl rfl
theorem dksL_law_10 : cL_law.data.toList.drop 231 = dktL_law_10 := dk_seg dksL_law_9 23 rfl rfl
theorem dksL_law_11 : cL_law.data.toList.drop 255 = dktL_law_11 := dk_seg dksL_law_10 24 rfl rfl
theorem dksL_law_12 : cL_law.data.toList.drop 279 = dktL_law_12 := dk_seg dksL_law_11 24 rfl rfl
theorem dksL_law_13 : cL_law.data.toList.drop 302 = dktL_law_13 := dk_seg dksL_law_12 23 rfl rfl
theorem dksL_law_14 : cL_law.data.toList.drop 324 = dktL_law_14 := dk_seg dksL_law_13 22 rfl rfl
theorem dksL_law_15 : cL_law.data.toList.drop 347 = dktL_law_15 := dk_seg dksL_law_14 23 rfl rfl
theorem dksL_law_16 : cL_law.data.toList.drop 369 = dktL_law_16 := dk_seg dksL_law_15 22 rfl rfl
theorem dksL_law_17 : cL_law.data.toList.drop 393 = dktL_law_17 := dk_seg dksL_law_16 24 rfl rfl
theorem dksL_law_18 : cL_law.data.toList.drop 416 = dktL_law_18 := dk_seg dksL_law_17 23 rfl rfl
theorem dksL_law_19 : cL_law.data.toList.drop 439 = dktL_law_19 := dk_seg dksL_law_18 23 rfl rfl
theorem dksL_law_20 : cL_law.data.toList.drop 463 = dktL_law_20 := dk_seg dksL_law_19 24 rfl rfl
theorem dksL_law_21 : cL_law.data.toList.drop 487 = dktL_law_21 := dk_seg dksL_law_20 24 rfl rfl
theorem dksL_law_22 : cL_law.data.toList.drop 511 = dktL_law_22 := dk_seg dksL_law_21 24 rfl rfl
theorem dksL_law_23 : cL_law.data.toList.drop 534 = dktL_law_23 := dk_seg dksL_law_22 23 rfl rfl
theorem dksL_law_24 : cL_law.data.toList.drop 558 = dktL_law_24 := dk_seg dksL_law_23 24 rfl rfl
theorem dksL_law_25 : cL_law.data.toList.drop 580 = dktL_law_25 := dk_seg dksL_law_24 22 rfl rfl
theorem dksL_law_26 : cL_law.data.toList.drop 603 = dktL_law_26 := dk_seg dksL_law_25 23 rfl rfl
theorem dksL_law_27 : cL_law.data.toList.drop 627 = dktL_law_27 := dk_seg dksL_law_26 24 rfl rfl
theorem dksL_law_28 : cL_law.data.toList.drop 649 = dktL_law_28 := dk_seg dksL_law_27 22 rfl rfl
theorem dL_law_0 : decode cL_law 0 = .ok (.new 19, 3) := dk_187 0 19 (dk_at dksL_law_0 0 rfl rfl)
theorem dL_law_3 : decode cL_law 3 = .ok (.dup, 1) := dk_89 (dk_at dksL_law_0 3 rfl rfl)
theorem dL_law_4 : decode cL_law 4 = .ok (.invokespecial 47, 3) := dk_183 0 47 (dk_at dksL_law_0 4 rfl rfl)
theorem dL_law_7 : decode cL_law 7 = .ok (.astore_n 1, 1) := dk_76 (dk_at dksL_law_0 7 rfl rfl)
theorem dL_law_8 : decode cL_law 8 = .ok (.bipush 21, 2) := dk_16 21 (dk_at dksL_law_0 8 rfl rfl)
theorem dL_law_10 : decode cL_law 10 = .ok (.bipush 21, 2) := dk_16 21 (dk_at dksL_law_0 10 rfl rfl)
theorem dL_law_12 : decode cL_law 12 = .ok (.multianewarray 48 2, 4) := by decide +kernel
theorem dL_law_16 : decode cL_law 16 = .ok (.astore_n 2, 1) := dk_77 (dk_at dksL_law_0 16 rfl rfl)
theorem dL_law_17 : decode cL_law 17 = .ok (.aload_n 1, 1) := dk_43 (dk_at dksL_law_0 17 rfl rfl)
theorem dL_law_18 : decode cL_law 18 = .ok (.aload_n 2, 1) := dk_44 (dk_at dksL_law_0 18 rfl rfl)
theorem dL_law_19 : decode cL_law 19 = .ok (.invokestatic 50, 3) := dk_184 0 50 (dk_at dksL_law_0 19 rfl rfl)
theorem dL_law_22 : decode cL_law 22 = .ok (.ifCond .ne 5, 3) := dk_154 0 5 (dk_at dksL_law_1 0 rfl rfl)
theorem dL_law_25 : decode cL_law 25 = .ok (.iconst 0, 1) := dk_3 (dk_at dksL_law_1 3 rfl rfl)
theorem dL_law_26 : decode cL_law 26 = .ok (.ireturn, 1) := dk_172 (dk_at dksL_law_1 4 rfl rfl)
theorem dL_law_27 : decode cL_law 27 = .ok (.bipush 15, 2) := dk_16 15 (dk_at dksL_law_1 5 rfl rfl)
theorem dL_law_29 : decode cL_law 29 = .ok (.newarray .int, 2) := dk_188_10 (dk_at dksL_law_1 7 rfl rfl)
theorem dL_law_31 : decode cL_law 31 = .ok (.dup, 1) := dk_89 (dk_at dksL_law_1 9 rfl rfl)
theorem dL_law_32 : decode cL_law 32 = .ok (.iconst 0, 1) := dk_3 (dk_at dksL_law_1 10 rfl rfl)
theorem dL_law_33 : decode cL_law 33 = .ok (.iconst 0, 1) := dk_3 (dk_at dksL_law_1 11 rfl rfl)
theorem dL_law_34 : decode cL_law 34 = .ok (.iastore, 1) := dk_79 (dk_at dksL_law_1 12 rfl rfl)
theorem dL_law_35 : decode cL_law 35 = .ok (.dup, 1) := dk_89 (dk_at dksL_law_1 13 rfl rfl)
theorem dL_law_36 : decode cL_law 36 = .ok (.iconst 1, 1) := dk_4 (dk_at dksL_law_1 14 rfl rfl)
theorem dL_law_37 : decode cL_law 37 = .ok (.iconst 0, 1) := dk_3 (dk_at dksL_law_1 15 rfl rfl)
theorem dL_law_38 : decode cL_law 38 = .ok (.iastore, 1) := dk_79 (dk_at dksL_law_1 16 rfl rfl)
theorem dL_law_39 : decode cL_law 39 = .ok (.dup, 1) := dk_89 (dk_at dksL_law_1 17 rfl rfl)
theorem dL_law_40 : decode cL_law 40 = .ok (.iconst 2, 1) := dk_5 (dk_at dksL_law_1 18 rfl rfl)
theorem dL_law_41 : decode cL_law 41 = .ok (.iconst 0, 1) := dk_3 (dk_at dksL_law_1 19 rfl rfl)
theorem dL_law_42 : decode cL_law 42 = .ok (.iastore, 1) := dk_79 (dk_at dksL_law_1 20 rfl rfl)
theorem dL_law_43 : decode cL_law 43 = .ok (.dup, 1) := dk_89 (dk_at dksL_law_1 21 rfl rfl)
theorem dL_law_44 : decode cL_law 44 = .ok (.iconst 3, 1) := dk_6 (dk_at dksL_law_1 22 rfl rfl)
theorem dL_law_45 : decode cL_law 45 = .ok (.iconst 0, 1) := dk_3 (dk_at dksL_law_1 23 rfl rfl)
theorem dL_law_46 : decode cL_law 46 = .ok (.iastore, 1) := dk_79 (dk_at dksL_law_2 0 rfl rfl)
theorem dL_law_47 : decode cL_law 47 = .ok (.dup, 1) := dk_89 (dk_at dksL_law_2 1 rfl rfl)
theorem dL_law_48 : decode cL_law 48 = .ok (.iconst 4, 1) := dk_7 (dk_at dksL_law_2 2 rfl rfl)
theorem dL_law_49 : decode cL_law 49 = .ok (.iconst 1, 1) := dk_4 (dk_at dksL_law_2 3 rfl rfl)
theorem dL_law_50 : decode cL_law 50 = .ok (.iastore, 1) := dk_79 (dk_at dksL_law_2 4 rfl rfl)
theorem dL_law_51 : decode cL_law 51 = .ok (.dup, 1) := dk_89 (dk_at dksL_law_2 5 rfl rfl)
theorem dL_law_52 : decode cL_law 52 = .ok (.iconst 5, 1) := dk_8 (dk_at dksL_law_2 6 rfl rfl)
theorem dL_law_53 : decode cL_law 53 = .ok (.iconst 0, 1) := dk_3 (dk_at dksL_law_2 7 rfl rfl)
theorem dL_law_54 : decode cL_law 54 = .ok (.iastore, 1) := dk_79 (dk_at dksL_law_2 8 rfl rfl)
theorem dL_law_55 : decode cL_law 55 = .ok (.dup, 1) := dk_89 (dk_at dksL_law_2 9 rfl rfl)
theorem dL_law_56 : decode cL_law 56 = .ok (.bipush 6, 2) := dk_16 6 (dk_at dksL_law_2 10 rfl rfl)
theorem dL_law_58 : decode cL_law 58 = .ok (.iconst 1, 1) := dk_4 (dk_at dksL_law_2 12 rfl rfl)
theorem dL_law_59 : decode cL_law 59 = .ok (.iastore, 1) := dk_79 (dk_at dksL_law_2 13 rfl rfl)
theorem dL_law_60 : decode cL_law 60 = .ok (.dup, 1) := dk_89 (dk_at dksL_law_2 14 rfl rfl)
theorem dL_law_61 : decode cL_law 61 = .ok (.bipush 7, 2) := dk_16 7 (dk_at dksL_law_2 15 rfl rfl)
theorem dL_law_63 : decode cL_law 63 = .ok (.iconst 1, 1) := dk_4 (dk_at dksL_law_2 17 rfl rfl)
theorem dL_law_64 : decode cL_law 64 = .ok (.iastore, 1) := dk_79 (dk_at dksL_law_2 18 rfl rfl)
theorem dL_law_65 : decode cL_law 65 = .ok (.dup, 1) := dk_89 (dk_at dksL_law_2 19 rfl rfl)
theorem dL_law_66 : decode cL_law 66 = .ok (.bipush 8, 2) := dk_16 8 (dk_at dksL_law_2 20 rfl rfl)
theorem dL_law_68 : decode cL_law 68 = .ok (.iconst 1, 1) := dk_4 (dk_at dksL_law_2 22 rfl rfl)
theorem dL_law_69 : decode cL_law 69 = .ok (.iastore, 1) := dk_79 (dk_at dksL_law_2 23 rfl rfl)
theorem dL_law_70 : decode cL_law 70 = .ok (.dup, 1) := dk_89 (dk_at dksL_law_3 0 rfl rfl)
theorem dL_law_71 : decode cL_law 71 = .ok (.bipush 9, 2) := dk_16 9 (dk_at dksL_law_3 1 rfl rfl)
theorem dL_law_73 : decode cL_law 73 = .ok (.iconst 0, 1) := dk_3 (dk_at dksL_law_3 3 rfl rfl)
theorem dL_law_74 : decode cL_law 74 = .ok (.iastore, 1) := dk_79 (dk_at dksL_law_3 4 rfl rfl)
theorem dL_law_75 : decode cL_law 75 = .ok (.dup, 1) := dk_89 (dk_at dksL_law_3 5 rfl rfl)
theorem dL_law_76 : decode cL_law 76 = .ok (.bipush 10, 2) := dk_16 10 (dk_at dksL_law_3 6 rfl rfl)
theorem dL_law_78 : decode cL_law 78 = .ok (.iconst 1, 1) := dk_4 (dk_at dksL_law_3 8 rfl rfl)
theorem dL_law_79 : decode cL_law 79 = .ok (.iastore, 1) := dk_79 (dk_at dksL_law_3 9 rfl rfl)
theorem dL_law_80 : decode cL_law 80 = .ok (.dup, 1) := dk_89 (dk_at dksL_law_3 10 rfl rfl)
theorem dL_law_81 : decode cL_law 81 = .ok (.bipush 11, 2) := dk_16 11 (dk_at dksL_law_3 11 rfl rfl)
theorem dL_law_83 : decode cL_law 83 = .ok (.iconst 0, 1) := dk_3 (dk_at dksL_law_3 13 rfl rfl)
theorem dL_law_84 : decode cL_law 84 = .ok (.iastore, 1) := dk_79 (dk_at dksL_law_3 14 rfl rfl)
theorem dL_law_85 : decode cL_law 85 = .ok (.dup, 1) := dk_89 (dk_at dksL_law_3 15 rfl rfl)
theorem dL_law_86 : decode cL_law 86 = .ok (.bipush 12, 2) := dk_16 12 (dk_at dksL_law_3 16 rfl rfl)
theorem dL_law_88 : decode cL_law 88 = .ok (.iconst 0, 1) := dk_3 (dk_at dksL_law_3 18 rfl rfl)
theorem dL_law_89 : decode cL_law 89 = .ok (.iastore, 1) := dk_79 (dk_at dksL_law_3 19 rfl rfl)
theorem dL_law_90 : decode cL_law 90 = .ok (.dup, 1) := dk_89 (dk_at dksL_law_3 20 rfl rfl)
theorem dL_law_91 : decode cL_law 91 = .ok (.bipush 13, 2) := dk_16 13 (dk_at dksL_law_3 21 rfl rfl)
theorem dL_law_93 : decode cL_law 93 = .ok (.iconst 0, 1) := dk_3 (dk_at dksL_law_3 23 rfl rfl)
theorem dL_law_94 : decode cL_law 94 = .ok (.iastore, 1) := dk_79 (dk_at dksL_law_4 0 rfl rfl)
theorem dL_law_95 : decode cL_law 95 = .ok (.dup, 1) := dk_89 (dk_at dksL_law_4 1 rfl rfl)
theorem dL_law_96 : decode cL_law 96 = .ok (.bipush 14, 2) := dk_16 14 (dk_at dksL_law_4 2 rfl rfl)
theorem dL_law_98 : decode cL_law 98 = .ok (.iconst 0, 1) := dk_3 (dk_at dksL_law_4 4 rfl rfl)
theorem dL_law_99 : decode cL_law 99 = .ok (.iastore, 1) := dk_79 (dk_at dksL_law_4 5 rfl rfl)
theorem dL_law_100 : decode cL_law 100 = .ok (.astore_n 3, 1) := dk_78 (dk_at dksL_law_4 6 rfl rfl)
theorem dL_law_101 : decode cL_law 101 = .ok (.iconst 0, 1) := dk_3 (dk_at dksL_law_4 7 rfl rfl)
theorem dL_law_102 : decode cL_law 102 = .ok (.istore 4, 2) := dk_54 4 (dk_at dksL_law_4 8 rfl rfl)
theorem dL_law_104 : decode cL_law 104 = .ok (.iload 4, 2) := dk_21 4 (dk_at dksL_law_4 10 rfl rfl)
theorem dL_law_106 : decode cL_law 106 = .ok (.iconst 5, 1) := dk_8 (dk_at dksL_law_4 12 rfl rfl)
theorem dL_law_107 : decode cL_law 107 = .ok (.iadd, 1) := dk_96 (dk_at dksL_law_4 13 rfl rfl)
theorem dL_law_108 : decode cL_law 108 = .ok (.bipush 96, 2) := dk_16 96 (dk_at dksL_law_4 14 rfl rfl)
theorem dL_law_110 : decode cL_law 110 = .ok (.if_icmp .ge 545, 3) := dk_162 2 33 (dk_at dksL_law_4 16 rfl rfl)
theorem dL_law_113 : decode cL_law 113 = .ok (.aload_n 0, 1) := dk_42 (dk_at dksL_law_4 19 rfl rfl)
theorem dL_law_114 : decode cL_law 114 = .ok (.iload 4, 2) := dk_21 4 (dk_at dksL_law_4 20 rfl rfl)
theorem dL_law_116 : decode cL_law 116 = .ok (.invokestatic 54, 3) := dk_184 0 54 (dk_at dksL_law_5 0 rfl rfl)
theorem dL_law_119 : decode cL_law 119 = .ok (.istore 5, 2) := dk_54 5 (dk_at dksL_law_5 3 rfl rfl)
theorem dL_law_121 : decode cL_law 121 = .ok (.aload_n 0, 1) := dk_42 (dk_at dksL_law_5 5 rfl rfl)
theorem dL_law_122 : decode cL_law 122 = .ok (.iload 4, 2) := dk_21 4 (dk_at dksL_law_5 6 rfl rfl)
theorem dL_law_124 : decode cL_law 124 = .ok (.iconst 1, 1) := dk_4 (dk_at dksL_law_5 8 rfl rfl)
theorem dL_law_125 : decode cL_law 125 = .ok (.iadd, 1) := dk_96 (dk_at dksL_law_5 9 rfl rfl)
theorem dL_law_126 : decode cL_law 126 = .ok (.invokestatic 54, 3) := dk_184 0 54 (dk_at dksL_law_5 10 rfl rfl)
theorem dL_law_129 : decode cL_law 129 = .ok (.istore 6, 2) := dk_54 6 (dk_at dksL_law_5 13 rfl rfl)
theorem dL_law_131 : decode cL_law 131 = .ok (.aload_n 0, 1) := dk_42 (dk_at dksL_law_5 15 rfl rfl)
theorem dL_law_132 : decode cL_law 132 = .ok (.iload 4, 2) := dk_21 4 (dk_at dksL_law_5 16 rfl rfl)
theorem dL_law_134 : decode cL_law 134 = .ok (.iconst 2, 1) := dk_5 (dk_at dksL_law_5 18 rfl rfl)
theorem dL_law_135 : decode cL_law 135 = .ok (.iadd, 1) := dk_96 (dk_at dksL_law_5 19 rfl rfl)
theorem dL_law_136 : decode cL_law 136 = .ok (.invokestatic 54, 3) := dk_184 0 54 (dk_at dksL_law_5 20 rfl rfl)
theorem dL_law_139 : decode cL_law 139 = .ok (.istore 7, 2) := dk_54 7 (dk_at dksL_law_6 0 rfl rfl)
theorem dL_law_141 : decode cL_law 141 = .ok (.aload_n 0, 1) := dk_42 (dk_at dksL_law_6 2 rfl rfl)
theorem dL_law_142 : decode cL_law 142 = .ok (.iload 4, 2) := dk_21 4 (dk_at dksL_law_6 3 rfl rfl)
theorem dL_law_144 : decode cL_law 144 = .ok (.iconst 5, 1) := dk_8 (dk_at dksL_law_6 5 rfl rfl)
theorem dL_law_145 : decode cL_law 145 = .ok (.iadd, 1) := dk_96 (dk_at dksL_law_6 6 rfl rfl)
theorem dL_law_146 : decode cL_law 146 = .ok (.invokestatic 54, 3) := dk_184 0 54 (dk_at dksL_law_6 7 rfl rfl)
theorem dL_law_149 : decode cL_law 149 = .ok (.istore 8, 2) := dk_54 8 (dk_at dksL_law_6 10 rfl rfl)
theorem dL_law_151 : decode cL_law 151 = .ok (.iload 6, 2) := dk_21 6 (dk_at dksL_law_6 12 rfl rfl)
theorem dL_law_153 : decode cL_law 153 = .ok (.bipush 21, 2) := dk_16 21 (dk_at dksL_law_6 14 rfl rfl)
theorem dL_law_155 : decode cL_law 155 = .ok (.invokestatic 58, 3) := dk_184 0 58 (dk_at dksL_law_6 16 rfl rfl)
theorem dL_law_158 : decode cL_law 158 = .ok (.istore 9, 2) := dk_54 9 (dk_at dksL_law_6 19 rfl rfl)
theorem dL_law_160 : decode cL_law 160 = .ok (.iload 7, 2) := dk_21 7 (dk_at dksL_law_6 21 rfl rfl)
theorem dL_law_162 : decode cL_law 162 = .ok (.bipush 21, 2) := dk_16 21 (dk_at dksL_law_7 0 rfl rfl)
theorem dL_law_164 : decode cL_law 164 = .ok (.invokestatic 58, 3) := dk_184 0 58 (dk_at dksL_law_7 2 rfl rfl)
theorem dL_law_167 : decode cL_law 167 = .ok (.istore 10, 2) := dk_54 10 (dk_at dksL_law_7 5 rfl rfl)
theorem dL_law_169 : decode cL_law 169 = .ok (.aload_n 1, 1) := dk_43 (dk_at dksL_law_7 7 rfl rfl)
theorem dL_law_170 : decode cL_law 170 = .ok (.iload 6, 2) := dk_21 6 (dk_at dksL_law_7 8 rfl rfl)
theorem dL_law_172 : decode cL_law 172 = .ok (.iload 7, 2) := dk_21 7 (dk_at dksL_law_7 10 rfl rfl)
theorem dL_law_174 : decode cL_law 174 = .ok (.iload 8, 2) := dk_21 8 (dk_at dksL_law_7 12 rfl rfl)
theorem dL_law_176 : decode cL_law 176 = .ok (.invokevirtual 61, 3) := dk_182 0 61 (dk_at dksL_law_7 14 rfl rfl)
theorem dL_law_179 : decode cL_law 179 = .ok (.aload_n 2, 1) := dk_44 (dk_at dksL_law_7 17 rfl rfl)
theorem dL_law_180 : decode cL_law 180 = .ok (.iload 9, 2) := dk_21 9 (dk_at dksL_law_7 18 rfl rfl)
theorem dL_law_182 : decode cL_law 182 = .ok (.aaload, 1) := dk_50 (dk_at dksL_law_7 20 rfl rfl)
theorem dL_law_183 : decode cL_law 183 = .ok (.iload 10, 2) := dk_21 10 (dk_at dksL_law_7 21 rfl rfl)
theorem dL_law_185 : decode cL_law 185 = .ok (.iload 8, 2) := dk_21 8 (dk_at dksL_law_8 0 rfl rfl)
theorem dL_law_187 : decode cL_law 187 = .ok (.iconst 1, 1) := dk_4 (dk_at dksL_law_8 2 rfl rfl)
theorem dL_law_188 : decode cL_law 188 = .ok (.iand, 1) := dk_126 (dk_at dksL_law_8 3 rfl rfl)
theorem dL_law_189 : decode cL_law 189 = .ok (.iastore, 1) := dk_79 (dk_at dksL_law_8 4 rfl rfl)
theorem dL_law_190 : decode cL_law 190 = .ok (.iload 5, 2) := dk_21 5 (dk_at dksL_law_8 5 rfl rfl)
theorem dL_law_192 : decode cL_law 192 = .ok (.iconst 3, 1) := dk_6 (dk_at dksL_law_8 7 rfl rfl)
theorem dL_law_193 : decode cL_law 193 = .ok (.iand, 1) := dk_126 (dk_at dksL_law_8 8 rfl rfl)
theorem dL_law_194 : decode cL_law 194 = .ok (.ifCond .ne 117, 3) := dk_154 0 117 (dk_at dksL_law_8 9 rfl rfl)
theorem dL_law_197 : decode cL_law 197 = .ok (.aload_n 0, 1) := dk_42 (dk_at dksL_law_8 12 rfl rfl)
theorem dL_law_198 : decode cL_law 198 = .ok (.iload 4, 2) := dk_21 4 (dk_at dksL_law_8 13 rfl rfl)
theorem dL_law_200 : decode cL_law 200 = .ok (.iconst 3, 1) := dk_6 (dk_at dksL_law_8 15 rfl rfl)
theorem dL_law_201 : decode cL_law 201 = .ok (.iadd, 1) := dk_96 (dk_at dksL_law_8 16 rfl rfl)
theorem dL_law_202 : decode cL_law 202 = .ok (.invokestatic 54, 3) := dk_184 0 54 (dk_at dksL_law_8 17 rfl rfl)
theorem dL_law_205 : decode cL_law 205 = .ok (.istore 11, 2) := dk_54 11 (dk_at dksL_law_8 20 rfl rfl)
theorem dL_law_207 : decode cL_law 207 = .ok (.aload_n 0, 1) := dk_42 (dk_at dksL_law_8 22 rfl rfl)
theorem dL_law_208 : decode cL_law 208 = .ok (.iload 4, 2) := dk_21 4 (dk_at dksL_law_9 0 rfl rfl)
theorem dL_law_210 : decode cL_law 210 = .ok (.iconst 4, 1) := dk_7 (dk_at dksL_law_9 2 rfl rfl)
theorem dL_law_211 : decode cL_law 211 = .ok (.iadd, 1) := dk_96 (dk_at dksL_law_9 3 rfl rfl)
theorem dL_law_212 : decode cL_law 212 = .ok (.invokestatic 54, 3) := dk_184 0 54 (dk_at dksL_law_9 4 rfl rfl)
theorem dL_law_215 : decode cL_law 215 = .ok (.istore 12, 2) := dk_54 12 (dk_at dksL_law_9 7 rfl rfl)
theorem dL_law_217 : decode cL_law 217 = .ok (.aload_n 1, 1) := dk_43 (dk_at dksL_law_9 9 rfl rfl)
theorem dL_law_218 : decode cL_law 218 = .ok (.iload 6, 2) := dk_21 6 (dk_at dksL_law_9 10 rfl rfl)
theorem dL_law_220 : decode cL_law 220 = .ok (.iload 7, 2) := dk_21 7 (dk_at dksL_law_9 12 rfl rfl)
theorem dL_law_222 : decode cL_law 222 = .ok (.iload 11, 2) := dk_21 11 (dk_at dksL_law_9 14 rfl rfl)
theorem dL_law_224 : decode cL_law 224 = .ok (.iload 12, 2) := dk_21 12 (dk_at dksL_law_9 16 rfl rfl)
theorem dL_law_226 : decode cL_law 226 = .ok (.iload 5, 2) := dk_21 5 (dk_at dksL_law_9 18 rfl rfl)
theorem dL_law_228 : decode cL_law 228 = .ok (.bipush 8, 2) := dk_16 8 (dk_at dksL_law_9 20 rfl rfl)
theorem dL_law_230 : decode cL_law 230 = .ok (.ishr, 1) := dk_122 (dk_at dksL_law_9 22 rfl rfl)
theorem dL_law_231 : decode cL_law 231 = .ok (.invokevirtual 65, 3) := dk_182 0 65 (dk_at dksL_law_10 0 rfl rfl)
theorem dL_law_234 : decode cL_law 234 = .ok (.iload 9, 2) := dk_21 9 (dk_at dksL_law_10 3 rfl rfl)
theorem dL_law_236 : decode cL_law 236 = .ok (.istore 13, 2) := dk_54 13 (dk_at dksL_law_10 5 rfl rfl)
theorem dL_law_238 : decode cL_law 238 = .ok (.iload 13, 2) := dk_21 13 (dk_at dksL_law_10 7 rfl rfl)
theorem dL_law_240 : decode cL_law 240 = .ok (.bipush 21, 2) := dk_16 21 (dk_at dksL_law_10 9 rfl rfl)
theorem dL_law_242 : decode cL_law 242 = .ok (.if_icmp .ge 66, 3) := dk_162 0 66 (dk_at dksL_law_10 11 rfl rfl)
theorem dL_law_245 : decode cL_law 245 = .ok (.iload 13, 2) := dk_21 13 (dk_at dksL_law_10 14 rfl rfl)
theorem dL_law_247 : decode cL_law 247 = .ok (.iload 9, 2) := dk_21 9 (dk_at dksL_law_10 16 rfl rfl)
theorem dL_law_249 : decode cL_law 249 = .ok (.iload 11, 2) := dk_21 11 (dk_at dksL_law_10 18 rfl rfl)
theorem dL_law_251 : decode cL_law 251 = .ok (.bipush 7, 2) := dk_16 7 (dk_at dksL_law_10 20 rfl rfl)
theorem dL_law_253 : decode cL_law 253 = .ok (.iand, 1) := dk_126 (dk_at dksL_law_10 22 rfl rfl)
theorem dL_law_254 : decode cL_law 254 = .ok (.iadd, 1) := dk_96 (dk_at dksL_law_10 23 rfl rfl)
theorem dL_law_255 : decode cL_law 255 = .ok (.if_icmp .gt 53, 3) := dk_163 0 53 (dk_at dksL_law_11 0 rfl rfl)
theorem dL_law_258 : decode cL_law 258 = .ok (.iload 10, 2) := dk_21 10 (dk_at dksL_law_11 3 rfl rfl)
theorem dL_law_260 : decode cL_law 260 = .ok (.istore 14, 2) := dk_54 14 (dk_at dksL_law_11 5 rfl rfl)
theorem dL_law_262 : decode cL_law 262 = .ok (.iload 14, 2) := dk_21 14 (dk_at dksL_law_11 7 rfl rfl)
theorem dL_law_264 : decode cL_law 264 = .ok (.bipush 21, 2) := dk_16 21 (dk_at dksL_law_11 9 rfl rfl)
theorem dL_law_266 : decode cL_law 266 = .ok (.if_icmp .ge 36, 3) := dk_162 0 36 (dk_at dksL_law_11 11 rfl rfl)
theorem dL_law_269 : decode cL_law 269 = .ok (.iload 14, 2) := dk_21 14 (dk_at dksL_law_11 14 rfl rfl)
theorem dL_law_271 : decode cL_law 271 = .ok (.iload 10, 2) := dk_21 10 (dk_at dksL_law_11 16 rfl rfl)
theorem dL_law_273 : decode cL_law 273 = .ok (.iload 12, 2) := dk_21 12 (dk_at dksL_law_11 18 rfl rfl)
theorem dL_law_275 : decode cL_law 275 = .ok (.bipush 7, 2) := dk_16 7 (dk_at dksL_law_11 20 rfl rfl)
theorem dL_law_277 : decode cL_law 277 = .ok (.iand, 1) := dk_126 (dk_at dksL_law_11 22 rfl rfl)
theorem dL_law_278 : decode cL_law 278 = .ok (.iadd, 1) := dk_96 (dk_at dksL_law_11 23 rfl rfl)
theorem dL_law_279 : decode cL_law 279 = .ok (.if_icmp .gt 23, 3) := dk_163 0 23 (dk_at dksL_law_12 0 rfl rfl)
theorem dL_law_282 : decode cL_law 282 = .ok (.aload_n 2, 1) := dk_44 (dk_at dksL_law_12 3 rfl rfl)
theorem dL_law_283 : decode cL_law 283 = .ok (.iload 13, 2) := dk_21 13 (dk_at dksL_law_12 4 rfl rfl)
theorem dL_law_285 : decode cL_law 285 = .ok (.aaload, 1) := dk_50 (dk_at dksL_law_12 6 rfl rfl)
theorem dL_law_286 : decode cL_law 286 = .ok (.iload 14, 2) := dk_21 14 (dk_at dksL_law_12 7 rfl rfl)
theorem dL_law_288 : decode cL_law 288 = .ok (.iload 5, 2) := dk_21 5 (dk_at dksL_law_12 9 rfl rfl)
theorem dL_law_290 : decode cL_law 290 = .ok (.bipush 8, 2) := dk_16 8 (dk_at dksL_law_12 11 rfl rfl)
theorem dL_law_292 : decode cL_law 292 = .ok (.ishr, 1) := dk_122 (dk_at dksL_law_12 13 rfl rfl)
theorem dL_law_293 : decode cL_law 293 = .ok (.iconst 1, 1) := dk_4 (dk_at dksL_law_12 14 rfl rfl)
theorem dL_law_294 : decode cL_law 294 = .ok (.iand, 1) := dk_126 (dk_at dksL_law_12 15 rfl rfl)
theorem dL_law_295 : decode cL_law 295 = .ok (.iastore, 1) := dk_79 (dk_at dksL_law_12 16 rfl rfl)
theorem dL_law_296 : decode cL_law 296 = .ok (.iinc 14 1, 3) := dk_132 14 1 (dk_at dksL_law_12 17 rfl rfl)
theorem dL_law_299 : decode cL_law 299 = .ok (.goto (-37), 3) := dk_167 255 219 (dk_at dksL_law_12 20 rfl rfl)
theorem dL_law_302 : decode cL_law 302 = .ok (.iinc 13 1, 3) := dk_132 13 1 (dk_at dksL_law_13 0 rfl rfl)
theorem dL_law_305 : decode cL_law 305 = .ok (.goto (-67), 3) := dk_167 255 189 (dk_at dksL_law_13 3 rfl rfl)
theorem dL_law_308 : decode cL_law 308 = .ok (.goto 301, 3) := dk_167 1 45 (dk_at dksL_law_13 6 rfl rfl)
theorem dL_law_311 : decode cL_law 311 = .ok (.iload 5, 2) := dk_21 5 (dk_at dksL_law_13 9 rfl rfl)
theorem dL_law_313 : decode cL_law 313 = .ok (.iconst 3, 1) := dk_6 (dk_at dksL_law_13 11 rfl rfl)
theorem dL_law_314 : decode cL_law 314 = .ok (.iand, 1) := dk_126 (dk_at dksL_law_13 12 rfl rfl)
theorem dL_law_315 : decode cL_law 315 = .ok (.iconst 1, 1) := dk_4 (dk_at dksL_law_13 13 rfl rfl)
theorem dL_law_316 : decode cL_law 316 = .ok (.if_icmp .ne 72, 3) := dk_160 0 72 (dk_at dksL_law_13 14 rfl rfl)
theorem dL_law_319 : decode cL_law 319 = .ok (.aload_n 1, 1) := dk_43 (dk_at dksL_law_13 17 rfl rfl)
theorem dL_law_320 : decode cL_law 320 = .ok (.iload 5, 2) := dk_21 5 (dk_at dksL_law_13 18 rfl rfl)
theorem dL_law_322 : decode cL_law 322 = .ok (.iconst 2, 1) := dk_5 (dk_at dksL_law_13 20 rfl rfl)
theorem dL_law_323 : decode cL_law 323 = .ok (.ishr, 1) := dk_122 (dk_at dksL_law_13 21 rfl rfl)
theorem dL_law_324 : decode cL_law 324 = .ok (.invokevirtual 69, 3) := dk_182 0 69 (dk_at dksL_law_14 0 rfl rfl)
theorem dL_law_327 : decode cL_law 327 = .ok (.iconst 0, 1) := dk_3 (dk_at dksL_law_14 3 rfl rfl)
theorem dL_law_328 : decode cL_law 328 = .ok (.istore 11, 2) := dk_54 11 (dk_at dksL_law_14 4 rfl rfl)
theorem dL_law_330 : decode cL_law 330 = .ok (.iload 11, 2) := dk_21 11 (dk_at dksL_law_14 6 rfl rfl)
theorem dL_law_332 : decode cL_law 332 = .ok (.sipush 441, 3) := dk_17 1 185 (dk_at dksL_law_14 8 rfl rfl)
theorem dL_law_335 : decode cL_law 335 = .ok (.if_icmp .ge 50, 3) := dk_162 0 50 (dk_at dksL_law_14 11 rfl rfl)
theorem dL_law_338 : decode cL_law 338 = .ok (.aload_n 2, 1) := dk_44 (dk_at dksL_law_14 14 rfl rfl)
theorem dL_law_339 : decode cL_law 339 = .ok (.iload 11, 2) := dk_21 11 (dk_at dksL_law_14 15 rfl rfl)
theorem dL_law_341 : decode cL_law 341 = .ok (.bipush 21, 2) := dk_16 21 (dk_at dksL_law_14 17 rfl rfl)
theorem dL_law_343 : decode cL_law 343 = .ok (.idiv, 1) := dk_108 (dk_at dksL_law_14 19 rfl rfl)
theorem dL_law_344 : decode cL_law 344 = .ok (.aaload, 1) := dk_50 (dk_at dksL_law_14 20 rfl rfl)
theorem dL_law_345 : decode cL_law 345 = .ok (.iload 11, 2) := dk_21 11 (dk_at dksL_law_14 21 rfl rfl)
theorem dL_law_347 : decode cL_law 347 = .ok (.bipush 21, 2) := dk_16 21 (dk_at dksL_law_15 0 rfl rfl)
theorem dL_law_349 : decode cL_law 349 = .ok (.irem, 1) := dk_112 (dk_at dksL_law_15 2 rfl rfl)
theorem dL_law_350 : decode cL_law 350 = .ok (.dup2, 1) := dk_92 (dk_at dksL_law_15 3 rfl rfl)
theorem dL_law_351 : decode cL_law 351 = .ok (.iaload, 1) := dk_46 (dk_at dksL_law_15 4 rfl rfl)
theorem dL_law_352 : decode cL_law 352 = .ok (.iload 5, 2) := dk_21 5 (dk_at dksL_law_15 5 rfl rfl)
theorem dL_law_354 : decode cL_law 354 = .ok (.iconst 2, 1) := dk_5 (dk_at dksL_law_15 7 rfl rfl)
theorem dL_law_355 : decode cL_law 355 = .ok (.ishr, 1) := dk_122 (dk_at dksL_law_15 8 rfl rfl)
theorem dL_law_356 : decode cL_law 356 = .ok (.iload 11, 2) := dk_21 11 (dk_at dksL_law_15 9 rfl rfl)
theorem dL_law_358 : decode cL_law 358 = .ok (.bipush 21, 2) := dk_16 21 (dk_at dksL_law_15 11 rfl rfl)
theorem dL_law_360 : decode cL_law 360 = .ok (.idiv, 1) := dk_108 (dk_at dksL_law_15 13 rfl rfl)
theorem dL_law_361 : decode cL_law 361 = .ok (.iload 11, 2) := dk_21 11 (dk_at dksL_law_15 14 rfl rfl)
theorem dL_law_363 : decode cL_law 363 = .ok (.bipush 21, 2) := dk_16 21 (dk_at dksL_law_15 16 rfl rfl)
theorem dL_law_365 : decode cL_law 365 = .ok (.irem, 1) := dk_112 (dk_at dksL_law_15 18 rfl rfl)
theorem dL_law_366 : decode cL_law 366 = .ok (.invokestatic 73, 3) := dk_184 0 73 (dk_at dksL_law_15 19 rfl rfl)
theorem dL_law_369 : decode cL_law 369 = .ok (.ifCond .eq 7, 3) := dk_153 0 7 (dk_at dksL_law_16 0 rfl rfl)
theorem dL_law_372 : decode cL_law 372 = .ok (.iconst 1, 1) := dk_4 (dk_at dksL_law_16 3 rfl rfl)
theorem dL_law_373 : decode cL_law 373 = .ok (.goto 4, 3) := dk_167 0 4 (dk_at dksL_law_16 4 rfl rfl)
theorem dL_law_376 : decode cL_law 376 = .ok (.iconst 0, 1) := dk_3 (dk_at dksL_law_16 7 rfl rfl)
theorem dL_law_377 : decode cL_law 377 = .ok (.ixor, 1) := dk_130 (dk_at dksL_law_16 8 rfl rfl)
theorem dL_law_378 : decode cL_law 378 = .ok (.iastore, 1) := dk_79 (dk_at dksL_law_16 9 rfl rfl)
theorem dL_law_379 : decode cL_law 379 = .ok (.iinc 11 1, 3) := dk_132 11 1 (dk_at dksL_law_16 10 rfl rfl)
theorem dL_law_382 : decode cL_law 382 = .ok (.goto (-52), 3) := dk_167 255 204 (dk_at dksL_law_16 13 rfl rfl)
theorem dL_law_385 : decode cL_law 385 = .ok (.goto 224, 3) := dk_167 0 224 (dk_at dksL_law_16 16 rfl rfl)
theorem dL_law_388 : decode cL_law 388 = .ok (.iload 5, 2) := dk_21 5 (dk_at dksL_law_16 19 rfl rfl)
theorem dL_law_390 : decode cL_law 390 = .ok (.iconst 3, 1) := dk_6 (dk_at dksL_law_16 21 rfl rfl)
theorem dL_law_391 : decode cL_law 391 = .ok (.iand, 1) := dk_126 (dk_at dksL_law_16 22 rfl rfl)
theorem dL_law_392 : decode cL_law 392 = .ok (.iconst 2, 1) := dk_5 (dk_at dksL_law_16 23 rfl rfl)
theorem dL_law_393 : decode cL_law 393 = .ok (.if_icmp .ne 216, 3) := dk_160 0 216 (dk_at dksL_law_17 0 rfl rfl)
theorem dL_law_396 : decode cL_law 396 = .ok (.aload_n 0, 1) := dk_42 (dk_at dksL_law_17 3 rfl rfl)
theorem dL_law_397 : decode cL_law 397 = .ok (.iload 4, 2) := dk_21 4 (dk_at dksL_law_17 4 rfl rfl)
theorem dL_law_399 : decode cL_law 399 = .ok (.iconst 3, 1) := dk_6 (dk_at dksL_law_17 6 rfl rfl)
theorem dL_law_400 : decode cL_law 400 = .ok (.iadd, 1) := dk_96 (dk_at dksL_law_17 7 rfl rfl)
theorem dL_law_401 : decode cL_law 401 = .ok (.invokestatic 54, 3) := dk_184 0 54 (dk_at dksL_law_17 8 rfl rfl)
theorem dL_law_404 : decode cL_law 404 = .ok (.istore 11, 2) := dk_54 11 (dk_at dksL_law_17 11 rfl rfl)
theorem dL_law_406 : decode cL_law 406 = .ok (.aload_n 0, 1) := dk_42 (dk_at dksL_law_17 13 rfl rfl)
theorem dL_law_407 : decode cL_law 407 = .ok (.iload 4, 2) := dk_21 4 (dk_at dksL_law_17 14 rfl rfl)
theorem dL_law_409 : decode cL_law 409 = .ok (.iconst 4, 1) := dk_7 (dk_at dksL_law_17 16 rfl rfl)
theorem dL_law_410 : decode cL_law 410 = .ok (.iadd, 1) := dk_96 (dk_at dksL_law_17 17 rfl rfl)
theorem dL_law_411 : decode cL_law 411 = .ok (.invokestatic 54, 3) := dk_184 0 54 (dk_at dksL_law_17 18 rfl rfl)
theorem dL_law_414 : decode cL_law 414 = .ok (.bipush 21, 2) := dk_16 21 (dk_at dksL_law_17 21 rfl rfl)
theorem dL_law_416 : decode cL_law 416 = .ok (.invokestatic 58, 3) := dk_184 0 58 (dk_at dksL_law_18 0 rfl rfl)
theorem dL_law_419 : decode cL_law 419 = .ok (.bipush 6, 2) := dk_16 6 (dk_at dksL_law_18 3 rfl rfl)
theorem dL_law_421 : decode cL_law 421 = .ok (.isub, 1) := dk_100 (dk_at dksL_law_18 5 rfl rfl)
theorem dL_law_422 : decode cL_law 422 = .ok (.istore 12, 2) := dk_54 12 (dk_at dksL_law_18 6 rfl rfl)
theorem dL_law_424 : decode cL_law 424 = .ok (.iconst 0, 1) := dk_3 (dk_at dksL_law_18 8 rfl rfl)
theorem dL_law_425 : decode cL_law 425 = .ok (.istore 13, 2) := dk_54 13 (dk_at dksL_law_18 9 rfl rfl)
theorem dL_law_427 : decode cL_law 427 = .ok (.iload 13, 2) := dk_21 13 (dk_at dksL_law_18 11 rfl rfl)
theorem dL_law_429 : decode cL_law 429 = .ok (.bipush 32, 2) := dk_16 32 (dk_at dksL_law_18 13 rfl rfl)
theorem dL_law_431 : decode cL_law 431 = .ok (.if_icmp .ge 66, 3) := dk_162 0 66 (dk_at dksL_law_18 15 rfl rfl)
theorem dL_law_434 : decode cL_law 434 = .ok (.iload 13, 2) := dk_21 13 (dk_at dksL_law_18 18 rfl rfl)
theorem dL_law_436 : decode cL_law 436 = .ok (.bipush 29, 2) := dk_16 29 (dk_at dksL_law_18 20 rfl rfl)
theorem dL_law_438 : decode cL_law 438 = .ok (.imul, 1) := dk_104 (dk_at dksL_law_18 22 rfl rfl)
theorem dL_law_439 : decode cL_law 439 = .ok (.iload 11, 2) := dk_21 11 (dk_at dksL_law_19 0 rfl rfl)
theorem dL_law_441 : decode cL_law 441 = .ok (.iconst 5, 1) := dk_8 (dk_at dksL_law_19 2 rfl rfl)
theorem dL_law_442 : decode cL_law 442 = .ok (.ishr, 1) := dk_122 (dk_at dksL_law_19 3 rfl rfl)
theorem dL_law_443 : decode cL_law 443 = .ok (.iadd, 1) := dk_96 (dk_at dksL_law_19 4 rfl rfl)
theorem dL_law_444 : decode cL_law 444 = .ok (.sipush 441, 3) := dk_17 1 185 (dk_at dksL_law_19 5 rfl rfl)
theorem dL_law_447 : decode cL_law 447 = .ok (.invokestatic 58, 3) := dk_184 0 58 (dk_at dksL_law_19 8 rfl rfl)
theorem dL_law_450 : decode cL_law 450 = .ok (.istore 14, 2) := dk_54 14 (dk_at dksL_law_19 11 rfl rfl)
theorem dL_law_452 : decode cL_law 452 = .ok (.aload_n 1, 1) := dk_43 (dk_at dksL_law_19 13 rfl rfl)
theorem dL_law_453 : decode cL_law 453 = .ok (.iload 14, 2) := dk_21 14 (dk_at dksL_law_19 14 rfl rfl)
theorem dL_law_455 : decode cL_law 455 = .ok (.bipush 21, 2) := dk_16 21 (dk_at dksL_law_19 16 rfl rfl)
theorem dL_law_457 : decode cL_law 457 = .ok (.idiv, 1) := dk_108 (dk_at dksL_law_19 18 rfl rfl)
theorem dL_law_458 : decode cL_law 458 = .ok (.iload 14, 2) := dk_21 14 (dk_at dksL_law_19 19 rfl rfl)
theorem dL_law_460 : decode cL_law 460 = .ok (.bipush 21, 2) := dk_16 21 (dk_at dksL_law_19 21 rfl rfl)
theorem dL_law_462 : decode cL_law 462 = .ok (.irem, 1) := dk_112 (dk_at dksL_law_19 23 rfl rfl)
theorem dL_law_463 : decode cL_law 463 = .ok (.iload 11, 2) := dk_21 11 (dk_at dksL_law_20 0 rfl rfl)
theorem dL_law_465 : decode cL_law 465 = .ok (.iload 13, 2) := dk_21 13 (dk_at dksL_law_20 2 rfl rfl)
theorem dL_law_467 : decode cL_law 467 = .ok (.ishr, 1) := dk_122 (dk_at dksL_law_20 4 rfl rfl)
theorem dL_law_468 : decode cL_law 468 = .ok (.invokevirtual 61, 3) := dk_182 0 61 (dk_at dksL_law_20 5 rfl rfl)
theorem dL_law_471 : decode cL_law 471 = .ok (.aload_n 2, 1) := dk_44 (dk_at dksL_law_20 8 rfl rfl)
theorem dL_law_472 : decode cL_law 472 = .ok (.iload 14, 2) := dk_21 14 (dk_at dksL_law_20 9 rfl rfl)
theorem dL_law_474 : decode cL_law 474 = .ok (.bipush 21, 2) := dk_16 21 (dk_at dksL_law_20 11 rfl rfl)
theorem dL_law_476 : decode cL_law 476 = .ok (.idiv, 1) := dk_108 (dk_at dksL_law_20 13 rfl rfl)
theorem dL_law_477 : decode cL_law 477 = .ok (.aaload, 1) := dk_50 (dk_at dksL_law_20 14 rfl rfl)
theorem dL_law_478 : decode cL_law 478 = .ok (.iload 14, 2) := dk_21 14 (dk_at dksL_law_20 15 rfl rfl)
theorem dL_law_480 : decode cL_law 480 = .ok (.bipush 21, 2) := dk_16 21 (dk_at dksL_law_20 17 rfl rfl)
theorem dL_law_482 : decode cL_law 482 = .ok (.irem, 1) := dk_112 (dk_at dksL_law_20 19 rfl rfl)
theorem dL_law_483 : decode cL_law 483 = .ok (.iload 11, 2) := dk_21 11 (dk_at dksL_law_20 20 rfl rfl)
theorem dL_law_485 : decode cL_law 485 = .ok (.iload 13, 2) := dk_21 13 (dk_at dksL_law_20 22 rfl rfl)
theorem dL_law_487 : decode cL_law 487 = .ok (.ishr, 1) := dk_122 (dk_at dksL_law_21 0 rfl rfl)
theorem dL_law_488 : decode cL_law 488 = .ok (.iconst 1, 1) := dk_4 (dk_at dksL_law_21 1 rfl rfl)
theorem dL_law_489 : decode cL_law 489 = .ok (.iand, 1) := dk_126 (dk_at dksL_law_21 2 rfl rfl)
theorem dL_law_490 : decode cL_law 490 = .ok (.iastore, 1) := dk_79 (dk_at dksL_law_21 3 rfl rfl)
theorem dL_law_491 : decode cL_law 491 = .ok (.iinc 13 1, 3) := dk_132 13 1 (dk_at dksL_law_21 4 rfl rfl)
theorem dL_law_494 : decode cL_law 494 = .ok (.goto (-67), 3) := dk_167 255 189 (dk_at dksL_law_21 7 rfl rfl)
theorem dL_law_497 : decode cL_law 497 = .ok (.iconst 0, 1) := dk_3 (dk_at dksL_law_21 10 rfl rfl)
theorem dL_law_498 : decode cL_law 498 = .ok (.istore 13, 2) := dk_54 13 (dk_at dksL_law_21 11 rfl rfl)
theorem dL_law_500 : decode cL_law 500 = .ok (.iload 13, 2) := dk_21 13 (dk_at dksL_law_21 13 rfl rfl)
theorem dL_law_502 : decode cL_law 502 = .ok (.bipush 15, 2) := dk_16 15 (dk_at dksL_law_21 15 rfl rfl)
theorem dL_law_504 : decode cL_law 504 = .ok (.if_icmp .ge 105, 3) := dk_162 0 105 (dk_at dksL_law_21 17 rfl rfl)
theorem dL_law_507 : decode cL_law 507 = .ok (.iload 12, 2) := dk_21 12 (dk_at dksL_law_21 20 rfl rfl)
theorem dL_law_509 : decode cL_law 509 = .ok (.iload 13, 2) := dk_21 13 (dk_at dksL_law_21 22 rfl rfl)
theorem dL_law_511 : decode cL_law 511 = .ok (.iadd, 1) := dk_96 (dk_at dksL_law_22 0 rfl rfl)
theorem dL_law_512 : decode cL_law 512 = .ok (.istore 14, 2) := dk_54 14 (dk_at dksL_law_22 1 rfl rfl)
theorem dL_law_514 : decode cL_law 514 = .ok (.iload 14, 2) := dk_21 14 (dk_at dksL_law_22 3 rfl rfl)
theorem dL_law_516 : decode cL_law 516 = .ok (.ifCond .lt 87, 3) := dk_155 0 87 (dk_at dksL_law_22 5 rfl rfl)
theorem dL_law_519 : decode cL_law 519 = .ok (.iload 14, 2) := dk_21 14 (dk_at dksL_law_22 8 rfl rfl)
theorem dL_law_521 : decode cL_law 521 = .ok (.bipush 21, 2) := dk_16 21 (dk_at dksL_law_22 10 rfl rfl)
theorem dL_law_523 : decode cL_law 523 = .ok (.if_icmp .ge 80, 3) := dk_162 0 80 (dk_at dksL_law_22 12 rfl rfl)
theorem dL_law_526 : decode cL_law 526 = .ok (.iload 5, 2) := dk_21 5 (dk_at dksL_law_22 15 rfl rfl)
theorem dL_law_528 : decode cL_law 528 = .ok (.iconst 4, 1) := dk_7 (dk_at dksL_law_22 17 rfl rfl)
theorem dL_law_529 : decode cL_law 529 = .ok (.iand, 1) := dk_126 (dk_at dksL_law_22 18 rfl rfl)
theorem dL_law_530 : decode cL_law 530 = .ok (.ifCond .ne 7, 3) := dk_154 0 7 (dk_at dksL_law_22 19 rfl rfl)
theorem dL_law_533 : decode cL_law 533 = .ok (.iconst 1, 1) := dk_4 (dk_at dksL_law_22 22 rfl rfl)
theorem dL_law_534 : decode cL_law 534 = .ok (.goto 4, 3) := dk_167 0 4 (dk_at dksL_law_23 0 rfl rfl)
theorem dL_law_537 : decode cL_law 537 = .ok (.iconst 0, 1) := dk_3 (dk_at dksL_law_23 3 rfl rfl)
theorem dL_law_538 : decode cL_law 538 = .ok (.istore 15, 2) := dk_54 15 (dk_at dksL_law_23 4 rfl rfl)
theorem dL_law_540 : decode cL_law 540 = .ok (.aload_n 1, 1) := dk_43 (dk_at dksL_law_23 6 rfl rfl)
theorem dL_law_541 : decode cL_law 541 = .ok (.iload 15, 2) := dk_21 15 (dk_at dksL_law_23 7 rfl rfl)
theorem dL_law_543 : decode cL_law 543 = .ok (.ifCond .eq 8, 3) := dk_153 0 8 (dk_at dksL_law_23 9 rfl rfl)
theorem dL_law_546 : decode cL_law 546 = .ok (.iload 14, 2) := dk_21 14 (dk_at dksL_law_23 12 rfl rfl)
theorem dL_law_548 : decode cL_law 548 = .ok (.goto 5, 3) := dk_167 0 5 (dk_at dksL_law_23 14 rfl rfl)
theorem dL_law_551 : decode cL_law 551 = .ok (.iload 9, 2) := dk_21 9 (dk_at dksL_law_23 17 rfl rfl)
theorem dL_law_553 : decode cL_law 553 = .ok (.iload 15, 2) := dk_21 15 (dk_at dksL_law_23 19 rfl rfl)
theorem dL_law_555 : decode cL_law 555 = .ok (.ifCond .eq 8, 3) := dk_153 0 8 (dk_at dksL_law_23 21 rfl rfl)
theorem dL_law_558 : decode cL_law 558 = .ok (.iload 10, 2) := dk_21 10 (dk_at dksL_law_24 0 rfl rfl)
theorem dL_law_560 : decode cL_law 560 = .ok (.goto 5, 3) := dk_167 0 5 (dk_at dksL_law_24 2 rfl rfl)
theorem dL_law_563 : decode cL_law 563 = .ok (.iload 14, 2) := dk_21 14 (dk_at dksL_law_24 5 rfl rfl)
theorem dL_law_565 : decode cL_law 565 = .ok (.aload_n 3, 1) := dk_45 (dk_at dksL_law_24 7 rfl rfl)
theorem dL_law_566 : decode cL_law 566 = .ok (.iload 13, 2) := dk_21 13 (dk_at dksL_law_24 8 rfl rfl)
theorem dL_law_568 : decode cL_law 568 = .ok (.iaload, 1) := dk_46 (dk_at dksL_law_24 10 rfl rfl)
theorem dL_law_569 : decode cL_law 569 = .ok (.invokevirtual 61, 3) := dk_182 0 61 (dk_at dksL_law_24 11 rfl rfl)
theorem dL_law_572 : decode cL_law 572 = .ok (.aload_n 2, 1) := dk_44 (dk_at dksL_law_24 14 rfl rfl)
theorem dL_law_573 : decode cL_law 573 = .ok (.iload 15, 2) := dk_21 15 (dk_at dksL_law_24 15 rfl rfl)
theorem dL_law_575 : decode cL_law 575 = .ok (.ifCond .eq 8, 3) := dk_153 0 8 (dk_at dksL_law_24 17 rfl rfl)
theorem dL_law_578 : decode cL_law 578 = .ok (.iload 14, 2) := dk_21 14 (dk_at dksL_law_24 20 rfl rfl)
theorem dL_law_580 : decode cL_law 580 = .ok (.goto 5, 3) := dk_167 0 5 (dk_at dksL_law_25 0 rfl rfl)
theorem dL_law_583 : decode cL_law 583 = .ok (.iload 9, 2) := dk_21 9 (dk_at dksL_law_25 3 rfl rfl)
theorem dL_law_585 : decode cL_law 585 = .ok (.aaload, 1) := dk_50 (dk_at dksL_law_25 5 rfl rfl)
theorem dL_law_586 : decode cL_law 586 = .ok (.iload 15, 2) := dk_21 15 (dk_at dksL_law_25 6 rfl rfl)
theorem dL_law_588 : decode cL_law 588 = .ok (.ifCond .eq 8, 3) := dk_153 0 8 (dk_at dksL_law_25 8 rfl rfl)
theorem dL_law_591 : decode cL_law 591 = .ok (.iload 10, 2) := dk_21 10 (dk_at dksL_law_25 11 rfl rfl)
theorem dL_law_593 : decode cL_law 593 = .ok (.goto 5, 3) := dk_167 0 5 (dk_at dksL_law_25 13 rfl rfl)
theorem dL_law_596 : decode cL_law 596 = .ok (.iload 14, 2) := dk_21 14 (dk_at dksL_law_25 16 rfl rfl)
theorem dL_law_598 : decode cL_law 598 = .ok (.aload_n 3, 1) := dk_45 (dk_at dksL_law_25 18 rfl rfl)
theorem dL_law_599 : decode cL_law 599 = .ok (.iload 13, 2) := dk_21 13 (dk_at dksL_law_25 19 rfl rfl)
theorem dL_law_601 : decode cL_law 601 = .ok (.iaload, 1) := dk_46 (dk_at dksL_law_25 21 rfl rfl)
theorem dL_law_602 : decode cL_law 602 = .ok (.iastore, 1) := dk_79 (dk_at dksL_law_25 22 rfl rfl)
theorem dL_law_603 : decode cL_law 603 = .ok (.iinc 13 1, 3) := dk_132 13 1 (dk_at dksL_law_26 0 rfl rfl)
theorem dL_law_606 : decode cL_law 606 = .ok (.goto (-106), 3) := dk_167 255 150 (dk_at dksL_law_26 3 rfl rfl)
theorem dL_law_609 : decode cL_law 609 = .ok (.aload_n 1, 1) := dk_43 (dk_at dksL_law_26 6 rfl rfl)
theorem dL_law_610 : decode cL_law 610 = .ok (.iload 5, 2) := dk_21 5 (dk_at dksL_law_26 7 rfl rfl)
theorem dL_law_612 : decode cL_law 612 = .ok (.iload 6, 2) := dk_21 6 (dk_at dksL_law_26 9 rfl rfl)
theorem dL_law_614 : decode cL_law 614 = .ok (.iload 7, 2) := dk_21 7 (dk_at dksL_law_26 11 rfl rfl)
theorem dL_law_616 : decode cL_law 616 = .ok (.invokevirtual 77, 3) := dk_182 0 77 (dk_at dksL_law_26 13 rfl rfl)
theorem dL_law_619 : decode cL_law 619 = .ok (.iload 5, 2) := dk_21 5 (dk_at dksL_law_26 16 rfl rfl)
theorem dL_law_621 : decode cL_law 621 = .ok (.iload 6, 2) := dk_21 6 (dk_at dksL_law_26 18 rfl rfl)
theorem dL_law_623 : decode cL_law 623 = .ok (.sipush 255, 3) := dk_17 0 255 (dk_at dksL_law_26 20 rfl rfl)
theorem dL_law_626 : decode cL_law 626 = .ok (.iand, 1) := dk_126 (dk_at dksL_law_26 23 rfl rfl)
theorem dL_law_627 : decode cL_law 627 = .ok (.iload 7, 2) := dk_21 7 (dk_at dksL_law_27 0 rfl rfl)
theorem dL_law_629 : decode cL_law 629 = .ok (.sipush 255, 3) := dk_17 0 255 (dk_at dksL_law_27 2 rfl rfl)
theorem dL_law_632 : decode cL_law 632 = .ok (.iand, 1) := dk_126 (dk_at dksL_law_27 5 rfl rfl)
theorem dL_law_633 : decode cL_law 633 = .ok (.invokestatic 73, 3) := dk_184 0 73 (dk_at dksL_law_27 6 rfl rfl)
theorem dL_law_636 : decode cL_law 636 = .ok (.if_icmp .ne 11, 3) := dk_160 0 11 (dk_at dksL_law_27 9 rfl rfl)
theorem dL_law_639 : decode cL_law 639 = .ok (.aload_n 1, 1) := dk_43 (dk_at dksL_law_27 12 rfl rfl)
theorem dL_law_640 : decode cL_law 640 = .ok (.aload_n 2, 1) := dk_44 (dk_at dksL_law_27 13 rfl rfl)
theorem dL_law_641 : decode cL_law 641 = .ok (.invokestatic 50, 3) := dk_184 0 50 (dk_at dksL_law_27 14 rfl rfl)
theorem dL_law_644 : decode cL_law 644 = .ok (.ifCond .ne 5, 3) := dk_154 0 5 (dk_at dksL_law_27 17 rfl rfl)
theorem dL_law_647 : decode cL_law 647 = .ok (.iconst 0, 1) := dk_3 (dk_at dksL_law_27 20 rfl rfl)
theorem dL_law_648 : decode cL_law 648 = .ok (.ireturn, 1) := dk_172 (dk_at dksL_law_27 21 rfl rfl)
theorem dL_law_649 : decode cL_law 649 = .ok (.iinc 4 6, 3) := dk_132 4 6 (dk_at dksL_law_28 0 rfl rfl)
theorem dL_law_652 : decode cL_law 652 = .ok (.goto (-548), 3) := dk_167 253 220 (dk_at dksL_law_28 3 rfl rfl)
theorem dL_law_655 : decode cL_law 655 = .ok (.iconst 1, 1) := dk_4 (dk_at dksL_law_28 6 rfl rfl)
theorem dL_law_656 : decode cL_law 656 = .ok (.ireturn, 1) := dk_172 (dk_at dksL_law_28 7 rfl rfl)
end
section
/-! HELP: the classes, grids (arrays of arrays, 21 by 21, rows behind the outer array), readers' and writers' contracts, numbers -/
set_option maxRecDepth 100000
abbrev vwCl : List vw_C := [(RX1, TX1, 1), (RX2, TX2, 3)]
abbrev zty (k : Nat → ClassId) : List (ClassId × FieldType) := [(k 0, .array .byte), (k 1, .byte), (k 2, .array .int), (k 3, .int)]
abbrev zK (D : va_G) (k : Nat → ClassId) (U : State) : Prop := va_K D vwCl (zty k) U
theorem zarr_congr (cI : ClassId) (N : Nat) {f f' : Nat → Value} (h : ∀ j, j < N → f j = f' j) : arrV cI N f = arrV cI N f' := by
  have e : (fun j : Fin N => f j.val) = (fun j : Fin N => f' j.val) := funext fun j => h j.val j.isLt
  unfold arrV
  rw [e]
/-- the grid at g: the outer array, and its rows behind it -/
def zG (cO cI : ClassId) (g : Nat) (M : Nat → Nat → Bool) (H : Heap) : Prop :=
  H[g]? = some (arrV cO 21 (fun i => .ref (g + 1 + i))) ∧ ∀ i : Nat, i < 21 → H[g + 1 + i]? = some (arrV cI 21 (fun j => .int (nI (M i j).toNat)))
theorem zG.kept {cO cI : ClassId} {g : Nat} {M : Nat → Nat → Bool} {H H1 : Heap} (h : zG cO cI g M H) (hk : ∀ q : Nat, g ≤ q → q ≤ g + 21 → H1[q]? = H[q]?) : zG cO cI g M H1 :=
  ⟨(hk g (Nat.le_refl _) (by omega)).trans h.1, fun i hi => (hk _ (by omega) (by omega)).trans (h.2 i hi)⟩
theorem zG.congr {cO cI : ClassId} {g : Nat} {M M' : Nat → Nat → Bool} {H : Heap} (h : zG cO cI g M H) (e : ∀ i j : Nat, i < 21 → j < 21 → M i j = M' i j) : zG cO cI g M' H :=
  ⟨h.1, fun i hi => (h.2 i hi).trans (congrArg some (zarr_congr _ _ fun j hj => by rw [e i j hi hj]))⟩
theorem zG.lt {cO cI : ClassId} {g : Nat} {M : Nat → Nat → Bool} {H : Heap} (h : zG cO cI g M H) : g + 21 < H.size := by
  have h1 := (Array.getElem?_eq_some_iff.mp (h.2 20 (by omega))).1
  omega
def zup (M : Nat → Nat → Bool) (i j : Nat) (v : Bool) : Nat → Nat → Bool := fun a b => if a = i ∧ b = j then v else M a b
theorem zbt (b : Bool) : b.toNat < 2 ^ 31 := by cases b <;> decide
theorem zb1 (b : Bool) : b.toNat ≤ 1 := by cases b <;> decide
section ZH
variable {p : Program} {l : Launch} {e : Env} {R : Room} {s : State} {m : MethodId} {args : Array Value} {below : List Frame} {meth : Method} {c : Code} {H : Heap} {locs : List Loc} {cells slots : Nat} {Q : State → Prop}
variable {cc : ByteArray} {pc : Nat} {ls : Array Slot} {rest : List Value}
theorem zg_row (hexec : p.tables.exec = Jvm.exec) (hb : c.code = cc) {cO cI : ClassId} {ty : FieldType} (hA : ArrOfT s cO (.array ty)) {g i : Nat} {M : Nat → Nat → Bool} (hG : zG cO cI g M H) (hi : i < 21) (hdg : decode cc pc = .ok (.aaload, 1))
    (kk : W p l e R s m args below meth c H locs cells slots Q (F0 m (pc + 1) ls (.ref (g + 1 + i) :: rest))) : W p l e R s m args below meth c H locs cells slots Q (F0 m pc ls (.int (nI i) :: .ref g :: rest)) := by
  have hc : (nI i).toNatClampNeg = i := nI_clamp (by omega)
  exact W.aald (v := .ref (g + 1 + i)) (ty := .array ty) hexec hb hG.1 (hA 21 _) rfl (fun q => by cases q) (by show ¬ (nI i < 0 ∨ (arrV _ _ _).slots.size ≤ _); rw [arrV_size]; exact nI_in hi (by omega)) (by show (arrV _ _ _).slots[_]? = _; rw [hc, arrV_read _ _ hi]) rfl rfl hdg kk
theorem zg_bld (hexec : p.tables.exec = Jvm.exec) (hb : c.code = cc) {cO cI : ClassId} (hA : ArrOfT s cI .byte) {g i j : Nat} {M : Nat → Nat → Bool} (hG : zG cO cI g M H) (hi : i < 21) (hj : j < 21) (hdg : decode cc pc = .ok (.baload, 1))
    (kk : W p l e R s m args below meth c H locs cells slots Q (F0 m (pc + 1) ls (.int (nI (M i j).toNat) :: rest))) : W p l e R s m args below meth c H locs cells slots Q (F0 m pc ls (.int (nI j) :: .ref (g + 1 + i) :: rest)) := by
  have hc : (nI j).toNatClampNeg = j := nI_clamp (by omega)
  exact W.bald (v := .int (nI (M i j).toNat)) hexec hb (hG.2 i hi) (hA 21 _) (fun q => by cases q) (by show ¬ (nI j < 0 ∨ (arrV _ _ _).slots.size ≤ _); rw [arrV_size]; exact nI_in hj (by omega)) (by show (arrV _ _ _).slots[_]? = _; rw [hc, arrV_read _ _ hj]) rfl rfl hdg kk
theorem zg_ild (hexec : p.tables.exec = Jvm.exec) (hb : c.code = cc) {cO cI : ClassId} (hA : ArrOfT s cI .int) {g i j : Nat} {M : Nat → Nat → Bool} (hG : zG cO cI g M H) (hi : i < 21) (hj : j < 21) (hdg : decode cc pc = .ok (.iaload, 1))
    (kk : W p l e R s m args below meth c H locs cells slots Q (F0 m (pc + 1) ls (.int (nI (M i j).toNat) :: rest))) : W p l e R s m args below meth c H locs cells slots Q (F0 m pc ls (.int (nI j) :: .ref (g + 1 + i) :: rest)) := by
  have hc : (nI j).toNatClampNeg = j := nI_clamp (by omega)
  exact W.iald (v := .int (nI (M i j).toNat)) hexec hb (hG.2 i hi) (hA 21 _) (fun q => by cases q) (by show ¬ (nI j < 0 ∨ (arrV _ _ _).slots.size ≤ _); rw [arrV_size]; exact nI_in hj (by omega)) (by show (arrV _ _ _).slots[_]? = _; rw [hc, arrV_read _ _ hj]) rfl rfl hdg kk
theorem zg_len (hexec : p.tables.exec = Jvm.exec) (hb : c.code = cc) {cO cI : ClassId} {ty : FieldType} (hA : ArrOfT s cO ty) {g : Nat} {M : Nat → Nat → Bool} (hG : zG cO cI g M H) (hdg : decode cc pc = .ok (.arraylength, 1))
    (kk : W p l e R s m args below meth c H locs cells slots Q (F0 m (pc + 1) ls (.int (nI 21) :: rest))) : W p l e R s m args below meth c H locs cells slots Q (F0 m pc ls (.ref g :: rest)) :=
  W.alen (n := nI 21) hexec hb hG.1 (hA 21 _) (by rw [arrV_size]; rfl) rfl rfl hdg kk
theorem zg_rlen (hexec : p.tables.exec = Jvm.exec) (hb : c.code = cc) {cO cI : ClassId} {ty : FieldType} (hA : ArrOfT s cI ty) {g i : Nat} {M : Nat → Nat → Bool} (hG : zG cO cI g M H) (hi : i < 21) (hdg : decode cc pc = .ok (.arraylength, 1))
    (kk : W p l e R s m args below meth c H locs cells slots Q (F0 m (pc + 1) ls (.int (nI 21) :: rest))) : W p l e R s m args below meth c H locs cells slots Q (F0 m pc ls (.ref (g + 1 + i) :: rest)) :=
  W.alen (n := nI 21) hexec hb (hG.2 i hi) (hA 21 _) (by rw [arrV_size]; rfl) rfl rfl hdg kk
theorem zst_cell {cI : ClassId} {M : Nat → Nat → Bool} {i j : Nat} {v : Bool} : (arrV cI 21 (fun j => .int (nI (M i j).toNat))).setSlot j (.int (nI v.toNat)) = arrV cI 21 (fun b => .int (nI (zup M i j v i b).toNat)) := by
  rw [arrV_store]
  congr 1
  funext b
  by_cases h : b = j
  · simp [updV, zup, h]
  · simp [updV, zup, h]
theorem zst_grid {cO cI : ClassId} {g i j : Nat} {M : Nat → Nat → Bool} {v : Bool} {H H1 : Heap} (hG : zG cO cI g M H) (e1 : H1[g + 1 + i]? = some (arrV cI 21 (fun b => .int (nI (zup M i j v i b).toNat)))) (oq : ∀ q : Nat, q ≠ g + 1 + i → H1[q]? = H[q]?) : zG cO cI g (zup M i j v) H1 := by
  refine ⟨(oq g (by omega)).trans hG.1, fun a ha => ?_⟩
  by_cases h : a = i
  · subst h
    exact e1
  · rw [oq _ (by omega), hG.2 a ha]
    simp [zup, h]
theorem zg_bst (hexec : p.tables.exec = Jvm.exec) (hb : c.code = cc) {cO cI : ClassId} (hA : ArrOfT s cI .byte) {g i j : Nat} {M : Nat → Nat → Bool} {v : Bool} (hG : zG cO cI g M H) (hi : i < 21) (hj : j < 21) (hdg : decode cc pc = .ok (.bastore, 1))
    (kk : ∀ (H1 : Heap) (locs1 : List Loc), zG cO cI g (zup M i j v) H1 → H1.size = H.size → (∀ q : Nat, q ≠ g + 1 + i → H1[q]? = H[q]?) → (∀ q ∈ locs1, q ∈ locs ∨ q.base = g + 1 + i) → W p l e R s m args below meth c H1 locs1 cells slots Q (F0 m (pc + 1) ls rest)) : W p l e R s m args below meth c H locs cells slots Q (F0 m pc ls (.int (nI v.toNat) :: .int (nI j) :: .ref (g + 1 + i) :: rest)) := by
  have hc : (nI j).toNatClampNeg = j := nI_clamp (by omega)
  have hn : narrow .byte (.int (nI v.toNat)) = .int (nI v.toNat) := by cases v <;> rfl
  refine W.bast hexec hb (hG.2 i hi) (hA 21 _) (fun q => by cases q) (by show ¬ (nI j < 0 ∨ (arrV _ _ _).slots.size ≤ _); rw [arrV_size]; exact nI_in hj (by omega)) rfl rfl hdg fun H1 e1 e2 e3 => ?_
  rw [hn, hc, zst_cell] at e1
  refine kk H1 _ (zst_grid hG e1 e3) e2 e3 (fun q hq => ?_)
  rcases List.mem_append.mp hq with h | h
  · exact Or.inl h
  · rw [List.mem_singleton.mp h]
    exact Or.inr rfl
theorem zg_ist (hexec : p.tables.exec = Jvm.exec) (hb : c.code = cc) {cO cI : ClassId} (hA : ArrOfT s cI .int) {g i j : Nat} {M : Nat → Nat → Bool} {v : Bool} (hG : zG cO cI g M H) (hi : i < 21) (hj : j < 21) (hdg : decode cc pc = .ok (.iastore, 1))
    (kk : ∀ (H1 : Heap) (locs1 : List Loc), zG cO cI g (zup M i j v) H1 → H1.size = H.size → (∀ q : Nat, q ≠ g + 1 + i → H1[q]? = H[q]?) → (∀ q ∈ locs1, q ∈ locs ∨ q.base = g + 1 + i) → W p l e R s m args below meth c H1 locs1 cells slots Q (F0 m (pc + 1) ls rest)) : W p l e R s m args below meth c H locs cells slots Q (F0 m pc ls (.int (nI v.toNat) :: .int (nI j) :: .ref (g + 1 + i) :: rest)) := by
  have hc : (nI j).toNatClampNeg = j := nI_clamp (by omega)
  refine W.iast hexec hb (hG.2 i hi) (hA 21 _) (fun q => by cases q) (by show ¬ (nI j < 0 ∨ (arrV _ _ _).slots.size ≤ _); rw [arrV_size]; exact nI_in hj (by omega)) rfl rfl hdg fun H1 e1 e2 e3 => ?_
  rw [hc, zst_cell] at e1
  refine kk H1 _ (zst_grid hG e1 e3) e2 e3 (fun q hq => ?_)
  rcases List.mem_append.mp hq with h | h
  · exact Or.inl h
  · rw [List.mem_singleton.mp h]
    exact Or.inr rfl
-- arithmetic with a named result
theorem z_iadd (hexec : p.tables.exec = Jvm.exec) (hb : c.code = cc) {x y v : Int32} (hdg : decode cc pc = .ok (.iadd, 1)) (hv : x + y = v)
    (k : W p l e R s m args below meth c H locs cells slots Q (F0 m (pc + 1) ls (.int v :: rest))) : W p l e R s m args below meth c H locs cells slots Q (F0 m pc ls (.int y :: .int x :: rest)) := lv_iadd hexec hb hdg (by rw [hv]; exact k)
theorem z_isub (hexec : p.tables.exec = Jvm.exec) (hb : c.code = cc) {x y v : Int32} (hdg : decode cc pc = .ok (.isub, 1)) (hv : x - y = v)
    (k : W p l e R s m args below meth c H locs cells slots Q (F0 m (pc + 1) ls (.int v :: rest))) : W p l e R s m args below meth c H locs cells slots Q (F0 m pc ls (.int y :: .int x :: rest)) := lv_isub hexec hb hdg (by rw [hv]; exact k)
theorem z_imul (hexec : p.tables.exec = Jvm.exec) (hb : c.code = cc) {x y v : Int32} (hdg : decode cc pc = .ok (.imul, 1)) (hv : x * y = v)
    (k : W p l e R s m args below meth c H locs cells slots Q (F0 m (pc + 1) ls (.int v :: rest))) : W p l e R s m args below meth c H locs cells slots Q (F0 m pc ls (.int y :: .int x :: rest)) := lv_imul hexec hb hdg (by rw [hv]; exact k)
theorem z_iand (hexec : p.tables.exec = Jvm.exec) (hb : c.code = cc) {x y v : Int32} (hdg : decode cc pc = .ok (.iand, 1)) (hv : x &&& y = v)
    (k : W p l e R s m args below meth c H locs cells slots Q (F0 m (pc + 1) ls (.int v :: rest))) : W p l e R s m args below meth c H locs cells slots Q (F0 m pc ls (.int y :: .int x :: rest)) := lv_iand hexec hb hdg (by rw [hv]; exact k)
theorem z_ixor (hexec : p.tables.exec = Jvm.exec) (hb : c.code = cc) {x y v : Int32} (hdg : decode cc pc = .ok (.ixor, 1)) (hv : x ^^^ y = v)
    (k : W p l e R s m args below meth c H locs cells slots Q (F0 m (pc + 1) ls (.int v :: rest))) : W p l e R s m args below meth c H locs cells slots Q (F0 m pc ls (.int y :: .int x :: rest)) := lv_ixor hexec hb hdg (by rw [hv]; exact k)
theorem z_idiv (hexec : p.tables.exec = Jvm.exec) (hb : c.code = cc) {x y v : Int32} (hdg : decode cc pc = .ok (.idiv, 1)) (hne : ¬ y = 0) (hv : x / y = v)
    (k : W p l e R s m args below meth c H locs cells slots Q (F0 m (pc + 1) ls (.int v :: rest))) : W p l e R s m args below meth c H locs cells slots Q (F0 m pc ls (.int y :: .int x :: rest)) := lv_idiv hexec hb hdg hne (by rw [hv]; exact k)
theorem z_irem (hexec : p.tables.exec = Jvm.exec) (hb : c.code = cc) {x y v : Int32} (hdg : decode cc pc = .ok (.irem, 1)) (hne : ¬ y = 0) (hv : x - x / y * y = v)
    (k : W p l e R s m args below meth c H locs cells slots Q (F0 m (pc + 1) ls (.int v :: rest))) : W p l e R s m args below meth c H locs cells slots Q (F0 m pc ls (.int y :: .int x :: rest)) := lv_irem hexec hb hdg hne (by rw [hv]; exact k)
theorem z_ishr (hexec : p.tables.exec = Jvm.exec) (hb : c.code = cc) {x y v : Int32} (hdg : decode cc pc = .ok (.ishr, 1)) (hv : x >>> (y &&& 31) = v)
    (k : W p l e R s m args below meth c H locs cells slots Q (F0 m (pc + 1) ls (.int v :: rest))) : W p l e R s m args below meth c H locs cells slots Q (F0 m pc ls (.int y :: .int x :: rest)) := lv_ishr hexec hb hdg (by rw [hv]; exact k)
theorem zt {x y : Int32} (h : x = y) (k : W p l e R s m args below meth c H locs cells slots Q (F0 m pc ls (.int y :: rest))) : W p l e R s m args below meth c H locs cells slots Q (F0 m pc ls (.int x :: rest)) := h ▸ k
-- branches on small naturals
theorem z_ige {a b : Nat} (hexec : p.tables.exec = Jvm.exec) (hb : c.code = cc) {off : Int} {tgt : Nat} (hdg : decode cc pc = .ok (.if_icmp .ge off, 3)) (ht : (pc : Int) + off = (tgt : Int)) (ha : a < 2 ^ 31) (hb' : b < 2 ^ 31)
    (kt : b ≤ a → W p l e R s m args below meth c H locs cells slots Q (F0 m tgt ls rest)) (kf : a < b → W p l e R s m args below meth c H locs cells slots Q (F0 m (pc + 3) ls rest)) : W p l e R s m args below meth c H locs cells slots Q (F0 m pc ls (.int (nI b) :: .int (nI a) :: rest)) :=
  lv_icmp_ge hexec hb hdg ht (fun h => kt ((nI_leI hb' ha).mp h)) (fun h => kf (Nat.lt_of_not_le fun q => h ((nI_leI hb' ha).mpr q)))
theorem z_igt {a b : Nat} (hexec : p.tables.exec = Jvm.exec) (hb : c.code = cc) {off : Int} {tgt : Nat} (hdg : decode cc pc = .ok (.if_icmp .gt off, 3)) (ht : (pc : Int) + off = (tgt : Int)) (ha : a < 2 ^ 31) (hb' : b < 2 ^ 31)
    (kt : b < a → W p l e R s m args below meth c H locs cells slots Q (F0 m tgt ls rest)) (kf : a ≤ b → W p l e R s m args below meth c H locs cells slots Q (F0 m (pc + 3) ls rest)) : W p l e R s m args below meth c H locs cells slots Q (F0 m pc ls (.int (nI b) :: .int (nI a) :: rest)) :=
  lv_icmp_gt hexec hb hdg ht (fun h => kt ((nI_ltI hb' ha).mp h)) (fun h => kf (Nat.le_of_not_lt fun q => h ((nI_ltI hb' ha).mpr q)))
theorem z_ilt {a b : Nat} (hexec : p.tables.exec = Jvm.exec) (hb : c.code = cc) {off : Int} {tgt : Nat} (hdg : decode cc pc = .ok (.if_icmp .lt off, 3)) (ht : (pc : Int) + off = (tgt : Int)) (ha : a < 2 ^ 31) (hb' : b < 2 ^ 31)
    (kt : a < b → W p l e R s m args below meth c H locs cells slots Q (F0 m tgt ls rest)) (kf : b ≤ a → W p l e R s m args below meth c H locs cells slots Q (F0 m (pc + 3) ls rest)) : W p l e R s m args below meth c H locs cells slots Q (F0 m pc ls (.int (nI b) :: .int (nI a) :: rest)) :=
  lv_icmp_lt hexec hb hdg ht (fun h => kt ((nI_ltI ha hb').mp h)) (fun h => kf (Nat.le_of_not_lt fun q => h ((nI_ltI ha hb').mpr q)))
theorem z_ile {a b : Nat} (hexec : p.tables.exec = Jvm.exec) (hb : c.code = cc) {off : Int} {tgt : Nat} (hdg : decode cc pc = .ok (.if_icmp .le off, 3)) (ht : (pc : Int) + off = (tgt : Int)) (ha : a < 2 ^ 31) (hb' : b < 2 ^ 31)
    (kt : a ≤ b → W p l e R s m args below meth c H locs cells slots Q (F0 m tgt ls rest)) (kf : b < a → W p l e R s m args below meth c H locs cells slots Q (F0 m (pc + 3) ls rest)) : W p l e R s m args below meth c H locs cells slots Q (F0 m pc ls (.int (nI b) :: .int (nI a) :: rest)) :=
  lv_icmp_le hexec hb hdg ht (fun h => kt ((nI_leI ha hb').mp h)) (fun h => kf (Nat.lt_of_not_le fun q => h ((nI_leI ha hb').mpr q)))
theorem z_ine {a b : Nat} (hexec : p.tables.exec = Jvm.exec) (hb : c.code = cc) {off : Int} {tgt : Nat} (hdg : decode cc pc = .ok (.if_icmp .ne off, 3)) (ht : (pc : Int) + off = (tgt : Int)) (ha : a < 2 ^ 31) (hb' : b < 2 ^ 31)
    (kt : a ≠ b → W p l e R s m args below meth c H locs cells slots Q (F0 m tgt ls rest)) (kf : a = b → W p l e R s m args below meth c H locs cells slots Q (F0 m (pc + 3) ls rest)) : W p l e R s m args below meth c H locs cells slots Q (F0 m pc ls (.int (nI b) :: .int (nI a) :: rest)) :=
  lv_icmp_ne hexec hb hdg ht (fun h => kt (fun q => h ((nI_eq ha hb').mpr q))) (fun h => kf ((nI_eq ha hb').mp h))
theorem z_ne0 {a : Nat} (hexec : p.tables.exec = Jvm.exec) (hb : c.code = cc) {off : Int} {tgt : Nat} (hdg : decode cc pc = .ok (.ifCond .ne off, 3)) (ht : (pc : Int) + off = (tgt : Int)) (ha : a < 2 ^ 31)
    (kt : a ≠ 0 → W p l e R s m args below meth c H locs cells slots Q (F0 m tgt ls rest)) (kf : a = 0 → W p l e R s m args below meth c H locs cells slots Q (F0 m (pc + 3) ls rest)) : W p l e R s m args below meth c H locs cells slots Q (F0 m pc ls (.int (nI a) :: rest)) :=
  lv_if_ne hexec hb hdg ht (fun h => kt (fun q => h (by rw [q]; rfl))) (fun h => kf ((nI_eq ha (by decide)).mp (h.trans nI_0.symm)))
theorem z_eq0 {a : Nat} (hexec : p.tables.exec = Jvm.exec) (hb : c.code = cc) {off : Int} {tgt : Nat} (hdg : decode cc pc = .ok (.ifCond .eq off, 3)) (ht : (pc : Int) + off = (tgt : Int)) (ha : a < 2 ^ 31)
    (kt : a = 0 → W p l e R s m args below meth c H locs cells slots Q (F0 m tgt ls rest)) (kf : a ≠ 0 → W p l e R s m args below meth c H locs cells slots Q (F0 m (pc + 3) ls rest)) : W p l e R s m args below meth c H locs cells slots Q (F0 m pc ls (.int (nI a) :: rest)) :=
  lv_if_eq hexec hb hdg ht (fun h => kt ((nI_eq ha (by decide)).mp (h.trans nI_0.symm))) (fun h => kf (fun q => h (by rw [q]; rfl)))
theorem z_le0 {a : Nat} (hexec : p.tables.exec = Jvm.exec) (hb : c.code = cc) {off : Int} {tgt : Nat} (hdg : decode cc pc = .ok (.ifCond .le off, 3)) (ht : (pc : Int) + off = (tgt : Int)) (ha : a < 2 ^ 31)
    (kt : a = 0 → W p l e R s m args below meth c H locs cells slots Q (F0 m tgt ls rest)) (kf : 0 < a → W p l e R s m args below meth c H locs cells slots Q (F0 m (pc + 3) ls rest)) : W p l e R s m args below meth c H locs cells slots Q (F0 m pc ls (.int (nI a) :: rest)) :=
  lv_if_le hexec hb hdg ht (fun h => kt (by
    rcases Nat.eq_zero_or_pos a with q | q
    · exact q
    · exact absurd h (nI_nle q ha))) (fun h => kf (by
    rcases Nat.eq_zero_or_pos a with q | q
    · exact absurd (by rw [q]; decide) h
    · exact q))
theorem z_lt0 {a : Nat} (hexec : p.tables.exec = Jvm.exec) (hb : c.code = cc) {off : Int} {tgt : Nat} (hdg : decode cc pc = .ok (.ifCond .lt off, 3)) (ht : (pc : Int) + off = (tgt : Int)) (ha : a < 2 ^ 31)
    (kf : W p l e R s m args below meth c H locs cells slots Q (F0 m (pc + 3) ls rest)) : W p l e R s m args below meth c H locs cells slots Q (F0 m pc ls (.int (nI a) :: rest)) :=
  lv_if_lt hexec hb hdg ht (fun h => absurd h (nI_pos ha)) (fun _ => kf)
-- branches on bits
theorem z_bne0 {b : Bool} (hexec : p.tables.exec = Jvm.exec) (hb : c.code = cc) {off : Int} {tgt : Nat} (hdg : decode cc pc = .ok (.ifCond .ne off, 3)) (ht : (pc : Int) + off = (tgt : Int))
    (kt : b = true → W p l e R s m args below meth c H locs cells slots Q (F0 m tgt ls rest)) (kf : b = false → W p l e R s m args below meth c H locs cells slots Q (F0 m (pc + 3) ls rest)) : W p l e R s m args below meth c H locs cells slots Q (F0 m pc ls (.int (nI b.toNat) :: rest)) := by
  cases b with
  | true => exact lv_if_ne hexec hb hdg ht (fun _ => kt rfl) (fun h => absurd h (by decide))
  | false => exact lv_if_ne hexec hb hdg ht (fun h => absurd (by decide) h) (fun _ => kf rfl)
theorem z_beq0 {b : Bool} (hexec : p.tables.exec = Jvm.exec) (hb : c.code = cc) {off : Int} {tgt : Nat} (hdg : decode cc pc = .ok (.ifCond .eq off, 3)) (ht : (pc : Int) + off = (tgt : Int))
    (kt : b = false → W p l e R s m args below meth c H locs cells slots Q (F0 m tgt ls rest)) (kf : b = true → W p l e R s m args below meth c H locs cells slots Q (F0 m (pc + 3) ls rest)) : W p l e R s m args below meth c H locs cells slots Q (F0 m pc ls (.int (nI b.toNat) :: rest)) := by
  cases b with
  | true => exact lv_if_eq hexec hb hdg ht (fun h => absurd h (by decide)) (fun _ => kf rfl)
  | false => exact lv_if_eq hexec hb hdg ht (fun _ => kt rfl) (fun h => absurd (by decide) h)
theorem z_bne1 {b : Bool} (hexec : p.tables.exec = Jvm.exec) (hb : c.code = cc) {off : Int} {tgt : Nat} (hdg : decode cc pc = .ok (.if_icmp .ne off, 3)) (ht : (pc : Int) + off = (tgt : Int))
    (kt : b = false → W p l e R s m args below meth c H locs cells slots Q (F0 m tgt ls rest)) (kf : b = true → W p l e R s m args below meth c H locs cells slots Q (F0 m (pc + 3) ls rest)) : W p l e R s m args below meth c H locs cells slots Q (F0 m pc ls (.int (nI 1) :: .int (nI b.toNat) :: rest)) := by
  cases b with
  | true => exact lv_icmp_ne hexec hb hdg ht (fun h => absurd rfl h) (fun _ => kf rfl)
  | false => exact lv_icmp_ne hexec hb hdg ht (fun _ => kt rfl) (fun h => absurd h (by decide))
theorem zbb {a b : Bool} : nI a.toNat = nI b.toNat ↔ a = b := by cases a <;> cases b <;> decide
theorem z_bne {a b : Bool} (hexec : p.tables.exec = Jvm.exec) (hb : c.code = cc) {off : Int} {tgt : Nat} (hdg : decode cc pc = .ok (.if_icmp .ne off, 3)) (ht : (pc : Int) + off = (tgt : Int))
    (kt : a ≠ b → W p l e R s m args below meth c H locs cells slots Q (F0 m tgt ls rest)) (kf : a = b → W p l e R s m args below meth c H locs cells slots Q (F0 m (pc + 3) ls rest)) : W p l e R s m args below meth c H locs cells slots Q (F0 m pc ls (.int (nI b.toNat) :: .int (nI a.toNat) :: rest)) :=
  lv_icmp_ne hexec hb hdg ht (fun h => kt (fun q => h (zbb.mpr q))) (fun h => kf (zbb.mp h))
end ZH
-- numbers
theorem z_inc (a : Nat) : nI a + Int32.ofInt 1 = nI (a + 1) := nI_1 a
theorem z_and (a : Nat) (h : a < 2 ^ 32) (k : Nat) (m r : Nat) (hm : (nI m).toBitVec.toNat = 2 ^ k - 1) (hr : a % 2 ^ k = r) : nI a &&& nI m = nI r := by
  rw [pk_andN h k hm, hr]
theorem z_andX (x : Int32) (k : Nat) (m : Int32) (r : Nat) (hm : m.toBitVec.toNat = 2 ^ k - 1) (hr : x.toBitVec.toNat % 2 ^ k = r) : x &&& m = nI r := by
  rw [pk_and x k hm, hr]
/-- the low bits of an int -/
def lo31 (x : Int32) : Nat := x.toBitVec.toNat % 2147483648
def lo8 (x : Int32) : Nat := x.toBitVec.toNat % 256
def lo3 (x : Int32) : Nat := x.toBitVec.toNat % 8
def lo2 (x : Int32) : Nat := x.toBitVec.toNat % 4
def lo1 (x : Int32) : Bool := decide (x.toBitVec.toNat % 2 = 1)
theorem lo31_lt (x : Int32) : lo31 x < 2 ^ 31 := Nat.mod_lt _ (by decide)
theorem lo8_lt (x : Int32) : lo8 x < 256 := Nat.mod_lt _ (by decide)
theorem lo3_lt (x : Int32) : lo3 x < 8 := Nat.mod_lt _ (by decide)
theorem lo2_lt (x : Int32) : lo2 x < 4 := Nat.mod_lt _ (by decide)
theorem lo1_toNat (x : Int32) : (lo1 x).toNat = x.toBitVec.toNat % 2 := by
  unfold lo1
  by_cases h : x.toBitVec.toNat % 2 = 1
  · rw [h]; rfl
  · rw [show decide (x.toBitVec.toNat % 2 = 1) = false from decide_eq_false h]
    show 0 = _
    omega
theorem an31 (x : Int32) : x &&& (2147483647 : Int32) = nI (lo31 x) := z_andX x 31 _ _ (by decide) rfl
theorem an8 (x : Int32) : x &&& nI 255 = nI (lo8 x) := z_andX x 8 _ _ (by decide) rfl
theorem an3 (x : Int32) : x &&& nI 7 = nI (lo3 x) := z_andX x 3 _ _ (by decide) rfl
theorem an2 (x : Int32) : x &&& nI 3 = nI (lo2 x) := z_andX x 2 _ _ (by decide) rfl
theorem an1 (x : Int32) : x &&& nI 1 = nI (lo1 x).toNat := z_andX x 1 _ _ (by decide) (by rw [lo1_toNat])
theorem anN1 (a : Nat) (h : a < 2 ^ 31) : nI a &&& nI 1 = nI (a % 2) := z_and a (by omega) 1 1 _ (by decide) rfl
theorem anN3 (a : Nat) (h : a < 2 ^ 31) : nI a &&& nI 7 = nI (a % 8) := z_and a (by omega) 3 7 _ (by decide) rfl
theorem z_b2i (v : Bool) : (nI v.toNat).toInt8.toInt32 = nI v.toNat := by cases v <;> rfl
theorem z_not (v : Bool) : nI 1 - nI v.toNat = nI (!v).toNat := by cases v <;> rfl
theorem z_xor (a b : Bool) : nI a.toNat ^^^ nI b.toNat = nI (a ^^ b).toNat := by cases a <;> cases b <;> rfl
theorem znb (v : Bool) : narrow .boolean (.int (nI v.toNat)) = .int (nI v.toNat) := by cases v <;> rfl
theorem zny (v : Bool) : narrow .byte (.int (nI v.toNat)) = .int (nI v.toNat) := by cases v <;> rfl
end
section
/-! CALLS: contracts of readers (the heap stays as it is) and of writers (only the cells of A change, no cell is made), their calls, their starts and ends -/
set_option maxRecDepth 100000
abbrev zrm (fr lo : Nat) : Room := { frames := fr, cells := 0, slots := 0, locals := lo }
def zR (R : Room) (fr lo cells slots : Nat) : Prop := fr ≤ R.frames ∧ lo ≤ R.locals ∧ cells ≤ R.cells ∧ slots ≤ R.slots
theorem zR.self {fr lo : Nat} : zR (zrm fr lo) fr lo 0 0 := ⟨Nat.le_refl _, Nat.le_refl _, Nat.le_refl _, Nat.le_refl _⟩
/-- what stands all through a method's run -/
def zC (p : Program) (m : MethodId) (c : Code) (cc : ByteArray) (nL : Nat) (s : State) (args : Array Value) (own : String) (D : va_G) (k : Nat → ClassId) : Prop := CallFix p m c cc nL s args lw_all own ∧ zK D k s
def zPc (D : va_G) (k : Nat → ClassId) (av : List Value) (F : Heap → Prop) : Array Value → State → Prop := fun a U => a = av.toArray ∧ zK D k U ∧ F U.heap
theorem zPc_blind {D : va_G} {k : Nat → ClassId} {av : List Value} {F : Heap → Prop} : FrameBlind (zPc D k av F) := fun a U g mk h => ⟨h.1, va_K.moved (u := U) (U := U.calling g mk a) (Vm.Alike.refl U.vm) h.2.1, h.2.2⟩
def zq (v : Option Value) : Array Value → State → Outcome → State → Prop := fun _ st o t => o = .returned v ∧ t.heap = st.heap
def zW (A : Nat → Prop) (F' : Heap → Prop) : Array Value → State → Outcome → State → Prop := fun _ st o t => o = .returned none ∧ F' t.heap ∧ t.heap.size = st.heap.size ∧ ∀ q : Nat, ¬ A q → t.heap[q]? = st.heap[q]?
def zRead (l : Launch) (y : MethodName) (b : ByteArray) (L : Nat) (r : Option FieldType) (fr lo : Nat) (D : va_G) (k : Nat → ClassId) (av : List Value) (F : Heap → Prop) (v : Option Value) : Prop :=
  Met l y (ws_ y b L r) (zrm fr lo) (zPc D k av F) (zq v) 0 0 (fun _ => False)
def zWrite (l : Launch) (y : MethodName) (b : ByteArray) (L : Nat) (fr lo : Nat) (D : va_G) (k : Nat → ClassId) (av : List Value) (F : Heap → Prop) (A : Nat → Prop) (F' : Heap → Prop) : Prop :=
  Met l y (ws_ y b L none) (zrm fr lo) (zPc D k av F) (zW A F') 0 0 A
theorem zRead.of {l : Launch} {y : MethodName} {b : ByteArray} {L : Nat} {r : Option FieldType} {fr lo : Nat} {D : va_G} {k : Nat → ClassId} {av : List Value} {F : Heap → Prop} {v : Option Value} (hy : plainName y.cls = true) (hlen : (lg_sl av).length ≤ L)
    (body : ∀ (p : Program) (e : Env) (s : State) (m : MethodId) (below : List Frame) (meth : Method) (c : Code) (ls : Array Slot), zC p m c b L s av.toArray y.cls D k → zR (zrm fr lo) fr lo 0 0 → meth.sig.returnType = r → meth.locks = false → F s.heap → lv_has ls L (lv_args 0 av) → W p l e (zrm fr lo) s m av.toArray below meth c s.heap [] 0 0 (MQ below (zq v) av.toArray s 0 0 (fun _ => False)) (F0 m 0 ls [])) : zRead l y b L r fr lo D k av F v := by
  refine Met.ofW (cc := b) (maxL := L) (ret := r) hy rfl ?_
  intro p e s m args below meth c s₁ B hml hv
  obtain ⟨rfl, hK, hF⟩ := hv
  have hts := atoms_spec (ws := ws_ y b L r) B.pre
  have hl := lv_entry av (n := L) hlen
  rw [lg_entry_eq]
  exact body p e s m below meth c _ ⟨⟨B.exec, B.bytes, hml, findClass_of_methodNamed B.named, fun w h => hts w (List.mem_cons_of_mem _ h)⟩, hK⟩ zR.self B.returns B.notSynchronized hF hl
theorem zWrite.of {l : Launch} {y : MethodName} {b : ByteArray} {L : Nat} {fr lo : Nat} {D : va_G} {k : Nat → ClassId} {av : List Value} {F : Heap → Prop} {A : Nat → Prop} {F' : Heap → Prop} (hy : plainName y.cls = true) (hlen : (lg_sl av).length ≤ L)
    (body : ∀ (p : Program) (e : Env) (s : State) (m : MethodId) (below : List Frame) (meth : Method) (c : Code) (ls : Array Slot), zC p m c b L s av.toArray y.cls D k → zR (zrm fr lo) fr lo 0 0 → meth.sig.returnType = none → meth.locks = false → F s.heap → lv_has ls L (lv_args 0 av) → W p l e (zrm fr lo) s m av.toArray below meth c s.heap [] 0 0 (MQ below (zW A F') av.toArray s 0 0 A) (F0 m 0 ls [])) : zWrite l y b L fr lo D k av F A F' := by
  refine Met.ofW (cc := b) (maxL := L) (ret := none) hy rfl ?_
  intro p e s m args below meth c s₁ B hml hv
  obtain ⟨rfl, hK, hF⟩ := hv
  have hts := atoms_spec (ws := ws_ y b L none) B.pre
  have hl := lv_entry av (n := L) hlen
  rw [lg_entry_eq]
  exact body p e s m below meth c _ ⟨⟨B.exec, B.bytes, hml, findClass_of_methodNamed B.named, fun w h => hts w (List.mem_cons_of_mem _ h)⟩, hK⟩ zR.self B.returns B.notSynchronized hF hl
section ZK
variable {p : Program} {l : Launch} {e : Env} {R : Room} {s : State} {m : MethodId} {args : Array Value} {below : List Frame} {meth : Method} {c : Code} {H : Heap} {locs : List Loc} {cells slots : Nat} {Q : State → Prop}
variable {cc : ByteArray} {pc : Nat} {ls : Array Slot} {rest st : List Value}
theorem zri (hexec : p.tables.exec = Jvm.exec) (hb : c.code = cc) (hr : meth.sig.returnType = some .int) (hlocks : meth.locks = false) {v : Int32} (hdg : decode cc pc = .ok (.ireturn, 1)) : W p l e R s m args below meth c s.heap [] 0 0 (MQ below (zq (some (.int v))) args s 0 0 (fun _ => False)) (F0 m pc ls [.int v]) :=
  W.iret hexec hb hr (fun t ht _ => ⟨rfl, ht⟩) (fun q h => by cases h) hdg hlocks
theorem zrn {ty : FieldType} (hexec : p.tables.exec = Jvm.exec) (hb : c.code = cc) (hr : meth.sig.returnType = some ty) (hlocks : meth.locks = false) {v : Int32} (hn : narrow ty (.int v) = .int v) (hdg : decode cc pc = .ok (.ireturn, 1)) : W p l e R s m args below meth c s.heap [] 0 0 (MQ below (zq (some (.int v))) args s 0 0 (fun _ => False)) (F0 m pc ls [.int v]) :=
  W.zret hexec hb hr hn (fun t ht _ => ⟨rfl, ht⟩) (fun q h => by cases h) hdg hlocks
theorem zra {ty : FieldType} (hexec : p.tables.exec = Jvm.exec) (hb : c.code = cc) (hr : meth.sig.returnType = some (.array ty)) (hlocks : meth.locks = false) {v : Nat} (hdg : decode cc pc = .ok (.areturn, 1)) : W p l e R s m args below meth c s.heap [] 0 0 (MQ below (zq (some (.ref v))) args s 0 0 (fun _ => False)) (F0 m pc ls [.ref v]) :=
  W.aret hexec hb hr (Or.inr ⟨_, rfl⟩) (Or.inr ⟨_, rfl⟩) (fun t ht _ => ⟨rfl, ht⟩) (fun q h => by cases h) hdg hlocks
theorem zrv {A : Nat → Prop} {F' : Heap → Prop} (hexec : p.tables.exec = Jvm.exec) (hb : c.code = cc) (hr : meth.sig.returnType = none) (hlocks : meth.locks = false) (hF : F' H) (hz : H.size = s.heap.size) (ho : ∀ q : Nat, ¬ A q → H[q]? = s.heap[q]?) (hL : ∀ q ∈ locs, A q.base) (hdg : decode cc pc = .ok (.return_, 1)) : W p l e R s m args below meth c H locs 0 0 (MQ below (zW A F') args s 0 0 A) (F0 m pc ls []) :=
  W.vret hexec hb hr (fun t ht _ => ⟨rfl, by rw [ht]; exact hF, by rw [ht]; exact hz, fun q hq => by rw [ht]; exact ho q hq⟩) hL hdg hlocks
theorem zcall {v : Option Value} {a : Array Value} {g : JFrame} (hr : CallRun p l e R s m args below meth c H locs cells slots 0 0 g rest (zq v a) (fun _ => False)) (kk : W p l e R s m args below meth c H locs cells slots Q { g with pc := g.pc + 3, stack := v.toList ++ rest }) : W p l e R s m args below meth c H locs cells slots Q g := by
  intro T hT X
  obtain ⟨v', st₀, t, T', L, h0, X', hL, e1, ⟨hv, hh⟩, stp⟩ := hr T hT X
  cases hv
  obtain ⟨t2, a1, b1⟩ := kk T' (by rw [e1, hh, h0]) (Stand.forget X' (fun q h => (hL q h).elim))
  exact ⟨t2, stp t2 a1, b1⟩
theorem zcallS {y : MethodName} {bytes : ByteArray} {maxL fr lo n index nL fr0 lo0 : Nat} {ret : Option FieldType} {D : va_G} {k : Nat → ClassId} {av : List Value} {F : Heap → Prop} {v : Option Value} {own : String}
    (C : zC p m c cc nL s args own D k) (hM : zRead l y bytes maxL ret fr lo D k av F v) (h1 : Cond.methodLink own index y ∈ lw_all) (h2 : Cond.static y ∈ lw_all) (h3 : Cond.initialized y.cls ∈ lw_all) (h4 : Cond.code y bytes maxL ret ∈ lw_all)
    (hd : y.cls ≠ "java/lang/invoke/MethodHandle" ∧ y.cls ≠ "java/lang/invoke/VarHandle" ∧ (parseMethodDescriptor y.desc).map (fun d => d.parameters.length) = some n) (hR : zR R fr0 lo0 cells slots) (hfl : fr + 1 ≤ fr0 ∧ 8 + (maxL + 11) + lo ≤ lo0)
    (hn : av.length = n) (hsz : ls.size = nL) (hst : st = av.reverse ++ rest) (hroom : (rest.map fun v => v.category).sum ≤ 8) (hF : F H) (hdg : decode cc pc = .ok (.invokestatic index, 3))
    (kk : W p l e R s m args below meth c H locs cells slots Q (F0 m (pc + 3) ls (v.toList ++ rest))) : W p l e R s m args below meth c H locs cells slots Q (F0 m pc ls st) := by
  obtain ⟨CF, hK⟩ := C
  obtain ⟨r1, r2, r3, r4⟩ := hR
  exact zcall (W.runS (Ts := lw_all) (g := F0 m pc ls st) CF hM (va_cwS n CF.2.2.2.2 (lw_S h1 h2 h3 h4) rfl rfl rfl hd ⟨Nat.le_trans hfl.1 r1, Nat.le_trans hfl.2 r2⟩) ⟨zPc_blind, fun U hU hW => ⟨rfl, va_K.moved hW.alike hK, by rw [hU]; exact hF⟩⟩ rfl hn hsz hst (lv_room hroom) hdg ⟨r3, r4⟩) kk
theorem zcallV {y : MethodName} {bytes : ByteArray} {maxL fr lo n index nL fr0 lo0 : Nat} {ret : Option FieldType} {D : va_G} {k : Nat → ClassId} {b : Nat} {av : List Value} {F : Heap → Prop} {v : Option Value} {own : String}
    (C : zC p m c cc nL s args own D k) (hM : zRead l y bytes maxL ret fr lo D k (.ref b :: av) F v) (h1 : Cond.methodLink own index y ∈ lw_all) (h2 : Cond.instanceMethod y ∈ lw_all) (h5 : Cond.selects y.cls y y ∈ lw_all) (h3 : Cond.initialized y.cls ∈ lw_all) (h4 : Cond.code y bytes maxL ret ∈ lw_all)
    (hd : y.cls = y.cls ∧ y.cls ≠ "java/lang/invoke/MethodHandle" ∧ y.cls ≠ "java/lang/invoke/VarHandle" ∧ (parseMethodDescriptor y.desc).map (fun d => d.parameters.length) = some n) (hR : zR R fr0 lo0 cells slots) (hfl : fr + 1 ≤ fr0 ∧ 8 + (maxL + 11) + lo ≤ lo0)
    (hn : av.length = n) (hsz : ls.size = nL) (hst : st = av.reverse ++ .ref b :: rest) (hroom : (rest.map fun v => v.category).sum ≤ 8) (hrc : ∃ cell : Cell, H[b]? = some cell ∧ cell.vm.isStatics = false ∧ s.vm.findClass y.cls = some cell.cls) (hF : F H) (hdg : decode cc pc = .ok (.invokevirtual index, 3))
    (kk : W p l e R s m args below meth c H locs cells slots Q (F0 m (pc + 3) ls (v.toList ++ rest))) : W p l e R s m args below meth c H locs cells slots Q (F0 m pc ls st) := by
  obtain ⟨CF, hK⟩ := C
  obtain ⟨r1, r2, r3, r4⟩ := hR
  exact zcall (W.runV (Ts := lw_all) (g := F0 m pc ls st) (C := y.cls) CF hM (cwV n CF.2.2.2.2 (lw_V h1 h2 h5 h3 h4) rfl rfl rfl hd ⟨Nat.le_trans hfl.1 r1, Nat.le_trans hfl.2 r2⟩) ⟨zPc_blind, hrc, fun U hU hW => ⟨rfl, va_K.moved hW.alike hK, by rw [hU]; exact hF⟩⟩ rfl hn hsz hst (lv_room hroom) hdg ⟨r3, r4⟩) kk
theorem zcallVw {y : MethodName} {bytes : ByteArray} {maxL fr lo n index nL fr0 lo0 : Nat} {D : va_G} {k : Nat → ClassId} {b : Nat} {av : List Value} {F : Heap → Prop} {A : Nat → Prop} {F' : Heap → Prop} {own : String}
    (C : zC p m c cc nL s args own D k) (hM : zWrite l y bytes maxL fr lo D k (.ref b :: av) F A F') (h1 : Cond.methodLink own index y ∈ lw_all) (h2 : Cond.instanceMethod y ∈ lw_all) (h5 : Cond.selects y.cls y y ∈ lw_all) (h3 : Cond.initialized y.cls ∈ lw_all) (h4 : Cond.code y bytes maxL none ∈ lw_all)
    (hd : y.cls = y.cls ∧ y.cls ≠ "java/lang/invoke/MethodHandle" ∧ y.cls ≠ "java/lang/invoke/VarHandle" ∧ (parseMethodDescriptor y.desc).map (fun d => d.parameters.length) = some n) (hR : zR R fr0 lo0 cells slots) (hfl : fr + 1 ≤ fr0 ∧ 8 + (maxL + 11) + lo ≤ lo0)
    (hn : av.length = n) (hsz : ls.size = nL) (hst : st = av.reverse ++ .ref b :: rest) (hroom : (rest.map fun v => v.category).sum ≤ 8) (hrc : ∃ cell : Cell, H[b]? = some cell ∧ cell.vm.isStatics = false ∧ s.vm.findClass y.cls = some cell.cls) (hF : F H) (hdg : decode cc pc = .ok (.invokevirtual index, 3))
    (kk : ∀ (H1 : Heap) (locs1 : List Loc), F' H1 → H1.size = H.size → (∀ q : Nat, ¬ A q → H1[q]? = H[q]?) → (∀ q ∈ locs1, q ∈ locs ∨ A q.base) → W p l e R s m args below meth c H1 locs1 cells slots Q (F0 m (pc + 3) ls rest)) : W p l e R s m args below meth c H locs cells slots Q (F0 m pc ls st) := by
  obtain ⟨CF, hK⟩ := C
  obtain ⟨r1, r2, r3, r4⟩ := hR
  have hr := W.runV (Ts := lw_all) (H := H) (locs := locs) (cells := cells) (slots := slots) (g := F0 m pc ls st) (C := y.cls) (R := R) (e := e) (below := below) (meth := meth) CF hM (cwV n CF.2.2.2.2 (lw_V h1 h2 h5 h3 h4) rfl rfl rfl hd ⟨Nat.le_trans hfl.1 r1, Nat.le_trans hfl.2 r2⟩) ⟨zPc_blind, hrc, fun U hU hW => ⟨rfl, va_K.moved hW.alike hK, by rw [hU]; exact hF⟩⟩ rfl hn hsz hst (lv_room hroom) hdg ⟨r3, r4⟩
  intro T hT X
  obtain ⟨v', st₀, t, T', L, h0, X', hL, e1, ⟨hv, hF1, hz, ho⟩, stp⟩ := hr T hT X
  cases hv
  rw [h0] at hz ho
  obtain ⟨t2, a1, b1⟩ := kk t.heap (locs ++ L) hF1 hz ho (fun q hq => (List.mem_append.mp hq).imp_right (hL q)) T' e1 X'
  exact ⟨t2, stp t2 a1, b1⟩
end ZK
end
section
/-! PURE: sums, runs, squares, finders, share, masks: what the class counts is what the law counts. B x y: is the place (x, y) dark -/
def zs (f : Nat → Nat) : Nat → Nat
  | 0 => 0
  | n + 1 => zs f n + f n
theorem zs_congr {f g : Nat → Nat} : ∀ {n : Nat}, (∀ i, i < n → f i = g i) → zs f n = zs g n
  | 0, _ => rfl
  | n + 1, h => by
    show zs f n + f n = zs g n + g n
    rw [zs_congr (n := n) (fun i hi => h i (by omega)), h n (by omega)]
theorem zs_add (f g : Nat → Nat) : ∀ n : Nat, zs (fun i => f i + g i) n = zs f n + zs g n
  | 0 => rfl
  | n + 1 => by
    show zs (fun i => f i + g i) n + (f n + g n) = zs f n + f n + (zs g n + g n)
    rw [zs_add f g n]
    omega
theorem zs_zero : ∀ n : Nat, zs (fun _ => 0) n = 0
  | 0 => rfl
  | n + 1 => by
    show zs (fun _ => 0) n + 0 = 0
    rw [zs_zero n]
theorem zs_swap (f : Nat → Nat → Nat) (n : Nat) : ∀ k : Nat, zs (fun i => zs (fun j => f i j) n) k = zs (fun j => zs (fun i => f i j) k) n
  | 0 => by
    show 0 = zs (fun _ => 0) n
    rw [zs_zero]
  | k + 1 => by
    show zs (fun i => zs (fun j => f i j) n) k + zs (fun j => f k j) n = zs (fun j => zs (fun i => f i j) k + f k j) n
    rw [zs_swap f n k, zs_add]
theorem zs_mul (c : Nat) (f : Nat → Nat) : ∀ n : Nat, zs (fun i => c * f i) n = c * zs f n
  | 0 => rfl
  | n + 1 => by
    show zs (fun i => c * f i) n + c * f n = c * (zs f n + f n)
    rw [zs_mul c f n, Nat.mul_add]
theorem zs_split (f : Nat → Nat) (n : Nat) : ∀ k : Nat, zs f (n + k) = zs f n + zs (fun i => f (n + i)) k
  | 0 => rfl
  | k + 1 => by
    show zs f (n + k) + f (n + k) = zs f n + (zs (fun i => f (n + i)) k + f (n + k))
    rw [zs_split f n k]
    omega
theorem zs_tail {f : Nat → Nat} {n k : Nat} (h : ∀ i, n ≤ i → f i = 0) : zs f (n + k) = zs f n := by
  rw [zs_split, zs_congr (g := fun _ => 0) (fun i _ => h (n + i) (by omega)), zs_zero]
  rfl
theorem zs_le {f : Nat → Nat} {b : Nat} : ∀ {n : Nat}, (∀ i, i < n → f i ≤ b) → zs f n ≤ n * b
  | 0, _ => by show 0 ≤ 0 * b; omega
  | n + 1, h => by
    show zs f n + f n ≤ (n + 1) * b
    have h1 := zs_le (n := n) (fun i hi => h i (by omega))
    have h2 := h n (by omega)
    rw [Nat.succ_mul]
    omega
theorem zs_mono {f g : Nat → Nat} : ∀ {n : Nat}, (∀ i, i < n → f i ≤ g i) → zs f n ≤ zs g n
  | 0, _ => Nat.le_refl 0
  | n + 1, h => by
    show zs f n + f n ≤ zs g n + g n
    have h1 := zs_mono (n := n) (fun i hi => h i (by omega))
    have h2 := h n (by omega)
    omega
theorem zs_grid (f : Nat → Nat → Nat) (w : Nat) (hw : 0 < w) : ∀ n : Nat, zs (fun k => f (k / w) (k % w)) (n * w) = zs (fun i => zs (fun j => f i j) w) n
  | 0 => by rw [Nat.zero_mul]; rfl
  | n + 1 => by
    rw [Nat.succ_mul, zs_split, zs_grid f w hw n]
    show _ = zs (fun i => zs (fun j => f i j) w) n + zs (fun j => f n j) w
    congr 1
    refine zs_congr fun i hi => ?_
    rw [show (n * w + i) / w = n by rw [Nat.mul_comm, Nat.mul_add_div hw, Nat.div_eq_of_lt hi]; rfl, show (n * w + i) % w = i by rw [Nat.mul_comm, Nat.mul_add_mod, Nat.mod_eq_of_lt hi]]
-- runs
def zl (f : Nat → Bool) : Nat → Nat
  | 0 => 0
  | k + 1 => if k ≠ 0 ∧ f k = f (k - 1) then zl f k + 1 else 1
def zd (n : Nat) : Nat := if n = 5 then 3 else if 5 < n then 1 else 0
def zr (f : Nat → Bool) : Nat → Nat
  | 0 => 0
  | k + 1 => zr f k + zd (zl f (k + 1))
def zp (n : Nat) : Nat := if 5 ≤ n then 3 + (n - 5) else 0
theorem zp_step (n : Nat) : zp (n + 1) = zp n + zd (n + 1) := by
  unfold zp zd
  by_cases h1 : 5 ≤ n
  · rw [if_pos h1, if_pos (by omega : 5 ≤ n + 1), if_neg (by omega : ¬ n + 1 = 5), if_pos (by omega : 5 < n + 1)]
    omega
  · by_cases h2 : n = 4
    · subst h2
      rfl
    · rw [if_neg h1, if_neg (by omega : ¬ 5 ≤ n + 1), if_neg (by omega : ¬ n + 1 = 5), if_neg (by omega : ¬ 5 < n + 1)]
theorem zl_go {f : Nat → Bool} {k : Nat} (h : k ≠ 0 ∧ f k = f (k - 1)) : zl f (k + 1) = zl f k + 1 := by
  show (if k ≠ 0 ∧ f k = f (k - 1) then zl f k + 1 else 1) = _
  rw [if_pos h]
theorem zl_no {f : Nat → Bool} {k : Nat} (h : ¬ (k ≠ 0 ∧ f k = f (k - 1))) : zl f (k + 1) = 1 := by
  show (if k ≠ 0 ∧ f k = f (k - 1) then zl f k + 1 else 1) = _
  rw [if_neg h]
theorem zl_le (f : Nat → Bool) : ∀ k : Nat, zl f k ≤ k
  | 0 => Nat.le_refl 0
  | k + 1 => by
    have h1 := zl_le f k
    by_cases h : k ≠ 0 ∧ f k = f (k - 1)
    · rw [zl_go h]; omega
    · rw [zl_no h]; omega
theorem zd_le (n : Nat) : zd n ≤ 3 := by
  unfold zd
  split
  · omega
  · split <;> omega
theorem zr_le (f : Nat → Bool) : ∀ k : Nat, zr f k ≤ 3 * k
  | 0 => Nat.le_refl 0
  | k + 1 => by
    have h1 := zr_le f k
    have h2 := zd_le (zl f (k + 1))
    show zr f k + zd (zl f (k + 1)) ≤ _
    omega
/-- the bit before the place j; -1 ahead of all -/
def zpb (f : Nat → Bool) (j : Nat) : Int32 := if j = 0 then -1 else nI (f (j - 1)).toNat
theorem zpb_iff (f : Nat → Bool) (j : Nat) : nI (f j).toNat = zpb f j ↔ (j ≠ 0 ∧ f j = f (j - 1)) := by
  unfold zpb
  by_cases h : j = 0
  · rw [if_pos h]
    constructor
    · intro q
      exfalso
      revert q
      cases f j <;> decide
    · intro q
      exact absurd h q.1
  · rw [if_neg h]
    exact zbb.trans ⟨fun q => ⟨h, q⟩, fun q => q.2⟩
theorem zpb_succ (f : Nat → Bool) (j : Nat) : zpb f (j + 1) = nI (f j).toNat := by
  unfold zpb
  rw [if_neg (by omega)]
  rfl
theorem zpb_0 (f : Nat → Bool) : zpb f 0 = -1 := rfl
/-- the class's row of runs, a place further -/
theorem zrow_go {f : Nat → Bool} {j P b : Nat} (h : P + zp (zl f j) = b + zr f j) (q : j ≠ 0 ∧ f j = f (j - 1)) : P + zp (zl f (j + 1)) = b + zr f (j + 1) := by
  show _ = b + (zr f j + zd (zl f (j + 1)))
  rw [zl_go q, zp_step]
  omega
theorem zrow_no {f : Nat → Bool} {j P P' b : Nat} (h : P + zp (zl f j) = b + zr f j) (q : ¬ (j ≠ 0 ∧ f j = f (j - 1))) (e : P' = P + zp (zl f j)) : P' + zp (zl f (j + 1)) = b + zr f (j + 1) := by
  show _ = b + (zr f j + zd (zl f (j + 1)))
  rw [zl_no q, show zp 1 = 0 from rfl, show zd 1 = 0 from rfl]
  omega
/-- a line of the sheet: a row where r, a column else -/
def zat (B : Nat → Nat → Bool) (r : Bool) (line k : Nat) : Bool := if r then B k line else B line k
def zr1 (B : Nat → Nat → Bool) (r : Bool) : Nat := zs (fun i => zr (zat B r i) 21) 21
def zr1L (B : Nat → Nat → Bool) : Nat := zs (fun i => zr (zat B (decide (i < 21)) (i % 21)) 21) 42
theorem zlines (F : (Nat → Bool) → Nat) (B : Nat → Nat → Bool) : zs (fun i => F (zat B (decide (i < 21)) (i % 21))) 42 = zs (fun i => F (zat B true i)) 21 + zs (fun i => F (zat B false i)) 21 := by
  have e1 : zs (fun i => F (zat B (decide (i < 21)) (i % 21))) 21 = zs (fun i => F (zat B true i)) 21 := zs_congr fun i hi => by
    rw [decide_eq_true hi, Nat.mod_eq_of_lt hi]
  have e2 : zs (fun i => F (zat B (decide (21 + i < 21)) ((21 + i) % 21))) 21 = zs (fun i => F (zat B false i)) 21 := zs_congr fun i hi => by
    rw [decide_eq_false (by omega : ¬ 21 + i < 21), show (21 + i) % 21 = i by omega]
  rw [show (42 : Nat) = 21 + 21 from rfl, zs_split, e1, e2]
theorem zlaw1 (B : Nat → Nat → Bool) : zr1 B true + zr1 B false = zr1L B := (zlines (fun f => zr f 21) B).symm
-- squares
def zsq (B : Nat → Nat → Bool) (x y : Nat) : Bool := decide (B x y = B (x + 1) y ∧ B x y = B x (y + 1) ∧ B x y = B (x + 1) (y + 1))
def zr2 (B : Nat → Nat → Bool) : Nat := zs (fun y => zs (fun x => (zsq B x y).toNat) 20) 20
def zf4 (B : Nat → Nat → Bool) (x y : Nat) : Nat := (B x y).toNat + (B (x + 1) y).toNat + (B x (y + 1)).toNat + (B (x + 1) (y + 1)).toNat
def zt3 (n : Nat) : Nat := if n % 4 = 0 then 3 else 0
def zr2L (B : Nat → Nat → Bool) : Nat := zs (fun x => zs (fun y => zt3 (zf4 B x y)) 20) 20
theorem zf4_le (B : Nat → Nat → Bool) (x y : Nat) : zf4 B x y ≤ 4 := by
  unfold zf4
  have h1 := zb1 (B x y)
  have h2 := zb1 (B (x + 1) y)
  have h3 := zb1 (B x (y + 1))
  have h4 := zb1 (B (x + 1) (y + 1))
  omega
theorem zsq4 (B : Nat → Nat → Bool) (x y : Nat) : 3 * (zsq B x y).toNat = zt3 (zf4 B x y) := by
  unfold zsq zf4
  cases B x y <;> cases B (x + 1) y <;> cases B x (y + 1) <;> cases B (x + 1) (y + 1) <;> rfl
theorem zlaw2 (B : Nat → Nat → Bool) : 3 * zr2 B = zr2L B := by
  unfold zr2 zr2L
  rw [zs_swap, ← zs_mul]
  refine zs_congr fun x _ => ?_
  rw [← zs_mul]
  exact zs_congr fun y _ => zsq4 B x y
-- finder-like patterns
def zpat (f : Nat → Bool) (a : Nat) : Bool := f a && (!f (a + 1) && (f (a + 2) && (f (a + 3) && (f (a + 4) && (!f (a + 5) && f (a + 6))))))
def zw4 (f : Nat → Bool) (a : Nat) : Bool := decide (a + 4 ≤ 21) && (!f a && (!f (a + 1) && (!f (a + 2) && !f (a + 3))))
def zside (f : Nat → Bool) (a : Nat) : Bool := (decide (4 ≤ a) && zw4 f (a - 4)) || zw4 f (a + 7)
def zh (f : Nat → Bool) (a : Nat) : Bool := decide (a + 6 < 21) && (zpat f a && zside f a)
def zr3 (B : Nat → Nat → Bool) : Nat := zs (fun y => zs (fun x => (zh (zat B true y) x).toNat + (zh (zat B false x) y).toNat) 21) 21
def zlike (k : Nat) : Bool := !(decide (k = 1) || decide (k = 5))
def zm (f : Nat → Bool) (a : Nat) : Nat → Bool
  | 0 => true
  | k + 1 => zm f a k && (f (a + k) == zlike k)
theorem zm7 (f : Nat → Bool) (a : Nat) : zm f a 7 = zpat f a := by
  unfold zpat
  simp only [zm, zlike]
  cases f a <;> cases f (a + 1) <;> cases f (a + 2) <;> cases f (a + 3) <;> cases f (a + 4) <;> cases f (a + 5) <;> cases f (a + 6) <;> simp_all
/-- is the place k of the line light; what lies beyond the sheet counts as bd -/
def zlt (f : Nat → Bool) (bd : Bool) (k : Int) : Bool := if k < 0 ∨ 21 ≤ k then bd else !f k.toNat
def zli (f : Nat → Bool) (bd : Bool) (k : Int) : Nat → Bool
  | 0 => true
  | n + 1 => zli f bd k n && zlt f bd (k + n)
def zfd (f : Nat → Bool) (bd : Bool) (a : Nat) : Bool := zm f a 7 && (zli f bd ((a : Int) - 4) 4 || zli f bd ((a : Int) + 7) 4)
def zcL (f : Nat → Bool) (bd : Bool) : Nat := zs (fun a => (zfd f bd a).toNat) 15
def zr3L (B : Nat → Nat → Bool) (bd : Bool) : Nat := zs (fun i => zcL (zat B (decide (i < 21)) (i % 21)) bd) 42
theorem zlt_in {f : Nat → Bool} {bd : Bool} {k : Int} {n : Nat} (e : k = n) (h : n < 21) : zlt f bd k = !f n := by
  subst e
  unfold zlt
  rw [if_neg (by omega)]
  rfl
theorem zlt_lo {f : Nat → Bool} {bd : Bool} {k : Int} (h : k < 0) : zlt f bd k = bd := by
  unfold zlt
  rw [if_pos (Or.inl h)]
theorem zlt_hi {f : Nat → Bool} {bd : Bool} {k : Int} (h : 21 ≤ k) : zlt f bd k = bd := by
  unfold zlt
  rw [if_pos (Or.inr h)]
theorem zli4 (f : Nat → Bool) (bd : Bool) (k : Int) : zli f bd k 4 = (zlt f bd k && (zlt f bd (k + 1) && (zlt f bd (k + 2) && zlt f bd (k + 3)))) := by
  simp [zli, Bool.and_assoc]
theorem zli_w4 {f : Nat → Bool} {k : Int} {n : Nat} (e : k = n) : zli f false k 4 = zw4 f n := by
  rw [zli4]
  unfold zw4
  by_cases h : n + 4 ≤ 21
  · rw [decide_eq_true h, zlt_in (n := n) e (by omega), zlt_in (n := n + 1) (by omega) (by omega), zlt_in (n := n + 2) (by omega) (by omega), zlt_in (n := n + 3) (by omega) (by omega)]
    rfl
  · rw [decide_eq_false h, zlt_hi (k := k + 3) (by omega)]
    simp
theorem zli_side {f : Nat → Bool} {a : Nat} : (zli f false ((a : Int) - 4) 4 || zli f false ((a : Int) + 7) 4) = zside f a := by
  unfold zside
  rw [zli_w4 (k := (a : Int) + 7) (n := a + 7) (by omega)]
  by_cases h : 4 ≤ a
  · rw [zli_w4 (k := (a : Int) - 4) (n := a - 4) (by omega), decide_eq_true h]
    rfl
  · rw [zli4, zlt_lo (k := (a : Int) - 4) (by omega), decide_eq_false h]
    simp
theorem zlt_mono {f : Nat → Bool} {k : Int} (h : zlt f false k = true) : zlt f true k = true := by
  unfold zlt at h ⊢
  by_cases q : k < 0 ∨ 21 ≤ k
  · rw [if_pos q]
  · rw [if_neg q] at h ⊢
    exact h
theorem zli_mono {f : Nat → Bool} {k : Int} : ∀ n : Nat, zli f false k n = true → zli f true k n = true
  | 0, _ => rfl
  | n + 1, h => by
    have h1 : (zli f false k n && zlt f false (k + n)) = true := h
    show (zli f true k n && zlt f true (k + n)) = true
    rw [Bool.and_eq_true] at h1 ⊢
    exact ⟨zli_mono n h1.1, zlt_mono h1.2⟩
theorem zfd_mono (f : Nat → Bool) (a : Nat) : (zfd f false a).toNat ≤ (zfd f true a).toNat := by
  cases h : zfd f false a with
  | false => exact Nat.zero_le _
  | true =>
    have h2 : zfd f true a = true := by
      unfold zfd at h ⊢
      rw [Bool.and_eq_true, Bool.or_eq_true] at h ⊢
      exact ⟨h.1, h.2.imp (zli_mono 4) (zli_mono 4)⟩
    rw [h2]
    exact Nat.le_refl _
theorem zr3_mono (B : Nat → Nat → Bool) : zr3L B false ≤ zr3L B true := zs_mono fun _ _ => zs_mono fun _ _ => zfd_mono _ _
theorem zh_fd (f : Nat → Bool) : zs (fun a => (zh f a).toNat) 21 = zcL f false := by
  rw [show (21 : Nat) = 15 + 6 from rfl, zs_tail]
  · refine zs_congr fun a ha => ?_
    unfold zh zfd
    rw [zm7, zli_side, decide_eq_true (by omega : a + 6 < 21)]
    rfl
  · intro a ha
    unfold zh
    rw [decide_eq_false (by omega : ¬ a + 6 < 21)]
    rfl
theorem zlaw3 (B : Nat → Nat → Bool) : zr3 B = zr3L B false := by
  unfold zr3 zr3L
  rw [zlines (fun f => zcL f false)]
  rw [zs_congr (fun y _ => zs_add (fun x => (zh (zat B true y) x).toNat) (fun x => (zh (zat B false x) y).toNat) 21), zs_add]
  have e1 : zs (fun y => zs (fun x => (zh (zat B true y) x).toNat) 21) 21 = zs (fun i => zcL (zat B true i) false) 21 := zs_congr fun y _ => zh_fd _
  have e2 : zs (fun y => zs (fun x => (zh (zat B false x) y).toNat) 21) 21 = zs (fun i => zcL (zat B false i) false) 21 := by
    rw [zs_swap (fun y x => (zh (zat B false x) y).toNat)]
    exact zs_congr fun x _ => zh_fd _
  rw [e1, e2]
theorem zr3_le (B : Nat → Nat → Bool) : zr3 B ≤ 21 * (21 * 2) := by
  unfold zr3
  refine zs_le fun y _ => zs_le fun x _ => ?_
  have h1 := zb1 (zh (zat B true y) x)
  have h2 := zb1 (zh (zat B false x) y)
  omega
theorem zr3L_le (B : Nat → Nat → Bool) (bd : Bool) : zr3L B bd ≤ 42 * (15 * 1) := by
  unfold zr3L zcL
  exact zs_le fun i _ => zs_le fun a _ => zb1 _
-- the share of dark places
def zdk (B : Nat → Nat → Bool) : Nat := zs (fun y => zs (fun x => (B x y).toNat) 21) 21
def zdkL (B : Nat → Nat → Bool) : Nat := zs (fun k => (B (k / 21) (k % 21)).toNat) 441
def zoff (d : Nat) : Nat := if 441 ≤ 2 * d then 2 * d - 441 else 441 - 2 * d
theorem zlaw4 (B : Nat → Nat → Bool) : zdk B = zdkL B := by
  unfold zdk zdkL
  rw [show (441 : Nat) = 21 * 21 from rfl, zs_grid (fun x y => (B x y).toNat) 21 (by decide) 21, zs_swap]
theorem zdk_le (B : Nat → Nat → Bool) : zdk B ≤ 21 * (21 * 1) := zs_le fun y _ => zs_le fun x _ => zb1 _
theorem zoff_le {d : Nat} (h : d ≤ 441) : zoff d ≤ 441 := by
  unfold zoff
  split <;> omega
-- masks
def zmk (k x y : Nat) : Nat := match k with
  | 0 => (x + y) % 2
  | 1 => y % 2
  | 2 => x % 3
  | 3 => (x + y) % 3
  | 4 => (y / 2 + x / 3) % 2
  | 5 => (x * y) % 2 + (x * y) % 3
  | 6 => ((x * y) % 2 + (x * y) % 3) % 2
  | _ => ((x + y) % 2 + (x * y) % 3) % 2
def zmb (k x y : Nat) : Bool := decide (zmk k x y = 0)
theorem zw4_t {f : Nat → Bool} {a : Nat} (h : a + 4 ≤ 21) (q : ∀ j, j < 4 → f (a + j) = false) : zw4 f a = true := by
  have q0 : f a = false := q 0 (by omega)
  have q1 := q 1 (by omega)
  have q2 := q 2 (by omega)
  have q3 := q 3 (by omega)
  simp [zw4, h, q0, q1, q2, q3]
theorem zw4_f {f : Nat → Bool} {a j : Nat} (hj : j < 4) (q : f (a + j) = true) : zw4 f a = false := by
  rcases (show j = 0 ∨ j = 1 ∨ j = 2 ∨ j = 3 by omega) with e | e | e | e
  · subst e
    have q : f a = true := q
    simp [zw4, q]
  · subst e; simp [zw4, q]
  · subst e; simp [zw4, q]
  · subst e; simp [zw4, q]
theorem zw4_o {f : Nat → Bool} {a : Nat} (h : 21 < a + 4) : zw4 f a = false := by
  unfold zw4
  rw [decide_eq_false (by omega : ¬ a + 4 ≤ 21)]
  rfl
theorem zwh (f : Nat → Bool) (x : Nat) (hx : x < 21) : (nI x - nI 4 < 0 ∧ (decide (4 ≤ x) && zw4 f (x - 4)) = false) ∨ ∃ a : Nat, nI x - nI 4 = nI a ∧ a ≤ 40 ∧ x = a + 4 ∧ (decide (4 ≤ x) && zw4 f (x - 4)) = zw4 f a := by
  by_cases h : 4 ≤ x
  · refine Or.inr ⟨x - 4, pk_sub h, by omega, by omega, ?_⟩
    rw [decide_eq_true h]
    rfl
  · refine Or.inl ⟨pk_sneg (by decide) (by omega), ?_⟩
    rw [decide_eq_false h]
    rfl
theorem zabs {d : Nat} (h : d ≤ 441) : (if 0 ≤ nI (d * 2) - nI 441 then nI (d * 2) - nI 441 else 0 - (nI (d * 2) - nI 441)) = nI (zoff d) := by
  by_cases q : 441 ≤ d * 2
  · rw [pk_sub q, if_pos (nI_pos' (by omega))]
    unfold zoff
    rw [if_pos (by omega), Nat.mul_comm]
  · have h1 : nI (d * 2) - nI 441 < 0 := pk_sneg (by decide) (by omega)
    have h2 : ¬ 0 ≤ nI (d * 2) - nI 441 := by
      rw [Int32.le_iff_toInt_le]
      rw [Int32.lt_iff_toInt_lt] at h1
      omega
    rw [if_neg h2]
    unfold zoff
    rw [if_neg (by omega), show 2 * d = d * 2 from Nat.mul_comm _ _, ← pk_sub (by omega : d * 2 ≤ 441)]
    grind
def zr4 (B : Nat → Nat → Bool) : Nat := zoff (zdk B) * 10 / 441 * 10
def zr4L (B : Nat → Nat → Bool) : Nat := zoff (zdkL B) * 10 / 441 * 10
theorem zlaw4' (B : Nat → Nat → Bool) : zr4 B = zr4L B := by
  unfold zr4 zr4L
  rw [zlaw4]
end
section
/-! ByteMatrix: its world, and the contracts of its methods -/
set_option maxRecDepth 100000
/-- a ByteMatrix at b, its rows' array at g, dark where B x y -/
def zM (D : va_G) (k : Nat → ClassId) (b g : Nat) (B : Nat → Nat → Bool) (H : Heap) : Prop :=
  va_P D vwCl [(b, .inr (1, [.ref g, .int (nI 21), .int (nI 21)]))] H ∧ zG (k 0) (k 1) g (fun y x => B x y) H ∧ b < g
/-- the cells that a write may change: the rows of the grid at g -/
def zA (g : Nat) (q : Nat) : Prop := g < q ∧ q ≤ g + 21
theorem zM.kept {D : va_G} {k : Nat → ClassId} {b g : Nat} {B : Nat → Nat → Bool} {H H1 : Heap} (h : zM D k b g B H) (h1 : H1[b]? = H[b]?) (h2 : ∀ q : Nat, g ≤ q → q ≤ g + 21 → H1[q]? = H[q]?) : zM D k b g B H1 := by
  obtain ⟨hP, hG, hlt⟩ := h
  refine ⟨hP.kept (fun n q hq => ?_), hG.kept h2, hlt⟩
  have hz : n < 1 := (List.getElem?_eq_some_iff.mp hq).1
  rw [show n = 0 by omega] at hq
  cases hq
  exact h1
theorem zM.congr {D : va_G} {k : Nat → ClassId} {b g : Nat} {B B' : Nat → Nat → Bool} {H : Heap} (h : zM D k b g B H) (e : ∀ x y : Nat, x < 21 → y < 21 → B x y = B' x y) : zM D k b g B' H := ⟨h.1, h.2.1.congr (fun i j hi hj => e j i hj hi), h.2.2⟩
theorem zM.recv {D : va_G} {k : Nat → ClassId} {b g : Nat} {B : Nat → Nat → Bool} {H : Heap} {s : State} (h : zM D k b g B H) (hK : zK D k s) : ∃ cell : Cell, H[b]? = some cell ∧ cell.vm.isStatics = false ∧ s.vm.findClass RX2 = some cell.cls := va_recv hK h.1 (ci := 1) (q0 := 0) rfl rfl
set_option maxHeartbeats 4000000 in
theorem mX2_getWidth (l : Launch) (D : va_G) (k : Nat → ClassId) (b g : Nat) (B : Nat → Nat → Bool) : zRead l yX2_getWidth cX2_getWidth 1 (some .int) 0 0 D k [.ref b] (zM D k b g B) (some (.int (nI 21))) := by
  refine zRead.of (by decide) (Nat.le_of_ble_eq_true rfl) ?_
  intro p e s m below meth c ls C hR hr hlk hF hl
  obtain ⟨hx, hb, hml, hown, hts⟩ := C.1
  have hown : s.vm.findClass RX2 = some m.cls := hown
  have hK := C.2
  obtain ⟨hP, hG, hlt⟩ := hF
  have hl : lv_has ls 1 [(0, .ref b)] := hl
  refine lv_aload_n hx hb dX2_getWidth_0 rfl (lv_at hl 0 rfl) ?_
  refine va_get (D := D) (ci := 1) (v := .int (nI 21)) (C := RX2) (T := TX2) (N := 3) hx hb hts in_X2 hown hK hP 0 rfl rfl 1 (by decide) (hts _ q27) (fun _ h9 => h9) rfl dX2_getWidth_1 ?_
  exact zri hx hb hr hlk dX2_getWidth_4
set_option maxHeartbeats 4000000 in
theorem mX2_getHeight (l : Launch) (D : va_G) (k : Nat → ClassId) (b g : Nat) (B : Nat → Nat → Bool) : zRead l yX2_getHeight cX2_getHeight 1 (some .int) 0 0 D k [.ref b] (zM D k b g B) (some (.int (nI 21))) := by
  refine zRead.of (by decide) (Nat.le_of_ble_eq_true rfl) ?_
  intro p e s m below meth c ls C hR hr hlk hF hl
  obtain ⟨hx, hb, hml, hown, hts⟩ := C.1
  have hown : s.vm.findClass RX2 = some m.cls := hown
  have hK := C.2
  obtain ⟨hP, hG, hlt⟩ := hF
  have hl : lv_has ls 1 [(0, .ref b)] := hl
  refine lv_aload_n hx hb dX2_getHeight_0 rfl (lv_at hl 0 rfl) ?_
  refine va_get (D := D) (ci := 1) (v := .int (nI 21)) (C := RX2) (T := TX2) (N := 3) hx hb hts in_X2 hown hK hP 0 rfl rfl 2 (by decide) (hts _ q28) (fun _ h9 => h9) rfl dX2_getHeight_1 ?_
  exact zri hx hb hr hlk dX2_getHeight_4
set_option maxHeartbeats 4000000 in
theorem mX2_getArray (l : Launch) (D : va_G) (k : Nat → ClassId) (b g : Nat) (B : Nat → Nat → Bool) : zRead l yX2_getArray cX2_getArray 1 (some (.array (.array .byte))) 0 0 D k [.ref b] (zM D k b g B) (some (.ref g)) := by
  refine zRead.of (by decide) (Nat.le_of_ble_eq_true rfl) ?_
  intro p e s m below meth c ls C hR hr hlk hF hl
  obtain ⟨hx, hb, hml, hown, hts⟩ := C.1
  have hown : s.vm.findClass RX2 = some m.cls := hown
  have hK := C.2
  obtain ⟨hP, hG, hlt⟩ := hF
  have hl : lv_has ls 1 [(0, .ref b)] := hl
  refine lv_aload_n hx hb dX2_getArray_0 rfl (lv_at hl 0 rfl) ?_
  refine va_get (D := D) (ci := 1) (v := .ref g) (C := RX2) (T := TX2) (N := 3) hx hb hts in_X2 hown hK hP 0 rfl rfl 0 (by decide) (hts _ q26) (fun _ h9 => h9) rfl dX2_getArray_1 ?_
  exact zra hx hb hr hlk dX2_getArray_4
set_option maxHeartbeats 4000000 in
theorem mX2_get (l : Launch) (D : va_G) (k : Nat → ClassId) (b g : Nat) (B : Nat → Nat → Bool) (x y : Nat) (h1 : x < 21) (h2 : y < 21) : zRead l yX2_get cX2_get 3 (some .byte) 0 0 D k [.ref b, .int (nI x), .int (nI y)] (zM D k b g B) (some (.int (nI (B x y).toNat))) := by
  refine zRead.of (by decide) (Nat.le_of_ble_eq_true rfl) ?_
  intro p e s m below meth c ls C hR hr hlk hF hl
  obtain ⟨hx, hb, hml, hown, hts⟩ := C.1
  have hown : s.vm.findClass RX2 = some m.cls := hown
  have hK := C.2
  obtain ⟨hP, hG, hlt⟩ := hF
  have hl : lv_has ls 3 [(0, .ref b), (1, .int (nI x)), (2, .int (nI y))] := hl
  refine lv_aload_n hx hb dX2_get_0 rfl (lv_at hl 0 rfl) ?_
  refine va_get (D := D) (ci := 1) (v := .ref g) (C := RX2) (T := TX2) (N := 3) hx hb hts in_X2 hown hK hP 0 rfl rfl 0 (by decide) (hts _ q26) (fun _ h9 => h9) rfl dX2_get_1 ?_
  refine lv_iload_n hx hb dX2_get_4 rfl (lv_at hl 2 rfl) ?_
  refine zg_row (i := y) hx hb (hK.2 0 _ rfl).1 hG (by omega) dX2_get_5 ?_
  refine lv_iload_n hx hb dX2_get_6 rfl (lv_at hl 1 rfl) ?_
  refine zg_bld (j := x) hx hb (hK.2 1 _ rfl).1 hG (by omega) (by omega) dX2_get_7 ?_
  exact zrn hx hb hr hlk (zny _) dX2_get_8
set_option maxHeartbeats 4000000 in
theorem mX2_set (l : Launch) (D : va_G) (k : Nat → ClassId) (b g : Nat) (B : Nat → Nat → Bool) (x y : Nat) (v : Bool) (h1 : x < 21) (h2 : y < 21) : zWrite l yX2_set cX2_set 4 0 0 D k [.ref b, .int (nI x), .int (nI y), .int (nI v.toNat)] (zM D k b g B) (zA g) (zM D k b g (zup B x y v)) := by
  refine zWrite.of (by decide) (Nat.le_of_ble_eq_true rfl) ?_
  intro p e s m below meth c ls C hR hr hlk hF hl
  obtain ⟨hx, hb, hml, hown, hts⟩ := C.1
  have hown : s.vm.findClass RX2 = some m.cls := hown
  have hK := C.2
  obtain ⟨hP, hG, hlt⟩ := hF
  have hl : lv_has ls 4 [(0, .ref b), (1, .int (nI x)), (2, .int (nI y)), (3, .int (nI v.toNat))] := hl
  refine lv_aload_n hx hb dX2_set_0 rfl (lv_at hl 0 rfl) ?_
  refine va_get (D := D) (ci := 1) (v := .ref g) (C := RX2) (T := TX2) (N := 3) hx hb hts in_X2 hown hK hP 0 rfl rfl 0 (by decide) (hts _ q26) (fun _ h9 => h9) rfl dX2_set_1 ?_
  refine lv_iload_n hx hb dX2_set_4 rfl (lv_at hl 2 rfl) ?_
  refine zg_row (i := y) hx hb (hK.2 0 _ rfl).1 hG (by omega) dX2_set_5 ?_
  refine lv_iload_n hx hb dX2_set_6 rfl (lv_at hl 1 rfl) ?_
  refine lv_iload_n hx hb dX2_set_7 rfl (lv_at hl 3 rfl) ?_
  refine lv_i2b (v := nI v.toNat) hx hb dX2_set_8 (z_b2i _) ?_
  refine zg_bst (i := y) (j := x) (v := v) hx hb (hK.2 1 _ rfl).1 hG h2 h1 dX2_set_9 (fun H1 locs1 hG1 hz1 ho1 hL1 => ?_)
  have hP1 : va_P D vwCl [(b, .inr (1, [.ref g, .int (nI 21), .int (nI 21)]))] H1 := hP.kept (fun n q hq => by
    have hz : n < 1 := (List.getElem?_eq_some_iff.mp hq).1
    rw [show n = 0 by omega] at hq
    cases hq
    exact ho1 b (by omega))
  refine zrv hx hb hr hlk ⟨hP1, hG1.congr (fun i j _ _ => ?_), hlt⟩ hz1 (fun q hq => ho1 q (fun h => hq ?_)) (fun q hq => ?_) dX2_set_10
  · unfold zup
    by_cases e1 : i = y <;> by_cases e2 : j = x <;> simp [e1, e2]
  · subst h
    exact ⟨by omega, by omega⟩
  · rcases hL1 q hq with h | h
    · cases h
    · rw [h]
      exact ⟨by omega, by omega⟩
/-- the word 'there is an array class over these arrays', carried to a callee -/
def zAO (t : FieldType) (U : State) : Prop := (Cond.arrayOver (.array t)).before #[] U = true
theorem zAO.of {t : FieldType} {A : Array Value} {U : State} (h : (Cond.arrayOver (.array t)).before A U = true) : zAO t U := h
theorem zAO.use {t : FieldType} {A : Array Value} {U : State} (h : zAO t U) : (Cond.arrayOver (.array t)).before A U = true := h
theorem zAO.moved {t : FieldType} {u U : State} (hvm : u.vm.Alike U.vm) (h : zAO t u) : zAO t U := by
  obtain ⟨comp, c, k, h1, h2, h3, h4, h5⟩ := arrayOverA_spec h
  obtain ⟨k', hk', he⟩ := hvm.2.2 _ _ h3
  have hi : (U.vm.classes.findIdx? fun (x : Class) => match x.kind with | .array component _ => component == comp | _ => false) = some c := by
    rw [hvm.findIdx?_eq _ (fun _ => rfl)]
    exact h2
  have hkind : k'.kind = .array comp (.array t) := by rw [he]; exact h4
  have f1 : U.vm.findClass (FieldType.array t).toString = some comp := by rw [hvm.findClass]; exact h1
  have f2 : U.vm.findClass ("[" ++ (FieldType.array t).toString) = some c := by rw [hvm.findClass]; exact h5
  unfold zAO Cond.before Cond.holds
  simp only [Cond.value]
  rw [f1, Option.bind_some]
  refine (congrArg (fun o : Option Nat => (o.bind (fun c => (U.vm.classes[c]?).map fun (k : Class) => match k.kind with | .array _ ty => decide (ty = FieldType.array t) && decide (U.vm.findClass ("[" ++ (FieldType.array t).toString) = some c) | _ => false) == some true)) hi).trans ?_
  simp [hk', hkind, f2]
theorem zouter (cO : ClassId) (n h0 : Nat) : ∀ i : Nat, Multi.outerC cO n h0 i = arrV cO n (fun j => if j < i then .ref (h0 + 1 + j) else .null)
  | 0 => by
    show ({ cls := cO, slots := Array.replicate n .null, vm := .none } : Cell) = _
    rw [arrV_new]
    exact zarr_congr _ _ fun j _ => by rw [if_neg (Nat.not_lt_zero j)]
  | i + 1 => by
    show (Multi.outerC cO n h0 i).setSlot i (.ref (h0 + 1 + i)) = _
    rw [zouter cO n h0 i, arrV_store]
    refine zarr_congr _ _ fun j _ => ?_
    unfold updV
    by_cases e : j = i
    · rw [if_pos e, if_pos (by omega), e]
    · rw [if_neg e]
      by_cases q : j < i
      · exact (if_pos q).trans (if_pos (by omega)).symm
      · exact (if_neg q).trans (if_neg (by omega)).symm
section ZMU
variable {p : Program} {l : Launch} {e : Env} {R : Room} {s : State} {m : MethodId} {args : Array Value} {below : List Frame} {meth : Method} {c : Code} {H : Heap} {locs : List Loc} {cells slots : Nat} {Q : State → Prop}
variable {cc : ByteArray} {pc : Nat} {ls : Array Slot} {rest : List Value}
theorem zg_multi (hexec : p.tables.exec = Jvm.exec) (hb : c.code = cc) {own : String} {index : Nat} {ty : FieldType} (hown : s.vm.findClass own = some m.cls) (hclink : (Cond.classLink own index ("[" ++ (FieldType.array ty).toString)).before args s = true)
    (hover : (Cond.arrayOver (.array ty)).before args s = true) (harr : (Cond.arrayClass ty).before args s = true) (hdf : fits ty (defaultValue ty) = true) (hdd : (defaultValue ty).isDefault = true) (hdv : defaultValue ty = .int (nI 0)) (hby : 21 * componentBytes ty ≤ 536870912)
    {cO cI : ClassId} (hO : s.vm.findClass ("[" ++ (FieldType.array ty).toString) = some cO) (hI : s.vm.findClass (FieldType.array ty).toString = some cI) (hdg : decode cc pc = .ok (.multianewarray index 2, 4)) (hcells : cells + 22 ≤ R.cells) (hslots : slots + 462 ≤ R.slots)
    (kk : ∀ H1 : Heap, zG cO cI H.size (fun _ _ => false) H1 → H1.size = H.size + 22 → (∀ q : Nat, q < H.size → H1[q]? = H[q]?) → W p l e R s m args below meth c H1 locs (cells + 22) (slots + 462) Q (F0 m (pc + 4) ls (.ref H.size :: rest))) : W p l e R s m args below meth c H locs cells slots Q (F0 m pc ls (.int (nI 21) :: .int (nI 21) :: rest)) := by
  intro T hT X
  subst hT
  have h21 : (nI 21).toNatClampNeg = 21 := by decide
  obtain ⟨vm₁, cA, comp, hW, hfA, hfC, -, -, X1, step⟩ := X.multianewarray2F hexec hown hclink hover harr (g := F0 m pc ls (.int (nI 21) :: .int (nI 21) :: rest)) rfl (by rw [hb]; exact hdg) (n := nI 21) (k := nI 21) (rest := rest) rfl (by decide) (by decide) (by rw [h21]; decide) (by rw [h21]; exact hby) (by rw [h21]; decide) hdf hdd (by rw [h21]; omega) (by rw [h21]; omega)
  rw [h21] at X1 step
  cases hO.symm.trans hfA
  cases hI.symm.trans hfC
  obtain ⟨f1, f2, -, -⟩ := Multi.fill_facts (T.setVm vm₁) cO cI 21 21 (defaultValue ty) 21
  have f3 := Multi.fill_inner (T.setVm vm₁) cO cI 21 21 (defaultValue ty) 21
  have f4 : ∀ q : Nat, q < T.heap.size → (Multi.fill (T.setVm vm₁) cO cI 21 21 (defaultValue ty) 21).heap[q]? = T.heap[q]? := fun q hq => Multi.fill_old (T.setVm vm₁) cO cI 21 21 (defaultValue ty) (a := q) hq 21
  generalize Multi.fill (T.setVm vm₁) cO cI 21 21 (defaultValue ty) 21 = U at f1 f2 f3 f4 X1 step
  have X2 : Stand p l e R s m args below meth c U locs (cells + 22) (slots + 462) := by
    have e1 : cells + 1 + 21 = cells + 22 := by omega
    have e2 : slots + 21 + 21 * 21 = slots + 462 := by omega
    rw [e1, e2] at X1
    exact X1
  have hg : zG cO cI T.heap.size (fun _ _ => false) U.heap := by
    refine ⟨?_, fun i hi => ?_⟩
    · have f2' : U.heap[T.heap.size]? = some (Multi.outerC cO 21 T.heap.size 21) := f2
      rw [f2', zouter]
      exact congrArg some (zarr_congr _ _ fun j hj => by rw [if_pos hj])
    · have f3' : U.heap[T.heap.size + 1 + i]? = some (Multi.innerC cI 21 (defaultValue ty)) := f3 i hi
      rw [f3', hdv]
      exact congrArg some (arrV_new _ _ _)
  obtain ⟨t, a1, b1⟩ := kk U.heap hg (by have f1' : U.heap.size = T.heap.size + 1 + 21 := f1; omega) f4 U rfl X2
  exact ⟨t, step t a1, b1⟩
end ZMU
/-- a world of one cell, a place's own -/
theorem zone {D : va_G} {cl : List vw_C} {b : Nat} {x : va_E} {H H1 : Heap} (h : va_P D cl [(b, x)] H) (e : H1[b]? = H[b]?) : va_P D cl [(b, x)] H1 := h.kept (fun n q hq => by
  have hz : n < 1 := (List.getElem?_eq_some_iff.mp hq).1
  rw [show n = 0 by omega] at hq
  cases hq
  exact e)
theorem zoneD {b : Nat} {x : va_E} {A : Nat → Prop} (h : A b) : va_D A [(b, x)] := by
  have key : ∀ (n : Nat) (q : Nat × va_E), [(b, x)][n]? = some q → n = 0 ∧ q = (b, x) := fun n q hq => by
    have hz : n < 1 := (List.getElem?_eq_some_iff.mp hq).1
    have h0 : n = 0 := by omega
    subst h0
    exact ⟨rfl, (Option.some.inj hq).symm⟩
  refine ⟨fun i j p q hp hq _ => ?_, fun n q hq => ?_⟩
  · have h1 := (key i p hp).1
    have h2 := (key j q hq).1
    omega
  · rw [(key n q hq).2]
    exact h
abbrev zrmI : Room := { frames := 1, cells := 22, slots := 462, locals := 12 }
def zPI (D : va_G) (k : Nat → ClassId) (b sz : Nat) : Array Value → State → Prop := fun a U => a = ([.ref b, .int (nI 21), .int (nI 21)] : List Value).toArray ∧ zK D k U ∧ zAO .byte U ∧ U.heap.size = sz ∧ b < sz ∧ va_P D vwCl [(b, .inr (1, [.null, .int 0, .int 0]))] U.heap
def zQI (D : va_G) (k : Nat → ClassId) (b sz : Nat) : Array Value → State → Outcome → State → Prop := fun _ st o t => o = .returned none ∧ (∃ g : Nat, zM D k b g (fun _ _ => false) t.heap ∧ sz ≤ g) ∧ sz ≤ t.heap.size ∧ ∀ q : Nat, q < sz → q ≠ b → t.heap[q]? = st.heap[q]?
set_option maxHeartbeats 4000000 in
/-- ByteMatrix(21, 21): a new grid, all light -/
theorem mX2_init (l : Launch) (D : va_G) (k : Nat → ClassId) (b sz : Nat) : Met l yX2_init (ws_ yX2_init cX2_init 3 none) zrmI (zPI D k b sz) (zQI D k b sz) 22 462 (fun q => q = b) := by
  refine Met.ofW (cc := cX2_init) (maxL := 3) (ret := none) (by decide) rfl ?_
  intro p e s m args below meth c s₁ B hml hv
  obtain ⟨rfl, hK, hAO, hsz, hbz, hP⟩ := hv
  have hx := B.exec
  have hb := B.bytes
  have hr := B.returns
  have hts := atoms_spec (ws := ws_ yX2_init cX2_init 3 none) B.pre
  have hts : ∀ w ∈ lw_all, w.before _ s = true := fun w h => hts w (List.mem_cons_of_mem _ h)
  have hown : s.vm.findClass RX2 = some m.cls := findClass_of_methodNamed B.named
  have hlocks := B.notSynchronized
  have hin : meth.name = "<init>" := (name_of_methodNamed B.named B.method).1
  subst hsz
  have hl := lv_entry ([.ref b, .int (nI 21), .int (nI 21)]) (n := 3) (Nat.le_of_ble_eq_true rfl)
  rw [lg_entry_eq]
  generalize (lg_sl ([.ref b, .int (nI 21), .int (nI 21)]) ++ List.replicate (3 - (lg_sl ([.ref b, .int (nI 21), .int (nI 21)])).length) Slot.unset).toArray = ls at hl ⊢
  have hl : lv_has ls 3 [(0, .ref b), (1, .int (nI 21)), (2, .int (nI 21))] := hl
  refine lv_aload_n hx hb dX2_init_0 rfl (lv_at hl 0 rfl) ?_
  refine W.objInit hx hb hown (hts _ q23) (hts _ q16) (hts _ q17) rfl (by rw [hml]; exact hl.1) rfl dX2_init_1 (Nat.le_of_ble_eq_true rfl) (Nat.le_of_ble_eq_true rfl) ?_
  refine W.eq (g2 := F0 m 4 ls []) rfl ?_
  refine lv_aload_n hx hb dX2_init_4 rfl (lv_at hl 0 rfl) ?_
  refine lv_iload_n hx hb dX2_init_5 rfl (lv_at hl 2 rfl) ?_
  refine lv_iload_n hx hb dX2_init_6 rfl (lv_at hl 1 rfl) ?_
  refine zg_multi (ty := .byte) (cO := k 0) (cI := k 1) hx hb hown (hts _ q24) hAO.use (hts _ q36) rfl rfl rfl (by decide) (hK.2 0 _ rfl).2 (hK.2 1 _ rfl).2 dX2_init_7 (Nat.le_of_ble_eq_true rfl) (Nat.le_of_ble_eq_true rfl) (fun H1 hG1 hz1 ho1 => ?_)
  have hP1 := zone hP (ho1 b hbz)
  have hD1 : va_D (fun q => q = b) [(b, .inr (1, [.null, .int 0, .int 0]))] := zoneD rfl
  refine va_putF (D := D) (H0 := H1) (ci := 1) (v := .ref s.heap.size) (ty := .array (.array .byte)) (C := RX2) (T := TX2) (N := 3) hx hb hts in_X2 tyX2 tyX2_ok nmX2 hown hK hP1 hD1 va_S.rf 0 rfl rfl 0 (by decide) (hts _ q26) (fun _ h9 => h9) rfl hin rfl (by decide +kernel) rfl rfl (Nat.le_of_ble_eq_true rfl) dX2_init_11 (fun H2 locs2 hP2 hD2 hS2 => ?_)
  refine lv_aload_n hx hb dX2_init_14 rfl (lv_at hl 0 rfl) ?_
  refine lv_iload_n hx hb dX2_init_15 rfl (lv_at hl 1 rfl) ?_
  refine va_putF (D := D) (H0 := H1) (ci := 1) (v := .int (nI 21)) (ty := .int) (C := RX2) (T := TX2) (N := 3) hx hb hts in_X2 tyX2 tyX2_ok nmX2 hown hK hP2 hD2 hS2 0 rfl rfl 1 (by decide) (hts _ q27) (fun _ h9 => h9) rfl hin rfl (by decide +kernel) rfl rfl (Nat.le_of_ble_eq_true rfl) dX2_init_16 (fun H3 locs3 hP3 hD3 hS3 => ?_)
  refine lv_aload_n hx hb dX2_init_19 rfl (lv_at hl 0 rfl) ?_
  refine lv_iload_n hx hb dX2_init_20 rfl (lv_at hl 2 rfl) ?_
  refine va_putF (D := D) (H0 := H1) (ci := 1) (v := .int (nI 21)) (ty := .int) (C := RX2) (T := TX2) (N := 3) hx hb hts in_X2 tyX2 tyX2_ok nmX2 hown hK hP3 hD3 hS3 0 rfl rfl 2 (by decide) (hts _ q28) (fun _ h9 => h9) rfl hin rfl (by decide +kernel) rfl rfl (Nat.le_of_ble_eq_true rfl) dX2_init_21 (fun H4 locs4 hP4 hD4 hS4 => ?_)
  have hP4 : va_P D vwCl [(b, .inr (1, [.ref s.heap.size, .int (nI 21), .int (nI 21)]))] H4 := hP4
  have hM4 : zM D k b s.heap.size (fun _ _ => false) H4 := ⟨hP4, hG1.kept (fun q h1 h2 => hS4.2.1 q (by omega) (by show ¬ q = b; omega)), hbz⟩
  have hz4 : s.heap.size ≤ H4.size := Nat.le_trans (by omega) hS4.1
  refine W.cs (cells' := 22) (slots' := 462) rfl rfl ?_
  exact W.vret hx hb hr (fun t ht _ => ⟨rfl, ⟨s.heap.size, by rw [ht]; exact hM4, Nat.le_refl _⟩, by rw [ht]; exact hz4, fun q h1 h2 => by rw [ht, hS4.2.1 q (by omega) h2]; exact ho1 q h1⟩) hS4.2.2 dX2_init_24
end
section
/-! MaskUtil: the contracts of its methods -/
set_option maxRecDepth 100000
theorem z_1 {b : Bool} (h : b = true) : nI 1 = nI b.toNat := by
  subst h
  rfl
theorem z_0 {b : Bool} (h : b = false) : nI 0 = nI b.toNat := by
  subst h
  rfl
section Z3
variable {p : Program} {l : Launch} {e : Env} {R : Room} {s : State} {m : MethodId} {args : Array Value} {below : List Frame} {meth : Method} {c : Code} {H : Heap} {locs : List Loc} {cells slots : Nat} {Q : State → Prop}
variable {D : va_G} {k : Nat → ClassId} {b g : Nat} {B : Nat → Nat → Bool}
set_option maxHeartbeats 4000000 in
/-- its loop: four places from a on -/
theorem lX3_isWhiteHorizontal {M : Nat → Nat → Bool} {a y : Nat} (C : zC p m c cX3_isWhiteHorizontal 4 s args RX3 D k) (hG : zG (k 0) (k 1) g M H) (h_y : y < 21) (ha : a + 4 ≤ 21)
    (k1 : (∀ j, j < 4 → M y (a + j) = false) → ∀ ls : Array Slot, ls.size = 4 → W p l e R s m args below meth c H locs cells slots Q (F0 m 34 ls []))
    (k0 : ∀ j, j < 4 → M y (a + j) = true → ∀ ls : Array Slot, ls.size = 4 → W p l e R s m args below meth c H locs cells slots Q (F0 m 26 ls [])) :
    ∀ (n j : Nat), j ≤ 4 → 5 ≤ j + n → (∀ i, i < j → M y (a + i) = false) → ∀ ls : Array Slot, lv_has ls 4 [(0, .ref (g + 1 + y)), (1, .int (nI a)), (2, .int (nI (a + 4))), (3, .int (nI (a + j)))] → W p l e R s m args below meth c H locs cells slots Q (F0 m 14 ls []) := by
  obtain ⟨hx, hb, hml, hown, hts⟩ := C.1
  have hK := C.2
  intro n
  induction n with
  | zero =>
    intro j h1 h2
    exact absurd h2 (by omega)
  | succ n ih =>
    intro j hj hjn hal ls hl
    refine lv_iload_n hx hb dX3_isWhiteHorizontal_14 rfl (lv_at hl 3 rfl) ?_
    refine lv_iload_n hx hb dX3_isWhiteHorizontal_15 rfl (lv_at hl 2 rfl) ?_
    refine z_ige (a := a + j) (b := a + 4) (tgt := 34) hx hb dX3_isWhiteHorizontal_16 (by decide) (by omega) (by omega) (fun c1 => ?_) (fun c1 => ?_)
    · exact k1 (fun i hi => hal i (by omega)) ls hl.1
    · refine lv_aload_n hx hb dX3_isWhiteHorizontal_19 rfl (lv_at hl 0 rfl) ?_
      refine lv_iload_n hx hb dX3_isWhiteHorizontal_20 rfl (lv_at hl 3 rfl) ?_
      refine zg_bld (j := a + j) hx hb (hK.2 1 _ rfl).1 hG (by omega) (by omega) dX3_isWhiteHorizontal_21 ?_
      refine lv_iconst (v := nI 1) hx hb dX3_isWhiteHorizontal_22 (by decide) ?_
      refine z_bne1 (tgt := 28) hx hb dX3_isWhiteHorizontal_23 (by decide) (fun c2 => ?_) (fun c2 => ?_)
      · have hal2 : ∀ i, i < j + 1 → M y (a + i) = false := fun i hi => by
          by_cases e : i = j
          · rw [e]; exact c2
          · exact hal i (by omega)
        refine lv_iinc (v := nI (a + (j + 1))) (lv' := [(3, .int (nI (a + (j + 1)))), (0, .ref (g + 1 + y)), (1, .int (nI a)), (2, .int (nI (a + 4)))]) hx hb dX3_isWhiteHorizontal_28 hl (k := 3) rfl (z_inc _) (by decide) rfl (fun ls hl => ?_)
        refine lv_goto (tgt := 14) hx hb dX3_isWhiteHorizontal_31 (by decide) ?_
        exact ih (j + 1) (by omega) (by omega) hal2 ls (lv_sub hl [1, 2, 3, 0] rfl)
      · exact k0 j (by omega) c2 ls hl.1
set_option maxHeartbeats 4000000 in
/-- its loop: four places from a on -/
theorem lX3_isWhiteVertical {M : Nat → Nat → Bool} {a x : Nat} (C : zC p m c cX3_isWhiteVertical 5 s args RX3 D k) (hG : zG (k 0) (k 1) g M H) (h_x : x < 21) (ha : a + 4 ≤ 21)
    (k1 : (∀ j, j < 4 → M (a + j) x = false) → ∀ ls : Array Slot, ls.size = 5 → W p l e R s m args below meth c H locs cells slots Q (F0 m 39 ls []))
    (k0 : ∀ j, j < 4 → M (a + j) x = true → ∀ ls : Array Slot, ls.size = 5 → W p l e R s m args below meth c H locs cells slots Q (F0 m 31 ls [])) :
    ∀ (n j : Nat), j ≤ 4 → 5 ≤ j + n → (∀ i, i < j → M (a + i) x = false) → ∀ ls : Array Slot, lv_has ls 5 [(0, .ref g), (1, .int (nI x)), (2, .int (nI a)), (3, .int (nI (a + 4))), (4, .int (nI (a + j)))] → W p l e R s m args below meth c H locs cells slots Q (F0 m 15 ls []) := by
  obtain ⟨hx, hb, hml, hown, hts⟩ := C.1
  have hK := C.2
  intro n
  induction n with
  | zero =>
    intro j h1 h2
    exact absurd h2 (by omega)
  | succ n ih =>
    intro j hj hjn hal ls hl
    refine lv_iload hx hb dX3_isWhiteVertical_15 (lv_at hl 4 rfl) ?_
    refine lv_iload_n hx hb dX3_isWhiteVertical_17 rfl (lv_at hl 3 rfl) ?_
    refine z_ige (a := a + j) (b := a + 4) (tgt := 39) hx hb dX3_isWhiteVertical_18 (by decide) (by omega) (by omega) (fun c1 => ?_) (fun c1 => ?_)
    · exact k1 (fun i hi => hal i (by omega)) ls hl.1
    · refine lv_aload_n hx hb dX3_isWhiteVertical_21 rfl (lv_at hl 0 rfl) ?_
      refine lv_iload hx hb dX3_isWhiteVertical_22 (lv_at hl 4 rfl) ?_
      refine zg_row (i := a + j) hx hb (hK.2 0 _ rfl).1 hG (by omega) dX3_isWhiteVertical_24 ?_
      refine lv_iload_n hx hb dX3_isWhiteVertical_25 rfl (lv_at hl 1 rfl) ?_
      refine zg_bld (j := x) hx hb (hK.2 1 _ rfl).1 hG (by omega) (by omega) dX3_isWhiteVertical_26 ?_
      refine lv_iconst (v := nI 1) hx hb dX3_isWhiteVertical_27 (by decide) ?_
      refine z_bne1 (tgt := 33) hx hb dX3_isWhiteVertical_28 (by decide) (fun c2 => ?_) (fun c2 => ?_)
      · have hal2 : ∀ i, i < j + 1 → M (a + i) x = false := fun i hi => by
          by_cases e : i = j
          · rw [e]; exact c2
          · exact hal i (by omega)
        refine lv_iinc (v := nI (a + (j + 1))) (lv' := [(4, .int (nI (a + (j + 1)))), (0, .ref g), (1, .int (nI x)), (2, .int (nI a)), (3, .int (nI (a + 4)))]) hx hb dX3_isWhiteVertical_33 hl (k := 4) rfl (z_inc _) (by decide) rfl (fun ls hl => ?_)
        refine lv_goto (tgt := 15) hx hb dX3_isWhiteVertical_36 (by decide) ?_
        exact ih (j + 1) (by omega) (by omega) hal2 ls (lv_sub hl [1, 2, 3, 4, 0] rfl)
      · exact k0 j (by omega) c2 ls hl.1
end Z3
set_option maxHeartbeats 4000000 in
theorem mX3_isWhiteHorizontal (l : Launch) (D : va_G) (k : Nat → ClassId) (g : Nat) (M : Nat → Nat → Bool) (y : Nat) (f : Int32) (t : Nat) (r : Bool) (h_y : y < 21) (hf : (f < 0 ∧ r = false) ∨ ∃ a : Nat, f = nI a ∧ a ≤ 40 ∧ t = a + 4 ∧ r = zw4 (fun x => M y x) a) : zRead l yX3_isWhiteHorizontal cX3_isWhiteHorizontal 4 (some .boolean) 0 0 D k [.ref (g + 1 + y), .int f, .int (nI t)] (zG (k 0) (k 1) g M) (some (.int (nI r.toNat))) := by
  refine zRead.of (by decide) (Nat.le_of_ble_eq_true rfl) ?_
  intro p e s m below meth c ls C hR hr hlk hF hl
  obtain ⟨hx, hb, hml, hown, hts⟩ := C.1
  have hown : s.vm.findClass RX3 = some m.cls := hown
  have hK := C.2
  have hG := hF
  have hl : lv_has ls 4 [(0, .ref (g + 1 + y)), (1, .int f), (2, .int (nI t))] := hl
  rcases hf with ⟨hf, rfl⟩ | ⟨a, rfl, ha, rfl, rfl⟩
  · refine lv_iload_n hx hb dX3_isWhiteHorizontal_0 rfl (lv_at hl 1 rfl) ?_
    refine lv_if_lt (tgt := 10) hx hb dX3_isWhiteHorizontal_1 (by decide) (fun c1 => ?_) (fun c => absurd c (fun q => q hf))
    refine lv_iconst (v := nI (false).toNat) hx hb dX3_isWhiteHorizontal_10 (by decide) ?_
    exact zrn hx hb hr hlk (znb _) dX3_isWhiteHorizontal_11
  · refine lv_iload_n hx hb dX3_isWhiteHorizontal_0 rfl (lv_at hl 1 rfl) ?_
    refine z_lt0 (a := a) (tgt := 10) hx hb dX3_isWhiteHorizontal_1 (by decide) (by omega) ?_
    refine lv_aload_n hx hb dX3_isWhiteHorizontal_4 rfl (lv_at hl 0 rfl) ?_
    refine zg_rlen (i := y) hx hb (hK.2 1 _ rfl).1 hG h_y dX3_isWhiteHorizontal_5 ?_
    refine lv_iload_n hx hb dX3_isWhiteHorizontal_6 rfl (lv_at hl 2 rfl) ?_
    refine z_ige (a := 21) (b := a + 4) (tgt := 12) hx hb dX3_isWhiteHorizontal_7 (by decide) (by decide) (by omega) (fun c1 => ?_) (fun c1 => ?_)
    · refine lv_iload_n hx hb dX3_isWhiteHorizontal_12 rfl (lv_at hl 1 rfl) ?_
      refine lv_istore_n (lv' := [(3, .int (nI a)), (0, .ref (g + 1 + y)), (1, .int (nI a)), (2, .int (nI (a + 4)))]) hx hb dX3_isWhiteHorizontal_13 rfl hl (by decide) rfl (fun ls hl => ?_)
      refine lX3_isWhiteHorizontal C hG h_y (by omega) (fun hal ls hs => ?_) (fun j hj hc ls hs => ?_) 5 0 (by omega) (by omega) (fun i hi => absurd hi (Nat.not_lt_zero i)) ls (lv_sub hl [1, 2, 3, 0] rfl)
      · rw [zw4_t (by omega) hal]
        refine lv_iconst (v := nI (true).toNat) hx hb dX3_isWhiteHorizontal_34 (by decide) ?_
        exact zrn hx hb hr hlk (znb _) dX3_isWhiteHorizontal_35
      · rw [zw4_f (f := (fun x => M y x)) hj hc]
        refine lv_iconst (v := nI (false).toNat) hx hb dX3_isWhiteHorizontal_26 (by decide) ?_
        exact zrn hx hb hr hlk (znb _) dX3_isWhiteHorizontal_27
    · rw [zw4_o (by omega)]
      refine lv_iconst (v := nI (false).toNat) hx hb dX3_isWhiteHorizontal_10 (by decide) ?_
      exact zrn hx hb hr hlk (znb _) dX3_isWhiteHorizontal_11
set_option maxHeartbeats 4000000 in
theorem mX3_isWhiteVertical (l : Launch) (D : va_G) (k : Nat → ClassId) (g : Nat) (M : Nat → Nat → Bool) (x : Nat) (f : Int32) (t : Nat) (r : Bool) (h_x : x < 21) (hf : (f < 0 ∧ r = false) ∨ ∃ a : Nat, f = nI a ∧ a ≤ 40 ∧ t = a + 4 ∧ r = zw4 (fun y => M y x) a) : zRead l yX3_isWhiteVertical cX3_isWhiteVertical 5 (some .boolean) 0 0 D k [.ref g, .int (nI x), .int f, .int (nI t)] (zG (k 0) (k 1) g M) (some (.int (nI r.toNat))) := by
  refine zRead.of (by decide) (Nat.le_of_ble_eq_true rfl) ?_
  intro p e s m below meth c ls C hR hr hlk hF hl
  obtain ⟨hx, hb, hml, hown, hts⟩ := C.1
  have hown : s.vm.findClass RX3 = some m.cls := hown
  have hK := C.2
  have hG := hF
  have hl : lv_has ls 5 [(0, .ref g), (1, .int (nI x)), (2, .int f), (3, .int (nI t))] := hl
  rcases hf with ⟨hf, rfl⟩ | ⟨a, rfl, ha, rfl, rfl⟩
  · refine lv_iload_n hx hb dX3_isWhiteVertical_0 rfl (lv_at hl 2 rfl) ?_
    refine lv_if_lt (tgt := 10) hx hb dX3_isWhiteVertical_1 (by decide) (fun c2 => ?_) (fun c => absurd c (fun q => q hf))
    refine lv_iconst (v := nI (false).toNat) hx hb dX3_isWhiteVertical_10 (by decide) ?_
    exact zrn hx hb hr hlk (znb _) dX3_isWhiteVertical_11
  · refine lv_iload_n hx hb dX3_isWhiteVertical_0 rfl (lv_at hl 2 rfl) ?_
    refine z_lt0 (a := a) (tgt := 10) hx hb dX3_isWhiteVertical_1 (by decide) (by omega) ?_
    refine lv_aload_n hx hb dX3_isWhiteVertical_4 rfl (lv_at hl 0 rfl) ?_
    refine zg_len hx hb (hK.2 0 _ rfl).1 hG dX3_isWhiteVertical_5 ?_
    refine lv_iload_n hx hb dX3_isWhiteVertical_6 rfl (lv_at hl 3 rfl) ?_
    refine z_ige (a := 21) (b := a + 4) (tgt := 12) hx hb dX3_isWhiteVertical_7 (by decide) (by decide) (by omega) (fun c1 => ?_) (fun c1 => ?_)
    · refine lv_iload_n hx hb dX3_isWhiteVertical_12 rfl (lv_at hl 2 rfl) ?_
      refine lv_istore (lv' := [(4, .int (nI a)), (0, .ref g), (1, .int (nI x)), (2, .int (nI a)), (3, .int (nI (a + 4)))]) hx hb dX3_isWhiteVertical_13 hl (by decide) rfl (fun ls hl => ?_)
      refine lX3_isWhiteVertical C hG h_x (by omega) (fun hal ls hs => ?_) (fun j hj hc ls hs => ?_) 5 0 (by omega) (by omega) (fun i hi => absurd hi (Nat.not_lt_zero i)) ls (lv_sub hl [1, 2, 3, 4, 0] rfl)
      · rw [zw4_t (by omega) hal]
        refine lv_iconst (v := nI (true).toNat) hx hb dX3_isWhiteVertical_39 (by decide) ?_
        exact zrn hx hb hr hlk (znb _) dX3_isWhiteVertical_40
      · rw [zw4_f (f := (fun y => M y x)) hj hc]
        refine lv_iconst (v := nI (false).toNat) hx hb dX3_isWhiteVertical_31 (by decide) ?_
        exact zrn hx hb hr hlk (znb _) dX3_isWhiteVertical_32
    · rw [zw4_o (by omega)]
      refine lv_iconst (v := nI (false).toNat) hx hb dX3_isWhiteVertical_10 (by decide) ?_
      exact zrn hx hb hr hlk (znb _) dX3_isWhiteVertical_11
set_option maxHeartbeats 4000000 in
theorem mX3_getDataMaskBit (l : Launch) (D : va_G) (k : Nat → ClassId) (q x y : Nat) (hq : q < 8) (h1 : x < 256) (h2 : y < 256) : zRead l yX3_getDataMaskBit cX3_getDataMaskBit 5 (some .boolean) 0 0 D k [.int (nI q), .int (nI x), .int (nI y)] (fun _ => True) (some (.int (nI (zmb q x y).toNat))) := by
  refine zRead.of (by decide) (Nat.le_of_ble_eq_true rfl) ?_
  intro p e s m below meth c ls C hR hr hlk hF hl
  obtain ⟨hx, hb, hml, hown, hts⟩ := C.1
  have hown : s.vm.findClass RX3 = some m.cls := hown
  have hK := C.2
  have hl : lv_has ls 5 [(0, .int (nI q)), (1, .int (nI x)), (2, .int (nI y))] := hl
  have hm : y * x ≤ 255 * 255 := Nat.mul_le_mul (by omega) (by omega)
  have k162 : ∀ z : Nat, z = zmk q x y → z < 2 ^ 31 → ∀ ls : Array Slot, lv_has ls 5 [(3, .int (nI z))] → W p l e (zrm 0 0) s m ([.int (nI q), .int (nI x), .int (nI y)] : List Value).toArray below meth c s.heap [] 0 0 (MQ below (zq (some (.int (nI (zmb q x y).toNat)))) ([.int (nI q), .int (nI x), .int (nI y)] : List Value).toArray s 0 0 (fun _ => False)) (F0 m 162 ls []) := by
    intro z ez hz ls hl
    refine lv_iload_n hx hb dX3_getDataMaskBit_162 rfl (lv_at hl 0 rfl) ?_
    suffices hj4 : W p l e (zrm 0 0) s m ([.int (nI q), .int (nI x), .int (nI y)] : List Value).toArray below meth c s.heap [] 0 0 (MQ below (zq (some (.int (nI (zmb q x y).toNat)))) ([.int (nI q), .int (nI x), .int (nI y)] : List Value).toArray s 0 0 (fun _ => False)) (F0 m 171 ls [.int (nI (zmb q x y).toNat)]) by
      refine z_ne0 (a := z) (tgt := 170) hx hb dX3_getDataMaskBit_163 (by decide) (by omega) (fun c5 => ?_) (fun c5 => ?_)
      · refine lv_iconst (v := nI 0) hx hb dX3_getDataMaskBit_170 (by decide) ?_
        exact zt (z_0 (b := zmb q x y) (decide_eq_false (p := zmk q x y = 0) (by rw [← ez]; exact c5))) hj4
      · refine lv_iconst (v := nI 1) hx hb dX3_getDataMaskBit_166 (by decide) ?_
        refine lv_goto (tgt := 171) hx hb dX3_getDataMaskBit_167 (by decide) ?_
        exact zt (z_1 (b := zmb q x y) (decide_eq_true (p := zmk q x y = 0) (by rw [← ez]; exact c5))) hj4
    exact zrn hx hb hr hlk (znb _) dX3_getDataMaskBit_171
  refine lv_iload_n hx hb dX3_getDataMaskBit_0 rfl (lv_at hl 0 rfl) ?_
  rcases (show q = 0 ∨ q = 1 ∨ q = 2 ∨ q = 3 ∨ q = 4 ∨ q = 5 ∨ q = 6 ∨ q = 7 by omega) with e | e | e | e | e | e | e | e
  · subst e
    refine lv_tableIn (x := nI 0) (off := 47) (tgt := 48) hx hb dX3_getDataMaskBit_1 (by decide) (by decide) (by decide) (by decide) ?_
    refine lv_iload_n hx hb dX3_getDataMaskBit_48 rfl (lv_at hl 2 rfl) ?_
    refine lv_iload_n hx hb dX3_getDataMaskBit_49 rfl (lv_at hl 1 rfl) ?_
    refine z_iadd (v := nI (y + x)) hx hb dX3_getDataMaskBit_50 (nI_add _ _) ?_
    refine lv_iconst (v := nI 1) hx hb dX3_getDataMaskBit_51 (by decide) ?_
    refine z_iand (v := nI ((y + x) % 2)) hx hb dX3_getDataMaskBit_52 (anN1 _ (by omega)) ?_
    refine lv_istore_n (lv' := [(3, .int (nI ((y + x) % 2))), (0, .int (nI 0)), (1, .int (nI x)), (2, .int (nI y))]) hx hb dX3_getDataMaskBit_53 rfl hl (by decide) rfl (fun ls hl => ?_)
    refine lv_goto (tgt := 162) hx hb dX3_getDataMaskBit_54 (by decide) ?_
    exact k162 ((y + x) % 2) (by show (y + x) % 2 = (x + y) % 2; rw [Nat.add_comm]) (by omega) ls (lv_sub hl [0] rfl)
  · subst e
    refine lv_tableIn (x := nI 1) (off := 56) (tgt := 57) hx hb dX3_getDataMaskBit_1 (by decide) (by decide) (by decide) (by decide) ?_
    refine lv_iload_n hx hb dX3_getDataMaskBit_57 rfl (lv_at hl 2 rfl) ?_
    refine lv_iconst (v := nI 1) hx hb dX3_getDataMaskBit_58 (by decide) ?_
    refine z_iand (v := nI (y % 2)) hx hb dX3_getDataMaskBit_59 (anN1 _ (by omega)) ?_
    refine lv_istore_n (lv' := [(3, .int (nI (y % 2))), (0, .int (nI 1)), (1, .int (nI x)), (2, .int (nI y))]) hx hb dX3_getDataMaskBit_60 rfl hl (by decide) rfl (fun ls hl => ?_)
    refine lv_goto (tgt := 162) hx hb dX3_getDataMaskBit_61 (by decide) ?_
    exact k162 (y % 2) (rfl) (by omega) ls (lv_sub hl [0] rfl)
  · subst e
    refine lv_tableIn (x := nI 2) (off := 63) (tgt := 64) hx hb dX3_getDataMaskBit_1 (by decide) (by decide) (by decide) (by decide) ?_
    refine lv_iload_n hx hb dX3_getDataMaskBit_64 rfl (lv_at hl 1 rfl) ?_
    refine lv_iconst (v := nI 3) hx hb dX3_getDataMaskBit_65 (by decide) ?_
    refine z_irem (v := nI (x % 3)) hx hb dX3_getDataMaskBit_66 (by decide) (pk_rem (by omega) (by decide) (by decide)) ?_
    refine lv_istore_n (lv' := [(3, .int (nI (x % 3))), (0, .int (nI 2)), (1, .int (nI x)), (2, .int (nI y))]) hx hb dX3_getDataMaskBit_67 rfl hl (by decide) rfl (fun ls hl => ?_)
    refine lv_goto (tgt := 162) hx hb dX3_getDataMaskBit_68 (by decide) ?_
    exact k162 (x % 3) (rfl) (by omega) ls (lv_sub hl [0] rfl)
  · subst e
    refine lv_tableIn (x := nI 3) (off := 70) (tgt := 71) hx hb dX3_getDataMaskBit_1 (by decide) (by decide) (by decide) (by decide) ?_
    refine lv_iload_n hx hb dX3_getDataMaskBit_71 rfl (lv_at hl 2 rfl) ?_
    refine lv_iload_n hx hb dX3_getDataMaskBit_72 rfl (lv_at hl 1 rfl) ?_
    refine z_iadd (v := nI (y + x)) hx hb dX3_getDataMaskBit_73 (nI_add _ _) ?_
    refine lv_iconst (v := nI 3) hx hb dX3_getDataMaskBit_74 (by decide) ?_
    refine z_irem (v := nI ((y + x) % 3)) hx hb dX3_getDataMaskBit_75 (by decide) (pk_rem (by omega) (by decide) (by decide)) ?_
    refine lv_istore_n (lv' := [(3, .int (nI ((y + x) % 3))), (0, .int (nI 3)), (1, .int (nI x)), (2, .int (nI y))]) hx hb dX3_getDataMaskBit_76 rfl hl (by decide) rfl (fun ls hl => ?_)
    refine lv_goto (tgt := 162) hx hb dX3_getDataMaskBit_77 (by decide) ?_
    exact k162 ((y + x) % 3) (by show (y + x) % 3 = (x + y) % 3; rw [Nat.add_comm]) (by omega) ls (lv_sub hl [0] rfl)
  · subst e
    refine lv_tableIn (x := nI 4) (off := 79) (tgt := 80) hx hb dX3_getDataMaskBit_1 (by decide) (by decide) (by decide) (by decide) ?_
    refine lv_iload_n hx hb dX3_getDataMaskBit_80 rfl (lv_at hl 2 rfl) ?_
    refine lv_iconst (v := nI 2) hx hb dX3_getDataMaskBit_81 (by decide) ?_
    refine z_idiv (v := nI (y / 2)) hx hb dX3_getDataMaskBit_82 (by decide) (pk_div (by omega) (by decide) (by decide)) ?_
    refine lv_iload_n hx hb dX3_getDataMaskBit_83 rfl (lv_at hl 1 rfl) ?_
    refine lv_iconst (v := nI 3) hx hb dX3_getDataMaskBit_84 (by decide) ?_
    refine z_idiv (v := nI (x / 3)) hx hb dX3_getDataMaskBit_85 (by decide) (pk_div (by omega) (by decide) (by decide)) ?_
    refine z_iadd (v := nI (y / 2 + (x / 3))) hx hb dX3_getDataMaskBit_86 (nI_add _ _) ?_
    refine lv_iconst (v := nI 1) hx hb dX3_getDataMaskBit_87 (by decide) ?_
    refine z_iand (v := nI ((y / 2 + (x / 3)) % 2)) hx hb dX3_getDataMaskBit_88 (anN1 _ (by omega)) ?_
    refine lv_istore_n (lv' := [(3, .int (nI ((y / 2 + (x / 3)) % 2))), (0, .int (nI 4)), (1, .int (nI x)), (2, .int (nI y))]) hx hb dX3_getDataMaskBit_89 rfl hl (by decide) rfl (fun ls hl => ?_)
    refine lv_goto (tgt := 162) hx hb dX3_getDataMaskBit_90 (by decide) ?_
    exact k162 ((y / 2 + (x / 3)) % 2) (rfl) (by omega) ls (lv_sub hl [0] rfl)
  · subst e
    refine lv_tableIn (x := nI 5) (off := 92) (tgt := 93) hx hb dX3_getDataMaskBit_1 (by decide) (by decide) (by decide) (by decide) ?_
    refine lv_iload_n hx hb dX3_getDataMaskBit_93 rfl (lv_at hl 2 rfl) ?_
    refine lv_iload_n hx hb dX3_getDataMaskBit_94 rfl (lv_at hl 1 rfl) ?_
    refine z_imul (v := nI (y * x)) hx hb dX3_getDataMaskBit_95 (pk_mul _ _) ?_
    refine lv_istore (lv' := [(4, .int (nI (y * x))), (0, .int (nI 5)), (1, .int (nI x)), (2, .int (nI y))]) hx hb dX3_getDataMaskBit_96 hl (by decide) rfl (fun ls hl => ?_)
    refine lv_iload hx hb dX3_getDataMaskBit_98 (lv_at hl 0 rfl) ?_
    refine lv_iconst (v := nI 1) hx hb dX3_getDataMaskBit_100 (by decide) ?_
    refine z_iand (v := nI ((y * x) % 2)) hx hb dX3_getDataMaskBit_101 (anN1 _ (by omega)) ?_
    refine lv_iload hx hb dX3_getDataMaskBit_102 (lv_at hl 0 rfl) ?_
    refine lv_iconst (v := nI 3) hx hb dX3_getDataMaskBit_104 (by decide) ?_
    refine z_irem (v := nI ((y * x) % 3)) hx hb dX3_getDataMaskBit_105 (by decide) (pk_rem (by omega) (by decide) (by decide)) ?_
    refine z_iadd (v := nI ((y * x) % 2 + ((y * x) % 3))) hx hb dX3_getDataMaskBit_106 (nI_add _ _) ?_
    refine lv_istore_n (lv' := [(3, .int (nI ((y * x) % 2 + ((y * x) % 3)))), (4, .int (nI (y * x))), (0, .int (nI 5)), (1, .int (nI x)), (2, .int (nI y))]) hx hb dX3_getDataMaskBit_107 rfl hl (by decide) rfl (fun ls hl => ?_)
    refine lv_goto (tgt := 162) hx hb dX3_getDataMaskBit_108 (by decide) ?_
    exact k162 ((y * x) % 2 + ((y * x) % 3)) (by show (y * x) % 2 + (y * x) % 3 = (x * y) % 2 + (x * y) % 3; rw [Nat.mul_comm]) (by omega) ls (lv_sub hl [0] rfl)
  · subst e
    refine lv_tableIn (x := nI 6) (off := 110) (tgt := 111) hx hb dX3_getDataMaskBit_1 (by decide) (by decide) (by decide) (by decide) ?_
    refine lv_iload_n hx hb dX3_getDataMaskBit_111 rfl (lv_at hl 2 rfl) ?_
    refine lv_iload_n hx hb dX3_getDataMaskBit_112 rfl (lv_at hl 1 rfl) ?_
    refine z_imul (v := nI (y * x)) hx hb dX3_getDataMaskBit_113 (pk_mul _ _) ?_
    refine lv_istore (lv' := [(4, .int (nI (y * x))), (0, .int (nI 6)), (1, .int (nI x)), (2, .int (nI y))]) hx hb dX3_getDataMaskBit_114 hl (by decide) rfl (fun ls hl => ?_)
    refine lv_iload hx hb dX3_getDataMaskBit_116 (lv_at hl 0 rfl) ?_
    refine lv_iconst (v := nI 1) hx hb dX3_getDataMaskBit_118 (by decide) ?_
    refine z_iand (v := nI ((y * x) % 2)) hx hb dX3_getDataMaskBit_119 (anN1 _ (by omega)) ?_
    refine lv_iload hx hb dX3_getDataMaskBit_120 (lv_at hl 0 rfl) ?_
    refine lv_iconst (v := nI 3) hx hb dX3_getDataMaskBit_122 (by decide) ?_
    refine z_irem (v := nI ((y * x) % 3)) hx hb dX3_getDataMaskBit_123 (by decide) (pk_rem (by omega) (by decide) (by decide)) ?_
    refine z_iadd (v := nI ((y * x) % 2 + ((y * x) % 3))) hx hb dX3_getDataMaskBit_124 (nI_add _ _) ?_
    refine lv_iconst (v := nI 1) hx hb dX3_getDataMaskBit_125 (by decide) ?_
    refine z_iand (v := nI (((y * x) % 2 + ((y * x) % 3)) % 2)) hx hb dX3_getDataMaskBit_126 (anN1 _ (by omega)) ?_
    refine lv_istore_n (lv' := [(3, .int (nI (((y * x) % 2 + ((y * x) % 3)) % 2))), (4, .int (nI (y * x))), (0, .int (nI 6)), (1, .int (nI x)), (2, .int (nI y))]) hx hb dX3_getDataMaskBit_127 rfl hl (by decide) rfl (fun ls hl => ?_)
    refine lv_goto (tgt := 162) hx hb dX3_getDataMaskBit_128 (by decide) ?_
    exact k162 (((y * x) % 2 + ((y * x) % 3)) % 2) (by show ((y * x) % 2 + (y * x) % 3) % 2 = ((x * y) % 2 + (x * y) % 3) % 2; rw [Nat.mul_comm]) (by omega) ls (lv_sub hl [0] rfl)
  · subst e
    refine lv_tableIn (x := nI 7) (off := 130) (tgt := 131) hx hb dX3_getDataMaskBit_1 (by decide) (by decide) (by decide) (by decide) ?_
    refine lv_iload_n hx hb dX3_getDataMaskBit_131 rfl (lv_at hl 2 rfl) ?_
    refine lv_iload_n hx hb dX3_getDataMaskBit_132 rfl (lv_at hl 1 rfl) ?_
    refine z_imul (v := nI (y * x)) hx hb dX3_getDataMaskBit_133 (pk_mul _ _) ?_
    refine lv_istore (lv' := [(4, .int (nI (y * x))), (0, .int (nI 7)), (1, .int (nI x)), (2, .int (nI y))]) hx hb dX3_getDataMaskBit_134 hl (by decide) rfl (fun ls hl => ?_)
    refine lv_iload hx hb dX3_getDataMaskBit_136 (lv_at hl 0 rfl) ?_
    refine lv_iconst (v := nI 3) hx hb dX3_getDataMaskBit_138 (by decide) ?_
    refine z_irem (v := nI ((y * x) % 3)) hx hb dX3_getDataMaskBit_139 (by decide) (pk_rem (by omega) (by decide) (by decide)) ?_
    refine lv_iload_n hx hb dX3_getDataMaskBit_140 rfl (lv_at hl 3 rfl) ?_
    refine lv_iload_n hx hb dX3_getDataMaskBit_141 rfl (lv_at hl 2 rfl) ?_
    refine z_iadd (v := nI (y + x)) hx hb dX3_getDataMaskBit_142 (nI_add _ _) ?_
    refine lv_iconst (v := nI 1) hx hb dX3_getDataMaskBit_143 (by decide) ?_
    refine z_iand (v := nI ((y + x) % 2)) hx hb dX3_getDataMaskBit_144 (anN1 _ (by omega)) ?_
    refine z_iadd (v := nI ((y * x) % 3 + ((y + x) % 2))) hx hb dX3_getDataMaskBit_145 (nI_add _ _) ?_
    refine lv_iconst (v := nI 1) hx hb dX3_getDataMaskBit_146 (by decide) ?_
    refine z_iand (v := nI (((y * x) % 3 + ((y + x) % 2)) % 2)) hx hb dX3_getDataMaskBit_147 (anN1 _ (by omega)) ?_
    refine lv_istore_n (lv' := [(3, .int (nI (((y * x) % 3 + ((y + x) % 2)) % 2))), (4, .int (nI (y * x))), (0, .int (nI 7)), (1, .int (nI x)), (2, .int (nI y))]) hx hb dX3_getDataMaskBit_148 rfl hl (by decide) rfl (fun ls hl => ?_)
    refine lv_goto (tgt := 162) hx hb dX3_getDataMaskBit_149 (by decide) ?_
    exact k162 (((y * x) % 3 + ((y + x) % 2)) % 2) (by show ((y * x) % 3 + (y + x) % 2) % 2 = ((x + y) % 2 + (x * y) % 3) % 2; rw [Nat.mul_comm y x, Nat.add_comm y x, Nat.add_comm]) (by omega) ls (lv_sub hl [0] rfl)
end
section
/-! MaskUtil, the four rules: what each counts -/
set_option maxRecDepth 100000
section Z3
variable {p : Program} {l : Launch} {e : Env} {R : Room} {s : State} {m : MethodId} {args : Array Value} {below : List Frame} {meth : Method} {c : Code} {H : Heap} {locs : List Loc} {cells slots : Nat} {Q : State → Prop}
variable {D : va_G} {k : Nat → ClassId} {b g : Nat} {B : Nat → Nat → Bool}
set_option maxHeartbeats 4000000 in
/-- one line: the inner loop -/
theorem lX3_r1in {h : Bool} {i bs : Nat} (C : zC p m c cX3_applyMaskPenaltyRule1Internal 11 s args RX3 D k) (hM : zM D k b g B H) (hi : i < 21)
    (kk : ∀ (P : Nat) (pb : Int32), P + zp (zl (zat B h i) 21) = bs + zr (zat B h i) 21 → ∀ ls : Array Slot, lv_has ls 11 [(0, .ref b), (1, .int (nI h.toNat)), (2, .int (nI P)), (3, .int (nI 21)), (4, .int (nI 21)), (5, .ref g), (6, .int (nI i)), (7, .int (nI (zl (zat B h i) 21))), (8, .int pb), (9, .int (nI 21))] → W p l e R s m args below meth c H locs cells slots Q (F0 m 132 ls [])) :
    ∀ (n j P : Nat), j ≤ 21 → 22 ≤ j + n → P + zp (zl (zat B h i) j) = bs + zr (zat B h i) j → ∀ ls : Array Slot, lv_has ls 11 [(0, .ref b), (1, .int (nI h.toNat)), (2, .int (nI P)), (3, .int (nI 21)), (4, .int (nI 21)), (5, .ref g), (6, .int (nI i)), (7, .int (nI (zl (zat B h i) j))), (8, .int (zpb (zat B h i) j)), (9, .int (nI j))] → W p l e R s m args below meth c H locs cells slots Q (F0 m 59 ls []) := by
  obtain ⟨hx, hb, hml, hown, hts⟩ := C.1
  have hK := C.2
  obtain ⟨hP, hG, hlt⟩ := hM
  intro n
  induction n with
  | zero =>
    intro j P h1 h2
    exact absurd h2 (by omega)
  | succ n ih =>
    intro j P hj hjn hp ls hl
    have hzl := zl_le (zat B h i) j
    refine lv_iload hx hb dX3_applyMaskPenaltyRule1Internal_59 (lv_at hl 9 rfl) ?_
    refine lv_iload hx hb dX3_applyMaskPenaltyRule1Internal_61 (lv_at hl 4 rfl) ?_
    refine z_ige (a := j) (b := 21) (tgt := 132) hx hb dX3_applyMaskPenaltyRule1Internal_63 (by decide) (by omega) (by decide) (fun c1 => ?_) (fun c1 => ?_)
    · have ej : j = 21 := by omega
      subst ej
      exact kk P _ hp ls (lv_sub hl [0, 1, 2, 3, 4, 5, 6, 7, 8, 9] rfl)
    · have k126 : ∀ P1 : Nat, P1 + zp (zl (zat B h i) (j + 1)) = bs + zr (zat B h i) (j + 1) → ∀ ls : Array Slot, lv_has ls 11 [(0, .ref b), (1, .int (nI h.toNat)), (2, .int (nI P1)), (3, .int (nI 21)), (4, .int (nI 21)), (5, .ref g), (6, .int (nI i)), (7, .int (nI (zl (zat B h i) (j + 1)))), (8, .int (zpb (zat B h i) (j + 1))), (9, .int (nI j))] → W p l e R s m args below meth c H locs cells slots Q (F0 m 126 ls []) := by
        intro P1 hp1 ls hl
        refine lv_iinc (v := nI (j + 1)) (lv' := [(9, .int (nI (j + 1))), (0, .ref b), (1, .int (nI h.toNat)), (2, .int (nI P1)), (3, .int (nI 21)), (4, .int (nI 21)), (5, .ref g), (6, .int (nI i)), (7, .int (nI (zl (zat B h i) (j + 1)))), (8, .int (zpb (zat B h i) (j + 1)))]) hx hb dX3_applyMaskPenaltyRule1Internal_126 hl (k := 9) rfl (z_inc _) (by decide) rfl (fun ls hl => ?_)
        refine lv_goto (tgt := 59) hx hb dX3_applyMaskPenaltyRule1Internal_129 (by decide) ?_
        exact ih (j + 1) P1 (by omega) (by omega) hp1 ls (lv_sub hl [1, 2, 3, 4, 5, 6, 7, 8, 9, 0] rfl)
      refine lv_iload_n hx hb dX3_applyMaskPenaltyRule1Internal_66 rfl (lv_at hl 1 rfl) ?_
      suffices hj1 : W p l e R s m args below meth c H locs cells slots Q (F0 m 89 ls [.int (nI (zat B h i j).toNat)]) by
        refine z_beq0 (tgt := 81) hx hb dX3_applyMaskPenaltyRule1Internal_67 (by decide) (fun c2 => ?_) (fun c2 => ?_)
        · refine lv_aload hx hb dX3_applyMaskPenaltyRule1Internal_81 (lv_at hl 5 rfl) ?_
          refine lv_iload hx hb dX3_applyMaskPenaltyRule1Internal_83 (lv_at hl 9 rfl) ?_
          refine zg_row (i := j) hx hb (hK.2 0 _ rfl).1 hG (by omega) dX3_applyMaskPenaltyRule1Internal_85 ?_
          refine lv_iload hx hb dX3_applyMaskPenaltyRule1Internal_86 (lv_at hl 6 rfl) ?_
          refine zg_bld (j := i) hx hb (hK.2 1 _ rfl).1 hG (by omega) (by omega) dX3_applyMaskPenaltyRule1Internal_88 ?_
          exact zt (y := nI (zat B h i j).toNat) (by rw [c2]; rfl) hj1
        · refine lv_aload hx hb dX3_applyMaskPenaltyRule1Internal_70 (lv_at hl 5 rfl) ?_
          refine lv_iload hx hb dX3_applyMaskPenaltyRule1Internal_72 (lv_at hl 6 rfl) ?_
          refine zg_row (i := i) hx hb (hK.2 0 _ rfl).1 hG (by omega) dX3_applyMaskPenaltyRule1Internal_74 ?_
          refine lv_iload hx hb dX3_applyMaskPenaltyRule1Internal_75 (lv_at hl 9 rfl) ?_
          refine zg_bld (j := j) hx hb (hK.2 1 _ rfl).1 hG (by omega) (by omega) dX3_applyMaskPenaltyRule1Internal_77 ?_
          refine lv_goto (tgt := 89) hx hb dX3_applyMaskPenaltyRule1Internal_78 (by decide) ?_
          exact zt (y := nI (zat B h i j).toNat) (by rw [c2]; rfl) hj1
      refine lv_istore (lv' := [(10, .int (nI (zat B h i j).toNat)), (0, .ref b), (1, .int (nI h.toNat)), (2, .int (nI P)), (3, .int (nI 21)), (4, .int (nI 21)), (5, .ref g), (6, .int (nI i)), (7, .int (nI (zl (zat B h i) j))), (8, .int (zpb (zat B h i) j)), (9, .int (nI j))]) hx hb dX3_applyMaskPenaltyRule1Internal_89 hl (by decide) rfl (fun ls hl => ?_)
      refine lv_iload hx hb dX3_applyMaskPenaltyRule1Internal_91 (lv_at hl 0 rfl) ?_
      refine lv_iload hx hb dX3_applyMaskPenaltyRule1Internal_93 (lv_at hl 9 rfl) ?_
      refine lv_icmp_ne (tgt := 104) hx hb dX3_applyMaskPenaltyRule1Internal_95 (by decide) (fun c3 => ?_) (fun c3 => ?_)
      · have q3 : ¬ (j ≠ 0 ∧ (zat B h i) j = (zat B h i) (j - 1)) := fun q => c3 ((zpb_iff (zat B h i) j).mpr q)
        have k119 : ∀ P1 : Nat, P1 = P + zp (zl (zat B h i) j) → ∀ ls : Array Slot, lv_has ls 11 [(0, .ref b), (1, .int (nI h.toNat)), (2, .int (nI P1)), (3, .int (nI 21)), (4, .int (nI 21)), (5, .ref g), (6, .int (nI i)), (7, .int (nI (zl (zat B h i) j))), (8, .int (zpb (zat B h i) j)), (9, .int (nI j)), (10, .int (nI (zat B h i j).toNat))] → W p l e R s m args below meth c H locs cells slots Q (F0 m 119 ls []) := by
          intro P1 hp1 ls hl
          refine lv_iconst (v := nI (zl (zat B h i) (j + 1))) hx hb dX3_applyMaskPenaltyRule1Internal_119 (by rw [zl_no q3]; decide) ?_
          refine lv_istore (lv' := [(7, .int (nI (zl (zat B h i) (j + 1)))), (0, .ref b), (1, .int (nI h.toNat)), (2, .int (nI P1)), (3, .int (nI 21)), (4, .int (nI 21)), (5, .ref g), (6, .int (nI i)), (8, .int (zpb (zat B h i) j)), (9, .int (nI j)), (10, .int (nI (zat B h i j).toNat))]) hx hb dX3_applyMaskPenaltyRule1Internal_120 hl (by decide) rfl (fun ls hl => ?_)
          refine lv_iload hx hb dX3_applyMaskPenaltyRule1Internal_122 (lv_at hl 10 rfl) ?_
          refine zt (y := zpb (zat B h i) (j + 1)) (zpb_succ _ _).symm ?_
          refine lv_istore (lv' := [(8, .int (zpb (zat B h i) (j + 1))), (7, .int (nI (zl (zat B h i) (j + 1)))), (0, .ref b), (1, .int (nI h.toNat)), (2, .int (nI P1)), (3, .int (nI 21)), (4, .int (nI 21)), (5, .ref g), (6, .int (nI i)), (9, .int (nI j)), (10, .int (nI (zat B h i j).toNat))]) hx hb dX3_applyMaskPenaltyRule1Internal_124 hl (by decide) rfl (fun ls hl => ?_)
          exact k126 P1 (zrow_no hp q3 hp1) ls (lv_sub hl [2, 3, 4, 5, 6, 7, 8, 1, 0, 9] rfl)
        refine lv_iload hx hb dX3_applyMaskPenaltyRule1Internal_104 (lv_at hl 8 rfl) ?_
        refine lv_iconst (v := nI 5) hx hb dX3_applyMaskPenaltyRule1Internal_106 (by decide) ?_
        refine z_ilt (a := zl (zat B h i) j) (b := 5) (tgt := 119) hx hb dX3_applyMaskPenaltyRule1Internal_107 (by decide) (by omega) (by decide) (fun c4 => ?_) (fun c4 => ?_)
        · exact k119 P (by unfold zp; rw [if_neg (by omega)]; rfl) ls (lv_sub hl [1, 2, 3, 4, 5, 6, 7, 8, 9, 10, 0] rfl)
        · refine lv_iload_n hx hb dX3_applyMaskPenaltyRule1Internal_110 rfl (lv_at hl 3 rfl) ?_
          refine lv_iconst (v := nI 3) hx hb dX3_applyMaskPenaltyRule1Internal_111 (by decide) ?_
          refine lv_iload hx hb dX3_applyMaskPenaltyRule1Internal_112 (lv_at hl 8 rfl) ?_
          refine lv_iconst (v := nI 5) hx hb dX3_applyMaskPenaltyRule1Internal_114 (by decide) ?_
          refine z_isub (v := nI ((zl (zat B h i) j) - 5)) hx hb dX3_applyMaskPenaltyRule1Internal_115 (pk_sub (by omega)) ?_
          refine z_iadd (v := nI (3 + ((zl (zat B h i) j) - 5))) hx hb dX3_applyMaskPenaltyRule1Internal_116 (nI_add _ _) ?_
          refine z_iadd (v := nI (P + (3 + ((zl (zat B h i) j) - 5)))) hx hb dX3_applyMaskPenaltyRule1Internal_117 (nI_add _ _) ?_
          refine lv_istore_n (lv' := [(2, .int (nI (P + (3 + ((zl (zat B h i) j) - 5))))), (10, .int (nI (zat B h i j).toNat)), (0, .ref b), (1, .int (nI h.toNat)), (3, .int (nI 21)), (4, .int (nI 21)), (5, .ref g), (6, .int (nI i)), (7, .int (nI (zl (zat B h i) j))), (8, .int (zpb (zat B h i) j)), (9, .int (nI j))]) hx hb dX3_applyMaskPenaltyRule1Internal_118 rfl hl (by decide) rfl (fun ls hl => ?_)
          exact k119 _ (by unfold zp; rw [if_pos c4]) ls (lv_sub hl [2, 3, 0, 4, 5, 6, 7, 8, 9, 10, 1] rfl)
      · have q3 : j ≠ 0 ∧ (zat B h i) j = (zat B h i) (j - 1) := (zpb_iff (zat B h i) j).mp c3
        refine lv_iinc (v := nI (zl (zat B h i) (j + 1))) (lv' := [(7, .int (nI (zl (zat B h i) (j + 1)))), (10, .int (nI (zat B h i j).toNat)), (0, .ref b), (1, .int (nI h.toNat)), (2, .int (nI P)), (3, .int (nI 21)), (4, .int (nI 21)), (5, .ref g), (6, .int (nI i)), (8, .int (zpb (zat B h i) j)), (9, .int (nI j))]) hx hb dX3_applyMaskPenaltyRule1Internal_98 hl (k := 8) rfl (by rw [zl_go q3]; exact z_inc _) (by decide) rfl (fun ls hl => ?_)
        refine lv_goto (tgt := 126) hx hb dX3_applyMaskPenaltyRule1Internal_101 (by decide) ?_
        have e8 : zpb (zat B h i) j = zpb (zat B h i) (j + 1) := c3.symm.trans (zpb_succ _ _).symm
        rw [e8] at hl
        exact k126 P (zrow_go hp q3) ls (lv_sub hl [2, 3, 4, 5, 6, 7, 8, 0, 9, 10] rfl)
set_option maxHeartbeats 4000000 in
theorem lX3_r1out {h : Bool} (C : zC p m c cX3_applyMaskPenaltyRule1Internal 11 s args RX3 D k) (hM : zM D k b g B H)
    (kk : ∀ ls : Array Slot, lv_has ls 11 [(0, .ref b), (1, .int (nI h.toNat)), (2, .int (nI (zs (fun i => zr (zat B h i) 21) 21))), (3, .int (nI 21)), (4, .int (nI 21)), (5, .ref g), (6, .int (nI 21))] → W p l e R s m args below meth c H locs cells slots Q (F0 m 153 ls [])) :
    ∀ (n i : Nat), i ≤ 21 → 22 ≤ i + n → ∀ ls : Array Slot, lv_has ls 11 [(0, .ref b), (1, .int (nI h.toNat)), (2, .int (nI (zs (fun i => zr (zat B h i) 21) i))), (3, .int (nI 21)), (4, .int (nI 21)), (5, .ref g), (6, .int (nI i))] → W p l e R s m args below meth c H locs cells slots Q (F0 m 44 ls []) := by
  obtain ⟨hx, hb, hml, hown, hts⟩ := C.1
  intro n
  induction n with
  | zero =>
    intro i h1 h2
    exact absurd h2 (by omega)
  | succ n ih =>
    intro i hi hin ls hl
    refine lv_iload hx hb dX3_applyMaskPenaltyRule1Internal_44 (lv_at hl 6 rfl) ?_
    refine lv_iload_n hx hb dX3_applyMaskPenaltyRule1Internal_46 rfl (lv_at hl 3 rfl) ?_
    refine z_ige (a := i) (b := 21) (tgt := 153) hx hb dX3_applyMaskPenaltyRule1Internal_47 (by decide) (by omega) (by decide) (fun c1 => ?_) (fun c1 => ?_)
    · have ej : i = 21 := by omega
      subst ej
      exact kk ls (lv_sub hl [0, 1, 2, 3, 4, 5, 6] rfl)
    · have k147 : ∀ ls : Array Slot, lv_has ls 11 [(0, .ref b), (1, .int (nI h.toNat)), (2, .int (nI (zs (fun i => zr (zat B h i) 21) (i + 1)))), (3, .int (nI 21)), (4, .int (nI 21)), (5, .ref g), (6, .int (nI i))] → W p l e R s m args below meth c H locs cells slots Q (F0 m 147 ls []) := by
        intro ls hl
        refine lv_iinc (v := nI (i + 1)) (lv' := [(6, .int (nI (i + 1))), (0, .ref b), (1, .int (nI h.toNat)), (2, .int (nI (zs (fun i => zr (zat B h i) 21) (i + 1)))), (3, .int (nI 21)), (4, .int (nI 21)), (5, .ref g)]) hx hb dX3_applyMaskPenaltyRule1Internal_147 hl (k := 6) rfl (z_inc _) (by decide) rfl (fun ls hl => ?_)
        refine lv_goto (tgt := 44) hx hb dX3_applyMaskPenaltyRule1Internal_150 (by decide) ?_
        exact ih (i + 1) (by omega) (by omega) ls (lv_sub hl [1, 2, 3, 4, 5, 6, 0] rfl)
      refine lv_iconst (v := nI 0) hx hb dX3_applyMaskPenaltyRule1Internal_50 (by decide) ?_
      refine lv_istore (lv' := [(7, .int (nI 0)), (0, .ref b), (1, .int (nI h.toNat)), (2, .int (nI (zs (fun i => zr (zat B h i) 21) i))), (3, .int (nI 21)), (4, .int (nI 21)), (5, .ref g), (6, .int (nI i))]) hx hb dX3_applyMaskPenaltyRule1Internal_51 hl (by decide) rfl (fun ls hl => ?_)
      refine lv_iconst (v := (-1)) hx hb dX3_applyMaskPenaltyRule1Internal_53 (by decide) ?_
      refine lv_istore (lv' := [(8, .int (-1)), (7, .int (nI 0)), (0, .ref b), (1, .int (nI h.toNat)), (2, .int (nI (zs (fun i => zr (zat B h i) 21) i))), (3, .int (nI 21)), (4, .int (nI 21)), (5, .ref g), (6, .int (nI i))]) hx hb dX3_applyMaskPenaltyRule1Internal_54 hl (by decide) rfl (fun ls hl => ?_)
      refine lv_iconst (v := nI 0) hx hb dX3_applyMaskPenaltyRule1Internal_56 (by decide) ?_
      refine lv_istore (lv' := [(9, .int (nI 0)), (8, .int (-1)), (7, .int (nI 0)), (0, .ref b), (1, .int (nI h.toNat)), (2, .int (nI (zs (fun i => zr (zat B h i) 21) i))), (3, .int (nI 21)), (4, .int (nI 21)), (5, .ref g), (6, .int (nI i))]) hx hb dX3_applyMaskPenaltyRule1Internal_57 hl (by decide) rfl (fun ls hl => ?_)
      refine lX3_r1in (bs := zs (fun i => zr (zat B h i) 21) i) C hM (by omega) (fun P pb hp ls hl => ?_) 22 0 (zs (fun i => zr (zat B h i) 21) i) (by omega) (by omega) (by rfl) ls (lv_sub hl [3, 4, 5, 6, 7, 8, 9, 2, 1, 0] rfl)
      have hzl := zl_le (zat B h i) 21
      refine lv_iload hx hb dX3_applyMaskPenaltyRule1Internal_132 (lv_at hl 7 rfl) ?_
      refine lv_iconst (v := nI 5) hx hb dX3_applyMaskPenaltyRule1Internal_134 (by decide) ?_
      refine z_ilt (a := zl (zat B h i) 21) (b := 5) (tgt := 147) hx hb dX3_applyMaskPenaltyRule1Internal_135 (by decide) (by omega) (by decide) (fun c2 => ?_) (fun c2 => ?_)
      · have ep : P = zs (fun i => zr (zat B h i) 21) (i + 1) := by
          have h0 : zp (zl (zat B h i) 21) = 0 := by unfold zp; rw [if_neg (by omega)]
          rw [h0] at hp
          exact hp
        rw [ep] at hl
        exact k147 ls (lv_sub hl [0, 1, 2, 3, 4, 5, 6] rfl)
      · refine lv_iload_n hx hb dX3_applyMaskPenaltyRule1Internal_138 rfl (lv_at hl 2 rfl) ?_
        refine lv_iconst (v := nI 3) hx hb dX3_applyMaskPenaltyRule1Internal_139 (by decide) ?_
        refine lv_iload hx hb dX3_applyMaskPenaltyRule1Internal_140 (lv_at hl 7 rfl) ?_
        refine lv_iconst (v := nI 5) hx hb dX3_applyMaskPenaltyRule1Internal_142 (by decide) ?_
        refine z_isub (v := nI ((zl (zat B h i) 21) - 5)) hx hb dX3_applyMaskPenaltyRule1Internal_143 (pk_sub (by omega)) ?_
        refine z_iadd (v := nI (3 + ((zl (zat B h i) 21) - 5))) hx hb dX3_applyMaskPenaltyRule1Internal_144 (nI_add _ _) ?_
        refine z_iadd (v := nI (P + (3 + ((zl (zat B h i) 21) - 5)))) hx hb dX3_applyMaskPenaltyRule1Internal_145 (nI_add _ _) ?_
        refine lv_istore_n (lv' := [(2, .int (nI (P + (3 + ((zl (zat B h i) 21) - 5))))), (0, .ref b), (1, .int (nI h.toNat)), (3, .int (nI 21)), (4, .int (nI 21)), (5, .ref g), (6, .int (nI i)), (7, .int (nI (zl (zat B h i) 21))), (8, .int pb), (9, .int (nI 21))]) hx hb dX3_applyMaskPenaltyRule1Internal_146 rfl hl (by decide) rfl (fun ls hl => ?_)
        have ep : P + (3 + ((zl (zat B h i) 21) - 5)) = zs (fun i => zr (zat B h i) 21) (i + 1) := by
          have h0 : zp (zl (zat B h i) 21) = 3 + (zl (zat B h i) 21 - 5) := by unfold zp; rw [if_pos c2]
          rw [h0] at hp
          exact hp
        rw [ep] at hl
        exact k147 ls (lv_sub hl [1, 2, 0, 3, 4, 5, 6] rfl)
end Z3
set_option maxHeartbeats 4000000 in
theorem mX3_r1 (l : Launch) (D : va_G) (k : Nat → ClassId) (b g : Nat) (B : Nat → Nat → Bool) (h : Bool) : zRead l yX3_applyMaskPenaltyRule1Internal cX3_applyMaskPenaltyRule1Internal 11 (some .int) 1 20 D k [.ref b, .int (nI h.toNat)] (zM D k b g B) (some (.int (nI (zr1 B h)))) := by
  refine zRead.of (by decide) (Nat.le_of_ble_eq_true rfl) ?_
  intro p e s m below meth c ls C hR hr hlk hM hl
  obtain ⟨hx, hb, hml, hown, hts⟩ := C.1
  have hown : s.vm.findClass RX3 = some m.cls := hown
  have hK := C.2
  obtain ⟨hP, hG, hlt⟩ := id hM
  have hl : lv_has ls 11 [(0, .ref b), (1, .int (nI h.toNat))] := hl
  refine lv_iconst (v := nI 0) hx hb dX3_applyMaskPenaltyRule1Internal_0 (by decide) ?_
  refine lv_istore_n (lv' := [(2, .int (nI 0)), (0, .ref b), (1, .int (nI h.toNat))]) hx hb dX3_applyMaskPenaltyRule1Internal_1 rfl hl (by decide) rfl (fun ls hl => ?_)
  refine lv_iload_n hx hb dX3_applyMaskPenaltyRule1Internal_2 rfl (lv_at hl 2 rfl) ?_
  suffices hj2 : W p l e (zrm 1 20) s m ([.ref b, .int (nI h.toNat)] : List Value).toArray below meth c s.heap [] 0 0 (MQ below (zq (some (.int (nI (zr1 B h))))) ([.ref b, .int (nI h.toNat)] : List Value).toArray s 0 0 (fun _ => False)) (F0 m 17 ls [.int (nI 21)]) by
    refine z_beq0 (tgt := 13) hx hb dX3_applyMaskPenaltyRule1Internal_3 (by decide) (fun c3 => ?_) (fun c3 => ?_)
    · refine lv_aload_n hx hb dX3_applyMaskPenaltyRule1Internal_13 rfl (lv_at hl 1 rfl) ?_
      refine zcallV (n := 0) (b := b) (av := []) (rest := []) (v := some (.int (nI 21))) C (mX2_getWidth l D k b g B) q162 q163 q164 q3 q165 (by decide +kernel) hR (by decide) rfl hl.1 rfl (Nat.le_of_ble_eq_true rfl) (hM.recv hK) hM dX3_applyMaskPenaltyRule1Internal_14 ?_
      exact hj2
    · refine lv_aload_n hx hb dX3_applyMaskPenaltyRule1Internal_6 rfl (lv_at hl 1 rfl) ?_
      refine zcallV (n := 0) (b := b) (av := []) (rest := []) (v := some (.int (nI 21))) C (mX2_getHeight l D k b g B) q166 q167 q168 q3 q169 (by decide +kernel) hR (by decide) rfl hl.1 rfl (Nat.le_of_ble_eq_true rfl) (hM.recv hK) hM dX3_applyMaskPenaltyRule1Internal_7 ?_
      refine lv_goto (tgt := 17) hx hb dX3_applyMaskPenaltyRule1Internal_10 (by decide) ?_
      exact hj2
  refine lv_istore_n (lv' := [(3, .int (nI 21)), (2, .int (nI 0)), (0, .ref b), (1, .int (nI h.toNat))]) hx hb dX3_applyMaskPenaltyRule1Internal_17 rfl hl (by decide) rfl (fun ls hl => ?_)
  refine lv_iload_n hx hb dX3_applyMaskPenaltyRule1Internal_18 rfl (lv_at hl 3 rfl) ?_
  suffices hj4 : W p l e (zrm 1 20) s m ([.ref b, .int (nI h.toNat)] : List Value).toArray below meth c s.heap [] 0 0 (MQ below (zq (some (.int (nI (zr1 B h))))) ([.ref b, .int (nI h.toNat)] : List Value).toArray s 0 0 (fun _ => False)) (F0 m 33 ls [.int (nI 21)]) by
    refine z_beq0 (tgt := 29) hx hb dX3_applyMaskPenaltyRule1Internal_19 (by decide) (fun c5 => ?_) (fun c5 => ?_)
    · refine lv_aload_n hx hb dX3_applyMaskPenaltyRule1Internal_29 rfl (lv_at hl 2 rfl) ?_
      refine zcallV (n := 0) (b := b) (av := []) (rest := []) (v := some (.int (nI 21))) C (mX2_getHeight l D k b g B) q166 q167 q168 q3 q169 (by decide +kernel) hR (by decide) rfl hl.1 rfl (Nat.le_of_ble_eq_true rfl) (hM.recv hK) hM dX3_applyMaskPenaltyRule1Internal_30 ?_
      exact hj4
    · refine lv_aload_n hx hb dX3_applyMaskPenaltyRule1Internal_22 rfl (lv_at hl 2 rfl) ?_
      refine zcallV (n := 0) (b := b) (av := []) (rest := []) (v := some (.int (nI 21))) C (mX2_getWidth l D k b g B) q162 q163 q164 q3 q165 (by decide +kernel) hR (by decide) rfl hl.1 rfl (Nat.le_of_ble_eq_true rfl) (hM.recv hK) hM dX3_applyMaskPenaltyRule1Internal_23 ?_
      refine lv_goto (tgt := 33) hx hb dX3_applyMaskPenaltyRule1Internal_26 (by decide) ?_
      exact hj4
  refine lv_istore (lv' := [(4, .int (nI 21)), (3, .int (nI 21)), (2, .int (nI 0)), (0, .ref b), (1, .int (nI h.toNat))]) hx hb dX3_applyMaskPenaltyRule1Internal_33 hl (by decide) rfl (fun ls hl => ?_)
  refine lv_aload_n hx hb dX3_applyMaskPenaltyRule1Internal_35 rfl (lv_at hl 3 rfl) ?_
  refine zcallV (n := 0) (b := b) (av := []) (rest := []) (v := some (.ref g)) C (mX2_getArray l D k b g B) q158 q159 q160 q3 q161 (by decide +kernel) hR (by decide) rfl hl.1 rfl (Nat.le_of_ble_eq_true rfl) (hM.recv hK) hM dX3_applyMaskPenaltyRule1Internal_36 ?_
  refine lv_astore (lv' := [(5, .ref g), (4, .int (nI 21)), (3, .int (nI 21)), (2, .int (nI 0)), (0, .ref b), (1, .int (nI h.toNat))]) hx hb dX3_applyMaskPenaltyRule1Internal_39 hl (by decide) rfl (fun ls hl => ?_)
  refine lv_iconst (v := nI 0) hx hb dX3_applyMaskPenaltyRule1Internal_41 (by decide) ?_
  refine lv_istore (lv' := [(6, .int (nI 0)), (5, .ref g), (4, .int (nI 21)), (3, .int (nI 21)), (2, .int (nI 0)), (0, .ref b), (1, .int (nI h.toNat))]) hx hb dX3_applyMaskPenaltyRule1Internal_42 hl (by decide) rfl (fun ls hl => ?_)
  refine lX3_r1out C hM (fun ls hl => ?_) 22 0 (by omega) (by omega) ls (lv_sub hl [5, 6, 4, 3, 2, 1, 0] rfl)
  refine lv_iload_n hx hb dX3_applyMaskPenaltyRule1Internal_153 rfl (lv_at hl 2 rfl) ?_
  exact zri hx hb hr hlk dX3_applyMaskPenaltyRule1Internal_154
set_option maxHeartbeats 4000000 in
theorem mX3_rule1 (l : Launch) (D : va_G) (k : Nat → ClassId) (b g : Nat) (B : Nat → Nat → Bool) : zRead l yX3_applyMaskPenaltyRule1 cX3_applyMaskPenaltyRule1 1 (some .int) 2 50 D k [.ref b] (zM D k b g B) (some (.int (nI (zr1 B true + zr1 B false)))) := by
  refine zRead.of (by decide) (Nat.le_of_ble_eq_true rfl) ?_
  intro p e s m below meth c ls C hR hr hlk hM hl
  obtain ⟨hx, hb, hml, hown, hts⟩ := C.1
  have hown : s.vm.findClass RX3 = some m.cls := hown
  have hK := C.2
  obtain ⟨hP, hG, hlt⟩ := id hM
  have hl : lv_has ls 1 [(0, .ref b)] := hl
  refine lv_aload_n hx hb dX3_applyMaskPenaltyRule1_0 rfl (lv_at hl 0 rfl) ?_
  refine lv_iconst (v := nI 1) hx hb dX3_applyMaskPenaltyRule1_1 (by decide) ?_
  refine zcallS (n := 2) (av := [.ref b, .int (nI true.toNat)]) (rest := []) (v := some (.int (nI (zr1 B true)))) C (mX3_r1 l D k b g B true) q192 q193 q4 q194 (by decide +kernel) hR (by decide) rfl hl.1 rfl (Nat.le_of_ble_eq_true rfl) hM dX3_applyMaskPenaltyRule1_2 ?_
  refine lv_aload_n hx hb dX3_applyMaskPenaltyRule1_5 rfl (lv_at hl 0 rfl) ?_
  refine lv_iconst (v := nI 0) hx hb dX3_applyMaskPenaltyRule1_6 (by decide) ?_
  refine zcallS (n := 2) (av := [.ref b, .int (nI false.toNat)]) (rest := [.int (nI (zr1 B true))]) (v := some (.int (nI (zr1 B false)))) C (mX3_r1 l D k b g B false) q192 q193 q4 q194 (by decide +kernel) hR (by decide) rfl hl.1 rfl (Nat.le_of_ble_eq_true rfl) hM dX3_applyMaskPenaltyRule1_7 ?_
  refine z_iadd (v := nI (zr1 B true + (zr1 B false))) hx hb dX3_applyMaskPenaltyRule1_10 (nI_add _ _) ?_
  exact zri hx hb hr hlk dX3_applyMaskPenaltyRule1_11
section Z3
variable {p : Program} {l : Launch} {e : Env} {R : Room} {s : State} {m : MethodId} {args : Array Value} {below : List Frame} {meth : Method} {c : Code} {H : Heap} {locs : List Loc} {cells slots : Nat} {Q : State → Prop}
variable {D : va_G} {k : Nat → ClassId} {b g : Nat} {B : Nat → Nat → Bool}
set_option maxHeartbeats 4000000 in
theorem lX3_r2in {y bs : Nat} (C : zC p m c cX3_applyMaskPenaltyRule2 9 s args RX3 D k) (hM : zM D k b g B H) (hy : y < 20)
    (kk : ∀ ls : Array Slot, lv_has ls 9 [(0, .ref b), (1, .int (nI (bs + zs (fun x => (zsq B x y).toNat) 20))), (2, .ref g), (3, .int (nI 21)), (4, .int (nI 21)), (5, .int (nI y)), (6, .ref (g + 1 + y)), (7, .int (nI 20))] → W p l e R s m args below meth c H locs cells slots Q (F0 m 105 ls [])) :
    ∀ (n x : Nat), x ≤ 20 → 21 ≤ x + n → ∀ ls : Array Slot, lv_has ls 9 [(0, .ref b), (1, .int (nI (bs + zs (fun x => (zsq B x y).toNat) x))), (2, .ref g), (3, .int (nI 21)), (4, .int (nI 21)), (5, .int (nI y)), (6, .ref (g + 1 + y)), (7, .int (nI x))] → W p l e R s m args below meth c H locs cells slots Q (F0 m 39 ls []) := by
  obtain ⟨hx, hb, hml, hown, hts⟩ := C.1
  have hK := C.2
  obtain ⟨hP, hG, hlt⟩ := hM
  intro n
  induction n with
  | zero =>
    intro x h1 h2
    exact absurd h2 (by omega)
  | succ n ih =>
    intro x hj hjn ls hl
    refine lv_iload hx hb dX3_applyMaskPenaltyRule2_39 (lv_at hl 7 rfl) ?_
    refine lv_iload_n hx hb dX3_applyMaskPenaltyRule2_41 rfl (lv_at hl 3 rfl) ?_
    refine lv_iconst (v := nI 1) hx hb dX3_applyMaskPenaltyRule2_42 (by decide) ?_
    refine z_isub (v := nI (21 - 1)) hx hb dX3_applyMaskPenaltyRule2_43 (pk_sub (by omega)) ?_
    refine z_ige (a := x) (b := 21 - 1) (tgt := 105) hx hb dX3_applyMaskPenaltyRule2_44 (by decide) (by omega) (by omega) (fun c1 => ?_) (fun c1 => ?_)
    · have ej : x = 20 := by omega
      subst ej
      exact kk ls (lv_sub hl [0, 1, 2, 3, 4, 5, 6, 7] rfl)
    · have k99 : ∀ d : Bool, zsq B x y = d → ∀ ls : Array Slot, lv_has ls 9 [(0, .ref b), (1, .int (nI (bs + zs (fun x => (zsq B x y).toNat) x + d.toNat))), (2, .ref g), (3, .int (nI 21)), (4, .int (nI 21)), (5, .int (nI y)), (6, .ref (g + 1 + y)), (7, .int (nI x))] → W p l e R s m args below meth c H locs cells slots Q (F0 m 99 ls []) := by
        intro d hd ls hl
        refine lv_iinc (v := nI (x + 1)) (lv' := [(7, .int (nI (x + 1))), (0, .ref b), (1, .int (nI (bs + zs (fun x => (zsq B x y).toNat) x + d.toNat))), (2, .ref g), (3, .int (nI 21)), (4, .int (nI 21)), (5, .int (nI y)), (6, .ref (g + 1 + y))]) hx hb dX3_applyMaskPenaltyRule2_99 hl (k := 7) rfl (z_inc _) (by decide) rfl (fun ls hl => ?_)
        refine lv_goto (tgt := 39) hx hb dX3_applyMaskPenaltyRule2_102 (by decide) ?_
        have ed : bs + zs (fun x => (zsq B x y).toNat) x + d.toNat = bs + zs (fun x => (zsq B x y).toNat) (x + 1) := by
          rw [← hd]
          exact Nat.add_assoc _ _ _
        rw [ed] at hl
        exact ih (x + 1) (by omega) (by omega) ls (lv_sub hl [1, 2, 3, 4, 5, 6, 7, 0] rfl)
      refine lv_aload hx hb dX3_applyMaskPenaltyRule2_47 (lv_at hl 6 rfl) ?_
      refine lv_iload hx hb dX3_applyMaskPenaltyRule2_49 (lv_at hl 7 rfl) ?_
      refine zg_bld (j := x) hx hb (hK.2 1 _ rfl).1 hG (by omega) (by omega) dX3_applyMaskPenaltyRule2_51 ?_
      refine lv_istore (lv' := [(8, .int (nI (B x y).toNat)), (0, .ref b), (1, .int (nI (bs + zs (fun x => (zsq B x y).toNat) x))), (2, .ref g), (3, .int (nI 21)), (4, .int (nI 21)), (5, .int (nI y)), (6, .ref (g + 1 + y)), (7, .int (nI x))]) hx hb dX3_applyMaskPenaltyRule2_52 hl (by decide) rfl (fun ls hl => ?_)
      refine lv_iload hx hb dX3_applyMaskPenaltyRule2_54 (lv_at hl 0 rfl) ?_
      refine lv_aload hx hb dX3_applyMaskPenaltyRule2_56 (lv_at hl 7 rfl) ?_
      refine lv_iload hx hb dX3_applyMaskPenaltyRule2_58 (lv_at hl 8 rfl) ?_
      refine lv_iconst (v := nI 1) hx hb dX3_applyMaskPenaltyRule2_60 (by decide) ?_
      refine z_iadd (v := nI (x + 1)) hx hb dX3_applyMaskPenaltyRule2_61 (nI_add _ _) ?_
      refine zg_bld (j := x + 1) hx hb (hK.2 1 _ rfl).1 hG (by omega) (by omega) dX3_applyMaskPenaltyRule2_62 ?_
      refine z_bne (tgt := 99) hx hb dX3_applyMaskPenaltyRule2_63 (by decide) (fun e6 => ?_) (fun e6 => ?_)
      · exact k99 false (decide_eq_false (fun q => e6 q.1)) ls (lv_sub hl [1, 2, 3, 4, 5, 6, 7, 8] rfl)
      · refine lv_iload hx hb dX3_applyMaskPenaltyRule2_66 (lv_at hl 0 rfl) ?_
        refine lv_aload_n hx hb dX3_applyMaskPenaltyRule2_68 rfl (lv_at hl 3 rfl) ?_
        refine lv_iload hx hb dX3_applyMaskPenaltyRule2_69 (lv_at hl 6 rfl) ?_
        refine lv_iconst (v := nI 1) hx hb dX3_applyMaskPenaltyRule2_71 (by decide) ?_
        refine z_iadd (v := nI (y + 1)) hx hb dX3_applyMaskPenaltyRule2_72 (nI_add _ _) ?_
        refine zg_row (i := y + 1) hx hb (hK.2 0 _ rfl).1 hG (by omega) dX3_applyMaskPenaltyRule2_73 ?_
        refine lv_iload hx hb dX3_applyMaskPenaltyRule2_74 (lv_at hl 8 rfl) ?_
        refine zg_bld (j := x) hx hb (hK.2 1 _ rfl).1 hG (by omega) (by omega) dX3_applyMaskPenaltyRule2_76 ?_
        refine z_bne (tgt := 99) hx hb dX3_applyMaskPenaltyRule2_77 (by decide) (fun e7 => ?_) (fun e7 => ?_)
        · exact k99 false (decide_eq_false (fun q => e7 q.2.1)) ls (lv_sub hl [1, 2, 3, 4, 5, 6, 7, 8] rfl)
        · refine lv_iload hx hb dX3_applyMaskPenaltyRule2_80 (lv_at hl 0 rfl) ?_
          refine lv_aload_n hx hb dX3_applyMaskPenaltyRule2_82 rfl (lv_at hl 3 rfl) ?_
          refine lv_iload hx hb dX3_applyMaskPenaltyRule2_83 (lv_at hl 6 rfl) ?_
          refine lv_iconst (v := nI 1) hx hb dX3_applyMaskPenaltyRule2_85 (by decide) ?_
          refine z_iadd (v := nI (y + 1)) hx hb dX3_applyMaskPenaltyRule2_86 (nI_add _ _) ?_
          refine zg_row (i := y + 1) hx hb (hK.2 0 _ rfl).1 hG (by omega) dX3_applyMaskPenaltyRule2_87 ?_
          refine lv_iload hx hb dX3_applyMaskPenaltyRule2_88 (lv_at hl 8 rfl) ?_
          refine lv_iconst (v := nI 1) hx hb dX3_applyMaskPenaltyRule2_90 (by decide) ?_
          refine z_iadd (v := nI (x + 1)) hx hb dX3_applyMaskPenaltyRule2_91 (nI_add _ _) ?_
          refine zg_bld (j := x + 1) hx hb (hK.2 1 _ rfl).1 hG (by omega) (by omega) dX3_applyMaskPenaltyRule2_92 ?_
          refine z_bne (tgt := 99) hx hb dX3_applyMaskPenaltyRule2_93 (by decide) (fun e8 => ?_) (fun e8 => ?_)
          · exact k99 false (decide_eq_false (fun q => e8 q.2.2)) ls (lv_sub hl [1, 2, 3, 4, 5, 6, 7, 8] rfl)
          · refine lv_iinc (v := nI (bs + zs (fun x => (zsq B x y).toNat) x + true.toNat)) (lv' := [(1, .int (nI (bs + zs (fun x => (zsq B x y).toNat) x + true.toNat))), (8, .int (nI (B x y).toNat)), (0, .ref b), (2, .ref g), (3, .int (nI 21)), (4, .int (nI 21)), (5, .int (nI y)), (6, .ref (g + 1 + y)), (7, .int (nI x))]) hx hb dX3_applyMaskPenaltyRule2_96 hl (k := 2) rfl (z_inc _) (by decide) rfl (fun ls hl => ?_)
            exact k99 true (decide_eq_true ⟨e6, e7, e8⟩) ls (lv_sub hl [2, 0, 3, 4, 5, 6, 7, 8] rfl)
set_option maxHeartbeats 4000000 in
theorem lX3_r2out (C : zC p m c cX3_applyMaskPenaltyRule2 9 s args RX3 D k) (hM : zM D k b g B H)
    (kk : ∀ ls : Array Slot, lv_has ls 9 [(0, .ref b), (1, .int (nI (zs (fun y => zs (fun x => (zsq B x y).toNat) 20) 20))), (2, .ref g), (3, .int (nI 21)), (4, .int (nI 21)), (5, .int (nI 20))] → W p l e R s m args below meth c H locs cells slots Q (F0 m 111 ls [])) :
    ∀ (n y : Nat), y ≤ 20 → 21 ≤ y + n → ∀ ls : Array Slot, lv_has ls 9 [(0, .ref b), (1, .int (nI (zs (fun y => zs (fun x => (zsq B x y).toNat) 20) y))), (2, .ref g), (3, .int (nI 21)), (4, .int (nI 21)), (5, .int (nI y))] → W p l e R s m args below meth c H locs cells slots Q (F0 m 21 ls []) := by
  obtain ⟨hx, hb, hml, hown, hts⟩ := C.1
  have hK := C.2
  obtain ⟨hP, hG, hlt⟩ := id hM
  intro n
  induction n with
  | zero =>
    intro y h1 h2
    exact absurd h2 (by omega)
  | succ n ih =>
    intro y hj hjn ls hl
    refine lv_iload hx hb dX3_applyMaskPenaltyRule2_21 (lv_at hl 5 rfl) ?_
    refine lv_iload hx hb dX3_applyMaskPenaltyRule2_23 (lv_at hl 4 rfl) ?_
    refine lv_iconst (v := nI 1) hx hb dX3_applyMaskPenaltyRule2_25 (by decide) ?_
    refine z_isub (v := nI (21 - 1)) hx hb dX3_applyMaskPenaltyRule2_26 (pk_sub (by omega)) ?_
    refine z_ige (a := y) (b := 21 - 1) (tgt := 111) hx hb dX3_applyMaskPenaltyRule2_27 (by decide) (by omega) (by omega) (fun c1 => ?_) (fun c1 => ?_)
    · have ej : y = 20 := by omega
      subst ej
      exact kk ls (lv_sub hl [0, 1, 2, 3, 4, 5] rfl)
    · refine lv_aload_n hx hb dX3_applyMaskPenaltyRule2_30 rfl (lv_at hl 2 rfl) ?_
      refine lv_iload hx hb dX3_applyMaskPenaltyRule2_31 (lv_at hl 5 rfl) ?_
      refine zg_row (i := y) hx hb (hK.2 0 _ rfl).1 hG (by omega) dX3_applyMaskPenaltyRule2_33 ?_
      refine lv_astore (lv' := [(6, .ref (g + 1 + y)), (0, .ref b), (1, .int (nI (zs (fun y => zs (fun x => (zsq B x y).toNat) 20) y))), (2, .ref g), (3, .int (nI 21)), (4, .int (nI 21)), (5, .int (nI y))]) hx hb dX3_applyMaskPenaltyRule2_34 hl (by decide) rfl (fun ls hl => ?_)
      refine lv_iconst (v := nI 0) hx hb dX3_applyMaskPenaltyRule2_36 (by decide) ?_
      refine lv_istore (lv' := [(7, .int (nI 0)), (6, .ref (g + 1 + y)), (0, .ref b), (1, .int (nI (zs (fun y => zs (fun x => (zsq B x y).toNat) 20) y))), (2, .ref g), (3, .int (nI 21)), (4, .int (nI 21)), (5, .int (nI y))]) hx hb dX3_applyMaskPenaltyRule2_37 hl (by decide) rfl (fun ls hl => ?_)
      refine lX3_r2in (y := y) (bs := zs (fun y => zs (fun x => (zsq B x y).toNat) 20) y) C hM (by omega) (fun ls hl => ?_) 21 0 (by omega) (by omega) ls (lv_sub hl [2, 3, 4, 5, 6, 7, 1, 0] rfl)
      refine lv_iinc (v := nI (y + 1)) (lv' := [(5, .int (nI (y + 1))), (0, .ref b), (1, .int (nI (zs (fun y => zs (fun x => (zsq B x y).toNat) 20) y + zs (fun x => (zsq B x y).toNat) 20))), (2, .ref g), (3, .int (nI 21)), (4, .int (nI 21)), (6, .ref (g + 1 + y)), (7, .int (nI 20))]) hx hb dX3_applyMaskPenaltyRule2_105 hl (k := 5) rfl (z_inc _) (by decide) rfl (fun ls hl => ?_)
      refine lv_goto (tgt := 21) hx hb dX3_applyMaskPenaltyRule2_108 (by decide) ?_
      exact ih (y + 1) (by omega) (by omega) ls (lv_sub hl [1, 2, 3, 4, 5, 0] rfl)
end Z3
set_option maxHeartbeats 4000000 in
theorem mX3_rule2 (l : Launch) (D : va_G) (k : Nat → ClassId) (b g : Nat) (B : Nat → Nat → Bool) : zRead l yX3_applyMaskPenaltyRule2 cX3_applyMaskPenaltyRule2 9 (some .int) 1 20 D k [.ref b] (zM D k b g B) (some (.int (nI (3 * zr2 B)))) := by
  refine zRead.of (by decide) (Nat.le_of_ble_eq_true rfl) ?_
  intro p e s m below meth c ls C hR hr hlk hM hl
  obtain ⟨hx, hb, hml, hown, hts⟩ := C.1
  have hown : s.vm.findClass RX3 = some m.cls := hown
  have hK := C.2
  obtain ⟨hP, hG, hlt⟩ := id hM
  have hl : lv_has ls 9 [(0, .ref b)] := hl
  refine lv_iconst (v := nI 0) hx hb dX3_applyMaskPenaltyRule2_0 (by decide) ?_
  refine lv_istore_n (lv' := [(1, .int (nI 0)), (0, .ref b)]) hx hb dX3_applyMaskPenaltyRule2_1 rfl hl (by decide) rfl (fun ls hl => ?_)
  refine lv_aload_n hx hb dX3_applyMaskPenaltyRule2_2 rfl (lv_at hl 1 rfl) ?_
  refine zcallV (n := 0) (b := b) (av := []) (rest := []) (v := some (.ref g)) C (mX2_getArray l D k b g B) q158 q159 q160 q3 q161 (by decide +kernel) hR (by decide) rfl hl.1 rfl (Nat.le_of_ble_eq_true rfl) (hM.recv hK) hM dX3_applyMaskPenaltyRule2_3 ?_
  refine lv_astore_n (lv' := [(2, .ref g), (1, .int (nI 0)), (0, .ref b)]) hx hb dX3_applyMaskPenaltyRule2_6 rfl hl (by decide) rfl (fun ls hl => ?_)
  refine lv_aload_n hx hb dX3_applyMaskPenaltyRule2_7 rfl (lv_at hl 2 rfl) ?_
  refine zcallV (n := 0) (b := b) (av := []) (rest := []) (v := some (.int (nI 21))) C (mX2_getWidth l D k b g B) q162 q163 q164 q3 q165 (by decide +kernel) hR (by decide) rfl hl.1 rfl (Nat.le_of_ble_eq_true rfl) (hM.recv hK) hM dX3_applyMaskPenaltyRule2_8 ?_
  refine lv_istore_n (lv' := [(3, .int (nI 21)), (2, .ref g), (1, .int (nI 0)), (0, .ref b)]) hx hb dX3_applyMaskPenaltyRule2_11 rfl hl (by decide) rfl (fun ls hl => ?_)
  refine lv_aload_n hx hb dX3_applyMaskPenaltyRule2_12 rfl (lv_at hl 3 rfl) ?_
  refine zcallV (n := 0) (b := b) (av := []) (rest := []) (v := some (.int (nI 21))) C (mX2_getHeight l D k b g B) q166 q167 q168 q3 q169 (by decide +kernel) hR (by decide) rfl hl.1 rfl (Nat.le_of_ble_eq_true rfl) (hM.recv hK) hM dX3_applyMaskPenaltyRule2_13 ?_
  refine lv_istore (lv' := [(4, .int (nI 21)), (3, .int (nI 21)), (2, .ref g), (1, .int (nI 0)), (0, .ref b)]) hx hb dX3_applyMaskPenaltyRule2_16 hl (by decide) rfl (fun ls hl => ?_)
  refine lv_iconst (v := nI 0) hx hb dX3_applyMaskPenaltyRule2_18 (by decide) ?_
  refine lv_istore (lv' := [(5, .int (nI 0)), (4, .int (nI 21)), (3, .int (nI 21)), (2, .ref g), (1, .int (nI 0)), (0, .ref b)]) hx hb dX3_applyMaskPenaltyRule2_19 hl (by decide) rfl (fun ls hl => ?_)
  refine lX3_r2out C hM (fun ls hl => ?_) 21 0 (by omega) (by omega) ls (lv_sub hl [5, 4, 3, 2, 1, 0] rfl)
  refine lv_iconst (v := nI 3) hx hb dX3_applyMaskPenaltyRule2_111 (by decide) ?_
  refine lv_iload_n hx hb dX3_applyMaskPenaltyRule2_112 rfl (lv_at hl 1 rfl) ?_
  refine z_imul (v := nI (3 * (zr2 B))) hx hb dX3_applyMaskPenaltyRule2_113 (pk_mul _ _) ?_
  exact zri hx hb hr hlk dX3_applyMaskPenaltyRule2_114
section Z3
variable {p : Program} {l : Launch} {e : Env} {R : Room} {s : State} {m : MethodId} {args : Array Value} {below : List Frame} {meth : Method} {c : Code} {H : Heap} {locs : List Loc} {cells slots : Nat} {Q : State → Prop}
variable {D : va_G} {k : Nat → ClassId} {b g : Nat} {B : Nat → Nat → Bool}
set_option maxHeartbeats 4000000 in
theorem lX3_r4in {y bs : Nat} (C : zC p m c cX3_applyMaskPenaltyRule4 8 s args RX3 D k) (hM : zM D k b g B H) (hy : y < 21)
    (kk : ∀ ls : Array Slot, lv_has ls 8 [(0, .ref b), (1, .int (nI (bs + zs (fun x => (B x y).toNat) 21))), (2, .ref g), (3, .int (nI 21)), (4, .int (nI 21)), (5, .int (nI y)), (6, .ref (g + 1 + y)), (7, .int (nI 21))] → W p l e R s m args below meth c H locs cells slots Q (F0 m 61 ls [])) :
    ∀ (n x : Nat), x ≤ 21 → 22 ≤ x + n → ∀ ls : Array Slot, lv_has ls 8 [(0, .ref b), (1, .int (nI (bs + zs (fun x => (B x y).toNat) x))), (2, .ref g), (3, .int (nI 21)), (4, .int (nI 21)), (5, .int (nI y)), (6, .ref (g + 1 + y)), (7, .int (nI x))] → W p l e R s m args below meth c H locs cells slots Q (F0 m 37 ls []) := by
  obtain ⟨hx, hb, hml, hown, hts⟩ := C.1
  have hK := C.2
  obtain ⟨hP, hG, hlt⟩ := hM
  intro n
  induction n with
  | zero =>
    intro x h1 h2
    exact absurd h2 (by omega)
  | succ n ih =>
    intro x hj hjn ls hl
    refine lv_iload hx hb dX3_applyMaskPenaltyRule4_37 (lv_at hl 7 rfl) ?_
    refine lv_iload_n hx hb dX3_applyMaskPenaltyRule4_39 rfl (lv_at hl 3 rfl) ?_
    refine z_ige (a := x) (b := 21) (tgt := 61) hx hb dX3_applyMaskPenaltyRule4_40 (by decide) (by omega) (by decide) (fun c1 => ?_) (fun c1 => ?_)
    · have ej : x = 21 := by omega
      subst ej
      exact kk ls (lv_sub hl [0, 1, 2, 3, 4, 5, 6, 7] rfl)
    · have k55 : ∀ d : Bool, B x y = d → ∀ ls : Array Slot, lv_has ls 8 [(0, .ref b), (1, .int (nI (bs + zs (fun x => (B x y).toNat) x + d.toNat))), (2, .ref g), (3, .int (nI 21)), (4, .int (nI 21)), (5, .int (nI y)), (6, .ref (g + 1 + y)), (7, .int (nI x))] → W p l e R s m args below meth c H locs cells slots Q (F0 m 55 ls []) := by
        intro d hd ls hl
        refine lv_iinc (v := nI (x + 1)) (lv' := [(7, .int (nI (x + 1))), (0, .ref b), (1, .int (nI (bs + zs (fun x => (B x y).toNat) x + d.toNat))), (2, .ref g), (3, .int (nI 21)), (4, .int (nI 21)), (5, .int (nI y)), (6, .ref (g + 1 + y))]) hx hb dX3_applyMaskPenaltyRule4_55 hl (k := 7) rfl (z_inc _) (by decide) rfl (fun ls hl => ?_)
        refine lv_goto (tgt := 37) hx hb dX3_applyMaskPenaltyRule4_58 (by decide) ?_
        have ed : bs + zs (fun x => (B x y).toNat) x + d.toNat = bs + zs (fun x => (B x y).toNat) (x + 1) := by
          rw [← hd]
          exact Nat.add_assoc _ _ _
        rw [ed] at hl
        exact ih (x + 1) (by omega) (by omega) ls (lv_sub hl [1, 2, 3, 4, 5, 6, 7, 0] rfl)
      refine lv_aload hx hb dX3_applyMaskPenaltyRule4_43 (lv_at hl 6 rfl) ?_
      refine lv_iload hx hb dX3_applyMaskPenaltyRule4_45 (lv_at hl 7 rfl) ?_
      refine zg_bld (j := x) hx hb (hK.2 1 _ rfl).1 hG (by omega) (by omega) dX3_applyMaskPenaltyRule4_47 ?_
      refine lv_iconst (v := nI 1) hx hb dX3_applyMaskPenaltyRule4_48 (by decide) ?_
      refine z_bne1 (tgt := 55) hx hb dX3_applyMaskPenaltyRule4_49 (by decide) (fun e1 => ?_) (fun e1 => ?_)
      · exact k55 false e1 ls (lv_sub hl [0, 1, 2, 3, 4, 5, 6, 7] rfl)
      · refine lv_iinc (v := nI (bs + zs (fun x => (B x y).toNat) x + true.toNat)) (lv' := [(1, .int (nI (bs + zs (fun x => (B x y).toNat) x + true.toNat))), (0, .ref b), (2, .ref g), (3, .int (nI 21)), (4, .int (nI 21)), (5, .int (nI y)), (6, .ref (g + 1 + y)), (7, .int (nI x))]) hx hb dX3_applyMaskPenaltyRule4_52 hl (k := 1) rfl (z_inc _) (by decide) rfl (fun ls hl => ?_)
        exact k55 true e1 ls (lv_sub hl [1, 0, 2, 3, 4, 5, 6, 7] rfl)
set_option maxHeartbeats 4000000 in
theorem lX3_r4out (C : zC p m c cX3_applyMaskPenaltyRule4 8 s args RX3 D k) (hM : zM D k b g B H)
    (kk : ∀ ls : Array Slot, lv_has ls 8 [(0, .ref b), (1, .int (nI (zs (fun y => zs (fun x => (B x y).toNat) 21) 21))), (2, .ref g), (3, .int (nI 21)), (4, .int (nI 21)), (5, .int (nI 21))] → W p l e R s m args below meth c H locs cells slots Q (F0 m 67 ls [])) :
    ∀ (n y : Nat), y ≤ 21 → 22 ≤ y + n → ∀ ls : Array Slot, lv_has ls 8 [(0, .ref b), (1, .int (nI (zs (fun y => zs (fun x => (B x y).toNat) 21) y))), (2, .ref g), (3, .int (nI 21)), (4, .int (nI 21)), (5, .int (nI y))] → W p l e R s m args below meth c H locs cells slots Q (F0 m 21 ls []) := by
  obtain ⟨hx, hb, hml, hown, hts⟩ := C.1
  have hK := C.2
  obtain ⟨hP, hG, hlt⟩ := id hM
  intro n
  induction n with
  | zero =>
    intro y h1 h2
    exact absurd h2 (by omega)
  | succ n ih =>
    intro y hj hjn ls hl
    refine lv_iload hx hb dX3_applyMaskPenaltyRule4_21 (lv_at hl 5 rfl) ?_
    refine lv_iload hx hb dX3_applyMaskPenaltyRule4_23 (lv_at hl 4 rfl) ?_
    refine z_ige (a := y) (b := 21) (tgt := 67) hx hb dX3_applyMaskPenaltyRule4_25 (by decide) (by omega) (by decide) (fun c1 => ?_) (fun c1 => ?_)
    · have ej : y = 21 := by omega
      subst ej
      exact kk ls (lv_sub hl [0, 1, 2, 3, 4, 5] rfl)
    · refine lv_aload_n hx hb dX3_applyMaskPenaltyRule4_28 rfl (lv_at hl 2 rfl) ?_
      refine lv_iload hx hb dX3_applyMaskPenaltyRule4_29 (lv_at hl 5 rfl) ?_
      refine zg_row (i := y) hx hb (hK.2 0 _ rfl).1 hG (by omega) dX3_applyMaskPenaltyRule4_31 ?_
      refine lv_astore (lv' := [(6, .ref (g + 1 + y)), (0, .ref b), (1, .int (nI (zs (fun y => zs (fun x => (B x y).toNat) 21) y))), (2, .ref g), (3, .int (nI 21)), (4, .int (nI 21)), (5, .int (nI y))]) hx hb dX3_applyMaskPenaltyRule4_32 hl (by decide) rfl (fun ls hl => ?_)
      refine lv_iconst (v := nI 0) hx hb dX3_applyMaskPenaltyRule4_34 (by decide) ?_
      refine lv_istore (lv' := [(7, .int (nI 0)), (6, .ref (g + 1 + y)), (0, .ref b), (1, .int (nI (zs (fun y => zs (fun x => (B x y).toNat) 21) y))), (2, .ref g), (3, .int (nI 21)), (4, .int (nI 21)), (5, .int (nI y))]) hx hb dX3_applyMaskPenaltyRule4_35 hl (by decide) rfl (fun ls hl => ?_)
      refine lX3_r4in (y := y) (bs := zs (fun y => zs (fun x => (B x y).toNat) 21) y) C hM (by omega) (fun ls hl => ?_) 22 0 (by omega) (by omega) ls (lv_sub hl [2, 3, 4, 5, 6, 7, 1, 0] rfl)
      refine lv_iinc (v := nI (y + 1)) (lv' := [(5, .int (nI (y + 1))), (0, .ref b), (1, .int (nI (zs (fun y => zs (fun x => (B x y).toNat) 21) y + zs (fun x => (B x y).toNat) 21))), (2, .ref g), (3, .int (nI 21)), (4, .int (nI 21)), (6, .ref (g + 1 + y)), (7, .int (nI 21))]) hx hb dX3_applyMaskPenaltyRule4_61 hl (k := 5) rfl (z_inc _) (by decide) rfl (fun ls hl => ?_)
      refine lv_goto (tgt := 21) hx hb dX3_applyMaskPenaltyRule4_64 (by decide) ?_
      exact ih (y + 1) (by omega) (by omega) ls (lv_sub hl [1, 2, 3, 4, 5, 0] rfl)
end Z3
set_option maxHeartbeats 4000000 in
theorem mX3_rule4 (l : Launch) (D : va_G) (k : Nat → ClassId) (b g : Nat) (B : Nat → Nat → Bool) : zRead l yX3_applyMaskPenaltyRule4 cX3_applyMaskPenaltyRule4 8 (some .int) 1 20 D k [.ref b] (zM D k b g B) (some (.int (nI (zr4 B)))) := by
  refine zRead.of (by decide) (Nat.le_of_ble_eq_true rfl) ?_
  intro p e s m below meth c ls C hR hr hlk hM hl
  obtain ⟨hx, hb, hml, hown, hts⟩ := C.1
  have hown : s.vm.findClass RX3 = some m.cls := hown
  have hK := C.2
  obtain ⟨hP, hG, hlt⟩ := id hM
  have hl : lv_has ls 8 [(0, .ref b)] := hl
  refine lv_iconst (v := nI 0) hx hb dX3_applyMaskPenaltyRule4_0 (by decide) ?_
  refine lv_istore_n (lv' := [(1, .int (nI 0)), (0, .ref b)]) hx hb dX3_applyMaskPenaltyRule4_1 rfl hl (by decide) rfl (fun ls hl => ?_)
  refine lv_aload_n hx hb dX3_applyMaskPenaltyRule4_2 rfl (lv_at hl 1 rfl) ?_
  refine zcallV (n := 0) (b := b) (av := []) (rest := []) (v := some (.ref g)) C (mX2_getArray l D k b g B) q158 q159 q160 q3 q161 (by decide +kernel) hR (by decide) rfl hl.1 rfl (Nat.le_of_ble_eq_true rfl) (hM.recv hK) hM dX3_applyMaskPenaltyRule4_3 ?_
  refine lv_astore_n (lv' := [(2, .ref g), (1, .int (nI 0)), (0, .ref b)]) hx hb dX3_applyMaskPenaltyRule4_6 rfl hl (by decide) rfl (fun ls hl => ?_)
  refine lv_aload_n hx hb dX3_applyMaskPenaltyRule4_7 rfl (lv_at hl 2 rfl) ?_
  refine zcallV (n := 0) (b := b) (av := []) (rest := []) (v := some (.int (nI 21))) C (mX2_getWidth l D k b g B) q162 q163 q164 q3 q165 (by decide +kernel) hR (by decide) rfl hl.1 rfl (Nat.le_of_ble_eq_true rfl) (hM.recv hK) hM dX3_applyMaskPenaltyRule4_8 ?_
  refine lv_istore_n (lv' := [(3, .int (nI 21)), (2, .ref g), (1, .int (nI 0)), (0, .ref b)]) hx hb dX3_applyMaskPenaltyRule4_11 rfl hl (by decide) rfl (fun ls hl => ?_)
  refine lv_aload_n hx hb dX3_applyMaskPenaltyRule4_12 rfl (lv_at hl 3 rfl) ?_
  refine zcallV (n := 0) (b := b) (av := []) (rest := []) (v := some (.int (nI 21))) C (mX2_getHeight l D k b g B) q166 q167 q168 q3 q169 (by decide +kernel) hR (by decide) rfl hl.1 rfl (Nat.le_of_ble_eq_true rfl) (hM.recv hK) hM dX3_applyMaskPenaltyRule4_13 ?_
  refine lv_istore (lv' := [(4, .int (nI 21)), (3, .int (nI 21)), (2, .ref g), (1, .int (nI 0)), (0, .ref b)]) hx hb dX3_applyMaskPenaltyRule4_16 hl (by decide) rfl (fun ls hl => ?_)
  refine lv_iconst (v := nI 0) hx hb dX3_applyMaskPenaltyRule4_18 (by decide) ?_
  refine lv_istore (lv' := [(5, .int (nI 0)), (4, .int (nI 21)), (3, .int (nI 21)), (2, .ref g), (1, .int (nI 0)), (0, .ref b)]) hx hb dX3_applyMaskPenaltyRule4_19 hl (by decide) rfl (fun ls hl => ?_)
  refine lX3_r4out C hM (fun ls hl => ?_) 22 0 (by omega) (by omega) ls (lv_sub hl [5, 4, 3, 2, 1, 0] rfl)
  have hl : lv_has ls 8 [(0, .ref b), (1, .int (nI (zdk B))), (2, .ref g), (3, .int (nI 21)), (4, .int (nI 21)), (5, .int (nI 21))] := hl
  have hd : zdk B ≤ 441 := zdk_le B
  have ho := zoff_le hd
  refine lv_aload_n hx hb dX3_applyMaskPenaltyRule4_67 rfl (lv_at hl 0 rfl) ?_
  refine zcallV (n := 0) (b := b) (av := []) (rest := []) (v := some (.int (nI 21))) C (mX2_getHeight l D k b g B) q166 q167 q168 q3 q169 (by decide +kernel) hR (by decide) rfl hl.1 rfl (Nat.le_of_ble_eq_true rfl) (hM.recv hK) hM dX3_applyMaskPenaltyRule4_68 ?_
  refine lv_aload_n hx hb dX3_applyMaskPenaltyRule4_71 rfl (lv_at hl 0 rfl) ?_
  refine zcallV (n := 0) (b := b) (av := []) (rest := [.int (nI 21)]) (v := some (.int (nI 21))) C (mX2_getWidth l D k b g B) q162 q163 q164 q3 q165 (by decide +kernel) hR (by decide) rfl hl.1 rfl (Nat.le_of_ble_eq_true rfl) (hM.recv hK) hM dX3_applyMaskPenaltyRule4_72 ?_
  refine z_imul (v := nI 441) hx hb dX3_applyMaskPenaltyRule4_75 (pk_mul _ _) ?_
  refine lv_istore (lv' := [(5, .int (nI 441)), (0, .ref b), (1, .int (nI (zdk B))), (2, .ref g), (3, .int (nI 21)), (4, .int (nI 21))]) hx hb dX3_applyMaskPenaltyRule4_76 hl (by decide) rfl (fun ls hl => ?_)
  refine lv_iload_n hx hb dX3_applyMaskPenaltyRule4_78 rfl (lv_at hl 2 rfl) ?_
  refine lv_iconst (v := nI 2) hx hb dX3_applyMaskPenaltyRule4_79 (by decide) ?_
  refine z_imul (v := nI ((zdk B) * 2)) hx hb dX3_applyMaskPenaltyRule4_80 (pk_mul _ _) ?_
  refine lv_iload hx hb dX3_applyMaskPenaltyRule4_81 (lv_at hl 0 rfl) ?_
  refine z_isub (v := (nI (zdk B * 2) - nI 441)) hx hb dX3_applyMaskPenaltyRule4_83 rfl ?_
  refine va_mabs hx hb (hml.trans hl.1.symm) hown (hts _ q215) (hts _ q216) (hts _ q5) (hts _ q217) (by decide) (by decide) (by decide) (by decide) dX3_applyMaskPenaltyRule4_84 ?_
  refine zt (y := nI (zoff (zdk B))) (zabs hd) ?_
  refine lv_bipush (v := nI 10) hx hb dX3_applyMaskPenaltyRule4_87 (by decide) ?_
  refine z_imul (v := nI ((zoff (zdk B)) * 10)) hx hb dX3_applyMaskPenaltyRule4_89 (pk_mul _ _) ?_
  refine lv_iload hx hb dX3_applyMaskPenaltyRule4_90 (lv_at hl 0 rfl) ?_
  refine z_idiv (v := nI (((zoff (zdk B)) * 10) / 441)) hx hb dX3_applyMaskPenaltyRule4_92 (by decide) (pk_div (by omega) (by decide) (by decide)) ?_
  refine lv_istore (lv' := [(6, .int (nI (((zoff (zdk B)) * 10) / 441))), (5, .int (nI 441)), (0, .ref b), (1, .int (nI (zdk B))), (2, .ref g), (3, .int (nI 21)), (4, .int (nI 21))]) hx hb dX3_applyMaskPenaltyRule4_93 hl (by decide) rfl (fun ls hl => ?_)
  refine lv_iload hx hb dX3_applyMaskPenaltyRule4_95 (lv_at hl 0 rfl) ?_
  refine lv_bipush (v := nI 10) hx hb dX3_applyMaskPenaltyRule4_97 (by decide) ?_
  refine z_imul (v := nI ((((zoff (zdk B)) * 10) / 441) * 10)) hx hb dX3_applyMaskPenaltyRule4_99 (pk_mul _ _) ?_
  exact zri hx hb hr hlk dX3_applyMaskPenaltyRule4_100
end
section
/-! MaskUtil, rule 3: the finder-like patterns -/
set_option maxRecDepth 100000
section Z3
variable {p : Program} {l : Launch} {e : Env} {R : Room} {s : State} {m : MethodId} {args : Array Value} {below : List Frame} {meth : Method} {c : Code} {H : Heap} {locs : List Loc} {cells slots : Nat} {Q : State → Prop}
variable {D : va_G} {k : Nat → ClassId} {b g : Nat} {B : Nat → Nat → Bool}
set_option maxHeartbeats 4000000 in
theorem lX3_r3in {y bs : Nat} (C : zC p m c cX3_applyMaskPenaltyRule3 8 s args RX3 D k) (hR : zR R 1 24 cells slots) (hM : zM D k b g B H) (hy : y < 21)
    (kk : ∀ ls : Array Slot, lv_has ls 8 [(0, .ref b), (1, .int (nI (bs + zs (fun x => (zh (zat B true y) x).toNat + (zh (zat B false x) y).toNat) 21))), (2, .ref g), (3, .int (nI 21)), (4, .int (nI 21)), (5, .int (nI y)), (6, .int (nI 21))] → W p l e R s m args below meth c H locs cells slots Q (F0 m 302 ls [])) :
    ∀ (n x : Nat), x ≤ 21 → 22 ≤ x + n → ∀ ls : Array Slot, lv_has ls 8 [(0, .ref b), (1, .int (nI (bs + zs (fun x => (zh (zat B true y) x).toNat + (zh (zat B false x) y).toNat) x))), (2, .ref g), (3, .int (nI 21)), (4, .int (nI 21)), (5, .int (nI y)), (6, .int (nI x))] → W p l e R s m args below meth c H locs cells slots Q (F0 m 31 ls []) := by
  obtain ⟨hx, hb, hml, hown, hts⟩ := C.1
  have hK := C.2
  obtain ⟨hP, hG, hlt⟩ := hM
  intro n
  induction n with
  | zero =>
    intro x h1 h2
    exact absurd h2 (by omega)
  | succ n ih =>
    intro x hj hjn ls hl
    refine lv_iload hx hb dX3_applyMaskPenaltyRule3_31 (lv_at hl 6 rfl) ?_
    refine lv_iload_n hx hb dX3_applyMaskPenaltyRule3_33 rfl (lv_at hl 3 rfl) ?_
    refine z_ige (a := x) (b := 21) (tgt := 302) hx hb dX3_applyMaskPenaltyRule3_34 (by decide) (by omega) (by decide) (fun c1 => ?_) (fun c1 => ?_)
    · have ej : x = 21 := by omega
      subst ej
      exact kk ls (lv_sub hl [0, 1, 2, 3, 4, 5, 6] rfl)
    · have k296 : ∀ d1 d2 : Bool, zh (zat B true y) x = d1 → zh (zat B false x) y = d2 → ∀ ls : Array Slot, lv_has ls 8 [(0, .ref b), (1, .int (nI (bs + zs (fun x => (zh (zat B true y) x).toNat + (zh (zat B false x) y).toNat) x + d1.toNat + d2.toNat))), (2, .ref g), (3, .int (nI 21)), (4, .int (nI 21)), (5, .int (nI y)), (6, .int (nI x))] → W p l e R s m args below meth c H locs cells slots Q (F0 m 296 ls []) := by
        intro d1 d2 hd1 hd2 ls hl
        refine lv_iinc (v := nI (x + 1)) (lv' := [(6, .int (nI (x + 1))), (0, .ref b), (1, .int (nI (bs + zs (fun x => (zh (zat B true y) x).toNat + (zh (zat B false x) y).toNat) x + d1.toNat + d2.toNat))), (2, .ref g), (3, .int (nI 21)), (4, .int (nI 21)), (5, .int (nI y))]) hx hb dX3_applyMaskPenaltyRule3_296 hl (k := 6) rfl (z_inc _) (by decide) rfl (fun ls hl => ?_)
        refine lv_goto (tgt := 31) hx hb dX3_applyMaskPenaltyRule3_299 (by decide) ?_
        have ed : bs + zs (fun x => (zh (zat B true y) x).toNat + (zh (zat B false x) y).toNat) x + d1.toNat + d2.toNat = bs + zs (fun x => (zh (zat B true y) x).toNat + (zh (zat B false x) y).toNat) (x + 1) := by
          rw [← hd1, ← hd2]
          show _ = bs + (zs (fun x => (zh (zat B true y) x).toNat + (zh (zat B false x) y).toNat) x + ((zh (zat B true y) x).toNat + (zh (zat B false x) y).toNat))
          omega
        rw [ed] at hl
        exact ih (x + 1) (by omega) (by omega) ls (lv_sub hl [1, 2, 3, 4, 5, 6, 0] rfl)
      have k161 : ∀ d1 : Bool, zh (zat B true y) x = d1 → ∀ ls : Array Slot, lv_has ls 8 [(0, .ref b), (1, .int (nI (bs + zs (fun x => (zh (zat B true y) x).toNat + (zh (zat B false x) y).toNat) x + d1.toNat))), (2, .ref g), (3, .int (nI 21)), (4, .int (nI 21)), (5, .int (nI y)), (6, .int (nI x))] → W p l e R s m args below meth c H locs cells slots Q (F0 m 161 ls []) := by
        intro d1 hd1 ls hl
        have k293 : zh (zat B false x) y = true → ∀ ls : Array Slot, lv_has ls 8 [(0, .ref b), (1, .int (nI (bs + zs (fun x => (zh (zat B true y) x).toNat + (zh (zat B false x) y).toNat) x + d1.toNat))), (2, .ref g), (3, .int (nI 21)), (4, .int (nI 21)), (5, .int (nI y)), (6, .int (nI x))] → W p l e R s m args below meth c H locs cells slots Q (F0 m 293 ls []) := by
          intro hz ls hl
          refine lv_iinc (v := nI (bs + zs (fun x => (zh (zat B true y) x).toNat + (zh (zat B false x) y).toNat) x + d1.toNat + true.toNat)) (lv' := [(1, .int (nI (bs + zs (fun x => (zh (zat B true y) x).toNat + (zh (zat B false x) y).toNat) x + d1.toNat + true.toNat))), (0, .ref b), (2, .ref g), (3, .int (nI 21)), (4, .int (nI 21)), (5, .int (nI y)), (6, .int (nI x))]) hx hb dX3_applyMaskPenaltyRule3_293 hl (k := 1) rfl (z_inc _) (by decide) rfl (fun ls hl => ?_)
          exact k296 d1 true hd1 hz ls (lv_sub hl [1, 0, 2, 3, 4, 5, 6] rfl)
        refine lv_iload hx hb dX3_applyMaskPenaltyRule3_161 (lv_at hl 5 rfl) ?_
        refine lv_bipush (v := nI 6) hx hb dX3_applyMaskPenaltyRule3_163 (by decide) ?_
        refine z_iadd (v := nI (y + 6)) hx hb dX3_applyMaskPenaltyRule3_165 (nI_add _ _) ?_
        refine lv_iload hx hb dX3_applyMaskPenaltyRule3_166 (lv_at hl 4 rfl) ?_
        refine z_ige (a := y + 6) (b := 21) (tgt := 296) hx hb dX3_applyMaskPenaltyRule3_168 (by decide) (by omega) (by decide) (fun e1 => ?_) (fun e1 => ?_)
        · exact k296 d1 false hd1 (by unfold zh; rw [decide_eq_false (by omega)]; rfl) ls (lv_sub hl [0, 1, 2, 3, 4, 5, 6] rfl)
        · refine lv_aload_n hx hb dX3_applyMaskPenaltyRule3_171 rfl (lv_at hl 2 rfl) ?_
          refine lv_iload hx hb dX3_applyMaskPenaltyRule3_172 (lv_at hl 5 rfl) ?_
          refine zg_row (i := y) hx hb (hK.2 0 _ rfl).1 hG (by omega) dX3_applyMaskPenaltyRule3_174 ?_
          refine lv_iload hx hb dX3_applyMaskPenaltyRule3_175 (lv_at hl 6 rfl) ?_
          refine zg_bld (j := x) hx hb (hK.2 1 _ rfl).1 hG (by omega) (by omega) dX3_applyMaskPenaltyRule3_177 ?_
          refine lv_iconst (v := nI 1) hx hb dX3_applyMaskPenaltyRule3_178 (by decide) ?_
          refine z_bne1 (tgt := 296) hx hb dX3_applyMaskPenaltyRule3_179 (by decide) (fun e2 => ?_) (fun e2 => ?_)
          · exact k296 d1 false hd1 (by simp [zh, zpat, zat, e2]) ls (lv_sub hl [0, 1, 2, 3, 4, 5, 6] rfl)
          · refine lv_aload_n hx hb dX3_applyMaskPenaltyRule3_182 rfl (lv_at hl 2 rfl) ?_
            refine lv_iload hx hb dX3_applyMaskPenaltyRule3_183 (lv_at hl 5 rfl) ?_
            refine lv_iconst (v := nI 1) hx hb dX3_applyMaskPenaltyRule3_185 (by decide) ?_
            refine z_iadd (v := nI (y + 1)) hx hb dX3_applyMaskPenaltyRule3_186 (nI_add _ _) ?_
            refine zg_row (i := y + 1) hx hb (hK.2 0 _ rfl).1 hG (by omega) dX3_applyMaskPenaltyRule3_187 ?_
            refine lv_iload hx hb dX3_applyMaskPenaltyRule3_188 (lv_at hl 6 rfl) ?_
            refine zg_bld (j := x) hx hb (hK.2 1 _ rfl).1 hG (by omega) (by omega) dX3_applyMaskPenaltyRule3_190 ?_
            refine z_bne0 (tgt := 296) hx hb dX3_applyMaskPenaltyRule3_191 (by decide) (fun e3 => ?_) (fun e3 => ?_)
            · exact k296 d1 false hd1 (by simp [zh, zpat, zat, e3]) ls (lv_sub hl [0, 1, 2, 3, 4, 5, 6] rfl)
            · refine lv_aload_n hx hb dX3_applyMaskPenaltyRule3_194 rfl (lv_at hl 2 rfl) ?_
              refine lv_iload hx hb dX3_applyMaskPenaltyRule3_195 (lv_at hl 5 rfl) ?_
              refine lv_iconst (v := nI 2) hx hb dX3_applyMaskPenaltyRule3_197 (by decide) ?_
              refine z_iadd (v := nI (y + 2)) hx hb dX3_applyMaskPenaltyRule3_198 (nI_add _ _) ?_
              refine zg_row (i := y + 2) hx hb (hK.2 0 _ rfl).1 hG (by omega) dX3_applyMaskPenaltyRule3_199 ?_
              refine lv_iload hx hb dX3_applyMaskPenaltyRule3_200 (lv_at hl 6 rfl) ?_
              refine zg_bld (j := x) hx hb (hK.2 1 _ rfl).1 hG (by omega) (by omega) dX3_applyMaskPenaltyRule3_202 ?_
              refine lv_iconst (v := nI 1) hx hb dX3_applyMaskPenaltyRule3_203 (by decide) ?_
              refine z_bne1 (tgt := 296) hx hb dX3_applyMaskPenaltyRule3_204 (by decide) (fun e4 => ?_) (fun e4 => ?_)
              · exact k296 d1 false hd1 (by simp [zh, zpat, zat, e4]) ls (lv_sub hl [0, 1, 2, 3, 4, 5, 6] rfl)
              · refine lv_aload_n hx hb dX3_applyMaskPenaltyRule3_207 rfl (lv_at hl 2 rfl) ?_
                refine lv_iload hx hb dX3_applyMaskPenaltyRule3_208 (lv_at hl 5 rfl) ?_
                refine lv_iconst (v := nI 3) hx hb dX3_applyMaskPenaltyRule3_210 (by decide) ?_
                refine z_iadd (v := nI (y + 3)) hx hb dX3_applyMaskPenaltyRule3_211 (nI_add _ _) ?_
                refine zg_row (i := y + 3) hx hb (hK.2 0 _ rfl).1 hG (by omega) dX3_applyMaskPenaltyRule3_212 ?_
                refine lv_iload hx hb dX3_applyMaskPenaltyRule3_213 (lv_at hl 6 rfl) ?_
                refine zg_bld (j := x) hx hb (hK.2 1 _ rfl).1 hG (by omega) (by omega) dX3_applyMaskPenaltyRule3_215 ?_
                refine lv_iconst (v := nI 1) hx hb dX3_applyMaskPenaltyRule3_216 (by decide) ?_
                refine z_bne1 (tgt := 296) hx hb dX3_applyMaskPenaltyRule3_217 (by decide) (fun e5 => ?_) (fun e5 => ?_)
                · exact k296 d1 false hd1 (by simp [zh, zpat, zat, e5]) ls (lv_sub hl [0, 1, 2, 3, 4, 5, 6] rfl)
                · refine lv_aload_n hx hb dX3_applyMaskPenaltyRule3_220 rfl (lv_at hl 2 rfl) ?_
                  refine lv_iload hx hb dX3_applyMaskPenaltyRule3_221 (lv_at hl 5 rfl) ?_
                  refine lv_iconst (v := nI 4) hx hb dX3_applyMaskPenaltyRule3_223 (by decide) ?_
                  refine z_iadd (v := nI (y + 4)) hx hb dX3_applyMaskPenaltyRule3_224 (nI_add _ _) ?_
                  refine zg_row (i := y + 4) hx hb (hK.2 0 _ rfl).1 hG (by omega) dX3_applyMaskPenaltyRule3_225 ?_
                  refine lv_iload hx hb dX3_applyMaskPenaltyRule3_226 (lv_at hl 6 rfl) ?_
                  refine zg_bld (j := x) hx hb (hK.2 1 _ rfl).1 hG (by omega) (by omega) dX3_applyMaskPenaltyRule3_228 ?_
                  refine lv_iconst (v := nI 1) hx hb dX3_applyMaskPenaltyRule3_229 (by decide) ?_
                  refine z_bne1 (tgt := 296) hx hb dX3_applyMaskPenaltyRule3_230 (by decide) (fun e6 => ?_) (fun e6 => ?_)
                  · exact k296 d1 false hd1 (by simp [zh, zpat, zat, e6]) ls (lv_sub hl [0, 1, 2, 3, 4, 5, 6] rfl)
                  · refine lv_aload_n hx hb dX3_applyMaskPenaltyRule3_233 rfl (lv_at hl 2 rfl) ?_
                    refine lv_iload hx hb dX3_applyMaskPenaltyRule3_234 (lv_at hl 5 rfl) ?_
                    refine lv_iconst (v := nI 5) hx hb dX3_applyMaskPenaltyRule3_236 (by decide) ?_
                    refine z_iadd (v := nI (y + 5)) hx hb dX3_applyMaskPenaltyRule3_237 (nI_add _ _) ?_
                    refine zg_row (i := y + 5) hx hb (hK.2 0 _ rfl).1 hG (by omega) dX3_applyMaskPenaltyRule3_238 ?_
                    refine lv_iload hx hb dX3_applyMaskPenaltyRule3_239 (lv_at hl 6 rfl) ?_
                    refine zg_bld (j := x) hx hb (hK.2 1 _ rfl).1 hG (by omega) (by omega) dX3_applyMaskPenaltyRule3_241 ?_
                    refine z_bne0 (tgt := 296) hx hb dX3_applyMaskPenaltyRule3_242 (by decide) (fun e7 => ?_) (fun e7 => ?_)
                    · exact k296 d1 false hd1 (by simp [zh, zpat, zat, e7]) ls (lv_sub hl [0, 1, 2, 3, 4, 5, 6] rfl)
                    · refine lv_aload_n hx hb dX3_applyMaskPenaltyRule3_245 rfl (lv_at hl 2 rfl) ?_
                      refine lv_iload hx hb dX3_applyMaskPenaltyRule3_246 (lv_at hl 5 rfl) ?_
                      refine lv_bipush (v := nI 6) hx hb dX3_applyMaskPenaltyRule3_248 (by decide) ?_
                      refine z_iadd (v := nI (y + 6)) hx hb dX3_applyMaskPenaltyRule3_250 (nI_add _ _) ?_
                      refine zg_row (i := y + 6) hx hb (hK.2 0 _ rfl).1 hG (by omega) dX3_applyMaskPenaltyRule3_251 ?_
                      refine lv_iload hx hb dX3_applyMaskPenaltyRule3_252 (lv_at hl 6 rfl) ?_
                      refine zg_bld (j := x) hx hb (hK.2 1 _ rfl).1 hG (by omega) (by omega) dX3_applyMaskPenaltyRule3_254 ?_
                      refine lv_iconst (v := nI 1) hx hb dX3_applyMaskPenaltyRule3_255 (by decide) ?_
                      refine z_bne1 (tgt := 296) hx hb dX3_applyMaskPenaltyRule3_256 (by decide) (fun e8 => ?_) (fun e8 => ?_)
                      · exact k296 d1 false hd1 (by simp [zh, zpat, zat, e8]) ls (lv_sub hl [0, 1, 2, 3, 4, 5, 6] rfl)
                      · have hpat : zpat (zat B false x) y = true := by simp [zpat, zat, e2, e3, e4, e5, e6, e7, e8]
                        refine lv_aload_n hx hb dX3_applyMaskPenaltyRule3_259 rfl (lv_at hl 2 rfl) ?_
                        refine lv_iload hx hb dX3_applyMaskPenaltyRule3_260 (lv_at hl 6 rfl) ?_
                        refine lv_iload hx hb dX3_applyMaskPenaltyRule3_262 (lv_at hl 5 rfl) ?_
                        refine lv_iconst (v := nI 4) hx hb dX3_applyMaskPenaltyRule3_264 (by decide) ?_
                        refine z_isub (v := (nI y - nI 4)) hx hb dX3_applyMaskPenaltyRule3_265 rfl ?_
                        refine lv_iload hx hb dX3_applyMaskPenaltyRule3_266 (lv_at hl 5 rfl) ?_
                        refine zcallS (n := 4) (av := [.ref g, .int (nI x), .int (nI y - nI 4), .int (nI y)]) (rest := []) (v := some (.int (nI (decide (4 ≤ y) && zw4 (zat B false x) (y - 4)).toNat))) C (mX3_isWhiteVertical l D k g (fun y x => B x y) x (nI y - nI 4) y (decide (4 ≤ y) && zw4 (zat B false x) (y - 4)) (by omega) (zwh (zat B false x) y hy)) q173 q174 q4 q175 (by decide +kernel) hR (by decide) rfl hl.1 rfl (Nat.le_of_ble_eq_true rfl) hG dX3_applyMaskPenaltyRule3_268 ?_
                        refine z_bne0 (tgt := 293) hx hb dX3_applyMaskPenaltyRule3_271 (by decide) (fun e9 => ?_) (fun e9 => ?_)
                        · exact k293 (by unfold zh zside; rw [decide_eq_true (by omega), hpat, e9]; rfl) ls hl
                        · refine lv_aload_n hx hb dX3_applyMaskPenaltyRule3_274 rfl (lv_at hl 2 rfl) ?_
                          refine lv_iload hx hb dX3_applyMaskPenaltyRule3_275 (lv_at hl 6 rfl) ?_
                          refine lv_iload hx hb dX3_applyMaskPenaltyRule3_277 (lv_at hl 5 rfl) ?_
                          refine lv_bipush (v := nI 7) hx hb dX3_applyMaskPenaltyRule3_279 (by decide) ?_
                          refine z_iadd (v := nI (y + 7)) hx hb dX3_applyMaskPenaltyRule3_281 (nI_add _ _) ?_
                          refine lv_iload hx hb dX3_applyMaskPenaltyRule3_282 (lv_at hl 5 rfl) ?_
                          refine lv_bipush (v := nI 11) hx hb dX3_applyMaskPenaltyRule3_284 (by decide) ?_
                          refine z_iadd (v := nI (y + 11)) hx hb dX3_applyMaskPenaltyRule3_286 (nI_add _ _) ?_
                          refine zcallS (n := 4) (av := [.ref g, .int (nI x), .int (nI (y + 7)), .int (nI (y + 11))]) (rest := []) (v := some (.int (nI (zw4 (zat B false x) (y + 7)).toNat))) C (mX3_isWhiteVertical l D k g (fun y x => B x y) x (nI (y + 7)) (y + 11) (zw4 (zat B false x) (y + 7)) (by omega) (Or.inr ⟨y + 7, rfl, by omega, rfl, rfl⟩)) q173 q174 q4 q175 (by decide +kernel) hR (by decide) rfl hl.1 rfl (Nat.le_of_ble_eq_true rfl) hG dX3_applyMaskPenaltyRule3_287 ?_
                          refine z_beq0 (tgt := 296) hx hb dX3_applyMaskPenaltyRule3_290 (by decide) (fun e10 => ?_) (fun e10 => ?_)
                          · exact k296 d1 false hd1 (by unfold zh zside; rw [hpat, e9, e10]; simp) ls (lv_sub hl [0, 1, 2, 3, 4, 5, 6] rfl)
                          · exact k293 (by unfold zh zside; rw [decide_eq_true (by omega), hpat, e9, e10]; rfl) ls hl
      refine lv_aload_n hx hb dX3_applyMaskPenaltyRule3_37 rfl (lv_at hl 2 rfl) ?_
      refine lv_iload hx hb dX3_applyMaskPenaltyRule3_38 (lv_at hl 5 rfl) ?_
      refine zg_row (i := y) hx hb (hK.2 0 _ rfl).1 hG (by omega) dX3_applyMaskPenaltyRule3_40 ?_
      refine lv_astore (lv' := [(7, .ref (g + 1 + y)), (0, .ref b), (1, .int (nI (bs + zs (fun x => (zh (zat B true y) x).toNat + (zh (zat B false x) y).toNat) x))), (2, .ref g), (3, .int (nI 21)), (4, .int (nI 21)), (5, .int (nI y)), (6, .int (nI x))]) hx hb dX3_applyMaskPenaltyRule3_41 hl (by decide) rfl (fun ls hl => ?_)
      have k158 : zh (zat B true y) x = true → ∀ ls : Array Slot, lv_has ls 8 [(7, .ref (g + 1 + y)), (0, .ref b), (1, .int (nI (bs + zs (fun x => (zh (zat B true y) x).toNat + (zh (zat B false x) y).toNat) x))), (2, .ref g), (3, .int (nI 21)), (4, .int (nI 21)), (5, .int (nI y)), (6, .int (nI x))] → W p l e R s m args below meth c H locs cells slots Q (F0 m 158 ls []) := by
        intro hz ls hl
        refine lv_iinc (v := nI (bs + zs (fun x => (zh (zat B true y) x).toNat + (zh (zat B false x) y).toNat) x + true.toNat)) (lv' := [(1, .int (nI (bs + zs (fun x => (zh (zat B true y) x).toNat + (zh (zat B false x) y).toNat) x + true.toNat))), (7, .ref (g + 1 + y)), (0, .ref b), (2, .ref g), (3, .int (nI 21)), (4, .int (nI 21)), (5, .int (nI y)), (6, .int (nI x))]) hx hb dX3_applyMaskPenaltyRule3_158 hl (k := 2) rfl (z_inc _) (by decide) rfl (fun ls hl => ?_)
        exact k161 true hz ls (lv_sub hl [2, 0, 3, 4, 5, 6, 7] rfl)
      refine lv_iload hx hb dX3_applyMaskPenaltyRule3_43 (lv_at hl 7 rfl) ?_
      refine lv_bipush (v := nI 6) hx hb dX3_applyMaskPenaltyRule3_45 (by decide) ?_
      refine z_iadd (v := nI (x + 6)) hx hb dX3_applyMaskPenaltyRule3_47 (nI_add _ _) ?_
      refine lv_iload_n hx hb dX3_applyMaskPenaltyRule3_48 rfl (lv_at hl 4 rfl) ?_
      refine z_ige (a := x + 6) (b := 21) (tgt := 161) hx hb dX3_applyMaskPenaltyRule3_49 (by decide) (by omega) (by decide) (fun e11 => ?_) (fun e11 => ?_)
      · exact k161 false (by unfold zh; rw [decide_eq_false (by omega)]; rfl) ls (lv_sub hl [1, 2, 3, 4, 5, 6, 7] rfl)
      · refine lv_aload hx hb dX3_applyMaskPenaltyRule3_52 (lv_at hl 0 rfl) ?_
        refine lv_iload hx hb dX3_applyMaskPenaltyRule3_54 (lv_at hl 7 rfl) ?_
        refine zg_bld (j := x) hx hb (hK.2 1 _ rfl).1 hG (by omega) (by omega) dX3_applyMaskPenaltyRule3_56 ?_
        refine lv_iconst (v := nI 1) hx hb dX3_applyMaskPenaltyRule3_57 (by decide) ?_
        refine z_bne1 (tgt := 161) hx hb dX3_applyMaskPenaltyRule3_58 (by decide) (fun e12 => ?_) (fun e12 => ?_)
        · exact k161 false (by simp [zh, zpat, zat, e12]) ls (lv_sub hl [1, 2, 3, 4, 5, 6, 7] rfl)
        · refine lv_aload hx hb dX3_applyMaskPenaltyRule3_61 (lv_at hl 0 rfl) ?_
          refine lv_iload hx hb dX3_applyMaskPenaltyRule3_63 (lv_at hl 7 rfl) ?_
          refine lv_iconst (v := nI 1) hx hb dX3_applyMaskPenaltyRule3_65 (by decide) ?_
          refine z_iadd (v := nI (x + 1)) hx hb dX3_applyMaskPenaltyRule3_66 (nI_add _ _) ?_
          refine zg_bld (j := x + 1) hx hb (hK.2 1 _ rfl).1 hG (by omega) (by omega) dX3_applyMaskPenaltyRule3_67 ?_
          refine z_bne0 (tgt := 161) hx hb dX3_applyMaskPenaltyRule3_68 (by decide) (fun e13 => ?_) (fun e13 => ?_)
          · exact k161 false (by simp [zh, zpat, zat, e13]) ls (lv_sub hl [1, 2, 3, 4, 5, 6, 7] rfl)
          · refine lv_aload hx hb dX3_applyMaskPenaltyRule3_71 (lv_at hl 0 rfl) ?_
            refine lv_iload hx hb dX3_applyMaskPenaltyRule3_73 (lv_at hl 7 rfl) ?_
            refine lv_iconst (v := nI 2) hx hb dX3_applyMaskPenaltyRule3_75 (by decide) ?_
            refine z_iadd (v := nI (x + 2)) hx hb dX3_applyMaskPenaltyRule3_76 (nI_add _ _) ?_
            refine zg_bld (j := x + 2) hx hb (hK.2 1 _ rfl).1 hG (by omega) (by omega) dX3_applyMaskPenaltyRule3_77 ?_
            refine lv_iconst (v := nI 1) hx hb dX3_applyMaskPenaltyRule3_78 (by decide) ?_
            refine z_bne1 (tgt := 161) hx hb dX3_applyMaskPenaltyRule3_79 (by decide) (fun e14 => ?_) (fun e14 => ?_)
            · exact k161 false (by simp [zh, zpat, zat, e14]) ls (lv_sub hl [1, 2, 3, 4, 5, 6, 7] rfl)
            · refine lv_aload hx hb dX3_applyMaskPenaltyRule3_82 (lv_at hl 0 rfl) ?_
              refine lv_iload hx hb dX3_applyMaskPenaltyRule3_84 (lv_at hl 7 rfl) ?_
              refine lv_iconst (v := nI 3) hx hb dX3_applyMaskPenaltyRule3_86 (by decide) ?_
              refine z_iadd (v := nI (x + 3)) hx hb dX3_applyMaskPenaltyRule3_87 (nI_add _ _) ?_
              refine zg_bld (j := x + 3) hx hb (hK.2 1 _ rfl).1 hG (by omega) (by omega) dX3_applyMaskPenaltyRule3_88 ?_
              refine lv_iconst (v := nI 1) hx hb dX3_applyMaskPenaltyRule3_89 (by decide) ?_
              refine z_bne1 (tgt := 161) hx hb dX3_applyMaskPenaltyRule3_90 (by decide) (fun e15 => ?_) (fun e15 => ?_)
              · exact k161 false (by simp [zh, zpat, zat, e15]) ls (lv_sub hl [1, 2, 3, 4, 5, 6, 7] rfl)
              · refine lv_aload hx hb dX3_applyMaskPenaltyRule3_93 (lv_at hl 0 rfl) ?_
                refine lv_iload hx hb dX3_applyMaskPenaltyRule3_95 (lv_at hl 7 rfl) ?_
                refine lv_iconst (v := nI 4) hx hb dX3_applyMaskPenaltyRule3_97 (by decide) ?_
                refine z_iadd (v := nI (x + 4)) hx hb dX3_applyMaskPenaltyRule3_98 (nI_add _ _) ?_
                refine zg_bld (j := x + 4) hx hb (hK.2 1 _ rfl).1 hG (by omega) (by omega) dX3_applyMaskPenaltyRule3_99 ?_
                refine lv_iconst (v := nI 1) hx hb dX3_applyMaskPenaltyRule3_100 (by decide) ?_
                refine z_bne1 (tgt := 161) hx hb dX3_applyMaskPenaltyRule3_101 (by decide) (fun e16 => ?_) (fun e16 => ?_)
                · exact k161 false (by simp [zh, zpat, zat, e16]) ls (lv_sub hl [1, 2, 3, 4, 5, 6, 7] rfl)
                · refine lv_aload hx hb dX3_applyMaskPenaltyRule3_104 (lv_at hl 0 rfl) ?_
                  refine lv_iload hx hb dX3_applyMaskPenaltyRule3_106 (lv_at hl 7 rfl) ?_
                  refine lv_iconst (v := nI 5) hx hb dX3_applyMaskPenaltyRule3_108 (by decide) ?_
                  refine z_iadd (v := nI (x + 5)) hx hb dX3_applyMaskPenaltyRule3_109 (nI_add _ _) ?_
                  refine zg_bld (j := x + 5) hx hb (hK.2 1 _ rfl).1 hG (by omega) (by omega) dX3_applyMaskPenaltyRule3_110 ?_
                  refine z_bne0 (tgt := 161) hx hb dX3_applyMaskPenaltyRule3_111 (by decide) (fun e17 => ?_) (fun e17 => ?_)
                  · exact k161 false (by simp [zh, zpat, zat, e17]) ls (lv_sub hl [1, 2, 3, 4, 5, 6, 7] rfl)
                  · refine lv_aload hx hb dX3_applyMaskPenaltyRule3_114 (lv_at hl 0 rfl) ?_
                    refine lv_iload hx hb dX3_applyMaskPenaltyRule3_116 (lv_at hl 7 rfl) ?_
                    refine lv_bipush (v := nI 6) hx hb dX3_applyMaskPenaltyRule3_118 (by decide) ?_
                    refine z_iadd (v := nI (x + 6)) hx hb dX3_applyMaskPenaltyRule3_120 (nI_add _ _) ?_
                    refine zg_bld (j := x + 6) hx hb (hK.2 1 _ rfl).1 hG (by omega) (by omega) dX3_applyMaskPenaltyRule3_121 ?_
                    refine lv_iconst (v := nI 1) hx hb dX3_applyMaskPenaltyRule3_122 (by decide) ?_
                    refine z_bne1 (tgt := 161) hx hb dX3_applyMaskPenaltyRule3_123 (by decide) (fun e18 => ?_) (fun e18 => ?_)
                    · exact k161 false (by simp [zh, zpat, zat, e18]) ls (lv_sub hl [1, 2, 3, 4, 5, 6, 7] rfl)
                    · have hpat : zpat (zat B true y) x = true := by simp [zpat, zat, e12, e13, e14, e15, e16, e17, e18]
                      refine lv_aload hx hb dX3_applyMaskPenaltyRule3_126 (lv_at hl 0 rfl) ?_
                      refine lv_iload hx hb dX3_applyMaskPenaltyRule3_128 (lv_at hl 7 rfl) ?_
                      refine lv_iconst (v := nI 4) hx hb dX3_applyMaskPenaltyRule3_130 (by decide) ?_
                      refine z_isub (v := (nI x - nI 4)) hx hb dX3_applyMaskPenaltyRule3_131 rfl ?_
                      refine lv_iload hx hb dX3_applyMaskPenaltyRule3_132 (lv_at hl 7 rfl) ?_
                      refine zcallS (n := 3) (av := [.ref (g + 1 + y), .int (nI x - nI 4), .int (nI x)]) (rest := []) (v := some (.int (nI (decide (4 ≤ x) && zw4 (zat B true y) (x - 4)).toNat))) C (mX3_isWhiteHorizontal l D k g (fun y x => B x y) y (nI x - nI 4) x (decide (4 ≤ x) && zw4 (zat B true y) (x - 4)) hy (zwh (zat B true y) x (by omega))) q170 q171 q4 q172 (by decide +kernel) hR (by decide) rfl hl.1 rfl (Nat.le_of_ble_eq_true rfl) hG dX3_applyMaskPenaltyRule3_134 ?_
                      refine z_bne0 (tgt := 158) hx hb dX3_applyMaskPenaltyRule3_137 (by decide) (fun e19 => ?_) (fun e19 => ?_)
                      · exact k158 (by unfold zh zside; rw [decide_eq_true (by omega), hpat, e19]; rfl) ls hl
                      · refine lv_aload hx hb dX3_applyMaskPenaltyRule3_140 (lv_at hl 0 rfl) ?_
                        refine lv_iload hx hb dX3_applyMaskPenaltyRule3_142 (lv_at hl 7 rfl) ?_
                        refine lv_bipush (v := nI 7) hx hb dX3_applyMaskPenaltyRule3_144 (by decide) ?_
                        refine z_iadd (v := nI (x + 7)) hx hb dX3_applyMaskPenaltyRule3_146 (nI_add _ _) ?_
                        refine lv_iload hx hb dX3_applyMaskPenaltyRule3_147 (lv_at hl 7 rfl) ?_
                        refine lv_bipush (v := nI 11) hx hb dX3_applyMaskPenaltyRule3_149 (by decide) ?_
                        refine z_iadd (v := nI (x + 11)) hx hb dX3_applyMaskPenaltyRule3_151 (nI_add _ _) ?_
                        refine zcallS (n := 3) (av := [.ref (g + 1 + y), .int (nI (x + 7)), .int (nI (x + 11))]) (rest := []) (v := some (.int (nI (zw4 (zat B true y) (x + 7)).toNat))) C (mX3_isWhiteHorizontal l D k g (fun y x => B x y) y (nI (x + 7)) (x + 11) (zw4 (zat B true y) (x + 7)) hy (Or.inr ⟨x + 7, rfl, by omega, rfl, rfl⟩)) q170 q171 q4 q172 (by decide +kernel) hR (by decide) rfl hl.1 rfl (Nat.le_of_ble_eq_true rfl) hG dX3_applyMaskPenaltyRule3_152 ?_
                        refine z_beq0 (tgt := 161) hx hb dX3_applyMaskPenaltyRule3_155 (by decide) (fun e20 => ?_) (fun e20 => ?_)
                        · exact k161 false (by unfold zh zside; rw [hpat, e19, e20]; simp) ls (lv_sub hl [1, 2, 3, 4, 5, 6, 7] rfl)
                        · exact k158 (by unfold zh zside; rw [decide_eq_true (by omega), hpat, e19, e20]; rfl) ls hl
set_option maxHeartbeats 4000000 in
theorem lX3_r3out (C : zC p m c cX3_applyMaskPenaltyRule3 8 s args RX3 D k) (hR : zR R 1 24 cells slots) (hM : zM D k b g B H)
    (kk : ∀ ls : Array Slot, lv_has ls 8 [(0, .ref b), (1, .int (nI (zs (fun y => zs (fun x => (zh (zat B true y) x).toNat + (zh (zat B false x) y).toNat) 21) 21))), (2, .ref g), (3, .int (nI 21)), (4, .int (nI 21)), (5, .int (nI 21))] → W p l e R s m args below meth c H locs cells slots Q (F0 m 308 ls [])) :
    ∀ (n y : Nat), y ≤ 21 → 22 ≤ y + n → ∀ ls : Array Slot, lv_has ls 8 [(0, .ref b), (1, .int (nI (zs (fun y => zs (fun x => (zh (zat B true y) x).toNat + (zh (zat B false x) y).toNat) 21) y))), (2, .ref g), (3, .int (nI 21)), (4, .int (nI 21)), (5, .int (nI y))] → W p l e R s m args below meth c H locs cells slots Q (F0 m 21 ls []) := by
  obtain ⟨hx, hb, hml, hown, hts⟩ := C.1
  have hK := C.2
  obtain ⟨hP, hG, hlt⟩ := id hM
  intro n
  induction n with
  | zero =>
    intro y h1 h2
    exact absurd h2 (by omega)
  | succ n ih =>
    intro y hj hjn ls hl
    refine lv_iload hx hb dX3_applyMaskPenaltyRule3_21 (lv_at hl 5 rfl) ?_
    refine lv_iload hx hb dX3_applyMaskPenaltyRule3_23 (lv_at hl 4 rfl) ?_
    refine z_ige (a := y) (b := 21) (tgt := 308) hx hb dX3_applyMaskPenaltyRule3_25 (by decide) (by omega) (by decide) (fun c1 => ?_) (fun c1 => ?_)
    · have ej : y = 21 := by omega
      subst ej
      exact kk ls (lv_sub hl [0, 1, 2, 3, 4, 5] rfl)
    · refine lv_iconst (v := nI 0) hx hb dX3_applyMaskPenaltyRule3_28 (by decide) ?_
      refine lv_istore (lv' := [(6, .int (nI 0)), (0, .ref b), (1, .int (nI (zs (fun y => zs (fun x => (zh (zat B true y) x).toNat + (zh (zat B false x) y).toNat) 21) y))), (2, .ref g), (3, .int (nI 21)), (4, .int (nI 21)), (5, .int (nI y))]) hx hb dX3_applyMaskPenaltyRule3_29 hl (by decide) rfl (fun ls hl => ?_)
      refine lX3_r3in (y := y) (bs := zs (fun y => zs (fun x => (zh (zat B true y) x).toNat + (zh (zat B false x) y).toNat) 21) y) C hR hM (by omega) (fun ls hl => ?_) 22 0 (by omega) (by omega) ls (lv_sub hl [1, 2, 3, 4, 5, 6, 0] rfl)
      refine lv_iinc (v := nI (y + 1)) (lv' := [(5, .int (nI (y + 1))), (0, .ref b), (1, .int (nI (zs (fun y => zs (fun x => (zh (zat B true y) x).toNat + (zh (zat B false x) y).toNat) 21) y + zs (fun x => (zh (zat B true y) x).toNat + (zh (zat B false x) y).toNat) 21))), (2, .ref g), (3, .int (nI 21)), (4, .int (nI 21)), (6, .int (nI 21))]) hx hb dX3_applyMaskPenaltyRule3_302 hl (k := 5) rfl (z_inc _) (by decide) rfl (fun ls hl => ?_)
      refine lv_goto (tgt := 21) hx hb dX3_applyMaskPenaltyRule3_305 (by decide) ?_
      exact ih (y + 1) (by omega) (by omega) ls (lv_sub hl [1, 2, 3, 4, 5, 0] rfl)
end Z3
set_option maxHeartbeats 4000000 in
theorem mX3_rule3 (l : Launch) (D : va_G) (k : Nat → ClassId) (b g : Nat) (B : Nat → Nat → Bool) : zRead l yX3_applyMaskPenaltyRule3 cX3_applyMaskPenaltyRule3 8 (some .int) 1 24 D k [.ref b] (zM D k b g B) (some (.int (nI (zr3 B * 40)))) := by
  refine zRead.of (by decide) (Nat.le_of_ble_eq_true rfl) ?_
  intro p e s m below meth c ls C hR hr hlk hM hl
  obtain ⟨hx, hb, hml, hown, hts⟩ := C.1
  have hown : s.vm.findClass RX3 = some m.cls := hown
  have hK := C.2
  obtain ⟨hP, hG, hlt⟩ := id hM
  have hl : lv_has ls 8 [(0, .ref b)] := hl
  refine lv_iconst (v := nI 0) hx hb dX3_applyMaskPenaltyRule3_0 (by decide) ?_
  refine lv_istore_n (lv' := [(1, .int (nI 0)), (0, .ref b)]) hx hb dX3_applyMaskPenaltyRule3_1 rfl hl (by decide) rfl (fun ls hl => ?_)
  refine lv_aload_n hx hb dX3_applyMaskPenaltyRule3_2 rfl (lv_at hl 1 rfl) ?_
  refine zcallV (n := 0) (b := b) (av := []) (rest := []) (v := some (.ref g)) C (mX2_getArray l D k b g B) q158 q159 q160 q3 q161 (by decide +kernel) hR (by decide) rfl hl.1 rfl (Nat.le_of_ble_eq_true rfl) (hM.recv hK) hM dX3_applyMaskPenaltyRule3_3 ?_
  refine lv_astore_n (lv' := [(2, .ref g), (1, .int (nI 0)), (0, .ref b)]) hx hb dX3_applyMaskPenaltyRule3_6 rfl hl (by decide) rfl (fun ls hl => ?_)
  refine lv_aload_n hx hb dX3_applyMaskPenaltyRule3_7 rfl (lv_at hl 2 rfl) ?_
  refine zcallV (n := 0) (b := b) (av := []) (rest := []) (v := some (.int (nI 21))) C (mX2_getWidth l D k b g B) q162 q163 q164 q3 q165 (by decide +kernel) hR (by decide) rfl hl.1 rfl (Nat.le_of_ble_eq_true rfl) (hM.recv hK) hM dX3_applyMaskPenaltyRule3_8 ?_
  refine lv_istore_n (lv' := [(3, .int (nI 21)), (2, .ref g), (1, .int (nI 0)), (0, .ref b)]) hx hb dX3_applyMaskPenaltyRule3_11 rfl hl (by decide) rfl (fun ls hl => ?_)
  refine lv_aload_n hx hb dX3_applyMaskPenaltyRule3_12 rfl (lv_at hl 3 rfl) ?_
  refine zcallV (n := 0) (b := b) (av := []) (rest := []) (v := some (.int (nI 21))) C (mX2_getHeight l D k b g B) q166 q167 q168 q3 q169 (by decide +kernel) hR (by decide) rfl hl.1 rfl (Nat.le_of_ble_eq_true rfl) (hM.recv hK) hM dX3_applyMaskPenaltyRule3_13 ?_
  refine lv_istore (lv' := [(4, .int (nI 21)), (3, .int (nI 21)), (2, .ref g), (1, .int (nI 0)), (0, .ref b)]) hx hb dX3_applyMaskPenaltyRule3_16 hl (by decide) rfl (fun ls hl => ?_)
  refine lv_iconst (v := nI 0) hx hb dX3_applyMaskPenaltyRule3_18 (by decide) ?_
  refine lv_istore (lv' := [(5, .int (nI 0)), (4, .int (nI 21)), (3, .int (nI 21)), (2, .ref g), (1, .int (nI 0)), (0, .ref b)]) hx hb dX3_applyMaskPenaltyRule3_19 hl (by decide) rfl (fun ls hl => ?_)
  refine lX3_r3out C hR hM (fun ls hl => ?_) 22 0 (by omega) (by omega) ls (lv_sub hl [5, 4, 3, 2, 1, 0] rfl)
  refine lv_iload_n hx hb dX3_applyMaskPenaltyRule3_308 rfl (lv_at hl 1 rfl) ?_
  refine lv_bipush (v := nI 40) hx hb dX3_applyMaskPenaltyRule3_309 (by decide) ?_
  refine z_imul (v := nI ((zr3 B) * 40)) hx hb dX3_applyMaskPenaltyRule3_311 (pk_mul _ _) ?_
  exact zri hx hb hr hlk dX3_applyMaskPenaltyRule3_312
end
section
/-! UPDATES of a sheet: fill, mask, single places; and the calls of constructors -/
set_option maxRecDepth 100000
def md21 (x : Int32) : Nat := lo31 x % 21
theorem md21_lt (x : Int32) : md21 x < 21 := Nat.mod_lt _ (by decide)
theorem lo31_nI {x : Nat} (h : x < 2 ^ 31) : lo31 (nI x) = x := by
  unfold lo31
  rw [pk_tn (by omega)]
  omega
theorem md21_nI {x : Nat} (h : x < 21) : md21 (nI x) = x := by
  unfold md21
  rw [lo31_nI (by omega)]
  omega
theorem lo1_nI (v : Bool) : lo1 (nI v.toNat) = v := by cases v <;> decide
/-- the places of a fill that are done: whole columns from a to i, of the column i those from b to j -/
def zfi (B : Nat → Nat → Bool) (a b h : Nat) (v : Bool) (i j : Nat) : Nat → Nat → Bool := fun x y => if (a ≤ x ∧ x < i ∧ b ≤ y ∧ y < b + 1 + h) ∨ (x = i ∧ b ≤ y ∧ y < j) then v else B x y
def zfo (B : Nat → Nat → Bool) (a b h : Nat) (v : Bool) (i : Nat) : Nat → Nat → Bool := fun x y => if a ≤ x ∧ x < i ∧ b ≤ y ∧ y < b + 1 + h then v else B x y
def zfl (B : Nat → Nat → Bool) (a b w h : Nat) (v : Bool) : Nat → Nat → Bool := fun x y => if a ≤ x ∧ x < a + 1 + w ∧ b ≤ y ∧ y < b + 1 + h then v else B x y
theorem zif {P Q : Prop} [Decidable P] [Decidable Q] (h : P ↔ Q) (v w : Bool) : (if P then v else w) = if Q then v else w := by
  by_cases p : P
  · rw [if_pos p, if_pos (h.mp p)]
  · rw [if_neg p, if_neg (fun q => p (h.mpr q))]
theorem zfo_0 (B : Nat → Nat → Bool) (a b h : Nat) (v : Bool) (x y : Nat) : B x y = zfo B a b h v a x y := by
  unfold zfo
  rw [if_neg (by omega)]
theorem zfi_0 (B : Nat → Nat → Bool) (a b h : Nat) (v : Bool) (i x y : Nat) : zfo B a b h v i x y = zfi B a b h v i b x y := zif (by omega) _ _
theorem zfi_s (B : Nat → Nat → Bool) (a b h : Nat) (v : Bool) {i j : Nat} (hj : b ≤ j) (x y : Nat) : zup (zfi B a b h v i j) i j v x y = zfi B a b h v i (j + 1) x y := by
  unfold zup
  by_cases q : x = i ∧ y = j
  · rw [if_pos q]
    unfold zfi
    rw [if_pos (by omega)]
  · rw [if_neg q]
    exact zif (by omega) _ _
theorem zfi_e (B : Nat → Nat → Bool) (a b h : Nat) (v : Bool) {i j : Nat} (hi : a ≤ i) (hj : j ≤ b + 1 + h) (he : 21 ≤ j ∨ b + 1 + h ≤ j) (x y : Nat) (hy : y < 21) : zfi B a b h v i j x y = zfo B a b h v (i + 1) x y := zif (by omega) _ _
theorem zfo_e (B : Nat → Nat → Bool) (a b w h : Nat) (v : Bool) {i : Nat} (hi : i ≤ a + 1 + w) (he : 21 ≤ i ∨ a + 1 + w ≤ i) (x y : Nat) (hx : x < 21) : zfo B a b h v i x y = zfl B a b w h v x y := zif (by omega) _ _
/-- the places of a mask that are done -/
def zmi (B : Nat → Nat → Bool) (q i j : Nat) : Nat → Nat → Bool := fun x y => if x < i ∨ (x = i ∧ y < j) then (B x y ^^ zmb q x y) else B x y
def zmx (B : Nat → Nat → Bool) (q : Nat) : Nat → Nat → Bool := fun x y => B x y ^^ zmb q x y
theorem zmi_0 (B : Nat → Nat → Bool) (q x y : Nat) : B x y = zmi B q 0 0 x y := by
  unfold zmi
  rw [if_neg (by omega)]
theorem zmi_at (B : Nat → Nat → Bool) (q i j : Nat) : zmi B q i j i j = B i j := by
  unfold zmi
  rw [if_neg (by omega)]
theorem zmi_n (B : Nat → Nat → Bool) {q i j : Nat} (h : zmb q i j = false) (x y : Nat) : zmi B q i j x y = zmi B q i (j + 1) x y := by
  by_cases e : x = i ∧ y = j
  · rw [e.1, e.2, zmi_at]
    unfold zmi
    rw [if_pos (by omega), h]
    simp
  · exact zif (by omega) _ _
theorem zmi_y (B : Nat → Nat → Bool) {q i j : Nat} (h : zmb q i j = true) (x y : Nat) : zup (zmi B q i j) i j (!B i j) x y = zmi B q i (j + 1) x y := by
  unfold zup
  by_cases e : x = i ∧ y = j
  · rw [if_pos e, e.1, e.2]
    unfold zmi
    rw [if_pos (by omega), h]
    simp
  · rw [if_neg e]
    exact zif (by omega) _ _
theorem zmi_e (B : Nat → Nat → Bool) (q i x y : Nat) (hy : y < 21) : zmi B q i 21 x y = zmi B q (i + 1) 0 x y := zif (by omega) _ _
theorem zmi_f (B : Nat → Nat → Bool) (q x y : Nat) (hx : x < 21) : zmi B q 21 0 x y = zmx B q x y := by
  unfold zmi
  rw [if_pos (by omega)]
  rfl
/-- the law's own order: place by place -/
theorem zmi_x (B : Nat → Nat → Bool) {q k : Nat} (x y : Nat) : zup (zmi B q (k / 21) (k % 21)) (k / 21) (k % 21) (B (k / 21) (k % 21) ^^ zmb q (k / 21) (k % 21)) x y = zmi B q (k / 21) (k % 21 + 1) x y := by
  unfold zup
  by_cases e : x = k / 21 ∧ y = k % 21
  · rw [if_pos e, e.1, e.2]
    unfold zmi
    rw [if_pos (by omega)]
  · rw [if_neg e]
    exact zif (by omega) _ _
theorem zmi_k (B : Nat → Nat → Bool) {q k : Nat} (x y : Nat) (hy : y < 21) : zmi B q (k / 21) (k % 21 + 1) x y = zmi B q ((k + 1) / 21) ((k + 1) % 21) x y := zif (by omega) _ _
section ZI
variable {p : Program} {l : Launch} {e : Env} {R : Room} {s : State} {m : MethodId} {args : Array Value} {below : List Frame} {meth : Method} {c : Code} {H : Heap} {locs : List Loc} {cells slots : Nat} {Q : State → Prop}
variable {cc : ByteArray} {pc : Nat} {ls : Array Slot} {rest st : List Value}
theorem zcallI {y : MethodName} {bytes : ByteArray} {maxL n index nL mc ms : Nat} {rm : Room} {Pc : Array Value → State → Prop} {Qc : Array Value → State → Outcome → State → Prop} {free : Addr → Prop} {b : Nat} {av : List Value} {own : String}
    (CF : CallFix p m c cc nL s args lw_all own) (hM : Met l y (ws_ y bytes maxL none) rm Pc Qc mc ms free) (h1 : Cond.methodLink own index y ∈ lw_all) (h2 : Cond.instanceMethod y ∈ lw_all) (h3 : Cond.initialized y.cls ∈ lw_all) (h4 : Cond.code y bytes maxL none ∈ lw_all) (hrc : rm.cells = mc) (hrs : rm.slots = ms) (hy1 : y.name = "<init>")
    (hd : y.cls ≠ "java/lang/invoke/MethodHandle" ∧ y.cls ≠ "java/lang/invoke/VarHandle" ∧ (parseMethodDescriptor y.desc).map (fun d => d.parameters.length) = some n) (hfl : rm.frames + 1 ≤ R.frames ∧ 8 + (maxL + 11) + rm.locals ≤ R.locals) (hcs : cells + mc ≤ R.cells ∧ slots + ms ≤ R.slots)
    (hn : av.length = n) (hsz : ls.size = nL) (hst : st = av.reverse ++ .ref b :: rest) (hroom : (rest.map fun v => v.category).sum ≤ 8) (hp : PreS s H Pc (.ref b :: av)) (hdg : decode cc pc = .ok (.invokespecial index, 3))
    (kk : ∀ (v : Option Value) (st₀ t : State) (locs1 : List Loc), st₀.heap = H → Qc (Value.ref b :: av).toArray st₀ (.returned v) t → (∀ q ∈ locs1, q ∈ locs ∨ free q.base) → W p l e R s m args below meth c t.heap locs1 (cells + mc) (slots + ms) Q (F0 m (pc + 3) ls (v.toList ++ rest))) : W p l e R s m args below meth c H locs cells slots Q (F0 m pc ls st) := by
  have hr := W.runI (Ts := lw_all) (H := H) (locs := locs) (cells := cells) (slots := slots) (g := F0 m pc ls st) (R := R) (e := e) (below := below) (meth := meth) CF hM (cwI n CF.2.2.2.2 (lw_meth h4) rfl hrc hrs (CF.2.2.2.2 _ h3) (CF.2.2.2.2 _ h1) (CF.2.2.2.2 _ h2) hy1 hd hfl) hp rfl hn hsz hst (lv_room hroom) hdg hcs
  intro T hT X
  obtain ⟨v', st₀, t, T', L, h0, X', hL, e1, hq, stp⟩ := hr T hT X
  obtain ⟨t2, a1, b1⟩ := kk v' st₀ t (locs ++ L) h0 hq (fun q hq => (List.mem_append.mp hq).imp_right (hL q)) T' e1 X'
  exact ⟨t2, stp t2 a1, b1⟩
end ZI
end
section
/-! PenaltyDesk: its world, and the contracts of its methods -/
set_option maxRecDepth 100000
/-- a desk at o: its ByteMatrix at b, the rows' array at g, dark where B x y -/
def zDk (D : va_G) (k : Nat → ClassId) (o b g : Nat) (B : Nat → Nat → Bool) (H : Heap) : Prop := va_P D vwCl [(o, .inr (0, [.ref b]))] H ∧ zM D k b g B H ∧ o < g
theorem zDk.congr {D : va_G} {k : Nat → ClassId} {o b g : Nat} {B B' : Nat → Nat → Bool} {H : Heap} (h : zDk D k o b g B H) (e : ∀ x y : Nat, x < 21 → y < 21 → B x y = B' x y) : zDk D k o b g B' H := ⟨h.1, h.2.1.congr e, h.2.2⟩
theorem zDk.kept {D : va_G} {k : Nat → ClassId} {o b g : Nat} {B : Nat → Nat → Bool} {H H1 : Heap} (h : zDk D k o b g B H) (h0 : H1[o]? = H[o]?) (h1 : H1[b]? = H[b]?) (h2 : ∀ q : Nat, g ≤ q → q ≤ g + 21 → H1[q]? = H[q]?) : zDk D k o b g B H1 := ⟨zone h.1 h0, h.2.1.kept h1 h2, h.2.2⟩
theorem zDk.recv {D : va_G} {k : Nat → ClassId} {o b g : Nat} {B : Nat → Nat → Bool} {H : Heap} {s : State} (h : zDk D k o b g B H) (hK : zK D k s) : ∃ cell : Cell, H[o]? = some cell ∧ cell.vm.isStatics = false ∧ s.vm.findClass RX1 = some cell.cls := va_recv hK h.1 (ci := 0) (q0 := 0) rfl rfl
/-- what a writer has done so far: only cells of A are other, none is new -/
def zS (A : Nat → Prop) (H0 H : Heap) (locs : List Loc) : Prop := H.size = H0.size ∧ (∀ q : Nat, ¬ A q → H[q]? = H0[q]?) ∧ ∀ q ∈ locs, A q.base
theorem zS.rf {A : Nat → Prop} {H : Heap} : zS A H H [] := ⟨rfl, fun _ _ => rfl, fun _ h => by cases h⟩
theorem zS.step {A : Nat → Prop} {H0 H H1 : Heap} {locs locs1 : List Loc} (h : zS A H0 H locs) (h1 : H1.size = H.size) (h2 : ∀ q : Nat, ¬ A q → H1[q]? = H[q]?) (h3 : ∀ q ∈ locs1, q ∈ locs ∨ A q.base) : zS A H0 H1 locs1 :=
  ⟨h1.trans h.1, fun q hq => (h2 q hq).trans (h.2.1 q hq), fun q hq => (h3 q hq).elim (h.2.2 q) id⟩
set_option maxHeartbeats 4000000 in
theorem mX1_runs (l : Launch) (D : va_G) (k : Nat → ClassId) (o b g : Nat) (B : Nat → Nat → Bool) : zRead l yX1_runs cX1_runs 1 (some .int) 3 70 D k [.ref o] (zDk D k o b g B) (some (.int (nI (zr1 B true + zr1 B false)))) := by
  refine zRead.of (by decide) (Nat.le_of_ble_eq_true rfl) ?_
  intro p e s m below meth c ls C hR hr hlk hD hl
  obtain ⟨hx, hb, hml, hown, hts⟩ := C.1
  have hown : s.vm.findClass RX1 = some m.cls := hown
  have hK := C.2
  obtain ⟨hP, hM, hlt⟩ := id hD
  have hl : lv_has ls 1 [(0, .ref o)] := hl
  refine lv_aload_n hx hb dX1_runs_0 rfl (lv_at hl 0 rfl) ?_
  refine va_get (D := D) (ci := 0) (v := .ref b) (C := RX1) (T := TX1) (N := 1) hx hb hts in_X1 hown hK hP 0 rfl rfl 0 (by decide) (hts _ q37) (fun _ h9 => h9) rfl dX1_runs_1 ?_
  refine zcallS (n := 1) (av := [.ref b]) (rest := []) (v := some (.int (nI (zr1 B true + zr1 B false)))) C (mX3_rule1 l D k b g B) q189 q190 q4 q191 (by decide +kernel) hR (by decide) rfl hl.1 rfl (Nat.le_of_ble_eq_true rfl) hM dX1_runs_4 ?_
  exact zri hx hb hr hlk dX1_runs_7
set_option maxHeartbeats 4000000 in
theorem mX1_squares (l : Launch) (D : va_G) (k : Nat → ClassId) (o b g : Nat) (B : Nat → Nat → Bool) : zRead l yX1_squares cX1_squares 1 (some .int) 2 51 D k [.ref o] (zDk D k o b g B) (some (.int (nI (3 * zr2 B)))) := by
  refine zRead.of (by decide) (Nat.le_of_ble_eq_true rfl) ?_
  intro p e s m below meth c ls C hR hr hlk hD hl
  obtain ⟨hx, hb, hml, hown, hts⟩ := C.1
  have hown : s.vm.findClass RX1 = some m.cls := hown
  have hK := C.2
  obtain ⟨hP, hM, hlt⟩ := id hD
  have hl : lv_has ls 1 [(0, .ref o)] := hl
  refine lv_aload_n hx hb dX1_squares_0 rfl (lv_at hl 0 rfl) ?_
  refine va_get (D := D) (ci := 0) (v := .ref b) (C := RX1) (T := TX1) (N := 1) hx hb hts in_X1 hown hK hP 0 rfl rfl 0 (by decide) (hts _ q37) (fun _ h9 => h9) rfl dX1_squares_1 ?_
  refine zcallS (n := 1) (av := [.ref b]) (rest := []) (v := some (.int (nI (3 * zr2 B)))) C (mX3_rule2 l D k b g B) q202 q203 q4 q204 (by decide +kernel) hR (by decide) rfl hl.1 rfl (Nat.le_of_ble_eq_true rfl) hM dX1_squares_4 ?_
  exact zri hx hb hr hlk dX1_squares_7
set_option maxHeartbeats 4000000 in
theorem mX1_finders (l : Launch) (D : va_G) (k : Nat → ClassId) (o b g : Nat) (B : Nat → Nat → Bool) : zRead l yX1_finders cX1_finders 1 (some .int) 2 51 D k [.ref o] (zDk D k o b g B) (some (.int (nI (zr3 B * 40)))) := by
  refine zRead.of (by decide) (Nat.le_of_ble_eq_true rfl) ?_
  intro p e s m below meth c ls C hR hr hlk hD hl
  obtain ⟨hx, hb, hml, hown, hts⟩ := C.1
  have hown : s.vm.findClass RX1 = some m.cls := hown
  have hK := C.2
  obtain ⟨hP, hM, hlt⟩ := id hD
  have hl : lv_has ls 1 [(0, .ref o)] := hl
  refine lv_aload_n hx hb dX1_finders_0 rfl (lv_at hl 0 rfl) ?_
  refine va_get (D := D) (ci := 0) (v := .ref b) (C := RX1) (T := TX1) (N := 1) hx hb hts in_X1 hown hK hP 0 rfl rfl 0 (by decide) (hts _ q37) (fun _ h9 => h9) rfl dX1_finders_1 ?_
  refine zcallS (n := 1) (av := [.ref b]) (rest := []) (v := some (.int (nI (zr3 B * 40)))) C (mX3_rule3 l D k b g B) q155 q156 q4 q157 (by decide +kernel) hR (by decide) rfl hl.1 rfl (Nat.le_of_ble_eq_true rfl) hM dX1_finders_4 ?_
  exact zri hx hb hr hlk dX1_finders_7
set_option maxHeartbeats 4000000 in
theorem mX1_share (l : Launch) (D : va_G) (k : Nat → ClassId) (o b g : Nat) (B : Nat → Nat → Bool) : zRead l yX1_share cX1_share 1 (some .int) 2 51 D k [.ref o] (zDk D k o b g B) (some (.int (nI (zr4 B)))) := by
  refine zRead.of (by decide) (Nat.le_of_ble_eq_true rfl) ?_
  intro p e s m below meth c ls C hR hr hlk hD hl
  obtain ⟨hx, hb, hml, hown, hts⟩ := C.1
  have hown : s.vm.findClass RX1 = some m.cls := hown
  have hK := C.2
  obtain ⟨hP, hM, hlt⟩ := id hD
  have hl : lv_has ls 1 [(0, .ref o)] := hl
  refine lv_aload_n hx hb dX1_share_0 rfl (lv_at hl 0 rfl) ?_
  refine va_get (D := D) (ci := 0) (v := .ref b) (C := RX1) (T := TX1) (N := 1) hx hb hts in_X1 hown hK hP 0 rfl rfl 0 (by decide) (hts _ q37) (fun _ h9 => h9) rfl dX1_share_1 ?_
  refine zcallS (n := 1) (av := [.ref b]) (rest := []) (v := some (.int (nI (zr4 B)))) C (mX3_rule4 l D k b g B) q212 q213 q4 q214 (by decide +kernel) hR (by decide) rfl hl.1 rfl (Nat.le_of_ble_eq_true rfl) hM dX1_share_4 ?_
  exact zri hx hb hr hlk dX1_share_7
set_option maxHeartbeats 4000000 in
theorem mX1_get (l : Launch) (D : va_G) (k : Nat → ClassId) (o b g : Nat) (B : Nat → Nat → Bool) (xa ya : Int32) : zRead l yX1_get cX1_get 3 (some .int) 1 22 D k [.ref o, .int xa, .int ya] (zDk D k o b g B) (some (.int (nI (B (md21 xa) (md21 ya)).toNat))) := by
  refine zRead.of (by decide) (Nat.le_of_ble_eq_true rfl) ?_
  intro p e s m below meth c ls C hR hr hlk hD hl
  obtain ⟨hx, hb, hml, hown, hts⟩ := C.1
  have hown : s.vm.findClass RX1 = some m.cls := hown
  have hK := C.2
  obtain ⟨hP, hM, hlt⟩ := id hD
  have hl : lv_has ls 3 [(0, .ref o), (1, .int xa), (2, .int ya)] := hl
  refine lv_aload_n hx hb dX1_get_0 rfl (lv_at hl 0 rfl) ?_
  refine va_get (D := D) (ci := 0) (v := .ref b) (C := RX1) (T := TX1) (N := 1) hx hb hts in_X1 hown hK hP 0 rfl rfl 0 (by decide) (hts _ q37) (fun _ h9 => h9) rfl dX1_get_1 ?_
  refine lv_iload_n hx hb dX1_get_4 rfl (lv_at hl 1 rfl) ?_
  refine lv_ldc hx hb hown (hts _ q45) dX1_get_5 ?_
  refine z_iand (v := nI (lo31 xa)) hx hb dX1_get_7 (an31 _) ?_
  refine lv_bipush (v := nI 21) hx hb dX1_get_8 (by decide) ?_
  refine z_irem (v := nI (md21 xa)) hx hb dX1_get_10 (by decide) (pk_rem (lo31_lt _) (by decide) (by decide)) ?_
  refine lv_iload_n hx hb dX1_get_11 rfl (lv_at hl 2 rfl) ?_
  refine lv_ldc hx hb hown (hts _ q45) dX1_get_12 ?_
  refine z_iand (v := nI (lo31 ya)) hx hb dX1_get_14 (an31 _) ?_
  refine lv_bipush (v := nI 21) hx hb dX1_get_15 (by decide) ?_
  refine z_irem (v := nI (md21 ya)) hx hb dX1_get_17 (by decide) (pk_rem (lo31_lt _) (by decide) (by decide)) ?_
  refine zcallV (n := 2) (b := b) (av := [.int (nI (md21 xa)), .int (nI (md21 ya))]) (rest := []) (v := some (.int (nI (B (md21 xa) (md21 ya)).toNat))) C (mX2_get l D k b g B (md21 xa) (md21 ya) (md21_lt _) (md21_lt _)) q130 q131 q132 q3 q133 (by decide +kernel) hR (by decide) rfl hl.1 rfl (Nat.le_of_ble_eq_true rfl) (hM.recv hK) hM dX1_get_18 ?_
  exact zri hx hb hr hlk dX1_get_21
set_option maxHeartbeats 4000000 in
theorem mX1_mask (l : Launch) (D : va_G) (k : Nat → ClassId) (o b g : Nat) (B : Nat → Nat → Bool) (ma xa ya : Int32) : zRead l yX1_mask cX1_mask 4 (some .boolean) 1 24 D k [.ref o, .int ma, .int xa, .int ya] (zDk D k o b g B) (some (.int (nI (zmb (lo3 ma) (lo8 xa) (lo8 ya)).toNat))) := by
  refine zRead.of (by decide) (Nat.le_of_ble_eq_true rfl) ?_
  intro p e s m below meth c ls C hR hr hlk hD hl
  obtain ⟨hx, hb, hml, hown, hts⟩ := C.1
  have hown : s.vm.findClass RX1 = some m.cls := hown
  have hK := C.2
  obtain ⟨hP, hM, hlt⟩ := id hD
  have hl : lv_has ls 4 [(0, .ref o), (1, .int ma), (2, .int xa), (3, .int ya)] := hl
  refine lv_iload_n hx hb dX1_mask_0 rfl (lv_at hl 1 rfl) ?_
  refine lv_bipush (v := nI 7) hx hb dX1_mask_1 (by decide) ?_
  refine z_iand (v := nI (lo3 ma)) hx hb dX1_mask_3 (an3 _) ?_
  refine lv_iload_n hx hb dX1_mask_4 rfl (lv_at hl 2 rfl) ?_
  refine lv_sipush (v := nI 255) hx hb dX1_mask_5 (by decide) ?_
  refine z_iand (v := nI (lo8 xa)) hx hb dX1_mask_8 (an8 _) ?_
  refine lv_iload_n hx hb dX1_mask_9 rfl (lv_at hl 3 rfl) ?_
  refine lv_sipush (v := nI 255) hx hb dX1_mask_10 (by decide) ?_
  refine z_iand (v := nI (lo8 ya)) hx hb dX1_mask_13 (an8 _) ?_
  refine zcallS (n := 3) (av := [.int (nI (lo3 ma)), .int (nI (lo8 xa)), .int (nI (lo8 ya))]) (rest := []) (v := some (.int (nI (zmb (lo3 ma) (lo8 xa) (lo8 ya)).toNat))) C (mX3_getDataMaskBit l D k (lo3 ma) (lo8 xa) (lo8 ya) (lo3_lt _) (lo8_lt _) (lo8_lt _)) q58 q59 q4 q60 (by decide +kernel) hR (by decide) rfl hl.1 rfl (Nat.le_of_ble_eq_true rfl) trivial dX1_mask_14 ?_
  exact zrn hx hb hr hlk (znb _) dX1_mask_17
set_option maxHeartbeats 4000000 in
theorem mX1_set (l : Launch) (D : va_G) (k : Nat → ClassId) (o b g : Nat) (B : Nat → Nat → Bool) (xa ya va : Int32) : zWrite l yX1_set cX1_set 4 1 23 D k [.ref o, .int xa, .int ya, .int va] (zDk D k o b g B) (zA g) (zDk D k o b g (zup B (md21 xa) (md21 ya) (lo1 va))) := by
  refine zWrite.of (by decide) (Nat.le_of_ble_eq_true rfl) ?_
  intro p e s m below meth c ls C hR hr hlk hD hl
  obtain ⟨hx, hb, hml, hown, hts⟩ := C.1
  have hown : s.vm.findClass RX1 = some m.cls := hown
  have hK := C.2
  obtain ⟨hP, hM, hlt⟩ := id hD
  have hl : lv_has ls 4 [(0, .ref o), (1, .int xa), (2, .int ya), (3, .int va)] := hl
  refine lv_aload_n hx hb dX1_set_0 rfl (lv_at hl 0 rfl) ?_
  refine va_get (D := D) (ci := 0) (v := .ref b) (C := RX1) (T := TX1) (N := 1) hx hb hts in_X1 hown hK hP 0 rfl rfl 0 (by decide) (hts _ q37) (fun _ h9 => h9) rfl dX1_set_1 ?_
  refine lv_iload_n hx hb dX1_set_4 rfl (lv_at hl 1 rfl) ?_
  refine lv_ldc hx hb hown (hts _ q45) dX1_set_5 ?_
  refine z_iand (v := nI (lo31 xa)) hx hb dX1_set_7 (an31 _) ?_
  refine lv_bipush (v := nI 21) hx hb dX1_set_8 (by decide) ?_
  refine z_irem (v := nI (md21 xa)) hx hb dX1_set_10 (by decide) (pk_rem (lo31_lt _) (by decide) (by decide)) ?_
  refine lv_iload_n hx hb dX1_set_11 rfl (lv_at hl 2 rfl) ?_
  refine lv_ldc hx hb hown (hts _ q45) dX1_set_12 ?_
  refine z_iand (v := nI (lo31 ya)) hx hb dX1_set_14 (an31 _) ?_
  refine lv_bipush (v := nI 21) hx hb dX1_set_15 (by decide) ?_
  refine z_irem (v := nI (md21 ya)) hx hb dX1_set_17 (by decide) (pk_rem (lo31_lt _) (by decide) (by decide)) ?_
  refine lv_iload_n hx hb dX1_set_18 rfl (lv_at hl 3 rfl) ?_
  refine lv_iconst (v := nI 1) hx hb dX1_set_19 (by decide) ?_
  refine z_iand (v := nI (lo1 va).toNat) hx hb dX1_set_20 (an1 _) ?_
  refine zcallVw (n := 3) (b := b) (av := [.int (nI (md21 xa)), .int (nI (md21 ya)), .int (nI (lo1 va).toNat)]) (rest := []) C (mX2_set l D k b g B (md21 xa) (md21 ya) (lo1 va) (md21_lt _) (md21_lt _)) q46 q47 q48 q3 q49 (by decide +kernel) hR (by decide) rfl hl.1 rfl (Nat.le_of_ble_eq_true rfl) (hM.recv hK) hM dX1_set_21 (fun H1 locs1 hF1 hz1 ho1 hL1 => ?_)
  exact zrv hx hb hr hlk ⟨zone hP (ho1 o (fun h => by have h1 := h.1; omega)), hF1, hlt⟩ hz1 ho1 (fun q hq => (hL1 q hq).elim (fun h => by cases h) id) dX1_set_24
section Z1
variable {p : Program} {l : Launch} {e : Env} {R : Room} {s : State} {m : MethodId} {args : Array Value} {below : List Frame} {meth : Method} {c : Code} {H : Heap} {locs : List Loc} {cells slots : Nat} {Q : State → Prop}
variable {D : va_G} {k : Nat → ClassId} {o b g : Nat} {B : Nat → Nat → Bool} {xa ya wa ha va : Int32} {H0 : Heap}
set_option maxHeartbeats 4000000 in
theorem lX1_fillin {i : Nat} (C : zC p m c cX1_fill 10 s args RX1 D k) (hR : zR R 1 23 cells slots) (hi : i < 21) (hia : md21 xa ≤ i)
    (kk : ∀ (H : Heap) (locs : List Loc), zDk D k o b g (zfo B (md21 xa) (md21 ya) (lo3 ha) (lo1 va) (i + 1)) H → zS (zA g) H0 H locs → ∀ ls : Array Slot, lv_has ls 10 [(0, .ref o), (1, .int xa), (2, .int ya), (3, .int wa), (4, .int ha), (5, .int va), (6, .int (nI (md21 xa))), (7, .int (nI (md21 ya))), (8, .int (nI i))] → W p l e R s m args below meth c H locs cells slots Q (F0 m 90 ls [])) :
    ∀ (n j : Nat), md21 ya ≤ j → j ≤ 21 → j ≤ md21 ya + 1 + lo3 ha → 22 ≤ j + n → ∀ (H : Heap) (locs : List Loc), zDk D k o b g (zfi B (md21 xa) (md21 ya) (lo3 ha) (lo1 va) i j) H → zS (zA g) H0 H locs → ∀ ls : Array Slot, lv_has ls 10 [(0, .ref o), (1, .int xa), (2, .int ya), (3, .int wa), (4, .int ha), (5, .int va), (6, .int (nI (md21 xa))), (7, .int (nI (md21 ya))), (8, .int (nI i)), (9, .int (nI j))] → W p l e R s m args below meth c H locs cells slots Q (F0 m 47 ls []) := by
  obtain ⟨hx, hb, hml, hown, hts⟩ := C.1
  have hown : s.vm.findClass RX1 = some m.cls := hown
  have hK := C.2
  have h21a := md21_lt xa
  have h21b := md21_lt ya
  have h8w := lo3_lt wa
  have h8h := lo3_lt ha
  intro n
  induction n with
  | zero =>
    intro j h0 h1 h2 h3
    exact absurd h3 (by omega)
  | succ n ih =>
    intro j hj0 hj hjh hjn H locs hD hS ls hl
    obtain ⟨hP, hM, hlt⟩ := id hD
    refine lv_iload hx hb dX1_fill_47 (lv_at hl 9 rfl) ?_
    refine lv_bipush (v := nI 21) hx hb dX1_fill_49 (by decide) ?_
    refine z_ige (a := j) (b := 21) (tgt := 90) hx hb dX1_fill_51 (by decide) (by omega) (by decide) (fun c1 => ?_) (fun c1 => ?_)
    · exact kk H locs (hD.congr (fun x y _ h2 => zfi_e B _ _ _ _ hia hjh (Or.inl c1) x y h2)) hS ls (lv_sub hl [0, 1, 2, 3, 4, 5, 6, 7, 8] rfl)
    · refine lv_iload hx hb dX1_fill_54 (lv_at hl 9 rfl) ?_
      refine lv_iload hx hb dX1_fill_56 (lv_at hl 7 rfl) ?_
      refine lv_iconst (v := nI 1) hx hb dX1_fill_58 (by decide) ?_
      refine z_iadd (v := nI (md21 ya + 1)) hx hb dX1_fill_59 (nI_add _ _) ?_
      refine lv_iload hx hb dX1_fill_60 (lv_at hl 4 rfl) ?_
      refine lv_bipush (v := nI 7) hx hb dX1_fill_62 (by decide) ?_
      refine z_iand (v := nI (lo3 ha)) hx hb dX1_fill_64 (an3 _) ?_
      refine z_iadd (v := nI (md21 ya + 1 + (lo3 ha))) hx hb dX1_fill_65 (nI_add _ _) ?_
      refine z_ige (a := j) (b := md21 ya + 1 + (lo3 ha)) (tgt := 90) hx hb dX1_fill_66 (by decide) (by omega) (by omega) (fun c2 => ?_) (fun c2 => ?_)
      · exact kk H locs (hD.congr (fun x y _ h2 => zfi_e B _ _ _ _ hia hjh (Or.inr c2) x y h2)) hS ls (lv_sub hl [0, 1, 2, 3, 4, 5, 6, 7, 8] rfl)
      · refine lv_aload_n hx hb dX1_fill_69 rfl (lv_at hl 0 rfl) ?_
        refine va_get (D := D) (ci := 0) (v := .ref b) (C := RX1) (T := TX1) (N := 1) hx hb hts in_X1 hown hK hP 0 rfl rfl 0 (by decide) (hts _ q37) (fun _ h9 => h9) rfl dX1_fill_70 ?_
        refine lv_iload hx hb dX1_fill_73 (lv_at hl 8 rfl) ?_
        refine lv_iload hx hb dX1_fill_75 (lv_at hl 9 rfl) ?_
        refine lv_iload hx hb dX1_fill_77 (lv_at hl 5 rfl) ?_
        refine lv_iconst (v := nI 1) hx hb dX1_fill_79 (by decide) ?_
        refine z_iand (v := nI (lo1 va).toNat) hx hb dX1_fill_80 (an1 _) ?_
        refine zcallVw (n := 3) (b := b) (av := [.int (nI i), .int (nI j), .int (nI (lo1 va).toNat)]) (rest := []) C (mX2_set l D k b g (zfi B (md21 xa) (md21 ya) (lo3 ha) (lo1 va) i j) i j (lo1 va) hi (by omega)) q46 q47 q48 q3 q49 (by decide +kernel) hR (by decide) rfl hl.1 rfl (Nat.le_of_ble_eq_true rfl) (hM.recv hK) hM dX1_fill_81 (fun H1 locs1 hF1 hz1 ho1 hL1 => ?_)
        have hD1 : zDk D k o b g (zfi B (md21 xa) (md21 ya) (lo3 ha) (lo1 va) i (j + 1)) H1 := ⟨zone hP (ho1 o (fun h => by have h1 := h.1; omega)), hF1.congr (fun x y _ _ => zfi_s B _ _ _ _ hj0 x y), hlt⟩
        refine lv_iinc (v := nI (j + 1)) (lv' := [(9, .int (nI (j + 1))), (0, .ref o), (1, .int xa), (2, .int ya), (3, .int wa), (4, .int ha), (5, .int va), (6, .int (nI (md21 xa))), (7, .int (nI (md21 ya))), (8, .int (nI i))]) hx hb dX1_fill_84 hl (k := 9) rfl (z_inc _) (by decide) rfl (fun ls hl => ?_)
        refine lv_goto (tgt := 47) hx hb dX1_fill_87 (by decide) ?_
        exact ih (j + 1) (by omega) (by omega) (by omega) (by omega) H1 locs1 hD1 (hS.step hz1 ho1 hL1) ls (lv_sub hl [1, 2, 3, 4, 5, 6, 7, 8, 9, 0] rfl)
set_option maxHeartbeats 4000000 in
theorem lX1_fillout (C : zC p m c cX1_fill 10 s args RX1 D k) (hR : zR R 1 23 cells slots)
    (kk : ∀ (H : Heap) (locs : List Loc), zDk D k o b g (zfl B (md21 xa) (md21 ya) (lo3 wa) (lo3 ha) (lo1 va)) H → zS (zA g) H0 H locs → ∀ ls : Array Slot, ls.size = 10 → W p l e R s m args below meth c H locs cells slots Q (F0 m 96 ls [])) :
    ∀ (n i : Nat), md21 xa ≤ i → i ≤ 21 → i ≤ md21 xa + 1 + lo3 wa → 22 ≤ i + n → ∀ (H : Heap) (locs : List Loc), zDk D k o b g (zfo B (md21 xa) (md21 ya) (lo3 ha) (lo1 va) i) H → zS (zA g) H0 H locs → ∀ ls : Array Slot, lv_has ls 10 [(0, .ref o), (1, .int xa), (2, .int ya), (3, .int wa), (4, .int ha), (5, .int va), (6, .int (nI (md21 xa))), (7, .int (nI (md21 ya))), (8, .int (nI i))] → W p l e R s m args below meth c H locs cells slots Q (F0 m 22 ls []) := by
  obtain ⟨hx, hb, hml, hown, hts⟩ := C.1
  have hown : s.vm.findClass RX1 = some m.cls := hown
  have hK := C.2
  have h21a := md21_lt xa
  have h21b := md21_lt ya
  have h8w := lo3_lt wa
  have h8h := lo3_lt ha
  intro n
  induction n with
  | zero =>
    intro i h0 h1 h2 h3
    exact absurd h3 (by omega)
  | succ n ih =>
    intro i hi0 hi hiw hin H locs hD hS ls hl
    refine lv_iload hx hb dX1_fill_22 (lv_at hl 8 rfl) ?_
    refine lv_bipush (v := nI 21) hx hb dX1_fill_24 (by decide) ?_
    refine z_ige (a := i) (b := 21) (tgt := 96) hx hb dX1_fill_26 (by decide) (by omega) (by decide) (fun c1 => ?_) (fun c1 => ?_)
    · exact kk H locs (hD.congr (fun x y h1 _ => zfo_e B _ _ _ _ _ hiw (Or.inl c1) x y h1)) hS ls hl.1
    · refine lv_iload hx hb dX1_fill_29 (lv_at hl 8 rfl) ?_
      refine lv_iload hx hb dX1_fill_31 (lv_at hl 6 rfl) ?_
      refine lv_iconst (v := nI 1) hx hb dX1_fill_33 (by decide) ?_
      refine z_iadd (v := nI (md21 xa + 1)) hx hb dX1_fill_34 (nI_add _ _) ?_
      refine lv_iload_n hx hb dX1_fill_35 rfl (lv_at hl 3 rfl) ?_
      refine lv_bipush (v := nI 7) hx hb dX1_fill_36 (by decide) ?_
      refine z_iand (v := nI (lo3 wa)) hx hb dX1_fill_38 (an3 _) ?_
      refine z_iadd (v := nI (md21 xa + 1 + (lo3 wa))) hx hb dX1_fill_39 (nI_add _ _) ?_
      refine z_ige (a := i) (b := md21 xa + 1 + (lo3 wa)) (tgt := 96) hx hb dX1_fill_40 (by decide) (by omega) (by omega) (fun c2 => ?_) (fun c2 => ?_)
      · exact kk H locs (hD.congr (fun x y h1 _ => zfo_e B _ _ _ _ _ hiw (Or.inr c2) x y h1)) hS ls hl.1
      · refine lv_iload hx hb dX1_fill_43 (lv_at hl 7 rfl) ?_
        refine lv_istore (lv' := [(9, .int (nI (md21 ya))), (0, .ref o), (1, .int xa), (2, .int ya), (3, .int wa), (4, .int ha), (5, .int va), (6, .int (nI (md21 xa))), (7, .int (nI (md21 ya))), (8, .int (nI i))]) hx hb dX1_fill_45 hl (by decide) rfl (fun ls hl => ?_)
        refine lX1_fillin (H0 := H0) (i := i) C hR (by omega) hi0 (fun H1 locs1 hD1 hS1 ls hl => ?_) 22 (md21 ya) (Nat.le_refl _) (by omega) (by omega) (by omega) H locs (hD.congr (fun x y _ _ => zfi_0 B _ _ _ _ _ x y)) hS ls (lv_sub hl [1, 2, 3, 4, 5, 6, 7, 8, 9, 0] rfl)
        refine lv_iinc (v := nI (i + 1)) (lv' := [(8, .int (nI (i + 1))), (0, .ref o), (1, .int xa), (2, .int ya), (3, .int wa), (4, .int ha), (5, .int va), (6, .int (nI (md21 xa))), (7, .int (nI (md21 ya)))]) hx hb dX1_fill_90 hl (k := 8) rfl (z_inc _) (by decide) rfl (fun ls hl => ?_)
        refine lv_goto (tgt := 22) hx hb dX1_fill_93 (by decide) ?_
        exact ih (i + 1) (by omega) (by omega) (by omega) (by omega) H1 locs1 hD1 hS1 ls (lv_sub hl [1, 2, 3, 4, 5, 6, 7, 8, 0] rfl)
set_option maxHeartbeats 4000000 in
theorem lX1_maskin {ma : Int32} {i : Nat} (C : zC p m c cX1_masked 4 s args RX1 D k) (hR : zR R 1 24 cells slots) (hi : i < 21)
    (kk : ∀ (H : Heap) (locs : List Loc), zDk D k o b g (zmi B (lo3 ma) (i + 1) 0) H → zS (zA g) H0 H locs → ∀ ls : Array Slot, lv_has ls 4 [(0, .ref o), (1, .int ma), (2, .int (nI i))] → W p l e R s m args below meth c H locs cells slots Q (F0 m 54 ls [])) :
    ∀ (n j : Nat), j ≤ 21 → 22 ≤ j + n → ∀ (H : Heap) (locs : List Loc), zDk D k o b g (zmi B (lo3 ma) i j) H → zS (zA g) H0 H locs → ∀ ls : Array Slot, lv_has ls 4 [(0, .ref o), (1, .int ma), (2, .int (nI i)), (3, .int (nI j))] → W p l e R s m args below meth c H locs cells slots Q (F0 m 10 ls []) := by
  obtain ⟨hx, hb, hml, hown, hts⟩ := C.1
  have hown : s.vm.findClass RX1 = some m.cls := hown
  have hK := C.2
  intro n
  induction n with
  | zero =>
    intro j h1 h2
    exact absurd h2 (by omega)
  | succ n ih =>
    intro j hj hjn H locs hD hS ls hl
    obtain ⟨hP, hM, hlt⟩ := id hD
    refine lv_iload_n hx hb dX1_masked_10 rfl (lv_at hl 3 rfl) ?_
    refine lv_bipush (v := nI 21) hx hb dX1_masked_11 (by decide) ?_
    refine z_ige (a := j) (b := 21) (tgt := 54) hx hb dX1_masked_13 (by decide) (by omega) (by decide) (fun c1 => ?_) (fun c1 => ?_)
    · have ej : j = 21 := by omega
      subst ej
      exact kk H locs (hD.congr (fun x y _ h2 => zmi_e B _ _ x y h2)) hS ls (lv_sub hl [0, 1, 2] rfl)
    · have k48 : ∀ (H1 : Heap) (locs1 : List Loc), zDk D k o b g (zmi B (lo3 ma) i (j + 1)) H1 → zS (zA g) H0 H1 locs1 → ∀ ls : Array Slot, lv_has ls 4 [(0, .ref o), (1, .int ma), (2, .int (nI i)), (3, .int (nI j))] → W p l e R s m args below meth c H1 locs1 cells slots Q (F0 m 48 ls []) := by
        intro H1 locs1 hD1 hS1 ls hl
        refine lv_iinc (v := nI (j + 1)) (lv' := [(3, .int (nI (j + 1))), (0, .ref o), (1, .int ma), (2, .int (nI i))]) hx hb dX1_masked_48 hl (k := 3) rfl (z_inc _) (by decide) rfl (fun ls hl => ?_)
        refine lv_goto (tgt := 10) hx hb dX1_masked_51 (by decide) ?_
        exact ih (j + 1) (by omega) (by omega) H1 locs1 hD1 hS1 ls (lv_sub hl [1, 2, 3, 0] rfl)
      refine lv_iload_n hx hb dX1_masked_16 rfl (lv_at hl 1 rfl) ?_
      refine lv_bipush (v := nI 7) hx hb dX1_masked_17 (by decide) ?_
      refine z_iand (v := nI (lo3 ma)) hx hb dX1_masked_19 (an3 _) ?_
      refine lv_iload_n hx hb dX1_masked_20 rfl (lv_at hl 2 rfl) ?_
      refine lv_iload_n hx hb dX1_masked_21 rfl (lv_at hl 3 rfl) ?_
      refine zcallS (n := 3) (av := [.int (nI (lo3 ma)), .int (nI i), .int (nI j)]) (rest := []) (v := some (.int (nI (zmb (lo3 ma) i j).toNat))) C (mX3_getDataMaskBit l D k (lo3 ma) i j (lo3_lt _) (by omega) (by omega)) q58 q59 q4 q60 (by decide +kernel) hR (by decide) rfl hl.1 rfl (Nat.le_of_ble_eq_true rfl) trivial dX1_masked_22 ?_
      refine z_beq0 (tgt := 48) hx hb dX1_masked_25 (by decide) (fun c2 => ?_) (fun c2 => ?_)
      · exact k48 H locs (hD.congr (fun x y _ _ => zmi_n B c2 x y)) hS ls (lv_sub hl [0, 1, 2, 3] rfl)
      · refine lv_aload_n hx hb dX1_masked_28 rfl (lv_at hl 0 rfl) ?_
        refine va_get (D := D) (ci := 0) (v := .ref b) (C := RX1) (T := TX1) (N := 1) hx hb hts in_X1 hown hK hP 0 rfl rfl 0 (by decide) (hts _ q37) (fun _ h9 => h9) rfl dX1_masked_29 ?_
        refine lv_iload_n hx hb dX1_masked_32 rfl (lv_at hl 2 rfl) ?_
        refine lv_iload_n hx hb dX1_masked_33 rfl (lv_at hl 3 rfl) ?_
        refine lv_iconst (v := nI 1) hx hb dX1_masked_34 (by decide) ?_
        refine lv_aload_n hx hb dX1_masked_35 rfl (lv_at hl 0 rfl) ?_
        refine va_get (D := D) (ci := 0) (v := .ref b) (C := RX1) (T := TX1) (N := 1) hx hb hts in_X1 hown hK hP 0 rfl rfl 0 (by decide) (hts _ q37) (fun _ h9 => h9) rfl dX1_masked_36 ?_
        refine lv_iload_n hx hb dX1_masked_39 rfl (lv_at hl 2 rfl) ?_
        refine lv_iload_n hx hb dX1_masked_40 rfl (lv_at hl 3 rfl) ?_
        refine zcallV (n := 2) (b := b) (av := [.int (nI i), .int (nI j)]) (rest := [.int (nI 1), .int (nI j), .int (nI i), .ref b]) (v := some (.int (nI ((zmi B (lo3 ma) i j) i j).toNat))) C (mX2_get l D k b g (zmi B (lo3 ma) i j) i j hi (by omega)) q130 q131 q132 q3 q133 (by decide +kernel) hR (by decide) rfl hl.1 rfl (Nat.le_of_ble_eq_true rfl) (hM.recv hK) hM dX1_masked_41 ?_
        rw [zmi_at]
        refine z_isub (v := nI (!B i j).toNat) hx hb dX1_masked_44 (z_not _) ?_
        refine zcallVw (n := 3) (b := b) (av := [.int (nI i), .int (nI j), .int (nI (!B i j).toNat)]) (rest := []) C (mX2_set l D k b g (zmi B (lo3 ma) i j) i j (!B i j) hi (by omega)) q46 q47 q48 q3 q49 (by decide +kernel) hR (by decide) rfl hl.1 rfl (Nat.le_of_ble_eq_true rfl) (hM.recv hK) hM dX1_masked_45 (fun H1 locs1 hF1 hz1 ho1 hL1 => ?_)
        exact k48 H1 locs1 ⟨zone hP (ho1 o (fun h => by have h1 := h.1; omega)), hF1.congr (fun x y _ _ => zmi_y B c2 x y), hlt⟩ (hS.step hz1 ho1 hL1) ls (lv_sub hl [0, 1, 2, 3] rfl)
set_option maxHeartbeats 4000000 in
theorem lX1_maskout {ma : Int32} (C : zC p m c cX1_masked 4 s args RX1 D k) (hR : zR R 1 24 cells slots)
    (kk : ∀ (H : Heap) (locs : List Loc), zDk D k o b g (zmx B (lo3 ma)) H → zS (zA g) H0 H locs → ∀ ls : Array Slot, ls.size = 4 → W p l e R s m args below meth c H locs cells slots Q (F0 m 60 ls [])) :
    ∀ (n i : Nat), i ≤ 21 → 22 ≤ i + n → ∀ (H : Heap) (locs : List Loc), zDk D k o b g (zmi B (lo3 ma) i 0) H → zS (zA g) H0 H locs → ∀ ls : Array Slot, lv_has ls 4 [(0, .ref o), (1, .int ma), (2, .int (nI i))] → W p l e R s m args below meth c H locs cells slots Q (F0 m 2 ls []) := by
  obtain ⟨hx, hb, hml, hown, hts⟩ := C.1
  have hown : s.vm.findClass RX1 = some m.cls := hown
  have hK := C.2
  intro n
  induction n with
  | zero =>
    intro i h1 h2
    exact absurd h2 (by omega)
  | succ n ih =>
    intro i hi hin H locs hD hS ls hl
    refine lv_iload_n hx hb dX1_masked_2 rfl (lv_at hl 2 rfl) ?_
    refine lv_bipush (v := nI 21) hx hb dX1_masked_3 (by decide) ?_
    refine z_ige (a := i) (b := 21) (tgt := 60) hx hb dX1_masked_5 (by decide) (by omega) (by decide) (fun c1 => ?_) (fun c1 => ?_)
    · have ej : i = 21 := by omega
      subst ej
      exact kk H locs (hD.congr (fun x y h1 _ => zmi_f B _ x y h1)) hS ls hl.1
    · refine lv_iconst (v := nI 0) hx hb dX1_masked_8 (by decide) ?_
      refine lv_istore_n (lv' := [(3, .int (nI 0)), (0, .ref o), (1, .int ma), (2, .int (nI i))]) hx hb dX1_masked_9 rfl hl (by decide) rfl (fun ls hl => ?_)
      refine lX1_maskin (H0 := H0) (i := i) C hR (by omega) (fun H1 locs1 hD1 hS1 ls hl => ?_) 22 0 (by omega) (by omega) H locs hD hS ls (lv_sub hl [1, 2, 3, 0] rfl)
      refine lv_iinc (v := nI (i + 1)) (lv' := [(2, .int (nI (i + 1))), (0, .ref o), (1, .int ma)]) hx hb dX1_masked_54 hl (k := 2) rfl (z_inc _) (by decide) rfl (fun ls hl => ?_)
      refine lv_goto (tgt := 2) hx hb dX1_masked_57 (by decide) ?_
      exact ih (i + 1) (by omega) (by omega) H1 locs1 hD1 hS1 ls (lv_sub hl [1, 2, 0] rfl)
end Z1
set_option maxHeartbeats 4000000 in
theorem mX1_fill (l : Launch) (D : va_G) (k : Nat → ClassId) (o b g : Nat) (B : Nat → Nat → Bool) (xa ya wa ha va : Int32) : zWrite l yX1_fill cX1_fill 10 1 23 D k [.ref o, .int xa, .int ya, .int wa, .int ha, .int va] (zDk D k o b g B) (zA g) (zDk D k o b g (zfl B (md21 xa) (md21 ya) (lo3 wa) (lo3 ha) (lo1 va))) := by
  refine zWrite.of (by decide) (Nat.le_of_ble_eq_true rfl) ?_
  intro p e s m below meth c ls C hR hr hlk hD hl
  obtain ⟨hx, hb, hml, hown, hts⟩ := C.1
  have hown : s.vm.findClass RX1 = some m.cls := hown
  have hK := C.2
  obtain ⟨hP, hM, hlt⟩ := id hD
  have h21a := md21_lt xa
  have h21b := md21_lt ya
  have hl : lv_has ls 10 [(0, .ref o), (1, .int xa), (2, .int ya), (3, .int wa), (4, .int ha), (5, .int va)] := hl
  refine lv_iload_n hx hb dX1_fill_0 rfl (lv_at hl 1 rfl) ?_
  refine lv_ldc hx hb hown (hts _ q45) dX1_fill_1 ?_
  refine z_iand (v := nI (lo31 xa)) hx hb dX1_fill_3 (an31 _) ?_
  refine lv_bipush (v := nI 21) hx hb dX1_fill_4 (by decide) ?_
  refine z_irem (v := nI (md21 xa)) hx hb dX1_fill_6 (by decide) (pk_rem (lo31_lt _) (by decide) (by decide)) ?_
  refine lv_istore (lv' := [(6, .int (nI (md21 xa))), (0, .ref o), (1, .int xa), (2, .int ya), (3, .int wa), (4, .int ha), (5, .int va)]) hx hb dX1_fill_7 hl (by decide) rfl (fun ls hl => ?_)
  refine lv_iload_n hx hb dX1_fill_9 rfl (lv_at hl 3 rfl) ?_
  refine lv_ldc hx hb hown (hts _ q45) dX1_fill_10 ?_
  refine z_iand (v := nI (lo31 ya)) hx hb dX1_fill_12 (an31 _) ?_
  refine lv_bipush (v := nI 21) hx hb dX1_fill_13 (by decide) ?_
  refine z_irem (v := nI (md21 ya)) hx hb dX1_fill_15 (by decide) (pk_rem (lo31_lt _) (by decide) (by decide)) ?_
  refine lv_istore (lv' := [(7, .int (nI (md21 ya))), (6, .int (nI (md21 xa))), (0, .ref o), (1, .int xa), (2, .int ya), (3, .int wa), (4, .int ha), (5, .int va)]) hx hb dX1_fill_16 hl (by decide) rfl (fun ls hl => ?_)
  refine lv_iload hx hb dX1_fill_18 (lv_at hl 1 rfl) ?_
  refine lv_istore (lv' := [(8, .int (nI (md21 xa))), (7, .int (nI (md21 ya))), (6, .int (nI (md21 xa))), (0, .ref o), (1, .int xa), (2, .int ya), (3, .int wa), (4, .int ha), (5, .int va)]) hx hb dX1_fill_20 hl (by decide) rfl (fun ls hl => ?_)
  refine lX1_fillout (H0 := s.heap) C hR (fun H1 locs1 hD1 hS1 ls hs => ?_) 22 (md21 xa) (Nat.le_refl _) (by omega) (by omega) (by omega) s.heap [] (hD.congr (fun x y _ _ => zfo_0 B _ _ _ _ x y)) zS.rf ls (lv_sub hl [3, 4, 5, 6, 7, 8, 2, 1, 0] rfl)
  exact zrv hx hb hr hlk hD1 hS1.1 hS1.2.1 hS1.2.2 dX1_fill_96
set_option maxHeartbeats 4000000 in
theorem mX1_masked (l : Launch) (D : va_G) (k : Nat → ClassId) (o b g : Nat) (B : Nat → Nat → Bool) (ma : Int32) : zWrite l yX1_masked cX1_masked 4 1 24 D k [.ref o, .int ma] (zDk D k o b g B) (zA g) (zDk D k o b g (zmx B (lo3 ma))) := by
  refine zWrite.of (by decide) (Nat.le_of_ble_eq_true rfl) ?_
  intro p e s m below meth c ls C hR hr hlk hD hl
  obtain ⟨hx, hb, hml, hown, hts⟩ := C.1
  have hown : s.vm.findClass RX1 = some m.cls := hown
  have hK := C.2
  obtain ⟨hP, hM, hlt⟩ := id hD
  have hl : lv_has ls 4 [(0, .ref o), (1, .int ma)] := hl
  refine lv_iconst (v := nI 0) hx hb dX1_masked_0 (by decide) ?_
  refine lv_istore_n (lv' := [(2, .int (nI 0)), (0, .ref o), (1, .int ma)]) hx hb dX1_masked_1 rfl hl (by decide) rfl (fun ls hl => ?_)
  refine lX1_maskout (H0 := s.heap) C hR (fun H1 locs1 hD1 hS1 ls hs => ?_) 22 0 (by omega) (by omega) s.heap [] (hD.congr (fun x y _ _ => zmi_0 B _ x y)) zS.rf ls (lv_sub hl [1, 2, 0] rfl)
  exact zrv hx hb hr hlk hD1 hS1.1 hS1.2.1 hS1.2.2 dX1_masked_60
abbrev zrmD : Room := { frames := 2, cells := 23, slots := 465, locals := 34 }
def zPD (D : va_G) (k : Nat → ClassId) (o sz : Nat) : Array Value → State → Prop := fun a U => a = ([.ref o] : List Value).toArray ∧ zK D k U ∧ zAO .byte U ∧ U.heap.size = sz ∧ o < sz ∧ va_P D vwCl [(o, .inr (0, [.null]))] U.heap
def zQD (D : va_G) (k : Nat → ClassId) (o sz : Nat) : Array Value → State → Outcome → State → Prop := fun _ st oc t => oc = .returned none ∧ (∃ b g : Nat, zDk D k o b g (fun _ _ => false) t.heap ∧ sz ≤ b) ∧ sz ≤ t.heap.size ∧ ∀ q : Nat, q < sz → q ≠ o → t.heap[q]? = st.heap[q]?
set_option maxHeartbeats 4000000 in
/-- PenaltyDesk(): a new sheet, all light -/
theorem mX1_init (l : Launch) (D : va_G) (k : Nat → ClassId) (o sz : Nat) : Met l yX1_init (ws_ yX1_init cX1_init 1 none) zrmD (zPD D k o sz) (zQD D k o sz) 23 465 (fun q => q = o) := by
  refine Met.ofW (cc := cX1_init) (maxL := 1) (ret := none) (by decide) rfl ?_
  intro p e s m args below meth c s₁ B hml hv
  obtain ⟨rfl, hK, hAO, hsz, hoz, hP⟩ := hv
  have hx := B.exec
  have hb := B.bytes
  have hr := B.returns
  have hts := atoms_spec (ws := ws_ yX1_init cX1_init 1 none) B.pre
  have hts : ∀ w ∈ lw_all, w.before _ s = true := fun w h => hts w (List.mem_cons_of_mem _ h)
  have hown : s.vm.findClass RX1 = some m.cls := findClass_of_methodNamed B.named
  have hlocks := B.notSynchronized
  have hin : meth.name = "<init>" := (name_of_methodNamed B.named B.method).1
  subst hsz
  have hl := lv_entry ([.ref o]) (n := 1) (Nat.le_of_ble_eq_true rfl)
  rw [lg_entry_eq]
  generalize (lg_sl ([.ref o]) ++ List.replicate (1 - (lg_sl ([.ref o])).length) Slot.unset).toArray = ls at hl ⊢
  have hl : lv_has ls 1 [(0, .ref o)] := hl
  refine lv_aload_n hx hb dX1_init_0 rfl (lv_at hl 0 rfl) ?_
  refine W.objInit hx hb hown (hts _ q15) (hts _ q16) (hts _ q17) rfl (by rw [hml]; exact hl.1) rfl dX1_init_1 (Nat.le_of_ble_eq_true rfl) (Nat.le_of_ble_eq_true rfl) ?_
  refine W.eq (g2 := F0 m 4 ls []) rfl ?_
  refine lv_aload_n hx hb dX1_init_4 rfl (lv_at hl 0 rfl) ?_
  have hD : va_D (fun q => q = o ∨ s.heap.size ≤ q) [(o, .inr (0, [.null]))] := zoneD (Or.inl rfl)
  refine va_new (ci := 1) (fs := [.null, .int 0, .int 0]) (C := RX2) (T := TX2) (N := 3) hx hb hts in_X2 tyX2 tyX2_ok hown (hts _ q18) (hts _ q19) (hts _ q3) hK hP hD va_S.rf (fun q h => Or.inr h) rfl (fun j hj => by rcases (show j = 0 ∨ j = 1 ∨ j = 2 by omega) with rfl | rfl | rfl <;> rfl) (Nat.le_of_ble_eq_true rfl) (Nat.le_of_ble_eq_true rfl) dX1_init_5 (fun b H1 hP1 hD1 hS1 => ?_)
  have hbo : b ≠ o := fun h => absurd (hD1.1 0 1 _ _ rfl rfl h.symm) (by decide)
  have hbz : s.heap.size ≤ b := (hD1.2 1 _ rfl).resolve_left hbo
  have hb1 : b < H1.size := (hP1 1 _ rfl).lt
  have hPb : va_P D vwCl [(b, .inr (1, [.null, .int 0, .int 0]))] H1 := hP1.sub [1] rfl
  have hPo : va_P D vwCl [(o, .inr (0, [.null]))] H1 := hP1.sub [0] rfl
  refine lv_dup hx hb dX1_init_8 rfl ?_
  refine lv_bipush (v := nI 21) hx hb dX1_init_9 (by decide) ?_
  refine lv_bipush (v := nI 21) hx hb dX1_init_11 (by decide) ?_
  refine zcallI (n := 2) (b := b) (av := [.int (nI 21), .int (nI 21)]) (rest := [.ref b, .ref o]) ⟨hx, hb, hml, hown, hts⟩ (mX2_init l D k b H1.size) q20 q21 q3 q22 rfl rfl rfl (by decide +kernel) ⟨Nat.le_of_ble_eq_true rfl, Nat.le_of_ble_eq_true rfl⟩ ⟨Nat.le_of_ble_eq_true rfl, Nat.le_of_ble_eq_true rfl⟩ rfl hl.1 rfl (Nat.le_of_ble_eq_true rfl)
    ⟨fun a U g mk h => ⟨h.1, va_K.moved (u := U) (U := U.calling g mk a) (Vm.Alike.refl U.vm) h.2.1, zAO.moved (u := U) (U := U.calling g mk a) (Vm.Alike.refl U.vm) h.2.2.1, h.2.2.2⟩, fun U hU hW => ⟨rfl, va_K.moved hW.alike hK, hAO.moved hW.alike, by rw [hU], hb1, by rw [hU]; exact hPb⟩⟩ dX1_init_13 (fun v st₀ t locs1 h0 hq hL => ?_)
  obtain ⟨hv, ⟨g, hM, hg⟩, hz2, ho2⟩ := hq
  cases hv
  rw [h0] at ho2
  generalize t.heap = H2 at hM hz2 ho2 ⊢
  refine va_forget (fun q hq => ?_) ?_
  · rcases hL q hq with h | h
    · cases h
    · rw [h]
      exact hbz
  have ho1 : o < H1.size := (hPo 0 _ rfl).lt
  have hP2 := zone hPo (ho2 o ho1 (fun h => hbo h.symm))
  have hD2 : va_D (fun q => q = o) [(o, .inr (0, [.null]))] := zoneD rfl
  refine va_putF (D := D) (H0 := H2) (ci := 0) (v := .ref b) (ty := .object "ByteMatrix") (C := RX1) (T := TX1) (N := 1) hx hb hts in_X1 tyX1 tyX1_ok nmX1 hown hK hP2 hD2 va_S.rf 0 rfl rfl 0 (by decide) (hts _ q37) (fun _ h9 => h9) rfl hin rfl (by decide +kernel) rfl rfl (Nat.le_of_ble_eq_true rfl) dX1_init_16 (fun H3 locs3 hP3 hD3 hS3 => ?_)
  have hP3 : va_P D vwCl [(o, .inr (0, [.ref b]))] H3 := hP3
  have hg2 := hM.2.1.lt
  have hz1 : s.heap.size ≤ H1.size := hS1.1
  have hbg := hM.2.2
  have hD3' : zDk D k o b g (fun _ _ => false) H3 := ⟨hP3, hM.kept (hS3.2.1 b (by omega) hbo) (fun q h1 h2 => hS3.2.1 q (by omega) (by show ¬ q = o; omega)), by omega⟩
  have hz3 : s.heap.size ≤ H3.size := Nat.le_trans hz1 (Nat.le_trans hz2 hS3.1)
  refine W.cs (cells' := 23) (slots' := 465) rfl rfl ?_
  exact W.vret hx hb hr (fun t ht _ => ⟨rfl, ⟨b, g, by rw [ht]; exact hD3', hbz⟩, by rw [ht]; exact hz3, fun q h1 h2 => by rw [ht, hS3.2.1 q (by omega) h2, ho2 q (by omega) (by omega)]; exact hS1.2.1 q h1 (fun h => h.elim h2 (by omega))⟩) hS3.2.2 dX1_init_19
end
section
/-! PenaltyDeskLaw, the small methods -/
set_option maxRecDepth 100000
set_option maxHeartbeats 4000000 in
theorem mX0_at (l : Launch) (D : va_G) (k : Nat → ClassId) (sg : Nat) (B : Nat → Nat → Bool) (r : Bool) (i j : Nat) (h1 : i < 21) (h2 : j < 21) : zRead l yX0_at cX0_at 4 (some .int) 0 0 D k [.ref sg, .int (nI r.toNat), .int (nI i), .int (nI j)] (zG (k 2) (k 3) sg B) (some (.int (nI (zat B r i j).toNat))) := by
  refine zRead.of (by decide) (Nat.le_of_ble_eq_true rfl) ?_
  intro p e s m below meth c ls C hR hr hlk hF hl
  obtain ⟨hx, hb, hml, hown, hts⟩ := C.1
  have hown : s.vm.findClass RX0 = some m.cls := hown
  have hK := C.2
  have hG := hF
  have hl : lv_has ls 4 [(0, .ref sg), (1, .int (nI r.toNat)), (2, .int (nI i)), (3, .int (nI j))] := hl
  refine lv_iload_n hx hb dX0_at_0 rfl (lv_at hl 1 rfl) ?_
  refine z_beq0 (tgt := 12) hx hb dX0_at_1 (by decide) (fun c1 => ?_) (fun c1 => ?_)
  · refine lv_aload_n hx hb dX0_at_12 rfl (lv_at hl 0 rfl) ?_
    refine lv_iload_n hx hb dX0_at_13 rfl (lv_at hl 2 rfl) ?_
    refine zg_row (i := i) hx hb (hK.2 2 _ rfl).1 hG (by omega) dX0_at_14 ?_
    refine lv_iload_n hx hb dX0_at_15 rfl (lv_at hl 3 rfl) ?_
    refine zg_ild (j := j) hx hb (hK.2 3 _ rfl).1 hG (by omega) (by omega) dX0_at_16 ?_
    refine zt (y := nI (zat B r i j).toNat) (by rw [c1]; rfl) ?_
    exact zri hx hb hr hlk dX0_at_17
  · refine lv_aload_n hx hb dX0_at_4 rfl (lv_at hl 0 rfl) ?_
    refine lv_iload_n hx hb dX0_at_5 rfl (lv_at hl 3 rfl) ?_
    refine zg_row (i := j) hx hb (hK.2 2 _ rfl).1 hG (by omega) dX0_at_6 ?_
    refine lv_iload_n hx hb dX0_at_7 rfl (lv_at hl 2 rfl) ?_
    refine zg_ild (j := i) hx hb (hK.2 3 _ rfl).1 hG (by omega) (by omega) dX0_at_8 ?_
    refine lv_goto (tgt := 17) hx hb dX0_at_9 (by decide) ?_
    refine zt (y := nI (zat B r i j).toNat) (by rw [c1]; rfl) ?_
    exact zri hx hb hr hlk dX0_at_17
set_option maxHeartbeats 4000000 in
theorem mX0_mod (l : Launch) (D : va_G) (k : Nat → ClassId) (v : Int32) (d : Nat) (h1 : 0 < d) (h2 : d < 2 ^ 31) : zRead l yX0_mod cX0_mod 2 (some .int) 0 0 D k [.int v, .int (nI d)] (fun _ => True) (some (.int (nI (lo31 v % d)))) := by
  refine zRead.of (by decide) (Nat.le_of_ble_eq_true rfl) ?_
  intro p e s m below meth c ls C hR hr hlk hF hl
  obtain ⟨hx, hb, hml, hown, hts⟩ := C.1
  have hown : s.vm.findClass RX0 = some m.cls := hown
  have hK := C.2
  have hl : lv_has ls 2 [(0, .int v), (1, .int (nI d))] := hl
  refine lv_iload_n hx hb dX0_mod_0 rfl (lv_at hl 0 rfl) ?_
  refine lv_ldc hx hb hown (hts _ q140) dX0_mod_1 ?_
  refine z_iand (v := nI (lo31 v)) hx hb dX0_mod_3 (an31 _) ?_
  refine lv_iload_n hx hb dX0_mod_4 rfl (lv_at hl 1 rfl) ?_
  refine z_irem (v := nI (lo31 v % d)) hx hb dX0_mod_5 (nI_ne0 h1 h2) (pk_rem (lo31_lt _) h1 h2) ?_
  exact zri hx hb hr hlk dX0_mod_6
set_option maxHeartbeats 4000000 in
theorem mX0_turns (l : Launch) (D : va_G) (k : Nat → ClassId) (ma : Int32) (x y : Nat) (h1 : x < 256) (h2 : y < 256) : zRead l yX0_turns cX0_turns 3 (some .boolean) 0 0 D k [.int ma, .int (nI x), .int (nI y)] (fun _ => True) (some (.int (nI (zmb (lo3 ma) x y).toNat))) := by
  refine zRead.of (by decide) (Nat.le_of_ble_eq_true rfl) ?_
  intro p e s m below meth c ls C hR hr hlk hF hl
  obtain ⟨hx, hb, hml, hown, hts⟩ := C.1
  have hown : s.vm.findClass RX0 = some m.cls := hown
  have hK := C.2
  have hl : lv_has ls 3 [(0, .int ma), (1, .int (nI x)), (2, .int (nI y))] := hl
  have hm : x * y ≤ 255 * 255 := Nat.mul_le_mul (by omega) (by omega)
  refine lv_iload_n hx hb dX0_turns_0 rfl (lv_at hl 0 rfl) ?_
  refine lv_bipush (v := nI 7) hx hb dX0_turns_1 (by decide) ?_
  refine z_iand (v := nI (lo3 ma)) hx hb dX0_turns_3 (an3 _) ?_
  have hq := lo3_lt ma
  generalize lo3 ma = q at hq ⊢
  rcases (show q = 0 ∨ q = 1 ∨ q = 2 ∨ q = 3 ∨ q = 4 ∨ q = 5 ∨ q = 6 ∨ q = 7 by omega) with e | e | e | e | e | e | e | e
  · subst e
    refine lv_tableIn (x := nI 0) (off := 44) (tgt := 48) hx hb dX0_turns_4 (by decide) (by decide) (by decide) (by decide) ?_
    refine lv_iload_n hx hb dX0_turns_48 rfl (lv_at hl 1 rfl) ?_
    refine lv_iload_n hx hb dX0_turns_49 rfl (lv_at hl 2 rfl) ?_
    refine z_iadd (v := nI (x + y)) hx hb dX0_turns_50 (nI_add _ _) ?_
    refine lv_iconst (v := nI 2) hx hb dX0_turns_51 (by decide) ?_
    refine z_irem (v := nI ((x + y) % 2)) hx hb dX0_turns_52 (by decide) (pk_rem (by omega) (by decide) (by decide)) ?_
    suffices hj2 : W p l e (zrm 0 0) s m ([.int ma, .int (nI x), .int (nI y)] : List Value).toArray below meth c s.heap [] 0 0 (MQ below (zq (some (.int (nI (zmb 0 x y).toNat)))) ([.int ma, .int (nI x), .int (nI y)] : List Value).toArray s 0 0 (fun _ => False)) (F0 m 61 ls [.int (nI (zmb 0 x y).toNat)]) by
      refine z_ne0 (a := (x + y) % 2) (tgt := 60) hx hb dX0_turns_53 (by decide) (by omega) (fun c3 => ?_) (fun c3 => ?_)
      · refine lv_iconst (v := nI 0) hx hb dX0_turns_60 (by decide) ?_
        exact zt (z_0 (b := zmb 0 x y) (decide_eq_false (p := zmk 0 x y = 0) c3)) hj2
      · refine lv_iconst (v := nI 1) hx hb dX0_turns_56 (by decide) ?_
        refine lv_goto (tgt := 61) hx hb dX0_turns_57 (by decide) ?_
        exact zt (z_1 (b := zmb 0 x y) (decide_eq_true (p := zmk 0 x y = 0) c3)) hj2
    exact zrn hx hb hr hlk (znb _) dX0_turns_61
  · subst e
    refine lv_tableIn (x := nI 1) (off := 58) (tgt := 62) hx hb dX0_turns_4 (by decide) (by decide) (by decide) (by decide) ?_
    refine lv_iload_n hx hb dX0_turns_62 rfl (lv_at hl 2 rfl) ?_
    refine lv_iconst (v := nI 2) hx hb dX0_turns_63 (by decide) ?_
    refine z_irem (v := nI (y % 2)) hx hb dX0_turns_64 (by decide) (pk_rem (by omega) (by decide) (by decide)) ?_
    suffices hj5 : W p l e (zrm 0 0) s m ([.int ma, .int (nI x), .int (nI y)] : List Value).toArray below meth c s.heap [] 0 0 (MQ below (zq (some (.int (nI (zmb 1 x y).toNat)))) ([.int ma, .int (nI x), .int (nI y)] : List Value).toArray s 0 0 (fun _ => False)) (F0 m 73 ls [.int (nI (zmb 1 x y).toNat)]) by
      refine z_ne0 (a := y % 2) (tgt := 72) hx hb dX0_turns_65 (by decide) (by omega) (fun c6 => ?_) (fun c6 => ?_)
      · refine lv_iconst (v := nI 0) hx hb dX0_turns_72 (by decide) ?_
        exact zt (z_0 (b := zmb 1 x y) (decide_eq_false (p := zmk 1 x y = 0) c6)) hj5
      · refine lv_iconst (v := nI 1) hx hb dX0_turns_68 (by decide) ?_
        refine lv_goto (tgt := 73) hx hb dX0_turns_69 (by decide) ?_
        exact zt (z_1 (b := zmb 1 x y) (decide_eq_true (p := zmk 1 x y = 0) c6)) hj5
    exact zrn hx hb hr hlk (znb _) dX0_turns_73
  · subst e
    refine lv_tableIn (x := nI 2) (off := 70) (tgt := 74) hx hb dX0_turns_4 (by decide) (by decide) (by decide) (by decide) ?_
    refine lv_iload_n hx hb dX0_turns_74 rfl (lv_at hl 1 rfl) ?_
    refine lv_iconst (v := nI 3) hx hb dX0_turns_75 (by decide) ?_
    refine z_irem (v := nI (x % 3)) hx hb dX0_turns_76 (by decide) (pk_rem (by omega) (by decide) (by decide)) ?_
    suffices hj8 : W p l e (zrm 0 0) s m ([.int ma, .int (nI x), .int (nI y)] : List Value).toArray below meth c s.heap [] 0 0 (MQ below (zq (some (.int (nI (zmb 2 x y).toNat)))) ([.int ma, .int (nI x), .int (nI y)] : List Value).toArray s 0 0 (fun _ => False)) (F0 m 85 ls [.int (nI (zmb 2 x y).toNat)]) by
      refine z_ne0 (a := x % 3) (tgt := 84) hx hb dX0_turns_77 (by decide) (by omega) (fun c9 => ?_) (fun c9 => ?_)
      · refine lv_iconst (v := nI 0) hx hb dX0_turns_84 (by decide) ?_
        exact zt (z_0 (b := zmb 2 x y) (decide_eq_false (p := zmk 2 x y = 0) c9)) hj8
      · refine lv_iconst (v := nI 1) hx hb dX0_turns_80 (by decide) ?_
        refine lv_goto (tgt := 85) hx hb dX0_turns_81 (by decide) ?_
        exact zt (z_1 (b := zmb 2 x y) (decide_eq_true (p := zmk 2 x y = 0) c9)) hj8
    exact zrn hx hb hr hlk (znb _) dX0_turns_85
  · subst e
    refine lv_tableIn (x := nI 3) (off := 82) (tgt := 86) hx hb dX0_turns_4 (by decide) (by decide) (by decide) (by decide) ?_
    refine lv_iload_n hx hb dX0_turns_86 rfl (lv_at hl 1 rfl) ?_
    refine lv_iload_n hx hb dX0_turns_87 rfl (lv_at hl 2 rfl) ?_
    refine z_iadd (v := nI (x + y)) hx hb dX0_turns_88 (nI_add _ _) ?_
    refine lv_iconst (v := nI 3) hx hb dX0_turns_89 (by decide) ?_
    refine z_irem (v := nI ((x + y) % 3)) hx hb dX0_turns_90 (by decide) (pk_rem (by omega) (by decide) (by decide)) ?_
    suffices hj11 : W p l e (zrm 0 0) s m ([.int ma, .int (nI x), .int (nI y)] : List Value).toArray below meth c s.heap [] 0 0 (MQ below (zq (some (.int (nI (zmb 3 x y).toNat)))) ([.int ma, .int (nI x), .int (nI y)] : List Value).toArray s 0 0 (fun _ => False)) (F0 m 99 ls [.int (nI (zmb 3 x y).toNat)]) by
      refine z_ne0 (a := (x + y) % 3) (tgt := 98) hx hb dX0_turns_91 (by decide) (by omega) (fun c12 => ?_) (fun c12 => ?_)
      · refine lv_iconst (v := nI 0) hx hb dX0_turns_98 (by decide) ?_
        exact zt (z_0 (b := zmb 3 x y) (decide_eq_false (p := zmk 3 x y = 0) c12)) hj11
      · refine lv_iconst (v := nI 1) hx hb dX0_turns_94 (by decide) ?_
        refine lv_goto (tgt := 99) hx hb dX0_turns_95 (by decide) ?_
        exact zt (z_1 (b := zmb 3 x y) (decide_eq_true (p := zmk 3 x y = 0) c12)) hj11
    exact zrn hx hb hr hlk (znb _) dX0_turns_99
  · subst e
    refine lv_tableIn (x := nI 4) (off := 96) (tgt := 100) hx hb dX0_turns_4 (by decide) (by decide) (by decide) (by decide) ?_
    refine lv_iload_n hx hb dX0_turns_100 rfl (lv_at hl 2 rfl) ?_
    refine lv_iconst (v := nI 2) hx hb dX0_turns_101 (by decide) ?_
    refine z_idiv (v := nI (y / 2)) hx hb dX0_turns_102 (by decide) (pk_div (by omega) (by decide) (by decide)) ?_
    refine lv_iload_n hx hb dX0_turns_103 rfl (lv_at hl 1 rfl) ?_
    refine lv_iconst (v := nI 3) hx hb dX0_turns_104 (by decide) ?_
    refine z_idiv (v := nI (x / 3)) hx hb dX0_turns_105 (by decide) (pk_div (by omega) (by decide) (by decide)) ?_
    refine z_iadd (v := nI (y / 2 + (x / 3))) hx hb dX0_turns_106 (nI_add _ _) ?_
    refine lv_iconst (v := nI 2) hx hb dX0_turns_107 (by decide) ?_
    refine z_irem (v := nI ((y / 2 + (x / 3)) % 2)) hx hb dX0_turns_108 (by decide) (pk_rem (by omega) (by decide) (by decide)) ?_
    suffices hj14 : W p l e (zrm 0 0) s m ([.int ma, .int (nI x), .int (nI y)] : List Value).toArray below meth c s.heap [] 0 0 (MQ below (zq (some (.int (nI (zmb 4 x y).toNat)))) ([.int ma, .int (nI x), .int (nI y)] : List Value).toArray s 0 0 (fun _ => False)) (F0 m 117 ls [.int (nI (zmb 4 x y).toNat)]) by
      refine z_ne0 (a := (y / 2 + (x / 3)) % 2) (tgt := 116) hx hb dX0_turns_109 (by decide) (by omega) (fun c15 => ?_) (fun c15 => ?_)
      · refine lv_iconst (v := nI 0) hx hb dX0_turns_116 (by decide) ?_
        exact zt (z_0 (b := zmb 4 x y) (decide_eq_false (p := zmk 4 x y = 0) c15)) hj14
      · refine lv_iconst (v := nI 1) hx hb dX0_turns_112 (by decide) ?_
        refine lv_goto (tgt := 117) hx hb dX0_turns_113 (by decide) ?_
        exact zt (z_1 (b := zmb 4 x y) (decide_eq_true (p := zmk 4 x y = 0) c15)) hj14
    exact zrn hx hb hr hlk (znb _) dX0_turns_117
  · subst e
    refine lv_tableIn (x := nI 5) (off := 114) (tgt := 118) hx hb dX0_turns_4 (by decide) (by decide) (by decide) (by decide) ?_
    refine lv_iload_n hx hb dX0_turns_118 rfl (lv_at hl 1 rfl) ?_
    refine lv_iload_n hx hb dX0_turns_119 rfl (lv_at hl 2 rfl) ?_
    refine z_imul (v := nI (x * y)) hx hb dX0_turns_120 (pk_mul _ _) ?_
    refine lv_iconst (v := nI 2) hx hb dX0_turns_121 (by decide) ?_
    refine z_irem (v := nI ((x * y) % 2)) hx hb dX0_turns_122 (by decide) (pk_rem (by omega) (by decide) (by decide)) ?_
    refine lv_iload_n hx hb dX0_turns_123 rfl (lv_at hl 1 rfl) ?_
    refine lv_iload_n hx hb dX0_turns_124 rfl (lv_at hl 2 rfl) ?_
    refine z_imul (v := nI (x * y)) hx hb dX0_turns_125 (pk_mul _ _) ?_
    refine lv_iconst (v := nI 3) hx hb dX0_turns_126 (by decide) ?_
    refine z_irem (v := nI ((x * y) % 3)) hx hb dX0_turns_127 (by decide) (pk_rem (by omega) (by decide) (by decide)) ?_
    refine z_iadd (v := nI ((x * y) % 2 + ((x * y) % 3))) hx hb dX0_turns_128 (nI_add _ _) ?_
    suffices hj17 : W p l e (zrm 0 0) s m ([.int ma, .int (nI x), .int (nI y)] : List Value).toArray below meth c s.heap [] 0 0 (MQ below (zq (some (.int (nI (zmb 5 x y).toNat)))) ([.int ma, .int (nI x), .int (nI y)] : List Value).toArray s 0 0 (fun _ => False)) (F0 m 137 ls [.int (nI (zmb 5 x y).toNat)]) by
      refine z_ne0 (a := (x * y) % 2 + ((x * y) % 3)) (tgt := 136) hx hb dX0_turns_129 (by decide) (by omega) (fun c18 => ?_) (fun c18 => ?_)
      · refine lv_iconst (v := nI 0) hx hb dX0_turns_136 (by decide) ?_
        exact zt (z_0 (b := zmb 5 x y) (decide_eq_false (p := zmk 5 x y = 0) c18)) hj17
      · refine lv_iconst (v := nI 1) hx hb dX0_turns_132 (by decide) ?_
        refine lv_goto (tgt := 137) hx hb dX0_turns_133 (by decide) ?_
        exact zt (z_1 (b := zmb 5 x y) (decide_eq_true (p := zmk 5 x y = 0) c18)) hj17
    exact zrn hx hb hr hlk (znb _) dX0_turns_137
  · subst e
    refine lv_tableIn (x := nI 6) (off := 134) (tgt := 138) hx hb dX0_turns_4 (by decide) (by decide) (by decide) (by decide) ?_
    refine lv_iload_n hx hb dX0_turns_138 rfl (lv_at hl 1 rfl) ?_
    refine lv_iload_n hx hb dX0_turns_139 rfl (lv_at hl 2 rfl) ?_
    refine z_imul (v := nI (x * y)) hx hb dX0_turns_140 (pk_mul _ _) ?_
    refine lv_iconst (v := nI 2) hx hb dX0_turns_141 (by decide) ?_
    refine z_irem (v := nI ((x * y) % 2)) hx hb dX0_turns_142 (by decide) (pk_rem (by omega) (by decide) (by decide)) ?_
    refine lv_iload_n hx hb dX0_turns_143 rfl (lv_at hl 1 rfl) ?_
    refine lv_iload_n hx hb dX0_turns_144 rfl (lv_at hl 2 rfl) ?_
    refine z_imul (v := nI (x * y)) hx hb dX0_turns_145 (pk_mul _ _) ?_
    refine lv_iconst (v := nI 3) hx hb dX0_turns_146 (by decide) ?_
    refine z_irem (v := nI ((x * y) % 3)) hx hb dX0_turns_147 (by decide) (pk_rem (by omega) (by decide) (by decide)) ?_
    refine z_iadd (v := nI ((x * y) % 2 + ((x * y) % 3))) hx hb dX0_turns_148 (nI_add _ _) ?_
    refine lv_iconst (v := nI 2) hx hb dX0_turns_149 (by decide) ?_
    refine z_irem (v := nI (((x * y) % 2 + ((x * y) % 3)) % 2)) hx hb dX0_turns_150 (by decide) (pk_rem (by omega) (by decide) (by decide)) ?_
    suffices hj20 : W p l e (zrm 0 0) s m ([.int ma, .int (nI x), .int (nI y)] : List Value).toArray below meth c s.heap [] 0 0 (MQ below (zq (some (.int (nI (zmb 6 x y).toNat)))) ([.int ma, .int (nI x), .int (nI y)] : List Value).toArray s 0 0 (fun _ => False)) (F0 m 159 ls [.int (nI (zmb 6 x y).toNat)]) by
      refine z_ne0 (a := ((x * y) % 2 + ((x * y) % 3)) % 2) (tgt := 158) hx hb dX0_turns_151 (by decide) (by omega) (fun c21 => ?_) (fun c21 => ?_)
      · refine lv_iconst (v := nI 0) hx hb dX0_turns_158 (by decide) ?_
        exact zt (z_0 (b := zmb 6 x y) (decide_eq_false (p := zmk 6 x y = 0) c21)) hj20
      · refine lv_iconst (v := nI 1) hx hb dX0_turns_154 (by decide) ?_
        refine lv_goto (tgt := 159) hx hb dX0_turns_155 (by decide) ?_
        exact zt (z_1 (b := zmb 6 x y) (decide_eq_true (p := zmk 6 x y = 0) c21)) hj20
    exact zrn hx hb hr hlk (znb _) dX0_turns_159
  · subst e
    refine lv_tableOut (x := nI 7) (tgt := 160) hx hb dX0_turns_4 (by decide) (by decide) ?_
    refine lv_iload_n hx hb dX0_turns_160 rfl (lv_at hl 1 rfl) ?_
    refine lv_iload_n hx hb dX0_turns_161 rfl (lv_at hl 2 rfl) ?_
    refine z_iadd (v := nI (x + y)) hx hb dX0_turns_162 (nI_add _ _) ?_
    refine lv_iconst (v := nI 2) hx hb dX0_turns_163 (by decide) ?_
    refine z_irem (v := nI ((x + y) % 2)) hx hb dX0_turns_164 (by decide) (pk_rem (by omega) (by decide) (by decide)) ?_
    refine lv_iload_n hx hb dX0_turns_165 rfl (lv_at hl 1 rfl) ?_
    refine lv_iload_n hx hb dX0_turns_166 rfl (lv_at hl 2 rfl) ?_
    refine z_imul (v := nI (x * y)) hx hb dX0_turns_167 (pk_mul _ _) ?_
    refine lv_iconst (v := nI 3) hx hb dX0_turns_168 (by decide) ?_
    refine z_irem (v := nI ((x * y) % 3)) hx hb dX0_turns_169 (by decide) (pk_rem (by omega) (by decide) (by decide)) ?_
    refine z_iadd (v := nI ((x + y) % 2 + ((x * y) % 3))) hx hb dX0_turns_170 (nI_add _ _) ?_
    refine lv_iconst (v := nI 2) hx hb dX0_turns_171 (by decide) ?_
    refine z_irem (v := nI (((x + y) % 2 + ((x * y) % 3)) % 2)) hx hb dX0_turns_172 (by decide) (pk_rem (by omega) (by decide) (by decide)) ?_
    suffices hj23 : W p l e (zrm 0 0) s m ([.int ma, .int (nI x), .int (nI y)] : List Value).toArray below meth c s.heap [] 0 0 (MQ below (zq (some (.int (nI (zmb 7 x y).toNat)))) ([.int ma, .int (nI x), .int (nI y)] : List Value).toArray s 0 0 (fun _ => False)) (F0 m 181 ls [.int (nI (zmb 7 x y).toNat)]) by
      refine z_ne0 (a := ((x + y) % 2 + ((x * y) % 3)) % 2) (tgt := 180) hx hb dX0_turns_173 (by decide) (by omega) (fun c24 => ?_) (fun c24 => ?_)
      · refine lv_iconst (v := nI 0) hx hb dX0_turns_180 (by decide) ?_
        exact zt (z_0 (b := zmb 7 x y) (decide_eq_false (p := zmk 7 x y = 0) c24)) hj23
      · refine lv_iconst (v := nI 1) hx hb dX0_turns_176 (by decide) ?_
        refine lv_goto (tgt := 181) hx hb dX0_turns_177 (by decide) ?_
        exact zt (z_1 (b := zmb 7 x y) (decide_eq_true (p := zmk 7 x y = 0) c24)) hj23
    exact zrn hx hb hr hlk (znb _) dX0_turns_181
section Z0
variable {p : Program} {l : Launch} {e : Env} {R : Room} {s : State} {m : MethodId} {args : Array Value} {below : List Frame} {meth : Method} {c : Code} {H : Heap} {locs : List Loc} {cells slots : Nat} {Q : State → Prop}
variable {D : va_G} {k : Nat → ClassId} {sg : Nat} {B : Nat → Nat → Bool}
set_option maxHeartbeats 4000000 in
theorem lX0_runsin {i bs : Nat} (C : zC p m c cX0_runs 6 s args RX0 D k) (hR : zR R 1 23 cells slots) (hG : zG (k 2) (k 3) sg B H) (hi : i < 42)
    (kk : ∀ ls : Array Slot, lv_has ls 6 [(0, .ref sg), (1, .int (nI (bs + zr (zat B (decide (i < 21)) (i % 21)) 21))), (2, .int (nI i))] → W p l e R s m args below meth c H locs cells slots Q (F0 m 122 ls [])) :
    ∀ (n j : Nat), j ≤ 21 → 22 ≤ j + n → ∀ ls : Array Slot, lv_has ls 6 [(0, .ref sg), (1, .int (nI (bs + zr (zat B (decide (i < 21)) (i % 21)) j))), (2, .int (nI i)), (3, .int (nI (zl (zat B (decide (i < 21)) (i % 21)) j))), (4, .int (nI j))] → W p l e R s m args below meth c H locs cells slots Q (F0 m 15 ls []) := by
  obtain ⟨hx, hb, hml, hown, hts⟩ := C.1
  have hown : s.vm.findClass RX0 = some m.cls := hown
  have hK := C.2
  intro n
  induction n with
  | zero =>
    intro j h1 h2
    exact absurd h2 (by omega)
  | succ n ih =>
    intro j hj hjn ls hl
    have hzl := zl_le (zat B (decide (i < 21)) (i % 21)) (j + 1)
    refine lv_iload hx hb dX0_runs_15 (lv_at hl 4 rfl) ?_
    refine lv_bipush (v := nI 21) hx hb dX0_runs_17 (by decide) ?_
    refine z_ige (a := j) (b := 21) (tgt := 122) hx hb dX0_runs_19 (by decide) (by omega) (by decide) (fun c1 => ?_) (fun c1 => ?_)
    · have ej : j = 21 := by omega
      subst ej
      exact kk ls (lv_sub hl [0, 1, 2] rfl)
    · refine lv_iload hx hb dX0_runs_22 (lv_at hl 4 rfl) ?_
      suffices h79 : ∀ gb : Bool, (gb = true ↔ (j ≠ 0 ∧ (zat B (decide (i < 21)) (i % 21)) j = (zat B (decide (i < 21)) (i % 21)) (j - 1))) → W p l e R s m args below meth c H locs cells slots Q (F0 m 79 ls [.int (nI gb.toNat)]) by
        refine z_le0 (a := j) (tgt := 78) hx hb dX0_runs_24 (by decide) (by omega) (fun c2 => ?_) (fun c2 => ?_)
        · refine lv_iconst (v := nI (false).toNat) hx hb dX0_runs_78 (by decide) ?_
          exact h79 false ⟨fun h => (by cases h), fun h => absurd c2 h.1⟩
        · refine lv_aload_n hx hb dX0_runs_27 rfl (lv_at hl 0 rfl) ?_
          refine lv_iload_n hx hb dX0_runs_28 rfl (lv_at hl 2 rfl) ?_
          refine lv_bipush (v := nI 21) hx hb dX0_runs_29 (by decide) ?_
          suffices hj26 : W p l e R s m args below meth c H locs cells slots Q (F0 m 39 ls [.int (nI (decide (i < 21)).toNat), .ref sg]) by
            refine z_ige (a := i) (b := 21) (tgt := 38) hx hb dX0_runs_31 (by decide) (by omega) (by decide) (fun c27 => ?_) (fun c27 => ?_)
            · refine lv_iconst (v := nI 0) hx hb dX0_runs_38 (by decide) ?_
              exact zt (z_0 (b := decide (i < 21)) (decide_eq_false (by omega))) hj26
            · refine lv_iconst (v := nI 1) hx hb dX0_runs_34 (by decide) ?_
              refine lv_goto (tgt := 39) hx hb dX0_runs_35 (by decide) ?_
              exact zt (z_1 (b := decide (i < 21)) (decide_eq_true (by omega))) hj26
          refine lv_iload_n hx hb dX0_runs_39 rfl (lv_at hl 2 rfl) ?_
          refine lv_bipush (v := nI 21) hx hb dX0_runs_40 (by decide) ?_
          refine z_irem (v := nI (i % 21)) hx hb dX0_runs_42 (by decide) (pk_rem (by omega) (by decide) (by decide)) ?_
          refine lv_iload hx hb dX0_runs_43 (lv_at hl 4 rfl) ?_
          refine zcallS (n := 4) (av := [.ref sg, .int (nI (decide (i < 21)).toNat), .int (nI (i % 21)), .int (nI j)]) (rest := []) (v := some (.int (nI ((zat B (decide (i < 21)) (i % 21)) j).toNat))) C (mX0_at l D k sg B (decide (i < 21)) (i % 21) j (by omega) (by omega)) q179 q180 q1 q181 (by decide +kernel) hR (by decide) rfl hl.1 rfl (Nat.le_of_ble_eq_true rfl) hG dX0_runs_45 ?_
          refine lv_aload_n hx hb dX0_runs_48 rfl (lv_at hl 0 rfl) ?_
          refine lv_iload_n hx hb dX0_runs_49 rfl (lv_at hl 2 rfl) ?_
          refine lv_bipush (v := nI 21) hx hb dX0_runs_50 (by decide) ?_
          suffices hj29 : W p l e R s m args below meth c H locs cells slots Q (F0 m 60 ls [.int (nI (decide (i < 21)).toNat), .ref sg, .int (nI ((zat B (decide (i < 21)) (i % 21)) j).toNat)]) by
            refine z_ige (a := i) (b := 21) (tgt := 59) hx hb dX0_runs_52 (by decide) (by omega) (by decide) (fun c30 => ?_) (fun c30 => ?_)
            · refine lv_iconst (v := nI 0) hx hb dX0_runs_59 (by decide) ?_
              exact zt (z_0 (b := decide (i < 21)) (decide_eq_false (by omega))) hj29
            · refine lv_iconst (v := nI 1) hx hb dX0_runs_55 (by decide) ?_
              refine lv_goto (tgt := 60) hx hb dX0_runs_56 (by decide) ?_
              exact zt (z_1 (b := decide (i < 21)) (decide_eq_true (by omega))) hj29
          refine lv_iload_n hx hb dX0_runs_60 rfl (lv_at hl 2 rfl) ?_
          refine lv_bipush (v := nI 21) hx hb dX0_runs_61 (by decide) ?_
          refine z_irem (v := nI (i % 21)) hx hb dX0_runs_63 (by decide) (pk_rem (by omega) (by decide) (by decide)) ?_
          refine lv_iload hx hb dX0_runs_64 (lv_at hl 4 rfl) ?_
          refine lv_iconst (v := nI 1) hx hb dX0_runs_66 (by decide) ?_
          refine z_isub (v := nI (j - 1)) hx hb dX0_runs_67 (pk_sub (by omega)) ?_
          refine zcallS (n := 4) (av := [.ref sg, .int (nI (decide (i < 21)).toNat), .int (nI (i % 21)), .int (nI (j - 1))]) (rest := [.int (nI ((zat B (decide (i < 21)) (i % 21)) j).toNat)]) (v := some (.int (nI ((zat B (decide (i < 21)) (i % 21)) (j - 1)).toNat))) C (mX0_at l D k sg B (decide (i < 21)) (i % 21) (j - 1) (by omega) (by omega)) q179 q180 q1 q181 (by decide +kernel) hR (by decide) rfl hl.1 rfl (Nat.le_of_ble_eq_true rfl) hG dX0_runs_68 ?_
          refine z_bne (tgt := 78) hx hb dX0_runs_71 (by decide) (fun c3 => ?_) (fun c3 => ?_)
          · refine lv_iconst (v := nI (false).toNat) hx hb dX0_runs_78 (by decide) ?_
            exact h79 false ⟨fun h => (by cases h), fun h => absurd h.2 c3⟩
          · refine lv_iconst (v := nI (true).toNat) hx hb dX0_runs_74 (by decide) ?_
            refine lv_goto (tgt := 79) hx hb dX0_runs_75 (by decide) ?_
            exact h79 true ⟨fun _ => ⟨by omega, c3⟩, fun _ => rfl⟩
      intro gb hgb
      refine lv_istore (lv' := [(5, .int (nI gb.toNat)), (0, .ref sg), (1, .int (nI (bs + zr (zat B (decide (i < 21)) (i % 21)) j))), (2, .int (nI i)), (3, .int (nI (zl (zat B (decide (i < 21)) (i % 21)) j))), (4, .int (nI j))]) hx hb dX0_runs_79 hl (by decide) rfl (fun ls hl => ?_)
      refine lv_iload hx hb dX0_runs_81 (lv_at hl 0 rfl) ?_
      suffices h93 : W p l e R s m args below meth c H locs cells slots Q (F0 m 93 ls [.int (nI (zl (zat B (decide (i < 21)) (i % 21)) (j + 1)))]) by
        refine z_beq0 (tgt := 92) hx hb dX0_runs_83 (by decide) (fun c4 => ?_) (fun c4 => ?_)
        · refine lv_iconst (v := nI 1) hx hb dX0_runs_92 (by decide) ?_
          exact zt (y := nI (zl (zat B (decide (i < 21)) (i % 21)) (j + 1))) (by rw [zl_no (fun q => by rw [hgb.mpr q] at c4; cases c4)]) h93
        · refine lv_iload_n hx hb dX0_runs_86 rfl (lv_at hl 4 rfl) ?_
          refine lv_iconst (v := nI 1) hx hb dX0_runs_87 (by decide) ?_
          refine z_iadd (v := nI (zl (zat B (decide (i < 21)) (i % 21)) j + 1)) hx hb dX0_runs_88 (nI_add _ _) ?_
          refine lv_goto (tgt := 93) hx hb dX0_runs_89 (by decide) ?_
          exact zt (y := nI (zl (zat B (decide (i < 21)) (i % 21)) (j + 1))) (by rw [zl_go (hgb.mp c4)]) h93
      refine lv_istore_n (lv' := [(3, .int (nI (zl (zat B (decide (i < 21)) (i % 21)) (j + 1)))), (5, .int (nI gb.toNat)), (0, .ref sg), (1, .int (nI (bs + zr (zat B (decide (i < 21)) (i % 21)) j))), (2, .int (nI i)), (4, .int (nI j))]) hx hb dX0_runs_93 rfl hl (by decide) rfl (fun ls hl => ?_)
      refine lv_iload_n hx hb dX0_runs_94 rfl (lv_at hl 3 rfl) ?_
      refine lv_iload_n hx hb dX0_runs_95 rfl (lv_at hl 0 rfl) ?_
      refine lv_iconst (v := nI 5) hx hb dX0_runs_96 (by decide) ?_
      suffices h114 : W p l e R s m args below meth c H locs cells slots Q (F0 m 114 ls [.int (nI (zd (zl (zat B (decide (i < 21)) (i % 21)) (j + 1)))), .int (nI (bs + zr (zat B (decide (i < 21)) (i % 21)) j))]) by
        refine z_ine (a := zl (zat B (decide (i < 21)) (i % 21)) (j + 1)) (b := 5) (tgt := 104) hx hb dX0_runs_97 (by decide) (by omega) (by decide) (fun c5 => ?_) (fun c5 => ?_)
        · refine lv_iload_n hx hb dX0_runs_104 rfl (lv_at hl 0 rfl) ?_
          refine lv_iconst (v := nI 5) hx hb dX0_runs_105 (by decide) ?_
          refine z_ile (a := zl (zat B (decide (i < 21)) (i % 21)) (j + 1)) (b := 5) (tgt := 113) hx hb dX0_runs_106 (by decide) (by omega) (by decide) (fun c6 => ?_) (fun c6 => ?_)
          · refine lv_iconst (v := nI 0) hx hb dX0_runs_113 (by decide) ?_
            exact zt (y := nI (zd (zl (zat B (decide (i < 21)) (i % 21)) (j + 1)))) (by unfold zd; rw [if_neg c5, if_neg (by omega)]) h114
          · refine lv_iconst (v := nI 1) hx hb dX0_runs_109 (by decide) ?_
            refine lv_goto (tgt := 114) hx hb dX0_runs_110 (by decide) ?_
            exact zt (y := nI (zd (zl (zat B (decide (i < 21)) (i % 21)) (j + 1)))) (by unfold zd; rw [if_neg c5, if_pos c6]) h114
        · refine lv_iconst (v := nI 3) hx hb dX0_runs_100 (by decide) ?_
          refine lv_goto (tgt := 114) hx hb dX0_runs_101 (by decide) ?_
          exact zt (y := nI (zd (zl (zat B (decide (i < 21)) (i % 21)) (j + 1)))) (by rw [c5]; rfl) h114
      refine z_iadd (v := nI (bs + zr (zat B (decide (i < 21)) (i % 21)) (j + 1))) hx hb dX0_runs_114 ((nI_add _ _).trans (by rw [Nat.add_assoc]; rfl)) ?_
      refine lv_istore_n (lv' := [(1, .int (nI (bs + zr (zat B (decide (i < 21)) (i % 21)) (j + 1)))), (3, .int (nI (zl (zat B (decide (i < 21)) (i % 21)) (j + 1)))), (5, .int (nI gb.toNat)), (0, .ref sg), (2, .int (nI i)), (4, .int (nI j))]) hx hb dX0_runs_115 rfl hl (by decide) rfl (fun ls hl => ?_)
      refine lv_iinc (v := nI (j + 1)) (lv' := [(4, .int (nI (j + 1))), (1, .int (nI (bs + zr (zat B (decide (i < 21)) (i % 21)) (j + 1)))), (3, .int (nI (zl (zat B (decide (i < 21)) (i % 21)) (j + 1)))), (5, .int (nI gb.toNat)), (0, .ref sg), (2, .int (nI i))]) hx hb dX0_runs_116 hl (k := 5) rfl (z_inc _) (by decide) rfl (fun ls hl => ?_)
      refine lv_goto (tgt := 15) hx hb dX0_runs_119 (by decide) ?_
      exact ih (j + 1) (by omega) (by omega) ls (lv_sub hl [4, 1, 5, 2, 0] rfl)
set_option maxHeartbeats 4000000 in
theorem lX0_runsout (C : zC p m c cX0_runs 6 s args RX0 D k) (hR : zR R 1 23 cells slots) (hG : zG (k 2) (k 3) sg B H)
    (kk : ∀ ls : Array Slot, lv_has ls 6 [(0, .ref sg), (1, .int (nI (zs (fun i => zr (zat B (decide (i < 21)) (i % 21)) 21) 42))), (2, .int (nI 42))] → W p l e R s m args below meth c H locs cells slots Q (F0 m 128 ls [])) :
    ∀ (n i : Nat), i ≤ 42 → 43 ≤ i + n → ∀ ls : Array Slot, lv_has ls 6 [(0, .ref sg), (1, .int (nI (zs (fun i => zr (zat B (decide (i < 21)) (i % 21)) 21) i))), (2, .int (nI i))] → W p l e R s m args below meth c H locs cells slots Q (F0 m 4 ls []) := by
  obtain ⟨hx, hb, hml, hown, hts⟩ := C.1
  have hown : s.vm.findClass RX0 = some m.cls := hown
  have hK := C.2
  intro n
  induction n with
  | zero =>
    intro i h1 h2
    exact absurd h2 (by omega)
  | succ n ih =>
    intro i hi hin ls hl
    refine lv_iload_n hx hb dX0_runs_4 rfl (lv_at hl 2 rfl) ?_
    refine lv_bipush (v := nI 42) hx hb dX0_runs_5 (by decide) ?_
    refine z_ige (a := i) (b := 42) (tgt := 128) hx hb dX0_runs_7 (by decide) (by omega) (by decide) (fun c1 => ?_) (fun c1 => ?_)
    · have ej : i = 42 := by omega
      subst ej
      exact kk ls (lv_sub hl [0, 1, 2] rfl)
    · refine lv_iconst (v := nI 0) hx hb dX0_runs_10 (by decide) ?_
      refine lv_istore_n (lv' := [(3, .int (nI 0)), (0, .ref sg), (1, .int (nI (zs (fun i => zr (zat B (decide (i < 21)) (i % 21)) 21) i))), (2, .int (nI i))]) hx hb dX0_runs_11 rfl hl (by decide) rfl (fun ls hl => ?_)
      refine lv_iconst (v := nI 0) hx hb dX0_runs_12 (by decide) ?_
      refine lv_istore (lv' := [(4, .int (nI 0)), (3, .int (nI 0)), (0, .ref sg), (1, .int (nI (zs (fun i => zr (zat B (decide (i < 21)) (i % 21)) 21) i))), (2, .int (nI i))]) hx hb dX0_runs_13 hl (by decide) rfl (fun ls hl => ?_)
      refine lX0_runsin (i := i) (bs := zs (fun i => zr (zat B (decide (i < 21)) (i % 21)) 21) i) C hR hG (by omega) (fun ls hl => ?_) 22 0 (by omega) (by omega) ls (lv_sub hl [2, 3, 4, 1, 0] rfl)
      refine lv_iinc (v := nI (i + 1)) (lv' := [(2, .int (nI (i + 1))), (0, .ref sg), (1, .int (nI (zs (fun i => zr (zat B (decide (i < 21)) (i % 21)) 21) i + zr (zat B (decide (i < 21)) (i % 21)) 21)))]) hx hb dX0_runs_122 hl (k := 2) rfl (z_inc _) (by decide) rfl (fun ls hl => ?_)
      refine lv_goto (tgt := 4) hx hb dX0_runs_125 (by decide) ?_
      exact ih (i + 1) (by omega) (by omega) ls (lv_sub hl [1, 2, 0] rfl)
set_option maxHeartbeats 4000000 in
theorem lX0_sqin {x bs : Nat} (C : zC p m c cX0_squares 5 s args RX0 D k) (hG : zG (k 2) (k 3) sg B H) (hx1 : x < 20)
    (kk : ∀ ls : Array Slot, lv_has ls 5 [(0, .ref sg), (1, .int (nI (bs + zs (fun y => zt3 (zf4 B x y)) 20))), (2, .int (nI x))] → W p l e R s m args below meth c H locs cells slots Q (F0 m 76 ls [])) :
    ∀ (n y : Nat), y ≤ 20 → 21 ≤ y + n → ∀ ls : Array Slot, lv_has ls 5 [(0, .ref sg), (1, .int (nI (bs + zs (fun y => zt3 (zf4 B x y)) y))), (2, .int (nI x)), (3, .int (nI y))] → W p l e R s m args below meth c H locs cells slots Q (F0 m 14 ls []) := by
  obtain ⟨hx, hb, hml, hown, hts⟩ := C.1
  have hown : s.vm.findClass RX0 = some m.cls := hown
  have hK := C.2
  intro n
  induction n with
  | zero =>
    intro y h1 h2
    exact absurd h2 (by omega)
  | succ n ih =>
    intro y hj hjn ls hl
    have h4 := zf4_le B x y
    refine lv_iload_n hx hb dX0_squares_14 rfl (lv_at hl 3 rfl) ?_
    refine lv_iconst (v := nI 1) hx hb dX0_squares_15 (by decide) ?_
    refine z_iadd (v := nI (y + 1)) hx hb dX0_squares_16 (nI_add _ _) ?_
    refine lv_bipush (v := nI 21) hx hb dX0_squares_17 (by decide) ?_
    refine z_ige (a := y + 1) (b := 21) (tgt := 76) hx hb dX0_squares_19 (by decide) (by omega) (by decide) (fun c1 => ?_) (fun c1 => ?_)
    · have ej : y = 20 := by omega
      subst ej
      exact kk ls (lv_sub hl [0, 1, 2] rfl)
    · refine lv_aload_n hx hb dX0_squares_22 rfl (lv_at hl 0 rfl) ?_
      refine lv_iload_n hx hb dX0_squares_23 rfl (lv_at hl 2 rfl) ?_
      refine zg_row (i := x) hx hb (hK.2 2 _ rfl).1 hG (by omega) dX0_squares_24 ?_
      refine lv_iload_n hx hb dX0_squares_25 rfl (lv_at hl 3 rfl) ?_
      refine zg_ild (j := y) hx hb (hK.2 3 _ rfl).1 hG (by omega) (by omega) dX0_squares_26 ?_
      refine lv_aload_n hx hb dX0_squares_27 rfl (lv_at hl 0 rfl) ?_
      refine lv_iload_n hx hb dX0_squares_28 rfl (lv_at hl 2 rfl) ?_
      refine lv_iconst (v := nI 1) hx hb dX0_squares_29 (by decide) ?_
      refine z_iadd (v := nI (x + 1)) hx hb dX0_squares_30 (nI_add _ _) ?_
      refine zg_row (i := x + 1) hx hb (hK.2 2 _ rfl).1 hG (by omega) dX0_squares_31 ?_
      refine lv_iload_n hx hb dX0_squares_32 rfl (lv_at hl 3 rfl) ?_
      refine zg_ild (j := y) hx hb (hK.2 3 _ rfl).1 hG (by omega) (by omega) dX0_squares_33 ?_
      refine z_iadd (v := nI ((B x y).toNat + ((B (x + 1) y).toNat))) hx hb dX0_squares_34 (nI_add _ _) ?_
      refine lv_aload_n hx hb dX0_squares_35 rfl (lv_at hl 0 rfl) ?_
      refine lv_iload_n hx hb dX0_squares_36 rfl (lv_at hl 2 rfl) ?_
      refine zg_row (i := x) hx hb (hK.2 2 _ rfl).1 hG (by omega) dX0_squares_37 ?_
      refine lv_iload_n hx hb dX0_squares_38 rfl (lv_at hl 3 rfl) ?_
      refine lv_iconst (v := nI 1) hx hb dX0_squares_39 (by decide) ?_
      refine z_iadd (v := nI (y + 1)) hx hb dX0_squares_40 (nI_add _ _) ?_
      refine zg_ild (j := y + 1) hx hb (hK.2 3 _ rfl).1 hG (by omega) (by omega) dX0_squares_41 ?_
      refine z_iadd (v := nI ((B x y).toNat + ((B (x + 1) y).toNat) + ((B x (y + 1)).toNat))) hx hb dX0_squares_42 (nI_add _ _) ?_
      refine lv_aload_n hx hb dX0_squares_43 rfl (lv_at hl 0 rfl) ?_
      refine lv_iload_n hx hb dX0_squares_44 rfl (lv_at hl 2 rfl) ?_
      refine lv_iconst (v := nI 1) hx hb dX0_squares_45 (by decide) ?_
      refine z_iadd (v := nI (x + 1)) hx hb dX0_squares_46 (nI_add _ _) ?_
      refine zg_row (i := x + 1) hx hb (hK.2 2 _ rfl).1 hG (by omega) dX0_squares_47 ?_
      refine lv_iload_n hx hb dX0_squares_48 rfl (lv_at hl 3 rfl) ?_
      refine lv_iconst (v := nI 1) hx hb dX0_squares_49 (by decide) ?_
      refine z_iadd (v := nI (y + 1)) hx hb dX0_squares_50 (nI_add _ _) ?_
      refine zg_ild (j := y + 1) hx hb (hK.2 3 _ rfl).1 hG (by omega) (by omega) dX0_squares_51 ?_
      refine z_iadd (v := nI (zf4 B x y)) hx hb dX0_squares_52 (nI_add _ _) ?_
      refine lv_istore (lv' := [(4, .int (nI (zf4 B x y))), (0, .ref sg), (1, .int (nI (bs + zs (fun y => zt3 (zf4 B x y)) y))), (2, .int (nI x)), (3, .int (nI y))]) hx hb dX0_squares_53 hl (by decide) rfl (fun ls hl => ?_)
      refine lv_iload_n hx hb dX0_squares_55 rfl (lv_at hl 2 rfl) ?_
      refine lv_iload hx hb dX0_squares_56 (lv_at hl 0 rfl) ?_
      refine lv_iconst (v := nI 4) hx hb dX0_squares_58 (by decide) ?_
      refine z_irem (v := nI ((zf4 B x y) % 4)) hx hb dX0_squares_59 (by decide) (pk_rem (by omega) (by decide) (by decide)) ?_
      suffices h68 : W p l e R s m args below meth c H locs cells slots Q (F0 m 68 ls [.int (nI (zt3 (zf4 B x y))), .int (nI (bs + zs (fun y => zt3 (zf4 B x y)) y))]) by
        refine z_ne0 (a := (zf4 B x y) % 4) (tgt := 67) hx hb dX0_squares_60 (by decide) (by omega) (fun c2 => ?_) (fun c2 => ?_)
        · refine lv_iconst (v := nI 0) hx hb dX0_squares_67 (by decide) ?_
          exact zt (y := nI (zt3 (zf4 B x y))) (by unfold zt3; rw [if_neg c2]) h68
        · refine lv_iconst (v := nI 3) hx hb dX0_squares_63 (by decide) ?_
          refine lv_goto (tgt := 68) hx hb dX0_squares_64 (by decide) ?_
          exact zt (y := nI (zt3 (zf4 B x y))) (by unfold zt3; rw [if_pos c2]) h68
      refine z_iadd (v := nI (bs + zs (fun y => zt3 (zf4 B x y)) (y + 1))) hx hb dX0_squares_68 ((nI_add _ _).trans (by rw [Nat.add_assoc]; rfl)) ?_
      refine lv_istore_n (lv' := [(1, .int (nI (bs + zs (fun y => zt3 (zf4 B x y)) (y + 1)))), (4, .int (nI (zf4 B x y))), (0, .ref sg), (2, .int (nI x)), (3, .int (nI y))]) hx hb dX0_squares_69 rfl hl (by decide) rfl (fun ls hl => ?_)
      refine lv_iinc (v := nI (y + 1)) (lv' := [(3, .int (nI (y + 1))), (1, .int (nI (bs + zs (fun y => zt3 (zf4 B x y)) (y + 1)))), (4, .int (nI (zf4 B x y))), (0, .ref sg), (2, .int (nI x))]) hx hb dX0_squares_70 hl (k := 4) rfl (z_inc _) (by decide) rfl (fun ls hl => ?_)
      refine lv_goto (tgt := 14) hx hb dX0_squares_73 (by decide) ?_
      exact ih (y + 1) (by omega) (by omega) ls (lv_sub hl [3, 1, 4, 0] rfl)
set_option maxHeartbeats 4000000 in
theorem lX0_sqout (C : zC p m c cX0_squares 5 s args RX0 D k) (hG : zG (k 2) (k 3) sg B H)
    (kk : ∀ ls : Array Slot, lv_has ls 5 [(0, .ref sg), (1, .int (nI (zs (fun x => zs (fun y => zt3 (zf4 B x y)) 20) 20))), (2, .int (nI 20))] → W p l e R s m args below meth c H locs cells slots Q (F0 m 82 ls [])) :
    ∀ (n x : Nat), x ≤ 20 → 21 ≤ x + n → ∀ ls : Array Slot, lv_has ls 5 [(0, .ref sg), (1, .int (nI (zs (fun x => zs (fun y => zt3 (zf4 B x y)) 20) x))), (2, .int (nI x))] → W p l e R s m args below meth c H locs cells slots Q (F0 m 4 ls []) := by
  obtain ⟨hx, hb, hml, hown, hts⟩ := C.1
  have hown : s.vm.findClass RX0 = some m.cls := hown
  have hK := C.2
  intro n
  induction n with
  | zero =>
    intro x h1 h2
    exact absurd h2 (by omega)
  | succ n ih =>
    intro x hi hin ls hl
    refine lv_iload_n hx hb dX0_squares_4 rfl (lv_at hl 2 rfl) ?_
    refine lv_iconst (v := nI 1) hx hb dX0_squares_5 (by decide) ?_
    refine z_iadd (v := nI (x + 1)) hx hb dX0_squares_6 (nI_add _ _) ?_
    refine lv_bipush (v := nI 21) hx hb dX0_squares_7 (by decide) ?_
    refine z_ige (a := x + 1) (b := 21) (tgt := 82) hx hb dX0_squares_9 (by decide) (by omega) (by decide) (fun c1 => ?_) (fun c1 => ?_)
    · have ej : x = 20 := by omega
      subst ej
      exact kk ls (lv_sub hl [0, 1, 2] rfl)
    · refine lv_iconst (v := nI 0) hx hb dX0_squares_12 (by decide) ?_
      refine lv_istore_n (lv' := [(3, .int (nI 0)), (0, .ref sg), (1, .int (nI (zs (fun x => zs (fun y => zt3 (zf4 B x y)) 20) x))), (2, .int (nI x))]) hx hb dX0_squares_13 rfl hl (by decide) rfl (fun ls hl => ?_)
      refine lX0_sqin (x := x) (bs := zs (fun x => zs (fun y => zt3 (zf4 B x y)) 20) x) C hG (by omega) (fun ls hl => ?_) 21 0 (by omega) (by omega) ls (lv_sub hl [1, 2, 3, 0] rfl)
      refine lv_iinc (v := nI (x + 1)) (lv' := [(2, .int (nI (x + 1))), (0, .ref sg), (1, .int (nI (zs (fun x => zs (fun y => zt3 (zf4 B x y)) 20) x + zs (fun y => zt3 (zf4 B x y)) 20)))]) hx hb dX0_squares_76 hl (k := 2) rfl (z_inc _) (by decide) rfl (fun ls hl => ?_)
      refine lv_goto (tgt := 4) hx hb dX0_squares_79 (by decide) ?_
      exact ih (x + 1) (by omega) (by omega) ls (lv_sub hl [1, 2, 0] rfl)
set_option maxHeartbeats 4000000 in
theorem lX0_share (C : zC p m c cX0_share 3 s args RX0 D k) (hG : zG (k 2) (k 3) sg B H)
    (kk : ∀ ls : Array Slot, lv_has ls 3 [(0, .ref sg), (1, .int (nI (zs (fun i => (B (i / 21) (i % 21)).toNat) 441))), (2, .int (nI 441))] → W p l e R s m args below meth c H locs cells slots Q (F0 m 31 ls [])) :
    ∀ (n i : Nat), i ≤ 441 → 442 ≤ i + n → ∀ ls : Array Slot, lv_has ls 3 [(0, .ref sg), (1, .int (nI (zs (fun i => (B (i / 21) (i % 21)).toNat) i))), (2, .int (nI i))] → W p l e R s m args below meth c H locs cells slots Q (F0 m 4 ls []) := by
  obtain ⟨hx, hb, hml, hown, hts⟩ := C.1
  have hown : s.vm.findClass RX0 = some m.cls := hown
  have hK := C.2
  intro n
  induction n with
  | zero =>
    intro i h1 h2
    exact absurd h2 (by omega)
  | succ n ih =>
    intro i hi hin ls hl
    refine lv_iload_n hx hb dX0_share_4 rfl (lv_at hl 2 rfl) ?_
    refine lv_sipush (v := nI 441) hx hb dX0_share_5 (by decide) ?_
    refine z_ige (a := i) (b := 441) (tgt := 31) hx hb dX0_share_8 (by decide) (by omega) (by decide) (fun c1 => ?_) (fun c1 => ?_)
    · have ej : i = 441 := by omega
      subst ej
      exact kk ls (lv_sub hl [0, 1, 2] rfl)
    · refine lv_iload_n hx hb dX0_share_11 rfl (lv_at hl 1 rfl) ?_
      refine lv_aload_n hx hb dX0_share_12 rfl (lv_at hl 0 rfl) ?_
      refine lv_iload_n hx hb dX0_share_13 rfl (lv_at hl 2 rfl) ?_
      refine lv_bipush (v := nI 21) hx hb dX0_share_14 (by decide) ?_
      refine z_idiv (v := nI (i / 21)) hx hb dX0_share_16 (by decide) (pk_div (by omega) (by decide) (by decide)) ?_
      refine zg_row (i := i / 21) hx hb (hK.2 2 _ rfl).1 hG (by omega) dX0_share_17 ?_
      refine lv_iload_n hx hb dX0_share_18 rfl (lv_at hl 2 rfl) ?_
      refine lv_bipush (v := nI 21) hx hb dX0_share_19 (by decide) ?_
      refine z_irem (v := nI (i % 21)) hx hb dX0_share_21 (by decide) (pk_rem (by omega) (by decide) (by decide)) ?_
      refine zg_ild (j := i % 21) hx hb (hK.2 3 _ rfl).1 hG (by omega) (by omega) dX0_share_22 ?_
      refine z_iadd (v := nI (zs (fun i => (B (i / 21) (i % 21)).toNat) (i + 1))) hx hb dX0_share_23 (nI_add _ _) ?_
      refine lv_istore_n (lv' := [(1, .int (nI (zs (fun i => (B (i / 21) (i % 21)).toNat) (i + 1)))), (0, .ref sg), (2, .int (nI i))]) hx hb dX0_share_24 rfl hl (by decide) rfl (fun ls hl => ?_)
      refine lv_iinc (v := nI (i + 1)) (lv' := [(2, .int (nI (i + 1))), (1, .int (nI (zs (fun i => (B (i / 21) (i % 21)).toNat) (i + 1)))), (0, .ref sg)]) hx hb dX0_share_25 hl (k := 2) rfl (z_inc _) (by decide) rfl (fun ls hl => ?_)
      refine lv_goto (tgt := 4) hx hb dX0_share_28 (by decide) ?_
      exact ih (i + 1) (by omega) (by omega) ls (lv_sub hl [2, 1, 0] rfl)
end Z0
set_option maxHeartbeats 4000000 in
theorem mX0_runs (l : Launch) (D : va_G) (k : Nat → ClassId) (sg : Nat) (B : Nat → Nat → Bool) : zRead l yX0_runs cX0_runs 6 (some .int) 1 23 D k [.ref sg] (zG (k 2) (k 3) sg B) (some (.int (nI (zr1L B)))) := by
  refine zRead.of (by decide) (Nat.le_of_ble_eq_true rfl) ?_
  intro p e s m below meth c ls C hR hr hlk hF hl
  obtain ⟨hx, hb, hml, hown, hts⟩ := C.1
  have hown : s.vm.findClass RX0 = some m.cls := hown
  have hK := C.2
  have hG := hF
  have hl : lv_has ls 6 [(0, .ref sg)] := hl
  refine lv_iconst (v := nI 0) hx hb dX0_runs_0 (by decide) ?_
  refine lv_istore_n (lv' := [(1, .int (nI 0)), (0, .ref sg)]) hx hb dX0_runs_1 rfl hl (by decide) rfl (fun ls hl => ?_)
  refine lv_iconst (v := nI 0) hx hb dX0_runs_2 (by decide) ?_
  refine lv_istore_n (lv' := [(2, .int (nI 0)), (1, .int (nI 0)), (0, .ref sg)]) hx hb dX0_runs_3 rfl hl (by decide) rfl (fun ls hl => ?_)
  refine lX0_runsout C hR hG (fun ls hl => ?_) 43 0 (by omega) (by omega) ls (lv_sub hl [2, 1, 0] rfl)
  have hl : lv_has ls 6 [(0, .ref sg), (1, .int (nI (zr1L B))), (2, .int (nI 42))] := hl
  refine lv_iload_n hx hb dX0_runs_128 rfl (lv_at hl 1 rfl) ?_
  exact zri hx hb hr hlk dX0_runs_129
set_option maxHeartbeats 4000000 in
theorem mX0_squares (l : Launch) (D : va_G) (k : Nat → ClassId) (sg : Nat) (B : Nat → Nat → Bool) : zRead l yX0_squares cX0_squares 5 (some .int) 0 0 D k [.ref sg] (zG (k 2) (k 3) sg B) (some (.int (nI (zr2L B)))) := by
  refine zRead.of (by decide) (Nat.le_of_ble_eq_true rfl) ?_
  intro p e s m below meth c ls C hR hr hlk hF hl
  obtain ⟨hx, hb, hml, hown, hts⟩ := C.1
  have hown : s.vm.findClass RX0 = some m.cls := hown
  have hK := C.2
  have hG := hF
  have hl : lv_has ls 5 [(0, .ref sg)] := hl
  refine lv_iconst (v := nI 0) hx hb dX0_squares_0 (by decide) ?_
  refine lv_istore_n (lv' := [(1, .int (nI 0)), (0, .ref sg)]) hx hb dX0_squares_1 rfl hl (by decide) rfl (fun ls hl => ?_)
  refine lv_iconst (v := nI 0) hx hb dX0_squares_2 (by decide) ?_
  refine lv_istore_n (lv' := [(2, .int (nI 0)), (1, .int (nI 0)), (0, .ref sg)]) hx hb dX0_squares_3 rfl hl (by decide) rfl (fun ls hl => ?_)
  refine lX0_sqout C hG (fun ls hl => ?_) 21 0 (by omega) (by omega) ls (lv_sub hl [2, 1, 0] rfl)
  have hl : lv_has ls 5 [(0, .ref sg), (1, .int (nI (zr2L B))), (2, .int (nI 20))] := hl
  refine lv_iload_n hx hb dX0_squares_82 rfl (lv_at hl 1 rfl) ?_
  exact zri hx hb hr hlk dX0_squares_83
theorem zof_p {d : Nat} (hd : d ≤ 441) (h : 0 ≤ nI (2 * d) - nI 441) : nI (2 * d) - nI 441 = nI (zoff d) := by
  by_cases q : 441 ≤ 2 * d
  · rw [pk_sub q]
    unfold zoff
    rw [if_pos q]
  · exfalso
    have h1 : nI (2 * d) - nI 441 < 0 := pk_sneg (by decide) (by omega)
    rw [Int32.le_iff_toInt_le] at h
    rw [Int32.lt_iff_toInt_lt] at h1
    omega
theorem zof_n {d : Nat} (hd : d ≤ 441) (h : ¬ 0 ≤ nI (2 * d) - nI 441) : -(nI (2 * d) - nI 441) = nI (zoff d) := by
  by_cases q : 441 ≤ 2 * d
  · exfalso
    rw [pk_sub q] at h
    exact h (nI_pos' (by omega))
  · unfold zoff
    rw [if_neg q, ← pk_sub (by omega : 2 * d ≤ 441)]
    grind
set_option maxHeartbeats 4000000 in
theorem mX0_share (l : Launch) (D : va_G) (k : Nat → ClassId) (sg : Nat) (B : Nat → Nat → Bool) : zRead l yX0_share cX0_share 3 (some .int) 0 0 D k [.ref sg] (zG (k 2) (k 3) sg B) (some (.int (nI (zr4L B)))) := by
  refine zRead.of (by decide) (Nat.le_of_ble_eq_true rfl) ?_
  intro p e s m below meth c ls C hR hr hlk hF hl
  obtain ⟨hx, hb, hml, hown, hts⟩ := C.1
  have hown : s.vm.findClass RX0 = some m.cls := hown
  have hK := C.2
  have hG := hF
  have hl : lv_has ls 3 [(0, .ref sg)] := hl
  refine lv_iconst (v := nI 0) hx hb dX0_share_0 (by decide) ?_
  refine lv_istore_n (lv' := [(1, .int (nI 0)), (0, .ref sg)]) hx hb dX0_share_1 rfl hl (by decide) rfl (fun ls hl => ?_)
  refine lv_iconst (v := nI 0) hx hb dX0_share_2 (by decide) ?_
  refine lv_istore_n (lv' := [(2, .int (nI 0)), (1, .int (nI 0)), (0, .ref sg)]) hx hb dX0_share_3 rfl hl (by decide) rfl (fun ls hl => ?_)
  refine lX0_share C hG (fun ls hl => ?_) 442 0 (by omega) (by omega) ls (lv_sub hl [2, 1, 0] rfl)
  have hl : lv_has ls 3 [(0, .ref sg), (1, .int (nI (zdkL B))), (2, .int (nI 441))] := hl
  have hd : zdkL B ≤ 441 := by rw [← zlaw4]; exact zdk_le B
  have ho := zoff_le hd
  refine lv_iconst (v := nI 2) hx hb dX0_share_31 (by decide) ?_
  refine lv_iload_n hx hb dX0_share_32 rfl (lv_at hl 1 rfl) ?_
  refine z_imul (v := nI (2 * (zdkL B))) hx hb dX0_share_33 (pk_mul _ _) ?_
  refine lv_sipush (v := nI 441) hx hb dX0_share_34 (by decide) ?_
  refine z_isub (v := (nI (2 * zdkL B) - nI 441)) hx hb dX0_share_37 rfl ?_
  refine lv_istore_n (lv' := [(2, .int (nI (2 * zdkL B) - nI 441)), (0, .ref sg), (1, .int (nI (zdkL B)))]) hx hb dX0_share_38 rfl hl (by decide) rfl (fun ls hl => ?_)
  refine lv_iload_n hx hb dX0_share_39 rfl (lv_at hl 0 rfl) ?_
  suffices h49 : W p l e (zrm 0 0) s m ([.ref sg] : List Value).toArray below meth c s.heap [] 0 0 (MQ below (zq (some (.int (nI (zr4L B))))) ([.ref sg] : List Value).toArray s 0 0 (fun _ => False)) (F0 m 49 ls [.int (nI (zoff (zdkL B)))]) by
    refine lv_if_ge (tgt := 48) hx hb dX0_share_40 (by decide) (fun c1 => ?_) (fun c1 => ?_)
    · refine lv_iload_n hx hb dX0_share_48 rfl (lv_at hl 0 rfl) ?_
      exact zt (zof_p hd c1) h49
    · refine lv_iload_n hx hb dX0_share_43 rfl (lv_at hl 0 rfl) ?_
      refine lv_ineg hx hb dX0_share_44 ?_
      refine zt (y := (-(nI (2 * zdkL B) - nI 441))) rfl ?_
      refine lv_goto (tgt := 49) hx hb dX0_share_45 (by decide) ?_
      exact zt (zof_n hd c1) h49
  refine lv_bipush (v := nI 10) hx hb dX0_share_49 (by decide) ?_
  refine z_imul (v := nI ((zoff (zdkL B)) * 10)) hx hb dX0_share_51 (pk_mul _ _) ?_
  refine lv_sipush (v := nI 441) hx hb dX0_share_52 (by decide) ?_
  refine z_idiv (v := nI (((zoff (zdkL B)) * 10) / 441)) hx hb dX0_share_55 (by decide) (pk_div (by omega) (by decide) (by decide)) ?_
  refine lv_bipush (v := nI 10) hx hb dX0_share_56 (by decide) ?_
  refine z_imul (v := nI ((((zoff (zdkL B)) * 10) / 441) * 10)) hx hb dX0_share_58 (pk_mul _ _) ?_
  exact zri hx hb hr hlk dX0_share_59
end
section
/-! PenaltyDeskLaw: isLight and finders; ints with a sign; a small array of bits; contracts that make cells and leave the old ones alone -/
set_option maxRecDepth 100000
def iz (z : Int) : Int32 := Int32.ofInt z
theorem iz_add (a b : Int) : iz a + iz b = iz (a + b) := (Int32.ofInt_add a b).symm
theorem iz_sub (a b : Int) : iz a - iz b = iz (a - b) := (Int32.ofInt_sub a b).symm
theorem iz_nat (n : Nat) : nI n = iz (n : Int) := Int32.ofInt_eq_ofNat.symm
theorem iz_at {z : Int} (h : 0 ≤ z) : iz z = nI z.toNat := by
  rw [iz_nat]
  congr 1
  omega
theorem iz_toInt {z : Int} (h : -1000 ≤ z ∧ z ≤ 1000) : (iz z).toInt = z := Int32.toInt_ofInt_of_le (by omega) (by omega)
theorem iz_le {a b : Int} (ha : -1000 ≤ a ∧ a ≤ 1000) (hb : -1000 ≤ b ∧ b ≤ 1000) : iz a ≤ iz b ↔ a ≤ b := by
  rw [Int32.le_iff_toInt_le, iz_toInt ha, iz_toInt hb]
theorem iz_lt {a b : Int} (ha : -1000 ≤ a ∧ a ≤ 1000) (hb : -1000 ≤ b ∧ b ≤ 1000) : iz a < iz b ↔ a < b := by
  rw [Int32.lt_iff_toInt_lt, iz_toInt ha, iz_toInt hb]
/-- a small array of bits -/
def zu1 (F : Nat → Bool) (j : Nat) (v : Bool) : Nat → Bool := fun a => if a = j then v else F a
def zI (cI : ClassId) (n q : Nat) (F : Nat → Bool) (H : Heap) : Prop := H[q]? = some (arrV cI n (fun j => .int (nI (F j).toNat)))
theorem zI.congr {cI : ClassId} {n q : Nat} {F F' : Nat → Bool} {H : Heap} (h : zI cI n q F H) (e : ∀ j, j < n → F j = F' j) : zI cI n q F' H := h.trans (congrArg some (zarr_congr _ _ fun j hj => by rw [e j hj]))
/-- what a method says that only makes cells: its answer; the cells that were there stay -/
def zQn (v : Value) : Array Value → State → Outcome → State → Prop := fun _ st oc t => oc = .returned (some v) ∧ st.heap.size ≤ t.heap.size ∧ ∀ q : Nat, q < st.heap.size → t.heap[q]? = st.heap[q]?
abbrev zrmN (fr mc ms lo : Nat) : Room := { frames := fr, cells := mc, slots := ms, locals := lo }
def zNew (l : Launch) (y : MethodName) (b : ByteArray) (L : Nat) (r : Option FieldType) (fr mc ms lo : Nat) (D : va_G) (k : Nat → ClassId) (av : List Value) (F : Heap → Prop) (v : Value) : Prop :=
  Met l y (ws_ y b L r) (zrmN fr mc ms lo) (zPc D k av F) (zQn v) mc ms (fun _ => False)
theorem zNew.of {l : Launch} {y : MethodName} {b : ByteArray} {L : Nat} {r : Option FieldType} {fr mc ms lo : Nat} {D : va_G} {k : Nat → ClassId} {av : List Value} {F : Heap → Prop} {v : Value} (hy : plainName y.cls = true) (hlen : (lg_sl av).length ≤ L)
    (body : ∀ (p : Program) (e : Env) (s : State) (m : MethodId) (below : List Frame) (meth : Method) (c : Code) (ls : Array Slot), zC p m c b L s av.toArray y.cls D k → zR (zrmN fr mc ms lo) fr lo mc ms → meth.sig.returnType = r → meth.locks = false → F s.heap → lv_has ls L (lv_args 0 av) → W p l e (zrmN fr mc ms lo) s m av.toArray below meth c s.heap [] 0 0 (MQ below (zQn v) av.toArray s mc ms (fun _ => False)) (F0 m 0 ls [])) : zNew l y b L r fr mc ms lo D k av F v := by
  refine Met.ofW (cc := b) (maxL := L) (ret := r) hy rfl ?_
  intro p e s m args below meth c s₁ B hml hv
  obtain ⟨rfl, hK, hF⟩ := hv
  have hts := atoms_spec (ws := ws_ y b L r) B.pre
  have hl := lv_entry av (n := L) hlen
  rw [lg_entry_eq]
  exact body p e s m below meth c _ ⟨⟨B.exec, B.bytes, hml, findClass_of_methodNamed B.named, fun w h => hts w (List.mem_cons_of_mem _ h)⟩, hK⟩ ⟨Nat.le_refl _, Nat.le_refl _, Nat.le_refl _, Nat.le_refl _⟩ B.returns B.notSynchronized hF hl
section ZN
variable {p : Program} {l : Launch} {e : Env} {R : Room} {s : State} {m : MethodId} {args : Array Value} {below : List Frame} {meth : Method} {c : Code} {H : Heap} {locs : List Loc} {cells slots : Nat} {Q : State → Prop}
variable {cc : ByteArray} {pc : Nat} {ls : Array Slot} {rest st : List Value}
theorem z_jge {a b : Int} (hexec : p.tables.exec = Jvm.exec) (hb : c.code = cc) {off : Int} {tgt : Nat} (hdg : decode cc pc = .ok (.if_icmp .ge off, 3)) (ht : (pc : Int) + off = (tgt : Int)) (ha : -1000 ≤ a ∧ a ≤ 1000) (hb' : -1000 ≤ b ∧ b ≤ 1000)
    (kt : b ≤ a → W p l e R s m args below meth c H locs cells slots Q (F0 m tgt ls rest)) (kf : a < b → W p l e R s m args below meth c H locs cells slots Q (F0 m (pc + 3) ls rest)) : W p l e R s m args below meth c H locs cells slots Q (F0 m pc ls (.int (iz b) :: .int (iz a) :: rest)) :=
  lv_icmp_ge hexec hb hdg ht (fun h => kt ((iz_le hb' ha).mp h)) (fun h => kf (Int.lt_of_not_ge fun q => h ((iz_le hb' ha).mpr q)))
theorem z_jlt {a b : Int} (hexec : p.tables.exec = Jvm.exec) (hb : c.code = cc) {off : Int} {tgt : Nat} (hdg : decode cc pc = .ok (.if_icmp .lt off, 3)) (ht : (pc : Int) + off = (tgt : Int)) (ha : -1000 ≤ a ∧ a ≤ 1000) (hb' : -1000 ≤ b ∧ b ≤ 1000)
    (kt : a < b → W p l e R s m args below meth c H locs cells slots Q (F0 m tgt ls rest)) (kf : b ≤ a → W p l e R s m args below meth c H locs cells slots Q (F0 m (pc + 3) ls rest)) : W p l e R s m args below meth c H locs cells slots Q (F0 m pc ls (.int (iz b) :: .int (iz a) :: rest)) :=
  lv_icmp_lt hexec hb hdg ht (fun h => kt ((iz_lt ha hb').mp h)) (fun h => kf (Int.le_of_not_gt fun q => h ((iz_lt ha hb').mpr q)))
theorem z_jlt0 {a : Int} (hexec : p.tables.exec = Jvm.exec) (hb : c.code = cc) {off : Int} {tgt : Nat} (hdg : decode cc pc = .ok (.ifCond .lt off, 3)) (ht : (pc : Int) + off = (tgt : Int)) (ha : -1000 ≤ a ∧ a ≤ 1000)
    (kt : a < 0 → W p l e R s m args below meth c H locs cells slots Q (F0 m tgt ls rest)) (kf : 0 ≤ a → W p l e R s m args below meth c H locs cells slots Q (F0 m (pc + 3) ls rest)) : W p l e R s m args below meth c H locs cells slots Q (F0 m pc ls (.int (iz a) :: rest)) :=
  lv_if_lt hexec hb hdg ht (fun h => kt ((iz_lt ha (b := 0) (by omega)).mp h)) (fun h => kf (Int.le_of_not_gt fun q => h ((iz_lt ha (b := 0) (by omega)).mpr q)))
/-- a place of a small array of bits -/
theorem zi_ld (hexec : p.tables.exec = Jvm.exec) (hb : c.code = cc) {cI : ClassId} (hA : ArrOfT s cI .int) {n q j : Nat} {F : Nat → Bool} (hI : zI cI n q F H) (hj : j < n) (hn : n < 1000) (hdg : decode cc pc = .ok (.iaload, 1))
    (kk : W p l e R s m args below meth c H locs cells slots Q (F0 m (pc + 1) ls (.int (nI (F j).toNat) :: rest))) : W p l e R s m args below meth c H locs cells slots Q (F0 m pc ls (.int (nI j) :: .ref q :: rest)) := by
  have hc : (nI j).toNatClampNeg = j := nI_clamp (by omega)
  exact W.iald (v := .int (nI (F j).toNat)) hexec hb hI (hA n _) (fun q => by cases q) (by show ¬ (nI j < 0 ∨ (arrV _ _ _).slots.size ≤ _); rw [arrV_size]; exact nI_in hj (by omega)) (by show (arrV _ _ _).slots[_]? = _; rw [hc, arrV_read _ _ hj]) rfl rfl hdg kk
/-- a place of one just made is written -/
theorem zi_st (hexec : p.tables.exec = Jvm.exec) (hb : c.code = cc) {cI : ClassId} (hA : ArrOfT s cI .int) {n q j : Nat} {v : Bool} {F : Nat → Bool} (hI : zI cI n q F H) (hj : j < n) (hn : n < 1000) (hq : s.heap.size ≤ q) (hdg : decode cc pc = .ok (.iastore, 1))
    (kk : ∀ H1 : Heap, zI cI n q (zu1 F j v) H1 → H1.size = H.size → (∀ a : Nat, a ≠ q → H1[a]? = H[a]?) → W p l e R s m args below meth c H1 [] cells slots Q (F0 m (pc + 1) ls rest)) : W p l e R s m args below meth c H [] cells slots Q (F0 m pc ls (.int (nI v.toNat) :: .int (nI j) :: .ref q :: rest)) := by
  have hc : (nI j).toNatClampNeg = j := nI_clamp (by omega)
  refine W.iast hexec hb hI (hA n _) (fun q => by cases q) (by show ¬ (nI j < 0 ∨ (arrV _ _ _).slots.size ≤ _); rw [arrV_size]; exact nI_in hj (by omega)) rfl rfl hdg fun H1 e1 e2 e3 => ?_
  rw [hc, arrV_store] at e1
  have e1' : zI cI n q (zu1 F j v) H1 := e1.trans (congrArg some (zarr_congr _ _ fun a _ => by
    unfold updV zu1
    by_cases h : a = j
    · rw [if_pos h, if_pos h]
    · rw [if_neg h, if_neg h]))
  exact va_forget (fun x hx => by
    rcases List.mem_append.mp hx with h | h
    · cases h
    · rw [List.mem_singleton.mp h]
      exact hq) (kk H1 e1' e2 e3)
theorem zcallN {y : MethodName} {bytes : ByteArray} {maxL fr mc ms lo n index nL fr0 lo0 : Nat} {ret : Option FieldType} {D : va_G} {k : Nat → ClassId} {av : List Value} {F : Heap → Prop} {v : Value} {own : String}
    (C : zC p m c cc nL s args own D k) (hM : zNew l y bytes maxL ret fr mc ms lo D k av F v) (h1 : Cond.methodLink own index y ∈ lw_all) (h2 : Cond.static y ∈ lw_all) (h3 : Cond.initialized y.cls ∈ lw_all) (h4 : Cond.code y bytes maxL ret ∈ lw_all)
    (hd : y.cls ≠ "java/lang/invoke/MethodHandle" ∧ y.cls ≠ "java/lang/invoke/VarHandle" ∧ (parseMethodDescriptor y.desc).map (fun d => d.parameters.length) = some n) (hR : zR R fr0 lo0 (cells + mc) (slots + ms)) (hfl : fr + 1 ≤ fr0 ∧ 8 + (maxL + 11) + lo ≤ lo0)
    (hn : av.length = n) (hsz : ls.size = nL) (hst : st = av.reverse ++ rest) (hroom : (rest.map fun v => v.category).sum ≤ 8) (hF : F H) (hdg : decode cc pc = .ok (.invokestatic index, 3))
    (kk : ∀ H1 : Heap, H.size ≤ H1.size → (∀ q : Nat, q < H.size → H1[q]? = H[q]?) → W p l e R s m args below meth c H1 locs (cells + mc) (slots + ms) Q (F0 m (pc + 3) ls (v :: rest))) : W p l e R s m args below meth c H locs cells slots Q (F0 m pc ls st) := by
  obtain ⟨CF, hK⟩ := C
  obtain ⟨r1, r2, r3, r4⟩ := hR
  have hr := W.runS (Ts := lw_all) (H := H) (locs := locs) (cells := cells) (slots := slots) (g := F0 m pc ls st) (R := R) (e := e) (below := below) (meth := meth) CF hM (va_cwS n CF.2.2.2.2 (lw_S h1 h2 h3 h4) rfl rfl rfl hd ⟨Nat.le_trans hfl.1 r1, Nat.le_trans hfl.2 r2⟩) ⟨zPc_blind, fun U hU hW => ⟨rfl, va_K.moved hW.alike hK, by rw [hU]; exact hF⟩⟩ rfl hn hsz hst (lv_room hroom) hdg ⟨r3, r4⟩
  intro T hT X
  obtain ⟨v', st₀, t, T', L, h0, X', hL, e1, ⟨hv, hz, ho⟩, stp⟩ := hr T hT X
  cases hv
  rw [h0] at hz ho
  obtain ⟨t2, a1, b1⟩ := kk t.heap hz ho T' e1 (Stand.forget X' (fun q h => (hL q h).elim))
  exact ⟨t2, stp t2 a1, b1⟩
end ZN
section Z0
variable {p : Program} {l : Launch} {e : Env} {R : Room} {s : State} {m : MethodId} {args : Array Value} {below : List Frame} {meth : Method} {c : Code} {H : Heap} {locs : List Loc} {cells slots : Nat} {Q : State → Prop}
variable {D : va_G} {k : Nat → ClassId} {sg : Nat} {B : Nat → Nat → Bool}
set_option maxHeartbeats 4000000 in
theorem lX0_light {r bd : Bool} {i : Nat} {z : Int} (C : zC p m c cX0_isLight 7 s args RX0 D k) (hR : zR R 1 23 cells slots) (hG : zG (k 2) (k 3) sg B H) (hi : i < 21) (hz : -4 ≤ z ∧ z ≤ 22)
    (kk : ∀ ls : Array Slot, lv_has ls 7 [(5, .int (nI (zli (zat B r i) bd z 4).toNat))] → W p l e R s m args below meth c H locs cells slots Q (F0 m 63 ls [])) :
    ∀ (n j : Nat), j ≤ 4 → 5 ≤ j + n → ∀ ls : Array Slot, lv_has ls 7 [(0, .ref sg), (1, .int (nI r.toNat)), (2, .int (nI i)), (3, .int (iz z)), (4, .int (nI bd.toNat)), (5, .int (nI (zli (zat B r i) bd z j).toNat)), (6, .int (iz (z + (j : Nat))))] → W p l e R s m args below meth c H locs cells slots Q (F0 m 6 ls []) := by
  obtain ⟨hx, hb, hml, hown, hts⟩ := C.1
  have hown : s.vm.findClass RX0 = some m.cls := hown
  have hK := C.2
  intro n
  induction n with
  | zero =>
    intro j h1 h2
    exact absurd h2 (by omega)
  | succ n ih =>
    intro j hj hjn ls hl
    refine lv_iload hx hb dX0_isLight_6 (lv_at hl 6 rfl) ?_
    refine lv_iload_n hx hb dX0_isLight_8 rfl (lv_at hl 3 rfl) ?_
    refine lv_iconst (v := nI 4) hx hb dX0_isLight_9 (by decide) ?_
    refine z_iadd (v := (iz (z + 4))) hx hb dX0_isLight_10 (by rw [iz_nat]; exact iz_add _ _) ?_
    refine z_jge (a := (z + (j : Nat))) (b := z + 4) (tgt := 63) hx hb dX0_isLight_11 (by decide) (by omega) (by omega) (fun c1 => ?_) (fun c1 => ?_)
    · have ej : j = 4 := by omega
      subst ej
      exact kk ls (lv_sub hl [5] rfl)
    · have hs : zli (zat B r i) bd z (j + 1) = (zli (zat B r i) bd z j && zlt (zat B r i) bd (z + (j : Nat))) := rfl
      suffices h55 : W p l e R s m args below meth c H locs cells slots Q (F0 m 55 ls [.int (nI (zli (zat B r i) bd z (j + 1)).toNat)]) by
        have k54 : zli (zat B r i) bd z (j + 1) = false → W p l e R s m args below meth c H locs cells slots Q (F0 m 54 ls []) := by
          intro hq
          refine lv_iconst (v := nI (false).toNat) hx hb dX0_isLight_54 (by decide) ?_
          exact zt (y := nI (zli (zat B r i) bd z (j + 1)).toNat) (by rw [hq]) h55
        have k50 : zli (zat B r i) bd z (j + 1) = true → W p l e R s m args below meth c H locs cells slots Q (F0 m 50 ls []) := by
          intro hq
          refine lv_iconst (v := nI (true).toNat) hx hb dX0_isLight_50 (by decide) ?_
          refine lv_goto (tgt := 55) hx hb dX0_isLight_51 (by decide) ?_
          exact zt (y := nI (zli (zat B r i) bd z (j + 1)).toNat) (by rw [hq]) h55
        refine lv_iload hx hb dX0_isLight_14 (lv_at hl 5 rfl) ?_
        refine z_beq0 (tgt := 54) hx hb dX0_isLight_16 (by decide) (fun c2 => ?_) (fun c2 => ?_)
        · exact k54 (by rw [hs, c2]; rfl)
        · have k31 : zlt (zat B r i) bd (z + (j : Nat)) = bd → W p l e R s m args below meth c H locs cells slots Q (F0 m 31 ls []) := by
            intro hq
            refine lv_iload hx hb dX0_isLight_31 (lv_at hl 4 rfl) ?_
            refine z_beq0 (tgt := 54) hx hb dX0_isLight_33 (by decide) (fun c3 => ?_) (fun c3 => ?_)
            · exact k54 (by rw [hs, hq, c3, Bool.and_false])
            · refine lv_goto (tgt := 50) hx hb dX0_isLight_36 (by decide) ?_
              exact k50 (by rw [hs, hq, c2, c3]; rfl)
          refine lv_iload hx hb dX0_isLight_19 (lv_at hl 6 rfl) ?_
          refine z_jlt0 (a := (z + (j : Nat))) (tgt := 31) hx hb dX0_isLight_21 (by decide) (by omega) (fun c3 => ?_) (fun c3 => ?_)
          · exact k31 (zlt_lo c3)
          · refine lv_iload hx hb dX0_isLight_24 (lv_at hl 6 rfl) ?_
            refine lv_bipush (v := nI 21) hx hb dX0_isLight_26 (by decide) ?_
            refine zt (y := iz 21) (by decide) ?_
            refine z_jlt (a := (z + (j : Nat))) (b := 21) (tgt := 39) hx hb dX0_isLight_28 (by decide) (by omega) (by omega) (fun c4 => ?_) (fun c4 => ?_)
            · refine lv_aload_n hx hb dX0_isLight_39 rfl (lv_at hl 0 rfl) ?_
              refine lv_iload_n hx hb dX0_isLight_40 rfl (lv_at hl 1 rfl) ?_
              refine lv_iload_n hx hb dX0_isLight_41 rfl (lv_at hl 2 rfl) ?_
              refine lv_iload hx hb dX0_isLight_42 (lv_at hl 6 rfl) ?_
              refine zt (y := nI (z + (j : Nat)).toNat) (iz_at c3) ?_
              refine zcallS (n := 4) (av := [.ref sg, .int (nI r.toNat), .int (nI i), .int (nI ((z + (j : Nat)).toNat))]) (rest := []) (v := some (.int (nI ((zat B r i) (z + (j : Nat)).toNat).toNat))) C (mX0_at l D k sg B r i (z + (j : Nat)).toNat hi (by omega)) q179 q180 q1 q181 (by decide +kernel) hR (by decide) rfl hl.1 rfl (Nat.le_of_ble_eq_true rfl) hG dX0_isLight_44 ?_
              refine z_bne0 (tgt := 54) hx hb dX0_isLight_47 (by decide) (fun c5 => ?_) (fun c5 => ?_)
              · exact k54 (by rw [hs, zlt_in (n := (z + (j : Nat)).toNat) (by omega) (by omega), c5, Bool.not_true, Bool.and_false])
              · exact k50 (by rw [hs, zlt_in (n := (z + (j : Nat)).toNat) (by omega) (by omega), c5, c2]; rfl)
            · exact k31 (zlt_hi c4)
      refine lv_istore (lv' := [(5, .int (nI (zli (zat B r i) bd z (j + 1)).toNat)), (0, .ref sg), (1, .int (nI r.toNat)), (2, .int (nI i)), (3, .int (iz z)), (4, .int (nI bd.toNat)), (6, .int (iz (z + (j : Nat))))]) hx hb dX0_isLight_55 hl (by decide) rfl (fun ls hl => ?_)
      refine lv_iinc (v := (iz (z + (j + 1 : Nat)))) (lv' := [(6, .int (iz (z + (j + 1 : Nat)))), (5, .int (nI (zli (zat B r i) bd z (j + 1)).toNat)), (0, .ref sg), (1, .int (nI r.toNat)), (2, .int (nI i)), (3, .int (iz z)), (4, .int (nI bd.toNat))]) hx hb dX0_isLight_57 hl (k := 6) rfl (by rw [show Int32.ofInt 1 = iz 1 from rfl, iz_add]; congr 1; omega) (by decide) rfl (fun ls hl => ?_)
      refine lv_goto (tgt := 6) hx hb dX0_isLight_60 (by decide) ?_
      exact ih (j + 1) (by omega) (by omega) ls (lv_sub hl [2, 3, 4, 5, 6, 1, 0] rfl)
end Z0
set_option maxHeartbeats 4000000 in
theorem mX0_isLight (l : Launch) (D : va_G) (k : Nat → ClassId) (sg : Nat) (B : Nat → Nat → Bool) (r : Bool) (i : Nat) (z : Int) (bd : Bool) (hi : i < 21) (hz : -4 ≤ z ∧ z ≤ 22) : zRead l yX0_isLight cX0_isLight 7 (some .boolean) 1 23 D k [.ref sg, .int (nI r.toNat), .int (nI i), .int (iz z), .int (nI bd.toNat)] (zG (k 2) (k 3) sg B) (some (.int (nI (zli (zat B r i) bd z 4).toNat))) := by
  refine zRead.of (by decide) (Nat.le_of_ble_eq_true rfl) ?_
  intro p e s m below meth c ls C hR hr hlk hF hl
  obtain ⟨hx, hb, hml, hown, hts⟩ := C.1
  have hown : s.vm.findClass RX0 = some m.cls := hown
  have hK := C.2
  have hG := hF
  have hl : lv_has ls 7 [(0, .ref sg), (1, .int (nI r.toNat)), (2, .int (nI i)), (3, .int (iz z)), (4, .int (nI bd.toNat))] := hl
  refine lv_iconst (v := nI (true).toNat) hx hb dX0_isLight_0 (by decide) ?_
  refine lv_istore (lv' := [(5, .int (nI true.toNat)), (0, .ref sg), (1, .int (nI r.toNat)), (2, .int (nI i)), (3, .int (iz z)), (4, .int (nI bd.toNat))]) hx hb dX0_isLight_1 hl (by decide) rfl (fun ls hl => ?_)
  refine lv_iload_n hx hb dX0_isLight_3 rfl (lv_at hl 4 rfl) ?_
  refine lv_istore (lv' := [(6, .int (iz z)), (5, .int (nI true.toNat)), (0, .ref sg), (1, .int (nI r.toNat)), (2, .int (nI i)), (3, .int (iz z)), (4, .int (nI bd.toNat))]) hx hb dX0_isLight_4 hl (by decide) rfl (fun ls hl => ?_)
  have hl : lv_has ls 7 [(6, .int (iz (z + (0 : Nat)))), (5, .int (nI (zli (zat B r i) bd z 0).toNat)), (0, .ref sg), (1, .int (nI r.toNat)), (2, .int (nI i)), (3, .int (iz z)), (4, .int (nI bd.toNat))] := by
    rw [show z + (0 : Nat) = z from Int.add_zero z]
    exact hl
  refine lX0_light C hR hG hi hz (fun ls hl => ?_) 5 0 (by omega) (by omega) ls (lv_sub hl [2, 3, 4, 5, 6, 1, 0] rfl)
  refine lv_iload hx hb dX0_isLight_63 (lv_at hl 0 rfl) ?_
  exact zrn hx hb hr hlk (znb _) dX0_isLight_65
section Z0
variable {p : Program} {l : Launch} {e : Env} {R : Room} {s : State} {m : MethodId} {args : Array Value} {below : List Frame} {meth : Method} {c : Code} {H : Heap} {locs : List Loc} {cells slots : Nat} {Q : State → Prop}
variable {D : va_G} {k : Nat → ClassId} {sg lk : Nat} {cI : ClassId} {bd : Bool} {B : Nat → Nat → Bool}
set_option maxHeartbeats 4000000 in
theorem lX0_fin1 {i a S : Nat} (C : zC p m c cX0_finders 9 s args RX0 D k) (hR : zR R 2 49 cells slots) (hG : zG (k 2) (k 3) sg B H) (hI : zI cI 7 lk zlike H) (hA : ArrOfT s cI .int) (hi : i < 42) (ha : a + 7 ≤ 21)
    (kk : ∀ ls : Array Slot, lv_has ls 9 [(0, .ref sg), (1, .int (nI bd.toNat)), (2, .ref lk), (3, .int (nI S)), (4, .int (nI i)), (5, .int (nI (decide (i < 21)).toNat)), (6, .int (nI a)), (7, .int (nI (zm (zat B (decide (i < 21)) (i % 21)) a 7).toNat))] → W p l e R s m args below meth c H locs cells slots Q (F0 m 127 ls [])) :
    ∀ (n q : Nat), q ≤ 7 → 8 ≤ q + n → ∀ ls : Array Slot, lv_has ls 9 [(0, .ref sg), (1, .int (nI bd.toNat)), (2, .ref lk), (3, .int (nI S)), (4, .int (nI i)), (5, .int (nI (decide (i < 21)).toNat)), (6, .int (nI a)), (7, .int (nI (zm (zat B (decide (i < 21)) (i % 21)) a q).toNat)), (8, .int (nI q))] → W p l e R s m args below meth c H locs cells slots Q (F0 m 79 ls []) := by
  obtain ⟨hx, hb, hml, hown, hts⟩ := C.1
  have hown : s.vm.findClass RX0 = some m.cls := hown
  have hK := C.2
  intro n
  induction n with
  | zero =>
    intro q h1 h2
    exact absurd h2 (by omega)
  | succ n ih =>
    intro q hj hjn ls hl
    refine lv_iload hx hb dX0_finders_79 (lv_at hl 8 rfl) ?_
    refine lv_bipush (v := nI 7) hx hb dX0_finders_81 (by decide) ?_
    refine z_ige (a := q) (b := 7) (tgt := 127) hx hb dX0_finders_83 (by decide) (by omega) (by decide) (fun c1 => ?_) (fun c1 => ?_)
    · have ej : q = 7 := by omega
      subst ej
      exact kk ls (lv_sub hl [0, 1, 2, 3, 4, 5, 6, 7] rfl)
    · have hs : zm (zat B (decide (i < 21)) (i % 21)) a (q + 1) = (zm (zat B (decide (i < 21)) (i % 21)) a q && ((zat B (decide (i < 21)) (i % 21)) (a + q) == zlike q)) := rfl
      suffices h119 : W p l e R s m args below meth c H locs cells slots Q (F0 m 119 ls [.int (nI (zm (zat B (decide (i < 21)) (i % 21)) a (q + 1)).toNat)]) by
        refine lv_iload hx hb dX0_finders_86 (lv_at hl 7 rfl) ?_
        refine z_beq0 (tgt := 118) hx hb dX0_finders_88 (by decide) (fun c2 => ?_) (fun c2 => ?_)
        · refine lv_iconst (v := nI (false).toNat) hx hb dX0_finders_118 (by decide) ?_
          exact zt (y := nI (zm (zat B (decide (i < 21)) (i % 21)) a (q + 1)).toNat) (by rw [hs, c2, Bool.false_and]) h119
        · refine lv_aload_n hx hb dX0_finders_91 rfl (lv_at hl 0 rfl) ?_
          refine lv_iload hx hb dX0_finders_92 (lv_at hl 5 rfl) ?_
          refine lv_iload hx hb dX0_finders_94 (lv_at hl 4 rfl) ?_
          refine lv_bipush (v := nI 21) hx hb dX0_finders_96 (by decide) ?_
          refine z_irem (v := nI (i % 21)) hx hb dX0_finders_98 (by decide) (pk_rem (by omega) (by decide) (by decide)) ?_
          refine lv_iload hx hb dX0_finders_99 (lv_at hl 6 rfl) ?_
          refine lv_iload hx hb dX0_finders_101 (lv_at hl 8 rfl) ?_
          refine z_iadd (v := nI (a + q)) hx hb dX0_finders_103 (nI_add _ _) ?_
          refine zcallS (n := 4) (av := [.ref sg, .int (nI (decide (i < 21)).toNat), .int (nI (i % 21)), .int (nI (a + q))]) (rest := []) (v := some (.int (nI ((zat B (decide (i < 21)) (i % 21)) (a + q)).toNat))) C (mX0_at l D k sg B (decide (i < 21)) (i % 21) (a + q) (by omega) (by omega)) q179 q180 q1 q181 (by decide +kernel) hR (by decide) rfl hl.1 rfl (Nat.le_of_ble_eq_true rfl) hG dX0_finders_104 ?_
          refine lv_aload_n hx hb dX0_finders_107 rfl (lv_at hl 2 rfl) ?_
          refine lv_iload hx hb dX0_finders_108 (lv_at hl 8 rfl) ?_
          refine zi_ld (j := q) hx hb hA hI (by omega) (by decide) dX0_finders_110 ?_
          refine z_bne (tgt := 118) hx hb dX0_finders_111 (by decide) (fun c3 => ?_) (fun c3 => ?_)
          · refine lv_iconst (v := nI (false).toNat) hx hb dX0_finders_118 (by decide) ?_
            exact zt (y := nI (zm (zat B (decide (i < 21)) (i % 21)) a (q + 1)).toNat) (by rw [hs, c2, beq_eq_false_iff_ne.mpr c3, Bool.and_false]) h119
          · refine lv_iconst (v := nI (true).toNat) hx hb dX0_finders_114 (by decide) ?_
            refine lv_goto (tgt := 119) hx hb dX0_finders_115 (by decide) ?_
            exact zt (y := nI (zm (zat B (decide (i < 21)) (i % 21)) a (q + 1)).toNat) (by rw [hs, c2, c3, beq_self_eq_true, Bool.and_true]) h119
      refine lv_istore (lv' := [(7, .int (nI (zm (zat B (decide (i < 21)) (i % 21)) a (q + 1)).toNat)), (0, .ref sg), (1, .int (nI bd.toNat)), (2, .ref lk), (3, .int (nI S)), (4, .int (nI i)), (5, .int (nI (decide (i < 21)).toNat)), (6, .int (nI a)), (8, .int (nI q))]) hx hb dX0_finders_119 hl (by decide) rfl (fun ls hl => ?_)
      refine lv_iinc (v := nI (q + 1)) (lv' := [(8, .int (nI (q + 1))), (7, .int (nI (zm (zat B (decide (i < 21)) (i % 21)) a (q + 1)).toNat)), (0, .ref sg), (1, .int (nI bd.toNat)), (2, .ref lk), (3, .int (nI S)), (4, .int (nI i)), (5, .int (nI (decide (i < 21)).toNat)), (6, .int (nI a))]) hx hb dX0_finders_121 hl (k := 8) rfl (z_inc _) (by decide) rfl (fun ls hl => ?_)
      refine lv_goto (tgt := 79) hx hb dX0_finders_124 (by decide) ?_
      exact ih (q + 1) (by omega) (by omega) ls (lv_sub hl [2, 3, 4, 5, 6, 7, 8, 1, 0] rfl)
set_option maxHeartbeats 4000000 in
theorem lX0_fin2 {i bs : Nat} (C : zC p m c cX0_finders 9 s args RX0 D k) (hR : zR R 2 49 cells slots) (hG : zG (k 2) (k 3) sg B H) (hI : zI cI 7 lk zlike H) (hA : ArrOfT s cI .int) (hi : i < 42)
    (kk : ∀ ls : Array Slot, lv_has ls 9 [(0, .ref sg), (1, .int (nI bd.toNat)), (2, .ref lk), (3, .int (nI (bs + zs (fun a => (zfd (zat B (decide (i < 21)) (i % 21)) bd a).toNat) 15))), (4, .int (nI i))] → W p l e R s m args below meth c H locs cells slots Q (F0 m 185 ls [])) :
    ∀ (n a : Nat), a ≤ 15 → 16 ≤ a + n → ∀ ls : Array Slot, lv_has ls 9 [(0, .ref sg), (1, .int (nI bd.toNat)), (2, .ref lk), (3, .int (nI (bs + zs (fun a => (zfd (zat B (decide (i < 21)) (i % 21)) bd a).toNat) a))), (4, .int (nI i)), (5, .int (nI (decide (i < 21)).toNat)), (6, .int (nI a))] → W p l e R s m args below meth c H locs cells slots Q (F0 m 63 ls []) := by
  obtain ⟨hx, hb, hml, hown, hts⟩ := C.1
  have hown : s.vm.findClass RX0 = some m.cls := hown
  have hK := C.2
  intro n
  induction n with
  | zero =>
    intro a h1 h2
    exact absurd h2 (by omega)
  | succ n ih =>
    intro a hj hjn ls hl
    refine lv_iload hx hb dX0_finders_63 (lv_at hl 6 rfl) ?_
    refine lv_bipush (v := nI 7) hx hb dX0_finders_65 (by decide) ?_
    refine z_iadd (v := nI (a + 7)) hx hb dX0_finders_67 (nI_add _ _) ?_
    refine lv_bipush (v := nI 21) hx hb dX0_finders_68 (by decide) ?_
    refine z_igt (a := a + 7) (b := 21) (tgt := 185) hx hb dX0_finders_70 (by decide) (by omega) (by decide) (fun c1 => ?_) (fun c1 => ?_)
    · have ej : a = 15 := by omega
      subst ej
      exact kk ls (lv_sub hl [0, 1, 2, 3, 4] rfl)
    · refine lv_iconst (v := nI (true).toNat) hx hb dX0_finders_73 (by decide) ?_
      refine lv_istore (lv' := [(7, .int (nI true.toNat)), (0, .ref sg), (1, .int (nI bd.toNat)), (2, .ref lk), (3, .int (nI (bs + zs (fun a => (zfd (zat B (decide (i < 21)) (i % 21)) bd a).toNat) a))), (4, .int (nI i)), (5, .int (nI (decide (i < 21)).toNat)), (6, .int (nI a))]) hx hb dX0_finders_74 hl (by decide) rfl (fun ls hl => ?_)
      refine lv_iconst (v := nI 0) hx hb dX0_finders_76 (by decide) ?_
      refine lv_istore (lv' := [(8, .int (nI 0)), (7, .int (nI true.toNat)), (0, .ref sg), (1, .int (nI bd.toNat)), (2, .ref lk), (3, .int (nI (bs + zs (fun a => (zfd (zat B (decide (i < 21)) (i % 21)) bd a).toNat) a))), (4, .int (nI i)), (5, .int (nI (decide (i < 21)).toNat)), (6, .int (nI a))]) hx hb dX0_finders_77 hl (by decide) rfl (fun ls hl => ?_)
      refine lX0_fin1 (i := i) (a := a) (S := bs + zs (fun a => (zfd (zat B (decide (i < 21)) (i % 21)) bd a).toNat) a) C hR hG hI hA hi (by omega) (fun ls hl => ?_) 8 0 (by omega) (by omega) ls (lv_sub hl [2, 3, 4, 5, 6, 7, 8, 1, 0] rfl)
      refine lv_iload_n hx hb dX0_finders_127 rfl (lv_at hl 3 rfl) ?_
      refine lv_iload hx hb dX0_finders_128 (lv_at hl 7 rfl) ?_
      have hs : zfd (zat B (decide (i < 21)) (i % 21)) bd a = (zm (zat B (decide (i < 21)) (i % 21)) a 7 && (zli (zat B (decide (i < 21)) (i % 21)) bd ((a : Int) - 4) 4 || zli (zat B (decide (i < 21)) (i % 21)) bd ((a : Int) + 7) 4)) := rfl
      suffices h177 : W p l e R s m args below meth c H locs cells slots Q (F0 m 177 ls [.int (nI (zfd (zat B (decide (i < 21)) (i % 21)) bd a).toNat), .int (nI (bs + zs (fun a => (zfd (zat B (decide (i < 21)) (i % 21)) bd a).toNat) a))]) by
        have k176 : zfd (zat B (decide (i < 21)) (i % 21)) bd a = false → W p l e R s m args below meth c H locs cells slots Q (F0 m 176 ls [.int (nI (bs + zs (fun a => (zfd (zat B (decide (i < 21)) (i % 21)) bd a).toNat) a))]) := by
          intro hq
          refine lv_iconst (v := nI (false).toNat) hx hb dX0_finders_176 (by decide) ?_
          exact zt (y := nI (zfd (zat B (decide (i < 21)) (i % 21)) bd a).toNat) (by rw [hq]) h177
        have k172 : zfd (zat B (decide (i < 21)) (i % 21)) bd a = true → W p l e R s m args below meth c H locs cells slots Q (F0 m 172 ls [.int (nI (bs + zs (fun a => (zfd (zat B (decide (i < 21)) (i % 21)) bd a).toNat) a))]) := by
          intro hq
          refine lv_iconst (v := nI (true).toNat) hx hb dX0_finders_172 (by decide) ?_
          refine lv_goto (tgt := 177) hx hb dX0_finders_173 (by decide) ?_
          exact zt (y := nI (zfd (zat B (decide (i < 21)) (i % 21)) bd a).toNat) (by rw [hq]) h177
        refine z_beq0 (tgt := 176) hx hb dX0_finders_130 (by decide) (fun c2 => ?_) (fun c2 => ?_)
        · exact k176 (by rw [hs, c2, Bool.false_and])
        · refine lv_aload_n hx hb dX0_finders_133 rfl (lv_at hl 0 rfl) ?_
          refine lv_iload hx hb dX0_finders_134 (lv_at hl 5 rfl) ?_
          refine lv_iload hx hb dX0_finders_136 (lv_at hl 4 rfl) ?_
          refine lv_bipush (v := nI 21) hx hb dX0_finders_138 (by decide) ?_
          refine z_irem (v := nI (i % 21)) hx hb dX0_finders_140 (by decide) (pk_rem (by omega) (by decide) (by decide)) ?_
          refine lv_iload hx hb dX0_finders_141 (lv_at hl 6 rfl) ?_
          refine lv_iconst (v := nI 4) hx hb dX0_finders_143 (by decide) ?_
          refine z_isub (v := (iz ((a : Int) - 4))) hx hb dX0_finders_144 (by rw [iz_nat, iz_nat]; exact iz_sub _ _) ?_
          refine lv_iload_n hx hb dX0_finders_145 rfl (lv_at hl 1 rfl) ?_
          refine zcallS (n := 5) (av := [.ref sg, .int (nI (decide (i < 21)).toNat), .int (nI (i % 21)), .int (iz ((a : Int) - 4)), .int (nI bd.toNat)]) (rest := [.int (nI (bs + zs (fun a => (zfd (zat B (decide (i < 21)) (i % 21)) bd a).toNat) a))]) (v := some (.int (nI (zli (zat B (decide (i < 21)) (i % 21)) bd ((a : Int) - 4) 4).toNat))) C (mX0_isLight l D k sg B (decide (i < 21)) (i % 21) ((a : Int) - 4) bd (by omega) (by omega)) q182 q183 q1 q184 (by decide +kernel) hR (by decide) rfl hl.1 rfl (Nat.le_of_ble_eq_true rfl) hG dX0_finders_146 ?_
          refine z_bne0 (tgt := 172) hx hb dX0_finders_149 (by decide) (fun c3 => ?_) (fun c3 => ?_)
          · exact k172 (by rw [hs, c2, c3]; rfl)
          · refine lv_aload_n hx hb dX0_finders_152 rfl (lv_at hl 0 rfl) ?_
            refine lv_iload hx hb dX0_finders_153 (lv_at hl 5 rfl) ?_
            refine lv_iload hx hb dX0_finders_155 (lv_at hl 4 rfl) ?_
            refine lv_bipush (v := nI 21) hx hb dX0_finders_157 (by decide) ?_
            refine z_irem (v := nI (i % 21)) hx hb dX0_finders_159 (by decide) (pk_rem (by omega) (by decide) (by decide)) ?_
            refine lv_iload hx hb dX0_finders_160 (lv_at hl 6 rfl) ?_
            refine lv_bipush (v := nI 7) hx hb dX0_finders_162 (by decide) ?_
            refine z_iadd (v := (iz ((a : Int) + 7))) hx hb dX0_finders_164 (by rw [iz_nat, iz_nat]; exact iz_add _ _) ?_
            refine lv_iload_n hx hb dX0_finders_165 rfl (lv_at hl 1 rfl) ?_
            refine zcallS (n := 5) (av := [.ref sg, .int (nI (decide (i < 21)).toNat), .int (nI (i % 21)), .int (iz ((a : Int) + 7)), .int (nI bd.toNat)]) (rest := [.int (nI (bs + zs (fun a => (zfd (zat B (decide (i < 21)) (i % 21)) bd a).toNat) a))]) (v := some (.int (nI (zli (zat B (decide (i < 21)) (i % 21)) bd ((a : Int) + 7) 4).toNat))) C (mX0_isLight l D k sg B (decide (i < 21)) (i % 21) ((a : Int) + 7) bd (by omega) (by omega)) q182 q183 q1 q184 (by decide +kernel) hR (by decide) rfl hl.1 rfl (Nat.le_of_ble_eq_true rfl) hG dX0_finders_166 ?_
            refine z_beq0 (tgt := 176) hx hb dX0_finders_169 (by decide) (fun c4 => ?_) (fun c4 => ?_)
            · exact k176 (by rw [hs, c2, c3, c4]; rfl)
            · exact k172 (by rw [hs, c2, c3, c4]; rfl)
      refine z_iadd (v := nI (bs + zs (fun a => (zfd (zat B (decide (i < 21)) (i % 21)) bd a).toNat) (a + 1))) hx hb dX0_finders_177 ((nI_add _ _).trans (by rw [Nat.add_assoc]; rfl)) ?_
      refine lv_istore_n (lv' := [(3, .int (nI (bs + zs (fun a => (zfd (zat B (decide (i < 21)) (i % 21)) bd a).toNat) (a + 1)))), (0, .ref sg), (1, .int (nI bd.toNat)), (2, .ref lk), (4, .int (nI i)), (5, .int (nI (decide (i < 21)).toNat)), (6, .int (nI a)), (7, .int (nI (zm (zat B (decide (i < 21)) (i % 21)) a 7).toNat))]) hx hb dX0_finders_178 rfl hl (by decide) rfl (fun ls hl => ?_)
      refine lv_iinc (v := nI (a + 1)) (lv' := [(6, .int (nI (a + 1))), (3, .int (nI (bs + zs (fun a => (zfd (zat B (decide (i < 21)) (i % 21)) bd a).toNat) (a + 1)))), (0, .ref sg), (1, .int (nI bd.toNat)), (2, .ref lk), (4, .int (nI i)), (5, .int (nI (decide (i < 21)).toNat)), (7, .int (nI (zm (zat B (decide (i < 21)) (i % 21)) a 7).toNat))]) hx hb dX0_finders_179 hl (k := 6) rfl (z_inc _) (by decide) rfl (fun ls hl => ?_)
      refine lv_goto (tgt := 63) hx hb dX0_finders_182 (by decide) ?_
      exact ih (a + 1) (by omega) (by omega) ls (lv_sub hl [2, 3, 4, 1, 5, 6, 0] rfl)
set_option maxHeartbeats 4000000 in
theorem lX0_fin3 (C : zC p m c cX0_finders 9 s args RX0 D k) (hR : zR R 2 49 cells slots) (hG : zG (k 2) (k 3) sg B H) (hI : zI cI 7 lk zlike H) (hA : ArrOfT s cI .int)
    (kk : ∀ ls : Array Slot, lv_has ls 9 [(0, .ref sg), (1, .int (nI bd.toNat)), (2, .ref lk), (3, .int (nI (zs (fun i => zcL (zat B (decide (i < 21)) (i % 21)) bd) 42))), (4, .int (nI 42))] → W p l e R s m args below meth c H locs cells slots Q (F0 m 191 ls [])) :
    ∀ (n i : Nat), i ≤ 42 → 43 ≤ i + n → ∀ ls : Array Slot, lv_has ls 9 [(0, .ref sg), (1, .int (nI bd.toNat)), (2, .ref lk), (3, .int (nI (zs (fun i => zcL (zat B (decide (i < 21)) (i % 21)) bd) i))), (4, .int (nI i))] → W p l e R s m args below meth c H locs cells slots Q (F0 m 39 ls []) := by
  obtain ⟨hx, hb, hml, hown, hts⟩ := C.1
  have hown : s.vm.findClass RX0 = some m.cls := hown
  have hK := C.2
  intro n
  induction n with
  | zero =>
    intro i h1 h2
    exact absurd h2 (by omega)
  | succ n ih =>
    intro i hi hin ls hl
    refine lv_iload hx hb dX0_finders_39 (lv_at hl 4 rfl) ?_
    refine lv_bipush (v := nI 42) hx hb dX0_finders_41 (by decide) ?_
    refine z_ige (a := i) (b := 42) (tgt := 191) hx hb dX0_finders_43 (by decide) (by omega) (by decide) (fun c1 => ?_) (fun c1 => ?_)
    · have ej : i = 42 := by omega
      subst ej
      exact kk ls (lv_sub hl [0, 1, 2, 3, 4] rfl)
    · refine lv_iload hx hb dX0_finders_46 (lv_at hl 4 rfl) ?_
      refine lv_bipush (v := nI 21) hx hb dX0_finders_48 (by decide) ?_
      suffices hj2 : W p l e R s m args below meth c H locs cells slots Q (F0 m 58 ls [.int (nI (decide (i < 21)).toNat)]) by
        refine z_ige (a := i) (b := 21) (tgt := 57) hx hb dX0_finders_50 (by decide) (by omega) (by decide) (fun c3 => ?_) (fun c3 => ?_)
        · refine lv_iconst (v := nI 0) hx hb dX0_finders_57 (by decide) ?_
          exact zt (z_0 (b := decide (i < 21)) (decide_eq_false (by omega))) hj2
        · refine lv_iconst (v := nI 1) hx hb dX0_finders_53 (by decide) ?_
          refine lv_goto (tgt := 58) hx hb dX0_finders_54 (by decide) ?_
          exact zt (z_1 (b := decide (i < 21)) (decide_eq_true (by omega))) hj2
      refine lv_istore (lv' := [(5, .int (nI (decide (i < 21)).toNat)), (0, .ref sg), (1, .int (nI bd.toNat)), (2, .ref lk), (3, .int (nI (zs (fun i => zcL (zat B (decide (i < 21)) (i % 21)) bd) i))), (4, .int (nI i))]) hx hb dX0_finders_58 hl (by decide) rfl (fun ls hl => ?_)
      refine lv_iconst (v := nI 0) hx hb dX0_finders_60 (by decide) ?_
      refine lv_istore (lv' := [(6, .int (nI 0)), (5, .int (nI (decide (i < 21)).toNat)), (0, .ref sg), (1, .int (nI bd.toNat)), (2, .ref lk), (3, .int (nI (zs (fun i => zcL (zat B (decide (i < 21)) (i % 21)) bd) i))), (4, .int (nI i))]) hx hb dX0_finders_61 hl (by decide) rfl (fun ls hl => ?_)
      refine lX0_fin2 (i := i) (bs := zs (fun i => zcL (zat B (decide (i < 21)) (i % 21)) bd) i) C hR hG hI hA (by omega) (fun ls hl => ?_) 16 0 (by omega) (by omega) ls (lv_sub hl [2, 3, 4, 5, 6, 1, 0] rfl)
      refine lv_iinc (v := nI (i + 1)) (lv' := [(4, .int (nI (i + 1))), (0, .ref sg), (1, .int (nI bd.toNat)), (2, .ref lk), (3, .int (nI (zs (fun i => zcL (zat B (decide (i < 21)) (i % 21)) bd) i + zs (fun a => (zfd (zat B (decide (i < 21)) (i % 21)) bd a).toNat) 15)))]) hx hb dX0_finders_185 hl (k := 4) rfl (z_inc _) (by decide) rfl (fun ls hl => ?_)
      refine lv_goto (tgt := 39) hx hb dX0_finders_188 (by decide) ?_
      exact ih (i + 1) (by omega) (by omega) ls (lv_sub hl [1, 2, 3, 4, 0] rfl)
end Z0
set_option maxHeartbeats 4000000 in
theorem mX0_finders (l : Launch) (D : va_G) (k : Nat → ClassId) (sg : Nat) (B : Nat → Nat → Bool) (bd : Bool) : zNew l yX0_finders cX0_finders 9 (some .int) 2 1 7 49 D k [.ref sg, .int (nI bd.toNat)] (zG (k 2) (k 3) sg B) (.int (nI (40 * zr3L B bd))) := by
  refine zNew.of (by decide) (Nat.le_of_ble_eq_true rfl) ?_
  intro p e s m below meth c ls C hR hr hlk hF hl
  obtain ⟨hx, hb, hml, hown, hts⟩ := C.1
  have hown : s.vm.findClass RX0 = some m.cls := hown
  have hK := C.2
  have hG := hF
  have hl : lv_has ls 9 [(0, .ref sg), (1, .int (nI bd.toNat))] := hl
  refine lv_bipush (v := nI 7) hx hb dX0_finders_0 (by decide) ?_
  refine va_newaK (g := F0 m 2 ls [.int (nI 7)]) (atype := .int) (N := 7) hx hb (hts _ q221) rfl dX0_finders_2 rfl (by decide) (by decide) (by decide) (Nat.le_of_ble_eq_true rfl) (Nat.le_of_ble_eq_true rfl) rfl (fun H1 cI e1 z1 o1 hA _ => ?_)
  have hI : zI cI 7 s.heap.size (fun _ => false) H1 := e1
  refine W.eq (g2 := F0 m 4 ls [.ref s.heap.size]) rfl ?_
  refine lv_dup hx hb dX0_finders_4 rfl ?_
  refine lv_iconst (v := nI 0) hx hb dX0_finders_5 (by decide) ?_
  refine lv_iconst (v := nI (true).toNat) hx hb dX0_finders_6 (by decide) ?_
  refine zi_st (cI := cI) (n := 7) (q := s.heap.size) (j := 0) (v := true) hx hb hA hI (by decide) (by decide) (Nat.le_refl _) dX0_finders_7 (fun H2 hI z2 o2 => ?_)
  replace z1 := z2.trans z1
  replace o1 := fun (q : Nat) (hq : q < s.heap.size) => (o2 q (by omega)).trans (o1 q hq)
  clear z2 o2
  refine lv_dup hx hb dX0_finders_8 rfl ?_
  refine lv_iconst (v := nI 1) hx hb dX0_finders_9 (by decide) ?_
  refine lv_iconst (v := nI (false).toNat) hx hb dX0_finders_10 (by decide) ?_
  refine zi_st (cI := cI) (n := 7) (q := s.heap.size) (j := 1) (v := false) hx hb hA hI (by decide) (by decide) (Nat.le_refl _) dX0_finders_11 (fun H3 hI z2 o2 => ?_)
  replace z1 := z2.trans z1
  replace o1 := fun (q : Nat) (hq : q < s.heap.size) => (o2 q (by omega)).trans (o1 q hq)
  clear z2 o2
  refine lv_dup hx hb dX0_finders_12 rfl ?_
  refine lv_iconst (v := nI 2) hx hb dX0_finders_13 (by decide) ?_
  refine lv_iconst (v := nI (true).toNat) hx hb dX0_finders_14 (by decide) ?_
  refine zi_st (cI := cI) (n := 7) (q := s.heap.size) (j := 2) (v := true) hx hb hA hI (by decide) (by decide) (Nat.le_refl _) dX0_finders_15 (fun H4 hI z2 o2 => ?_)
  replace z1 := z2.trans z1
  replace o1 := fun (q : Nat) (hq : q < s.heap.size) => (o2 q (by omega)).trans (o1 q hq)
  clear z2 o2
  refine lv_dup hx hb dX0_finders_16 rfl ?_
  refine lv_iconst (v := nI 3) hx hb dX0_finders_17 (by decide) ?_
  refine lv_iconst (v := nI (true).toNat) hx hb dX0_finders_18 (by decide) ?_
  refine zi_st (cI := cI) (n := 7) (q := s.heap.size) (j := 3) (v := true) hx hb hA hI (by decide) (by decide) (Nat.le_refl _) dX0_finders_19 (fun H5 hI z2 o2 => ?_)
  replace z1 := z2.trans z1
  replace o1 := fun (q : Nat) (hq : q < s.heap.size) => (o2 q (by omega)).trans (o1 q hq)
  clear z2 o2
  refine lv_dup hx hb dX0_finders_20 rfl ?_
  refine lv_iconst (v := nI 4) hx hb dX0_finders_21 (by decide) ?_
  refine lv_iconst (v := nI (true).toNat) hx hb dX0_finders_22 (by decide) ?_
  refine zi_st (cI := cI) (n := 7) (q := s.heap.size) (j := 4) (v := true) hx hb hA hI (by decide) (by decide) (Nat.le_refl _) dX0_finders_23 (fun H6 hI z2 o2 => ?_)
  replace z1 := z2.trans z1
  replace o1 := fun (q : Nat) (hq : q < s.heap.size) => (o2 q (by omega)).trans (o1 q hq)
  clear z2 o2
  refine lv_dup hx hb dX0_finders_24 rfl ?_
  refine lv_iconst (v := nI 5) hx hb dX0_finders_25 (by decide) ?_
  refine lv_iconst (v := nI (false).toNat) hx hb dX0_finders_26 (by decide) ?_
  refine zi_st (cI := cI) (n := 7) (q := s.heap.size) (j := 5) (v := false) hx hb hA hI (by decide) (by decide) (Nat.le_refl _) dX0_finders_27 (fun H7 hI z2 o2 => ?_)
  replace z1 := z2.trans z1
  replace o1 := fun (q : Nat) (hq : q < s.heap.size) => (o2 q (by omega)).trans (o1 q hq)
  clear z2 o2
  refine lv_dup hx hb dX0_finders_28 rfl ?_
  refine lv_bipush (v := nI 6) hx hb dX0_finders_29 (by decide) ?_
  refine lv_iconst (v := nI (true).toNat) hx hb dX0_finders_31 (by decide) ?_
  refine zi_st (cI := cI) (n := 7) (q := s.heap.size) (j := 6) (v := true) hx hb hA hI (by decide) (by decide) (Nat.le_refl _) dX0_finders_32 (fun H8 hI z2 o2 => ?_)
  replace z1 := z2.trans z1
  replace o1 := fun (q : Nat) (hq : q < s.heap.size) => (o2 q (by omega)).trans (o1 q hq)
  clear z2 o2
  have hI : zI cI 7 s.heap.size zlike H8 := hI.congr (fun j hj => by
    rcases (show j = 0 ∨ j = 1 ∨ j = 2 ∨ j = 3 ∨ j = 4 ∨ j = 5 ∨ j = 6 by omega) with e | e | e | e | e | e | e <;> (subst e; rfl))
  have hlt := hG.lt
  have hG : zG (k 2) (k 3) sg B H8 := hG.kept (fun q h1 h2 => o1 q (by omega))
  refine lv_astore_n (lv' := [(2, .ref s.heap.size), (0, .ref sg), (1, .int (nI bd.toNat))]) hx hb dX0_finders_33 rfl hl (by decide) rfl (fun ls hl => ?_)
  refine lv_iconst (v := nI 0) hx hb dX0_finders_34 (by decide) ?_
  refine lv_istore_n (lv' := [(3, .int (nI 0)), (2, .ref s.heap.size), (0, .ref sg), (1, .int (nI bd.toNat))]) hx hb dX0_finders_35 rfl hl (by decide) rfl (fun ls hl => ?_)
  refine lv_iconst (v := nI 0) hx hb dX0_finders_36 (by decide) ?_
  refine lv_istore (lv' := [(4, .int (nI 0)), (3, .int (nI 0)), (2, .ref s.heap.size), (0, .ref sg), (1, .int (nI bd.toNat))]) hx hb dX0_finders_37 hl (by decide) rfl (fun ls hl => ?_)
  refine lX0_fin3 (lk := s.heap.size) C ⟨hR.1, hR.2.1, hR.2.2.1, hR.2.2.2⟩ hG hI hA (fun ls hl => ?_) 43 0 (by omega) (by omega) ls (lv_sub hl [3, 4, 2, 1, 0] rfl)
  have hl : lv_has ls 9 [(3, .int (nI (zr3L B bd))), (0, .ref sg)] := lv_sub hl [3, 0] rfl
  refine lv_bipush (v := nI 40) hx hb dX0_finders_191 (by decide) ?_
  refine lv_iload_n hx hb dX0_finders_193 rfl (lv_at hl 0 rfl) ?_
  refine z_imul (v := nI (40 * (zr3L B bd))) hx hb dX0_finders_194 (pk_mul _ _) ?_
  exact W.iret hx hb hr (fun t ht _ => ⟨rfl, by rw [ht]; omega, fun q hq => by rw [ht]; exact o1 q hq⟩) (fun q h => by cases h) dX0_finders_195 hlk
end
section
/-! PenaltyDeskLaw.isTold: where the desk and the sheet hold the same, it answers true -/
set_option maxRecDepth 100000
theorem zr1_le (B : Nat → Nat → Bool) (r : Bool) : zr1 B r ≤ 21 * (3 * 21) := zs_le fun i _ => zr_le _ 21
theorem zr2_le (B : Nat → Nat → Bool) : zr2 B ≤ 20 * (20 * 1) := zs_le fun y _ => zs_le fun x _ => zb1 _
theorem zr4_le (B : Nat → Nat → Bool) : zr4 B ≤ 441 * 10 / 441 * 10 := by
  unfold zr4
  have h := zoff_le (zdk_le B)
  omega
section Z0
variable {p : Program} {l : Launch} {e : Env} {R : Room} {s : State} {m : MethodId} {args : Array Value} {below : List Frame} {meth : Method} {c : Code} {H : Heap} {locs : List Loc} {cells slots : Nat} {Q : State → Prop}
variable {D : va_G} {k : Nat → ClassId} {o b g sg : Nat} {B : Nat → Nat → Bool}
set_option maxHeartbeats 4000000 in
theorem lX0_told (C : zC p m c cX0_isTold 6 s args RX0 D k) (hR : zR R 4 90 cells slots) (hD : zDk D k o b g B H) (hG : zG (k 2) (k 3) sg B H)
    (kk : ∀ ls : Array Slot, lv_has ls 6 [(0, .ref o), (1, .ref sg), (2, .int (nI true.toNat))] → W p l e R s m args below meth c H locs cells slots Q (F0 m 53 ls [])) :
    ∀ (n i : Nat), i ≤ 441 → 442 ≤ i + n → ∀ ls : Array Slot, lv_has ls 6 [(0, .ref o), (1, .ref sg), (2, .int (nI true.toNat)), (3, .int (nI i))] → W p l e R s m args below meth c H locs cells slots Q (F0 m 4 ls []) := by
  obtain ⟨hx, hb, hml, hown, hts⟩ := C.1
  have hown : s.vm.findClass RX0 = some m.cls := hown
  have hK := C.2
  intro n
  induction n with
  | zero =>
    intro i h1 h2
    exact absurd h2 (by omega)
  | succ n ih =>
    intro i hi hin ls hl
    refine lv_iload_n hx hb dX0_isTold_4 rfl (lv_at hl 3 rfl) ?_
    refine lv_sipush (v := nI 441) hx hb dX0_isTold_5 (by decide) ?_
    refine z_ige (a := i) (b := 441) (tgt := 53) hx hb dX0_isTold_8 (by decide) (by omega) (by decide) (fun c1 => ?_) (fun c1 => ?_)
    · exact kk ls (lv_sub hl [0, 1, 2] rfl)
    · refine lv_iload_n hx hb dX0_isTold_11 rfl (lv_at hl 2 rfl) ?_
      refine z_beq0 (tgt := 53) hx hb dX0_isTold_12 (by decide) (fun c => absurd c (by decide)) (fun c1 => ?_)
      refine lv_aload_n hx hb dX0_isTold_15 rfl (lv_at hl 0 rfl) ?_
      refine lv_iload_n hx hb dX0_isTold_16 rfl (lv_at hl 3 rfl) ?_
      refine lv_bipush (v := nI 21) hx hb dX0_isTold_17 (by decide) ?_
      refine z_idiv (v := nI (i / 21)) hx hb dX0_isTold_19 (by decide) (pk_div (by omega) (by decide) (by decide)) ?_
      refine lv_iload_n hx hb dX0_isTold_20 rfl (lv_at hl 3 rfl) ?_
      refine lv_bipush (v := nI 21) hx hb dX0_isTold_21 (by decide) ?_
      refine z_irem (v := nI (i % 21)) hx hb dX0_isTold_23 (by decide) (pk_rem (by omega) (by decide) (by decide)) ?_
      refine zcallV (n := 2) (b := o) (av := [.int (nI (i / 21)), .int (nI (i % 21))]) (rest := []) (v := some (.int (nI (B (md21 (nI (i / 21))) (md21 (nI (i % 21)))).toNat))) C (mX1_get l D k o b g B (nI (i / 21)) (nI (i % 21))) q147 q148 q149 q2 q150 (by decide +kernel) hR (by decide) rfl hl.1 rfl (Nat.le_of_ble_eq_true rfl) (hD.recv hK) hD dX0_isTold_24 ?_
      refine zt (y := nI (B (i / 21) (i % 21)).toNat) (by rw [md21_nI (by omega), md21_nI (by omega)]) ?_
      refine lv_aload_n hx hb dX0_isTold_27 rfl (lv_at hl 1 rfl) ?_
      refine lv_iload_n hx hb dX0_isTold_28 rfl (lv_at hl 3 rfl) ?_
      refine lv_bipush (v := nI 21) hx hb dX0_isTold_29 (by decide) ?_
      refine z_idiv (v := nI (i / 21)) hx hb dX0_isTold_31 (by decide) (pk_div (by omega) (by decide) (by decide)) ?_
      refine zg_row (i := i / 21) hx hb (hK.2 2 _ rfl).1 hG (by omega) dX0_isTold_32 ?_
      refine lv_iload_n hx hb dX0_isTold_33 rfl (lv_at hl 3 rfl) ?_
      refine lv_bipush (v := nI 21) hx hb dX0_isTold_34 (by decide) ?_
      refine z_irem (v := nI (i % 21)) hx hb dX0_isTold_36 (by decide) (pk_rem (by omega) (by decide) (by decide)) ?_
      refine zg_ild (j := i % 21) hx hb (hK.2 3 _ rfl).1 hG (by omega) (by omega) dX0_isTold_37 ?_
      refine z_bne (tgt := 45) hx hb dX0_isTold_38 (by decide) (fun c => absurd c (fun q => q rfl)) (fun c2 => ?_)
      refine lv_iconst (v := nI (true).toNat) hx hb dX0_isTold_41 (by decide) ?_
      refine lv_goto (tgt := 46) hx hb dX0_isTold_42 (by decide) ?_
      refine lv_istore_n (lv' := [(2, .int (nI true.toNat)), (0, .ref o), (1, .ref sg), (3, .int (nI i))]) hx hb dX0_isTold_46 rfl hl (by decide) rfl (fun ls hl => ?_)
      refine lv_iinc (v := nI (i + 1)) (lv' := [(3, .int (nI (i + 1))), (2, .int (nI true.toNat)), (0, .ref o), (1, .ref sg)]) hx hb dX0_isTold_47 hl (k := 3) rfl (z_inc _) (by decide) rfl (fun ls hl => ?_)
      refine lv_goto (tgt := 4) hx hb dX0_isTold_50 (by decide) ?_
      exact ih (i + 1) (by omega) (by omega) ls (lv_sub hl [2, 3, 1, 0] rfl)
end Z0
set_option maxHeartbeats 4000000 in
theorem mX0_isTold (l : Launch) (D : va_G) (k : Nat → ClassId) (o b g sg : Nat) (B : Nat → Nat → Bool) : zNew l yX0_isTold cX0_isTold 6 (some .boolean) 4 2 14 90 D k [.ref o, .ref sg] (fun H => zDk D k o b g B H ∧ zG (k 2) (k 3) sg B H ∧ b < H.size ∧ o < H.size) (.int (nI (true).toNat)) := by
  refine zNew.of (by decide) (Nat.le_of_ble_eq_true rfl) ?_
  intro p e s m below meth c ls C hR hr hlk hF hl
  obtain ⟨hx, hb, hml, hown, hts⟩ := C.1
  have hown : s.vm.findClass RX0 = some m.cls := hown
  have hK := C.2
  obtain ⟨hD, hG, hbz, hoz⟩ := hF
  have e1 := zlaw1 B
  have e2 := zlaw2 B
  have e3 := zlaw3 B
  have e4 := zlaw4' B
  have e5 := zr3_mono B
  have b1 := zr1_le B true
  have b2 := zr1_le B false
  have b3 := zr2_le B
  have b4 := zr4_le B
  have b5 := zr3L_le B false
  have b6 := zr3L_le B true
  have hl : lv_has ls 6 [(0, .ref o), (1, .ref sg)] := hl
  refine lv_iconst (v := nI (true).toNat) hx hb dX0_isTold_0 (by decide) ?_
  refine lv_istore_n (lv' := [(2, .int (nI true.toNat)), (0, .ref o), (1, .ref sg)]) hx hb dX0_isTold_1 rfl hl (by decide) rfl (fun ls hl => ?_)
  refine lv_iconst (v := nI 0) hx hb dX0_isTold_2 (by decide) ?_
  refine lv_istore_n (lv' := [(3, .int (nI 0)), (2, .int (nI true.toNat)), (0, .ref o), (1, .ref sg)]) hx hb dX0_isTold_3 rfl hl (by decide) rfl (fun ls hl => ?_)
  have hR0 : zR (zrmN 4 2 14 90) 4 90 0 0 := ⟨hR.1, hR.2.1, Nat.zero_le _, Nat.zero_le _⟩
  refine lX0_told C hR0 hD hG (fun ls hl => ?_) 442 0 (by omega) (by omega) ls (lv_sub hl [2, 3, 1, 0] rfl)
  refine lv_aload_n hx hb dX0_isTold_53 rfl (lv_at hl 0 rfl) ?_
  replace hR := hR0
  refine zcallV (n := 0) (b := o) (av := []) (rest := []) (v := some (.int (nI (zr3 B * 40)))) C (mX1_finders l D k o b g B) q151 q152 q153 q2 q154 (by decide +kernel) hR (by decide) rfl hl.1 rfl (Nat.le_of_ble_eq_true rfl) (hD.recv hK) hD dX0_isTold_54 ?_
  refine lv_istore_n (lv' := [(3, .int (nI (zr3 B * 40))), (0, .ref o), (1, .ref sg), (2, .int (nI true.toNat))]) hx hb dX0_isTold_57 rfl hl (by decide) rfl (fun ls hl => ?_)
  refine lv_aload_n hx hb dX0_isTold_58 rfl (lv_at hl 2 rfl) ?_
  have hgz := hG.lt
  have hdz := hD.2.1.2.1.lt
  refine lv_iconst (v := nI (false).toNat) hx hb dX0_isTold_59 (by decide) ?_
  refine zcallN (n := 2) (fr0 := 4) (lo0 := 90) (av := [.ref sg, .int (nI false.toNat)]) (rest := []) (v := .int (nI (40 * zr3L B false))) C (mX0_finders l D k sg B false) q176 q177 q1 q178 (by decide +kernel) ⟨Nat.le_of_ble_eq_true rfl, Nat.le_of_ble_eq_true rfl, Nat.le_of_ble_eq_true rfl, Nat.le_of_ble_eq_true rfl⟩ (by decide) rfl hl.1 rfl (Nat.le_of_ble_eq_true rfl) hG dX0_isTold_60 (fun H1 z1 o1 => ?_)
  have hD : zDk D k o b g B H1 := hD.kept (o1 o hoz) (o1 b hbz) (fun q h1 h2 => o1 q (by omega))
  have hG : zG (k 2) (k 3) sg B H1 := hG.kept (fun q h1 h2 => o1 q (by omega))
  refine lv_istore (lv' := [(4, .int (nI (40 * zr3L B false))), (3, .int (nI (zr3 B * 40))), (0, .ref o), (1, .ref sg), (2, .int (nI true.toNat))]) hx hb dX0_isTold_63 hl (by decide) rfl (fun ls hl => ?_)
  refine lv_aload_n hx hb dX0_isTold_65 rfl (lv_at hl 3 rfl) ?_
  refine lv_iconst (v := nI (true).toNat) hx hb dX0_isTold_66 (by decide) ?_
  refine zcallN (n := 2) (fr0 := 4) (lo0 := 90) (av := [.ref sg, .int (nI true.toNat)]) (rest := []) (v := .int (nI (40 * zr3L B true))) C (mX0_finders l D k sg B true) q176 q177 q1 q178 (by decide +kernel) ⟨Nat.le_of_ble_eq_true rfl, Nat.le_of_ble_eq_true rfl, Nat.le_of_ble_eq_true rfl, Nat.le_of_ble_eq_true rfl⟩ (by decide) rfl hl.1 rfl (Nat.le_of_ble_eq_true rfl) hG dX0_isTold_67 (fun H2 z2 o2 => ?_)
  have hD : zDk D k o b g B H2 := hD.kept (o2 o (by omega)) (o2 b (by omega)) (fun q h1 h2 => o2 q (by omega))
  have hG : zG (k 2) (k 3) sg B H2 := hG.kept (fun q h1 h2 => o2 q (by omega))
  have hR : zR (zrmN 4 2 14 90) 4 90 (0 + 1 + 1) (0 + 7 + 7) := ⟨hR.1, hR.2.1, Nat.le_refl _, Nat.le_refl _⟩
  refine lv_istore (lv' := [(5, .int (nI (40 * zr3L B true))), (4, .int (nI (40 * zr3L B false))), (3, .int (nI (zr3 B * 40))), (0, .ref o), (1, .ref sg), (2, .int (nI true.toNat))]) hx hb dX0_isTold_70 hl (by decide) rfl (fun ls hl => ?_)
  refine lv_iload_n hx hb dX0_isTold_72 rfl (lv_at hl 5 rfl) ?_
  refine z_beq0 (tgt := 132) hx hb dX0_isTold_73 (by decide) (fun c => absurd c (by decide)) (fun c3 => ?_)
  refine lv_aload_n hx hb dX0_isTold_76 rfl (lv_at hl 3 rfl) ?_
  refine zcallV (n := 0) (b := o) (av := []) (rest := []) (v := some (.int (nI (zr1 B true + zr1 B false)))) C (mX1_runs l D k o b g B) q185 q186 q187 q2 q188 (by decide +kernel) hR (by decide) rfl hl.1 rfl (Nat.le_of_ble_eq_true rfl) (hD.recv hK) hD dX0_isTold_77 ?_
  refine lv_aload_n hx hb dX0_isTold_80 rfl (lv_at hl 4 rfl) ?_
  refine zcallS (n := 1) (av := [.ref sg]) (rest := [.int (nI (zr1 B true + zr1 B false))]) (v := some (.int (nI (zr1L B)))) C (mX0_runs l D k sg B) q195 q196 q1 q197 (by decide +kernel) hR (by decide) rfl hl.1 rfl (Nat.le_of_ble_eq_true rfl) hG dX0_isTold_81 ?_
  refine z_ine (a := zr1 B true + zr1 B false) (b := zr1L B) (tgt := 132) hx hb dX0_isTold_84 (by decide) (by omega) (by omega) (fun c => absurd c (fun q => q e1)) (fun c4 => ?_)
  refine lv_aload_n hx hb dX0_isTold_87 rfl (lv_at hl 3 rfl) ?_
  refine zcallV (n := 0) (b := o) (av := []) (rest := []) (v := some (.int (nI (3 * zr2 B)))) C (mX1_squares l D k o b g B) q198 q199 q200 q2 q201 (by decide +kernel) hR (by decide) rfl hl.1 rfl (Nat.le_of_ble_eq_true rfl) (hD.recv hK) hD dX0_isTold_88 ?_
  refine lv_aload_n hx hb dX0_isTold_91 rfl (lv_at hl 4 rfl) ?_
  refine zcallS (n := 1) (av := [.ref sg]) (rest := [.int (nI (3 * zr2 B))]) (v := some (.int (nI (zr2L B)))) C (mX0_squares l D k sg B) q205 q206 q1 q207 (by decide +kernel) hR (by decide) rfl hl.1 rfl (Nat.le_of_ble_eq_true rfl) hG dX0_isTold_92 ?_
  refine z_ine (a := 3 * zr2 B) (b := zr2L B) (tgt := 132) hx hb dX0_isTold_95 (by decide) (by omega) (by omega) (fun c => absurd c (fun q => q e2)) (fun c5 => ?_)
  refine lv_aload_n hx hb dX0_isTold_98 rfl (lv_at hl 3 rfl) ?_
  refine zcallV (n := 0) (b := o) (av := []) (rest := []) (v := some (.int (nI (zr4 B)))) C (mX1_share l D k o b g B) q208 q209 q210 q2 q211 (by decide +kernel) hR (by decide) rfl hl.1 rfl (Nat.le_of_ble_eq_true rfl) (hD.recv hK) hD dX0_isTold_99 ?_
  refine lv_aload_n hx hb dX0_isTold_102 rfl (lv_at hl 4 rfl) ?_
  refine zcallS (n := 1) (av := [.ref sg]) (rest := [.int (nI (zr4 B))]) (v := some (.int (nI (zr4L B)))) C (mX0_share l D k sg B) q218 q219 q1 q220 (by decide +kernel) hR (by decide) rfl hl.1 rfl (Nat.le_of_ble_eq_true rfl) hG dX0_isTold_103 ?_
  refine z_ine (a := zr4 B) (b := zr4L B) (tgt := 132) hx hb dX0_isTold_106 (by decide) (by omega) (by omega) (fun c => absurd c (fun q => q e4)) (fun c6 => ?_)
  refine lv_iload_n hx hb dX0_isTold_109 rfl (lv_at hl 2 rfl) ?_
  refine lv_iload hx hb dX0_isTold_110 (lv_at hl 1 rfl) ?_
  refine z_ilt (a := zr3 B * 40) (b := 40 * zr3L B false) (tgt := 132) hx hb dX0_isTold_112 (by decide) (by omega) (by omega) (fun c => absurd c (by omega)) (fun c7 => ?_)
  refine lv_iload_n hx hb dX0_isTold_115 rfl (lv_at hl 2 rfl) ?_
  refine lv_iload hx hb dX0_isTold_116 (lv_at hl 0 rfl) ?_
  refine z_igt (a := zr3 B * 40) (b := 40 * zr3L B true) (tgt := 132) hx hb dX0_isTold_118 (by decide) (by omega) (by omega) (fun c => absurd c (by omega)) (fun c8 => ?_)
  refine lv_iload_n hx hb dX0_isTold_121 rfl (lv_at hl 2 rfl) ?_
  refine lv_bipush (v := nI 40) hx hb dX0_isTold_122 (by decide) ?_
  refine z_irem (v := nI ((zr3 B * 40) % 40)) hx hb dX0_isTold_124 (by decide) (pk_rem (by omega) (by decide) (by decide)) ?_
  refine z_ne0 (a := (zr3 B * 40) % 40) (tgt := 132) hx hb dX0_isTold_125 (by decide) (by omega) (fun c => absurd c (by omega)) (fun c9 => ?_)
  refine lv_iconst (v := nI (true).toNat) hx hb dX0_isTold_128 (by decide) ?_
  refine lv_goto (tgt := 133) hx hb dX0_isTold_129 (by decide) ?_
  exact W.zret hx hb hr (znb _) (fun t ht _ => ⟨rfl, by rw [ht]; omega, fun q hq => by rw [ht]; exact (o2 q (by omega)).trans (o1 q hq)⟩) (fun q h => by cases h) dX0_isTold_133 hlk
end
section
/-! THE LAW: its world (the desk and the sheet, the finder's bits, the script as it was), and its pieces up to the tail of a round -/
set_option maxRecDepth 100000
def zfin (j : Nat) : Bool := decide (j = 4 ∨ j = 6 ∨ j = 7 ∨ j = 8 ∨ j = 10)
def zLw (D : va_G) (k : Nat → ClassId) (H0 : Heap) (o bm g sg fa : Nat) (cI : ClassId) (Bd Bs : Nat → Nat → Bool) (H : Heap) : Prop :=
  zDk D k o bm g Bd H ∧ zG (k 2) (k 3) sg Bs H ∧ zI cI 15 fa zfin H ∧ (∀ q : Nat, q < H0.size → H[q]? = H0[q]?) ∧ H0.size ≤ o ∧ H0.size ≤ bm ∧ o < sg ∧ g + 21 < sg ∧ sg + 21 < fa ∧ fa < H.size
theorem zLw.desk {D : va_G} {k : Nat → ClassId} {H0 : Heap} {o bm g sg fa : Nat} {cI : ClassId} {Bd Bd' Bs : Nat → Nat → Bool} {H H1 : Heap} (h : zLw D k H0 o bm g sg fa cI Bd Bs H) (hD : zDk D k o bm g Bd' H1) (hz : H1.size = H.size) (ho : ∀ q : Nat, ¬ zA g q → H1[q]? = H[q]?) : zLw D k H0 o bm g sg fa cI Bd' Bs H1 := by
  obtain ⟨hD0, hG, hI, hO, h1, h2, h3, h4, h5, h6⟩ := h
  have h7 := hD0.2.1.2.2
  refine ⟨hD, hG.kept (fun q a b => ho q (fun z => ?_)), (ho fa (fun z => ?_)).trans hI, fun q hq => (ho q (fun z => ?_)).trans (hO q hq), h1, h2, h3, h4, h5, by omega⟩
  · have := z.2; omega
  · have := z.2; omega
  · have := z.1; omega
theorem zLw.sheet {D : va_G} {k : Nat → ClassId} {H0 : Heap} {o bm g sg fa i : Nat} {cI : ClassId} {Bd Bs Bs' : Nat → Nat → Bool} {H H1 : Heap} (h : zLw D k H0 o bm g sg fa cI Bd Bs H) (hG : zG (k 2) (k 3) sg Bs' H1) (hz : H1.size = H.size) (hi : i < 21) (ho : ∀ q : Nat, q ≠ sg + 1 + i → H1[q]? = H[q]?) : zLw D k H0 o bm g sg fa cI Bd Bs' H1 := by
  obtain ⟨hD0, hG0, hI, hO, h1, h2, h3, h4, h5, h6⟩ := h
  have h7 := hD0.2.1.2.2
  exact ⟨hD0.kept (ho o (by omega)) (ho bm (by omega)) (fun q a b => ho q (by omega)), hG, (ho fa (by omega)).trans hI, fun q hq => (ho q (by omega)).trans (hO q hq), h1, h2, h3, h4, h5, by omega⟩
theorem zLw.grow {D : va_G} {k : Nat → ClassId} {H0 : Heap} {o bm g sg fa : Nat} {cI : ClassId} {Bd Bs : Nat → Nat → Bool} {H H1 : Heap} (h : zLw D k H0 o bm g sg fa cI Bd Bs H) (hz : H.size ≤ H1.size) (ho : ∀ q : Nat, q < H.size → H1[q]? = H[q]?) : zLw D k H0 o bm g sg fa cI Bd Bs H1 := by
  obtain ⟨hD0, hG0, hI, hO, h1, h2, h3, h4, h5, h6⟩ := h
  have h7 := hD0.2.1.2.2
  exact ⟨hD0.kept (ho o (by omega)) (ho bm (by omega)) (fun q a b => ho q (by omega)), hG0.kept (fun q a b => ho q (by omega)), (ho fa (by omega)).trans hI, fun q hq => (ho q (by omega)).trans (hO q hq), h1, h2, h3, h4, h5, by omega⟩
theorem zLw.congr {D : va_G} {k : Nat → ClassId} {H0 : Heap} {o bm g sg fa : Nat} {cI : ClassId} {Bd Bd' Bs Bs' : Nat → Nat → Bool} {H : Heap} (h : zLw D k H0 o bm g sg fa cI Bd Bs H) (e1 : ∀ x y : Nat, x < 21 → y < 21 → Bd x y = Bd' x y) (e2 : ∀ x y : Nat, x < 21 → y < 21 → Bs x y = Bs' x y) : zLw D k H0 o bm g sg fa cI Bd' Bs' H := ⟨h.1.congr e1, h.2.1.congr e2, h.2.2⟩
/-- cell(s, i): some int; nothing changes -/
def zPx (D : va_G) (k : Nat → ClassId) (sb L : Nat) (xs : Nat → Int32) (i : Nat) : Array Value → State → Prop := fun a U => a = ([.ref sb, .int (nI i)] : List Value).toArray ∧ va_X sb L xs U U.heap ∧ sb < U.heap.size
set_option maxHeartbeats 4000000 in
theorem mX0_cell (l : Launch) (D : va_G) (k : Nat → ClassId) (sb L i : Nat) (xs : Nat → Int32) (hL : L ≤ 96) (hi : i < 96) : Met l yX0_cell (ws_ yX0_cell cX0_cell 2 (some .int)) (zrm 0 0) (zPx D k sb L xs i) QcAny 0 0 (fun _ => False) := by
  refine Met.ofW (cc := cX0_cell) (maxL := 2) (ret := some .int) (by decide) rfl ?_
  intro p e s m args below meth c s₁ Bo hml hv
  obtain ⟨rfl, hX, hsb⟩ := hv
  have hx := Bo.exec
  have hb := Bo.bytes
  have hr := Bo.returns
  have hlk := Bo.notSynchronized
  have hl := lv_entry ([.ref sb, .int (nI i)]) (n := 2) (Nat.le_of_ble_eq_true rfl)
  rw [lg_entry_eq]
  generalize (lg_sl ([.ref sb, .int (nI i)]) ++ List.replicate (2 - (lg_sl ([.ref sb, .int (nI i)])).length) Slot.unset).toArray = ls at hl ⊢
  have hl : lv_has ls 2 [(0, .ref sb), (1, .int (nI i))] := hl
  have hS : va_S (fun _ => False) s.heap s.heap [] := va_S.rf
  have k19 : ∀ (z : Int32), W p l e (zrm 0 0) s m ([.ref sb, .int (nI i)] : List Value).toArray below meth c s.heap [] 0 0 (MQ below QcAny ([.ref sb, .int (nI i)] : List Value).toArray s 0 0 (fun _ => False)) (F0 m 19 ls [.int z]) := fun z =>
    W.iret hx hb hr (fun t ht _ => ⟨z, rfl, ht⟩) (fun q h => by cases h) dX0_cell_19 hlk
  have k18 : W p l e (zrm 0 0) s m ([.ref sb, .int (nI i)] : List Value).toArray below meth c s.heap [] 0 0 (MQ below QcAny ([.ref sb, .int (nI i)] : List Value).toArray s 0 0 (fun _ => False)) (F0 m 18 ls []) :=
    lv_iconst (v := nI 0) hx hb dX0_cell_18 (by decide) (k19 _)
  refine lv_iload_n hx hb dX0_cell_0 rfl (lv_at hl 1 rfl) ?_
  refine lv_aload_n hx hb dX0_cell_1 rfl (lv_at hl 0 rfl) ?_
  refine va_slen hx hb hX hsb (fun h => h) hS dX0_cell_2 ?_
  refine z_ige (a := i) (b := L) (tgt := 18) hx hb dX0_cell_3 (by decide) (by omega) (by omega) (fun c1 => k18) (fun c1 => ?_)
  refine lv_iload_n hx hb dX0_cell_6 rfl (lv_at hl 1 rfl) ?_
  refine lv_bipush (v := nI 96) hx hb dX0_cell_7 (by decide) ?_
  refine z_ige (a := i) (b := 96) (tgt := 18) hx hb dX0_cell_9 (by decide) (by omega) (by omega) (fun c2 => k18) (fun c2 => ?_)
  refine lv_aload_n hx hb dX0_cell_12 rfl (lv_at hl 0 rfl) ?_
  refine lv_iload_n hx hb dX0_cell_13 rfl (lv_at hl 1 rfl) ?_
  refine va_sld hx hb hX hsb (fun h => h) hS (vp_in_nI c1 (by omega)) dX0_cell_14 ?_
  refine lv_goto (tgt := 19) hx hb dX0_cell_15 (by decide) ?_
  exact k19 _
section ZL
variable {p : Program} {l : Launch} {e : Env} {R : Room} {s : State} {m : MethodId} {args : Array Value} {below : List Frame} {meth : Method} {c : Code} {H : Heap} {cells slots : Nat} {Q : State → Prop}
variable {D : va_G} {k : Nat → ClassId} {H0 : Heap} {sb L o bm g sg fa : Nat} {xs : Nat → Int32} {cI : ClassId} {B : Nat → Nat → Bool}
theorem zcell {pc i : Nat} {ls : Array Slot} {rest : List Value} (C : zC p m c code 16 s args RX0 D k) (hR : zR R 10 344 cells slots) (hX : va_X sb L xs s s.heap) (hsb : sb < s.heap.size) (hL : L ≤ 96) (hi : i < 96) (hz : s.heap.size ≤ H.size) (ho : ∀ q : Nat, q < s.heap.size → H[q]? = s.heap[q]?) (hsz : ls.size = 16) (hroom : (rest.map fun v => v.category).sum ≤ 8) (hdg : decode code pc = .ok (.invokestatic 54, 3))
    (kk : ∀ z : Int32, W p l e R s m args below meth c H [] cells slots Q (F0 m (pc + 3) ls (.int z :: rest))) : W p l e R s m args below meth c H [] cells slots Q (F0 m pc ls (.int (nI i) :: .ref sb :: rest)) := by
  obtain ⟨CF, hK⟩ := C
  obtain ⟨r1, r2, r3, r4⟩ := hR
  refine W.callA (W.runS (Ts := lw_all) (g := F0 m pc ls (.int (nI i) :: .ref sb :: rest)) (As := [.ref sb, .int (nI i)]) (rest := rest) CF (mX0_cell l D k sb L i xs hL hi) (va_cwS 2 CF.2.2.2.2 (lw_S q134 q135 q1 q136) rfl rfl rfl (by decide +kernel) ⟨Nat.le_trans (by decide) r1, Nat.le_trans (by decide) r2⟩) ⟨fun a U g' mk h => ⟨h.1, va_X.moved (u := U) (U := U.calling g' mk a) (Vm.Alike.refl U.vm) h.2.1, h.2.2⟩, fun U hU hW => ⟨rfl, ?_, by rw [hU]; omega⟩⟩ rfl rfl hsz rfl (lv_room hroom) hdg ⟨r3, r4⟩) kk
  rw [hU]
  exact (hX.kept (ho sb hsb)).moved hW.alike
set_option maxHeartbeats 4000000 in
theorem lL_tail {r : Nat} {xx aa bb vv : Int32} (C : zC p m c code 16 s args RX0 D k) (hR : zR R 10 344 (cells + 2) (slots + 14)) (hW : zLw D k H0 o bm g sg fa cI B B H)
    (kk : ∀ H : Heap, zLw D k H0 o bm g sg fa cI B B H → ∀ ls : Array Slot, lv_has ls 16 [(0, .ref sb), (1, .ref o), (2, .ref sg), (3, .ref fa), (4, .int (nI (6 * (r + 1))))] → W p l e R s m args below meth c H [] (cells + 2) (slots + 14) Q (F0 m 104 ls [])) {ls : Array Slot} (hl : lv_has ls 16 [(0, .ref sb), (1, .ref o), (2, .ref sg), (3, .ref fa), (4, .int (nI (6 * r))), (5, .int xx), (6, .int aa), (7, .int bb), (8, .int vv)]) : W p l e R s m args below meth c H [] cells slots Q (F0 m 609 ls []) := by
  obtain ⟨hx, hb, hml, hown, hts⟩ := C.1
  have hown : s.vm.findClass RX0 = some m.cls := hown
  have hK := C.2
  have hR0 : zR R 10 344 cells slots := ⟨hR.1, hR.2.1, by have h := hR.2.2.1; omega, by have h := hR.2.2.2; omega⟩
  obtain ⟨hD, hG, hI, hO, hw1, hw2, hw3, hw4, hw5, hw6⟩ := id hW
  have hw7 := hD.2.1.2.2
  have hw8 := hD.2.2
  have hR2 := hR
  replace hR := hR0
  refine lv_aload_n hx hb dL_law_609 rfl (lv_at hl 1 rfl) ?_
  refine lv_iload hx hb dL_law_610 (lv_at hl 5 rfl) ?_
  refine lv_iload hx hb dL_law_612 (lv_at hl 6 rfl) ?_
  refine lv_iload hx hb dL_law_614 (lv_at hl 7 rfl) ?_
  refine zcallV (n := 3) (b := o) (av := [.int xx, .int aa, .int bb]) (rest := []) (v := some (.int (nI (zmb (lo3 xx) (lo8 aa) (lo8 bb)).toNat))) C (mX1_mask l D k o bm g B xx aa bb) q54 q55 q56 q2 q57 (by decide +kernel) hR (by decide) rfl hl.1 rfl (Nat.le_of_ble_eq_true rfl) (hD.recv hK) hD dL_law_616 ?_
  refine lv_iload hx hb dL_law_619 (lv_at hl 5 rfl) ?_
  refine lv_iload hx hb dL_law_621 (lv_at hl 6 rfl) ?_
  refine lv_sipush (v := nI 255) hx hb dL_law_623 (by decide) ?_
  refine z_iand (v := nI (lo8 aa)) hx hb dL_law_626 (an8 _) ?_
  refine lv_iload hx hb dL_law_627 (lv_at hl 7 rfl) ?_
  refine lv_sipush (v := nI 255) hx hb dL_law_629 (by decide) ?_
  refine z_iand (v := nI (lo8 bb)) hx hb dL_law_632 (an8 _) ?_
  refine zcallS (n := 3) (av := [.int xx, .int (nI (lo8 aa)), .int (nI (lo8 bb))]) (rest := [.int (nI (zmb (lo3 xx) (lo8 aa) (lo8 bb)).toNat)]) (v := some (.int (nI (zmb (lo3 xx) (lo8 aa) (lo8 bb)).toNat))) C (mX0_turns l D k xx (lo8 aa) (lo8 bb) (lo8_lt _) (lo8_lt _)) q141 q142 q1 q143 (by decide +kernel) hR (by decide) rfl hl.1 rfl (Nat.le_of_ble_eq_true rfl) trivial dL_law_633 ?_
  refine z_bne (tgt := 647) hx hb dL_law_636 (by decide) (fun c => absurd c (fun q => q rfl)) (fun c1 => ?_)
  refine lv_aload_n hx hb dL_law_639 rfl (lv_at hl 1 rfl) ?_
  refine lv_aload_n hx hb dL_law_640 rfl (lv_at hl 2 rfl) ?_
  refine zcallN (n := 2) (fr0 := 10) (lo0 := 344) (av := [.ref o, .ref sg]) (rest := []) (v := .int (nI (true).toNat)) C (mX0_isTold l D k o bm g sg B) q144 q145 q1 q146 (by decide +kernel) hR2 (by decide) rfl hl.1 rfl (Nat.le_of_ble_eq_true rfl) ⟨hD, hG, by omega, by omega⟩ dL_law_641 (fun H1 z1 o1 => ?_)
  refine z_bne0 (tgt := 649) hx hb dL_law_644 (by decide) (fun c2 => ?_) (fun c => absurd c (by decide))
  refine lv_iinc (v := nI (6 * (r + 1))) (lv' := [(4, .int (nI (6 * (r + 1)))), (0, .ref sb), (1, .ref o), (2, .ref sg), (3, .ref fa), (5, .int xx), (6, .int aa), (7, .int bb), (8, .int vv)]) hx hb dL_law_649 hl (k := 4) rfl (by rw [show Int32.ofInt 6 = nI 6 from rfl, nI_add]; rfl) (by decide) rfl (fun ls hl => ?_)
  refine lv_goto (tgt := 104) hx hb dL_law_652 (by decide) ?_
  exact kk H1 (hW.grow z1 o1) ls (lv_sub hl [1, 2, 3, 4, 0] rfl)
set_option maxHeartbeats 4000000 in
theorem lL_fill1 {r i : Nat} {Bd : Nat → Nat → Bool} {xx aa bb vv wh hh : Int32} (C : zC p m c code 16 s args RX0 D k) (hR : zR R 10 344 cells slots) (hi : i < 21) (hia : md21 aa ≤ i) (hH0 : s.heap = H0)
    (kk : ∀ H : Heap, zLw D k H0 o bm g sg fa cI Bd (zfo B (md21 aa) (md21 bb) (lo3 hh) (lo1 (xx >>> (nI 8 &&& 31))) (i + 1)) H → ∀ ls : Array Slot, lv_has ls 16 [(0, .ref sb), (1, .ref o), (2, .ref sg), (3, .ref fa), (4, .int (nI (6 * r))), (5, .int xx), (6, .int aa), (7, .int bb), (8, .int vv), (9, .int (nI (md21 aa))), (10, .int (nI (md21 bb))), (11, .int wh), (12, .int hh), (13, .int (nI i))] → W p l e R s m args below meth c H [] cells slots Q (F0 m 302 ls [])) :
    ∀ (n j : Nat), md21 bb ≤ j → j ≤ 21 → j ≤ md21 bb + 1 + lo3 hh → 22 ≤ j + n → ∀ H : Heap, zLw D k H0 o bm g sg fa cI Bd (zfi B (md21 aa) (md21 bb) (lo3 hh) (lo1 (xx >>> (nI 8 &&& 31))) i j) H → ∀ ls : Array Slot, lv_has ls 16 [(0, .ref sb), (1, .ref o), (2, .ref sg), (3, .ref fa), (4, .int (nI (6 * r))), (5, .int xx), (6, .int aa), (7, .int bb), (8, .int vv), (9, .int (nI (md21 aa))), (10, .int (nI (md21 bb))), (11, .int wh), (12, .int hh), (13, .int (nI i)), (14, .int (nI j))] → W p l e R s m args below meth c H [] cells slots Q (F0 m 262 ls []) := by
  subst hH0
  obtain ⟨hx, hb, hml, hown, hts⟩ := C.1
  have hown : s.vm.findClass RX0 = some m.cls := hown
  have hK := C.2
  have hma := md21_lt aa
  have hmb := md21_lt bb
  have h8w := lo3_lt wh
  have h8h := lo3_lt hh
  intro n
  induction n with
  | zero =>
    intro j h1 h2 h3 hcl
    exact absurd hcl (by omega)
  | succ n ih =>
    intro j hj0 hj hjh hjn H hW ls hl
    obtain ⟨hD, hG, hI, hO, hw1, hw2, hw3, hw4, hw5, hw6⟩ := id hW
    have hw7 := hD.2.1.2.2
    have hw8 := hD.2.2
    refine lv_iload hx hb dL_law_262 (lv_at hl 14 rfl) ?_
    refine lv_bipush (v := nI 21) hx hb dL_law_264 (by decide) ?_
    refine z_ige (a := j) (b := 21) (tgt := 302) hx hb dL_law_266 (by decide) (by omega) (by decide) (fun c1 => ?_) (fun c1 => ?_)
    · exact kk H (hW.congr (fun _ _ _ _ => rfl) (fun x y _ h2 => zfi_e B _ _ _ _ hia hjh (Or.inl c1) x y h2)) ls (lv_sub hl [0, 1, 2, 3, 4, 5, 6, 7, 8, 9, 10, 11, 12, 13] rfl)
    · refine lv_iload hx hb dL_law_269 (lv_at hl 14 rfl) ?_
      refine lv_iload hx hb dL_law_271 (lv_at hl 10 rfl) ?_
      refine lv_iload hx hb dL_law_273 (lv_at hl 12 rfl) ?_
      refine lv_bipush (v := nI 7) hx hb dL_law_275 (by decide) ?_
      refine z_iand (v := nI (lo3 hh)) hx hb dL_law_277 (an3 _) ?_
      refine z_iadd (v := nI (md21 bb + (lo3 hh))) hx hb dL_law_278 (nI_add _ _) ?_
      refine z_igt (a := j) (b := md21 bb + (lo3 hh)) (tgt := 302) hx hb dL_law_279 (by decide) (by omega) (by omega) (fun c2 => ?_) (fun c2 => ?_)
      · exact kk H (hW.congr (fun _ _ _ _ => rfl) (fun x y _ h2 => zfi_e B _ _ _ _ hia hjh (Or.inr (by omega)) x y h2)) ls (lv_sub hl [0, 1, 2, 3, 4, 5, 6, 7, 8, 9, 10, 11, 12, 13] rfl)
      · refine lv_aload_n hx hb dL_law_282 rfl (lv_at hl 2 rfl) ?_
        refine lv_iload hx hb dL_law_283 (lv_at hl 13 rfl) ?_
        refine zg_row (i := i) hx hb (hK.2 2 _ rfl).1 hG (by omega) dL_law_285 ?_
        refine lv_iload hx hb dL_law_286 (lv_at hl 14 rfl) ?_
        refine lv_iload hx hb dL_law_288 (lv_at hl 5 rfl) ?_
        refine lv_bipush (v := nI 8) hx hb dL_law_290 (by decide) ?_
        refine z_ishr (v := (xx >>> (nI 8 &&& 31))) hx hb dL_law_292 rfl ?_
        refine lv_iconst (v := nI 1) hx hb dL_law_293 (by decide) ?_
        refine z_iand (v := nI (lo1 (xx >>> (nI 8 &&& 31))).toNat) hx hb dL_law_294 (an1 _) ?_
        refine zg_ist (i := i) (j := j) (v := lo1 (xx >>> (nI 8 &&& 31))) hx hb (hK.2 3 _ rfl).1 hG (by omega) (by omega) dL_law_295 (fun H1 locs1 hF1 hz1 ho1 hL1 => ?_)
        refine va_forget (fun q hq => (hL1 q hq).elim (fun h => by cases h) (fun h => by rw [h]; omega)) ?_
        replace hW := hW.sheet hF1 hz1 (by omega) ho1
        clear hF1 hz1 ho1 hL1
        obtain ⟨hD, hG, hI, hO, hw1, hw2, hw3, hw4, hw5, hw6⟩ := id hW
        have hw7 := hD.2.1.2.2
        have hw8 := hD.2.2
        refine lv_iinc (v := nI (j + 1)) (lv' := [(14, .int (nI (j + 1))), (0, .ref sb), (1, .ref o), (2, .ref sg), (3, .ref fa), (4, .int (nI (6 * r))), (5, .int xx), (6, .int aa), (7, .int bb), (8, .int vv), (9, .int (nI (md21 aa))), (10, .int (nI (md21 bb))), (11, .int wh), (12, .int hh), (13, .int (nI i))]) hx hb dL_law_296 hl (k := 14) rfl (z_inc _) (by decide) rfl (fun ls hl => ?_)
        refine lv_goto (tgt := 262) hx hb dL_law_299 (by decide) ?_
        exact ih (j + 1) (by omega) (by omega) (by omega) (by omega) H1 (hW.congr (fun _ _ _ _ => rfl) (fun x y _ _ => zfi_s B _ _ _ _ hj0 x y)) ls (lv_sub hl [1, 2, 3, 4, 5, 6, 7, 8, 9, 10, 11, 12, 13, 14, 0] rfl)
set_option maxHeartbeats 4000000 in
theorem lL_fill2 {r : Nat} {Bd : Nat → Nat → Bool} {xx aa bb vv wh hh : Int32} (C : zC p m c code 16 s args RX0 D k) (hR : zR R 10 344 cells slots) (hH0 : s.heap = H0)
    (kk : ∀ H : Heap, zLw D k H0 o bm g sg fa cI Bd (zfl B (md21 aa) (md21 bb) (lo3 wh) (lo3 hh) (lo1 (xx >>> (nI 8 &&& 31)))) H → ∀ ls : Array Slot, lv_has ls 16 [(0, .ref sb), (1, .ref o), (2, .ref sg), (3, .ref fa), (4, .int (nI (6 * r))), (5, .int xx), (6, .int aa), (7, .int bb), (8, .int vv)] → W p l e R s m args below meth c H [] cells slots Q (F0 m 609 ls [])) :
    ∀ (n i : Nat), md21 aa ≤ i → i ≤ 21 → i ≤ md21 aa + 1 + lo3 wh → 22 ≤ i + n → ∀ H : Heap, zLw D k H0 o bm g sg fa cI Bd (zfo B (md21 aa) (md21 bb) (lo3 hh) (lo1 (xx >>> (nI 8 &&& 31))) i) H → ∀ ls : Array Slot, lv_has ls 16 [(0, .ref sb), (1, .ref o), (2, .ref sg), (3, .ref fa), (4, .int (nI (6 * r))), (5, .int xx), (6, .int aa), (7, .int bb), (8, .int vv), (9, .int (nI (md21 aa))), (10, .int (nI (md21 bb))), (11, .int wh), (12, .int hh), (13, .int (nI i))] → W p l e R s m args below meth c H [] cells slots Q (F0 m 238 ls []) := by
  obtain ⟨hx, hb, hml, hown, hts⟩ := C.1
  have hown : s.vm.findClass RX0 = some m.cls := hown
  have hK := C.2
  have hma := md21_lt aa
  have hmb := md21_lt bb
  have h8w := lo3_lt wh
  have h8h := lo3_lt hh
  intro n
  induction n with
  | zero =>
    intro i h1 h2 h3 hcl
    exact absurd hcl (by omega)
  | succ n ih =>
    intro i hi0 hi hiw hin H hW ls hl
    refine lv_iload hx hb dL_law_238 (lv_at hl 13 rfl) ?_
    refine lv_bipush (v := nI 21) hx hb dL_law_240 (by decide) ?_
    refine z_ige (a := i) (b := 21) (tgt := 308) hx hb dL_law_242 (by decide) (by omega) (by decide) (fun c1 => ?_) (fun c1 => ?_)
    · refine lv_goto (tgt := 609) hx hb dL_law_308 (by decide) ?_
      exact kk H (hW.congr (fun _ _ _ _ => rfl) (fun x y h1 _ => zfo_e B _ _ _ _ _ hiw (Or.inl c1) x y h1)) ls (lv_sub hl [0, 1, 2, 3, 4, 5, 6, 7, 8] rfl)
    · refine lv_iload hx hb dL_law_245 (lv_at hl 13 rfl) ?_
      refine lv_iload hx hb dL_law_247 (lv_at hl 9 rfl) ?_
      refine lv_iload hx hb dL_law_249 (lv_at hl 11 rfl) ?_
      refine lv_bipush (v := nI 7) hx hb dL_law_251 (by decide) ?_
      refine z_iand (v := nI (lo3 wh)) hx hb dL_law_253 (an3 _) ?_
      refine z_iadd (v := nI (md21 aa + (lo3 wh))) hx hb dL_law_254 (nI_add _ _) ?_
      refine z_igt (a := i) (b := md21 aa + (lo3 wh)) (tgt := 308) hx hb dL_law_255 (by decide) (by omega) (by omega) (fun c2 => ?_) (fun c2 => ?_)
      · refine lv_goto (tgt := 609) hx hb dL_law_308 (by decide) ?_
        exact kk H (hW.congr (fun _ _ _ _ => rfl) (fun x y h1 _ => zfo_e B _ _ _ _ _ hiw (Or.inr (by omega)) x y h1)) ls (lv_sub hl [0, 1, 2, 3, 4, 5, 6, 7, 8] rfl)
      · refine lv_iload hx hb dL_law_258 (lv_at hl 10 rfl) ?_
        refine lv_istore (lv' := [(14, .int (nI (md21 bb))), (0, .ref sb), (1, .ref o), (2, .ref sg), (3, .ref fa), (4, .int (nI (6 * r))), (5, .int xx), (6, .int aa), (7, .int bb), (8, .int vv), (9, .int (nI (md21 aa))), (10, .int (nI (md21 bb))), (11, .int wh), (12, .int hh), (13, .int (nI i))]) hx hb dL_law_260 hl (by decide) rfl (fun ls hl => ?_)
        refine lL_fill1 (i := i) C hR (by omega) hi0 hH0 (fun H1 hW1 ls hl => ?_) 22 (md21 bb) (Nat.le_refl _) (by omega) (by omega) (by omega) H (hW.congr (fun _ _ _ _ => rfl) (fun x y _ _ => zfi_0 B _ _ _ _ _ x y)) ls (lv_sub hl [1, 2, 3, 4, 5, 6, 7, 8, 9, 10, 11, 12, 13, 14, 0] rfl)
        refine lv_iinc (v := nI (i + 1)) (lv' := [(13, .int (nI (i + 1))), (0, .ref sb), (1, .ref o), (2, .ref sg), (3, .ref fa), (4, .int (nI (6 * r))), (5, .int xx), (6, .int aa), (7, .int bb), (8, .int vv), (9, .int (nI (md21 aa))), (10, .int (nI (md21 bb))), (11, .int wh), (12, .int hh)]) hx hb dL_law_302 hl (k := 13) rfl (z_inc _) (by decide) rfl (fun ls hl => ?_)
        refine lv_goto (tgt := 238) hx hb dL_law_305 (by decide) ?_
        exact ih (i + 1) (by omega) (by omega) (by omega) (by omega) H1 hW1 ls (lv_sub hl [1, 2, 3, 4, 5, 6, 7, 8, 9, 10, 11, 12, 13, 0] rfl)
set_option maxHeartbeats 4000000 in
theorem lL_mask {r : Nat} {Bd : Nat → Nat → Bool} {xx aa bb vv : Int32} (C : zC p m c code 16 s args RX0 D k) (hR : zR R 10 344 cells slots) (hH0 : s.heap = H0)
    (kk : ∀ H : Heap, zLw D k H0 o bm g sg fa cI Bd (zmx B (lo3 (xx >>> (nI 2 &&& 31)))) H → ∀ ls : Array Slot, lv_has ls 16 [(0, .ref sb), (1, .ref o), (2, .ref sg), (3, .ref fa), (4, .int (nI (6 * r))), (5, .int xx), (6, .int aa), (7, .int bb), (8, .int vv)] → W p l e R s m args below meth c H [] cells slots Q (F0 m 609 ls [])) :
    ∀ (n i : Nat), i ≤ 441 → 442 ≤ i + n → ∀ H : Heap, zLw D k H0 o bm g sg fa cI Bd (zmi B (lo3 (xx >>> (nI 2 &&& 31))) (i / 21) (i % 21)) H → ∀ ls : Array Slot, lv_has ls 16 [(0, .ref sb), (1, .ref o), (2, .ref sg), (3, .ref fa), (4, .int (nI (6 * r))), (5, .int xx), (6, .int aa), (7, .int bb), (8, .int vv), (9, .int (nI (md21 aa))), (10, .int (nI (md21 bb))), (11, .int (nI i))] → W p l e R s m args below meth c H [] cells slots Q (F0 m 330 ls []) := by
  subst hH0
  obtain ⟨hx, hb, hml, hown, hts⟩ := C.1
  have hown : s.vm.findClass RX0 = some m.cls := hown
  have hK := C.2
  intro n
  induction n with
  | zero =>
    intro i h1 hcl
    exact absurd hcl (by omega)
  | succ n ih =>
    intro i hi hin H hW ls hl
    obtain ⟨hD, hG, hI, hO, hw1, hw2, hw3, hw4, hw5, hw6⟩ := id hW
    have hw7 := hD.2.1.2.2
    have hw8 := hD.2.2
    refine lv_iload hx hb dL_law_330 (lv_at hl 11 rfl) ?_
    refine lv_sipush (v := nI 441) hx hb dL_law_332 (by decide) ?_
    refine z_ige (a := i) (b := 441) (tgt := 385) hx hb dL_law_335 (by decide) (by omega) (by decide) (fun c1 => ?_) (fun c1 => ?_)
    · have ej : i = 441 := by omega
      subst ej
      refine lv_goto (tgt := 609) hx hb dL_law_385 (by decide) ?_
      exact kk H (hW.congr (fun _ _ _ _ => rfl) (fun x y h1 _ => zmi_f B _ x y h1)) ls (lv_sub hl [0, 1, 2, 3, 4, 5, 6, 7, 8] rfl)
    · refine lv_aload_n hx hb dL_law_338 rfl (lv_at hl 2 rfl) ?_
      refine lv_iload hx hb dL_law_339 (lv_at hl 11 rfl) ?_
      refine lv_bipush (v := nI 21) hx hb dL_law_341 (by decide) ?_
      refine z_idiv (v := nI (i / 21)) hx hb dL_law_343 (by decide) (pk_div (by omega) (by decide) (by decide)) ?_
      refine zg_row (i := i / 21) hx hb (hK.2 2 _ rfl).1 hG (by omega) dL_law_344 ?_
      refine lv_iload hx hb dL_law_345 (lv_at hl 11 rfl) ?_
      refine lv_bipush (v := nI 21) hx hb dL_law_347 (by decide) ?_
      refine z_irem (v := nI (i % 21)) hx hb dL_law_349 (by decide) (pk_rem (by omega) (by decide) (by decide)) ?_
      refine lv_dup2_11 hx hb dL_law_350 rfl rfl ?_
      refine zg_ild (j := i % 21) hx hb (hK.2 3 _ rfl).1 hG (by omega) (by omega) dL_law_351 ?_
      refine lv_iload hx hb dL_law_352 (lv_at hl 5 rfl) ?_
      refine lv_iconst (v := nI 2) hx hb dL_law_354 (by decide) ?_
      refine z_ishr (v := (xx >>> (nI 2 &&& 31))) hx hb dL_law_355 rfl ?_
      refine lv_iload hx hb dL_law_356 (lv_at hl 11 rfl) ?_
      refine lv_bipush (v := nI 21) hx hb dL_law_358 (by decide) ?_
      refine z_idiv (v := nI (i / 21)) hx hb dL_law_360 (by decide) (pk_div (by omega) (by decide) (by decide)) ?_
      refine lv_iload hx hb dL_law_361 (lv_at hl 11 rfl) ?_
      refine lv_bipush (v := nI 21) hx hb dL_law_363 (by decide) ?_
      refine z_irem (v := nI (i % 21)) hx hb dL_law_365 (by decide) (pk_rem (by omega) (by decide) (by decide)) ?_
      refine zcallS (n := 3) (av := [.int (xx >>> (nI 2 &&& 31)), .int (nI (i / 21)), .int (nI (i % 21))]) (rest := [.int (nI ((zmi B (lo3 (xx >>> (nI 2 &&& 31))) (i / 21) (i % 21)) (i / 21) (i % 21)).toNat), .int (nI (i % 21)), .ref (sg + 1 + (i / 21))]) (v := some (.int (nI (zmb (lo3 (xx >>> (nI 2 &&& 31))) (i / 21) (i % 21)).toNat))) C (mX0_turns l D k (xx >>> (nI 2 &&& 31)) (i / 21) (i % 21) (by omega) (by omega)) q141 q142 q1 q143 (by decide +kernel) hR (by decide) rfl hl.1 rfl (Nat.le_of_ble_eq_true rfl) trivial dL_law_366 ?_
      suffices hj4 : W p l e R s m args below meth c H [] cells slots Q (F0 m 377 ls [.int (nI (zmb (lo3 (xx >>> (nI 2 &&& 31))) (i / 21) (i % 21)).toNat), .int (nI ((zmi B (lo3 (xx >>> (nI 2 &&& 31))) (i / 21) (i % 21)) (i / 21) (i % 21)).toNat), .int (nI (i % 21)), .ref (sg + 1 + (i / 21))]) by
        refine z_beq0 (tgt := 376) hx hb dL_law_369 (by decide) (fun c5 => ?_) (fun c5 => ?_)
        · refine lv_iconst (v := nI 0) hx hb dL_law_376 (by decide) ?_
          exact zt (z_0 (b := zmb (lo3 (xx >>> (nI 2 &&& 31))) (i / 21) (i % 21)) c5) hj4
        · refine lv_iconst (v := nI 1) hx hb dL_law_372 (by decide) ?_
          refine lv_goto (tgt := 377) hx hb dL_law_373 (by decide) ?_
          exact zt (z_1 (b := zmb (lo3 (xx >>> (nI 2 &&& 31))) (i / 21) (i % 21)) c5) hj4
      refine z_ixor (v := nI (B (i / 21) (i % 21) ^^ zmb (lo3 (xx >>> (nI 2 &&& 31))) (i / 21) (i % 21)).toNat) hx hb dL_law_377 (by rw [zmi_at]; exact z_xor _ _) ?_
      refine zg_ist (i := i / 21) (j := i % 21) (v := B (i / 21) (i % 21) ^^ zmb (lo3 (xx >>> (nI 2 &&& 31))) (i / 21) (i % 21)) hx hb (hK.2 3 _ rfl).1 hG (by omega) (by omega) dL_law_378 (fun H1 locs1 hF1 hz1 ho1 hL1 => ?_)
      refine va_forget (fun q hq => (hL1 q hq).elim (fun h => by cases h) (fun h => by rw [h]; omega)) ?_
      replace hW := hW.sheet hF1 hz1 (by omega) ho1
      clear hF1 hz1 ho1 hL1
      obtain ⟨hD, hG, hI, hO, hw1, hw2, hw3, hw4, hw5, hw6⟩ := id hW
      have hw7 := hD.2.1.2.2
      have hw8 := hD.2.2
      refine lv_iinc (v := nI (i + 1)) (lv' := [(11, .int (nI (i + 1))), (0, .ref sb), (1, .ref o), (2, .ref sg), (3, .ref fa), (4, .int (nI (6 * r))), (5, .int xx), (6, .int aa), (7, .int bb), (8, .int vv), (9, .int (nI (md21 aa))), (10, .int (nI (md21 bb)))]) hx hb dL_law_379 hl (k := 11) rfl (z_inc _) (by decide) rfl (fun ls hl => ?_)
      refine lv_goto (tgt := 330) hx hb dL_law_382 (by decide) ?_
      exact ih (i + 1) (by omega) (by omega) H1 (hW.congr (fun _ _ _ _ => rfl) (fun x y _ h2 => (zmi_x B x y).trans (zmi_k B x y h2))) ls (lv_sub hl [1, 2, 3, 4, 5, 6, 7, 8, 9, 10, 11, 0] rfl)
set_option maxHeartbeats 4000000 in
theorem lL_bits {r : Nat} {xx aa bb vv tt ff : Int32} (C : zC p m c code 16 s args RX0 D k) (hR : zR R 10 344 cells slots) (hH0 : s.heap = H0)
    (kk : ∀ (B : Nat → Nat → Bool) (H : Heap), zLw D k H0 o bm g sg fa cI B B H → ∀ ls : Array Slot, lv_has ls 16 [(0, .ref sb), (1, .ref o), (2, .ref sg), (3, .ref fa), (4, .int (nI (6 * r))), (5, .int xx), (6, .int aa), (7, .int bb), (8, .int vv), (9, .int (nI (md21 aa))), (10, .int (nI (md21 bb))), (11, .int tt), (12, .int ff)] → W p l e R s m args below meth c H [] cells slots Q (F0 m 497 ls [])) :
    ∀ (n i : Nat), i ≤ 32 → 33 ≤ i + n → ∀ (B : Nat → Nat → Bool) (H : Heap), zLw D k H0 o bm g sg fa cI B B H → ∀ ls : Array Slot, lv_has ls 16 [(0, .ref sb), (1, .ref o), (2, .ref sg), (3, .ref fa), (4, .int (nI (6 * r))), (5, .int xx), (6, .int aa), (7, .int bb), (8, .int vv), (9, .int (nI (md21 aa))), (10, .int (nI (md21 bb))), (11, .int tt), (12, .int ff), (13, .int (nI i))] → W p l e R s m args below meth c H [] cells slots Q (F0 m 427 ls []) := by
  subst hH0
  obtain ⟨hx, hb, hml, hown, hts⟩ := C.1
  have hown : s.vm.findClass RX0 = some m.cls := hown
  have hK := C.2
  intro n
  induction n with
  | zero =>
    intro i h1 hcl
    exact absurd hcl (by omega)
  | succ n ih =>
    intro i hi hin B H hW ls hl
    obtain ⟨hD, hG, hI, hO, hw1, hw2, hw3, hw4, hw5, hw6⟩ := id hW
    have hw7 := hD.2.1.2.2
    have hw8 := hD.2.2
    refine lv_iload hx hb dL_law_427 (lv_at hl 13 rfl) ?_
    refine lv_bipush (v := nI 32) hx hb dL_law_429 (by decide) ?_
    refine z_ige (a := i) (b := 32) (tgt := 497) hx hb dL_law_431 (by decide) (by omega) (by decide) (fun c1 => ?_) (fun c1 => ?_)
    · exact kk B H hW ls (lv_sub hl [0, 1, 2, 3, 4, 5, 6, 7, 8, 9, 10, 11, 12] rfl)
    · refine lv_iload hx hb dL_law_434 (lv_at hl 13 rfl) ?_
      refine lv_bipush (v := nI 29) hx hb dL_law_436 (by decide) ?_
      refine z_imul (v := nI (i * 29)) hx hb dL_law_438 (pk_mul _ _) ?_
      refine lv_iload hx hb dL_law_439 (lv_at hl 11 rfl) ?_
      refine lv_iconst (v := nI 5) hx hb dL_law_441 (by decide) ?_
      refine z_ishr (v := (tt >>> (nI 5 &&& 31))) hx hb dL_law_442 rfl ?_
      refine z_iadd (v := (nI (i * 29) + tt >>> (nI 5 &&& 31))) hx hb dL_law_443 rfl ?_
      refine lv_sipush (v := nI 441) hx hb dL_law_444 (by decide) ?_
      have hpp : (lo31 (nI (i * 29) + tt >>> (nI 5 &&& 31)) % 441) < 441 := Nat.mod_lt _ (by decide)
      refine zcallS (n := 2) (av := [.int (nI (i * 29) + tt >>> (nI 5 &&& 31)), .int (nI 441)]) (rest := []) (v := some (.int (nI (lo31 (nI (i * 29) + tt >>> (nI 5 &&& 31)) % 441)))) C (mX0_mod l D k (nI (i * 29) + tt >>> (nI 5 &&& 31)) 441 (by decide) (by decide)) q137 q138 q1 q139 (by decide +kernel) hR (by decide) rfl hl.1 rfl (Nat.le_of_ble_eq_true rfl) trivial dL_law_447 ?_
      generalize (lo31 (nI (i * 29) + tt >>> (nI 5 &&& 31)) % 441) = pp at hpp ⊢
      refine lv_istore (lv' := [(14, .int (nI pp)), (0, .ref sb), (1, .ref o), (2, .ref sg), (3, .ref fa), (4, .int (nI (6 * r))), (5, .int xx), (6, .int aa), (7, .int bb), (8, .int vv), (9, .int (nI (md21 aa))), (10, .int (nI (md21 bb))), (11, .int tt), (12, .int ff), (13, .int (nI i))]) hx hb dL_law_450 hl (by decide) rfl (fun ls hl => ?_)
      refine lv_aload_n hx hb dL_law_452 rfl (lv_at hl 2 rfl) ?_
      refine lv_iload hx hb dL_law_453 (lv_at hl 0 rfl) ?_
      refine lv_bipush (v := nI 21) hx hb dL_law_455 (by decide) ?_
      refine z_idiv (v := nI (pp / 21)) hx hb dL_law_457 (by decide) (pk_div (by omega) (by decide) (by decide)) ?_
      refine lv_iload hx hb dL_law_458 (lv_at hl 0 rfl) ?_
      refine lv_bipush (v := nI 21) hx hb dL_law_460 (by decide) ?_
      refine z_irem (v := nI (pp % 21)) hx hb dL_law_462 (by decide) (pk_rem (by omega) (by decide) (by decide)) ?_
      refine lv_iload hx hb dL_law_463 (lv_at hl 12 rfl) ?_
      refine lv_iload hx hb dL_law_465 (lv_at hl 14 rfl) ?_
      refine z_ishr (v := (tt >>> (nI i &&& 31))) hx hb dL_law_467 rfl ?_
      refine zcallVw (n := 3) (b := o) (av := [.int (nI (pp / 21)), .int (nI (pp % 21)), .int (tt >>> (nI i &&& 31))]) (rest := []) C (mX1_set l D k o bm g B (nI (pp / 21)) (nI (pp % 21)) (tt >>> (nI i &&& 31))) q41 q42 q43 q2 q44 (by decide +kernel) hR (by decide) rfl hl.1 rfl (Nat.le_of_ble_eq_true rfl) (hD.recv hK) hD dL_law_468 (fun H1 locs1 hF1 hz1 ho1 hL1 => ?_)
      refine va_forget (fun q hq => (hL1 q hq).elim (fun h => by cases h) (fun h => by have h9 := h.1; omega)) ?_
      replace hW := hW.desk hF1 hz1 ho1
      clear hF1 hz1 ho1 hL1
      obtain ⟨hD, hG, hI, hO, hw1, hw2, hw3, hw4, hw5, hw6⟩ := id hW
      have hw7 := hD.2.1.2.2
      have hw8 := hD.2.2
      refine lv_aload_n hx hb dL_law_471 rfl (lv_at hl 3 rfl) ?_
      refine lv_iload hx hb dL_law_472 (lv_at hl 0 rfl) ?_
      refine lv_bipush (v := nI 21) hx hb dL_law_474 (by decide) ?_
      refine z_idiv (v := nI (pp / 21)) hx hb dL_law_476 (by decide) (pk_div (by omega) (by decide) (by decide)) ?_
      refine zg_row (i := pp / 21) hx hb (hK.2 2 _ rfl).1 hG (by omega) dL_law_477 ?_
      refine lv_iload hx hb dL_law_478 (lv_at hl 0 rfl) ?_
      refine lv_bipush (v := nI 21) hx hb dL_law_480 (by decide) ?_
      refine z_irem (v := nI (pp % 21)) hx hb dL_law_482 (by decide) (pk_rem (by omega) (by decide) (by decide)) ?_
      refine lv_iload hx hb dL_law_483 (lv_at hl 12 rfl) ?_
      refine lv_iload hx hb dL_law_485 (lv_at hl 14 rfl) ?_
      refine z_ishr (v := (tt >>> (nI i &&& 31))) hx hb dL_law_487 rfl ?_
      refine lv_iconst (v := nI 1) hx hb dL_law_488 (by decide) ?_
      refine z_iand (v := nI (lo1 (tt >>> (nI i &&& 31))).toNat) hx hb dL_law_489 (an1 _) ?_
      refine zg_ist (i := pp / 21) (j := pp % 21) (v := lo1 (tt >>> (nI i &&& 31))) hx hb (hK.2 3 _ rfl).1 hG (by omega) (by omega) dL_law_490 (fun H2 locs1 hF1 hz1 ho1 hL1 => ?_)
      refine va_forget (fun q hq => (hL1 q hq).elim (fun h => by cases h) (fun h => by rw [h]; omega)) ?_
      replace hW := hW.sheet hF1 hz1 (by omega) ho1
      clear hF1 hz1 ho1 hL1
      obtain ⟨hD, hG, hI, hO, hw1, hw2, hw3, hw4, hw5, hw6⟩ := id hW
      have hw7 := hD.2.1.2.2
      have hw8 := hD.2.2
      rw [md21_nI (by omega), md21_nI (by omega)] at hW
      refine lv_iinc (v := nI (i + 1)) (lv' := [(13, .int (nI (i + 1))), (14, .int (nI pp)), (0, .ref sb), (1, .ref o), (2, .ref sg), (3, .ref fa), (4, .int (nI (6 * r))), (5, .int xx), (6, .int aa), (7, .int bb), (8, .int vv), (9, .int (nI (md21 aa))), (10, .int (nI (md21 bb))), (11, .int tt), (12, .int ff)]) hx hb dL_law_491 hl (k := 14) rfl (z_inc _) (by decide) rfl (fun ls hl => ?_)
      refine lv_goto (tgt := 427) hx hb dL_law_494 (by decide) ?_
      exact ih (i + 1) (by omega) (by omega) _ H2 hW ls (lv_sub hl [2, 3, 4, 5, 6, 7, 8, 9, 10, 11, 12, 13, 14, 0] rfl)
set_option maxHeartbeats 4000000 in
theorem lL_find {r : Nat} {xx aa bb vv tt : Int32} {ff : Int} (C : zC p m c code 16 s args RX0 D k) (hR : zR R 10 344 cells slots) (hA : ArrOfT s cI .int) (hf : -6 ≤ ff ∧ ff ≤ 20) (hH0 : s.heap = H0)
    (kk : ∀ (B : Nat → Nat → Bool) (H : Heap), zLw D k H0 o bm g sg fa cI B B H → ∀ ls : Array Slot, lv_has ls 16 [(0, .ref sb), (1, .ref o), (2, .ref sg), (3, .ref fa), (4, .int (nI (6 * r))), (5, .int xx), (6, .int aa), (7, .int bb), (8, .int vv)] → W p l e R s m args below meth c H [] cells slots Q (F0 m 609 ls [])) :
    ∀ (n i : Nat), i ≤ 15 → 16 ≤ i + n → ∀ (B : Nat → Nat → Bool) (H : Heap), zLw D k H0 o bm g sg fa cI B B H → ∀ ls : Array Slot, lv_has ls 16 [(0, .ref sb), (1, .ref o), (2, .ref sg), (3, .ref fa), (4, .int (nI (6 * r))), (5, .int xx), (6, .int aa), (7, .int bb), (8, .int vv), (9, .int (nI (md21 aa))), (10, .int (nI (md21 bb))), (11, .int tt), (12, .int (iz ff)), (13, .int (nI i))] → W p l e R s m args below meth c H [] cells slots Q (F0 m 500 ls []) := by
  subst hH0
  obtain ⟨hx, hb, hml, hown, hts⟩ := C.1
  have hown : s.vm.findClass RX0 = some m.cls := hown
  have hK := C.2
  have hma := md21_lt aa
  have hmb := md21_lt bb
  intro n
  induction n with
  | zero =>
    intro i h1 hcl
    exact absurd hcl (by omega)
  | succ n ih =>
    intro i hi hin B H hW ls hl
    obtain ⟨hD, hG, hI, hO, hw1, hw2, hw3, hw4, hw5, hw6⟩ := id hW
    have hw7 := hD.2.1.2.2
    have hw8 := hD.2.2
    refine lv_iload hx hb dL_law_500 (lv_at hl 13 rfl) ?_
    refine lv_bipush (v := nI 15) hx hb dL_law_502 (by decide) ?_
    refine z_ige (a := i) (b := 15) (tgt := 609) hx hb dL_law_504 (by decide) (by omega) (by decide) (fun c1 => ?_) (fun c1 => ?_)
    · exact kk B H hW ls (lv_sub hl [0, 1, 2, 3, 4, 5, 6, 7, 8] rfl)
    · have k603 : ∀ (B : Nat → Nat → Bool) (H : Heap), zLw D k s.heap o bm g sg fa cI B B H → ∀ ls : Array Slot, lv_has ls 16 [(0, .ref sb), (1, .ref o), (2, .ref sg), (3, .ref fa), (4, .int (nI (6 * r))), (5, .int xx), (6, .int aa), (7, .int bb), (8, .int vv), (9, .int (nI (md21 aa))), (10, .int (nI (md21 bb))), (11, .int tt), (12, .int (iz ff)), (13, .int (nI i))] → W p l e R s m args below meth c H [] cells slots Q (F0 m 603 ls []) := by
        intro B H hW ls hl
        refine lv_iinc (v := nI (i + 1)) (lv' := [(13, .int (nI (i + 1))), (0, .ref sb), (1, .ref o), (2, .ref sg), (3, .ref fa), (4, .int (nI (6 * r))), (5, .int xx), (6, .int aa), (7, .int bb), (8, .int vv), (9, .int (nI (md21 aa))), (10, .int (nI (md21 bb))), (11, .int tt), (12, .int (iz ff))]) hx hb dL_law_603 hl (k := 13) rfl (z_inc _) (by decide) rfl (fun ls hl => ?_)
        refine lv_goto (tgt := 500) hx hb dL_law_606 (by decide) ?_
        exact ih (i + 1) (by omega) (by omega) B H hW ls (lv_sub hl [1, 2, 3, 4, 5, 6, 7, 8, 9, 10, 11, 12, 13, 0] rfl)
      refine lv_iload hx hb dL_law_507 (lv_at hl 12 rfl) ?_
      refine lv_iload hx hb dL_law_509 (lv_at hl 13 rfl) ?_
      refine z_iadd (v := (iz (ff + (i : Int)))) hx hb dL_law_511 (by rw [iz_nat]; exact iz_add _ _) ?_
      refine lv_istore (lv' := [(14, .int (iz (ff + (i : Int)))), (0, .ref sb), (1, .ref o), (2, .ref sg), (3, .ref fa), (4, .int (nI (6 * r))), (5, .int xx), (6, .int aa), (7, .int bb), (8, .int vv), (9, .int (nI (md21 aa))), (10, .int (nI (md21 bb))), (11, .int tt), (12, .int (iz ff)), (13, .int (nI i))]) hx hb dL_law_512 hl (by decide) rfl (fun ls hl => ?_)
      refine lv_iload hx hb dL_law_514 (lv_at hl 0 rfl) ?_
      refine z_jlt0 (a := (ff + (i : Int))) (tgt := 603) hx hb dL_law_516 (by decide) (by omega) (fun c2 => ?_) (fun c2 => ?_)
      · exact k603 B H hW ls (lv_sub hl [1, 2, 3, 4, 5, 6, 7, 8, 9, 10, 11, 12, 13, 14] rfl)
      · have e14 : iz (ff + (i : Int)) = nI (ff + (i : Int)).toNat := iz_at c2
        rw [e14] at hl
        have hpn : (ff + (i : Int)).toNat ≤ 40 := by omega
        generalize (ff + (i : Int)).toNat = pn at hpn hl
        refine lv_iload hx hb dL_law_519 (lv_at hl 0 rfl) ?_
        refine lv_bipush (v := nI 21) hx hb dL_law_521 (by decide) ?_
        refine z_ige (a := pn) (b := 21) (tgt := 603) hx hb dL_law_523 (by decide) (by omega) (by decide) (fun c3 => ?_) (fun c3 => ?_)
        · exact k603 B H hW ls (lv_sub hl [1, 2, 3, 4, 5, 6, 7, 8, 9, 10, 11, 12, 13, 14] rfl)
        · refine lv_iload hx hb dL_law_526 (lv_at hl 6 rfl) ?_
          refine lv_iconst (v := nI 4) hx hb dL_law_528 (by decide) ?_
          refine z_iand (v := (xx &&& nI 4)) hx hb dL_law_529 rfl ?_
          refine lv_if_ne (tgt := 537) hx hb dL_law_530 (by decide) (fun c4 => ?_) (fun c4 => ?_)
          · refine lv_iconst (v := nI (false).toNat) hx hb dL_law_537 (by decide) ?_
            refine lv_istore (lv' := [(15, .int (nI false.toNat)), (14, .int (nI pn)), (0, .ref sb), (1, .ref o), (2, .ref sg), (3, .ref fa), (4, .int (nI (6 * r))), (5, .int xx), (6, .int aa), (7, .int bb), (8, .int vv), (9, .int (nI (md21 aa))), (10, .int (nI (md21 bb))), (11, .int tt), (12, .int (iz ff)), (13, .int (nI i))]) hx hb dL_law_538 hl (by decide) rfl (fun ls hl => ?_)
            refine lv_aload_n hx hb dL_law_540 rfl (lv_at hl 3 rfl) ?_
            refine lv_iload hx hb dL_law_541 (lv_at hl 0 rfl) ?_
            refine z_beq0 (tgt := 551) hx hb dL_law_543 (by decide) (fun c6 => ?_) (fun c => absurd c (by decide))
            refine lv_iload hx hb dL_law_551 (lv_at hl 11 rfl) ?_
            refine lv_iload hx hb dL_law_553 (lv_at hl 0 rfl) ?_
            refine z_beq0 (tgt := 563) hx hb dL_law_555 (by decide) (fun c7 => ?_) (fun c => absurd c (by decide))
            refine lv_iload hx hb dL_law_563 (lv_at hl 1 rfl) ?_
            refine lv_aload_n hx hb dL_law_565 rfl (lv_at hl 5 rfl) ?_
            refine lv_iload hx hb dL_law_566 (lv_at hl 15 rfl) ?_
            refine zi_ld (j := i) hx hb hA hI (by omega) (by decide) dL_law_568 ?_
            refine zcallVw (n := 3) (b := o) (av := [.int (nI (md21 aa)), .int (nI pn), .int (nI (zfin i).toNat)]) (rest := []) C (mX1_set l D k o bm g B (nI (md21 aa)) (nI pn) (nI (zfin i).toNat)) q41 q42 q43 q2 q44 (by decide +kernel) hR (by decide) rfl hl.1 rfl (Nat.le_of_ble_eq_true rfl) (hD.recv hK) hD dL_law_569 (fun H1 locs1 hF1 hz1 ho1 hL1 => ?_)
            refine va_forget (fun q hq => (hL1 q hq).elim (fun h => by cases h) (fun h => by have h9 := h.1; omega)) ?_
            replace hW := hW.desk hF1 hz1 ho1
            clear hF1 hz1 ho1 hL1
            obtain ⟨hD, hG, hI, hO, hw1, hw2, hw3, hw4, hw5, hw6⟩ := id hW
            have hw7 := hD.2.1.2.2
            have hw8 := hD.2.2
            refine lv_aload_n hx hb dL_law_572 rfl (lv_at hl 4 rfl) ?_
            refine lv_iload hx hb dL_law_573 (lv_at hl 0 rfl) ?_
            refine z_beq0 (tgt := 583) hx hb dL_law_575 (by decide) (fun c8 => ?_) (fun c => absurd c (by decide))
            refine lv_iload hx hb dL_law_583 (lv_at hl 11 rfl) ?_
            refine zg_row (i := md21 aa) hx hb (hK.2 2 _ rfl).1 hG (by omega) dL_law_585 ?_
            refine lv_iload hx hb dL_law_586 (lv_at hl 0 rfl) ?_
            refine z_beq0 (tgt := 596) hx hb dL_law_588 (by decide) (fun c9 => ?_) (fun c => absurd c (by decide))
            refine lv_iload hx hb dL_law_596 (lv_at hl 1 rfl) ?_
            refine lv_aload_n hx hb dL_law_598 rfl (lv_at hl 5 rfl) ?_
            refine lv_iload hx hb dL_law_599 (lv_at hl 15 rfl) ?_
            refine zi_ld (j := i) hx hb hA hI (by omega) (by decide) dL_law_601 ?_
            refine zg_ist (i := md21 aa) (j := pn) (v := zfin i) hx hb (hK.2 3 _ rfl).1 hG (by omega) (by omega) dL_law_602 (fun H2 locs1 hF1 hz1 ho1 hL1 => ?_)
            refine va_forget (fun q hq => (hL1 q hq).elim (fun h => by cases h) (fun h => by rw [h]; omega)) ?_
            replace hW := hW.sheet hF1 hz1 (by omega) ho1
            clear hF1 hz1 ho1 hL1
            obtain ⟨hD, hG, hI, hO, hw1, hw2, hw3, hw4, hw5, hw6⟩ := id hW
            have hw7 := hD.2.1.2.2
            have hw8 := hD.2.2
            rw [md21_nI (by omega), md21_nI (by omega), lo1_nI] at hW
            exact k603 _ H2 hW ls (lv_sub hl [2, 3, 4, 5, 6, 7, 8, 9, 10, 11, 12, 13, 14, 15] rfl)
          · refine lv_iconst (v := nI (true).toNat) hx hb dL_law_533 (by decide) ?_
            refine lv_goto (tgt := 538) hx hb dL_law_534 (by decide) ?_
            refine lv_istore (lv' := [(15, .int (nI true.toNat)), (14, .int (nI pn)), (0, .ref sb), (1, .ref o), (2, .ref sg), (3, .ref fa), (4, .int (nI (6 * r))), (5, .int xx), (6, .int aa), (7, .int bb), (8, .int vv), (9, .int (nI (md21 aa))), (10, .int (nI (md21 bb))), (11, .int tt), (12, .int (iz ff)), (13, .int (nI i))]) hx hb dL_law_538 hl (by decide) rfl (fun ls hl => ?_)
            refine lv_aload_n hx hb dL_law_540 rfl (lv_at hl 3 rfl) ?_
            refine lv_iload hx hb dL_law_541 (lv_at hl 0 rfl) ?_
            refine z_beq0 (tgt := 551) hx hb dL_law_543 (by decide) (fun c => absurd c (by decide)) (fun c10 => ?_)
            refine lv_iload hx hb dL_law_546 (lv_at hl 1 rfl) ?_
            refine lv_goto (tgt := 553) hx hb dL_law_548 (by decide) ?_
            refine lv_iload hx hb dL_law_553 (lv_at hl 0 rfl) ?_
            refine z_beq0 (tgt := 563) hx hb dL_law_555 (by decide) (fun c => absurd c (by decide)) (fun c11 => ?_)
            refine lv_iload hx hb dL_law_558 (lv_at hl 12 rfl) ?_
            refine lv_goto (tgt := 565) hx hb dL_law_560 (by decide) ?_
            refine lv_aload_n hx hb dL_law_565 rfl (lv_at hl 5 rfl) ?_
            refine lv_iload hx hb dL_law_566 (lv_at hl 15 rfl) ?_
            refine zi_ld (j := i) hx hb hA hI (by omega) (by decide) dL_law_568 ?_
            refine zcallVw (n := 3) (b := o) (av := [.int (nI pn), .int (nI (md21 bb)), .int (nI (zfin i).toNat)]) (rest := []) C (mX1_set l D k o bm g B (nI pn) (nI (md21 bb)) (nI (zfin i).toNat)) q41 q42 q43 q2 q44 (by decide +kernel) hR (by decide) rfl hl.1 rfl (Nat.le_of_ble_eq_true rfl) (hD.recv hK) hD dL_law_569 (fun H1 locs1 hF1 hz1 ho1 hL1 => ?_)
            refine va_forget (fun q hq => (hL1 q hq).elim (fun h => by cases h) (fun h => by have h9 := h.1; omega)) ?_
            replace hW := hW.desk hF1 hz1 ho1
            clear hF1 hz1 ho1 hL1
            obtain ⟨hD, hG, hI, hO, hw1, hw2, hw3, hw4, hw5, hw6⟩ := id hW
            have hw7 := hD.2.1.2.2
            have hw8 := hD.2.2
            refine lv_aload_n hx hb dL_law_572 rfl (lv_at hl 4 rfl) ?_
            refine lv_iload hx hb dL_law_573 (lv_at hl 0 rfl) ?_
            refine z_beq0 (tgt := 583) hx hb dL_law_575 (by decide) (fun c => absurd c (by decide)) (fun c12 => ?_)
            refine lv_iload hx hb dL_law_578 (lv_at hl 1 rfl) ?_
            refine lv_goto (tgt := 585) hx hb dL_law_580 (by decide) ?_
            refine zg_row (i := pn) hx hb (hK.2 2 _ rfl).1 hG (by omega) dL_law_585 ?_
            refine lv_iload hx hb dL_law_586 (lv_at hl 0 rfl) ?_
            refine z_beq0 (tgt := 596) hx hb dL_law_588 (by decide) (fun c => absurd c (by decide)) (fun c13 => ?_)
            refine lv_iload hx hb dL_law_591 (lv_at hl 12 rfl) ?_
            refine lv_goto (tgt := 598) hx hb dL_law_593 (by decide) ?_
            refine lv_aload_n hx hb dL_law_598 rfl (lv_at hl 5 rfl) ?_
            refine lv_iload hx hb dL_law_599 (lv_at hl 15 rfl) ?_
            refine zi_ld (j := i) hx hb hA hI (by omega) (by decide) dL_law_601 ?_
            refine zg_ist (i := pn) (j := md21 bb) (v := zfin i) hx hb (hK.2 3 _ rfl).1 hG (by omega) (by omega) dL_law_602 (fun H2 locs1 hF1 hz1 ho1 hL1 => ?_)
            refine va_forget (fun q hq => (hL1 q hq).elim (fun h => by cases h) (fun h => by rw [h]; omega)) ?_
            replace hW := hW.sheet hF1 hz1 (by omega) ho1
            clear hF1 hz1 ho1 hL1
            obtain ⟨hD, hG, hI, hO, hw1, hw2, hw3, hw4, hw5, hw6⟩ := id hW
            have hw7 := hD.2.1.2.2
            have hw8 := hD.2.2
            rw [md21_nI (by omega), md21_nI (by omega), lo1_nI] at hW
            exact k603 _ H2 hW ls (lv_sub hl [2, 3, 4, 5, 6, 7, 8, 9, 10, 11, 12, 13, 14, 15] rfl)
set_option maxHeartbeats 4000000 in
theorem lL_round {r : Nat} (C : zC p m c code 16 s args RX0 D k) (hR : zR R 10 344 cells slots) (hX : va_X sb L xs s s.heap) (hsb : sb < s.heap.size) (hL : L ≤ 96) (hA : ArrOfT s cI .int) (hH0 : s.heap = H0) (hr16 : r ≤ 16) (hW : zLw D k H0 o bm g sg fa cI B B H)
    (ke : r = 16 → ∀ ls : Array Slot, ls.size = 16 → W p l e R s m args below meth c H [] cells slots Q (F0 m 655 ls []))
    (kk : ∀ (xx aa bb vv : Int32) (B : Nat → Nat → Bool) (H : Heap), r < 16 → zLw D k H0 o bm g sg fa cI B B H → ∀ ls : Array Slot, lv_has ls 16 [(0, .ref sb), (1, .ref o), (2, .ref sg), (3, .ref fa), (4, .int (nI (6 * r))), (5, .int xx), (6, .int aa), (7, .int bb), (8, .int vv)] → W p l e R s m args below meth c H [] cells slots Q (F0 m 609 ls [])) {ls : Array Slot} (hl : lv_has ls 16 [(0, .ref sb), (1, .ref o), (2, .ref sg), (3, .ref fa), (4, .int (nI (6 * r)))]) : W p l e R s m args below meth c H [] cells slots Q (F0 m 104 ls []) := by
  have hH1 := hH0
  subst hH0
  obtain ⟨hx, hb, hml, hown, hts⟩ := C.1
  have hown : s.vm.findClass RX0 = some m.cls := hown
  have hK := C.2
  obtain ⟨hD, hG, hI, hO, hw1, hw2, hw3, hw4, hw5, hw6⟩ := id hW
  have hw7 := hD.2.1.2.2
  have hw8 := hD.2.2
  refine lv_iload hx hb dL_law_104 (lv_at hl 4 rfl) ?_
  refine lv_iconst (v := nI 5) hx hb dL_law_106 (by decide) ?_
  refine z_iadd (v := nI (6 * r + 5)) hx hb dL_law_107 (nI_add _ _) ?_
  refine lv_bipush (v := nI 96) hx hb dL_law_108 (by decide) ?_
  refine z_ige (a := 6 * r + 5) (b := 96) (tgt := 655) hx hb dL_law_110 (by decide) (by omega) (by decide) (fun c1 => ?_) (fun c1 => ?_)
  · exact ke (by omega) ls hl.1
  · refine lv_aload_n hx hb dL_law_113 rfl (lv_at hl 0 rfl) ?_
    refine lv_iload hx hb dL_law_114 (lv_at hl 4 rfl) ?_
    refine zcell (i := 6 * r) (rest := []) C hR hX hsb hL (by omega) (by omega) hO hl.1 (Nat.le_of_ble_eq_true rfl) dL_law_116 (fun xx => ?_)
    refine lv_istore (lv' := [(5, .int xx), (0, .ref sb), (1, .ref o), (2, .ref sg), (3, .ref fa), (4, .int (nI (6 * r)))]) hx hb dL_law_119 hl (by decide) rfl (fun ls hl => ?_)
    refine lv_aload_n hx hb dL_law_121 rfl (lv_at hl 1 rfl) ?_
    refine lv_iload hx hb dL_law_122 (lv_at hl 5 rfl) ?_
    refine lv_iconst (v := nI 1) hx hb dL_law_124 (by decide) ?_
    refine z_iadd (v := nI (6 * r + 1)) hx hb dL_law_125 (nI_add _ _) ?_
    refine zcell (i := 6 * r + 1) (rest := []) C hR hX hsb hL (by omega) (by omega) hO hl.1 (Nat.le_of_ble_eq_true rfl) dL_law_126 (fun aa => ?_)
    refine lv_istore (lv' := [(6, .int aa), (5, .int xx), (0, .ref sb), (1, .ref o), (2, .ref sg), (3, .ref fa), (4, .int (nI (6 * r)))]) hx hb dL_law_129 hl (by decide) rfl (fun ls hl => ?_)
    refine lv_aload_n hx hb dL_law_131 rfl (lv_at hl 2 rfl) ?_
    refine lv_iload hx hb dL_law_132 (lv_at hl 6 rfl) ?_
    refine lv_iconst (v := nI 2) hx hb dL_law_134 (by decide) ?_
    refine z_iadd (v := nI (6 * r + 2)) hx hb dL_law_135 (nI_add _ _) ?_
    refine zcell (i := 6 * r + 2) (rest := []) C hR hX hsb hL (by omega) (by omega) hO hl.1 (Nat.le_of_ble_eq_true rfl) dL_law_136 (fun bb => ?_)
    refine lv_istore (lv' := [(7, .int bb), (6, .int aa), (5, .int xx), (0, .ref sb), (1, .ref o), (2, .ref sg), (3, .ref fa), (4, .int (nI (6 * r)))]) hx hb dL_law_139 hl (by decide) rfl (fun ls hl => ?_)
    refine lv_aload_n hx hb dL_law_141 rfl (lv_at hl 3 rfl) ?_
    refine lv_iload hx hb dL_law_142 (lv_at hl 7 rfl) ?_
    refine lv_iconst (v := nI 5) hx hb dL_law_144 (by decide) ?_
    refine z_iadd (v := nI (6 * r + 5)) hx hb dL_law_145 (nI_add _ _) ?_
    refine zcell (i := 6 * r + 5) (rest := []) C hR hX hsb hL (by omega) (by omega) hO hl.1 (Nat.le_of_ble_eq_true rfl) dL_law_146 (fun vv => ?_)
    refine lv_istore (lv' := [(8, .int vv), (7, .int bb), (6, .int aa), (5, .int xx), (0, .ref sb), (1, .ref o), (2, .ref sg), (3, .ref fa), (4, .int (nI (6 * r)))]) hx hb dL_law_149 hl (by decide) rfl (fun ls hl => ?_)
    refine lv_iload hx hb dL_law_151 (lv_at hl 2 rfl) ?_
    refine lv_bipush (v := nI 21) hx hb dL_law_153 (by decide) ?_
    refine zcallS (n := 2) (av := [.int aa, .int (nI 21)]) (rest := []) (v := some (.int (nI (md21 aa)))) C (mX0_mod l D k aa 21 (by decide) (by decide)) q137 q138 q1 q139 (by decide +kernel) hR (by decide) rfl hl.1 rfl (Nat.le_of_ble_eq_true rfl) trivial dL_law_155 ?_
    refine lv_istore (lv' := [(9, .int (nI (md21 aa))), (8, .int vv), (7, .int bb), (6, .int aa), (5, .int xx), (0, .ref sb), (1, .ref o), (2, .ref sg), (3, .ref fa), (4, .int (nI (6 * r)))]) hx hb dL_law_158 hl (by decide) rfl (fun ls hl => ?_)
    refine lv_iload hx hb dL_law_160 (lv_at hl 2 rfl) ?_
    refine lv_bipush (v := nI 21) hx hb dL_law_162 (by decide) ?_
    refine zcallS (n := 2) (av := [.int bb, .int (nI 21)]) (rest := []) (v := some (.int (nI (md21 bb)))) C (mX0_mod l D k bb 21 (by decide) (by decide)) q137 q138 q1 q139 (by decide +kernel) hR (by decide) rfl hl.1 rfl (Nat.le_of_ble_eq_true rfl) trivial dL_law_164 ?_
    refine lv_istore (lv' := [(10, .int (nI (md21 bb))), (9, .int (nI (md21 aa))), (8, .int vv), (7, .int bb), (6, .int aa), (5, .int xx), (0, .ref sb), (1, .ref o), (2, .ref sg), (3, .ref fa), (4, .int (nI (6 * r)))]) hx hb dL_law_167 hl (by decide) rfl (fun ls hl => ?_)
    refine lv_aload_n hx hb dL_law_169 rfl (lv_at hl 7 rfl) ?_
    refine lv_iload hx hb dL_law_170 (lv_at hl 4 rfl) ?_
    refine lv_iload hx hb dL_law_172 (lv_at hl 3 rfl) ?_
    refine lv_iload hx hb dL_law_174 (lv_at hl 2 rfl) ?_
    have hma := md21_lt aa
    have hmb := md21_lt bb
    refine zcallVw (n := 3) (b := o) (av := [.int aa, .int bb, .int vv]) (rest := []) C (mX1_set l D k o bm g B aa bb vv) q41 q42 q43 q2 q44 (by decide +kernel) hR (by decide) rfl hl.1 rfl (Nat.le_of_ble_eq_true rfl) (hD.recv hK) hD dL_law_176 (fun H1 locs1 hF1 hz1 ho1 hL1 => ?_)
    refine va_forget (fun q hq => (hL1 q hq).elim (fun h => by cases h) (fun h => by have h9 := h.1; omega)) ?_
    replace hW := hW.desk hF1 hz1 ho1
    clear hF1 hz1 ho1 hL1
    obtain ⟨hD, hG, hI, hO, hw1, hw2, hw3, hw4, hw5, hw6⟩ := id hW
    have hw7 := hD.2.1.2.2
    have hw8 := hD.2.2
    refine lv_aload_n hx hb dL_law_179 rfl (lv_at hl 8 rfl) ?_
    refine lv_iload hx hb dL_law_180 (lv_at hl 1 rfl) ?_
    refine zg_row (i := md21 aa) hx hb (hK.2 2 _ rfl).1 hG (by omega) dL_law_182 ?_
    refine lv_iload hx hb dL_law_183 (lv_at hl 0 rfl) ?_
    refine lv_iload hx hb dL_law_185 (lv_at hl 2 rfl) ?_
    refine lv_iconst (v := nI 1) hx hb dL_law_187 (by decide) ?_
    refine z_iand (v := nI (lo1 vv).toNat) hx hb dL_law_188 (an1 _) ?_
    refine zg_ist (i := md21 aa) (j := md21 bb) (v := lo1 vv) hx hb (hK.2 3 _ rfl).1 hG (by omega) (by omega) dL_law_189 (fun H2 locs1 hF1 hz1 ho1 hL1 => ?_)
    refine va_forget (fun q hq => (hL1 q hq).elim (fun h => by cases h) (fun h => by rw [h]; omega)) ?_
    replace hW := hW.sheet hF1 hz1 (by omega) ho1
    clear hF1 hz1 ho1 hL1
    obtain ⟨hD, hG, hI, hO, hw1, hw2, hw3, hw4, hw5, hw6⟩ := id hW
    have hw7 := hD.2.1.2.2
    have hw8 := hD.2.2
    generalize zup B (md21 aa) (md21 bb) (lo1 vv) = B1 at hW hG hD
    refine lv_iload hx hb dL_law_190 (lv_at hl 5 rfl) ?_
    refine lv_iconst (v := nI 3) hx hb dL_law_192 (by decide) ?_
    refine z_iand (v := nI (lo2 xx)) hx hb dL_law_193 (an2 _) ?_
    have h2x := lo2_lt xx
    refine z_ne0 (a := lo2 xx) (tgt := 311) hx hb dL_law_194 (by decide) (by omega) (fun c2 => ?_) (fun c2 => ?_)
    · refine lv_iload hx hb dL_law_311 (lv_at hl 5 rfl) ?_
      refine lv_iconst (v := nI 3) hx hb dL_law_313 (by decide) ?_
      refine z_iand (v := nI (lo2 xx)) hx hb dL_law_314 (an2 _) ?_
      refine lv_iconst (v := nI 1) hx hb dL_law_315 (by decide) ?_
      refine z_ine (a := lo2 xx) (b := 1) (tgt := 388) hx hb dL_law_316 (by decide) (by omega) (by decide) (fun c3 => ?_) (fun c3 => ?_)
      · refine lv_iload hx hb dL_law_388 (lv_at hl 5 rfl) ?_
        refine lv_iconst (v := nI 3) hx hb dL_law_390 (by decide) ?_
        refine z_iand (v := nI (lo2 xx)) hx hb dL_law_391 (an2 _) ?_
        refine lv_iconst (v := nI 2) hx hb dL_law_392 (by decide) ?_
        refine z_ine (a := lo2 xx) (b := 2) (tgt := 609) hx hb dL_law_393 (by decide) (by omega) (by decide) (fun c4 => ?_) (fun c4 => ?_)
        · exact kk xx aa bb vv B1 H2 (by omega) hW ls (lv_sub hl [6, 7, 8, 9, 10, 5, 4, 3, 2] rfl)
        · refine lv_aload_n hx hb dL_law_396 rfl (lv_at hl 6 rfl) ?_
          refine lv_iload hx hb dL_law_397 (lv_at hl 10 rfl) ?_
          refine lv_iconst (v := nI 3) hx hb dL_law_399 (by decide) ?_
          refine z_iadd (v := nI (6 * r + 3)) hx hb dL_law_400 (nI_add _ _) ?_
          refine zcell (i := 6 * r + 3) (rest := []) C hR hX hsb hL (by omega) (by omega) hO hl.1 (Nat.le_of_ble_eq_true rfl) dL_law_401 (fun tt => ?_)
          refine lv_istore (lv' := [(11, .int tt), (10, .int (nI (md21 bb))), (9, .int (nI (md21 aa))), (8, .int vv), (7, .int bb), (6, .int aa), (5, .int xx), (0, .ref sb), (1, .ref o), (2, .ref sg), (3, .ref fa), (4, .int (nI (6 * r)))]) hx hb dL_law_404 hl (by decide) rfl (fun ls hl => ?_)
          refine lv_aload_n hx hb dL_law_406 rfl (lv_at hl 7 rfl) ?_
          refine lv_iload hx hb dL_law_407 (lv_at hl 11 rfl) ?_
          refine lv_iconst (v := nI 4) hx hb dL_law_409 (by decide) ?_
          refine z_iadd (v := nI (6 * r + 4)) hx hb dL_law_410 (nI_add _ _) ?_
          refine zcell (i := 6 * r + 4) (rest := []) C hR hX hsb hL (by omega) (by omega) hO hl.1 (Nat.le_of_ble_eq_true rfl) dL_law_411 (fun yy => ?_)
          refine lv_bipush (v := nI 21) hx hb dL_law_414 (by decide) ?_
          refine zcallS (n := 2) (av := [.int yy, .int (nI 21)]) (rest := []) (v := some (.int (nI (md21 yy)))) C (mX0_mod l D k yy 21 (by decide) (by decide)) q137 q138 q1 q139 (by decide +kernel) hR (by decide) rfl hl.1 rfl (Nat.le_of_ble_eq_true rfl) trivial dL_law_416 ?_
          have hmy := md21_lt yy
          refine lv_bipush (v := nI 6) hx hb dL_law_419 (by decide) ?_
          refine z_isub (v := (iz ((md21 yy : Int) - 6))) hx hb dL_law_421 (by rw [iz_nat, iz_nat]; exact iz_sub _ _) ?_
          refine lv_istore (lv' := [(12, .int (iz ((md21 yy : Int) - 6))), (11, .int tt), (10, .int (nI (md21 bb))), (9, .int (nI (md21 aa))), (8, .int vv), (7, .int bb), (6, .int aa), (5, .int xx), (0, .ref sb), (1, .ref o), (2, .ref sg), (3, .ref fa), (4, .int (nI (6 * r)))]) hx hb dL_law_422 hl (by decide) rfl (fun ls hl => ?_)
          refine lv_iconst (v := nI 0) hx hb dL_law_424 (by decide) ?_
          refine lv_istore (lv' := [(13, .int (nI 0)), (12, .int (iz ((md21 yy : Int) - 6))), (11, .int tt), (10, .int (nI (md21 bb))), (9, .int (nI (md21 aa))), (8, .int vv), (7, .int bb), (6, .int aa), (5, .int xx), (0, .ref sb), (1, .ref o), (2, .ref sg), (3, .ref fa), (4, .int (nI (6 * r)))]) hx hb dL_law_425 hl (by decide) rfl (fun ls hl => ?_)
          refine lL_bits C hR rfl (fun B2 H3 hW ls hl => ?_) 33 0 (by omega) (by omega) B1 H2 hW ls (lv_sub hl [9, 10, 11, 12, 13, 8, 7, 6, 5, 4, 3, 2, 1, 0] rfl)
          refine lv_iconst (v := nI 0) hx hb dL_law_497 (by decide) ?_
          refine lv_istore (lv' := [(13, .int (nI 0)), (0, .ref sb), (1, .ref o), (2, .ref sg), (3, .ref fa), (4, .int (nI (6 * r))), (5, .int xx), (6, .int aa), (7, .int bb), (8, .int vv), (9, .int (nI (md21 aa))), (10, .int (nI (md21 bb))), (11, .int tt), (12, .int (iz ((md21 yy : Int) - 6)))]) hx hb dL_law_498 hl (by decide) rfl (fun ls hl => ?_)
          exact lL_find (ff := (md21 yy : Int) - 6) C hR hA (by omega) rfl (fun B3 H4 hW4 ls hl => kk xx aa bb vv B3 H4 (by omega) hW4 ls hl) 16 0 (by omega) (by omega) B2 H3 hW ls (lv_sub hl [1, 2, 3, 4, 5, 6, 7, 8, 9, 10, 11, 12, 13, 0] rfl)
      · refine lv_aload_n hx hb dL_law_319 rfl (lv_at hl 7 rfl) ?_
        refine lv_iload hx hb dL_law_320 (lv_at hl 5 rfl) ?_
        refine lv_iconst (v := nI 2) hx hb dL_law_322 (by decide) ?_
        refine z_ishr (v := (xx >>> (nI 2 &&& 31))) hx hb dL_law_323 rfl ?_
        refine zcallVw (n := 1) (b := o) (av := [.int (xx >>> (nI 2 &&& 31))]) (rest := []) C (mX1_masked l D k o bm g B1 (xx >>> (nI 2 &&& 31))) q126 q127 q128 q2 q129 (by decide +kernel) hR (by decide) rfl hl.1 rfl (Nat.le_of_ble_eq_true rfl) (hD.recv hK) hD dL_law_324 (fun H3 locs1 hF1 hz1 ho1 hL1 => ?_)
        refine va_forget (fun q hq => (hL1 q hq).elim (fun h => by cases h) (fun h => by have h9 := h.1; omega)) ?_
        replace hW := hW.desk hF1 hz1 ho1
        clear hF1 hz1 ho1 hL1
        obtain ⟨hD, hG, hI, hO, hw1, hw2, hw3, hw4, hw5, hw6⟩ := id hW
        have hw7 := hD.2.1.2.2
        have hw8 := hD.2.2
        refine lv_iconst (v := nI 0) hx hb dL_law_327 (by decide) ?_
        refine lv_istore (lv' := [(11, .int (nI 0)), (10, .int (nI (md21 bb))), (9, .int (nI (md21 aa))), (8, .int vv), (7, .int bb), (6, .int aa), (5, .int xx), (0, .ref sb), (1, .ref o), (2, .ref sg), (3, .ref fa), (4, .int (nI (6 * r)))]) hx hb dL_law_328 hl (by decide) rfl (fun ls hl => ?_)
        exact lL_mask (B := B1) C hR rfl (fun H4 hW4 ls hl => kk xx aa bb vv _ H4 (by omega) hW4 ls hl) 442 0 (by omega) (by omega) H3 (hW.congr (fun _ _ _ _ => rfl) (fun x y _ _ => zmi_0 B1 _ x y)) ls (lv_sub hl [7, 8, 9, 10, 11, 6, 5, 4, 3, 2, 1, 0] rfl)
    · refine lv_aload_n hx hb dL_law_197 rfl (lv_at hl 6 rfl) ?_
      refine lv_iload hx hb dL_law_198 (lv_at hl 10 rfl) ?_
      refine lv_iconst (v := nI 3) hx hb dL_law_200 (by decide) ?_
      refine z_iadd (v := nI (6 * r + 3)) hx hb dL_law_201 (nI_add _ _) ?_
      refine zcell (i := 6 * r + 3) (rest := []) C hR hX hsb hL (by omega) (by omega) hO hl.1 (Nat.le_of_ble_eq_true rfl) dL_law_202 (fun wh => ?_)
      refine lv_istore (lv' := [(11, .int wh), (10, .int (nI (md21 bb))), (9, .int (nI (md21 aa))), (8, .int vv), (7, .int bb), (6, .int aa), (5, .int xx), (0, .ref sb), (1, .ref o), (2, .ref sg), (3, .ref fa), (4, .int (nI (6 * r)))]) hx hb dL_law_205 hl (by decide) rfl (fun ls hl => ?_)
      refine lv_aload_n hx hb dL_law_207 rfl (lv_at hl 7 rfl) ?_
      refine lv_iload hx hb dL_law_208 (lv_at hl 11 rfl) ?_
      refine lv_iconst (v := nI 4) hx hb dL_law_210 (by decide) ?_
      refine z_iadd (v := nI (6 * r + 4)) hx hb dL_law_211 (nI_add _ _) ?_
      refine zcell (i := 6 * r + 4) (rest := []) C hR hX hsb hL (by omega) (by omega) hO hl.1 (Nat.le_of_ble_eq_true rfl) dL_law_212 (fun hh => ?_)
      refine lv_istore (lv' := [(12, .int hh), (11, .int wh), (10, .int (nI (md21 bb))), (9, .int (nI (md21 aa))), (8, .int vv), (7, .int bb), (6, .int aa), (5, .int xx), (0, .ref sb), (1, .ref o), (2, .ref sg), (3, .ref fa), (4, .int (nI (6 * r)))]) hx hb dL_law_215 hl (by decide) rfl (fun ls hl => ?_)
      refine lv_aload_n hx hb dL_law_217 rfl (lv_at hl 9 rfl) ?_
      refine lv_iload hx hb dL_law_218 (lv_at hl 6 rfl) ?_
      refine lv_iload hx hb dL_law_220 (lv_at hl 5 rfl) ?_
      refine lv_iload hx hb dL_law_222 (lv_at hl 1 rfl) ?_
      refine lv_iload hx hb dL_law_224 (lv_at hl 0 rfl) ?_
      refine lv_iload hx hb dL_law_226 (lv_at hl 7 rfl) ?_
      refine lv_bipush (v := nI 8) hx hb dL_law_228 (by decide) ?_
      refine z_ishr (v := (xx >>> (nI 8 &&& 31))) hx hb dL_law_230 rfl ?_
      refine zcallVw (n := 5) (b := o) (av := [.int aa, .int bb, .int wh, .int hh, .int (xx >>> (nI 8 &&& 31))]) (rest := []) C (mX1_fill l D k o bm g B1 aa bb wh hh (xx >>> (nI 8 &&& 31))) q50 q51 q52 q2 q53 (by decide +kernel) hR (by decide) rfl hl.1 rfl (Nat.le_of_ble_eq_true rfl) (hD.recv hK) hD dL_law_231 (fun H3 locs1 hF1 hz1 ho1 hL1 => ?_)
      refine va_forget (fun q hq => (hL1 q hq).elim (fun h => by cases h) (fun h => by have h9 := h.1; omega)) ?_
      replace hW := hW.desk hF1 hz1 ho1
      clear hF1 hz1 ho1 hL1
      obtain ⟨hD, hG, hI, hO, hw1, hw2, hw3, hw4, hw5, hw6⟩ := id hW
      have hw7 := hD.2.1.2.2
      have hw8 := hD.2.2
      refine lv_iload hx hb dL_law_234 (lv_at hl 3 rfl) ?_
      refine lv_istore (lv' := [(13, .int (nI (md21 aa))), (12, .int hh), (11, .int wh), (10, .int (nI (md21 bb))), (9, .int (nI (md21 aa))), (8, .int vv), (7, .int bb), (6, .int aa), (5, .int xx), (0, .ref sb), (1, .ref o), (2, .ref sg), (3, .ref fa), (4, .int (nI (6 * r)))]) hx hb dL_law_236 hl (by decide) rfl (fun ls hl => ?_)
      exact lL_fill2 (B := B1) C hR rfl (fun H4 hW4 ls hl => kk xx aa bb vv _ H4 (by omega) hW4 ls hl) 22 (md21 aa) (Nat.le_refl _) (by omega) (by omega) (by omega) H3 (hW.congr (fun _ _ _ _ => rfl) (fun x y _ _ => zfo_0 B1 _ _ _ _ x y)) ls (lv_sub hl [9, 10, 11, 12, 13, 8, 7, 6, 5, 4, 3, 2, 1, 0] rfl)
set_option maxHeartbeats 4000000 in
theorem lL_all (C : zC p m c code 16 s args RX0 D k) (hX : va_X sb L xs s s.heap) (hsb : sb < s.heap.size) (hL : L ≤ 96) (hA : ArrOfT s cI .int) (hH0 : s.heap = H0)
    (ke : ∀ (H : Heap) (cells slots : Nat), cells ≤ 1200192 → slots ≤ 5500522 → ∀ ls : Array Slot, ls.size = 16 → W p l e room_1 s m args below meth c H [] cells slots Q (F0 m 655 ls [])) :
    ∀ (n r : Nat), r ≤ 16 → 17 ≤ r + n → ∀ (B : Nat → Nat → Bool) (H : Heap), zLw D k H0 o bm g sg fa cI B B H → ∀ ls : Array Slot, lv_has ls 16 [(0, .ref sb), (1, .ref o), (2, .ref sg), (3, .ref fa), (4, .int (nI (6 * r)))] → W p l e room_1 s m args below meth c H [] (49 + 2 * r) (957 + 14 * r) Q (F0 m 104 ls []) := by
  intro n
  induction n with
  | zero =>
    intro r h1 hcl
    exact absurd hcl (by omega)
  | succ n ih =>
    intro r hr hrn B H hW ls hl
    have hR : zR room_1 10 344 (49 + 2 * r) (957 + 14 * r) := ⟨Nat.le_refl _, Nat.le_refl _, by show _ ≤ 1200192; omega, by show _ ≤ 5500522; omega⟩
    refine lL_round C hR hX hsb hL hA hH0 hr hW (fun h16 ls hs => ke H _ _ (by omega) (by omega) ls hs) (fun xx aa bb vv B1 H1 hr1 hW1 ls hl => ?_) hl
    have hR2 : zR room_1 10 344 (49 + 2 * r + 2) (957 + 14 * r + 14) := ⟨Nat.le_refl _, Nat.le_refl _, by show _ ≤ 1200192; omega, by show _ ≤ 5500522; omega⟩
    refine lL_tail C hR2 hW1 (fun H2 hW2 ls hl => ?_) hl
    refine W.cs (cells' := 49 + 2 * (r + 1)) (slots' := 957 + 14 * (r + 1)) (by omega) (by omega) ?_
    exact ih (r + 1) (by omega) (by omega) B1 H2 hW2 ls hl
end ZL
end
section
/-! THE CLAIM OUT OF ONE WALK OF THE LAW'S BODY. Your part is whole_start (and what it stands on); all else here is the same for every law, but numbers. -/
def R_law : String := "PenaltyDeskLaw"
def lw_P (b : Addr) (xs : List Int32) (args : Array Value) (s : State) : Prop := args = #[.ref b] ∧ s.IntsAt b xs ∧ xs.length ≤ 96 ∧ (Jvm.Cond.and given_1 narrow_1).before args s = true
def lw_Q (_ : Array Value) (s : State) (o : Outcome) (t : State) : Prop := o = .returned (some (.int 1)) ∧ Framed s o t [] 1200192 5500522
def lw_Z (below : List Frame) (a : Array Value) (s : State) : State → Prop := fun t => ∃ o, t.status = .running ∧ Ended t below o ∧ lw_Q a s o t
/-- the law's own end, with 1 on the stack, nothing written that was there before, its room as the claim has it -/
theorem lw_ret {p : Program} {l : Launch} {e : Env} {s : State} {m : MethodId} {below : List Frame} {meth : Method} {c : Code} {b : Nat} (hx : p.tables.exec = Jvm.exec) (hb : c.code = code) (hr : meth.sig.returnType = ret) (hlocks : meth.locks = false) {pc : Nat} {H : Heap} {ls : Array Slot} (hdg : decode code pc = .ok (.ireturn, 1)) : W p l e room_1 s m #[Value.ref b] below meth c H [] 1200192 5500522 (lw_Z below #[Value.ref b] s) (F0 m pc ls [.int 1]) := by
  intro T hT X
  obtain ⟨fs, hret, hrun, hended, hW, hframe⟩ := X.leave (v := some (.int 1)) (hlocks := hlocks) (fun h => by rw [hr] at h; cases h)
  have hmeth' : T.vm.method? m = some meth := X.method'
  refine ⟨T.setFrames fs, ?_, .returned (some (.int 1)), hrun, hended, rfl, ⟨_, rfl⟩, hW, hframe⟩
  jvm_step X.here [X.here.top, hx, hb, hdg, hmeth', hr, ret, narrow_b1]
  (try refine ⟨rfl, ?_⟩); (try refine ⟨rfl, ?_⟩)
  first | (intro acts; rw [hret _ acts rfl rfl rfl]) | rw [hret _ _ rfl rfl rfl]
  exact Steps.refl _
/-- what holds at the law's entry: the machine, the code, the tables' words (any of lw_tbl by 'hts w (by decide +kernel)'), the script of L ints xs at the cell b, what the Statement gives of the start (any of its parts by flat_of_before) -/
def lw_At (p : Program) (s : State) (m : MethodId) (meth : Method) (c : Code) (b L : Nat) (xs : Nat → Int32) : Prop :=
  p.tables.exec = Jvm.exec ∧ c.code = code ∧ meth.sig.returnType = ret ∧ c.maxLocals = 16 ∧ s.vm.findClass R_law = some m.cls ∧ (∀ w ∈ lw_tbl, w.before #[Value.ref b] s = true) ∧ va_X b L xs s s.heap ∧ b < s.heap.size ∧ meth.locks = false ∧ (Jvm.Cond.and given_1 narrow_1).before #[Value.ref b] s = true
set_option maxRecDepth 100000
/-- the two classes and the four array classes, known at the start -/
theorem zknown {s : State} {args : Array Value} (ht : ∀ w ∈ lw_tbl, w.before args s = true) : ∃ (D : va_G) (k : Nat → ClassId), zK D k s := by
  obtain ⟨c0, iS0, hK0⟩ := u_known (C := RX1) (T := TX1) (N := 1) (n := 1) ht (fun w h => lw_all_tbl (in_X1 w h)) (ht _ (lw_all_tbl q11))
  obtain ⟨c1, iS1, hK1⟩ := u_known (C := RX2) (T := TX2) (N := 3) (n := 3) ht (fun w h => lw_all_tbl (in_X2 w h)) (ht _ (lw_all_tbl q19))
  obtain ⟨compA, cA, kA, a1, a2, a3, a4, a5⟩ := arrayOverA_spec (ht _ q25)
  obtain ⟨cB, kB, compB, b1, b2, b3⟩ := Cond.arrayClass_spec (ht _ (lw_all_tbl q36))
  obtain ⟨compE, cE, kE, e1, e2, e3, e4, e5⟩ := arrayOverA_spec (ht _ q223)
  obtain ⟨cF, kF, compF, f1, f2, f3⟩ := Cond.arrayClass_spec (ht _ (lw_all_tbl q221))
  refine ⟨(fun n => if n = 0 then c0 else c1, fun n => if n = 0 then iS0 else iS1), fun n => if n = 0 then cA else if n = 1 then cB else if n = 2 then cE else cF, ?_, ?_⟩
  · intro c q hq
    match c, hq with
    | 0, hq => cases hq; exact hK0
    | 1, hq => cases hq; exact hK1
    | n + 2, hq => simp [vwCl] at hq
  · intro n q hq
    match n, hq with
    | 0, hq => cases hq; exact ⟨fun N z => ⟨(fun k h => by cases h), kA, a3, compA, a4⟩, a5⟩
    | 1, hq => cases hq; exact ⟨fun N z => ⟨(fun k h => by cases h), kB, b2, compB, b3⟩, b1⟩
    | 2, hq => cases hq; exact ⟨fun N z => ⟨(fun k h => by cases h), kE, e3, compE, e4⟩, e5⟩
    | 3, hq => cases hq; exact ⟨fun N z => ⟨(fun k h => by cases h), kF, f2, compF, f3⟩, f1⟩
    | n + 4, hq => simp at hq
set_option maxHeartbeats 4000000 in
/-- from the entry, for every script of at most 96 ints, the law comes to its end with true -/
theorem whole_start {p : Program} {e : Env} {s : State} {m : MethodId} {below : List Frame} {meth : Method} {c : Code} (l : Launch) (hflags : l.flags = flags0) {b L : Nat} {xs : Nat → Int32} (hL : L ≤ 96) (C0 : lw_At p s m meth c b L xs) : W p l e room_1 s m #[Value.ref b] below meth c s.heap [] 0 0 (lw_Z below #[Value.ref b] s) (entryFrame m ([Value.ref b] : List Value).toArray 16) := by
  obtain ⟨hx, hb, hr, hml, hown, htbl, hX, hbl, hlk, -⟩ := C0
  obtain ⟨D, k, hK⟩ := zknown htbl
  have hts : ∀ w ∈ lw_all, w.before #[Value.ref b] s = true := fun w h => htbl w (lw_all_tbl h)
  have hown : s.vm.findClass RX0 = some m.cls := hown
  have C : zC p m c code 16 s #[Value.ref b] RX0 D k := ⟨⟨hx, hb, hml, hown, hts⟩, hK⟩
  have hl := lv_entry ([.ref b]) (n := 16) (Nat.le_of_ble_eq_true rfl)
  rw [lg_entry_eq]
  generalize (lg_sl ([.ref b]) ++ List.replicate (16 - (lg_sl ([.ref b])).length) Slot.unset).toArray = ls at hl ⊢
  have hl : lv_has ls 16 [(0, .ref b)] := hl
  have hAO : zAO .byte s := zAO.of (htbl _ q25)
  have hP0 : va_P D vwCl [] s.heap := fun n q h => by simp at h
  have hD0 : va_D (fun q => s.heap.size ≤ q) [] := ⟨fun i j x y h => by simp at h, fun n q h => by simp at h⟩
  refine va_new (ci := 0) (fs := [.null]) (C := RX1) (T := TX1) (N := 1) hx hb hts in_X1 tyX1 tyX1_ok hown (hts _ q10) (hts _ q11) (hts _ q2) hK hP0 hD0 va_S.rf (fun q h => h) rfl (fun j hj => by rcases (show j = 0 by omega) with rfl; rfl) (Nat.le_of_ble_eq_true rfl) (Nat.le_of_ble_eq_true rfl) dL_law_0 (fun o H1 hP1 hD1 hS1 => ?_)
  have hoz : s.heap.size ≤ o := hD1.2 0 _ rfl
  have hPo : va_P D vwCl [(o, .inr (0, [.null]))] H1 := hP1
  have ho1 : o < H1.size := (hPo 0 _ rfl).lt
  have hO1 : ∀ q : Nat, q < s.heap.size → H1[q]? = s.heap[q]? := fun q hq => hS1.2.1 q hq (by show ¬ s.heap.size ≤ q; omega)
  have hz1 : s.heap.size ≤ H1.size := hS1.1
  refine lv_dup hx hb dL_law_3 rfl ?_
  refine zcallI (n := 0) (b := o) (av := []) (rest := [.ref o]) ⟨hx, hb, hml, hown, hts⟩ (mX1_init l D k o H1.size) q12 q13 q2 q14 rfl rfl rfl (by decide +kernel) ⟨Nat.le_of_ble_eq_true rfl, Nat.le_of_ble_eq_true rfl⟩ ⟨Nat.le_of_ble_eq_true rfl, Nat.le_of_ble_eq_true rfl⟩ rfl hl.1 rfl (Nat.le_of_ble_eq_true rfl)
    ⟨fun a U g mk h => ⟨h.1, va_K.moved (u := U) (U := U.calling g mk a) (Vm.Alike.refl U.vm) h.2.1, zAO.moved (u := U) (U := U.calling g mk a) (Vm.Alike.refl U.vm) h.2.2.1, h.2.2.2⟩, fun U hU hW => ⟨rfl, va_K.moved hW.alike hK, hAO.moved hW.alike, by rw [hU], ho1, by rw [hU]; exact hPo⟩⟩ dL_law_4 (fun v st₀ t locs1 h0 hq hLc => ?_)
  obtain ⟨hv, ⟨bm, g, hD2, hbm⟩, hz2, ho2⟩ := hq
  cases hv
  rw [h0] at ho2
  generalize t.heap = H2 at hD2 hz2 ho2 ⊢
  refine va_forget (fun q hq => ?_) ?_
  · rcases hLc q hq with h | h
    · cases h
    · rw [h]
      exact hoz
  have hO2 : ∀ q : Nat, q < s.heap.size → H2[q]? = s.heap[q]? := fun q hq => (ho2 q (by omega) (by omega)).trans (hO1 q hq)
  have t1 : o < H2.size := (hD2.1 0 _ rfl).lt
  have t2 : bm < H2.size := (hD2.2.1.1 0 _ rfl).lt
  have t3 := hD2.2.1.2.1.lt
  have t4 := hD2.2.1.2.2
  refine lv_astore_n (lv' := [(1, .ref o), (0, .ref b)]) hx hb dL_law_7 rfl hl (by decide) rfl (fun ls hl => ?_)
  refine lv_bipush (v := nI 21) hx hb dL_law_8 (by decide) ?_
  refine lv_bipush (v := nI 21) hx hb dL_law_10 (by decide) ?_
  refine zg_multi (ty := .int) (cO := k 2) (cI := k 3) hx hb hown (hts _ q222) (htbl _ q223) (hts _ q221) rfl rfl rfl (by decide) (hK.2 2 _ rfl).2 (hK.2 3 _ rfl).2 dL_law_12 (Nat.le_of_ble_eq_true rfl) (Nat.le_of_ble_eq_true rfl) (fun H3 hG3 hz3 ho3 => ?_)
  refine W.cs (cells' := 46) (slots' := 928) rfl rfl ?_
  have hD3 := hD2.kept (ho3 o t1) (ho3 bm t2) (fun q h1 h2 => ho3 q (by omega))
  have hR2 : zR room_1 10 344 (46 + 2) (928 + 14) := ⟨Nat.le_refl _, Nat.le_refl _, Nat.le_of_ble_eq_true rfl, Nat.le_of_ble_eq_true rfl⟩
  refine lv_astore_n (lv' := [(2, .ref H2.size), (1, .ref o), (0, .ref b)]) hx hb dL_law_16 rfl hl (by decide) rfl (fun ls hl => ?_)
  refine lv_aload_n hx hb dL_law_17 rfl (lv_at hl 1 rfl) ?_
  refine lv_aload_n hx hb dL_law_18 rfl (lv_at hl 0 rfl) ?_
  refine zcallN (n := 2) (fr0 := 10) (lo0 := 344) (av := [.ref o, .ref H2.size]) (rest := []) (v := .int (nI (true).toNat)) C (mX0_isTold l D k o bm g H2.size (fun _ _ => false)) q144 q145 q1 q146 (by decide +kernel) hR2 (by decide) rfl hl.1 rfl (Nat.le_of_ble_eq_true rfl) ⟨hD3, hG3, by omega, by omega⟩ dL_law_19 (fun H4 z4 o4 => ?_)
  have hD4 := hD3.kept (o4 o (by omega)) (o4 bm (by omega)) (fun q h1 h2 => o4 q (by omega))
  have hG4 := hG3.kept (fun q h1 h2 => o4 q (by omega))
  have hO4 : ∀ q : Nat, q < s.heap.size → H4[q]? = s.heap[q]? := fun q hq => (o4 q (by omega)).trans ((ho3 q (by omega)).trans (hO2 q hq))
  refine z_bne0 (tgt := 27) hx hb dL_law_22 (by decide) (fun c1 => ?_) (fun c => absurd c (by decide))
  refine lv_bipush (v := nI 15) hx hb dL_law_27 (by decide) ?_
  refine va_newaK (g := F0 m 29 ls [.int (nI 15)]) (atype := .int) (N := 15) hx hb (hts _ q221) rfl dL_law_29 rfl (by decide) (by decide) (by decide) (Nat.le_of_ble_eq_true rfl) (Nat.le_of_ble_eq_true rfl) rfl (fun H5 cI e1 z1 o1 hA _ => ?_)
  have hI : zI cI 15 H4.size (fun _ => false) H5 := e1
  refine W.eq (g2 := F0 m 31 ls [.ref H4.size]) rfl ?_
  refine lv_dup hx hb dL_law_31 rfl ?_
  refine lv_iconst (v := nI 0) hx hb dL_law_32 (by decide) ?_
  refine lv_iconst (v := nI (false).toNat) hx hb dL_law_33 (by decide) ?_
  refine zi_st (cI := cI) (n := 15) (q := H4.size) (j := 0) (v := false) hx hb hA hI (by decide) (by decide) (by omega) dL_law_34 (fun H6 hI z2 o2 => ?_)
  replace z1 := z2.trans z1
  replace o1 := fun (q : Nat) (hq : q < H4.size) => (o2 q (by omega)).trans (o1 q hq)
  clear z2 o2
  refine lv_dup hx hb dL_law_35 rfl ?_
  refine lv_iconst (v := nI 1) hx hb dL_law_36 (by decide) ?_
  refine lv_iconst (v := nI (false).toNat) hx hb dL_law_37 (by decide) ?_
  refine zi_st (cI := cI) (n := 15) (q := H4.size) (j := 1) (v := false) hx hb hA hI (by decide) (by decide) (by omega) dL_law_38 (fun H7 hI z2 o2 => ?_)
  replace z1 := z2.trans z1
  replace o1 := fun (q : Nat) (hq : q < H4.size) => (o2 q (by omega)).trans (o1 q hq)
  clear z2 o2
  refine lv_dup hx hb dL_law_39 rfl ?_
  refine lv_iconst (v := nI 2) hx hb dL_law_40 (by decide) ?_
  refine lv_iconst (v := nI (false).toNat) hx hb dL_law_41 (by decide) ?_
  refine zi_st (cI := cI) (n := 15) (q := H4.size) (j := 2) (v := false) hx hb hA hI (by decide) (by decide) (by omega) dL_law_42 (fun H8 hI z2 o2 => ?_)
  replace z1 := z2.trans z1
  replace o1 := fun (q : Nat) (hq : q < H4.size) => (o2 q (by omega)).trans (o1 q hq)
  clear z2 o2
  refine lv_dup hx hb dL_law_43 rfl ?_
  refine lv_iconst (v := nI 3) hx hb dL_law_44 (by decide) ?_
  refine lv_iconst (v := nI (false).toNat) hx hb dL_law_45 (by decide) ?_
  refine zi_st (cI := cI) (n := 15) (q := H4.size) (j := 3) (v := false) hx hb hA hI (by decide) (by decide) (by omega) dL_law_46 (fun H9 hI z2 o2 => ?_)
  replace z1 := z2.trans z1
  replace o1 := fun (q : Nat) (hq : q < H4.size) => (o2 q (by omega)).trans (o1 q hq)
  clear z2 o2
  refine lv_dup hx hb dL_law_47 rfl ?_
  refine lv_iconst (v := nI 4) hx hb dL_law_48 (by decide) ?_
  refine lv_iconst (v := nI (true).toNat) hx hb dL_law_49 (by decide) ?_
  refine zi_st (cI := cI) (n := 15) (q := H4.size) (j := 4) (v := true) hx hb hA hI (by decide) (by decide) (by omega) dL_law_50 (fun H10 hI z2 o2 => ?_)
  replace z1 := z2.trans z1
  replace o1 := fun (q : Nat) (hq : q < H4.size) => (o2 q (by omega)).trans (o1 q hq)
  clear z2 o2
  refine lv_dup hx hb dL_law_51 rfl ?_
  refine lv_iconst (v := nI 5) hx hb dL_law_52 (by decide) ?_
  refine lv_iconst (v := nI (false).toNat) hx hb dL_law_53 (by decide) ?_
  refine zi_st (cI := cI) (n := 15) (q := H4.size) (j := 5) (v := false) hx hb hA hI (by decide) (by decide) (by omega) dL_law_54 (fun H11 hI z2 o2 => ?_)
  replace z1 := z2.trans z1
  replace o1 := fun (q : Nat) (hq : q < H4.size) => (o2 q (by omega)).trans (o1 q hq)
  clear z2 o2
  refine lv_dup hx hb dL_law_55 rfl ?_
  refine lv_bipush (v := nI 6) hx hb dL_law_56 (by decide) ?_
  refine lv_iconst (v := nI (true).toNat) hx hb dL_law_58 (by decide) ?_
  refine zi_st (cI := cI) (n := 15) (q := H4.size) (j := 6) (v := true) hx hb hA hI (by decide) (by decide) (by omega) dL_law_59 (fun H12 hI z2 o2 => ?_)
  replace z1 := z2.trans z1
  replace o1 := fun (q : Nat) (hq : q < H4.size) => (o2 q (by omega)).trans (o1 q hq)
  clear z2 o2
  refine lv_dup hx hb dL_law_60 rfl ?_
  refine lv_bipush (v := nI 7) hx hb dL_law_61 (by decide) ?_
  refine lv_iconst (v := nI (true).toNat) hx hb dL_law_63 (by decide) ?_
  refine zi_st (cI := cI) (n := 15) (q := H4.size) (j := 7) (v := true) hx hb hA hI (by decide) (by decide) (by omega) dL_law_64 (fun H13 hI z2 o2 => ?_)
  replace z1 := z2.trans z1
  replace o1 := fun (q : Nat) (hq : q < H4.size) => (o2 q (by omega)).trans (o1 q hq)
  clear z2 o2
  refine lv_dup hx hb dL_law_65 rfl ?_
  refine lv_bipush (v := nI 8) hx hb dL_law_66 (by decide) ?_
  refine lv_iconst (v := nI (true).toNat) hx hb dL_law_68 (by decide) ?_
  refine zi_st (cI := cI) (n := 15) (q := H4.size) (j := 8) (v := true) hx hb hA hI (by decide) (by decide) (by omega) dL_law_69 (fun H14 hI z2 o2 => ?_)
  replace z1 := z2.trans z1
  replace o1 := fun (q : Nat) (hq : q < H4.size) => (o2 q (by omega)).trans (o1 q hq)
  clear z2 o2
  refine lv_dup hx hb dL_law_70 rfl ?_
  refine lv_bipush (v := nI 9) hx hb dL_law_71 (by decide) ?_
  refine lv_iconst (v := nI (false).toNat) hx hb dL_law_73 (by decide) ?_
  refine zi_st (cI := cI) (n := 15) (q := H4.size) (j := 9) (v := false) hx hb hA hI (by decide) (by decide) (by omega) dL_law_74 (fun H15 hI z2 o2 => ?_)
  replace z1 := z2.trans z1
  replace o1 := fun (q : Nat) (hq : q < H4.size) => (o2 q (by omega)).trans (o1 q hq)
  clear z2 o2
  refine lv_dup hx hb dL_law_75 rfl ?_
  refine lv_bipush (v := nI 10) hx hb dL_law_76 (by decide) ?_
  refine lv_iconst (v := nI (true).toNat) hx hb dL_law_78 (by decide) ?_
  refine zi_st (cI := cI) (n := 15) (q := H4.size) (j := 10) (v := true) hx hb hA hI (by decide) (by decide) (by omega) dL_law_79 (fun H16 hI z2 o2 => ?_)
  replace z1 := z2.trans z1
  replace o1 := fun (q : Nat) (hq : q < H4.size) => (o2 q (by omega)).trans (o1 q hq)
  clear z2 o2
  refine lv_dup hx hb dL_law_80 rfl ?_
  refine lv_bipush (v := nI 11) hx hb dL_law_81 (by decide) ?_
  refine lv_iconst (v := nI (false).toNat) hx hb dL_law_83 (by decide) ?_
  refine zi_st (cI := cI) (n := 15) (q := H4.size) (j := 11) (v := false) hx hb hA hI (by decide) (by decide) (by omega) dL_law_84 (fun H17 hI z2 o2 => ?_)
  replace z1 := z2.trans z1
  replace o1 := fun (q : Nat) (hq : q < H4.size) => (o2 q (by omega)).trans (o1 q hq)
  clear z2 o2
  refine lv_dup hx hb dL_law_85 rfl ?_
  refine lv_bipush (v := nI 12) hx hb dL_law_86 (by decide) ?_
  refine lv_iconst (v := nI (false).toNat) hx hb dL_law_88 (by decide) ?_
  refine zi_st (cI := cI) (n := 15) (q := H4.size) (j := 12) (v := false) hx hb hA hI (by decide) (by decide) (by omega) dL_law_89 (fun H18 hI z2 o2 => ?_)
  replace z1 := z2.trans z1
  replace o1 := fun (q : Nat) (hq : q < H4.size) => (o2 q (by omega)).trans (o1 q hq)
  clear z2 o2
  refine lv_dup hx hb dL_law_90 rfl ?_
  refine lv_bipush (v := nI 13) hx hb dL_law_91 (by decide) ?_
  refine lv_iconst (v := nI (false).toNat) hx hb dL_law_93 (by decide) ?_
  refine zi_st (cI := cI) (n := 15) (q := H4.size) (j := 13) (v := false) hx hb hA hI (by decide) (by decide) (by omega) dL_law_94 (fun H19 hI z2 o2 => ?_)
  replace z1 := z2.trans z1
  replace o1 := fun (q : Nat) (hq : q < H4.size) => (o2 q (by omega)).trans (o1 q hq)
  clear z2 o2
  refine lv_dup hx hb dL_law_95 rfl ?_
  refine lv_bipush (v := nI 14) hx hb dL_law_96 (by decide) ?_
  refine lv_iconst (v := nI (false).toNat) hx hb dL_law_98 (by decide) ?_
  refine zi_st (cI := cI) (n := 15) (q := H4.size) (j := 14) (v := false) hx hb hA hI (by decide) (by decide) (by omega) dL_law_99 (fun H20 hI z2 o2 => ?_)
  replace z1 := z2.trans z1
  replace o1 := fun (q : Nat) (hq : q < H4.size) => (o2 q (by omega)).trans (o1 q hq)
  clear z2 o2
  have hI : zI cI 15 H4.size zfin H20 := hI.congr (fun j hj => by
    rcases (show j = 0 ∨ j = 1 ∨ j = 2 ∨ j = 3 ∨ j = 4 ∨ j = 5 ∨ j = 6 ∨ j = 7 ∨ j = 8 ∨ j = 9 ∨ j = 10 ∨ j = 11 ∨ j = 12 ∨ j = 13 ∨ j = 14 by omega) with e | e | e | e | e | e | e | e | e | e | e | e | e | e | e <;> (subst e; rfl))
  have hW : zLw D k s.heap o bm g H2.size H4.size cI (fun _ _ => false) (fun _ _ => false) H20 := ⟨hD4.kept (o1 o (by omega)) (o1 bm (by omega)) (fun q h1 h2 => o1 q (by omega)), hG4.kept (fun q h1 h2 => o1 q (by omega)), hI, fun q hq => (o1 q (by omega)).trans (hO4 q hq), hoz, by omega, t1, by omega, by omega, by omega⟩
  refine lv_astore_n (lv' := [(3, .ref H4.size), (2, .ref H2.size), (1, .ref o), (0, .ref b)]) hx hb dL_law_100 rfl hl (by decide) rfl (fun ls hl => ?_)
  refine lv_iconst (v := nI 0) hx hb dL_law_101 (by decide) ?_
  refine lv_istore (lv' := [(4, .int (nI 0)), (3, .ref H4.size), (2, .ref H2.size), (1, .ref o), (0, .ref b)]) hx hb dL_law_102 hl (by decide) rfl (fun ls hl => ?_)
  refine W.cs (cells' := 49 + 2 * 0) (slots' := 957 + 14 * 0) rfl rfl ?_
  refine lL_all C hX hbl hL hA rfl (fun H cells slots hc hs ls hsz => ?_) 17 0 (by omega) (by omega) (fun _ _ => false) H20 hW ls (lv_sub hl [4, 3, 2, 1, 0] rfl)
  refine W.widen (k := 1200192) (n := 5500522) hc hs ?_
  refine lv_iconst (v := 1) hx hb dL_law_655 (by decide) ?_
  exact lw_ret hx hb hr hlk dL_law_656
end
section
set_option maxHeartbeats 4000000 in
theorem lw_walk (l : Launch) (hflags : l.flags = flags0) (b : Addr) (xs : List Int32) : MetFree l x (headSpec (Jvm.Cond.code x code maxLocals ret :: tables_1) room_1) (lw_P b xs) (fun _ _ _ _ _ => True) lw_Q := by
  refine MetFree.of_bodyS (code := code) (maxLocals := maxLocals) (ret := ret) (by decide) ?_ ?_
  · intro args s m h hn
    obtain ⟨meth, c, h1, h2, h3, h4, h5, h6, -, -⟩ := Cond.code_spec hn (atoms_spec (ws := Jvm.Cond.code x code maxLocals ret :: tables_1) h _ List.mem_cons_self)
    exact ⟨meth, c, h1, h2, h3, h4, h5, h6⟩
  · intro p e s m args below meth c s₁ B hml0 hP _
    obtain ⟨rfl, hx, hbd, hgv⟩ := hP
    obtain ⟨scr, harrAt, hlist, hof, hsmall⟩ := hx
    obtain ⟨hcb, hkn, -, -⟩ := State.arrayAt?_spec harrAt
    have hown : s.vm.findClass R_law = some m.cls := findClass_of_methodNamed B.named
    have hts0 : ∀ c ∈ (Jvm.Cond.code x code maxLocals ret :: tables_1), c.before #[Value.ref b] s = true := atoms_spec (ws := Jvm.Cond.code x code maxLocals ret :: tables_1) B.pre
    have hts : ∀ w ∈ lw_tbl, w.before #[Value.ref b] s = true := k2_hts_sels lw_privs (fun w hw => hts0 w (List.mem_cons_of_mem _ hw)) lw_privs_ok
    have hml : c.maxLocals = 16 := B.maxLocals_eq (hts0 _ List.mem_cons_self)
    have X₀ : Stand p l e room_1 s m #[Value.ref b] below meth c s₁ [] 0 0 := Stand.of_body B
    have hh0 : s₁.heap = s.heap := by rw [B.state]; rfl
    have hsz : scr.slots.size = xs.length := by rw [← Array.length_toList, hlist, List.length_map]
    have hval : ∀ j : Nat, j < xs.length → scr.slots[j]? = some (.int (xs.getD j 0)) := fun j hj => by
      rw [← Array.getElem?_toList, hlist]
      simp [hj]
    have hbl : b < s.heap.size := (Array.getElem?_eq_some_iff.mp hcb).1
    have hX : va_X b xs.length (fun j => xs.getD j 0) s s.heap := ⟨scr, hcb, hof, hkn, hsz, hval⟩
    have K : W p l e room_1 s m #[Value.ref b] below meth c s₁.heap [] 0 0 (lw_Z below #[Value.ref b] s) (entryFrame m ([Value.ref b] : List Value).toArray 16) := by
      rw [hh0]
      exact whole_start l hflags hbd ⟨B.exec, B.bytes, B.returns, hml, hown, hts, hX, hbl, B.notSynchronized, hgv⟩
    obtain ⟨t, a1, o, b1, b2, b3⟩ := K s₁ rfl X₀
    exact ⟨t, o, a1, b1, b2, b3⟩
theorem lw_pre_spec {args : Array Value} {s : State} (h : (Jvm.Cond.and given_1 narrow_1).before args s = true) (hr : rest_1_c.before args s = true) : ∃ (b : Addr) (xs : List Int32), lw_P b xs args s := by
  have hs := flat_of_before _ h
  have hq := flat_of_before _ hr
  have hc : (Cond.count 1).before args s = true := hs _ (by decide +kernel)
  have harr : (Cond.arrayOf (.arg 0) .int).before args s = true := hs _ (by decide +kernel)
  have hle : (Cond.le (.length (.arg 0)) (.int 96)).before args s = true := hs _ (by decide +kernel)
  have hlen : (Cond.isInt (.length (.arg 0))).before args s = true := hq _ (by decide +kernel)
  have hall : (Cond.all (.arg 0) (.isInt (.elem (.arg 0) (.index 0)))).before args s = true := hq _ (by decide +kernel)
  obtain ⟨b, xs, hb, hx⟩ := State.ints_of_pre rfl harr hlen hall
  have hsm : xs.length < 2 ^ 31 := hx.choose_spec.2.2.2
  have hev : (Term.length (.arg 0)).eval args s none [] s = some (.int xs.length.toInt32) := hx.length_eval hb
  have hv := Cond.le_ints hev (show (Term.int 96).eval args s none [] s = some (.int 96) from rfl)
  have hd : xs.length.toInt32 ≤ 96 := by
    simpa [Cond.before, Cond.holds, hv] using hle
  have hN : xs.length ≤ 96 := (Int32.ofNat_le_ofNat hsm (by decide)).mp (show Int32.ofNat xs.length ≤ Int32.ofNat 96 from hd)
  exact ⟨b, xs, Cond.one_arg hc (show args[0]? = some (.ref b) from hb), hx, hN, h⟩
theorem lw_comes (l : Launch) (hflags : l.flags = flags0) : Comes l x (Jvm.Cond.code x code maxLocals ret :: tables_1) room_1 (fun tb e args s => Calls_1 tb e args s ∧ rest_1 tb e args s ∧ Pre_1 tb e args s)
    (fun _ _ args s o t => lw_Q args s o t) := by
  intro p e ha hc hk s m args below hf hfit hheap happ hpre
  obtain ⟨b, xs, hP⟩ := lw_pre_spec hpre.2.2 hpre.2.1
  obtain ⟨k, o, h1, h2, h3, hQ⟩ := lw_walk l hflags b xs p e ha hc hk s m args below hf ((Spec.applies_iff_loose hf).mp happ).1 hP trivial
  exact ⟨k, o, h1, h2, h3, hQ⟩
theorem lw_frame {s t : State} {o : Outcome} {args : Array Value} (h : Framed s o t [] 1200192 5500522) :
    Framed s o t (fieldLocs frame_1_writes args s ++ arrayLocs frame_1_arrays args s ++ staticLocs frame_1_statics s) 1200192 5500522 := h
theorem lw_limb (L : Cond) (hL : ∀ (args : Array Value) (s t : State), L.after args s (.returned (some (.int 1))) t = true) :
    ArmFor flags0 classFile x code maxLocals ret World_1 tables_1 room_1 Calls_1 rest_1 Pre_1
      (fun tb e a s o t => postC L tb e a s o t ∧ Framed s o t (fieldLocs frame_1_writes a s ++ arrayLocs frame_1_arrays a s ++ staticLocs frame_1_statics s) 1200192 5500522) := by
  intro l hflags _ _ p e ha hc hk s m args below hf hfit hheap happ hpre
  obtain ⟨k, o, h1, h2, h3, rfl, hF⟩ := lw_comes l hflags p e ha hc hk s m args below hf hfit hheap happ hpre
  exact ⟨k, _, h1, h2, h3, hL args s _, lw_frame hF⟩
theorem i_vc : Claimed_1_1 ∧ Claimed_1_2 := ⟨lw_limb limb_1_1 (fun args s t => by simp [limb_1_1, Cond.after, Cond.holds, Cond.value]), lw_limb limb_1_2 (fun args s t => Cond.after_iff.mpr (by
  first | (rw [show limb_1_2 = Cond.eq .result (.int 1) from rfl, Cond.eq_ints (x := 1) (y := 1) rfl rfl]; simp; done) | (simp [limb_1_2, Cond.value, Term.eval]; done)))⟩
end
