section
-- ===== PART A: goes FIRST, ahead of the names: the tables' words, and 'selects' of the private methods out of them =====
/-- a private method of a class that the tables say can be made, by its rows of tables_1 -/
def lw_okq (q : MethodName × Nat) : Prop := (q.1.cls ≠ "java/lang/invoke/MethodHandle" ∧ q.1.cls ≠ "java/lang/invoke/VarHandle") ∧ Cond.instantiable q.1.cls q.2 ∈ tables_1 ∧ Cond.privateMethod q.1 ∈ tables_1 ∧ Cond.instanceMethod q.1 ∈ tables_1
set_option maxRecDepth 100000
theorem lw_p0 : lw_okq (⟨"ShortSortDesk", "from", "(I)I"⟩, 1) := ⟨⟨by decide +kernel, by decide +kernel⟩, List.mem_of_getElem? (i := 8) rfl, List.mem_of_getElem? (i := 34) rfl, List.mem_of_getElem? (i := 35) rfl⟩
theorem lw_p1 : lw_okq (⟨"ShortSortDesk", "to", "(II)I"⟩, 1) := ⟨⟨by decide +kernel, by decide +kernel⟩, List.mem_of_getElem? (i := 8) rfl, List.mem_of_getElem? (i := 38) rfl, List.mem_of_getElem? (i := 39) rfl⟩
def lw_privs_1 : List (MethodName × Nat) := [(⟨"ShortSortDesk", "from", "(I)I"⟩, 1), (⟨"ShortSortDesk", "to", "(II)I"⟩, 1)]
theorem lw_r1 : ∀ q ∈ lw_privs_1, lw_okq q := List.forall_mem_cons.mpr ⟨lw_p0, List.forall_mem_cons.mpr ⟨lw_p1, fun _ h => absurd h List.not_mem_nil⟩⟩
def lw_privs : List (MethodName × Nat) := lw_privs_1
def lw_tbl : List Cond := k2_sels lw_privs ++ tables_1
theorem lw_privs_ok : ∀ q ∈ lw_privs, lw_okq q := lw_r1
-- ===== ONE list of words for every method: the tables' words that hold all through a run =====
def lw_all : List Cond := lw_tbl.filter goodWord
/-- a word of the tables by its place: claim/WORDS.tsv -/
theorem lw_w {w : Cond} (i : Nat) (h : lw_tbl[i]? = some w) (g : goodWord w = true) : w ∈ lw_all := List.mem_filter.mpr ⟨List.mem_of_getElem? h, g⟩
theorem lw_all_tbl {w : Cond} (h : w ∈ lw_all) : w ∈ lw_tbl := (List.mem_filter.mp h).1
theorem lw_self : GoodIn lw_all lw_all := fun w h => ⟨h, good_of_word (List.mem_filter.mp h).2⟩
/-- a class's field words, by their places -/
theorem lw_in (ws : List Cond) (ps : List Nat) (hp : ws = ps.filterMap (fun i => lw_tbl[i]?)) (hg : ws.all goodWord = true) : ∀ w ∈ ws, w ∈ lw_all := by
  intro w h
  have h1 := List.all_eq_true.mp hg w h
  rw [hp] at h
  obtain ⟨i, -, hi⟩ := List.mem_filterMap.mp h
  exact lw_w i hi h1
/-- the words of a contract for the method y with code b, L locals, answer r -/
abbrev ws_ (y : MethodName) (b : ByteArray) (L : Nat) (r : Option FieldType) : List Cond := Cond.code y b L r :: lw_all
theorem lw_meth {y : MethodName} {b : ByteArray} {L : Nat} {r : Option FieldType} (h : Cond.code y b L r ∈ lw_all) : GoodIn lw_all (ws_ y b L r) := by
  intro w hw
  rcases List.mem_cons.mp hw with e | e
  · rw [e]
    exact lw_self _ h
  · exact lw_self _ e
theorem lw_app {a c : List Cond} (ha : ∀ w ∈ a, w ∈ lw_all) (hc : GoodIn lw_all c) : GoodIn lw_all (a ++ c) := by
  intro w hw
  rcases List.mem_append.mp hw with e | e
  · exact lw_self w (ha w e)
  · exact hc w e
/-- what a call through an object asks: cwV n hts (lw_V ..) -/
theorem lw_V {own : String} {idx : Nat} {C : String} {y : MethodName} {b : ByteArray} {L : Nat} {r : Option FieldType} (h1 : Cond.methodLink own idx y ∈ lw_all) (h2 : Cond.instanceMethod y ∈ lw_all) (h3 : Cond.selects C y y ∈ lw_all) (h4 : Cond.initialized C ∈ lw_all) (h5 : Cond.code y b L r ∈ lw_all) : GoodIn lw_all (wsV own idx C y (ws_ y b L r)) := by
  refine lw_app ?_ (lw_meth h5)
  intro w hw
  simp only [List.mem_cons, List.not_mem_nil, or_false] at hw
  rcases hw with e | e | e | e
  · rw [e]; exact h1
  · rw [e]; exact h2
  · rw [e]; exact h3
  · rw [e]; exact h4
/-- what a static call asks: va_cwS n hts (lw_S ..) -/
theorem lw_S {own : String} {idx : Nat} {y : MethodName} {b : ByteArray} {L : Nat} {r : Option FieldType} (h1 : Cond.methodLink own idx y ∈ lw_all) (h2 : Cond.static y ∈ lw_all) (h3 : Cond.initialized y.cls ∈ lw_all) (h4 : Cond.code y b L r ∈ lw_all) : GoodIn lw_all (va_wsS own idx y (ws_ y b L r)) := by
  refine lw_app ?_ (lw_meth h4)
  intro w hw
  simp only [List.mem_cons, List.not_mem_nil, or_false] at hw
  rcases hw with e | e | e
  · rw [e]; exact h1
  · rw [e]; exact h2
  · rw [e]; exact h3
/-- the words of a contract for a method WITH HANDLERS (hh: its table) -/
abbrev wsW_ (y : MethodName) (b : ByteArray) (L : Nat) (r : Option FieldType) (hh : List (Nat × Nat × Nat × Nat)) : List Cond := Cond.codeWith y b L r hh :: lw_all
theorem lw_methW {y : MethodName} {b : ByteArray} {L : Nat} {r : Option FieldType} {hh : List (Nat × Nat × Nat × Nat)} (h : Cond.codeWith y b L r hh ∈ lw_all) : GoodIn lw_all (wsW_ y b L r hh) := by
  intro w hw
  rcases List.mem_cons.mp hw with e | e
  · rw [e]
    exact lw_self _ h
  · exact lw_self _ e
/-- any list of words by their places (lw_in), good -/
theorem lw_good {ws : List Cond} (h : ∀ w ∈ ws, w ∈ lw_all) : GoodIn lw_all ws := fun w hw => lw_self w (h w hw)
/-- what a call of a method with handlers asks: vx_cwVW n hts (lw_VW ..), vx_cwSW n hts (lw_SW ..) -/
theorem lw_VW {own : String} {idx : Nat} {C : String} {y : MethodName} {b : ByteArray} {L : Nat} {r : Option FieldType} {hh : List (Nat × Nat × Nat × Nat)} (h1 : Cond.methodLink own idx y ∈ lw_all) (h2 : Cond.instanceMethod y ∈ lw_all) (h3 : Cond.selects C y y ∈ lw_all) (h4 : Cond.initialized C ∈ lw_all) (h5 : Cond.codeWith y b L r hh ∈ lw_all) : GoodIn lw_all (wsV own idx C y (wsW_ y b L r hh)) := by
  refine lw_app ?_ (lw_methW h5)
  intro w hw
  simp only [List.mem_cons, List.not_mem_nil, or_false] at hw
  rcases hw with e | e | e | e
  · rw [e]; exact h1
  · rw [e]; exact h2
  · rw [e]; exact h3
  · rw [e]; exact h4
theorem lw_SW {own : String} {idx : Nat} {y : MethodName} {b : ByteArray} {L : Nat} {r : Option FieldType} {hh : List (Nat × Nat × Nat × Nat)} (h1 : Cond.methodLink own idx y ∈ lw_all) (h2 : Cond.static y ∈ lw_all) (h3 : Cond.initialized y.cls ∈ lw_all) (h4 : Cond.codeWith y b L r hh ∈ lw_all) : GoodIn lw_all (va_wsS own idx y (wsW_ y b L r hh)) := by
  refine lw_app ?_ (lw_methW h4)
  intro w hw
  simp only [List.mem_cons, List.not_mem_nil, or_false] at hw
  rcases hw with e | e | e
  · rw [e]; exact h1
  · rw [e]; exact h2
  · rw [e]; exact h3
/-- a word by its place in its run of the tables -/
theorem lw_at {r : List Cond} (hr : ∀ w ∈ r, w ∈ lw_tbl) {w : Cond} (i : Nat) (h : r[i]? = some w) : w ∈ lw_tbl := hr w (List.mem_of_getElem? h)
theorem lw_g {w : Cond} (h : w ∈ lw_tbl) (g : goodWord w = true) : w ∈ lw_all := List.mem_filter.mpr ⟨h, g⟩
theorem lw_ms : ∀ w ∈ k2_sels lw_privs, w ∈ lw_tbl := fun w h => show w ∈ k2_sels lw_privs ++ tables_1 from List.mem_append_left _ h
theorem lw_m0 : ∀ w ∈ tables_1, w ∈ lw_tbl := fun w h => show w ∈ k2_sels lw_privs ++ tables_1 from List.mem_append_right (k2_sels lw_privs) h
theorem qs0 : (Cond.selects "ShortSortDesk" ⟨"ShortSortDesk", "from", "(I)I"⟩ ⟨"ShortSortDesk", "from", "(I)I"⟩) ∈ lw_all := lw_g (lw_at lw_ms 0 rfl) rfl
theorem qs1 : (Cond.selects "ShortSortDesk" ⟨"ShortSortDesk", "to", "(II)I"⟩ ⟨"ShortSortDesk", "to", "(II)I"⟩) ∈ lw_all := lw_g (lw_at lw_ms 1 rfl) rfl
/-! DECODE ROWS BY BYTES: one lemma an opcode; a method's code is cut into short pieces once, and a row reads its own piece alone. -/
set_option maxRecDepth 100000
/-- the code has just these bytes from pc on -/
def DkAt (code : ByteArray) (pc : Nat) (bs : List UInt8) : Prop := ∀ (j : Nat) (b : UInt8), bs[j]? = some b → code.data.toList[pc + j]? = some b
/-- the piece W has the bytes bs from its place j on -/
def dkIn (W : List UInt8) (j : Nat) (bs : List UInt8) : Bool := decide ((W.drop j).take bs.length = bs)
theorem dk_seg {l W T : List UInt8} {o o2 : Nat} (h : l.drop o = W ++ T) (n : Nat) (hn : W.length = n) (ho : o + n = o2) : l.drop o2 = T := by
  subst ho
  rw [← List.drop_drop, h, List.drop_left' hn]
theorem dk_at {code : ByteArray} {W T bs : List UInt8} {o pc : Nat} (h : code.data.toList.drop o = W ++ T) (j : Nat) (hp : o + j = pc) (hw : dkIn W j bs = true) : DkAt code pc bs := by
  subst hp
  intro i b e
  have h1 := of_decide_eq_true hw
  have h2 : i < bs.length := (List.getElem?_eq_some_iff.mp e).1
  have h3 : W[j + i]? = some b := by
    rw [← h1, List.getElem?_take, if_pos h2, List.getElem?_drop] at e
    exact e
  have h4 : j + i < W.length := (List.getElem?_eq_some_iff.mp h3).1
  have h5 : (code.data.toList.drop o)[j + i]? = some b := by
    rw [h, List.getElem?_append_left h4]
    exact h3
  rw [List.getElem?_drop, ← Nat.add_assoc] at h5
  exact h5
theorem dk_u1 {A : ByteArray} {p : Nat} {b : UInt8} (h : A.data.toList[p]? = some b) : (Reader.u1 : Reader DecodeError Nat) A p = .ok (b.toNat, p + 1) := by
  obtain ⟨h1, h2⟩ := List.getElem?_eq_some_iff.mp h
  have h3 : p < A.size := by simpa using h1
  have h4 : A[p]'h3 = b := h2
  have e : (Reader.u1 : Reader DecodeError Nat) A p = (if h : p < A.size then .ok (A[p].toNat, p + 1) else .error (HasTruncated.truncated p)) := by
    show (do if h : p < A.size then do set (p + 1); Pure.pure A[p].toNat else MonadExcept.throw (HasTruncated.truncated p) : Reader DecodeError Nat) A p = _
    by_cases hi : p < A.size
    · rw [dif_pos hi, dif_pos hi]; rfl
    · rw [dif_neg hi, dif_neg hi]; rfl
  rw [e, dif_pos h3, h4]
theorem dk_bind {α β : Type} {r : Reader DecodeError α} {f : α → Reader DecodeError β} {A : ByteArray} {p s : Nat} {a : α} (h : r A p = .ok (a, s)) : (r >>= f) A p = f a A s := by
  show (do let (a, s) ← r A p; f a A s : Except DecodeError (β × Nat)) = _
  rw [h]
  rfl
theorem dk_map {α β : Type} {r : Reader DecodeError α} {g : α → β} {A : ByteArray} {p s : Nat} {a : α} (h : r A p = .ok (a, s)) : (g <$> r) A p = .ok (g a, s) := by
  show (do let (a, s) ← r A p; .ok (g a, s) : Except DecodeError (β × Nat)) = _
  rw [h]
  rfl
theorem dk_u2 {A : ByteArray} {p : Nat} {a b : UInt8} (h : A.data.toList[p]? = some a) (h2 : A.data.toList[p + 1]? = some b) : (Reader.u2 : Reader DecodeError Nat) A p = .ok (a.toNat * 256 + b.toNat, p + 2) := by
  show (Reader.u1 >>= fun hi => Reader.u1 >>= fun lo => Pure.pure (hi * 256 + lo) : Reader DecodeError Nat) A p = _
  rw [dk_bind (dk_u1 h), dk_bind (dk_u1 h2)]
  rfl
theorem dk_of {code : ByteArray} {pc n : Nat} {i : Instr} (h : Decoder.instr pc code pc = .ok (i, pc + n)) : decode code pc = .ok (i, n) := by
  have e : decode code pc = (match Decoder.instr pc code pc with | .error x => .error x | .ok (j, s) => .ok (j, s - pc)) := by
    show (do let (j, s) ← Decoder.instr pc code pc; Pure.pure (j, s - pc) : Except DecodeError (Instr × Nat)) = _
    cases Decoder.instr pc code pc <;> rfl
  rw [e, h]
  show Except.ok (i, pc + n - pc) = _
  rw [Nat.add_sub_cancel_left]
theorem dk_1 {code : ByteArray} {pc : Nat} (h : DkAt code pc [1]) : decode code pc = .ok (.aconst_null, 1) := dk_of ((dk_bind (dk_u1 (h 0 _ rfl))).trans rfl)
theorem dk_2 {code : ByteArray} {pc : Nat} (h : DkAt code pc [2]) : decode code pc = .ok (.iconst (-1), 1) := dk_of ((dk_bind (dk_u1 (h 0 _ rfl))).trans rfl)
theorem dk_3 {code : ByteArray} {pc : Nat} (h : DkAt code pc [3]) : decode code pc = .ok (.iconst 0, 1) := dk_of ((dk_bind (dk_u1 (h 0 _ rfl))).trans rfl)
theorem dk_4 {code : ByteArray} {pc : Nat} (h : DkAt code pc [4]) : decode code pc = .ok (.iconst 1, 1) := dk_of ((dk_bind (dk_u1 (h 0 _ rfl))).trans rfl)
theorem dk_5 {code : ByteArray} {pc : Nat} (h : DkAt code pc [5]) : decode code pc = .ok (.iconst 2, 1) := dk_of ((dk_bind (dk_u1 (h 0 _ rfl))).trans rfl)
theorem dk_6 {code : ByteArray} {pc : Nat} (h : DkAt code pc [6]) : decode code pc = .ok (.iconst 3, 1) := dk_of ((dk_bind (dk_u1 (h 0 _ rfl))).trans rfl)
theorem dk_8 {code : ByteArray} {pc : Nat} (h : DkAt code pc [8]) : decode code pc = .ok (.iconst 5, 1) := dk_of ((dk_bind (dk_u1 (h 0 _ rfl))).trans rfl)
theorem dk_16 {code : ByteArray} {pc : Nat} (a : UInt8) (h : DkAt code pc [16, a]) : decode code pc = .ok (.bipush (Reader.signed 8 a.toNat), 2) := dk_of ((dk_bind (dk_u1 (h 0 _ rfl))).trans ((dk_bind (dk_map (dk_u1 (h 1 _ rfl)))).trans rfl))
theorem dk_17 {code : ByteArray} {pc : Nat} (a b : UInt8) (h : DkAt code pc [17, a, b]) : decode code pc = .ok (.sipush (Reader.signed 16 (a.toNat * 256 + b.toNat)), 3) := dk_of ((dk_bind (dk_u1 (h 0 _ rfl))).trans ((dk_bind (dk_map (dk_u2 (h 1 _ rfl) (h 2 _ rfl)))).trans rfl))
theorem dk_18 {code : ByteArray} {pc : Nat} (a : UInt8) (h : DkAt code pc [18, a]) : decode code pc = .ok (.ldc a.toNat, 2) := dk_of ((dk_bind (dk_u1 (h 0 _ rfl))).trans ((dk_bind (dk_u1 (h 1 _ rfl))).trans rfl))
theorem dk_21 {code : ByteArray} {pc : Nat} (a : UInt8) (h : DkAt code pc [21, a]) : decode code pc = .ok (.iload a.toNat, 2) := dk_of ((dk_bind (dk_u1 (h 0 _ rfl))).trans ((dk_bind (dk_u1 (h 1 _ rfl))).trans rfl))
theorem dk_25 {code : ByteArray} {pc : Nat} (a : UInt8) (h : DkAt code pc [25, a]) : decode code pc = .ok (.aload a.toNat, 2) := dk_of ((dk_bind (dk_u1 (h 0 _ rfl))).trans ((dk_bind (dk_u1 (h 1 _ rfl))).trans rfl))
theorem dk_26 {code : ByteArray} {pc : Nat} (h : DkAt code pc [26]) : decode code pc = .ok (.iload_n 0, 1) := dk_of ((dk_bind (dk_u1 (h 0 _ rfl))).trans rfl)
theorem dk_27 {code : ByteArray} {pc : Nat} (h : DkAt code pc [27]) : decode code pc = .ok (.iload_n 1, 1) := dk_of ((dk_bind (dk_u1 (h 0 _ rfl))).trans rfl)
theorem dk_28 {code : ByteArray} {pc : Nat} (h : DkAt code pc [28]) : decode code pc = .ok (.iload_n 2, 1) := dk_of ((dk_bind (dk_u1 (h 0 _ rfl))).trans rfl)
theorem dk_29 {code : ByteArray} {pc : Nat} (h : DkAt code pc [29]) : decode code pc = .ok (.iload_n 3, 1) := dk_of ((dk_bind (dk_u1 (h 0 _ rfl))).trans rfl)
theorem dk_42 {code : ByteArray} {pc : Nat} (h : DkAt code pc [42]) : decode code pc = .ok (.aload_n 0, 1) := dk_of ((dk_bind (dk_u1 (h 0 _ rfl))).trans rfl)
theorem dk_43 {code : ByteArray} {pc : Nat} (h : DkAt code pc [43]) : decode code pc = .ok (.aload_n 1, 1) := dk_of ((dk_bind (dk_u1 (h 0 _ rfl))).trans rfl)
theorem dk_44 {code : ByteArray} {pc : Nat} (h : DkAt code pc [44]) : decode code pc = .ok (.aload_n 2, 1) := dk_of ((dk_bind (dk_u1 (h 0 _ rfl))).trans rfl)
theorem dk_45 {code : ByteArray} {pc : Nat} (h : DkAt code pc [45]) : decode code pc = .ok (.aload_n 3, 1) := dk_of ((dk_bind (dk_u1 (h 0 _ rfl))).trans rfl)
theorem dk_46 {code : ByteArray} {pc : Nat} (h : DkAt code pc [46]) : decode code pc = .ok (.iaload, 1) := dk_of ((dk_bind (dk_u1 (h 0 _ rfl))).trans rfl)
theorem dk_53 {code : ByteArray} {pc : Nat} (h : DkAt code pc [53]) : decode code pc = .ok (.saload, 1) := dk_of ((dk_bind (dk_u1 (h 0 _ rfl))).trans rfl)
theorem dk_54 {code : ByteArray} {pc : Nat} (a : UInt8) (h : DkAt code pc [54, a]) : decode code pc = .ok (.istore a.toNat, 2) := dk_of ((dk_bind (dk_u1 (h 0 _ rfl))).trans ((dk_bind (dk_u1 (h 1 _ rfl))).trans rfl))
theorem dk_58 {code : ByteArray} {pc : Nat} (a : UInt8) (h : DkAt code pc [58, a]) : decode code pc = .ok (.astore a.toNat, 2) := dk_of ((dk_bind (dk_u1 (h 0 _ rfl))).trans ((dk_bind (dk_u1 (h 1 _ rfl))).trans rfl))
theorem dk_60 {code : ByteArray} {pc : Nat} (h : DkAt code pc [60]) : decode code pc = .ok (.istore_n 1, 1) := dk_of ((dk_bind (dk_u1 (h 0 _ rfl))).trans rfl)
theorem dk_61 {code : ByteArray} {pc : Nat} (h : DkAt code pc [61]) : decode code pc = .ok (.istore_n 2, 1) := dk_of ((dk_bind (dk_u1 (h 0 _ rfl))).trans rfl)
theorem dk_62 {code : ByteArray} {pc : Nat} (h : DkAt code pc [62]) : decode code pc = .ok (.istore_n 3, 1) := dk_of ((dk_bind (dk_u1 (h 0 _ rfl))).trans rfl)
theorem dk_76 {code : ByteArray} {pc : Nat} (h : DkAt code pc [76]) : decode code pc = .ok (.astore_n 1, 1) := dk_of ((dk_bind (dk_u1 (h 0 _ rfl))).trans rfl)
theorem dk_77 {code : ByteArray} {pc : Nat} (h : DkAt code pc [77]) : decode code pc = .ok (.astore_n 2, 1) := dk_of ((dk_bind (dk_u1 (h 0 _ rfl))).trans rfl)
theorem dk_78 {code : ByteArray} {pc : Nat} (h : DkAt code pc [78]) : decode code pc = .ok (.astore_n 3, 1) := dk_of ((dk_bind (dk_u1 (h 0 _ rfl))).trans rfl)
theorem dk_79 {code : ByteArray} {pc : Nat} (h : DkAt code pc [79]) : decode code pc = .ok (.iastore, 1) := dk_of ((dk_bind (dk_u1 (h 0 _ rfl))).trans rfl)
theorem dk_86 {code : ByteArray} {pc : Nat} (h : DkAt code pc [86]) : decode code pc = .ok (.sastore, 1) := dk_of ((dk_bind (dk_u1 (h 0 _ rfl))).trans rfl)
theorem dk_87 {code : ByteArray} {pc : Nat} (h : DkAt code pc [87]) : decode code pc = .ok (.pop, 1) := dk_of ((dk_bind (dk_u1 (h 0 _ rfl))).trans rfl)
theorem dk_89 {code : ByteArray} {pc : Nat} (h : DkAt code pc [89]) : decode code pc = .ok (.dup, 1) := dk_of ((dk_bind (dk_u1 (h 0 _ rfl))).trans rfl)
theorem dk_91 {code : ByteArray} {pc : Nat} (h : DkAt code pc [91]) : decode code pc = .ok (.dup_x2, 1) := dk_of ((dk_bind (dk_u1 (h 0 _ rfl))).trans rfl)
theorem dk_92 {code : ByteArray} {pc : Nat} (h : DkAt code pc [92]) : decode code pc = .ok (.dup2, 1) := dk_of ((dk_bind (dk_u1 (h 0 _ rfl))).trans rfl)
theorem dk_96 {code : ByteArray} {pc : Nat} (h : DkAt code pc [96]) : decode code pc = .ok (.iadd, 1) := dk_of ((dk_bind (dk_u1 (h 0 _ rfl))).trans rfl)
theorem dk_100 {code : ByteArray} {pc : Nat} (h : DkAt code pc [100]) : decode code pc = .ok (.isub, 1) := dk_of ((dk_bind (dk_u1 (h 0 _ rfl))).trans rfl)
theorem dk_104 {code : ByteArray} {pc : Nat} (h : DkAt code pc [104]) : decode code pc = .ok (.imul, 1) := dk_of ((dk_bind (dk_u1 (h 0 _ rfl))).trans rfl)
theorem dk_108 {code : ByteArray} {pc : Nat} (h : DkAt code pc [108]) : decode code pc = .ok (.idiv, 1) := dk_of ((dk_bind (dk_u1 (h 0 _ rfl))).trans rfl)
theorem dk_112 {code : ByteArray} {pc : Nat} (h : DkAt code pc [112]) : decode code pc = .ok (.irem, 1) := dk_of ((dk_bind (dk_u1 (h 0 _ rfl))).trans rfl)
theorem dk_116 {code : ByteArray} {pc : Nat} (h : DkAt code pc [116]) : decode code pc = .ok (.ineg, 1) := dk_of ((dk_bind (dk_u1 (h 0 _ rfl))).trans rfl)
theorem dk_122 {code : ByteArray} {pc : Nat} (h : DkAt code pc [122]) : decode code pc = .ok (.ishr, 1) := dk_of ((dk_bind (dk_u1 (h 0 _ rfl))).trans rfl)
theorem dk_124 {code : ByteArray} {pc : Nat} (h : DkAt code pc [124]) : decode code pc = .ok (.iushr, 1) := dk_of ((dk_bind (dk_u1 (h 0 _ rfl))).trans rfl)
theorem dk_126 {code : ByteArray} {pc : Nat} (h : DkAt code pc [126]) : decode code pc = .ok (.iand, 1) := dk_of ((dk_bind (dk_u1 (h 0 _ rfl))).trans rfl)
theorem dk_130 {code : ByteArray} {pc : Nat} (h : DkAt code pc [130]) : decode code pc = .ok (.ixor, 1) := dk_of ((dk_bind (dk_u1 (h 0 _ rfl))).trans rfl)
theorem dk_132 {code : ByteArray} {pc : Nat} (a b : UInt8) (h : DkAt code pc [132, a, b]) : decode code pc = .ok (.iinc a.toNat (Reader.signed 8 b.toNat), 3) := dk_of ((dk_bind (dk_u1 (h 0 _ rfl))).trans ((dk_bind (dk_u1 (h 1 _ rfl))).trans ((dk_bind (dk_map (dk_u1 (h 2 _ rfl)))).trans rfl)))
theorem dk_147 {code : ByteArray} {pc : Nat} (h : DkAt code pc [147]) : decode code pc = .ok (.i2s, 1) := dk_of ((dk_bind (dk_u1 (h 0 _ rfl))).trans rfl)
theorem dk_153 {code : ByteArray} {pc : Nat} (a b : UInt8) (h : DkAt code pc [153, a, b]) : decode code pc = .ok (.ifCond .eq (Reader.signed 16 (a.toNat * 256 + b.toNat)), 3) := dk_of ((dk_bind (dk_u1 (h 0 _ rfl))).trans ((dk_bind (dk_map (dk_u2 (h 1 _ rfl) (h 2 _ rfl)))).trans rfl))
theorem dk_154 {code : ByteArray} {pc : Nat} (a b : UInt8) (h : DkAt code pc [154, a, b]) : decode code pc = .ok (.ifCond .ne (Reader.signed 16 (a.toNat * 256 + b.toNat)), 3) := dk_of ((dk_bind (dk_u1 (h 0 _ rfl))).trans ((dk_bind (dk_map (dk_u2 (h 1 _ rfl) (h 2 _ rfl)))).trans rfl))
theorem dk_155 {code : ByteArray} {pc : Nat} (a b : UInt8) (h : DkAt code pc [155, a, b]) : decode code pc = .ok (.ifCond .lt (Reader.signed 16 (a.toNat * 256 + b.toNat)), 3) := dk_of ((dk_bind (dk_u1 (h 0 _ rfl))).trans ((dk_bind (dk_map (dk_u2 (h 1 _ rfl) (h 2 _ rfl)))).trans rfl))
theorem dk_156 {code : ByteArray} {pc : Nat} (a b : UInt8) (h : DkAt code pc [156, a, b]) : decode code pc = .ok (.ifCond .ge (Reader.signed 16 (a.toNat * 256 + b.toNat)), 3) := dk_of ((dk_bind (dk_u1 (h 0 _ rfl))).trans ((dk_bind (dk_map (dk_u2 (h 1 _ rfl) (h 2 _ rfl)))).trans rfl))
theorem dk_157 {code : ByteArray} {pc : Nat} (a b : UInt8) (h : DkAt code pc [157, a, b]) : decode code pc = .ok (.ifCond .gt (Reader.signed 16 (a.toNat * 256 + b.toNat)), 3) := dk_of ((dk_bind (dk_u1 (h 0 _ rfl))).trans ((dk_bind (dk_map (dk_u2 (h 1 _ rfl) (h 2 _ rfl)))).trans rfl))
theorem dk_158 {code : ByteArray} {pc : Nat} (a b : UInt8) (h : DkAt code pc [158, a, b]) : decode code pc = .ok (.ifCond .le (Reader.signed 16 (a.toNat * 256 + b.toNat)), 3) := dk_of ((dk_bind (dk_u1 (h 0 _ rfl))).trans ((dk_bind (dk_map (dk_u2 (h 1 _ rfl) (h 2 _ rfl)))).trans rfl))
theorem dk_159 {code : ByteArray} {pc : Nat} (a b : UInt8) (h : DkAt code pc [159, a, b]) : decode code pc = .ok (.if_icmp .eq (Reader.signed 16 (a.toNat * 256 + b.toNat)), 3) := dk_of ((dk_bind (dk_u1 (h 0 _ rfl))).trans ((dk_bind (dk_map (dk_u2 (h 1 _ rfl) (h 2 _ rfl)))).trans rfl))
theorem dk_160 {code : ByteArray} {pc : Nat} (a b : UInt8) (h : DkAt code pc [160, a, b]) : decode code pc = .ok (.if_icmp .ne (Reader.signed 16 (a.toNat * 256 + b.toNat)), 3) := dk_of ((dk_bind (dk_u1 (h 0 _ rfl))).trans ((dk_bind (dk_map (dk_u2 (h 1 _ rfl) (h 2 _ rfl)))).trans rfl))
theorem dk_161 {code : ByteArray} {pc : Nat} (a b : UInt8) (h : DkAt code pc [161, a, b]) : decode code pc = .ok (.if_icmp .lt (Reader.signed 16 (a.toNat * 256 + b.toNat)), 3) := dk_of ((dk_bind (dk_u1 (h 0 _ rfl))).trans ((dk_bind (dk_map (dk_u2 (h 1 _ rfl) (h 2 _ rfl)))).trans rfl))
theorem dk_162 {code : ByteArray} {pc : Nat} (a b : UInt8) (h : DkAt code pc [162, a, b]) : decode code pc = .ok (.if_icmp .ge (Reader.signed 16 (a.toNat * 256 + b.toNat)), 3) := dk_of ((dk_bind (dk_u1 (h 0 _ rfl))).trans ((dk_bind (dk_map (dk_u2 (h 1 _ rfl) (h 2 _ rfl)))).trans rfl))
theorem dk_163 {code : ByteArray} {pc : Nat} (a b : UInt8) (h : DkAt code pc [163, a, b]) : decode code pc = .ok (.if_icmp .gt (Reader.signed 16 (a.toNat * 256 + b.toNat)), 3) := dk_of ((dk_bind (dk_u1 (h 0 _ rfl))).trans ((dk_bind (dk_map (dk_u2 (h 1 _ rfl) (h 2 _ rfl)))).trans rfl))
theorem dk_164 {code : ByteArray} {pc : Nat} (a b : UInt8) (h : DkAt code pc [164, a, b]) : decode code pc = .ok (.if_icmp .le (Reader.signed 16 (a.toNat * 256 + b.toNat)), 3) := dk_of ((dk_bind (dk_u1 (h 0 _ rfl))).trans ((dk_bind (dk_map (dk_u2 (h 1 _ rfl) (h 2 _ rfl)))).trans rfl))
theorem dk_167 {code : ByteArray} {pc : Nat} (a b : UInt8) (h : DkAt code pc [167, a, b]) : decode code pc = .ok (.goto (Reader.signed 16 (a.toNat * 256 + b.toNat)), 3) := dk_of ((dk_bind (dk_u1 (h 0 _ rfl))).trans ((dk_bind (dk_map (dk_u2 (h 1 _ rfl) (h 2 _ rfl)))).trans rfl))
theorem dk_172 {code : ByteArray} {pc : Nat} (h : DkAt code pc [172]) : decode code pc = .ok (.ireturn, 1) := dk_of ((dk_bind (dk_u1 (h 0 _ rfl))).trans rfl)
theorem dk_176 {code : ByteArray} {pc : Nat} (h : DkAt code pc [176]) : decode code pc = .ok (.areturn, 1) := dk_of ((dk_bind (dk_u1 (h 0 _ rfl))).trans rfl)
theorem dk_177 {code : ByteArray} {pc : Nat} (h : DkAt code pc [177]) : decode code pc = .ok (.return_, 1) := dk_of ((dk_bind (dk_u1 (h 0 _ rfl))).trans rfl)
theorem dk_180 {code : ByteArray} {pc : Nat} (a b : UInt8) (h : DkAt code pc [180, a, b]) : decode code pc = .ok (.getfield (a.toNat * 256 + b.toNat), 3) := dk_of ((dk_bind (dk_u1 (h 0 _ rfl))).trans ((dk_bind (dk_u2 (h 1 _ rfl) (h 2 _ rfl))).trans rfl))
theorem dk_181 {code : ByteArray} {pc : Nat} (a b : UInt8) (h : DkAt code pc [181, a, b]) : decode code pc = .ok (.putfield (a.toNat * 256 + b.toNat), 3) := dk_of ((dk_bind (dk_u1 (h 0 _ rfl))).trans ((dk_bind (dk_u2 (h 1 _ rfl) (h 2 _ rfl))).trans rfl))
theorem dk_182 {code : ByteArray} {pc : Nat} (a b : UInt8) (h : DkAt code pc [182, a, b]) : decode code pc = .ok (.invokevirtual (a.toNat * 256 + b.toNat), 3) := dk_of ((dk_bind (dk_u1 (h 0 _ rfl))).trans ((dk_bind (dk_u2 (h 1 _ rfl) (h 2 _ rfl))).trans rfl))
theorem dk_183 {code : ByteArray} {pc : Nat} (a b : UInt8) (h : DkAt code pc [183, a, b]) : decode code pc = .ok (.invokespecial (a.toNat * 256 + b.toNat), 3) := dk_of ((dk_bind (dk_u1 (h 0 _ rfl))).trans ((dk_bind (dk_u2 (h 1 _ rfl) (h 2 _ rfl))).trans rfl))
theorem dk_184 {code : ByteArray} {pc : Nat} (a b : UInt8) (h : DkAt code pc [184, a, b]) : decode code pc = .ok (.invokestatic (a.toNat * 256 + b.toNat), 3) := dk_of ((dk_bind (dk_u1 (h 0 _ rfl))).trans ((dk_bind (dk_u2 (h 1 _ rfl) (h 2 _ rfl))).trans rfl))
theorem dk_187 {code : ByteArray} {pc : Nat} (a b : UInt8) (h : DkAt code pc [187, a, b]) : decode code pc = .ok (.new (a.toNat * 256 + b.toNat), 3) := dk_of ((dk_bind (dk_u1 (h 0 _ rfl))).trans ((dk_bind (dk_u2 (h 1 _ rfl) (h 2 _ rfl))).trans rfl))
theorem dk_188_9 {code : ByteArray} {pc : Nat} (h : DkAt code pc [188, 9]) : decode code pc = .ok (.newarray .short, 2) := dk_of ((dk_bind (dk_u1 (h 0 _ rfl))).trans ((dk_bind (dk_u1 (h 1 _ rfl))).trans rfl))
theorem dk_188_10 {code : ByteArray} {pc : Nat} (h : DkAt code pc [188, 10]) : decode code pc = .ok (.newarray .int, 2) := dk_of ((dk_bind (dk_u1 (h 0 _ rfl))).trans ((dk_bind (dk_u1 (h 1 _ rfl))).trans rfl))
theorem dk_190 {code : ByteArray} {pc : Nat} (h : DkAt code pc [190]) : decode code pc = .ok (.arraylength, 1) := dk_of ((dk_bind (dk_u1 (h 0 _ rfl))).trans rfl)
theorem dk_192 {code : ByteArray} {pc : Nat} (a b : UInt8) (h : DkAt code pc [192, a, b]) : decode code pc = .ok (.checkcast (a.toNat * 256 + b.toNat), 3) := dk_of ((dk_bind (dk_u1 (h 0 _ rfl))).trans ((dk_bind (dk_u2 (h 1 _ rfl) (h 2 _ rfl))).trans rfl))
theorem dk_199 {code : ByteArray} {pc : Nat} (a b : UInt8) (h : DkAt code pc [199, a, b]) : decode code pc = .ok (.ifnonnull (Reader.signed 16 (a.toNat * 256 + b.toNat)), 3) := dk_of ((dk_bind (dk_u1 (h 0 _ rfl))).trans ((dk_bind (dk_map (dk_u2 (h 1 _ rfl) (h 2 _ rfl)))).trans rfl))
end
section
/-! java/lang/Short -/
set_option maxRecDepth 100000
def RJ0 : String := "java/lang/Short"
abbrev cJ0_compare : ByteArray := prog_6_method_22_code
def yJ0_compare : MethodName := ⟨RJ0, "compare", "(SS)I"⟩
def dkwJ0_compare_0 : List UInt8 := [26, 27, 100, 172]
abbrev dktJ0_compare_0 : List UInt8 := dkwJ0_compare_0 ++ []
theorem dksJ0_compare_0 : cJ0_compare.data.toList.drop 0 = dktJ0_compare_0 := by decide +kernel
theorem dJ0_compare_0 : decode cJ0_compare 0 = .ok (.iload_n 0, 1) := dk_26 (dk_at dksJ0_compare_0 0 rfl rfl)
theorem dJ0_compare_1 : decode cJ0_compare 1 = .ok (.iload_n 1, 1) := dk_27 (dk_at dksJ0_compare_0 1 rfl rfl)
theorem dJ0_compare_2 : decode cJ0_compare 2 = .ok (.isub, 1) := dk_100 (dk_at dksJ0_compare_0 2 rfl rfl)
theorem dJ0_compare_3 : decode cJ0_compare 3 = .ok (.ireturn, 1) := dk_172 (dk_at dksJ0_compare_0 3 rfl rfl)
theorem q5 : (Jvm.Cond.initialized "java/lang/Short") ∈ lw_all := lw_g (lw_at lw_m0 3 rfl) rfl
theorem q89 : (Jvm.Cond.static ({ cls := "java/lang/Short", name := "compare", desc := "(SS)I" } : Jvm.MethodName)) ∈ lw_all := lw_g (lw_at lw_m0 87 rfl) rfl
theorem q90 : (Jvm.Cond.code ({ cls := "java/lang/Short", name := "compare", desc := "(SS)I" } : Jvm.MethodName) prog_6_method_22_code (2 : Nat) (Option.some Jvm.ClassFile.FieldType.int)) ∈ lw_all := lw_g (lw_at lw_m0 88 rfl) rfl
/-! java/lang/Math -/
set_option maxRecDepth 100000
def RJ1 : String := "java/lang/Math"
abbrev cJ1_min : ByteArray := prog_5_method_69_code
def yJ1_min : MethodName := ⟨RJ1, "min", "(II)I"⟩
def dkwJ1_min_0 : List UInt8 := [26, 27, 163, 0, 7, 26, 167, 0, 4, 27, 172]
abbrev dktJ1_min_0 : List UInt8 := dkwJ1_min_0 ++ []
theorem dksJ1_min_0 : cJ1_min.data.toList.drop 0 = dktJ1_min_0 := by decide +kernel
theorem dJ1_min_0 : decode cJ1_min 0 = .ok (.iload_n 0, 1) := dk_26 (dk_at dksJ1_min_0 0 rfl rfl)
theorem dJ1_min_1 : decode cJ1_min 1 = .ok (.iload_n 1, 1) := dk_27 (dk_at dksJ1_min_0 1 rfl rfl)
theorem dJ1_min_2 : decode cJ1_min 2 = .ok (.if_icmp .gt 7, 3) := dk_163 0 7 (dk_at dksJ1_min_0 2 rfl rfl)
theorem dJ1_min_5 : decode cJ1_min 5 = .ok (.iload_n 0, 1) := dk_26 (dk_at dksJ1_min_0 5 rfl rfl)
theorem dJ1_min_6 : decode cJ1_min 6 = .ok (.goto 4, 3) := dk_167 0 4 (dk_at dksJ1_min_0 6 rfl rfl)
theorem dJ1_min_9 : decode cJ1_min 9 = .ok (.iload_n 1, 1) := dk_27 (dk_at dksJ1_min_0 9 rfl rfl)
theorem dJ1_min_10 : decode cJ1_min 10 = .ok (.ireturn, 1) := dk_172 (dk_at dksJ1_min_0 10 rfl rfl)
theorem q6 : (Jvm.Cond.initialized "java/lang/Math") ∈ lw_all := lw_g (lw_at lw_m0 4 rfl) rfl
theorem q95 : (Jvm.Cond.static ({ cls := "java/lang/Math", name := "min", desc := "(II)I" } : Jvm.MethodName)) ∈ lw_all := lw_g (lw_at lw_m0 93 rfl) rfl
theorem q96 : (Jvm.Cond.code ({ cls := "java/lang/Math", name := "min", desc := "(II)I" } : Jvm.MethodName) prog_5_method_69_code (2 : Nat) (Option.some Jvm.ClassFile.FieldType.int)) ∈ lw_all := lw_g (lw_at lw_m0 94 rfl) rfl
/-! java/util/Arrays -/
set_option maxRecDepth 100000
def RJ2 : String := "java/util/Arrays"
abbrev cJ2_copyOf : ByteArray := prog_8_method_122_code
def yJ2_copyOf : MethodName := ⟨RJ2, "copyOf", "([SI)[S"⟩
def dkwJ2_copyOf_1 : List UInt8 := [27, 184, 1, 48, 184, 0, 150, 44, 176]
abbrev dktJ2_copyOf_1 : List UInt8 := dkwJ2_copyOf_1 ++ []
def dkwJ2_copyOf_0 : List UInt8 := [27, 42, 190, 160, 0, 11, 42, 182, 1, 57, 192, 1, 58, 176, 27, 188, 9, 77, 42, 3, 44, 3, 42, 190]
abbrev dktJ2_copyOf_0 : List UInt8 := dkwJ2_copyOf_0 ++ dktJ2_copyOf_1
theorem dksJ2_copyOf_0 : cJ2_copyOf.data.toList.drop 0 = dktJ2_copyOf_0 := by decide +kernel
theorem dksJ2_copyOf_1 : cJ2_copyOf.data.toList.drop 24 = dktJ2_copyOf_1 := dk_seg dksJ2_copyOf_0 24 rfl rfl
theorem dJ2_copyOf_0 : decode cJ2_copyOf 0 = .ok (.iload_n 1, 1) := dk_27 (dk_at dksJ2_copyOf_0 0 rfl rfl)
theorem dJ2_copyOf_1 : decode cJ2_copyOf 1 = .ok (.aload_n 0, 1) := dk_42 (dk_at dksJ2_copyOf_0 1 rfl rfl)
theorem dJ2_copyOf_2 : decode cJ2_copyOf 2 = .ok (.arraylength, 1) := dk_190 (dk_at dksJ2_copyOf_0 2 rfl rfl)
theorem dJ2_copyOf_3 : decode cJ2_copyOf 3 = .ok (.if_icmp .ne 11, 3) := dk_160 0 11 (dk_at dksJ2_copyOf_0 3 rfl rfl)
theorem dJ2_copyOf_6 : decode cJ2_copyOf 6 = .ok (.aload_n 0, 1) := dk_42 (dk_at dksJ2_copyOf_0 6 rfl rfl)
theorem dJ2_copyOf_7 : decode cJ2_copyOf 7 = .ok (.invokevirtual 313, 3) := dk_182 1 57 (dk_at dksJ2_copyOf_0 7 rfl rfl)
theorem dJ2_copyOf_10 : decode cJ2_copyOf 10 = .ok (.checkcast 314, 3) := dk_192 1 58 (dk_at dksJ2_copyOf_0 10 rfl rfl)
theorem dJ2_copyOf_13 : decode cJ2_copyOf 13 = .ok (.areturn, 1) := dk_176 (dk_at dksJ2_copyOf_0 13 rfl rfl)
theorem dJ2_copyOf_14 : decode cJ2_copyOf 14 = .ok (.iload_n 1, 1) := dk_27 (dk_at dksJ2_copyOf_0 14 rfl rfl)
theorem dJ2_copyOf_15 : decode cJ2_copyOf 15 = .ok (.newarray .short, 2) := dk_188_9 (dk_at dksJ2_copyOf_0 15 rfl rfl)
theorem dJ2_copyOf_17 : decode cJ2_copyOf 17 = .ok (.astore_n 2, 1) := dk_77 (dk_at dksJ2_copyOf_0 17 rfl rfl)
theorem dJ2_copyOf_18 : decode cJ2_copyOf 18 = .ok (.aload_n 0, 1) := dk_42 (dk_at dksJ2_copyOf_0 18 rfl rfl)
theorem dJ2_copyOf_19 : decode cJ2_copyOf 19 = .ok (.iconst 0, 1) := dk_3 (dk_at dksJ2_copyOf_0 19 rfl rfl)
theorem dJ2_copyOf_20 : decode cJ2_copyOf 20 = .ok (.aload_n 2, 1) := dk_44 (dk_at dksJ2_copyOf_0 20 rfl rfl)
theorem dJ2_copyOf_21 : decode cJ2_copyOf 21 = .ok (.iconst 0, 1) := dk_3 (dk_at dksJ2_copyOf_0 21 rfl rfl)
theorem dJ2_copyOf_22 : decode cJ2_copyOf 22 = .ok (.aload_n 0, 1) := dk_42 (dk_at dksJ2_copyOf_0 22 rfl rfl)
theorem dJ2_copyOf_23 : decode cJ2_copyOf 23 = .ok (.arraylength, 1) := dk_190 (dk_at dksJ2_copyOf_0 23 rfl rfl)
theorem dJ2_copyOf_24 : decode cJ2_copyOf 24 = .ok (.iload_n 1, 1) := dk_27 (dk_at dksJ2_copyOf_1 0 rfl rfl)
theorem dJ2_copyOf_25 : decode cJ2_copyOf 25 = .ok (.invokestatic 304, 3) := dk_184 1 48 (dk_at dksJ2_copyOf_1 1 rfl rfl)
theorem dJ2_copyOf_28 : decode cJ2_copyOf 28 = .ok (.invokestatic 150, 3) := dk_184 0 150 (dk_at dksJ2_copyOf_1 4 rfl rfl)
theorem dJ2_copyOf_31 : decode cJ2_copyOf 31 = .ok (.aload_n 2, 1) := dk_44 (dk_at dksJ2_copyOf_1 7 rfl rfl)
theorem dJ2_copyOf_32 : decode cJ2_copyOf 32 = .ok (.areturn, 1) := dk_176 (dk_at dksJ2_copyOf_1 8 rfl rfl)
theorem q7 : (Jvm.Cond.initialized "java/util/Arrays") ∈ lw_all := lw_g (lw_at lw_m0 5 rfl) rfl
theorem q116 : (Jvm.Cond.static ({ cls := "java/util/Arrays", name := "copyOf", desc := "([SI)[S" } : Jvm.MethodName)) ∈ lw_all := lw_g (lw_at lw_m0 114 rfl) rfl
theorem q117 : (Jvm.Cond.code ({ cls := "java/util/Arrays", name := "copyOf", desc := "([SI)[S" } : Jvm.MethodName) prog_8_method_122_code (3 : Nat) (Option.some (Jvm.ClassFile.FieldType.array Jvm.ClassFile.FieldType.short))) ∈ lw_all := lw_g (lw_at lw_m0 115 rfl) rfl
theorem q118 : (Jvm.Cond.methodLink "java/util/Arrays" (313 : Nat) ({ cls := "[S", name := "clone", desc := "()Ljava/lang/Object;" } : Jvm.MethodName)) ∈ lw_all := lw_g (lw_at lw_m0 116 rfl) rfl
theorem q124 : (Jvm.Cond.classLink "java/util/Arrays" (314 : Nat) "[S") ∈ lw_all := lw_g (lw_at lw_m0 122 rfl) rfl
theorem q125 : (Jvm.Cond.methodLink "java/util/Arrays" (304 : Nat) ({ cls := "java/lang/Math", name := "min", desc := "(II)I" } : Jvm.MethodName)) ∈ lw_all := lw_g (lw_at lw_m0 123 rfl) rfl
theorem q126 : (Jvm.Cond.methodLink "java/util/Arrays" (150 : Nat) ({ cls := "java/lang/System", name := "arraycopy", desc := "(Ljava/lang/Object;ILjava/lang/Object;II)V" } : Jvm.MethodName)) ∈ lw_all := lw_g (lw_at lw_m0 124 rfl) rfl
/-! java/lang/Object -/
set_option maxRecDepth 100000
def RJ3 : String := "java/lang/Object"
abbrev cJ3_init : ByteArray := object_method_1_code
def yJ3_init : MethodName := ⟨RJ3, "<init>", "()V"⟩
theorem dJ3_init_0 : decode cJ3_init 0 = .ok (.return_, 1) := by decide +kernel
theorem q15 : (Jvm.Cond.instanceMethod ({ cls := "java/lang/Object", name := "<init>", desc := "()V" } : Jvm.MethodName)) ∈ lw_all := lw_g (lw_at lw_m0 13 rfl) rfl
theorem q16 : (Jvm.Cond.code ({ cls := "java/lang/Object", name := "<init>", desc := "()V" } : Jvm.MethodName) object_method_1_code (1 : Nat) (Option.none : Option Jvm.ClassFile.FieldType)) ∈ lw_all := lw_g (lw_at lw_m0 14 rfl) rfl
theorem q120 : (Jvm.Cond.native ({ cls := "java/lang/Object", name := "clone", desc := "()Ljava/lang/Object;" } : Jvm.MethodName)) ∈ lw_all := lw_g (lw_at lw_m0 118 rfl) rfl
theorem q121 : (Jvm.Cond.instanceMethod ({ cls := "java/lang/Object", name := "clone", desc := "()Ljava/lang/Object;" } : Jvm.MethodName)) ∈ lw_all := lw_g (lw_at lw_m0 119 rfl) rfl
theorem q138 : (Jvm.Cond.initialized "java/lang/Object") ∈ lw_all := lw_g (lw_at lw_m0 136 rfl) rfl
theorem q21 : (Jvm.Cond.arrayClass Jvm.ClassFile.FieldType.short) ∈ lw_all := lw_g (lw_at lw_m0 19 rfl) rfl
set_option maxRecDepth 100000
theorem q137 : (Jvm.Cond.arrayClass Jvm.ClassFile.FieldType.int) ∈ lw_all := lw_g (lw_at lw_m0 135 rfl) rfl
theorem q8 : (Jvm.Cond.initialized "java/lang/System") ∈ lw_all := lw_g (lw_at lw_m0 6 rfl) rfl
set_option maxRecDepth 100000
theorem q127 : (Jvm.Cond.static ({ cls := "java/lang/System", name := "arraycopy", desc := "(Ljava/lang/Object;ILjava/lang/Object;II)V" } : Jvm.MethodName)) ∈ lw_all := lw_g (lw_at lw_m0 125 rfl) rfl
theorem q128 : (Jvm.Cond.native ({ cls := "java/lang/System", name := "arraycopy", desc := "(Ljava/lang/Object;ILjava/lang/Object;II)V" } : Jvm.MethodName)) ∈ lw_all := lw_g (lw_at lw_m0 126 rfl) rfl
theorem q119 : (Jvm.Cond.sameMethod "[S" "java/lang/Object" "clone" "()Ljava/lang/Object;") ∈ lw_all := lw_g (lw_at lw_m0 117 rfl) rfl
set_option maxRecDepth 100000
theorem q122 : (Jvm.Cond.selects "[S" ({ cls := "[S", name := "clone", desc := "()Ljava/lang/Object;" } : Jvm.MethodName) ({ cls := "java/lang/Object", name := "clone", desc := "()Ljava/lang/Object;" } : Jvm.MethodName)) ∈ lw_all := lw_g (lw_at lw_m0 120 rfl) rfl
theorem q123 : (Jvm.Cond.castable "[S" "java/lang/Cloneable") ∈ lw_tbl := lw_at lw_m0 121 rfl
/-! ShortSortDesk -/
set_option maxRecDepth 100000
def RX1 : String := "ShortSortDesk"
def TX1 : u_T := fun k => match k with
  | _ => ("ShortSortDesk", "row", "[S", true)
def tyX1 : Nat → FieldType := fun k => match k with
  | _ => .array .short
abbrev wsX10 : List Cond := u_ws RX1 TX1 1
theorem nmX1 : ∀ a, a < 1 → ∀ b, b < 1 → a ≠ b → (TX1 a).2.1 ≠ (TX1 b).2.1 := by decide +kernel
theorem tyX1_ok : ∀ k, k < 1 → parseFieldDescriptor (TX1 k).2.2.1 = some (tyX1 k) := by decide +kernel
abbrev cX1_init : ByteArray := prog_2_method_1_code
def yX1_init : MethodName := ⟨RX1, "<init>", "()V"⟩
def dkwX1_init_0 : List UInt8 := [42, 183, 0, 1, 42, 16, 48, 188, 9, 181, 0, 7, 177]
abbrev dktX1_init_0 : List UInt8 := dkwX1_init_0 ++ []
theorem dksX1_init_0 : cX1_init.data.toList.drop 0 = dktX1_init_0 := by decide +kernel
theorem dX1_init_0 : decode cX1_init 0 = .ok (.aload_n 0, 1) := dk_42 (dk_at dksX1_init_0 0 rfl rfl)
theorem dX1_init_1 : decode cX1_init 1 = .ok (.invokespecial 1, 3) := dk_183 0 1 (dk_at dksX1_init_0 1 rfl rfl)
theorem dX1_init_4 : decode cX1_init 4 = .ok (.aload_n 0, 1) := dk_42 (dk_at dksX1_init_0 4 rfl rfl)
theorem dX1_init_5 : decode cX1_init 5 = .ok (.bipush 48, 2) := dk_16 48 (dk_at dksX1_init_0 5 rfl rfl)
theorem dX1_init_7 : decode cX1_init 7 = .ok (.newarray .short, 2) := dk_188_9 (dk_at dksX1_init_0 7 rfl rfl)
theorem dX1_init_9 : decode cX1_init 9 = .ok (.putfield 7, 3) := dk_181 0 7 (dk_at dksX1_init_0 9 rfl rfl)
theorem dX1_init_12 : decode cX1_init 12 = .ok (.return_, 1) := dk_177 (dk_at dksX1_init_0 12 rfl rfl)
abbrev cX1_set : ByteArray := prog_2_method_2_code
def yX1_set : MethodName := ⟨RX1, "set", "(II)V"⟩
def dkwX1_set_0 : List UInt8 := [42, 180, 0, 7, 27, 18, 13, 126, 16, 48, 112, 28, 147, 86, 177]
abbrev dktX1_set_0 : List UInt8 := dkwX1_set_0 ++ []
theorem dksX1_set_0 : cX1_set.data.toList.drop 0 = dktX1_set_0 := by decide +kernel
theorem dX1_set_0 : decode cX1_set 0 = .ok (.aload_n 0, 1) := dk_42 (dk_at dksX1_set_0 0 rfl rfl)
theorem dX1_set_1 : decode cX1_set 1 = .ok (.getfield 7, 3) := dk_180 0 7 (dk_at dksX1_set_0 1 rfl rfl)
theorem dX1_set_4 : decode cX1_set 4 = .ok (.iload_n 1, 1) := dk_27 (dk_at dksX1_set_0 4 rfl rfl)
theorem dX1_set_5 : decode cX1_set 5 = .ok (.ldc 13, 2) := dk_18 13 (dk_at dksX1_set_0 5 rfl rfl)
theorem dX1_set_7 : decode cX1_set 7 = .ok (.iand, 1) := dk_126 (dk_at dksX1_set_0 7 rfl rfl)
theorem dX1_set_8 : decode cX1_set 8 = .ok (.bipush 48, 2) := dk_16 48 (dk_at dksX1_set_0 8 rfl rfl)
theorem dX1_set_10 : decode cX1_set 10 = .ok (.irem, 1) := dk_112 (dk_at dksX1_set_0 10 rfl rfl)
theorem dX1_set_11 : decode cX1_set 11 = .ok (.iload_n 2, 1) := dk_28 (dk_at dksX1_set_0 11 rfl rfl)
theorem dX1_set_12 : decode cX1_set 12 = .ok (.i2s, 1) := dk_147 (dk_at dksX1_set_0 12 rfl rfl)
theorem dX1_set_13 : decode cX1_set 13 = .ok (.sastore, 1) := dk_86 (dk_at dksX1_set_0 13 rfl rfl)
theorem dX1_set_14 : decode cX1_set 14 = .ok (.return_, 1) := dk_177 (dk_at dksX1_set_0 14 rfl rfl)
abbrev cX1_get : ByteArray := prog_2_method_3_code
def yX1_get : MethodName := ⟨RX1, "get", "(I)I"⟩
def dkwX1_get_0 : List UInt8 := [42, 180, 0, 7, 27, 18, 13, 126, 16, 48, 112, 53, 172]
abbrev dktX1_get_0 : List UInt8 := dkwX1_get_0 ++ []
theorem dksX1_get_0 : cX1_get.data.toList.drop 0 = dktX1_get_0 := by decide +kernel
theorem dX1_get_0 : decode cX1_get 0 = .ok (.aload_n 0, 1) := dk_42 (dk_at dksX1_get_0 0 rfl rfl)
theorem dX1_get_1 : decode cX1_get 1 = .ok (.getfield 7, 3) := dk_180 0 7 (dk_at dksX1_get_0 1 rfl rfl)
theorem dX1_get_4 : decode cX1_get 4 = .ok (.iload_n 1, 1) := dk_27 (dk_at dksX1_get_0 4 rfl rfl)
theorem dX1_get_5 : decode cX1_get 5 = .ok (.ldc 13, 2) := dk_18 13 (dk_at dksX1_get_0 5 rfl rfl)
theorem dX1_get_7 : decode cX1_get 7 = .ok (.iand, 1) := dk_126 (dk_at dksX1_get_0 7 rfl rfl)
theorem dX1_get_8 : decode cX1_get 8 = .ok (.bipush 48, 2) := dk_16 48 (dk_at dksX1_get_0 8 rfl rfl)
theorem dX1_get_10 : decode cX1_get 10 = .ok (.irem, 1) := dk_112 (dk_at dksX1_get_0 10 rfl rfl)
theorem dX1_get_11 : decode cX1_get 11 = .ok (.saload, 1) := dk_53 (dk_at dksX1_get_0 11 rfl rfl)
theorem dX1_get_12 : decode cX1_get 12 = .ok (.ireturn, 1) := dk_172 (dk_at dksX1_get_0 12 rfl rfl)
abbrev cX1_reverse : ByteArray := prog_2_method_9_code
def yX1_reverse : MethodName := ⟨RX1, "reverse", "(II)V"⟩
def dkwX1_reverse_0 : List UInt8 := [42, 27, 182, 0, 14, 62, 42, 180, 0, 7, 29, 42, 29, 28, 182, 0, 18, 184, 0, 34, 87, 177]
abbrev dktX1_reverse_0 : List UInt8 := dkwX1_reverse_0 ++ []
theorem dksX1_reverse_0 : cX1_reverse.data.toList.drop 0 = dktX1_reverse_0 := by decide +kernel
theorem dX1_reverse_0 : decode cX1_reverse 0 = .ok (.aload_n 0, 1) := dk_42 (dk_at dksX1_reverse_0 0 rfl rfl)
theorem dX1_reverse_1 : decode cX1_reverse 1 = .ok (.iload_n 1, 1) := dk_27 (dk_at dksX1_reverse_0 1 rfl rfl)
theorem dX1_reverse_2 : decode cX1_reverse 2 = .ok (.invokevirtual 14, 3) := dk_182 0 14 (dk_at dksX1_reverse_0 2 rfl rfl)
theorem dX1_reverse_5 : decode cX1_reverse 5 = .ok (.istore_n 3, 1) := dk_62 (dk_at dksX1_reverse_0 5 rfl rfl)
theorem dX1_reverse_6 : decode cX1_reverse 6 = .ok (.aload_n 0, 1) := dk_42 (dk_at dksX1_reverse_0 6 rfl rfl)
theorem dX1_reverse_7 : decode cX1_reverse 7 = .ok (.getfield 7, 3) := dk_180 0 7 (dk_at dksX1_reverse_0 7 rfl rfl)
theorem dX1_reverse_10 : decode cX1_reverse 10 = .ok (.iload_n 3, 1) := dk_29 (dk_at dksX1_reverse_0 10 rfl rfl)
theorem dX1_reverse_11 : decode cX1_reverse 11 = .ok (.aload_n 0, 1) := dk_42 (dk_at dksX1_reverse_0 11 rfl rfl)
theorem dX1_reverse_12 : decode cX1_reverse 12 = .ok (.iload_n 3, 1) := dk_29 (dk_at dksX1_reverse_0 12 rfl rfl)
theorem dX1_reverse_13 : decode cX1_reverse 13 = .ok (.iload_n 2, 1) := dk_28 (dk_at dksX1_reverse_0 13 rfl rfl)
theorem dX1_reverse_14 : decode cX1_reverse 14 = .ok (.invokevirtual 18, 3) := dk_182 0 18 (dk_at dksX1_reverse_0 14 rfl rfl)
theorem dX1_reverse_17 : decode cX1_reverse 17 = .ok (.invokestatic 34, 3) := dk_184 0 34 (dk_at dksX1_reverse_0 17 rfl rfl)
theorem dX1_reverse_20 : decode cX1_reverse 20 = .ok (.pop, 1) := dk_87 (dk_at dksX1_reverse_0 20 rfl rfl)
theorem dX1_reverse_21 : decode cX1_reverse 21 = .ok (.return_, 1) := dk_177 (dk_at dksX1_reverse_0 21 rfl rfl)
abbrev cX1_from : ByteArray := prog_2_method_4_code
def yX1_from : MethodName := ⟨RX1, "from", "(I)I"⟩
def dkwX1_from_0 : List UInt8 := [27, 18, 13, 126, 16, 49, 112, 172]
abbrev dktX1_from_0 : List UInt8 := dkwX1_from_0 ++ []
theorem dksX1_from_0 : cX1_from.data.toList.drop 0 = dktX1_from_0 := by decide +kernel
theorem dX1_from_0 : decode cX1_from 0 = .ok (.iload_n 1, 1) := dk_27 (dk_at dksX1_from_0 0 rfl rfl)
theorem dX1_from_1 : decode cX1_from 1 = .ok (.ldc 13, 2) := dk_18 13 (dk_at dksX1_from_0 1 rfl rfl)
theorem dX1_from_3 : decode cX1_from 3 = .ok (.iand, 1) := dk_126 (dk_at dksX1_from_0 3 rfl rfl)
theorem dX1_from_4 : decode cX1_from 4 = .ok (.bipush 49, 2) := dk_16 49 (dk_at dksX1_from_0 4 rfl rfl)
theorem dX1_from_6 : decode cX1_from 6 = .ok (.irem, 1) := dk_112 (dk_at dksX1_from_0 6 rfl rfl)
theorem dX1_from_7 : decode cX1_from 7 = .ok (.ireturn, 1) := dk_172 (dk_at dksX1_from_0 7 rfl rfl)
abbrev cX1_to : ByteArray := prog_2_method_5_code
def yX1_to : MethodName := ⟨RX1, "to", "(II)I"⟩
def dkwX1_to_0 : List UInt8 := [27, 28, 18, 13, 126, 16, 49, 27, 100, 112, 96, 172]
abbrev dktX1_to_0 : List UInt8 := dkwX1_to_0 ++ []
theorem dksX1_to_0 : cX1_to.data.toList.drop 0 = dktX1_to_0 := by decide +kernel
theorem dX1_to_0 : decode cX1_to 0 = .ok (.iload_n 1, 1) := dk_27 (dk_at dksX1_to_0 0 rfl rfl)
theorem dX1_to_1 : decode cX1_to 1 = .ok (.iload_n 2, 1) := dk_28 (dk_at dksX1_to_0 1 rfl rfl)
theorem dX1_to_2 : decode cX1_to 2 = .ok (.ldc 13, 2) := dk_18 13 (dk_at dksX1_to_0 2 rfl rfl)
theorem dX1_to_4 : decode cX1_to 4 = .ok (.iand, 1) := dk_126 (dk_at dksX1_to_0 4 rfl rfl)
theorem dX1_to_5 : decode cX1_to 5 = .ok (.bipush 49, 2) := dk_16 49 (dk_at dksX1_to_0 5 rfl rfl)
theorem dX1_to_7 : decode cX1_to 7 = .ok (.iload_n 1, 1) := dk_27 (dk_at dksX1_to_0 7 rfl rfl)
theorem dX1_to_8 : decode cX1_to 8 = .ok (.isub, 1) := dk_100 (dk_at dksX1_to_0 8 rfl rfl)
theorem dX1_to_9 : decode cX1_to 9 = .ok (.irem, 1) := dk_112 (dk_at dksX1_to_0 9 rfl rfl)
theorem dX1_to_10 : decode cX1_to 10 = .ok (.iadd, 1) := dk_96 (dk_at dksX1_to_0 10 rfl rfl)
theorem dX1_to_11 : decode cX1_to 11 = .ok (.ireturn, 1) := dk_172 (dk_at dksX1_to_0 11 rfl rfl)
abbrev cX1_find : ByteArray := prog_2_method_10_code
def yX1_find : MethodName := ⟨RX1, "find", "(III)I"⟩
def dkwX1_find_2 : List UInt8 := [16, 156, 172, 132, 6, 1, 167, 255, 224, 42, 180, 0, 7, 21, 4, 21, 5, 29, 147, 184, 0, 38, 172]
abbrev dktX1_find_2 : List UInt8 := dkwX1_find_2 ++ []
def dkwX1_find_1 : List UInt8 := [21, 5, 162, 0, 31, 42, 180, 0, 7, 21, 6, 4, 100, 53, 42, 180, 0, 7, 21, 6, 53, 161, 0, 6]
abbrev dktX1_find_1 : List UInt8 := dkwX1_find_1 ++ dktX1_find_2
def dkwX1_find_0 : List UInt8 := [42, 27, 182, 0, 14, 54, 4, 42, 21, 4, 28, 182, 0, 18, 54, 5, 21, 4, 4, 96, 54, 6, 21, 6]
abbrev dktX1_find_0 : List UInt8 := dkwX1_find_0 ++ dktX1_find_1
theorem dksX1_find_0 : cX1_find.data.toList.drop 0 = dktX1_find_0 := by decide +kernel
theorem dksX1_find_1 : cX1_find.data.toList.drop 24 = dktX1_find_1 := dk_seg dksX1_find_0 24 rfl rfl
theorem dksX1_find_2 : cX1_find.data.toList.drop 48 = dktX1_find_2 := dk_seg dksX1_find_1 24 rfl rfl
theorem dX1_find_0 : decode cX1_find 0 = .ok (.aload_n 0, 1) := dk_42 (dk_at dksX1_find_0 0 rfl rfl)
theorem dX1_find_1 : decode cX1_find 1 = .ok (.iload_n 1, 1) := dk_27 (dk_at dksX1_find_0 1 rfl rfl)
theorem dX1_find_2 : decode cX1_find 2 = .ok (.invokevirtual 14, 3) := dk_182 0 14 (dk_at dksX1_find_0 2 rfl rfl)
theorem dX1_find_5 : decode cX1_find 5 = .ok (.istore 4, 2) := dk_54 4 (dk_at dksX1_find_0 5 rfl rfl)
theorem dX1_find_7 : decode cX1_find 7 = .ok (.aload_n 0, 1) := dk_42 (dk_at dksX1_find_0 7 rfl rfl)
theorem dX1_find_8 : decode cX1_find 8 = .ok (.iload 4, 2) := dk_21 4 (dk_at dksX1_find_0 8 rfl rfl)
theorem dX1_find_10 : decode cX1_find 10 = .ok (.iload_n 2, 1) := dk_28 (dk_at dksX1_find_0 10 rfl rfl)
theorem dX1_find_11 : decode cX1_find 11 = .ok (.invokevirtual 18, 3) := dk_182 0 18 (dk_at dksX1_find_0 11 rfl rfl)
theorem dX1_find_14 : decode cX1_find 14 = .ok (.istore 5, 2) := dk_54 5 (dk_at dksX1_find_0 14 rfl rfl)
theorem dX1_find_16 : decode cX1_find 16 = .ok (.iload 4, 2) := dk_21 4 (dk_at dksX1_find_0 16 rfl rfl)
theorem dX1_find_18 : decode cX1_find 18 = .ok (.iconst 1, 1) := dk_4 (dk_at dksX1_find_0 18 rfl rfl)
theorem dX1_find_19 : decode cX1_find 19 = .ok (.iadd, 1) := dk_96 (dk_at dksX1_find_0 19 rfl rfl)
theorem dX1_find_20 : decode cX1_find 20 = .ok (.istore 6, 2) := dk_54 6 (dk_at dksX1_find_0 20 rfl rfl)
theorem dX1_find_22 : decode cX1_find 22 = .ok (.iload 6, 2) := dk_21 6 (dk_at dksX1_find_0 22 rfl rfl)
theorem dX1_find_24 : decode cX1_find 24 = .ok (.iload 5, 2) := dk_21 5 (dk_at dksX1_find_1 0 rfl rfl)
theorem dX1_find_26 : decode cX1_find 26 = .ok (.if_icmp .ge 31, 3) := dk_162 0 31 (dk_at dksX1_find_1 2 rfl rfl)
theorem dX1_find_29 : decode cX1_find 29 = .ok (.aload_n 0, 1) := dk_42 (dk_at dksX1_find_1 5 rfl rfl)
theorem dX1_find_30 : decode cX1_find 30 = .ok (.getfield 7, 3) := dk_180 0 7 (dk_at dksX1_find_1 6 rfl rfl)
theorem dX1_find_33 : decode cX1_find 33 = .ok (.iload 6, 2) := dk_21 6 (dk_at dksX1_find_1 9 rfl rfl)
theorem dX1_find_35 : decode cX1_find 35 = .ok (.iconst 1, 1) := dk_4 (dk_at dksX1_find_1 11 rfl rfl)
theorem dX1_find_36 : decode cX1_find 36 = .ok (.isub, 1) := dk_100 (dk_at dksX1_find_1 12 rfl rfl)
theorem dX1_find_37 : decode cX1_find 37 = .ok (.saload, 1) := dk_53 (dk_at dksX1_find_1 13 rfl rfl)
theorem dX1_find_38 : decode cX1_find 38 = .ok (.aload_n 0, 1) := dk_42 (dk_at dksX1_find_1 14 rfl rfl)
theorem dX1_find_39 : decode cX1_find 39 = .ok (.getfield 7, 3) := dk_180 0 7 (dk_at dksX1_find_1 15 rfl rfl)
theorem dX1_find_42 : decode cX1_find 42 = .ok (.iload 6, 2) := dk_21 6 (dk_at dksX1_find_1 18 rfl rfl)
theorem dX1_find_44 : decode cX1_find 44 = .ok (.saload, 1) := dk_53 (dk_at dksX1_find_1 20 rfl rfl)
theorem dX1_find_45 : decode cX1_find 45 = .ok (.if_icmp .lt 6, 3) := dk_161 0 6 (dk_at dksX1_find_1 21 rfl rfl)
theorem dX1_find_48 : decode cX1_find 48 = .ok (.bipush (-100), 2) := dk_16 156 (dk_at dksX1_find_2 0 rfl rfl)
theorem dX1_find_50 : decode cX1_find 50 = .ok (.ireturn, 1) := dk_172 (dk_at dksX1_find_2 2 rfl rfl)
theorem dX1_find_51 : decode cX1_find 51 = .ok (.iinc 6 1, 3) := dk_132 6 1 (dk_at dksX1_find_2 3 rfl rfl)
theorem dX1_find_54 : decode cX1_find 54 = .ok (.goto (-32), 3) := dk_167 255 224 (dk_at dksX1_find_2 6 rfl rfl)
theorem dX1_find_57 : decode cX1_find 57 = .ok (.aload_n 0, 1) := dk_42 (dk_at dksX1_find_2 9 rfl rfl)
theorem dX1_find_58 : decode cX1_find 58 = .ok (.getfield 7, 3) := dk_180 0 7 (dk_at dksX1_find_2 10 rfl rfl)
theorem dX1_find_61 : decode cX1_find 61 = .ok (.iload 4, 2) := dk_21 4 (dk_at dksX1_find_2 13 rfl rfl)
theorem dX1_find_63 : decode cX1_find 63 = .ok (.iload 5, 2) := dk_21 5 (dk_at dksX1_find_2 15 rfl rfl)
theorem dX1_find_65 : decode cX1_find 65 = .ok (.iload_n 3, 1) := dk_29 (dk_at dksX1_find_2 17 rfl rfl)
theorem dX1_find_66 : decode cX1_find 66 = .ok (.i2s, 1) := dk_147 (dk_at dksX1_find_2 18 rfl rfl)
theorem dX1_find_67 : decode cX1_find 67 = .ok (.invokestatic 38, 3) := dk_184 0 38 (dk_at dksX1_find_2 19 rfl rfl)
theorem dX1_find_70 : decode cX1_find 70 = .ok (.ireturn, 1) := dk_172 (dk_at dksX1_find_2 22 rfl rfl)
abbrev cX1_quick : ByteArray := prog_2_method_6_code
def yX1_quick : MethodName := ⟨RX1, "quick", "(II)V"⟩
def dkwX1_quick_0 : List UInt8 := [42, 27, 182, 0, 14, 62, 42, 180, 0, 7, 29, 42, 29, 28, 182, 0, 18, 184, 0, 22, 177]
abbrev dktX1_quick_0 : List UInt8 := dkwX1_quick_0 ++ []
theorem dksX1_quick_0 : cX1_quick.data.toList.drop 0 = dktX1_quick_0 := by decide +kernel
theorem dX1_quick_0 : decode cX1_quick 0 = .ok (.aload_n 0, 1) := dk_42 (dk_at dksX1_quick_0 0 rfl rfl)
theorem dX1_quick_1 : decode cX1_quick 1 = .ok (.iload_n 1, 1) := dk_27 (dk_at dksX1_quick_0 1 rfl rfl)
theorem dX1_quick_2 : decode cX1_quick 2 = .ok (.invokevirtual 14, 3) := dk_182 0 14 (dk_at dksX1_quick_0 2 rfl rfl)
theorem dX1_quick_5 : decode cX1_quick 5 = .ok (.istore_n 3, 1) := dk_62 (dk_at dksX1_quick_0 5 rfl rfl)
theorem dX1_quick_6 : decode cX1_quick 6 = .ok (.aload_n 0, 1) := dk_42 (dk_at dksX1_quick_0 6 rfl rfl)
theorem dX1_quick_7 : decode cX1_quick 7 = .ok (.getfield 7, 3) := dk_180 0 7 (dk_at dksX1_quick_0 7 rfl rfl)
theorem dX1_quick_10 : decode cX1_quick 10 = .ok (.iload_n 3, 1) := dk_29 (dk_at dksX1_quick_0 10 rfl rfl)
theorem dX1_quick_11 : decode cX1_quick 11 = .ok (.aload_n 0, 1) := dk_42 (dk_at dksX1_quick_0 11 rfl rfl)
theorem dX1_quick_12 : decode cX1_quick 12 = .ok (.iload_n 3, 1) := dk_29 (dk_at dksX1_quick_0 12 rfl rfl)
theorem dX1_quick_13 : decode cX1_quick 13 = .ok (.iload_n 2, 1) := dk_28 (dk_at dksX1_quick_0 13 rfl rfl)
theorem dX1_quick_14 : decode cX1_quick 14 = .ok (.invokevirtual 18, 3) := dk_182 0 18 (dk_at dksX1_quick_0 14 rfl rfl)
theorem dX1_quick_17 : decode cX1_quick 17 = .ok (.invokestatic 22, 3) := dk_184 0 22 (dk_at dksX1_quick_0 17 rfl rfl)
theorem dX1_quick_20 : decode cX1_quick 20 = .ok (.return_, 1) := dk_177 (dk_at dksX1_quick_0 20 rfl rfl)
abbrev cX1_merge : ByteArray := prog_2_method_7_code
def yX1_merge : MethodName := ⟨RX1, "merge", "(II)V"⟩
def dkwX1_merge_0 : List UInt8 := [42, 27, 182, 0, 14, 62, 42, 180, 0, 7, 29, 42, 29, 28, 182, 0, 18, 184, 0, 28, 177]
abbrev dktX1_merge_0 : List UInt8 := dkwX1_merge_0 ++ []
theorem dksX1_merge_0 : cX1_merge.data.toList.drop 0 = dktX1_merge_0 := by decide +kernel
theorem dX1_merge_0 : decode cX1_merge 0 = .ok (.aload_n 0, 1) := dk_42 (dk_at dksX1_merge_0 0 rfl rfl)
theorem dX1_merge_1 : decode cX1_merge 1 = .ok (.iload_n 1, 1) := dk_27 (dk_at dksX1_merge_0 1 rfl rfl)
theorem dX1_merge_2 : decode cX1_merge 2 = .ok (.invokevirtual 14, 3) := dk_182 0 14 (dk_at dksX1_merge_0 2 rfl rfl)
theorem dX1_merge_5 : decode cX1_merge 5 = .ok (.istore_n 3, 1) := dk_62 (dk_at dksX1_merge_0 5 rfl rfl)
theorem dX1_merge_6 : decode cX1_merge 6 = .ok (.aload_n 0, 1) := dk_42 (dk_at dksX1_merge_0 6 rfl rfl)
theorem dX1_merge_7 : decode cX1_merge 7 = .ok (.getfield 7, 3) := dk_180 0 7 (dk_at dksX1_merge_0 7 rfl rfl)
theorem dX1_merge_10 : decode cX1_merge 10 = .ok (.iload_n 3, 1) := dk_29 (dk_at dksX1_merge_0 10 rfl rfl)
theorem dX1_merge_11 : decode cX1_merge 11 = .ok (.aload_n 0, 1) := dk_42 (dk_at dksX1_merge_0 11 rfl rfl)
theorem dX1_merge_12 : decode cX1_merge 12 = .ok (.iload_n 3, 1) := dk_29 (dk_at dksX1_merge_0 12 rfl rfl)
theorem dX1_merge_13 : decode cX1_merge 13 = .ok (.iload_n 2, 1) := dk_28 (dk_at dksX1_merge_0 13 rfl rfl)
theorem dX1_merge_14 : decode cX1_merge 14 = .ok (.invokevirtual 18, 3) := dk_182 0 18 (dk_at dksX1_merge_0 14 rfl rfl)
theorem dX1_merge_17 : decode cX1_merge 17 = .ok (.invokestatic 28, 3) := dk_184 0 28 (dk_at dksX1_merge_0 17 rfl rfl)
theorem dX1_merge_20 : decode cX1_merge 20 = .ok (.return_, 1) := dk_177 (dk_at dksX1_merge_0 20 rfl rfl)
abbrev cX1_radix : ByteArray := prog_2_method_8_code
def yX1_radix : MethodName := ⟨RX1, "radix", "(II)V"⟩
def dkwX1_radix_0 : List UInt8 := [42, 27, 182, 0, 14, 62, 42, 180, 0, 7, 29, 42, 29, 28, 182, 0, 18, 184, 0, 31, 177]
abbrev dktX1_radix_0 : List UInt8 := dkwX1_radix_0 ++ []
theorem dksX1_radix_0 : cX1_radix.data.toList.drop 0 = dktX1_radix_0 := by decide +kernel
theorem dX1_radix_0 : decode cX1_radix 0 = .ok (.aload_n 0, 1) := dk_42 (dk_at dksX1_radix_0 0 rfl rfl)
theorem dX1_radix_1 : decode cX1_radix 1 = .ok (.iload_n 1, 1) := dk_27 (dk_at dksX1_radix_0 1 rfl rfl)
theorem dX1_radix_2 : decode cX1_radix 2 = .ok (.invokevirtual 14, 3) := dk_182 0 14 (dk_at dksX1_radix_0 2 rfl rfl)
theorem dX1_radix_5 : decode cX1_radix 5 = .ok (.istore_n 3, 1) := dk_62 (dk_at dksX1_radix_0 5 rfl rfl)
theorem dX1_radix_6 : decode cX1_radix 6 = .ok (.aload_n 0, 1) := dk_42 (dk_at dksX1_radix_0 6 rfl rfl)
theorem dX1_radix_7 : decode cX1_radix 7 = .ok (.getfield 7, 3) := dk_180 0 7 (dk_at dksX1_radix_0 7 rfl rfl)
theorem dX1_radix_10 : decode cX1_radix 10 = .ok (.iload_n 3, 1) := dk_29 (dk_at dksX1_radix_0 10 rfl rfl)
theorem dX1_radix_11 : decode cX1_radix 11 = .ok (.aload_n 0, 1) := dk_42 (dk_at dksX1_radix_0 11 rfl rfl)
theorem dX1_radix_12 : decode cX1_radix 12 = .ok (.iload_n 3, 1) := dk_29 (dk_at dksX1_radix_0 12 rfl rfl)
theorem dX1_radix_13 : decode cX1_radix 13 = .ok (.iload_n 2, 1) := dk_28 (dk_at dksX1_radix_0 13 rfl rfl)
theorem dX1_radix_14 : decode cX1_radix 14 = .ok (.invokevirtual 18, 3) := dk_182 0 18 (dk_at dksX1_radix_0 14 rfl rfl)
theorem dX1_radix_17 : decode cX1_radix 17 = .ok (.invokestatic 31, 3) := dk_184 0 31 (dk_at dksX1_radix_0 17 rfl rfl)
theorem dX1_radix_20 : decode cX1_radix 20 = .ok (.return_, 1) := dk_177 (dk_at dksX1_radix_0 20 rfl rfl)
theorem q3 : (Jvm.Cond.initialized "ShortSortDesk") ∈ lw_all := lw_g (lw_at lw_m0 1 rfl) rfl
theorem q10 : (Jvm.Cond.instantiable "ShortSortDesk" (1 : Nat)) ∈ lw_all := lw_g (lw_at lw_m0 8 rfl) rfl
theorem q12 : (Jvm.Cond.instanceMethod ({ cls := "ShortSortDesk", name := "<init>", desc := "()V" } : Jvm.MethodName)) ∈ lw_all := lw_g (lw_at lw_m0 10 rfl) rfl
theorem q13 : (Jvm.Cond.code ({ cls := "ShortSortDesk", name := "<init>", desc := "()V" } : Jvm.MethodName) prog_2_method_1_code (1 : Nat) (Option.none : Option Jvm.ClassFile.FieldType)) ∈ lw_all := lw_g (lw_at lw_m0 11 rfl) rfl
theorem q14 : (Jvm.Cond.methodLink "ShortSortDesk" (1 : Nat) ({ cls := "java/lang/Object", name := "<init>", desc := "()V" } : Jvm.MethodName)) ∈ lw_all := lw_g (lw_at lw_m0 12 rfl) rfl
theorem q17 : (Jvm.Cond.fieldLink "ShortSortDesk" (7 : Nat) "ShortSortDesk" "row" "[S") ∈ lw_all := lw_g (lw_at lw_m0 15 rfl) rfl
theorem q18 : (Jvm.Cond.laysFinal "ShortSortDesk" "ShortSortDesk" "row" "[S") ∈ lw_all := lw_g (lw_at lw_m0 16 rfl) rfl
theorem q19 : (Jvm.Cond.soleField "ShortSortDesk" "row") ∈ lw_all := lw_g (lw_at lw_m0 17 rfl) rfl
theorem q20 : (Jvm.Cond.superclass "ShortSortDesk" "java/lang/Object") ∈ lw_all := lw_g (lw_at lw_m0 18 rfl) rfl
theorem q23 : (Jvm.Cond.instanceMethod ({ cls := "ShortSortDesk", name := "set", desc := "(II)V" } : Jvm.MethodName)) ∈ lw_all := lw_g (lw_at lw_m0 21 rfl) rfl
theorem q24 : (Jvm.Cond.selects "ShortSortDesk" ({ cls := "ShortSortDesk", name := "set", desc := "(II)V" } : Jvm.MethodName) ({ cls := "ShortSortDesk", name := "set", desc := "(II)V" } : Jvm.MethodName)) ∈ lw_all := lw_g (lw_at lw_m0 22 rfl) rfl
theorem q25 : (Jvm.Cond.code ({ cls := "ShortSortDesk", name := "set", desc := "(II)V" } : Jvm.MethodName) prog_2_method_2_code (3 : Nat) (Option.none : Option Jvm.ClassFile.FieldType)) ∈ lw_all := lw_g (lw_at lw_m0 23 rfl) rfl
theorem q26 : (Jvm.Cond.constant "ShortSortDesk" (13 : Nat) (2147483647 : Int32)) ∈ lw_all := lw_g (lw_at lw_m0 24 rfl) rfl
theorem q28 : (Jvm.Cond.instanceMethod ({ cls := "ShortSortDesk", name := "get", desc := "(I)I" } : Jvm.MethodName)) ∈ lw_all := lw_g (lw_at lw_m0 26 rfl) rfl
theorem q29 : (Jvm.Cond.selects "ShortSortDesk" ({ cls := "ShortSortDesk", name := "get", desc := "(I)I" } : Jvm.MethodName) ({ cls := "ShortSortDesk", name := "get", desc := "(I)I" } : Jvm.MethodName)) ∈ lw_all := lw_g (lw_at lw_m0 27 rfl) rfl
theorem q30 : (Jvm.Cond.code ({ cls := "ShortSortDesk", name := "get", desc := "(I)I" } : Jvm.MethodName) prog_2_method_3_code (2 : Nat) (Option.some Jvm.ClassFile.FieldType.int)) ∈ lw_all := lw_g (lw_at lw_m0 28 rfl) rfl
theorem q32 : (Jvm.Cond.instanceMethod ({ cls := "ShortSortDesk", name := "reverse", desc := "(II)V" } : Jvm.MethodName)) ∈ lw_all := lw_g (lw_at lw_m0 30 rfl) rfl
theorem q33 : (Jvm.Cond.selects "ShortSortDesk" ({ cls := "ShortSortDesk", name := "reverse", desc := "(II)V" } : Jvm.MethodName) ({ cls := "ShortSortDesk", name := "reverse", desc := "(II)V" } : Jvm.MethodName)) ∈ lw_all := lw_g (lw_at lw_m0 31 rfl) rfl
theorem q34 : (Jvm.Cond.code ({ cls := "ShortSortDesk", name := "reverse", desc := "(II)V" } : Jvm.MethodName) prog_2_method_9_code (4 : Nat) (Option.none : Option Jvm.ClassFile.FieldType)) ∈ lw_all := lw_g (lw_at lw_m0 32 rfl) rfl
theorem q35 : (Jvm.Cond.methodLink "ShortSortDesk" (14 : Nat) ({ cls := "ShortSortDesk", name := "from", desc := "(I)I" } : Jvm.MethodName)) ∈ lw_all := lw_g (lw_at lw_m0 33 rfl) rfl
theorem q36 : (Jvm.Cond.privateMethod ({ cls := "ShortSortDesk", name := "from", desc := "(I)I" } : Jvm.MethodName)) ∈ lw_tbl := lw_at lw_m0 34 rfl
theorem q37 : (Jvm.Cond.instanceMethod ({ cls := "ShortSortDesk", name := "from", desc := "(I)I" } : Jvm.MethodName)) ∈ lw_all := lw_g (lw_at lw_m0 35 rfl) rfl
theorem q38 : (Jvm.Cond.code ({ cls := "ShortSortDesk", name := "from", desc := "(I)I" } : Jvm.MethodName) prog_2_method_4_code (2 : Nat) (Option.some Jvm.ClassFile.FieldType.int)) ∈ lw_all := lw_g (lw_at lw_m0 36 rfl) rfl
theorem q39 : (Jvm.Cond.methodLink "ShortSortDesk" (18 : Nat) ({ cls := "ShortSortDesk", name := "to", desc := "(II)I" } : Jvm.MethodName)) ∈ lw_all := lw_g (lw_at lw_m0 37 rfl) rfl
theorem q40 : (Jvm.Cond.privateMethod ({ cls := "ShortSortDesk", name := "to", desc := "(II)I" } : Jvm.MethodName)) ∈ lw_tbl := lw_at lw_m0 38 rfl
theorem q41 : (Jvm.Cond.instanceMethod ({ cls := "ShortSortDesk", name := "to", desc := "(II)I" } : Jvm.MethodName)) ∈ lw_all := lw_g (lw_at lw_m0 39 rfl) rfl
theorem q42 : (Jvm.Cond.code ({ cls := "ShortSortDesk", name := "to", desc := "(II)I" } : Jvm.MethodName) prog_2_method_5_code (3 : Nat) (Option.some Jvm.ClassFile.FieldType.int)) ∈ lw_all := lw_g (lw_at lw_m0 40 rfl) rfl
theorem q43 : (Jvm.Cond.methodLink "ShortSortDesk" (34 : Nat) ({ cls := "ShortArrays", name := "reverse", desc := "([SII)[S" } : Jvm.MethodName)) ∈ lw_all := lw_g (lw_at lw_m0 41 rfl) rfl
theorem q47 : (Jvm.Cond.instanceMethod ({ cls := "ShortSortDesk", name := "find", desc := "(III)I" } : Jvm.MethodName)) ∈ lw_all := lw_g (lw_at lw_m0 45 rfl) rfl
theorem q48 : (Jvm.Cond.selects "ShortSortDesk" ({ cls := "ShortSortDesk", name := "find", desc := "(III)I" } : Jvm.MethodName) ({ cls := "ShortSortDesk", name := "find", desc := "(III)I" } : Jvm.MethodName)) ∈ lw_all := lw_g (lw_at lw_m0 46 rfl) rfl
theorem q49 : (Jvm.Cond.code ({ cls := "ShortSortDesk", name := "find", desc := "(III)I" } : Jvm.MethodName) prog_2_method_10_code (7 : Nat) (Option.some Jvm.ClassFile.FieldType.int)) ∈ lw_all := lw_g (lw_at lw_m0 47 rfl) rfl
theorem q50 : (Jvm.Cond.methodLink "ShortSortDesk" (38 : Nat) ({ cls := "ShortArrays", name := "binarySearch", desc := "([SIIS)I" } : Jvm.MethodName)) ∈ lw_all := lw_g (lw_at lw_m0 48 rfl) rfl
theorem q76 : (Jvm.Cond.instanceMethod ({ cls := "ShortSortDesk", name := "quick", desc := "(II)V" } : Jvm.MethodName)) ∈ lw_all := lw_g (lw_at lw_m0 74 rfl) rfl
theorem q77 : (Jvm.Cond.selects "ShortSortDesk" ({ cls := "ShortSortDesk", name := "quick", desc := "(II)V" } : Jvm.MethodName) ({ cls := "ShortSortDesk", name := "quick", desc := "(II)V" } : Jvm.MethodName)) ∈ lw_all := lw_g (lw_at lw_m0 75 rfl) rfl
theorem q78 : (Jvm.Cond.code ({ cls := "ShortSortDesk", name := "quick", desc := "(II)V" } : Jvm.MethodName) prog_2_method_6_code (4 : Nat) (Option.none : Option Jvm.ClassFile.FieldType)) ∈ lw_all := lw_g (lw_at lw_m0 76 rfl) rfl
theorem q79 : (Jvm.Cond.methodLink "ShortSortDesk" (22 : Nat) ({ cls := "ShortArrays", name := "quickSort", desc := "([SII)V" } : Jvm.MethodName)) ∈ lw_all := lw_g (lw_at lw_m0 77 rfl) rfl
theorem q102 : (Jvm.Cond.instanceMethod ({ cls := "ShortSortDesk", name := "merge", desc := "(II)V" } : Jvm.MethodName)) ∈ lw_all := lw_g (lw_at lw_m0 100 rfl) rfl
theorem q103 : (Jvm.Cond.selects "ShortSortDesk" ({ cls := "ShortSortDesk", name := "merge", desc := "(II)V" } : Jvm.MethodName) ({ cls := "ShortSortDesk", name := "merge", desc := "(II)V" } : Jvm.MethodName)) ∈ lw_all := lw_g (lw_at lw_m0 101 rfl) rfl
theorem q104 : (Jvm.Cond.code ({ cls := "ShortSortDesk", name := "merge", desc := "(II)V" } : Jvm.MethodName) prog_2_method_7_code (4 : Nat) (Option.none : Option Jvm.ClassFile.FieldType)) ∈ lw_all := lw_g (lw_at lw_m0 102 rfl) rfl
theorem q105 : (Jvm.Cond.methodLink "ShortSortDesk" (28 : Nat) ({ cls := "ShortArrays", name := "mergeSort", desc := "([SII)V" } : Jvm.MethodName)) ∈ lw_all := lw_g (lw_at lw_m0 103 rfl) rfl
theorem q131 : (Jvm.Cond.instanceMethod ({ cls := "ShortSortDesk", name := "radix", desc := "(II)V" } : Jvm.MethodName)) ∈ lw_all := lw_g (lw_at lw_m0 129 rfl) rfl
theorem q132 : (Jvm.Cond.selects "ShortSortDesk" ({ cls := "ShortSortDesk", name := "radix", desc := "(II)V" } : Jvm.MethodName) ({ cls := "ShortSortDesk", name := "radix", desc := "(II)V" } : Jvm.MethodName)) ∈ lw_all := lw_g (lw_at lw_m0 130 rfl) rfl
theorem q133 : (Jvm.Cond.code ({ cls := "ShortSortDesk", name := "radix", desc := "(II)V" } : Jvm.MethodName) prog_2_method_8_code (4 : Nat) (Option.none : Option Jvm.ClassFile.FieldType)) ∈ lw_all := lw_g (lw_at lw_m0 131 rfl) rfl
theorem q134 : (Jvm.Cond.methodLink "ShortSortDesk" (31 : Nat) ({ cls := "ShortArrays", name := "radixSort", desc := "([SII)V" } : Jvm.MethodName)) ∈ lw_all := lw_g (lw_at lw_m0 132 rfl) rfl
theorem in_X1 : ∀ w ∈ wsX10, w ∈ lw_all := lw_in wsX10 [18] (by decide +kernel) (by decide +kernel)
/-! ShortArrays -/
set_option maxRecDepth 100000
def RX2 : String := "ShortArrays"
abbrev cX2_reverse : ByteArray := prog_1_method_11_code
def yX2_reverse : MethodName := ⟨RX2, "reverse", "([SII)[S"⟩
def dkwX2_reverse_2 : List UInt8 := [21, 4, 96, 21, 5, 86, 167, 255, 212, 42, 176]
abbrev dktX2_reverse_2 : List UInt8 := dkwX2_reverse_2 ++ []
def dkwX2_reverse_1 : List UInt8 := [4, 100, 53, 54, 5, 42, 27, 29, 96, 21, 4, 100, 4, 100, 42, 27, 21, 4, 96, 53, 86, 42, 27]
abbrev dktX2_reverse_1 : List UInt8 := dkwX2_reverse_1 ++ dktX2_reverse_2
def dkwX2_reverse_0 : List UInt8 := [28, 27, 100, 62, 29, 5, 108, 54, 4, 21, 4, 132, 4, 255, 153, 0, 42, 42, 27, 29, 96, 21, 4, 100]
abbrev dktX2_reverse_0 : List UInt8 := dkwX2_reverse_0 ++ dktX2_reverse_1
theorem dksX2_reverse_0 : cX2_reverse.data.toList.drop 0 = dktX2_reverse_0 := by decide +kernel
theorem dksX2_reverse_1 : cX2_reverse.data.toList.drop 24 = dktX2_reverse_1 := dk_seg dksX2_reverse_0 24 rfl rfl
theorem dksX2_reverse_2 : cX2_reverse.data.toList.drop 47 = dktX2_reverse_2 := dk_seg dksX2_reverse_1 23 rfl rfl
theorem dX2_reverse_0 : decode cX2_reverse 0 = .ok (.iload_n 2, 1) := dk_28 (dk_at dksX2_reverse_0 0 rfl rfl)
theorem dX2_reverse_1 : decode cX2_reverse 1 = .ok (.iload_n 1, 1) := dk_27 (dk_at dksX2_reverse_0 1 rfl rfl)
theorem dX2_reverse_2 : decode cX2_reverse 2 = .ok (.isub, 1) := dk_100 (dk_at dksX2_reverse_0 2 rfl rfl)
theorem dX2_reverse_3 : decode cX2_reverse 3 = .ok (.istore_n 3, 1) := dk_62 (dk_at dksX2_reverse_0 3 rfl rfl)
theorem dX2_reverse_4 : decode cX2_reverse 4 = .ok (.iload_n 3, 1) := dk_29 (dk_at dksX2_reverse_0 4 rfl rfl)
theorem dX2_reverse_5 : decode cX2_reverse 5 = .ok (.iconst 2, 1) := dk_5 (dk_at dksX2_reverse_0 5 rfl rfl)
theorem dX2_reverse_6 : decode cX2_reverse 6 = .ok (.idiv, 1) := dk_108 (dk_at dksX2_reverse_0 6 rfl rfl)
theorem dX2_reverse_7 : decode cX2_reverse 7 = .ok (.istore 4, 2) := dk_54 4 (dk_at dksX2_reverse_0 7 rfl rfl)
theorem dX2_reverse_9 : decode cX2_reverse 9 = .ok (.iload 4, 2) := dk_21 4 (dk_at dksX2_reverse_0 9 rfl rfl)
theorem dX2_reverse_11 : decode cX2_reverse 11 = .ok (.iinc 4 (-1), 3) := dk_132 4 255 (dk_at dksX2_reverse_0 11 rfl rfl)
theorem dX2_reverse_14 : decode cX2_reverse 14 = .ok (.ifCond .eq 42, 3) := dk_153 0 42 (dk_at dksX2_reverse_0 14 rfl rfl)
theorem dX2_reverse_17 : decode cX2_reverse 17 = .ok (.aload_n 0, 1) := dk_42 (dk_at dksX2_reverse_0 17 rfl rfl)
theorem dX2_reverse_18 : decode cX2_reverse 18 = .ok (.iload_n 1, 1) := dk_27 (dk_at dksX2_reverse_0 18 rfl rfl)
theorem dX2_reverse_19 : decode cX2_reverse 19 = .ok (.iload_n 3, 1) := dk_29 (dk_at dksX2_reverse_0 19 rfl rfl)
theorem dX2_reverse_20 : decode cX2_reverse 20 = .ok (.iadd, 1) := dk_96 (dk_at dksX2_reverse_0 20 rfl rfl)
theorem dX2_reverse_21 : decode cX2_reverse 21 = .ok (.iload 4, 2) := dk_21 4 (dk_at dksX2_reverse_0 21 rfl rfl)
theorem dX2_reverse_23 : decode cX2_reverse 23 = .ok (.isub, 1) := dk_100 (dk_at dksX2_reverse_0 23 rfl rfl)
theorem dX2_reverse_24 : decode cX2_reverse 24 = .ok (.iconst 1, 1) := dk_4 (dk_at dksX2_reverse_1 0 rfl rfl)
theorem dX2_reverse_25 : decode cX2_reverse 25 = .ok (.isub, 1) := dk_100 (dk_at dksX2_reverse_1 1 rfl rfl)
theorem dX2_reverse_26 : decode cX2_reverse 26 = .ok (.saload, 1) := dk_53 (dk_at dksX2_reverse_1 2 rfl rfl)
theorem dX2_reverse_27 : decode cX2_reverse 27 = .ok (.istore 5, 2) := dk_54 5 (dk_at dksX2_reverse_1 3 rfl rfl)
theorem dX2_reverse_29 : decode cX2_reverse 29 = .ok (.aload_n 0, 1) := dk_42 (dk_at dksX2_reverse_1 5 rfl rfl)
theorem dX2_reverse_30 : decode cX2_reverse 30 = .ok (.iload_n 1, 1) := dk_27 (dk_at dksX2_reverse_1 6 rfl rfl)
theorem dX2_reverse_31 : decode cX2_reverse 31 = .ok (.iload_n 3, 1) := dk_29 (dk_at dksX2_reverse_1 7 rfl rfl)
theorem dX2_reverse_32 : decode cX2_reverse 32 = .ok (.iadd, 1) := dk_96 (dk_at dksX2_reverse_1 8 rfl rfl)
theorem dX2_reverse_33 : decode cX2_reverse 33 = .ok (.iload 4, 2) := dk_21 4 (dk_at dksX2_reverse_1 9 rfl rfl)
theorem dX2_reverse_35 : decode cX2_reverse 35 = .ok (.isub, 1) := dk_100 (dk_at dksX2_reverse_1 11 rfl rfl)
theorem dX2_reverse_36 : decode cX2_reverse 36 = .ok (.iconst 1, 1) := dk_4 (dk_at dksX2_reverse_1 12 rfl rfl)
theorem dX2_reverse_37 : decode cX2_reverse 37 = .ok (.isub, 1) := dk_100 (dk_at dksX2_reverse_1 13 rfl rfl)
theorem dX2_reverse_38 : decode cX2_reverse 38 = .ok (.aload_n 0, 1) := dk_42 (dk_at dksX2_reverse_1 14 rfl rfl)
theorem dX2_reverse_39 : decode cX2_reverse 39 = .ok (.iload_n 1, 1) := dk_27 (dk_at dksX2_reverse_1 15 rfl rfl)
theorem dX2_reverse_40 : decode cX2_reverse 40 = .ok (.iload 4, 2) := dk_21 4 (dk_at dksX2_reverse_1 16 rfl rfl)
theorem dX2_reverse_42 : decode cX2_reverse 42 = .ok (.iadd, 1) := dk_96 (dk_at dksX2_reverse_1 18 rfl rfl)
theorem dX2_reverse_43 : decode cX2_reverse 43 = .ok (.saload, 1) := dk_53 (dk_at dksX2_reverse_1 19 rfl rfl)
theorem dX2_reverse_44 : decode cX2_reverse 44 = .ok (.sastore, 1) := dk_86 (dk_at dksX2_reverse_1 20 rfl rfl)
theorem dX2_reverse_45 : decode cX2_reverse 45 = .ok (.aload_n 0, 1) := dk_42 (dk_at dksX2_reverse_1 21 rfl rfl)
theorem dX2_reverse_46 : decode cX2_reverse 46 = .ok (.iload_n 1, 1) := dk_27 (dk_at dksX2_reverse_1 22 rfl rfl)
theorem dX2_reverse_47 : decode cX2_reverse 47 = .ok (.iload 4, 2) := dk_21 4 (dk_at dksX2_reverse_2 0 rfl rfl)
theorem dX2_reverse_49 : decode cX2_reverse 49 = .ok (.iadd, 1) := dk_96 (dk_at dksX2_reverse_2 2 rfl rfl)
theorem dX2_reverse_50 : decode cX2_reverse 50 = .ok (.iload 5, 2) := dk_21 5 (dk_at dksX2_reverse_2 3 rfl rfl)
theorem dX2_reverse_52 : decode cX2_reverse 52 = .ok (.sastore, 1) := dk_86 (dk_at dksX2_reverse_2 5 rfl rfl)
theorem dX2_reverse_53 : decode cX2_reverse 53 = .ok (.goto (-44), 3) := dk_167 255 212 (dk_at dksX2_reverse_2 6 rfl rfl)
theorem dX2_reverse_56 : decode cX2_reverse 56 = .ok (.aload_n 0, 1) := dk_42 (dk_at dksX2_reverse_2 9 rfl rfl)
theorem dX2_reverse_57 : decode cX2_reverse 57 = .ok (.areturn, 1) := dk_176 (dk_at dksX2_reverse_2 10 rfl rfl)
abbrev cX2_binarySearch : ByteArray := prog_1_method_9_code
def yX2_binarySearch : MethodName := ⟨RX2, "binarySearch", "([SIIS)I"⟩
def dkwX2_binarySearch_2 : List UInt8 := [167, 0, 6, 21, 5, 172, 167, 255, 207, 27, 4, 96, 116, 172]
abbrev dktX2_binarySearch_2 : List UInt8 := dkwX2_binarySearch_2 ++ []
def dkwX2_binarySearch_1 : List UInt8 := [162, 0, 11, 21, 5, 4, 96, 60, 167, 0, 20, 21, 4, 29, 164, 0, 11, 21, 5, 4, 100, 61]
abbrev dktX2_binarySearch_1 : List UInt8 := dkwX2_binarySearch_1 ++ dktX2_binarySearch_2
def dkwX2_binarySearch_0 : List UInt8 := [132, 2, 255, 27, 28, 163, 0, 50, 27, 28, 96, 4, 124, 54, 5, 42, 21, 5, 53, 54, 4, 21, 4, 29]
abbrev dktX2_binarySearch_0 : List UInt8 := dkwX2_binarySearch_0 ++ dktX2_binarySearch_1
theorem dksX2_binarySearch_0 : cX2_binarySearch.data.toList.drop 0 = dktX2_binarySearch_0 := by decide +kernel
theorem dksX2_binarySearch_1 : cX2_binarySearch.data.toList.drop 24 = dktX2_binarySearch_1 := dk_seg dksX2_binarySearch_0 24 rfl rfl
theorem dksX2_binarySearch_2 : cX2_binarySearch.data.toList.drop 46 = dktX2_binarySearch_2 := dk_seg dksX2_binarySearch_1 22 rfl rfl
theorem dX2_binarySearch_0 : decode cX2_binarySearch 0 = .ok (.iinc 2 (-1), 3) := dk_132 2 255 (dk_at dksX2_binarySearch_0 0 rfl rfl)
theorem dX2_binarySearch_3 : decode cX2_binarySearch 3 = .ok (.iload_n 1, 1) := dk_27 (dk_at dksX2_binarySearch_0 3 rfl rfl)
theorem dX2_binarySearch_4 : decode cX2_binarySearch 4 = .ok (.iload_n 2, 1) := dk_28 (dk_at dksX2_binarySearch_0 4 rfl rfl)
theorem dX2_binarySearch_5 : decode cX2_binarySearch 5 = .ok (.if_icmp .gt 50, 3) := dk_163 0 50 (dk_at dksX2_binarySearch_0 5 rfl rfl)
theorem dX2_binarySearch_8 : decode cX2_binarySearch 8 = .ok (.iload_n 1, 1) := dk_27 (dk_at dksX2_binarySearch_0 8 rfl rfl)
theorem dX2_binarySearch_9 : decode cX2_binarySearch 9 = .ok (.iload_n 2, 1) := dk_28 (dk_at dksX2_binarySearch_0 9 rfl rfl)
theorem dX2_binarySearch_10 : decode cX2_binarySearch 10 = .ok (.iadd, 1) := dk_96 (dk_at dksX2_binarySearch_0 10 rfl rfl)
theorem dX2_binarySearch_11 : decode cX2_binarySearch 11 = .ok (.iconst 1, 1) := dk_4 (dk_at dksX2_binarySearch_0 11 rfl rfl)
theorem dX2_binarySearch_12 : decode cX2_binarySearch 12 = .ok (.iushr, 1) := dk_124 (dk_at dksX2_binarySearch_0 12 rfl rfl)
theorem dX2_binarySearch_13 : decode cX2_binarySearch 13 = .ok (.istore 5, 2) := dk_54 5 (dk_at dksX2_binarySearch_0 13 rfl rfl)
theorem dX2_binarySearch_15 : decode cX2_binarySearch 15 = .ok (.aload_n 0, 1) := dk_42 (dk_at dksX2_binarySearch_0 15 rfl rfl)
theorem dX2_binarySearch_16 : decode cX2_binarySearch 16 = .ok (.iload 5, 2) := dk_21 5 (dk_at dksX2_binarySearch_0 16 rfl rfl)
theorem dX2_binarySearch_18 : decode cX2_binarySearch 18 = .ok (.saload, 1) := dk_53 (dk_at dksX2_binarySearch_0 18 rfl rfl)
theorem dX2_binarySearch_19 : decode cX2_binarySearch 19 = .ok (.istore 4, 2) := dk_54 4 (dk_at dksX2_binarySearch_0 19 rfl rfl)
theorem dX2_binarySearch_21 : decode cX2_binarySearch 21 = .ok (.iload 4, 2) := dk_21 4 (dk_at dksX2_binarySearch_0 21 rfl rfl)
theorem dX2_binarySearch_23 : decode cX2_binarySearch 23 = .ok (.iload_n 3, 1) := dk_29 (dk_at dksX2_binarySearch_0 23 rfl rfl)
theorem dX2_binarySearch_24 : decode cX2_binarySearch 24 = .ok (.if_icmp .ge 11, 3) := dk_162 0 11 (dk_at dksX2_binarySearch_1 0 rfl rfl)
theorem dX2_binarySearch_27 : decode cX2_binarySearch 27 = .ok (.iload 5, 2) := dk_21 5 (dk_at dksX2_binarySearch_1 3 rfl rfl)
theorem dX2_binarySearch_29 : decode cX2_binarySearch 29 = .ok (.iconst 1, 1) := dk_4 (dk_at dksX2_binarySearch_1 5 rfl rfl)
theorem dX2_binarySearch_30 : decode cX2_binarySearch 30 = .ok (.iadd, 1) := dk_96 (dk_at dksX2_binarySearch_1 6 rfl rfl)
theorem dX2_binarySearch_31 : decode cX2_binarySearch 31 = .ok (.istore_n 1, 1) := dk_60 (dk_at dksX2_binarySearch_1 7 rfl rfl)
theorem dX2_binarySearch_32 : decode cX2_binarySearch 32 = .ok (.goto 20, 3) := dk_167 0 20 (dk_at dksX2_binarySearch_1 8 rfl rfl)
theorem dX2_binarySearch_35 : decode cX2_binarySearch 35 = .ok (.iload 4, 2) := dk_21 4 (dk_at dksX2_binarySearch_1 11 rfl rfl)
theorem dX2_binarySearch_37 : decode cX2_binarySearch 37 = .ok (.iload_n 3, 1) := dk_29 (dk_at dksX2_binarySearch_1 13 rfl rfl)
theorem dX2_binarySearch_38 : decode cX2_binarySearch 38 = .ok (.if_icmp .le 11, 3) := dk_164 0 11 (dk_at dksX2_binarySearch_1 14 rfl rfl)
theorem dX2_binarySearch_41 : decode cX2_binarySearch 41 = .ok (.iload 5, 2) := dk_21 5 (dk_at dksX2_binarySearch_1 17 rfl rfl)
theorem dX2_binarySearch_43 : decode cX2_binarySearch 43 = .ok (.iconst 1, 1) := dk_4 (dk_at dksX2_binarySearch_1 19 rfl rfl)
theorem dX2_binarySearch_44 : decode cX2_binarySearch 44 = .ok (.isub, 1) := dk_100 (dk_at dksX2_binarySearch_1 20 rfl rfl)
theorem dX2_binarySearch_45 : decode cX2_binarySearch 45 = .ok (.istore_n 2, 1) := dk_61 (dk_at dksX2_binarySearch_1 21 rfl rfl)
theorem dX2_binarySearch_46 : decode cX2_binarySearch 46 = .ok (.goto 6, 3) := dk_167 0 6 (dk_at dksX2_binarySearch_2 0 rfl rfl)
theorem dX2_binarySearch_49 : decode cX2_binarySearch 49 = .ok (.iload 5, 2) := dk_21 5 (dk_at dksX2_binarySearch_2 3 rfl rfl)
theorem dX2_binarySearch_51 : decode cX2_binarySearch 51 = .ok (.ireturn, 1) := dk_172 (dk_at dksX2_binarySearch_2 5 rfl rfl)
theorem dX2_binarySearch_52 : decode cX2_binarySearch 52 = .ok (.goto (-49), 3) := dk_167 255 207 (dk_at dksX2_binarySearch_2 6 rfl rfl)
theorem dX2_binarySearch_55 : decode cX2_binarySearch 55 = .ok (.iload_n 1, 1) := dk_27 (dk_at dksX2_binarySearch_2 9 rfl rfl)
theorem dX2_binarySearch_56 : decode cX2_binarySearch 56 = .ok (.iconst 1, 1) := dk_4 (dk_at dksX2_binarySearch_2 10 rfl rfl)
theorem dX2_binarySearch_57 : decode cX2_binarySearch 57 = .ok (.iadd, 1) := dk_96 (dk_at dksX2_binarySearch_2 11 rfl rfl)
theorem dX2_binarySearch_58 : decode cX2_binarySearch 58 = .ok (.ineg, 1) := dk_116 (dk_at dksX2_binarySearch_2 12 rfl rfl)
theorem dX2_binarySearch_59 : decode cX2_binarySearch 59 = .ok (.ireturn, 1) := dk_172 (dk_at dksX2_binarySearch_2 13 rfl rfl)
abbrev cX2_quickSort : ByteArray := prog_1_method_6_code
def yX2_quickSort : MethodName := ⟨RX2, "quickSort", "([SII)V"⟩
def dkwX2_quickSort_14 : List UInt8 := [89, 54, 12, 4, 164, 0, 12, 42, 28, 21, 12, 100, 28, 184, 0, 29, 177]
abbrev dktX2_quickSort_14 : List UInt8 := dkwX2_quickSort_14 ++ []
def dkwX2_quickSort_13 : List UInt8 := [21, 8, 100, 89, 54, 12, 4, 164, 0, 12, 42, 27, 27, 21, 12, 96, 184, 0, 29, 21, 11, 21, 10, 100]
abbrev dktX2_quickSort_13 : List UInt8 := dkwX2_quickSort_13 ++ dktX2_quickSort_14
def dkwX2_quickSort_12 : List UInt8 := [21, 11, 100, 4, 100, 184, 0, 20, 54, 12, 42, 21, 9, 28, 21, 12, 100, 21, 12, 184, 0, 26, 21, 9]
abbrev dktX2_quickSort_12 : List UInt8 := dkwX2_quickSort_12 ++ dktX2_quickSort_13
def dkwX2_quickSort_11 : List UInt8 := [100, 184, 0, 20, 54, 12, 42, 27, 21, 9, 21, 12, 100, 21, 12, 184, 0, 26, 21, 11, 21, 10, 100, 28]
abbrev dktX2_quickSort_11 : List UInt8 := dkwX2_quickSort_11 ++ dktX2_quickSort_12
def dkwX2_quickSort_10 : List UInt8 := [21, 9, 132, 9, 1, 21, 10, 132, 10, 255, 184, 0, 5, 167, 255, 144, 21, 8, 27, 100, 21, 9, 21, 8]
abbrev dktX2_quickSort_10 : List UInt8 := dkwX2_quickSort_10 ++ dktX2_quickSort_11
def dkwX2_quickSort_9 : List UInt8 := [132, 11, 255, 184, 0, 5, 132, 10, 255, 167, 255, 215, 21, 9, 21, 10, 164, 0, 6, 167, 0, 20, 42]
abbrev dktX2_quickSort_9 : List UInt8 := dkwX2_quickSort_9 ++ dktX2_quickSort_10
def dkwX2_quickSort_8 : List UInt8 := [21, 10, 53, 21, 7, 184, 0, 9, 89, 54, 12, 155, 0, 25, 21, 12, 154, 0, 14, 42, 21, 10, 21, 11]
abbrev dktX2_quickSort_8 : List UInt8 := dkwX2_quickSort_8 ++ dktX2_quickSort_9
def dkwX2_quickSort_7 : List UInt8 := [21, 8, 132, 8, 1, 21, 9, 184, 0, 5, 132, 9, 1, 167, 255, 215, 21, 10, 21, 9, 161, 0, 40, 42]
abbrev dktX2_quickSort_7 : List UInt8 := dkwX2_quickSort_7 ++ dktX2_quickSort_8
def dkwX2_quickSort_6 : List UInt8 := [163, 0, 40, 42, 21, 9, 53, 21, 7, 184, 0, 9, 89, 54, 12, 157, 0, 25, 21, 12, 154, 0, 14, 42]
abbrev dktX2_quickSort_6 : List UInt8 := dkwX2_quickSort_6 ++ dktX2_quickSort_7
def dkwX2_quickSort_5 : List UInt8 := [54, 7, 27, 54, 8, 21, 8, 54, 9, 28, 4, 100, 54, 10, 21, 10, 54, 11, 21, 9, 21, 10]
abbrev dktX2_quickSort_5 : List UInt8 := dkwX2_quickSort_5 ++ dktX2_quickSort_6
def dkwX2_quickSort_4 : List UInt8 := [100, 21, 6, 184, 0, 16, 54, 6, 42, 21, 5, 21, 4, 21, 6, 184, 0, 16, 54, 4, 42, 21, 4, 53]
abbrev dktX2_quickSort_4 : List UInt8 := dkwX2_quickSort_4 ++ dktX2_quickSort_5
def dkwX2_quickSort_3 : List UInt8 := [21, 4, 21, 4, 21, 7, 96, 184, 0, 16, 54, 4, 42, 21, 6, 5, 21, 7, 104, 100, 21, 6, 21, 7]
abbrev dktX2_quickSort_3 : List UInt8 := dkwX2_quickSort_3 ++ dktX2_quickSort_4
def dkwX2_quickSort_2 : List UInt8 := [21, 5, 21, 7, 96, 21, 5, 5, 21, 7, 104, 96, 184, 0, 16, 54, 5, 42, 21, 4, 21, 7, 100]
abbrev dktX2_quickSort_2 : List UInt8 := dkwX2_quickSort_2 ++ dktX2_quickSort_3
def dkwX2_quickSort_1 : List UInt8 := [27, 54, 5, 28, 4, 100, 54, 6, 29, 17, 0, 128, 164, 0, 67, 29, 16, 8, 108, 54, 7, 42, 21, 5]
abbrev dktX2_quickSort_1 : List UInt8 := dkwX2_quickSort_1 ++ dktX2_quickSort_2
def dkwX2_quickSort_0 : List UInt8 := [28, 27, 100, 62, 29, 16, 16, 162, 0, 10, 42, 27, 28, 184, 0, 13, 177, 27, 29, 5, 108, 96, 54, 4]
abbrev dktX2_quickSort_0 : List UInt8 := dkwX2_quickSort_0 ++ dktX2_quickSort_1
theorem dksX2_quickSort_0 : cX2_quickSort.data.toList.drop 0 = dktX2_quickSort_0 := by decide +kernel
theorem dksX2_quickSort_1 : cX2_quickSort.data.toList.drop 24 = dktX2_quickSort_1 := dk_seg dksX2_quickSort_0 24 rfl rfl
theorem dksX2_quickSort_2 : cX2_quickSort.data.toList.drop 48 = dktX2_quickSort_2 := dk_seg dksX2_quickSort_1 24 rfl rfl
theorem dksX2_quickSort_3 : cX2_quickSort.data.toList.drop 71 = dktX2_quickSort_3 := dk_seg dksX2_quickSort_2 23 rfl rfl
theorem dksX2_quickSort_4 : cX2_quickSort.data.toList.drop 95 = dktX2_quickSort_4 := dk_seg dksX2_quickSort_3 24 rfl rfl
theorem dksX2_quickSort_5 : cX2_quickSort.data.toList.drop 119 = dktX2_quickSort_5 := dk_seg dksX2_quickSort_4 24 rfl rfl
theorem dksX2_quickSort_6 : cX2_quickSort.data.toList.drop 141 = dktX2_quickSort_6 := dk_seg dksX2_quickSort_5 22 rfl rfl
theorem dksX2_quickSort_7 : cX2_quickSort.data.toList.drop 165 = dktX2_quickSort_7 := dk_seg dksX2_quickSort_6 24 rfl rfl
theorem dksX2_quickSort_8 : cX2_quickSort.data.toList.drop 189 = dktX2_quickSort_8 := dk_seg dksX2_quickSort_7 24 rfl rfl
theorem dksX2_quickSort_9 : cX2_quickSort.data.toList.drop 213 = dktX2_quickSort_9 := dk_seg dksX2_quickSort_8 24 rfl rfl
theorem dksX2_quickSort_10 : cX2_quickSort.data.toList.drop 236 = dktX2_quickSort_10 := dk_seg dksX2_quickSort_9 23 rfl rfl
theorem dksX2_quickSort_11 : cX2_quickSort.data.toList.drop 260 = dktX2_quickSort_11 := dk_seg dksX2_quickSort_10 24 rfl rfl
theorem dksX2_quickSort_12 : cX2_quickSort.data.toList.drop 284 = dktX2_quickSort_12 := dk_seg dksX2_quickSort_11 24 rfl rfl
theorem dksX2_quickSort_13 : cX2_quickSort.data.toList.drop 308 = dktX2_quickSort_13 := dk_seg dksX2_quickSort_12 24 rfl rfl
theorem dksX2_quickSort_14 : cX2_quickSort.data.toList.drop 332 = dktX2_quickSort_14 := dk_seg dksX2_quickSort_13 24 rfl rfl
theorem dX2_quickSort_0 : decode cX2_quickSort 0 = .ok (.iload_n 2, 1) := dk_28 (dk_at dksX2_quickSort_0 0 rfl rfl)
theorem dX2_quickSort_1 : decode cX2_quickSort 1 = .ok (.iload_n 1, 1) := dk_27 (dk_at dksX2_quickSort_0 1 rfl rfl)
theorem dX2_quickSort_2 : decode cX2_quickSort 2 = .ok (.isub, 1) := dk_100 (dk_at dksX2_quickSort_0 2 rfl rfl)
theorem dX2_quickSort_3 : decode cX2_quickSort 3 = .ok (.istore_n 3, 1) := dk_62 (dk_at dksX2_quickSort_0 3 rfl rfl)
theorem dX2_quickSort_4 : decode cX2_quickSort 4 = .ok (.iload_n 3, 1) := dk_29 (dk_at dksX2_quickSort_0 4 rfl rfl)
theorem dX2_quickSort_5 : decode cX2_quickSort 5 = .ok (.bipush 16, 2) := dk_16 16 (dk_at dksX2_quickSort_0 5 rfl rfl)
theorem dX2_quickSort_7 : decode cX2_quickSort 7 = .ok (.if_icmp .ge 10, 3) := dk_162 0 10 (dk_at dksX2_quickSort_0 7 rfl rfl)
theorem dX2_quickSort_10 : decode cX2_quickSort 10 = .ok (.aload_n 0, 1) := dk_42 (dk_at dksX2_quickSort_0 10 rfl rfl)
theorem dX2_quickSort_11 : decode cX2_quickSort 11 = .ok (.iload_n 1, 1) := dk_27 (dk_at dksX2_quickSort_0 11 rfl rfl)
theorem dX2_quickSort_12 : decode cX2_quickSort 12 = .ok (.iload_n 2, 1) := dk_28 (dk_at dksX2_quickSort_0 12 rfl rfl)
theorem dX2_quickSort_13 : decode cX2_quickSort 13 = .ok (.invokestatic 13, 3) := dk_184 0 13 (dk_at dksX2_quickSort_0 13 rfl rfl)
theorem dX2_quickSort_16 : decode cX2_quickSort 16 = .ok (.return_, 1) := dk_177 (dk_at dksX2_quickSort_0 16 rfl rfl)
theorem dX2_quickSort_17 : decode cX2_quickSort 17 = .ok (.iload_n 1, 1) := dk_27 (dk_at dksX2_quickSort_0 17 rfl rfl)
theorem dX2_quickSort_18 : decode cX2_quickSort 18 = .ok (.iload_n 3, 1) := dk_29 (dk_at dksX2_quickSort_0 18 rfl rfl)
theorem dX2_quickSort_19 : decode cX2_quickSort 19 = .ok (.iconst 2, 1) := dk_5 (dk_at dksX2_quickSort_0 19 rfl rfl)
theorem dX2_quickSort_20 : decode cX2_quickSort 20 = .ok (.idiv, 1) := dk_108 (dk_at dksX2_quickSort_0 20 rfl rfl)
theorem dX2_quickSort_21 : decode cX2_quickSort 21 = .ok (.iadd, 1) := dk_96 (dk_at dksX2_quickSort_0 21 rfl rfl)
theorem dX2_quickSort_22 : decode cX2_quickSort 22 = .ok (.istore 4, 2) := dk_54 4 (dk_at dksX2_quickSort_0 22 rfl rfl)
theorem dX2_quickSort_24 : decode cX2_quickSort 24 = .ok (.iload_n 1, 1) := dk_27 (dk_at dksX2_quickSort_1 0 rfl rfl)
theorem dX2_quickSort_25 : decode cX2_quickSort 25 = .ok (.istore 5, 2) := dk_54 5 (dk_at dksX2_quickSort_1 1 rfl rfl)
theorem dX2_quickSort_27 : decode cX2_quickSort 27 = .ok (.iload_n 2, 1) := dk_28 (dk_at dksX2_quickSort_1 3 rfl rfl)
theorem dX2_quickSort_28 : decode cX2_quickSort 28 = .ok (.iconst 1, 1) := dk_4 (dk_at dksX2_quickSort_1 4 rfl rfl)
theorem dX2_quickSort_29 : decode cX2_quickSort 29 = .ok (.isub, 1) := dk_100 (dk_at dksX2_quickSort_1 5 rfl rfl)
theorem dX2_quickSort_30 : decode cX2_quickSort 30 = .ok (.istore 6, 2) := dk_54 6 (dk_at dksX2_quickSort_1 6 rfl rfl)
theorem dX2_quickSort_32 : decode cX2_quickSort 32 = .ok (.iload_n 3, 1) := dk_29 (dk_at dksX2_quickSort_1 8 rfl rfl)
theorem dX2_quickSort_33 : decode cX2_quickSort 33 = .ok (.sipush 128, 3) := dk_17 0 128 (dk_at dksX2_quickSort_1 9 rfl rfl)
theorem dX2_quickSort_36 : decode cX2_quickSort 36 = .ok (.if_icmp .le 67, 3) := dk_164 0 67 (dk_at dksX2_quickSort_1 12 rfl rfl)
theorem dX2_quickSort_103 : decode cX2_quickSort 103 = .ok (.aload_n 0, 1) := dk_42 (dk_at dksX2_quickSort_4 8 rfl rfl)
theorem dX2_quickSort_104 : decode cX2_quickSort 104 = .ok (.iload 5, 2) := dk_21 5 (dk_at dksX2_quickSort_4 9 rfl rfl)
theorem dX2_quickSort_106 : decode cX2_quickSort 106 = .ok (.iload 4, 2) := dk_21 4 (dk_at dksX2_quickSort_4 11 rfl rfl)
theorem dX2_quickSort_108 : decode cX2_quickSort 108 = .ok (.iload 6, 2) := dk_21 6 (dk_at dksX2_quickSort_4 13 rfl rfl)
theorem dX2_quickSort_110 : decode cX2_quickSort 110 = .ok (.invokestatic 16, 3) := dk_184 0 16 (dk_at dksX2_quickSort_4 15 rfl rfl)
theorem dX2_quickSort_113 : decode cX2_quickSort 113 = .ok (.istore 4, 2) := dk_54 4 (dk_at dksX2_quickSort_4 18 rfl rfl)
theorem dX2_quickSort_115 : decode cX2_quickSort 115 = .ok (.aload_n 0, 1) := dk_42 (dk_at dksX2_quickSort_4 20 rfl rfl)
theorem dX2_quickSort_116 : decode cX2_quickSort 116 = .ok (.iload 4, 2) := dk_21 4 (dk_at dksX2_quickSort_4 21 rfl rfl)
theorem dX2_quickSort_118 : decode cX2_quickSort 118 = .ok (.saload, 1) := dk_53 (dk_at dksX2_quickSort_4 23 rfl rfl)
theorem dX2_quickSort_119 : decode cX2_quickSort 119 = .ok (.istore 7, 2) := dk_54 7 (dk_at dksX2_quickSort_5 0 rfl rfl)
theorem dX2_quickSort_121 : decode cX2_quickSort 121 = .ok (.iload_n 1, 1) := dk_27 (dk_at dksX2_quickSort_5 2 rfl rfl)
theorem dX2_quickSort_122 : decode cX2_quickSort 122 = .ok (.istore 8, 2) := dk_54 8 (dk_at dksX2_quickSort_5 3 rfl rfl)
theorem dX2_quickSort_124 : decode cX2_quickSort 124 = .ok (.iload 8, 2) := dk_21 8 (dk_at dksX2_quickSort_5 5 rfl rfl)
theorem dX2_quickSort_126 : decode cX2_quickSort 126 = .ok (.istore 9, 2) := dk_54 9 (dk_at dksX2_quickSort_5 7 rfl rfl)
theorem dX2_quickSort_128 : decode cX2_quickSort 128 = .ok (.iload_n 2, 1) := dk_28 (dk_at dksX2_quickSort_5 9 rfl rfl)
theorem dX2_quickSort_129 : decode cX2_quickSort 129 = .ok (.iconst 1, 1) := dk_4 (dk_at dksX2_quickSort_5 10 rfl rfl)
theorem dX2_quickSort_130 : decode cX2_quickSort 130 = .ok (.isub, 1) := dk_100 (dk_at dksX2_quickSort_5 11 rfl rfl)
theorem dX2_quickSort_131 : decode cX2_quickSort 131 = .ok (.istore 10, 2) := dk_54 10 (dk_at dksX2_quickSort_5 12 rfl rfl)
theorem dX2_quickSort_133 : decode cX2_quickSort 133 = .ok (.iload 10, 2) := dk_21 10 (dk_at dksX2_quickSort_5 14 rfl rfl)
theorem dX2_quickSort_135 : decode cX2_quickSort 135 = .ok (.istore 11, 2) := dk_54 11 (dk_at dksX2_quickSort_5 16 rfl rfl)
theorem dX2_quickSort_137 : decode cX2_quickSort 137 = .ok (.iload 9, 2) := dk_21 9 (dk_at dksX2_quickSort_5 18 rfl rfl)
theorem dX2_quickSort_139 : decode cX2_quickSort 139 = .ok (.iload 10, 2) := dk_21 10 (dk_at dksX2_quickSort_5 20 rfl rfl)
theorem dX2_quickSort_141 : decode cX2_quickSort 141 = .ok (.if_icmp .gt 40, 3) := dk_163 0 40 (dk_at dksX2_quickSort_6 0 rfl rfl)
theorem dX2_quickSort_144 : decode cX2_quickSort 144 = .ok (.aload_n 0, 1) := dk_42 (dk_at dksX2_quickSort_6 3 rfl rfl)
theorem dX2_quickSort_145 : decode cX2_quickSort 145 = .ok (.iload 9, 2) := dk_21 9 (dk_at dksX2_quickSort_6 4 rfl rfl)
theorem dX2_quickSort_147 : decode cX2_quickSort 147 = .ok (.saload, 1) := dk_53 (dk_at dksX2_quickSort_6 6 rfl rfl)
theorem dX2_quickSort_148 : decode cX2_quickSort 148 = .ok (.iload 7, 2) := dk_21 7 (dk_at dksX2_quickSort_6 7 rfl rfl)
theorem dX2_quickSort_150 : decode cX2_quickSort 150 = .ok (.invokestatic 9, 3) := dk_184 0 9 (dk_at dksX2_quickSort_6 9 rfl rfl)
theorem dX2_quickSort_153 : decode cX2_quickSort 153 = .ok (.dup, 1) := dk_89 (dk_at dksX2_quickSort_6 12 rfl rfl)
theorem dX2_quickSort_154 : decode cX2_quickSort 154 = .ok (.istore 12, 2) := dk_54 12 (dk_at dksX2_quickSort_6 13 rfl rfl)
theorem dX2_quickSort_156 : decode cX2_quickSort 156 = .ok (.ifCond .gt 25, 3) := dk_157 0 25 (dk_at dksX2_quickSort_6 15 rfl rfl)
theorem dX2_quickSort_159 : decode cX2_quickSort 159 = .ok (.iload 12, 2) := dk_21 12 (dk_at dksX2_quickSort_6 18 rfl rfl)
theorem dX2_quickSort_161 : decode cX2_quickSort 161 = .ok (.ifCond .ne 14, 3) := dk_154 0 14 (dk_at dksX2_quickSort_6 20 rfl rfl)
theorem dX2_quickSort_164 : decode cX2_quickSort 164 = .ok (.aload_n 0, 1) := dk_42 (dk_at dksX2_quickSort_6 23 rfl rfl)
theorem dX2_quickSort_165 : decode cX2_quickSort 165 = .ok (.iload 8, 2) := dk_21 8 (dk_at dksX2_quickSort_7 0 rfl rfl)
theorem dX2_quickSort_167 : decode cX2_quickSort 167 = .ok (.iinc 8 1, 3) := dk_132 8 1 (dk_at dksX2_quickSort_7 2 rfl rfl)
theorem dX2_quickSort_170 : decode cX2_quickSort 170 = .ok (.iload 9, 2) := dk_21 9 (dk_at dksX2_quickSort_7 5 rfl rfl)
theorem dX2_quickSort_172 : decode cX2_quickSort 172 = .ok (.invokestatic 5, 3) := dk_184 0 5 (dk_at dksX2_quickSort_7 7 rfl rfl)
theorem dX2_quickSort_175 : decode cX2_quickSort 175 = .ok (.iinc 9 1, 3) := dk_132 9 1 (dk_at dksX2_quickSort_7 10 rfl rfl)
theorem dX2_quickSort_178 : decode cX2_quickSort 178 = .ok (.goto (-41), 3) := dk_167 255 215 (dk_at dksX2_quickSort_7 13 rfl rfl)
theorem dX2_quickSort_181 : decode cX2_quickSort 181 = .ok (.iload 10, 2) := dk_21 10 (dk_at dksX2_quickSort_7 16 rfl rfl)
theorem dX2_quickSort_183 : decode cX2_quickSort 183 = .ok (.iload 9, 2) := dk_21 9 (dk_at dksX2_quickSort_7 18 rfl rfl)
theorem dX2_quickSort_185 : decode cX2_quickSort 185 = .ok (.if_icmp .lt 40, 3) := dk_161 0 40 (dk_at dksX2_quickSort_7 20 rfl rfl)
theorem dX2_quickSort_188 : decode cX2_quickSort 188 = .ok (.aload_n 0, 1) := dk_42 (dk_at dksX2_quickSort_7 23 rfl rfl)
theorem dX2_quickSort_189 : decode cX2_quickSort 189 = .ok (.iload 10, 2) := dk_21 10 (dk_at dksX2_quickSort_8 0 rfl rfl)
theorem dX2_quickSort_191 : decode cX2_quickSort 191 = .ok (.saload, 1) := dk_53 (dk_at dksX2_quickSort_8 2 rfl rfl)
theorem dX2_quickSort_192 : decode cX2_quickSort 192 = .ok (.iload 7, 2) := dk_21 7 (dk_at dksX2_quickSort_8 3 rfl rfl)
theorem dX2_quickSort_194 : decode cX2_quickSort 194 = .ok (.invokestatic 9, 3) := dk_184 0 9 (dk_at dksX2_quickSort_8 5 rfl rfl)
theorem dX2_quickSort_197 : decode cX2_quickSort 197 = .ok (.dup, 1) := dk_89 (dk_at dksX2_quickSort_8 8 rfl rfl)
theorem dX2_quickSort_198 : decode cX2_quickSort 198 = .ok (.istore 12, 2) := dk_54 12 (dk_at dksX2_quickSort_8 9 rfl rfl)
theorem dX2_quickSort_200 : decode cX2_quickSort 200 = .ok (.ifCond .lt 25, 3) := dk_155 0 25 (dk_at dksX2_quickSort_8 11 rfl rfl)
theorem dX2_quickSort_203 : decode cX2_quickSort 203 = .ok (.iload 12, 2) := dk_21 12 (dk_at dksX2_quickSort_8 14 rfl rfl)
theorem dX2_quickSort_205 : decode cX2_quickSort 205 = .ok (.ifCond .ne 14, 3) := dk_154 0 14 (dk_at dksX2_quickSort_8 16 rfl rfl)
theorem dX2_quickSort_208 : decode cX2_quickSort 208 = .ok (.aload_n 0, 1) := dk_42 (dk_at dksX2_quickSort_8 19 rfl rfl)
theorem dX2_quickSort_209 : decode cX2_quickSort 209 = .ok (.iload 10, 2) := dk_21 10 (dk_at dksX2_quickSort_8 20 rfl rfl)
theorem dX2_quickSort_211 : decode cX2_quickSort 211 = .ok (.iload 11, 2) := dk_21 11 (dk_at dksX2_quickSort_8 22 rfl rfl)
theorem dX2_quickSort_213 : decode cX2_quickSort 213 = .ok (.iinc 11 (-1), 3) := dk_132 11 255 (dk_at dksX2_quickSort_9 0 rfl rfl)
theorem dX2_quickSort_216 : decode cX2_quickSort 216 = .ok (.invokestatic 5, 3) := dk_184 0 5 (dk_at dksX2_quickSort_9 3 rfl rfl)
theorem dX2_quickSort_219 : decode cX2_quickSort 219 = .ok (.iinc 10 (-1), 3) := dk_132 10 255 (dk_at dksX2_quickSort_9 6 rfl rfl)
theorem dX2_quickSort_222 : decode cX2_quickSort 222 = .ok (.goto (-41), 3) := dk_167 255 215 (dk_at dksX2_quickSort_9 9 rfl rfl)
theorem dX2_quickSort_225 : decode cX2_quickSort 225 = .ok (.iload 9, 2) := dk_21 9 (dk_at dksX2_quickSort_9 12 rfl rfl)
theorem dX2_quickSort_227 : decode cX2_quickSort 227 = .ok (.iload 10, 2) := dk_21 10 (dk_at dksX2_quickSort_9 14 rfl rfl)
theorem dX2_quickSort_229 : decode cX2_quickSort 229 = .ok (.if_icmp .le 6, 3) := dk_164 0 6 (dk_at dksX2_quickSort_9 16 rfl rfl)
theorem dX2_quickSort_232 : decode cX2_quickSort 232 = .ok (.goto 20, 3) := dk_167 0 20 (dk_at dksX2_quickSort_9 19 rfl rfl)
theorem dX2_quickSort_235 : decode cX2_quickSort 235 = .ok (.aload_n 0, 1) := dk_42 (dk_at dksX2_quickSort_9 22 rfl rfl)
theorem dX2_quickSort_236 : decode cX2_quickSort 236 = .ok (.iload 9, 2) := dk_21 9 (dk_at dksX2_quickSort_10 0 rfl rfl)
theorem dX2_quickSort_238 : decode cX2_quickSort 238 = .ok (.iinc 9 1, 3) := dk_132 9 1 (dk_at dksX2_quickSort_10 2 rfl rfl)
theorem dX2_quickSort_241 : decode cX2_quickSort 241 = .ok (.iload 10, 2) := dk_21 10 (dk_at dksX2_quickSort_10 5 rfl rfl)
theorem dX2_quickSort_243 : decode cX2_quickSort 243 = .ok (.iinc 10 (-1), 3) := dk_132 10 255 (dk_at dksX2_quickSort_10 7 rfl rfl)
theorem dX2_quickSort_246 : decode cX2_quickSort 246 = .ok (.invokestatic 5, 3) := dk_184 0 5 (dk_at dksX2_quickSort_10 10 rfl rfl)
theorem dX2_quickSort_249 : decode cX2_quickSort 249 = .ok (.goto (-112), 3) := dk_167 255 144 (dk_at dksX2_quickSort_10 13 rfl rfl)
theorem dX2_quickSort_252 : decode cX2_quickSort 252 = .ok (.iload 8, 2) := dk_21 8 (dk_at dksX2_quickSort_10 16 rfl rfl)
theorem dX2_quickSort_254 : decode cX2_quickSort 254 = .ok (.iload_n 1, 1) := dk_27 (dk_at dksX2_quickSort_10 18 rfl rfl)
theorem dX2_quickSort_255 : decode cX2_quickSort 255 = .ok (.isub, 1) := dk_100 (dk_at dksX2_quickSort_10 19 rfl rfl)
theorem dX2_quickSort_256 : decode cX2_quickSort 256 = .ok (.iload 9, 2) := dk_21 9 (dk_at dksX2_quickSort_10 20 rfl rfl)
theorem dX2_quickSort_258 : decode cX2_quickSort 258 = .ok (.iload 8, 2) := dk_21 8 (dk_at dksX2_quickSort_10 22 rfl rfl)
theorem dX2_quickSort_260 : decode cX2_quickSort 260 = .ok (.isub, 1) := dk_100 (dk_at dksX2_quickSort_11 0 rfl rfl)
theorem dX2_quickSort_261 : decode cX2_quickSort 261 = .ok (.invokestatic 20, 3) := dk_184 0 20 (dk_at dksX2_quickSort_11 1 rfl rfl)
theorem dX2_quickSort_264 : decode cX2_quickSort 264 = .ok (.istore 12, 2) := dk_54 12 (dk_at dksX2_quickSort_11 4 rfl rfl)
theorem dX2_quickSort_266 : decode cX2_quickSort 266 = .ok (.aload_n 0, 1) := dk_42 (dk_at dksX2_quickSort_11 6 rfl rfl)
theorem dX2_quickSort_267 : decode cX2_quickSort 267 = .ok (.iload_n 1, 1) := dk_27 (dk_at dksX2_quickSort_11 7 rfl rfl)
theorem dX2_quickSort_268 : decode cX2_quickSort 268 = .ok (.iload 9, 2) := dk_21 9 (dk_at dksX2_quickSort_11 8 rfl rfl)
theorem dX2_quickSort_270 : decode cX2_quickSort 270 = .ok (.iload 12, 2) := dk_21 12 (dk_at dksX2_quickSort_11 10 rfl rfl)
theorem dX2_quickSort_272 : decode cX2_quickSort 272 = .ok (.isub, 1) := dk_100 (dk_at dksX2_quickSort_11 12 rfl rfl)
theorem dX2_quickSort_273 : decode cX2_quickSort 273 = .ok (.iload 12, 2) := dk_21 12 (dk_at dksX2_quickSort_11 13 rfl rfl)
theorem dX2_quickSort_275 : decode cX2_quickSort 275 = .ok (.invokestatic 26, 3) := dk_184 0 26 (dk_at dksX2_quickSort_11 15 rfl rfl)
theorem dX2_quickSort_278 : decode cX2_quickSort 278 = .ok (.iload 11, 2) := dk_21 11 (dk_at dksX2_quickSort_11 18 rfl rfl)
theorem dX2_quickSort_280 : decode cX2_quickSort 280 = .ok (.iload 10, 2) := dk_21 10 (dk_at dksX2_quickSort_11 20 rfl rfl)
theorem dX2_quickSort_282 : decode cX2_quickSort 282 = .ok (.isub, 1) := dk_100 (dk_at dksX2_quickSort_11 22 rfl rfl)
theorem dX2_quickSort_283 : decode cX2_quickSort 283 = .ok (.iload_n 2, 1) := dk_28 (dk_at dksX2_quickSort_11 23 rfl rfl)
theorem dX2_quickSort_284 : decode cX2_quickSort 284 = .ok (.iload 11, 2) := dk_21 11 (dk_at dksX2_quickSort_12 0 rfl rfl)
theorem dX2_quickSort_286 : decode cX2_quickSort 286 = .ok (.isub, 1) := dk_100 (dk_at dksX2_quickSort_12 2 rfl rfl)
theorem dX2_quickSort_287 : decode cX2_quickSort 287 = .ok (.iconst 1, 1) := dk_4 (dk_at dksX2_quickSort_12 3 rfl rfl)
theorem dX2_quickSort_288 : decode cX2_quickSort 288 = .ok (.isub, 1) := dk_100 (dk_at dksX2_quickSort_12 4 rfl rfl)
theorem dX2_quickSort_289 : decode cX2_quickSort 289 = .ok (.invokestatic 20, 3) := dk_184 0 20 (dk_at dksX2_quickSort_12 5 rfl rfl)
theorem dX2_quickSort_292 : decode cX2_quickSort 292 = .ok (.istore 12, 2) := dk_54 12 (dk_at dksX2_quickSort_12 8 rfl rfl)
theorem dX2_quickSort_294 : decode cX2_quickSort 294 = .ok (.aload_n 0, 1) := dk_42 (dk_at dksX2_quickSort_12 10 rfl rfl)
theorem dX2_quickSort_295 : decode cX2_quickSort 295 = .ok (.iload 9, 2) := dk_21 9 (dk_at dksX2_quickSort_12 11 rfl rfl)
theorem dX2_quickSort_297 : decode cX2_quickSort 297 = .ok (.iload_n 2, 1) := dk_28 (dk_at dksX2_quickSort_12 13 rfl rfl)
theorem dX2_quickSort_298 : decode cX2_quickSort 298 = .ok (.iload 12, 2) := dk_21 12 (dk_at dksX2_quickSort_12 14 rfl rfl)
theorem dX2_quickSort_300 : decode cX2_quickSort 300 = .ok (.isub, 1) := dk_100 (dk_at dksX2_quickSort_12 16 rfl rfl)
theorem dX2_quickSort_301 : decode cX2_quickSort 301 = .ok (.iload 12, 2) := dk_21 12 (dk_at dksX2_quickSort_12 17 rfl rfl)
theorem dX2_quickSort_303 : decode cX2_quickSort 303 = .ok (.invokestatic 26, 3) := dk_184 0 26 (dk_at dksX2_quickSort_12 19 rfl rfl)
theorem dX2_quickSort_306 : decode cX2_quickSort 306 = .ok (.iload 9, 2) := dk_21 9 (dk_at dksX2_quickSort_12 22 rfl rfl)
theorem dX2_quickSort_308 : decode cX2_quickSort 308 = .ok (.iload 8, 2) := dk_21 8 (dk_at dksX2_quickSort_13 0 rfl rfl)
theorem dX2_quickSort_310 : decode cX2_quickSort 310 = .ok (.isub, 1) := dk_100 (dk_at dksX2_quickSort_13 2 rfl rfl)
theorem dX2_quickSort_311 : decode cX2_quickSort 311 = .ok (.dup, 1) := dk_89 (dk_at dksX2_quickSort_13 3 rfl rfl)
theorem dX2_quickSort_312 : decode cX2_quickSort 312 = .ok (.istore 12, 2) := dk_54 12 (dk_at dksX2_quickSort_13 4 rfl rfl)
theorem dX2_quickSort_314 : decode cX2_quickSort 314 = .ok (.iconst 1, 1) := dk_4 (dk_at dksX2_quickSort_13 6 rfl rfl)
theorem dX2_quickSort_315 : decode cX2_quickSort 315 = .ok (.if_icmp .le 12, 3) := dk_164 0 12 (dk_at dksX2_quickSort_13 7 rfl rfl)
theorem dX2_quickSort_318 : decode cX2_quickSort 318 = .ok (.aload_n 0, 1) := dk_42 (dk_at dksX2_quickSort_13 10 rfl rfl)
theorem dX2_quickSort_319 : decode cX2_quickSort 319 = .ok (.iload_n 1, 1) := dk_27 (dk_at dksX2_quickSort_13 11 rfl rfl)
theorem dX2_quickSort_320 : decode cX2_quickSort 320 = .ok (.iload_n 1, 1) := dk_27 (dk_at dksX2_quickSort_13 12 rfl rfl)
theorem dX2_quickSort_321 : decode cX2_quickSort 321 = .ok (.iload 12, 2) := dk_21 12 (dk_at dksX2_quickSort_13 13 rfl rfl)
theorem dX2_quickSort_323 : decode cX2_quickSort 323 = .ok (.iadd, 1) := dk_96 (dk_at dksX2_quickSort_13 15 rfl rfl)
theorem dX2_quickSort_324 : decode cX2_quickSort 324 = .ok (.invokestatic 29, 3) := dk_184 0 29 (dk_at dksX2_quickSort_13 16 rfl rfl)
theorem dX2_quickSort_327 : decode cX2_quickSort 327 = .ok (.iload 11, 2) := dk_21 11 (dk_at dksX2_quickSort_13 19 rfl rfl)
theorem dX2_quickSort_329 : decode cX2_quickSort 329 = .ok (.iload 10, 2) := dk_21 10 (dk_at dksX2_quickSort_13 21 rfl rfl)
theorem dX2_quickSort_331 : decode cX2_quickSort 331 = .ok (.isub, 1) := dk_100 (dk_at dksX2_quickSort_13 23 rfl rfl)
theorem dX2_quickSort_332 : decode cX2_quickSort 332 = .ok (.dup, 1) := dk_89 (dk_at dksX2_quickSort_14 0 rfl rfl)
theorem dX2_quickSort_333 : decode cX2_quickSort 333 = .ok (.istore 12, 2) := dk_54 12 (dk_at dksX2_quickSort_14 1 rfl rfl)
theorem dX2_quickSort_335 : decode cX2_quickSort 335 = .ok (.iconst 1, 1) := dk_4 (dk_at dksX2_quickSort_14 3 rfl rfl)
theorem dX2_quickSort_336 : decode cX2_quickSort 336 = .ok (.if_icmp .le 12, 3) := dk_164 0 12 (dk_at dksX2_quickSort_14 4 rfl rfl)
theorem dX2_quickSort_339 : decode cX2_quickSort 339 = .ok (.aload_n 0, 1) := dk_42 (dk_at dksX2_quickSort_14 7 rfl rfl)
theorem dX2_quickSort_340 : decode cX2_quickSort 340 = .ok (.iload_n 2, 1) := dk_28 (dk_at dksX2_quickSort_14 8 rfl rfl)
theorem dX2_quickSort_341 : decode cX2_quickSort 341 = .ok (.iload 12, 2) := dk_21 12 (dk_at dksX2_quickSort_14 9 rfl rfl)
theorem dX2_quickSort_343 : decode cX2_quickSort 343 = .ok (.isub, 1) := dk_100 (dk_at dksX2_quickSort_14 11 rfl rfl)
theorem dX2_quickSort_344 : decode cX2_quickSort 344 = .ok (.iload_n 2, 1) := dk_28 (dk_at dksX2_quickSort_14 12 rfl rfl)
theorem dX2_quickSort_345 : decode cX2_quickSort 345 = .ok (.invokestatic 29, 3) := dk_184 0 29 (dk_at dksX2_quickSort_14 13 rfl rfl)
theorem dX2_quickSort_348 : decode cX2_quickSort 348 = .ok (.return_, 1) := dk_177 (dk_at dksX2_quickSort_14 16 rfl rfl)
abbrev cX2_selectionSort : ByteArray := prog_1_method_4_code
def yX2_selectionSort : MethodName := ⟨RX2, "selectionSort", "([SII)V"⟩
def dkwX2_selectionSort_3 : List UInt8 := [167, 255, 187, 177]
abbrev dktX2_selectionSort_3 : List UInt8 := dkwX2_selectionSort_3 ++ []
def dkwX2_selectionSort_2 : List UInt8 := [159, 0, 21, 42, 29, 53, 54, 5, 42, 29, 42, 21, 4, 53, 86, 42, 21, 4, 21, 5, 86, 132, 3, 1]
abbrev dktX2_selectionSort_2 : List UInt8 := dkwX2_selectionSort_2 ++ dktX2_selectionSort_3
def dkwX2_selectionSort_1 : List UInt8 := [21, 5, 53, 42, 21, 4, 53, 162, 0, 7, 21, 5, 54, 4, 132, 5, 1, 167, 255, 232, 21, 4, 29]
abbrev dktX2_selectionSort_1 : List UInt8 := dkwX2_selectionSort_1 ++ dktX2_selectionSort_2
def dkwX2_selectionSort_0 : List UInt8 := [27, 62, 29, 28, 4, 100, 162, 0, 68, 29, 54, 4, 29, 4, 96, 54, 5, 21, 5, 28, 162, 0, 24, 42]
abbrev dktX2_selectionSort_0 : List UInt8 := dkwX2_selectionSort_0 ++ dktX2_selectionSort_1
theorem dksX2_selectionSort_0 : cX2_selectionSort.data.toList.drop 0 = dktX2_selectionSort_0 := by decide +kernel
theorem dksX2_selectionSort_1 : cX2_selectionSort.data.toList.drop 24 = dktX2_selectionSort_1 := dk_seg dksX2_selectionSort_0 24 rfl rfl
theorem dksX2_selectionSort_2 : cX2_selectionSort.data.toList.drop 47 = dktX2_selectionSort_2 := dk_seg dksX2_selectionSort_1 23 rfl rfl
theorem dksX2_selectionSort_3 : cX2_selectionSort.data.toList.drop 71 = dktX2_selectionSort_3 := dk_seg dksX2_selectionSort_2 24 rfl rfl
theorem dX2_selectionSort_0 : decode cX2_selectionSort 0 = .ok (.iload_n 1, 1) := dk_27 (dk_at dksX2_selectionSort_0 0 rfl rfl)
theorem dX2_selectionSort_1 : decode cX2_selectionSort 1 = .ok (.istore_n 3, 1) := dk_62 (dk_at dksX2_selectionSort_0 1 rfl rfl)
theorem dX2_selectionSort_2 : decode cX2_selectionSort 2 = .ok (.iload_n 3, 1) := dk_29 (dk_at dksX2_selectionSort_0 2 rfl rfl)
theorem dX2_selectionSort_3 : decode cX2_selectionSort 3 = .ok (.iload_n 2, 1) := dk_28 (dk_at dksX2_selectionSort_0 3 rfl rfl)
theorem dX2_selectionSort_4 : decode cX2_selectionSort 4 = .ok (.iconst 1, 1) := dk_4 (dk_at dksX2_selectionSort_0 4 rfl rfl)
theorem dX2_selectionSort_5 : decode cX2_selectionSort 5 = .ok (.isub, 1) := dk_100 (dk_at dksX2_selectionSort_0 5 rfl rfl)
theorem dX2_selectionSort_6 : decode cX2_selectionSort 6 = .ok (.if_icmp .ge 68, 3) := dk_162 0 68 (dk_at dksX2_selectionSort_0 6 rfl rfl)
theorem dX2_selectionSort_9 : decode cX2_selectionSort 9 = .ok (.iload_n 3, 1) := dk_29 (dk_at dksX2_selectionSort_0 9 rfl rfl)
theorem dX2_selectionSort_10 : decode cX2_selectionSort 10 = .ok (.istore 4, 2) := dk_54 4 (dk_at dksX2_selectionSort_0 10 rfl rfl)
theorem dX2_selectionSort_12 : decode cX2_selectionSort 12 = .ok (.iload_n 3, 1) := dk_29 (dk_at dksX2_selectionSort_0 12 rfl rfl)
theorem dX2_selectionSort_13 : decode cX2_selectionSort 13 = .ok (.iconst 1, 1) := dk_4 (dk_at dksX2_selectionSort_0 13 rfl rfl)
theorem dX2_selectionSort_14 : decode cX2_selectionSort 14 = .ok (.iadd, 1) := dk_96 (dk_at dksX2_selectionSort_0 14 rfl rfl)
theorem dX2_selectionSort_15 : decode cX2_selectionSort 15 = .ok (.istore 5, 2) := dk_54 5 (dk_at dksX2_selectionSort_0 15 rfl rfl)
theorem dX2_selectionSort_17 : decode cX2_selectionSort 17 = .ok (.iload 5, 2) := dk_21 5 (dk_at dksX2_selectionSort_0 17 rfl rfl)
theorem dX2_selectionSort_19 : decode cX2_selectionSort 19 = .ok (.iload_n 2, 1) := dk_28 (dk_at dksX2_selectionSort_0 19 rfl rfl)
theorem dX2_selectionSort_20 : decode cX2_selectionSort 20 = .ok (.if_icmp .ge 24, 3) := dk_162 0 24 (dk_at dksX2_selectionSort_0 20 rfl rfl)
theorem dX2_selectionSort_23 : decode cX2_selectionSort 23 = .ok (.aload_n 0, 1) := dk_42 (dk_at dksX2_selectionSort_0 23 rfl rfl)
theorem dX2_selectionSort_24 : decode cX2_selectionSort 24 = .ok (.iload 5, 2) := dk_21 5 (dk_at dksX2_selectionSort_1 0 rfl rfl)
theorem dX2_selectionSort_26 : decode cX2_selectionSort 26 = .ok (.saload, 1) := dk_53 (dk_at dksX2_selectionSort_1 2 rfl rfl)
theorem dX2_selectionSort_27 : decode cX2_selectionSort 27 = .ok (.aload_n 0, 1) := dk_42 (dk_at dksX2_selectionSort_1 3 rfl rfl)
theorem dX2_selectionSort_28 : decode cX2_selectionSort 28 = .ok (.iload 4, 2) := dk_21 4 (dk_at dksX2_selectionSort_1 4 rfl rfl)
theorem dX2_selectionSort_30 : decode cX2_selectionSort 30 = .ok (.saload, 1) := dk_53 (dk_at dksX2_selectionSort_1 6 rfl rfl)
theorem dX2_selectionSort_31 : decode cX2_selectionSort 31 = .ok (.if_icmp .ge 7, 3) := dk_162 0 7 (dk_at dksX2_selectionSort_1 7 rfl rfl)
theorem dX2_selectionSort_34 : decode cX2_selectionSort 34 = .ok (.iload 5, 2) := dk_21 5 (dk_at dksX2_selectionSort_1 10 rfl rfl)
theorem dX2_selectionSort_36 : decode cX2_selectionSort 36 = .ok (.istore 4, 2) := dk_54 4 (dk_at dksX2_selectionSort_1 12 rfl rfl)
theorem dX2_selectionSort_38 : decode cX2_selectionSort 38 = .ok (.iinc 5 1, 3) := dk_132 5 1 (dk_at dksX2_selectionSort_1 14 rfl rfl)
theorem dX2_selectionSort_41 : decode cX2_selectionSort 41 = .ok (.goto (-24), 3) := dk_167 255 232 (dk_at dksX2_selectionSort_1 17 rfl rfl)
theorem dX2_selectionSort_44 : decode cX2_selectionSort 44 = .ok (.iload 4, 2) := dk_21 4 (dk_at dksX2_selectionSort_1 20 rfl rfl)
theorem dX2_selectionSort_46 : decode cX2_selectionSort 46 = .ok (.iload_n 3, 1) := dk_29 (dk_at dksX2_selectionSort_1 22 rfl rfl)
theorem dX2_selectionSort_47 : decode cX2_selectionSort 47 = .ok (.if_icmp .eq 21, 3) := dk_159 0 21 (dk_at dksX2_selectionSort_2 0 rfl rfl)
theorem dX2_selectionSort_50 : decode cX2_selectionSort 50 = .ok (.aload_n 0, 1) := dk_42 (dk_at dksX2_selectionSort_2 3 rfl rfl)
theorem dX2_selectionSort_51 : decode cX2_selectionSort 51 = .ok (.iload_n 3, 1) := dk_29 (dk_at dksX2_selectionSort_2 4 rfl rfl)
theorem dX2_selectionSort_52 : decode cX2_selectionSort 52 = .ok (.saload, 1) := dk_53 (dk_at dksX2_selectionSort_2 5 rfl rfl)
theorem dX2_selectionSort_53 : decode cX2_selectionSort 53 = .ok (.istore 5, 2) := dk_54 5 (dk_at dksX2_selectionSort_2 6 rfl rfl)
theorem dX2_selectionSort_55 : decode cX2_selectionSort 55 = .ok (.aload_n 0, 1) := dk_42 (dk_at dksX2_selectionSort_2 8 rfl rfl)
theorem dX2_selectionSort_56 : decode cX2_selectionSort 56 = .ok (.iload_n 3, 1) := dk_29 (dk_at dksX2_selectionSort_2 9 rfl rfl)
theorem dX2_selectionSort_57 : decode cX2_selectionSort 57 = .ok (.aload_n 0, 1) := dk_42 (dk_at dksX2_selectionSort_2 10 rfl rfl)
theorem dX2_selectionSort_58 : decode cX2_selectionSort 58 = .ok (.iload 4, 2) := dk_21 4 (dk_at dksX2_selectionSort_2 11 rfl rfl)
theorem dX2_selectionSort_60 : decode cX2_selectionSort 60 = .ok (.saload, 1) := dk_53 (dk_at dksX2_selectionSort_2 13 rfl rfl)
theorem dX2_selectionSort_61 : decode cX2_selectionSort 61 = .ok (.sastore, 1) := dk_86 (dk_at dksX2_selectionSort_2 14 rfl rfl)
theorem dX2_selectionSort_62 : decode cX2_selectionSort 62 = .ok (.aload_n 0, 1) := dk_42 (dk_at dksX2_selectionSort_2 15 rfl rfl)
theorem dX2_selectionSort_63 : decode cX2_selectionSort 63 = .ok (.iload 4, 2) := dk_21 4 (dk_at dksX2_selectionSort_2 16 rfl rfl)
theorem dX2_selectionSort_65 : decode cX2_selectionSort 65 = .ok (.iload 5, 2) := dk_21 5 (dk_at dksX2_selectionSort_2 18 rfl rfl)
theorem dX2_selectionSort_67 : decode cX2_selectionSort 67 = .ok (.sastore, 1) := dk_86 (dk_at dksX2_selectionSort_2 20 rfl rfl)
theorem dX2_selectionSort_68 : decode cX2_selectionSort 68 = .ok (.iinc 3 1, 3) := dk_132 3 1 (dk_at dksX2_selectionSort_2 21 rfl rfl)
theorem dX2_selectionSort_71 : decode cX2_selectionSort 71 = .ok (.goto (-69), 3) := dk_167 255 187 (dk_at dksX2_selectionSort_3 0 rfl rfl)
theorem dX2_selectionSort_74 : decode cX2_selectionSort 74 = .ok (.return_, 1) := dk_177 (dk_at dksX2_selectionSort_3 3 rfl rfl)
abbrev cX2_med3 : ByteArray := prog_1_method_3_code
def yX2_med3 : MethodName := ⟨RX2, "med3", "([SIII)I"⟩
def dkwX2_med3_3 : List UInt8 := [158, 0, 7, 29, 167, 0, 4, 27, 172]
abbrev dktX2_med3_3 : List UInt8 := dkwX2_med3_3 ++ []
def dkwX2_med3_2 : List UInt8 := [21, 5, 156, 0, 7, 29, 167, 0, 26, 27, 167, 0, 22, 21, 6, 158, 0, 7, 28, 167, 0, 13, 21, 5]
abbrev dktX2_med3_2 : List UInt8 := dkwX2_med3_2 ++ dktX2_med3_3
def dkwX2_med3_1 : List UInt8 := [53, 42, 29, 53, 184, 0, 9, 54, 6, 21, 4, 156, 0, 25, 21, 6, 156, 0, 7, 28, 167, 0, 35]
abbrev dktX2_med3_1 : List UInt8 := dkwX2_med3_1 ++ dktX2_med3_2
def dkwX2_med3_0 : List UInt8 := [42, 27, 53, 42, 28, 53, 184, 0, 9, 54, 4, 42, 27, 53, 42, 29, 53, 184, 0, 9, 54, 5, 42, 28]
abbrev dktX2_med3_0 : List UInt8 := dkwX2_med3_0 ++ dktX2_med3_1
theorem dksX2_med3_0 : cX2_med3.data.toList.drop 0 = dktX2_med3_0 := by decide +kernel
theorem dksX2_med3_1 : cX2_med3.data.toList.drop 24 = dktX2_med3_1 := dk_seg dksX2_med3_0 24 rfl rfl
theorem dksX2_med3_2 : cX2_med3.data.toList.drop 47 = dktX2_med3_2 := dk_seg dksX2_med3_1 23 rfl rfl
theorem dksX2_med3_3 : cX2_med3.data.toList.drop 71 = dktX2_med3_3 := dk_seg dksX2_med3_2 24 rfl rfl
theorem dX2_med3_0 : decode cX2_med3 0 = .ok (.aload_n 0, 1) := dk_42 (dk_at dksX2_med3_0 0 rfl rfl)
theorem dX2_med3_1 : decode cX2_med3 1 = .ok (.iload_n 1, 1) := dk_27 (dk_at dksX2_med3_0 1 rfl rfl)
theorem dX2_med3_2 : decode cX2_med3 2 = .ok (.saload, 1) := dk_53 (dk_at dksX2_med3_0 2 rfl rfl)
theorem dX2_med3_3 : decode cX2_med3 3 = .ok (.aload_n 0, 1) := dk_42 (dk_at dksX2_med3_0 3 rfl rfl)
theorem dX2_med3_4 : decode cX2_med3 4 = .ok (.iload_n 2, 1) := dk_28 (dk_at dksX2_med3_0 4 rfl rfl)
theorem dX2_med3_5 : decode cX2_med3 5 = .ok (.saload, 1) := dk_53 (dk_at dksX2_med3_0 5 rfl rfl)
theorem dX2_med3_6 : decode cX2_med3 6 = .ok (.invokestatic 9, 3) := dk_184 0 9 (dk_at dksX2_med3_0 6 rfl rfl)
theorem dX2_med3_9 : decode cX2_med3 9 = .ok (.istore 4, 2) := dk_54 4 (dk_at dksX2_med3_0 9 rfl rfl)
theorem dX2_med3_11 : decode cX2_med3 11 = .ok (.aload_n 0, 1) := dk_42 (dk_at dksX2_med3_0 11 rfl rfl)
theorem dX2_med3_12 : decode cX2_med3 12 = .ok (.iload_n 1, 1) := dk_27 (dk_at dksX2_med3_0 12 rfl rfl)
theorem dX2_med3_13 : decode cX2_med3 13 = .ok (.saload, 1) := dk_53 (dk_at dksX2_med3_0 13 rfl rfl)
theorem dX2_med3_14 : decode cX2_med3 14 = .ok (.aload_n 0, 1) := dk_42 (dk_at dksX2_med3_0 14 rfl rfl)
theorem dX2_med3_15 : decode cX2_med3 15 = .ok (.iload_n 3, 1) := dk_29 (dk_at dksX2_med3_0 15 rfl rfl)
theorem dX2_med3_16 : decode cX2_med3 16 = .ok (.saload, 1) := dk_53 (dk_at dksX2_med3_0 16 rfl rfl)
theorem dX2_med3_17 : decode cX2_med3 17 = .ok (.invokestatic 9, 3) := dk_184 0 9 (dk_at dksX2_med3_0 17 rfl rfl)
theorem dX2_med3_20 : decode cX2_med3 20 = .ok (.istore 5, 2) := dk_54 5 (dk_at dksX2_med3_0 20 rfl rfl)
theorem dX2_med3_22 : decode cX2_med3 22 = .ok (.aload_n 0, 1) := dk_42 (dk_at dksX2_med3_0 22 rfl rfl)
theorem dX2_med3_23 : decode cX2_med3 23 = .ok (.iload_n 2, 1) := dk_28 (dk_at dksX2_med3_0 23 rfl rfl)
theorem dX2_med3_24 : decode cX2_med3 24 = .ok (.saload, 1) := dk_53 (dk_at dksX2_med3_1 0 rfl rfl)
theorem dX2_med3_25 : decode cX2_med3 25 = .ok (.aload_n 0, 1) := dk_42 (dk_at dksX2_med3_1 1 rfl rfl)
theorem dX2_med3_26 : decode cX2_med3 26 = .ok (.iload_n 3, 1) := dk_29 (dk_at dksX2_med3_1 2 rfl rfl)
theorem dX2_med3_27 : decode cX2_med3 27 = .ok (.saload, 1) := dk_53 (dk_at dksX2_med3_1 3 rfl rfl)
theorem dX2_med3_28 : decode cX2_med3 28 = .ok (.invokestatic 9, 3) := dk_184 0 9 (dk_at dksX2_med3_1 4 rfl rfl)
theorem dX2_med3_31 : decode cX2_med3 31 = .ok (.istore 6, 2) := dk_54 6 (dk_at dksX2_med3_1 7 rfl rfl)
theorem dX2_med3_33 : decode cX2_med3 33 = .ok (.iload 4, 2) := dk_21 4 (dk_at dksX2_med3_1 9 rfl rfl)
theorem dX2_med3_35 : decode cX2_med3 35 = .ok (.ifCond .ge 25, 3) := dk_156 0 25 (dk_at dksX2_med3_1 11 rfl rfl)
theorem dX2_med3_38 : decode cX2_med3 38 = .ok (.iload 6, 2) := dk_21 6 (dk_at dksX2_med3_1 14 rfl rfl)
theorem dX2_med3_40 : decode cX2_med3 40 = .ok (.ifCond .ge 7, 3) := dk_156 0 7 (dk_at dksX2_med3_1 16 rfl rfl)
theorem dX2_med3_43 : decode cX2_med3 43 = .ok (.iload_n 2, 1) := dk_28 (dk_at dksX2_med3_1 19 rfl rfl)
theorem dX2_med3_44 : decode cX2_med3 44 = .ok (.goto 35, 3) := dk_167 0 35 (dk_at dksX2_med3_1 20 rfl rfl)
theorem dX2_med3_47 : decode cX2_med3 47 = .ok (.iload 5, 2) := dk_21 5 (dk_at dksX2_med3_2 0 rfl rfl)
theorem dX2_med3_49 : decode cX2_med3 49 = .ok (.ifCond .ge 7, 3) := dk_156 0 7 (dk_at dksX2_med3_2 2 rfl rfl)
theorem dX2_med3_52 : decode cX2_med3 52 = .ok (.iload_n 3, 1) := dk_29 (dk_at dksX2_med3_2 5 rfl rfl)
theorem dX2_med3_53 : decode cX2_med3 53 = .ok (.goto 26, 3) := dk_167 0 26 (dk_at dksX2_med3_2 6 rfl rfl)
theorem dX2_med3_56 : decode cX2_med3 56 = .ok (.iload_n 1, 1) := dk_27 (dk_at dksX2_med3_2 9 rfl rfl)
theorem dX2_med3_57 : decode cX2_med3 57 = .ok (.goto 22, 3) := dk_167 0 22 (dk_at dksX2_med3_2 10 rfl rfl)
theorem dX2_med3_60 : decode cX2_med3 60 = .ok (.iload 6, 2) := dk_21 6 (dk_at dksX2_med3_2 13 rfl rfl)
theorem dX2_med3_62 : decode cX2_med3 62 = .ok (.ifCond .le 7, 3) := dk_158 0 7 (dk_at dksX2_med3_2 15 rfl rfl)
theorem dX2_med3_65 : decode cX2_med3 65 = .ok (.iload_n 2, 1) := dk_28 (dk_at dksX2_med3_2 18 rfl rfl)
theorem dX2_med3_66 : decode cX2_med3 66 = .ok (.goto 13, 3) := dk_167 0 13 (dk_at dksX2_med3_2 19 rfl rfl)
theorem dX2_med3_69 : decode cX2_med3 69 = .ok (.iload 5, 2) := dk_21 5 (dk_at dksX2_med3_2 22 rfl rfl)
theorem dX2_med3_71 : decode cX2_med3 71 = .ok (.ifCond .le 7, 3) := dk_158 0 7 (dk_at dksX2_med3_3 0 rfl rfl)
theorem dX2_med3_74 : decode cX2_med3 74 = .ok (.iload_n 3, 1) := dk_29 (dk_at dksX2_med3_3 3 rfl rfl)
theorem dX2_med3_75 : decode cX2_med3 75 = .ok (.goto 4, 3) := dk_167 0 4 (dk_at dksX2_med3_3 4 rfl rfl)
theorem dX2_med3_78 : decode cX2_med3 78 = .ok (.iload_n 1, 1) := dk_27 (dk_at dksX2_med3_3 7 rfl rfl)
theorem dX2_med3_79 : decode cX2_med3 79 = .ok (.ireturn, 1) := dk_172 (dk_at dksX2_med3_3 8 rfl rfl)
abbrev cX2_swap : ByteArray := prog_1_method_1_code
def yX2_swap : MethodName := ⟨RX2, "swap", "([SII)V"⟩
def dkwX2_swap_0 : List UInt8 := [42, 27, 53, 62, 42, 27, 42, 28, 53, 86, 42, 28, 29, 86, 177]
abbrev dktX2_swap_0 : List UInt8 := dkwX2_swap_0 ++ []
theorem dksX2_swap_0 : cX2_swap.data.toList.drop 0 = dktX2_swap_0 := by decide +kernel
theorem dX2_swap_0 : decode cX2_swap 0 = .ok (.aload_n 0, 1) := dk_42 (dk_at dksX2_swap_0 0 rfl rfl)
theorem dX2_swap_1 : decode cX2_swap 1 = .ok (.iload_n 1, 1) := dk_27 (dk_at dksX2_swap_0 1 rfl rfl)
theorem dX2_swap_2 : decode cX2_swap 2 = .ok (.saload, 1) := dk_53 (dk_at dksX2_swap_0 2 rfl rfl)
theorem dX2_swap_3 : decode cX2_swap 3 = .ok (.istore_n 3, 1) := dk_62 (dk_at dksX2_swap_0 3 rfl rfl)
theorem dX2_swap_4 : decode cX2_swap 4 = .ok (.aload_n 0, 1) := dk_42 (dk_at dksX2_swap_0 4 rfl rfl)
theorem dX2_swap_5 : decode cX2_swap 5 = .ok (.iload_n 1, 1) := dk_27 (dk_at dksX2_swap_0 5 rfl rfl)
theorem dX2_swap_6 : decode cX2_swap 6 = .ok (.aload_n 0, 1) := dk_42 (dk_at dksX2_swap_0 6 rfl rfl)
theorem dX2_swap_7 : decode cX2_swap 7 = .ok (.iload_n 2, 1) := dk_28 (dk_at dksX2_swap_0 7 rfl rfl)
theorem dX2_swap_8 : decode cX2_swap 8 = .ok (.saload, 1) := dk_53 (dk_at dksX2_swap_0 8 rfl rfl)
theorem dX2_swap_9 : decode cX2_swap 9 = .ok (.sastore, 1) := dk_86 (dk_at dksX2_swap_0 9 rfl rfl)
theorem dX2_swap_10 : decode cX2_swap 10 = .ok (.aload_n 0, 1) := dk_42 (dk_at dksX2_swap_0 10 rfl rfl)
theorem dX2_swap_11 : decode cX2_swap 11 = .ok (.iload_n 2, 1) := dk_28 (dk_at dksX2_swap_0 11 rfl rfl)
theorem dX2_swap_12 : decode cX2_swap 12 = .ok (.iload_n 3, 1) := dk_29 (dk_at dksX2_swap_0 12 rfl rfl)
theorem dX2_swap_13 : decode cX2_swap 13 = .ok (.sastore, 1) := dk_86 (dk_at dksX2_swap_0 13 rfl rfl)
theorem dX2_swap_14 : decode cX2_swap 14 = .ok (.return_, 1) := dk_177 (dk_at dksX2_swap_0 14 rfl rfl)
abbrev cX2_swap_2 : ByteArray := prog_1_method_2_code
def yX2_swap_2 : MethodName := ⟨RX2, "swap", "([SIII)V"⟩
def dkwX2_swap_2_1 : List UInt8 := [167, 255, 235, 177]
abbrev dktX2_swap_2_1 : List UInt8 := dkwX2_swap_2_1 ++ []
def dkwX2_swap_2_0 : List UInt8 := [3, 54, 4, 21, 4, 29, 162, 0, 21, 42, 27, 28, 184, 0, 5, 132, 4, 1, 132, 1, 1, 132, 2, 1]
abbrev dktX2_swap_2_0 : List UInt8 := dkwX2_swap_2_0 ++ dktX2_swap_2_1
theorem dksX2_swap_2_0 : cX2_swap_2.data.toList.drop 0 = dktX2_swap_2_0 := by decide +kernel
theorem dksX2_swap_2_1 : cX2_swap_2.data.toList.drop 24 = dktX2_swap_2_1 := dk_seg dksX2_swap_2_0 24 rfl rfl
theorem dX2_swap_2_0 : decode cX2_swap_2 0 = .ok (.iconst 0, 1) := dk_3 (dk_at dksX2_swap_2_0 0 rfl rfl)
theorem dX2_swap_2_1 : decode cX2_swap_2 1 = .ok (.istore 4, 2) := dk_54 4 (dk_at dksX2_swap_2_0 1 rfl rfl)
theorem dX2_swap_2_3 : decode cX2_swap_2 3 = .ok (.iload 4, 2) := dk_21 4 (dk_at dksX2_swap_2_0 3 rfl rfl)
theorem dX2_swap_2_5 : decode cX2_swap_2 5 = .ok (.iload_n 3, 1) := dk_29 (dk_at dksX2_swap_2_0 5 rfl rfl)
theorem dX2_swap_2_6 : decode cX2_swap_2 6 = .ok (.if_icmp .ge 21, 3) := dk_162 0 21 (dk_at dksX2_swap_2_0 6 rfl rfl)
theorem dX2_swap_2_9 : decode cX2_swap_2 9 = .ok (.aload_n 0, 1) := dk_42 (dk_at dksX2_swap_2_0 9 rfl rfl)
theorem dX2_swap_2_10 : decode cX2_swap_2 10 = .ok (.iload_n 1, 1) := dk_27 (dk_at dksX2_swap_2_0 10 rfl rfl)
theorem dX2_swap_2_11 : decode cX2_swap_2 11 = .ok (.iload_n 2, 1) := dk_28 (dk_at dksX2_swap_2_0 11 rfl rfl)
theorem dX2_swap_2_12 : decode cX2_swap_2 12 = .ok (.invokestatic 5, 3) := dk_184 0 5 (dk_at dksX2_swap_2_0 12 rfl rfl)
theorem dX2_swap_2_15 : decode cX2_swap_2 15 = .ok (.iinc 4 1, 3) := dk_132 4 1 (dk_at dksX2_swap_2_0 15 rfl rfl)
theorem dX2_swap_2_18 : decode cX2_swap_2 18 = .ok (.iinc 1 1, 3) := dk_132 1 1 (dk_at dksX2_swap_2_0 18 rfl rfl)
theorem dX2_swap_2_21 : decode cX2_swap_2 21 = .ok (.iinc 2 1, 3) := dk_132 2 1 (dk_at dksX2_swap_2_0 21 rfl rfl)
theorem dX2_swap_2_24 : decode cX2_swap_2 24 = .ok (.goto (-21), 3) := dk_167 255 235 (dk_at dksX2_swap_2_1 0 rfl rfl)
theorem dX2_swap_2_27 : decode cX2_swap_2 27 = .ok (.return_, 1) := dk_177 (dk_at dksX2_swap_2_1 3 rfl rfl)
abbrev cX2_mergeSort : ByteArray := prog_1_method_8_code
def yX2_mergeSort : MethodName := ⟨RX2, "mergeSort", "([SII)V"⟩
def dkwX2_mergeSort_0 : List UInt8 := [42, 27, 28, 1, 192, 0, 51, 184, 0, 41, 177]
abbrev dktX2_mergeSort_0 : List UInt8 := dkwX2_mergeSort_0 ++ []
theorem dksX2_mergeSort_0 : cX2_mergeSort.data.toList.drop 0 = dktX2_mergeSort_0 := by decide +kernel
theorem dX2_mergeSort_0 : decode cX2_mergeSort 0 = .ok (.aload_n 0, 1) := dk_42 (dk_at dksX2_mergeSort_0 0 rfl rfl)
theorem dX2_mergeSort_1 : decode cX2_mergeSort 1 = .ok (.iload_n 1, 1) := dk_27 (dk_at dksX2_mergeSort_0 1 rfl rfl)
theorem dX2_mergeSort_2 : decode cX2_mergeSort 2 = .ok (.iload_n 2, 1) := dk_28 (dk_at dksX2_mergeSort_0 2 rfl rfl)
theorem dX2_mergeSort_3 : decode cX2_mergeSort 3 = .ok (.aconst_null, 1) := dk_1 (dk_at dksX2_mergeSort_0 3 rfl rfl)
theorem dX2_mergeSort_4 : decode cX2_mergeSort 4 = .ok (.checkcast 51, 3) := dk_192 0 51 (dk_at dksX2_mergeSort_0 4 rfl rfl)
theorem dX2_mergeSort_7 : decode cX2_mergeSort 7 = .ok (.invokestatic 41, 3) := dk_184 0 41 (dk_at dksX2_mergeSort_0 7 rfl rfl)
theorem dX2_mergeSort_10 : decode cX2_mergeSort 10 = .ok (.return_, 1) := dk_177 (dk_at dksX2_mergeSort_0 10 rfl rfl)
abbrev cX2_mergeSort_2 : ByteArray := prog_1_method_7_code
def yX2_mergeSort_2 : MethodName := ⟨RX2, "mergeSort", "([SII[S)V"⟩
def dkwX2_mergeSort_2_6 : List UInt8 := [132, 6, 1, 167, 255, 198, 177]
abbrev dktX2_mergeSort_2_6 : List UInt8 := dkwX2_mergeSort_2_6 ++ []
def dkwX2_mergeSort_2_5 : List UInt8 := [45, 21, 7, 132, 7, 1, 53, 86, 167, 0, 14, 42, 21, 6, 45, 21, 8, 132, 8, 1, 53, 86]
abbrev dktX2_mergeSort_2_5 : List UInt8 := dkwX2_mergeSort_2_5 ++ dktX2_mergeSort_2_6
def dkwX2_mergeSort_2_4 : List UInt8 := [162, 0, 21, 21, 7, 21, 5, 162, 0, 28, 45, 21, 7, 53, 45, 21, 8, 53, 163, 0, 17, 42, 21, 6]
abbrev dktX2_mergeSort_2_4 : List UInt8 := dkwX2_mergeSort_2_4 ++ dktX2_mergeSort_2_5
def dkwX2_mergeSort_2_3 : List UInt8 := [184, 0, 45, 177, 27, 54, 6, 27, 54, 7, 21, 5, 54, 8, 21, 6, 28, 162, 0, 58, 21, 8, 28]
abbrev dktX2_mergeSort_2_3 : List UInt8 := dkwX2_mergeSort_2_3 ++ dktX2_mergeSort_2_4
def dkwX2_mergeSort_2_2 : List UInt8 := [42, 184, 0, 41, 45, 21, 5, 4, 100, 53, 45, 21, 5, 53, 163, 0, 13, 45, 27, 42, 27, 21, 4]
abbrev dktX2_mergeSort_2_2 : List UInt8 := dkwX2_mergeSort_2_2 ++ dktX2_mergeSort_2_3
def dkwX2_mergeSort_2_1 : List UInt8 := [28, 184, 0, 35, 78, 27, 28, 96, 4, 124, 54, 5, 45, 27, 21, 5, 42, 184, 0, 41, 45, 21, 5, 28]
abbrev dktX2_mergeSort_2_1 : List UInt8 := dkwX2_mergeSort_2_1 ++ dktX2_mergeSort_2_2
def dkwX2_mergeSort_2_0 : List UInt8 := [28, 27, 100, 54, 4, 21, 4, 16, 16, 162, 0, 10, 42, 27, 28, 184, 0, 32, 177, 45, 199, 0, 9, 42]
abbrev dktX2_mergeSort_2_0 : List UInt8 := dkwX2_mergeSort_2_0 ++ dktX2_mergeSort_2_1
theorem dksX2_mergeSort_2_0 : cX2_mergeSort_2.data.toList.drop 0 = dktX2_mergeSort_2_0 := by decide +kernel
theorem dksX2_mergeSort_2_1 : cX2_mergeSort_2.data.toList.drop 24 = dktX2_mergeSort_2_1 := dk_seg dksX2_mergeSort_2_0 24 rfl rfl
theorem dksX2_mergeSort_2_2 : cX2_mergeSort_2.data.toList.drop 48 = dktX2_mergeSort_2_2 := dk_seg dksX2_mergeSort_2_1 24 rfl rfl
theorem dksX2_mergeSort_2_3 : cX2_mergeSort_2.data.toList.drop 71 = dktX2_mergeSort_2_3 := dk_seg dksX2_mergeSort_2_2 23 rfl rfl
theorem dksX2_mergeSort_2_4 : cX2_mergeSort_2.data.toList.drop 94 = dktX2_mergeSort_2_4 := dk_seg dksX2_mergeSort_2_3 23 rfl rfl
theorem dksX2_mergeSort_2_5 : cX2_mergeSort_2.data.toList.drop 118 = dktX2_mergeSort_2_5 := dk_seg dksX2_mergeSort_2_4 24 rfl rfl
theorem dksX2_mergeSort_2_6 : cX2_mergeSort_2.data.toList.drop 140 = dktX2_mergeSort_2_6 := dk_seg dksX2_mergeSort_2_5 22 rfl rfl
theorem dX2_mergeSort_2_0 : decode cX2_mergeSort_2 0 = .ok (.iload_n 2, 1) := dk_28 (dk_at dksX2_mergeSort_2_0 0 rfl rfl)
theorem dX2_mergeSort_2_1 : decode cX2_mergeSort_2 1 = .ok (.iload_n 1, 1) := dk_27 (dk_at dksX2_mergeSort_2_0 1 rfl rfl)
theorem dX2_mergeSort_2_2 : decode cX2_mergeSort_2 2 = .ok (.isub, 1) := dk_100 (dk_at dksX2_mergeSort_2_0 2 rfl rfl)
theorem dX2_mergeSort_2_3 : decode cX2_mergeSort_2 3 = .ok (.istore 4, 2) := dk_54 4 (dk_at dksX2_mergeSort_2_0 3 rfl rfl)
theorem dX2_mergeSort_2_5 : decode cX2_mergeSort_2 5 = .ok (.iload 4, 2) := dk_21 4 (dk_at dksX2_mergeSort_2_0 5 rfl rfl)
theorem dX2_mergeSort_2_7 : decode cX2_mergeSort_2 7 = .ok (.bipush 16, 2) := dk_16 16 (dk_at dksX2_mergeSort_2_0 7 rfl rfl)
theorem dX2_mergeSort_2_9 : decode cX2_mergeSort_2 9 = .ok (.if_icmp .ge 10, 3) := dk_162 0 10 (dk_at dksX2_mergeSort_2_0 9 rfl rfl)
theorem dX2_mergeSort_2_12 : decode cX2_mergeSort_2 12 = .ok (.aload_n 0, 1) := dk_42 (dk_at dksX2_mergeSort_2_0 12 rfl rfl)
theorem dX2_mergeSort_2_13 : decode cX2_mergeSort_2 13 = .ok (.iload_n 1, 1) := dk_27 (dk_at dksX2_mergeSort_2_0 13 rfl rfl)
theorem dX2_mergeSort_2_14 : decode cX2_mergeSort_2 14 = .ok (.iload_n 2, 1) := dk_28 (dk_at dksX2_mergeSort_2_0 14 rfl rfl)
theorem dX2_mergeSort_2_15 : decode cX2_mergeSort_2 15 = .ok (.invokestatic 32, 3) := dk_184 0 32 (dk_at dksX2_mergeSort_2_0 15 rfl rfl)
theorem dX2_mergeSort_2_18 : decode cX2_mergeSort_2 18 = .ok (.return_, 1) := dk_177 (dk_at dksX2_mergeSort_2_0 18 rfl rfl)
theorem dX2_mergeSort_2_19 : decode cX2_mergeSort_2 19 = .ok (.aload_n 3, 1) := dk_45 (dk_at dksX2_mergeSort_2_0 19 rfl rfl)
theorem dX2_mergeSort_2_20 : decode cX2_mergeSort_2 20 = .ok (.ifnonnull 9, 3) := dk_199 0 9 (dk_at dksX2_mergeSort_2_0 20 rfl rfl)
theorem dX2_mergeSort_2_23 : decode cX2_mergeSort_2 23 = .ok (.aload_n 0, 1) := dk_42 (dk_at dksX2_mergeSort_2_0 23 rfl rfl)
theorem dX2_mergeSort_2_24 : decode cX2_mergeSort_2 24 = .ok (.iload_n 2, 1) := dk_28 (dk_at dksX2_mergeSort_2_1 0 rfl rfl)
theorem dX2_mergeSort_2_25 : decode cX2_mergeSort_2 25 = .ok (.invokestatic 35, 3) := dk_184 0 35 (dk_at dksX2_mergeSort_2_1 1 rfl rfl)
theorem dX2_mergeSort_2_28 : decode cX2_mergeSort_2 28 = .ok (.astore_n 3, 1) := dk_78 (dk_at dksX2_mergeSort_2_1 4 rfl rfl)
theorem dX2_mergeSort_2_29 : decode cX2_mergeSort_2 29 = .ok (.iload_n 1, 1) := dk_27 (dk_at dksX2_mergeSort_2_1 5 rfl rfl)
theorem dX2_mergeSort_2_30 : decode cX2_mergeSort_2 30 = .ok (.iload_n 2, 1) := dk_28 (dk_at dksX2_mergeSort_2_1 6 rfl rfl)
theorem dX2_mergeSort_2_31 : decode cX2_mergeSort_2 31 = .ok (.iadd, 1) := dk_96 (dk_at dksX2_mergeSort_2_1 7 rfl rfl)
theorem dX2_mergeSort_2_32 : decode cX2_mergeSort_2 32 = .ok (.iconst 1, 1) := dk_4 (dk_at dksX2_mergeSort_2_1 8 rfl rfl)
theorem dX2_mergeSort_2_33 : decode cX2_mergeSort_2 33 = .ok (.iushr, 1) := dk_124 (dk_at dksX2_mergeSort_2_1 9 rfl rfl)
theorem dX2_mergeSort_2_34 : decode cX2_mergeSort_2 34 = .ok (.istore 5, 2) := dk_54 5 (dk_at dksX2_mergeSort_2_1 10 rfl rfl)
theorem dX2_mergeSort_2_36 : decode cX2_mergeSort_2 36 = .ok (.aload_n 3, 1) := dk_45 (dk_at dksX2_mergeSort_2_1 12 rfl rfl)
theorem dX2_mergeSort_2_37 : decode cX2_mergeSort_2 37 = .ok (.iload_n 1, 1) := dk_27 (dk_at dksX2_mergeSort_2_1 13 rfl rfl)
theorem dX2_mergeSort_2_38 : decode cX2_mergeSort_2 38 = .ok (.iload 5, 2) := dk_21 5 (dk_at dksX2_mergeSort_2_1 14 rfl rfl)
theorem dX2_mergeSort_2_40 : decode cX2_mergeSort_2 40 = .ok (.aload_n 0, 1) := dk_42 (dk_at dksX2_mergeSort_2_1 16 rfl rfl)
theorem dX2_mergeSort_2_41 : decode cX2_mergeSort_2 41 = .ok (.invokestatic 41, 3) := dk_184 0 41 (dk_at dksX2_mergeSort_2_1 17 rfl rfl)
theorem dX2_mergeSort_2_44 : decode cX2_mergeSort_2 44 = .ok (.aload_n 3, 1) := dk_45 (dk_at dksX2_mergeSort_2_1 20 rfl rfl)
theorem dX2_mergeSort_2_45 : decode cX2_mergeSort_2 45 = .ok (.iload 5, 2) := dk_21 5 (dk_at dksX2_mergeSort_2_1 21 rfl rfl)
theorem dX2_mergeSort_2_47 : decode cX2_mergeSort_2 47 = .ok (.iload_n 2, 1) := dk_28 (dk_at dksX2_mergeSort_2_1 23 rfl rfl)
theorem dX2_mergeSort_2_48 : decode cX2_mergeSort_2 48 = .ok (.aload_n 0, 1) := dk_42 (dk_at dksX2_mergeSort_2_2 0 rfl rfl)
theorem dX2_mergeSort_2_49 : decode cX2_mergeSort_2 49 = .ok (.invokestatic 41, 3) := dk_184 0 41 (dk_at dksX2_mergeSort_2_2 1 rfl rfl)
theorem dX2_mergeSort_2_52 : decode cX2_mergeSort_2 52 = .ok (.aload_n 3, 1) := dk_45 (dk_at dksX2_mergeSort_2_2 4 rfl rfl)
theorem dX2_mergeSort_2_53 : decode cX2_mergeSort_2 53 = .ok (.iload 5, 2) := dk_21 5 (dk_at dksX2_mergeSort_2_2 5 rfl rfl)
theorem dX2_mergeSort_2_55 : decode cX2_mergeSort_2 55 = .ok (.iconst 1, 1) := dk_4 (dk_at dksX2_mergeSort_2_2 7 rfl rfl)
theorem dX2_mergeSort_2_56 : decode cX2_mergeSort_2 56 = .ok (.isub, 1) := dk_100 (dk_at dksX2_mergeSort_2_2 8 rfl rfl)
theorem dX2_mergeSort_2_57 : decode cX2_mergeSort_2 57 = .ok (.saload, 1) := dk_53 (dk_at dksX2_mergeSort_2_2 9 rfl rfl)
theorem dX2_mergeSort_2_58 : decode cX2_mergeSort_2 58 = .ok (.aload_n 3, 1) := dk_45 (dk_at dksX2_mergeSort_2_2 10 rfl rfl)
theorem dX2_mergeSort_2_59 : decode cX2_mergeSort_2 59 = .ok (.iload 5, 2) := dk_21 5 (dk_at dksX2_mergeSort_2_2 11 rfl rfl)
theorem dX2_mergeSort_2_61 : decode cX2_mergeSort_2 61 = .ok (.saload, 1) := dk_53 (dk_at dksX2_mergeSort_2_2 13 rfl rfl)
theorem dX2_mergeSort_2_62 : decode cX2_mergeSort_2 62 = .ok (.if_icmp .gt 13, 3) := dk_163 0 13 (dk_at dksX2_mergeSort_2_2 14 rfl rfl)
theorem dX2_mergeSort_2_65 : decode cX2_mergeSort_2 65 = .ok (.aload_n 3, 1) := dk_45 (dk_at dksX2_mergeSort_2_2 17 rfl rfl)
theorem dX2_mergeSort_2_66 : decode cX2_mergeSort_2 66 = .ok (.iload_n 1, 1) := dk_27 (dk_at dksX2_mergeSort_2_2 18 rfl rfl)
theorem dX2_mergeSort_2_67 : decode cX2_mergeSort_2 67 = .ok (.aload_n 0, 1) := dk_42 (dk_at dksX2_mergeSort_2_2 19 rfl rfl)
theorem dX2_mergeSort_2_68 : decode cX2_mergeSort_2 68 = .ok (.iload_n 1, 1) := dk_27 (dk_at dksX2_mergeSort_2_2 20 rfl rfl)
theorem dX2_mergeSort_2_69 : decode cX2_mergeSort_2 69 = .ok (.iload 4, 2) := dk_21 4 (dk_at dksX2_mergeSort_2_2 21 rfl rfl)
theorem dX2_mergeSort_2_71 : decode cX2_mergeSort_2 71 = .ok (.invokestatic 45, 3) := dk_184 0 45 (dk_at dksX2_mergeSort_2_3 0 rfl rfl)
theorem dX2_mergeSort_2_74 : decode cX2_mergeSort_2 74 = .ok (.return_, 1) := dk_177 (dk_at dksX2_mergeSort_2_3 3 rfl rfl)
theorem dX2_mergeSort_2_75 : decode cX2_mergeSort_2 75 = .ok (.iload_n 1, 1) := dk_27 (dk_at dksX2_mergeSort_2_3 4 rfl rfl)
theorem dX2_mergeSort_2_76 : decode cX2_mergeSort_2 76 = .ok (.istore 6, 2) := dk_54 6 (dk_at dksX2_mergeSort_2_3 5 rfl rfl)
theorem dX2_mergeSort_2_78 : decode cX2_mergeSort_2 78 = .ok (.iload_n 1, 1) := dk_27 (dk_at dksX2_mergeSort_2_3 7 rfl rfl)
theorem dX2_mergeSort_2_79 : decode cX2_mergeSort_2 79 = .ok (.istore 7, 2) := dk_54 7 (dk_at dksX2_mergeSort_2_3 8 rfl rfl)
theorem dX2_mergeSort_2_81 : decode cX2_mergeSort_2 81 = .ok (.iload 5, 2) := dk_21 5 (dk_at dksX2_mergeSort_2_3 10 rfl rfl)
theorem dX2_mergeSort_2_83 : decode cX2_mergeSort_2 83 = .ok (.istore 8, 2) := dk_54 8 (dk_at dksX2_mergeSort_2_3 12 rfl rfl)
theorem dX2_mergeSort_2_85 : decode cX2_mergeSort_2 85 = .ok (.iload 6, 2) := dk_21 6 (dk_at dksX2_mergeSort_2_3 14 rfl rfl)
theorem dX2_mergeSort_2_87 : decode cX2_mergeSort_2 87 = .ok (.iload_n 2, 1) := dk_28 (dk_at dksX2_mergeSort_2_3 16 rfl rfl)
theorem dX2_mergeSort_2_88 : decode cX2_mergeSort_2 88 = .ok (.if_icmp .ge 58, 3) := dk_162 0 58 (dk_at dksX2_mergeSort_2_3 17 rfl rfl)
theorem dX2_mergeSort_2_91 : decode cX2_mergeSort_2 91 = .ok (.iload 8, 2) := dk_21 8 (dk_at dksX2_mergeSort_2_3 20 rfl rfl)
theorem dX2_mergeSort_2_93 : decode cX2_mergeSort_2 93 = .ok (.iload_n 2, 1) := dk_28 (dk_at dksX2_mergeSort_2_3 22 rfl rfl)
theorem dX2_mergeSort_2_94 : decode cX2_mergeSort_2 94 = .ok (.if_icmp .ge 21, 3) := dk_162 0 21 (dk_at dksX2_mergeSort_2_4 0 rfl rfl)
theorem dX2_mergeSort_2_97 : decode cX2_mergeSort_2 97 = .ok (.iload 7, 2) := dk_21 7 (dk_at dksX2_mergeSort_2_4 3 rfl rfl)
theorem dX2_mergeSort_2_99 : decode cX2_mergeSort_2 99 = .ok (.iload 5, 2) := dk_21 5 (dk_at dksX2_mergeSort_2_4 5 rfl rfl)
theorem dX2_mergeSort_2_101 : decode cX2_mergeSort_2 101 = .ok (.if_icmp .ge 28, 3) := dk_162 0 28 (dk_at dksX2_mergeSort_2_4 7 rfl rfl)
theorem dX2_mergeSort_2_104 : decode cX2_mergeSort_2 104 = .ok (.aload_n 3, 1) := dk_45 (dk_at dksX2_mergeSort_2_4 10 rfl rfl)
theorem dX2_mergeSort_2_105 : decode cX2_mergeSort_2 105 = .ok (.iload 7, 2) := dk_21 7 (dk_at dksX2_mergeSort_2_4 11 rfl rfl)
theorem dX2_mergeSort_2_107 : decode cX2_mergeSort_2 107 = .ok (.saload, 1) := dk_53 (dk_at dksX2_mergeSort_2_4 13 rfl rfl)
theorem dX2_mergeSort_2_108 : decode cX2_mergeSort_2 108 = .ok (.aload_n 3, 1) := dk_45 (dk_at dksX2_mergeSort_2_4 14 rfl rfl)
theorem dX2_mergeSort_2_109 : decode cX2_mergeSort_2 109 = .ok (.iload 8, 2) := dk_21 8 (dk_at dksX2_mergeSort_2_4 15 rfl rfl)
theorem dX2_mergeSort_2_111 : decode cX2_mergeSort_2 111 = .ok (.saload, 1) := dk_53 (dk_at dksX2_mergeSort_2_4 17 rfl rfl)
theorem dX2_mergeSort_2_112 : decode cX2_mergeSort_2 112 = .ok (.if_icmp .gt 17, 3) := dk_163 0 17 (dk_at dksX2_mergeSort_2_4 18 rfl rfl)
theorem dX2_mergeSort_2_115 : decode cX2_mergeSort_2 115 = .ok (.aload_n 0, 1) := dk_42 (dk_at dksX2_mergeSort_2_4 21 rfl rfl)
theorem dX2_mergeSort_2_116 : decode cX2_mergeSort_2 116 = .ok (.iload 6, 2) := dk_21 6 (dk_at dksX2_mergeSort_2_4 22 rfl rfl)
theorem dX2_mergeSort_2_118 : decode cX2_mergeSort_2 118 = .ok (.aload_n 3, 1) := dk_45 (dk_at dksX2_mergeSort_2_5 0 rfl rfl)
theorem dX2_mergeSort_2_119 : decode cX2_mergeSort_2 119 = .ok (.iload 7, 2) := dk_21 7 (dk_at dksX2_mergeSort_2_5 1 rfl rfl)
theorem dX2_mergeSort_2_121 : decode cX2_mergeSort_2 121 = .ok (.iinc 7 1, 3) := dk_132 7 1 (dk_at dksX2_mergeSort_2_5 3 rfl rfl)
theorem dX2_mergeSort_2_124 : decode cX2_mergeSort_2 124 = .ok (.saload, 1) := dk_53 (dk_at dksX2_mergeSort_2_5 6 rfl rfl)
theorem dX2_mergeSort_2_125 : decode cX2_mergeSort_2 125 = .ok (.sastore, 1) := dk_86 (dk_at dksX2_mergeSort_2_5 7 rfl rfl)
theorem dX2_mergeSort_2_126 : decode cX2_mergeSort_2 126 = .ok (.goto 14, 3) := dk_167 0 14 (dk_at dksX2_mergeSort_2_5 8 rfl rfl)
theorem dX2_mergeSort_2_129 : decode cX2_mergeSort_2 129 = .ok (.aload_n 0, 1) := dk_42 (dk_at dksX2_mergeSort_2_5 11 rfl rfl)
theorem dX2_mergeSort_2_130 : decode cX2_mergeSort_2 130 = .ok (.iload 6, 2) := dk_21 6 (dk_at dksX2_mergeSort_2_5 12 rfl rfl)
theorem dX2_mergeSort_2_132 : decode cX2_mergeSort_2 132 = .ok (.aload_n 3, 1) := dk_45 (dk_at dksX2_mergeSort_2_5 14 rfl rfl)
theorem dX2_mergeSort_2_133 : decode cX2_mergeSort_2 133 = .ok (.iload 8, 2) := dk_21 8 (dk_at dksX2_mergeSort_2_5 15 rfl rfl)
theorem dX2_mergeSort_2_135 : decode cX2_mergeSort_2 135 = .ok (.iinc 8 1, 3) := dk_132 8 1 (dk_at dksX2_mergeSort_2_5 17 rfl rfl)
theorem dX2_mergeSort_2_138 : decode cX2_mergeSort_2 138 = .ok (.saload, 1) := dk_53 (dk_at dksX2_mergeSort_2_5 20 rfl rfl)
theorem dX2_mergeSort_2_139 : decode cX2_mergeSort_2 139 = .ok (.sastore, 1) := dk_86 (dk_at dksX2_mergeSort_2_5 21 rfl rfl)
theorem dX2_mergeSort_2_140 : decode cX2_mergeSort_2 140 = .ok (.iinc 6 1, 3) := dk_132 6 1 (dk_at dksX2_mergeSort_2_6 0 rfl rfl)
theorem dX2_mergeSort_2_143 : decode cX2_mergeSort_2 143 = .ok (.goto (-58), 3) := dk_167 255 198 (dk_at dksX2_mergeSort_2_6 3 rfl rfl)
theorem dX2_mergeSort_2_146 : decode cX2_mergeSort_2 146 = .ok (.return_, 1) := dk_177 (dk_at dksX2_mergeSort_2_6 6 rfl rfl)
abbrev cX2_insertionSort : ByteArray := prog_1_method_5_code
def yX2_insertionSort : MethodName := ⟨RX2, "insertionSort", "([SII)V"⟩
def dkwX2_insertionSort_3 : List UInt8 := [21, 4, 86, 167, 255, 185, 177]
abbrev dktX2_insertionSort_3 : List UInt8 := dkwX2_insertionSort_3 ++ []
def dkwX2_insertionSort_2 : List UInt8 := [132, 5, 255, 167, 0, 17, 42, 132, 5, 255, 21, 5, 4, 100, 53, 54, 6, 167, 255, 218, 42, 21, 5]
abbrev dktX2_insertionSort_2 : List UInt8 := dkwX2_insertionSort_2 ++ dktX2_insertionSort_3
def dkwX2_insertionSort_1 : List UInt8 := [54, 6, 21, 4, 21, 6, 162, 0, 37, 42, 21, 5, 21, 6, 86, 27, 21, 5, 4, 100, 160, 0, 9]
abbrev dktX2_insertionSort_1 : List UInt8 := dkwX2_insertionSort_1 ++ dktX2_insertionSort_2
def dkwX2_insertionSort_0 : List UInt8 := [27, 62, 132, 3, 1, 29, 28, 162, 0, 69, 42, 29, 53, 54, 4, 29, 54, 5, 42, 21, 5, 4, 100, 53]
abbrev dktX2_insertionSort_0 : List UInt8 := dkwX2_insertionSort_0 ++ dktX2_insertionSort_1
theorem dksX2_insertionSort_0 : cX2_insertionSort.data.toList.drop 0 = dktX2_insertionSort_0 := by decide +kernel
theorem dksX2_insertionSort_1 : cX2_insertionSort.data.toList.drop 24 = dktX2_insertionSort_1 := dk_seg dksX2_insertionSort_0 24 rfl rfl
theorem dksX2_insertionSort_2 : cX2_insertionSort.data.toList.drop 47 = dktX2_insertionSort_2 := dk_seg dksX2_insertionSort_1 23 rfl rfl
theorem dksX2_insertionSort_3 : cX2_insertionSort.data.toList.drop 70 = dktX2_insertionSort_3 := dk_seg dksX2_insertionSort_2 23 rfl rfl
theorem dX2_insertionSort_0 : decode cX2_insertionSort 0 = .ok (.iload_n 1, 1) := dk_27 (dk_at dksX2_insertionSort_0 0 rfl rfl)
theorem dX2_insertionSort_1 : decode cX2_insertionSort 1 = .ok (.istore_n 3, 1) := dk_62 (dk_at dksX2_insertionSort_0 1 rfl rfl)
theorem dX2_insertionSort_2 : decode cX2_insertionSort 2 = .ok (.iinc 3 1, 3) := dk_132 3 1 (dk_at dksX2_insertionSort_0 2 rfl rfl)
theorem dX2_insertionSort_5 : decode cX2_insertionSort 5 = .ok (.iload_n 3, 1) := dk_29 (dk_at dksX2_insertionSort_0 5 rfl rfl)
theorem dX2_insertionSort_6 : decode cX2_insertionSort 6 = .ok (.iload_n 2, 1) := dk_28 (dk_at dksX2_insertionSort_0 6 rfl rfl)
theorem dX2_insertionSort_7 : decode cX2_insertionSort 7 = .ok (.if_icmp .ge 69, 3) := dk_162 0 69 (dk_at dksX2_insertionSort_0 7 rfl rfl)
theorem dX2_insertionSort_10 : decode cX2_insertionSort 10 = .ok (.aload_n 0, 1) := dk_42 (dk_at dksX2_insertionSort_0 10 rfl rfl)
theorem dX2_insertionSort_11 : decode cX2_insertionSort 11 = .ok (.iload_n 3, 1) := dk_29 (dk_at dksX2_insertionSort_0 11 rfl rfl)
theorem dX2_insertionSort_12 : decode cX2_insertionSort 12 = .ok (.saload, 1) := dk_53 (dk_at dksX2_insertionSort_0 12 rfl rfl)
theorem dX2_insertionSort_13 : decode cX2_insertionSort 13 = .ok (.istore 4, 2) := dk_54 4 (dk_at dksX2_insertionSort_0 13 rfl rfl)
theorem dX2_insertionSort_15 : decode cX2_insertionSort 15 = .ok (.iload_n 3, 1) := dk_29 (dk_at dksX2_insertionSort_0 15 rfl rfl)
theorem dX2_insertionSort_16 : decode cX2_insertionSort 16 = .ok (.istore 5, 2) := dk_54 5 (dk_at dksX2_insertionSort_0 16 rfl rfl)
theorem dX2_insertionSort_18 : decode cX2_insertionSort 18 = .ok (.aload_n 0, 1) := dk_42 (dk_at dksX2_insertionSort_0 18 rfl rfl)
theorem dX2_insertionSort_19 : decode cX2_insertionSort 19 = .ok (.iload 5, 2) := dk_21 5 (dk_at dksX2_insertionSort_0 19 rfl rfl)
theorem dX2_insertionSort_21 : decode cX2_insertionSort 21 = .ok (.iconst 1, 1) := dk_4 (dk_at dksX2_insertionSort_0 21 rfl rfl)
theorem dX2_insertionSort_22 : decode cX2_insertionSort 22 = .ok (.isub, 1) := dk_100 (dk_at dksX2_insertionSort_0 22 rfl rfl)
theorem dX2_insertionSort_23 : decode cX2_insertionSort 23 = .ok (.saload, 1) := dk_53 (dk_at dksX2_insertionSort_0 23 rfl rfl)
theorem dX2_insertionSort_24 : decode cX2_insertionSort 24 = .ok (.istore 6, 2) := dk_54 6 (dk_at dksX2_insertionSort_1 0 rfl rfl)
theorem dX2_insertionSort_26 : decode cX2_insertionSort 26 = .ok (.iload 4, 2) := dk_21 4 (dk_at dksX2_insertionSort_1 2 rfl rfl)
theorem dX2_insertionSort_28 : decode cX2_insertionSort 28 = .ok (.iload 6, 2) := dk_21 6 (dk_at dksX2_insertionSort_1 4 rfl rfl)
theorem dX2_insertionSort_30 : decode cX2_insertionSort 30 = .ok (.if_icmp .ge 37, 3) := dk_162 0 37 (dk_at dksX2_insertionSort_1 6 rfl rfl)
theorem dX2_insertionSort_33 : decode cX2_insertionSort 33 = .ok (.aload_n 0, 1) := dk_42 (dk_at dksX2_insertionSort_1 9 rfl rfl)
theorem dX2_insertionSort_34 : decode cX2_insertionSort 34 = .ok (.iload 5, 2) := dk_21 5 (dk_at dksX2_insertionSort_1 10 rfl rfl)
theorem dX2_insertionSort_36 : decode cX2_insertionSort 36 = .ok (.iload 6, 2) := dk_21 6 (dk_at dksX2_insertionSort_1 12 rfl rfl)
theorem dX2_insertionSort_38 : decode cX2_insertionSort 38 = .ok (.sastore, 1) := dk_86 (dk_at dksX2_insertionSort_1 14 rfl rfl)
theorem dX2_insertionSort_39 : decode cX2_insertionSort 39 = .ok (.iload_n 1, 1) := dk_27 (dk_at dksX2_insertionSort_1 15 rfl rfl)
theorem dX2_insertionSort_40 : decode cX2_insertionSort 40 = .ok (.iload 5, 2) := dk_21 5 (dk_at dksX2_insertionSort_1 16 rfl rfl)
theorem dX2_insertionSort_42 : decode cX2_insertionSort 42 = .ok (.iconst 1, 1) := dk_4 (dk_at dksX2_insertionSort_1 18 rfl rfl)
theorem dX2_insertionSort_43 : decode cX2_insertionSort 43 = .ok (.isub, 1) := dk_100 (dk_at dksX2_insertionSort_1 19 rfl rfl)
theorem dX2_insertionSort_44 : decode cX2_insertionSort 44 = .ok (.if_icmp .ne 9, 3) := dk_160 0 9 (dk_at dksX2_insertionSort_1 20 rfl rfl)
theorem dX2_insertionSort_47 : decode cX2_insertionSort 47 = .ok (.iinc 5 (-1), 3) := dk_132 5 255 (dk_at dksX2_insertionSort_2 0 rfl rfl)
theorem dX2_insertionSort_50 : decode cX2_insertionSort 50 = .ok (.goto 17, 3) := dk_167 0 17 (dk_at dksX2_insertionSort_2 3 rfl rfl)
theorem dX2_insertionSort_53 : decode cX2_insertionSort 53 = .ok (.aload_n 0, 1) := dk_42 (dk_at dksX2_insertionSort_2 6 rfl rfl)
theorem dX2_insertionSort_54 : decode cX2_insertionSort 54 = .ok (.iinc 5 (-1), 3) := dk_132 5 255 (dk_at dksX2_insertionSort_2 7 rfl rfl)
theorem dX2_insertionSort_57 : decode cX2_insertionSort 57 = .ok (.iload 5, 2) := dk_21 5 (dk_at dksX2_insertionSort_2 10 rfl rfl)
theorem dX2_insertionSort_59 : decode cX2_insertionSort 59 = .ok (.iconst 1, 1) := dk_4 (dk_at dksX2_insertionSort_2 12 rfl rfl)
theorem dX2_insertionSort_60 : decode cX2_insertionSort 60 = .ok (.isub, 1) := dk_100 (dk_at dksX2_insertionSort_2 13 rfl rfl)
theorem dX2_insertionSort_61 : decode cX2_insertionSort 61 = .ok (.saload, 1) := dk_53 (dk_at dksX2_insertionSort_2 14 rfl rfl)
theorem dX2_insertionSort_62 : decode cX2_insertionSort 62 = .ok (.istore 6, 2) := dk_54 6 (dk_at dksX2_insertionSort_2 15 rfl rfl)
theorem dX2_insertionSort_64 : decode cX2_insertionSort 64 = .ok (.goto (-38), 3) := dk_167 255 218 (dk_at dksX2_insertionSort_2 17 rfl rfl)
theorem dX2_insertionSort_67 : decode cX2_insertionSort 67 = .ok (.aload_n 0, 1) := dk_42 (dk_at dksX2_insertionSort_2 20 rfl rfl)
theorem dX2_insertionSort_68 : decode cX2_insertionSort 68 = .ok (.iload 5, 2) := dk_21 5 (dk_at dksX2_insertionSort_2 21 rfl rfl)
theorem dX2_insertionSort_70 : decode cX2_insertionSort 70 = .ok (.iload 4, 2) := dk_21 4 (dk_at dksX2_insertionSort_3 0 rfl rfl)
theorem dX2_insertionSort_72 : decode cX2_insertionSort 72 = .ok (.sastore, 1) := dk_86 (dk_at dksX2_insertionSort_3 2 rfl rfl)
theorem dX2_insertionSort_73 : decode cX2_insertionSort 73 = .ok (.goto (-71), 3) := dk_167 255 185 (dk_at dksX2_insertionSort_3 3 rfl rfl)
theorem dX2_insertionSort_76 : decode cX2_insertionSort 76 = .ok (.return_, 1) := dk_177 (dk_at dksX2_insertionSort_3 6 rfl rfl)
abbrev cX2_radixSort : ByteArray := prog_1_method_10_code
def yX2_radixSort : MethodName := ⟨RX2, "radixSort", "([SII)V"⟩
def dkwX2_radixSort_17 : List UInt8 := [21, 16, 25, 7, 21, 17, 46, 96, 54, 16, 25, 7, 21, 17, 3, 79, 167, 255, 80, 167, 254, 168, 177]
abbrev dktX2_radixSort_17 : List UInt8 := dkwX2_radixSort_17 ++ []
def dkwX2_radixSort_16 : List UInt8 := [21, 16, 79, 25, 5, 29, 25, 7, 21, 17, 46, 79, 25, 6, 29, 132, 3, 1, 21, 11, 4, 96, 79]
abbrev dktX2_radixSort_16 : List UInt8 := dkwX2_radixSort_16 ++ dktX2_radixSort_17
def dkwX2_radixSort_15 : List UInt8 := [162, 0, 20, 42, 21, 16, 21, 16, 25, 7, 21, 17, 46, 96, 184, 0, 29, 167, 0, 29, 25, 4, 29]
abbrev dktX2_radixSort_15 : List UInt8 := dkwX2_radixSort_15 ++ dktX2_radixSort_16
def dkwX2_radixSort_14 : List UInt8 := [21, 11, 4, 162, 0, 66, 25, 7, 21, 17, 46, 4, 164, 0, 57, 25, 7, 21, 17, 46, 17, 4, 0]
abbrev dktX2_radixSort_14 : List UInt8 := dkwX2_radixSort_14 ++ dktX2_radixSort_15
def dkwX2_radixSort_13 : List UInt8 := [21, 19, 21, 13, 124, 17, 0, 255, 126, 21, 12, 130, 54, 17, 167, 255, 208, 42, 21, 16, 21, 19, 86]
abbrev dktX2_radixSort_13 : List UInt8 := dkwX2_radixSort_13 ++ dktX2_radixSort_14
def dkwX2_radixSort_12 : List UInt8 := [54, 18, 21, 16, 164, 0, 36, 21, 19, 54, 20, 42, 21, 18, 53, 54, 19, 42, 21, 18, 21, 20, 86]
abbrev dktX2_radixSort_12 : List UInt8 := dkwX2_radixSort_12 ++ dktX2_radixSort_13
def dkwX2_radixSort_11 : List UInt8 := [21, 12, 130, 54, 17, 21, 16, 21, 15, 162, 0, 60, 25, 8, 21, 17, 92, 46, 4, 100, 91, 79, 89]
abbrev dktX2_radixSort_11 : List UInt8 := dkwX2_radixSort_11 ++ dktX2_radixSort_12
def dkwX2_radixSort_10 : List UInt8 := [54, 17, 21, 16, 21, 15, 163, 0, 175, 42, 21, 16, 53, 54, 19, 21, 19, 21, 13, 124, 17, 0, 255, 126]
abbrev dktX2_radixSort_10 : List UInt8 := dkwX2_radixSort_10 ++ dktX2_radixSort_11
def dkwX2_radixSort_9 : List UInt8 := [132, 15, 1, 167, 255, 217, 21, 9, 21, 10, 96, 25, 7, 21, 14, 46, 100, 54, 15, 21, 9, 54, 16, 2]
abbrev dktX2_radixSort_9 : List UInt8 := dkwX2_radixSort_9 ++ dktX2_radixSort_10
def dkwX2_radixSort_8 : List UInt8 := [153, 0, 7, 21, 15, 54, 14, 25, 8, 21, 15, 21, 16, 25, 7, 21, 15, 46, 96, 89, 54, 16, 79]
abbrev dktX2_radixSort_8 : List UInt8 := dkwX2_radixSort_8 ++ dktX2_radixSort_9
def dkwX2_radixSort_7 : List UInt8 := [2, 54, 14, 3, 54, 15, 21, 9, 54, 16, 21, 15, 17, 1, 0, 162, 0, 37, 25, 7, 21, 15, 46]
abbrev dktX2_radixSort_7 : List UInt8 := dkwX2_radixSort_7 ++ dktX2_radixSort_8
def dkwX2_radixSort_6 : List UInt8 := [25, 7, 42, 21, 14, 53, 21, 13, 124, 17, 0, 255, 126, 21, 12, 130, 92, 46, 4, 96, 79, 167, 255, 225]
abbrev dktX2_radixSort_6 : List UInt8 := dkwX2_radixSort_6 ++ dktX2_radixSort_7
def dkwX2_radixSort_5 : List UInt8 := [100, 16, 8, 104, 54, 13, 21, 9, 21, 10, 96, 54, 14, 21, 14, 132, 14, 255, 21, 9, 159, 0, 27]
abbrev dktX2_radixSort_5 : List UInt8 := dkwX2_radixSort_5 ++ dktX2_radixSort_6
def dkwX2_radixSort_4 : List UInt8 := [46, 54, 11, 21, 11, 5, 112, 154, 0, 9, 17, 0, 128, 167, 0, 4, 3, 54, 12, 4, 21, 11, 5, 112]
abbrev dktX2_radixSort_4 : List UInt8 := dkwX2_radixSort_4 ++ dktX2_radixSort_5
def dkwX2_radixSort_3 : List UInt8 := [58, 8, 29, 158, 1, 90, 25, 4, 132, 3, 255, 29, 46, 54, 9, 25, 5, 29, 46, 54, 10, 25, 6, 29]
abbrev dktX2_radixSort_3 : List UInt8 := dkwX2_radixSort_3 ++ dktX2_radixSort_4
def dkwX2_radixSort_2 : List UInt8 := [28, 27, 100, 79, 25, 6, 29, 132, 3, 1, 3, 79, 17, 1, 0, 188, 10, 58, 7, 17, 1, 0, 188, 10]
abbrev dktX2_radixSort_2 : List UInt8 := dkwX2_radixSort_2 ++ dktX2_radixSort_3
def dkwX2_radixSort_1 : List UInt8 := [58, 4, 17, 1, 0, 188, 10, 58, 5, 17, 1, 0, 188, 10, 58, 6, 25, 4, 29, 27, 79, 25, 5, 29]
abbrev dktX2_radixSort_1 : List UInt8 := dkwX2_radixSort_1 ++ dktX2_radixSort_2
def dkwX2_radixSort_0 : List UInt8 := [28, 27, 100, 17, 4, 0, 162, 0, 10, 42, 27, 28, 184, 0, 29, 177, 3, 62, 17, 1, 0, 188, 10]
abbrev dktX2_radixSort_0 : List UInt8 := dkwX2_radixSort_0 ++ dktX2_radixSort_1
theorem dksX2_radixSort_0 : cX2_radixSort.data.toList.drop 0 = dktX2_radixSort_0 := by decide +kernel
theorem dX2_radixSort_0 : decode cX2_radixSort 0 = .ok (.iload_n 2, 1) := dk_28 (dk_at dksX2_radixSort_0 0 rfl rfl)
theorem dX2_radixSort_1 : decode cX2_radixSort 1 = .ok (.iload_n 1, 1) := dk_27 (dk_at dksX2_radixSort_0 1 rfl rfl)
theorem dX2_radixSort_2 : decode cX2_radixSort 2 = .ok (.isub, 1) := dk_100 (dk_at dksX2_radixSort_0 2 rfl rfl)
theorem dX2_radixSort_3 : decode cX2_radixSort 3 = .ok (.sipush 1024, 3) := dk_17 4 0 (dk_at dksX2_radixSort_0 3 rfl rfl)
theorem dX2_radixSort_6 : decode cX2_radixSort 6 = .ok (.if_icmp .ge 10, 3) := dk_162 0 10 (dk_at dksX2_radixSort_0 6 rfl rfl)
theorem dX2_radixSort_9 : decode cX2_radixSort 9 = .ok (.aload_n 0, 1) := dk_42 (dk_at dksX2_radixSort_0 9 rfl rfl)
theorem dX2_radixSort_10 : decode cX2_radixSort 10 = .ok (.iload_n 1, 1) := dk_27 (dk_at dksX2_radixSort_0 10 rfl rfl)
theorem dX2_radixSort_11 : decode cX2_radixSort 11 = .ok (.iload_n 2, 1) := dk_28 (dk_at dksX2_radixSort_0 11 rfl rfl)
theorem dX2_radixSort_12 : decode cX2_radixSort 12 = .ok (.invokestatic 29, 3) := dk_184 0 29 (dk_at dksX2_radixSort_0 12 rfl rfl)
theorem dX2_radixSort_15 : decode cX2_radixSort 15 = .ok (.return_, 1) := dk_177 (dk_at dksX2_radixSort_0 15 rfl rfl)
theorem dX2_radixSort_16 : decode cX2_radixSort 16 = .ok (.iconst 0, 1) := dk_3 (dk_at dksX2_radixSort_0 16 rfl rfl)
theorem q4 : (Jvm.Cond.initialized "ShortArrays") ∈ lw_all := lw_g (lw_at lw_m0 2 rfl) rfl
theorem q44 : (Jvm.Cond.static ({ cls := "ShortArrays", name := "reverse", desc := "([SII)[S" } : Jvm.MethodName)) ∈ lw_all := lw_g (lw_at lw_m0 42 rfl) rfl
theorem q45 : (Jvm.Cond.code ({ cls := "ShortArrays", name := "reverse", desc := "([SII)[S" } : Jvm.MethodName) prog_1_method_11_code (6 : Nat) (Option.some (Jvm.ClassFile.FieldType.array Jvm.ClassFile.FieldType.short))) ∈ lw_all := lw_g (lw_at lw_m0 43 rfl) rfl
theorem q51 : (Jvm.Cond.static ({ cls := "ShortArrays", name := "binarySearch", desc := "([SIIS)I" } : Jvm.MethodName)) ∈ lw_all := lw_g (lw_at lw_m0 49 rfl) rfl
theorem q52 : (Jvm.Cond.code ({ cls := "ShortArrays", name := "binarySearch", desc := "([SIIS)I" } : Jvm.MethodName) prog_1_method_9_code (6 : Nat) (Option.some Jvm.ClassFile.FieldType.int)) ∈ lw_all := lw_g (lw_at lw_m0 50 rfl) rfl
theorem q80 : (Jvm.Cond.static ({ cls := "ShortArrays", name := "quickSort", desc := "([SII)V" } : Jvm.MethodName)) ∈ lw_all := lw_g (lw_at lw_m0 78 rfl) rfl
theorem q81 : (Jvm.Cond.code ({ cls := "ShortArrays", name := "quickSort", desc := "([SII)V" } : Jvm.MethodName) prog_1_method_6_code (13 : Nat) (Option.none : Option Jvm.ClassFile.FieldType)) ∈ lw_all := lw_g (lw_at lw_m0 79 rfl) rfl
theorem q82 : (Jvm.Cond.methodLink "ShortArrays" (13 : Nat) ({ cls := "ShortArrays", name := "selectionSort", desc := "([SII)V" } : Jvm.MethodName)) ∈ lw_all := lw_g (lw_at lw_m0 80 rfl) rfl
theorem q83 : (Jvm.Cond.static ({ cls := "ShortArrays", name := "selectionSort", desc := "([SII)V" } : Jvm.MethodName)) ∈ lw_all := lw_g (lw_at lw_m0 81 rfl) rfl
theorem q84 : (Jvm.Cond.code ({ cls := "ShortArrays", name := "selectionSort", desc := "([SII)V" } : Jvm.MethodName) prog_1_method_4_code (6 : Nat) (Option.none : Option Jvm.ClassFile.FieldType)) ∈ lw_all := lw_g (lw_at lw_m0 82 rfl) rfl
theorem q85 : (Jvm.Cond.methodLink "ShortArrays" (16 : Nat) ({ cls := "ShortArrays", name := "med3", desc := "([SIII)I" } : Jvm.MethodName)) ∈ lw_all := lw_g (lw_at lw_m0 83 rfl) rfl
theorem q86 : (Jvm.Cond.static ({ cls := "ShortArrays", name := "med3", desc := "([SIII)I" } : Jvm.MethodName)) ∈ lw_all := lw_g (lw_at lw_m0 84 rfl) rfl
theorem q87 : (Jvm.Cond.code ({ cls := "ShortArrays", name := "med3", desc := "([SIII)I" } : Jvm.MethodName) prog_1_method_3_code (7 : Nat) (Option.some Jvm.ClassFile.FieldType.int)) ∈ lw_all := lw_g (lw_at lw_m0 85 rfl) rfl
theorem q88 : (Jvm.Cond.methodLink "ShortArrays" (9 : Nat) ({ cls := "java/lang/Short", name := "compare", desc := "(SS)I" } : Jvm.MethodName)) ∈ lw_all := lw_g (lw_at lw_m0 86 rfl) rfl
theorem q91 : (Jvm.Cond.methodLink "ShortArrays" (5 : Nat) ({ cls := "ShortArrays", name := "swap", desc := "([SII)V" } : Jvm.MethodName)) ∈ lw_all := lw_g (lw_at lw_m0 89 rfl) rfl
theorem q92 : (Jvm.Cond.static ({ cls := "ShortArrays", name := "swap", desc := "([SII)V" } : Jvm.MethodName)) ∈ lw_all := lw_g (lw_at lw_m0 90 rfl) rfl
theorem q93 : (Jvm.Cond.code ({ cls := "ShortArrays", name := "swap", desc := "([SII)V" } : Jvm.MethodName) prog_1_method_1_code (4 : Nat) (Option.none : Option Jvm.ClassFile.FieldType)) ∈ lw_all := lw_g (lw_at lw_m0 91 rfl) rfl
theorem q94 : (Jvm.Cond.methodLink "ShortArrays" (20 : Nat) ({ cls := "java/lang/Math", name := "min", desc := "(II)I" } : Jvm.MethodName)) ∈ lw_all := lw_g (lw_at lw_m0 92 rfl) rfl
theorem q97 : (Jvm.Cond.methodLink "ShortArrays" (26 : Nat) ({ cls := "ShortArrays", name := "swap", desc := "([SIII)V" } : Jvm.MethodName)) ∈ lw_all := lw_g (lw_at lw_m0 95 rfl) rfl
theorem q98 : (Jvm.Cond.static ({ cls := "ShortArrays", name := "swap", desc := "([SIII)V" } : Jvm.MethodName)) ∈ lw_all := lw_g (lw_at lw_m0 96 rfl) rfl
theorem q99 : (Jvm.Cond.code ({ cls := "ShortArrays", name := "swap", desc := "([SIII)V" } : Jvm.MethodName) prog_1_method_2_code (5 : Nat) (Option.none : Option Jvm.ClassFile.FieldType)) ∈ lw_all := lw_g (lw_at lw_m0 97 rfl) rfl
theorem q100 : (Jvm.Cond.methodLink "ShortArrays" (29 : Nat) ({ cls := "ShortArrays", name := "quickSort", desc := "([SII)V" } : Jvm.MethodName)) ∈ lw_all := lw_g (lw_at lw_m0 98 rfl) rfl
theorem q106 : (Jvm.Cond.static ({ cls := "ShortArrays", name := "mergeSort", desc := "([SII)V" } : Jvm.MethodName)) ∈ lw_all := lw_g (lw_at lw_m0 104 rfl) rfl
theorem q107 : (Jvm.Cond.code ({ cls := "ShortArrays", name := "mergeSort", desc := "([SII)V" } : Jvm.MethodName) prog_1_method_8_code (3 : Nat) (Option.none : Option Jvm.ClassFile.FieldType)) ∈ lw_all := lw_g (lw_at lw_m0 105 rfl) rfl
theorem q108 : (Jvm.Cond.classLink "ShortArrays" (51 : Nat) "[S") ∈ lw_all := lw_g (lw_at lw_m0 106 rfl) rfl
theorem q109 : (Jvm.Cond.methodLink "ShortArrays" (41 : Nat) ({ cls := "ShortArrays", name := "mergeSort", desc := "([SII[S)V" } : Jvm.MethodName)) ∈ lw_all := lw_g (lw_at lw_m0 107 rfl) rfl
theorem q110 : (Jvm.Cond.static ({ cls := "ShortArrays", name := "mergeSort", desc := "([SII[S)V" } : Jvm.MethodName)) ∈ lw_all := lw_g (lw_at lw_m0 108 rfl) rfl
theorem q111 : (Jvm.Cond.code ({ cls := "ShortArrays", name := "mergeSort", desc := "([SII[S)V" } : Jvm.MethodName) prog_1_method_7_code (9 : Nat) (Option.none : Option Jvm.ClassFile.FieldType)) ∈ lw_all := lw_g (lw_at lw_m0 109 rfl) rfl
theorem q112 : (Jvm.Cond.methodLink "ShortArrays" (32 : Nat) ({ cls := "ShortArrays", name := "insertionSort", desc := "([SII)V" } : Jvm.MethodName)) ∈ lw_all := lw_g (lw_at lw_m0 110 rfl) rfl
theorem q113 : (Jvm.Cond.static ({ cls := "ShortArrays", name := "insertionSort", desc := "([SII)V" } : Jvm.MethodName)) ∈ lw_all := lw_g (lw_at lw_m0 111 rfl) rfl
theorem q114 : (Jvm.Cond.code ({ cls := "ShortArrays", name := "insertionSort", desc := "([SII)V" } : Jvm.MethodName) prog_1_method_5_code (7 : Nat) (Option.none : Option Jvm.ClassFile.FieldType)) ∈ lw_all := lw_g (lw_at lw_m0 112 rfl) rfl
theorem q115 : (Jvm.Cond.methodLink "ShortArrays" (35 : Nat) ({ cls := "java/util/Arrays", name := "copyOf", desc := "([SI)[S" } : Jvm.MethodName)) ∈ lw_all := lw_g (lw_at lw_m0 113 rfl) rfl
theorem q129 : (Jvm.Cond.methodLink "ShortArrays" (45 : Nat) ({ cls := "java/lang/System", name := "arraycopy", desc := "(Ljava/lang/Object;ILjava/lang/Object;II)V" } : Jvm.MethodName)) ∈ lw_all := lw_g (lw_at lw_m0 127 rfl) rfl
theorem q135 : (Jvm.Cond.static ({ cls := "ShortArrays", name := "radixSort", desc := "([SII)V" } : Jvm.MethodName)) ∈ lw_all := lw_g (lw_at lw_m0 133 rfl) rfl
theorem q136 : (Jvm.Cond.code ({ cls := "ShortArrays", name := "radixSort", desc := "([SII)V" } : Jvm.MethodName) prog_1_method_10_code (21 : Nat) (Option.none : Option Jvm.ClassFile.FieldType)) ∈ lw_all := lw_g (lw_at lw_m0 134 rfl) rfl
end
section
/-! ShortSortDeskLaw -/
set_option maxRecDepth 100000
def RX0 : String := "ShortSortDeskLaw"
abbrev cX0_cell : ByteArray := method_2_code
def yX0_cell : MethodName := ⟨RX0, "cell", "([II)I"⟩
def dkwX0_cell_0 : List UInt8 := [27, 42, 190, 162, 0, 15, 27, 16, 96, 162, 0, 9, 42, 27, 46, 167, 0, 4, 3, 172]
abbrev dktX0_cell_0 : List UInt8 := dkwX0_cell_0 ++ []
theorem dksX0_cell_0 : cX0_cell.data.toList.drop 0 = dktX0_cell_0 := by decide +kernel
theorem dX0_cell_0 : decode cX0_cell 0 = .ok (.iload_n 1, 1) := dk_27 (dk_at dksX0_cell_0 0 rfl rfl)
theorem dX0_cell_1 : decode cX0_cell 1 = .ok (.aload_n 0, 1) := dk_42 (dk_at dksX0_cell_0 1 rfl rfl)
theorem dX0_cell_2 : decode cX0_cell 2 = .ok (.arraylength, 1) := dk_190 (dk_at dksX0_cell_0 2 rfl rfl)
theorem dX0_cell_3 : decode cX0_cell 3 = .ok (.if_icmp .ge 15, 3) := dk_162 0 15 (dk_at dksX0_cell_0 3 rfl rfl)
theorem dX0_cell_6 : decode cX0_cell 6 = .ok (.iload_n 1, 1) := dk_27 (dk_at dksX0_cell_0 6 rfl rfl)
theorem dX0_cell_7 : decode cX0_cell 7 = .ok (.bipush 96, 2) := dk_16 96 (dk_at dksX0_cell_0 7 rfl rfl)
theorem dX0_cell_9 : decode cX0_cell 9 = .ok (.if_icmp .ge 9, 3) := dk_162 0 9 (dk_at dksX0_cell_0 9 rfl rfl)
theorem dX0_cell_12 : decode cX0_cell 12 = .ok (.aload_n 0, 1) := dk_42 (dk_at dksX0_cell_0 12 rfl rfl)
theorem dX0_cell_13 : decode cX0_cell 13 = .ok (.iload_n 1, 1) := dk_27 (dk_at dksX0_cell_0 13 rfl rfl)
theorem dX0_cell_14 : decode cX0_cell 14 = .ok (.iaload, 1) := dk_46 (dk_at dksX0_cell_0 14 rfl rfl)
theorem dX0_cell_15 : decode cX0_cell 15 = .ok (.goto 4, 3) := dk_167 0 4 (dk_at dksX0_cell_0 15 rfl rfl)
theorem dX0_cell_18 : decode cX0_cell 18 = .ok (.iconst 0, 1) := dk_3 (dk_at dksX0_cell_0 18 rfl rfl)
theorem dX0_cell_19 : decode cX0_cell 19 = .ok (.ireturn, 1) := dk_172 (dk_at dksX0_cell_0 19 rfl rfl)
abbrev cX0_bare : ByteArray := method_3_code
def yX0_bare : MethodName := ⟨RX0, "bare", "(I)I"⟩
def dkwX0_bare_0 : List UInt8 := [26, 18, 9, 126, 172]
abbrev dktX0_bare_0 : List UInt8 := dkwX0_bare_0 ++ []
theorem dksX0_bare_0 : cX0_bare.data.toList.drop 0 = dktX0_bare_0 := by decide +kernel
theorem dX0_bare_0 : decode cX0_bare 0 = .ok (.iload_n 0, 1) := dk_26 (dk_at dksX0_bare_0 0 rfl rfl)
theorem dX0_bare_1 : decode cX0_bare 1 = .ok (.ldc 9, 2) := dk_18 9 (dk_at dksX0_bare_0 1 rfl rfl)
theorem dX0_bare_3 : decode cX0_bare 3 = .ok (.iand, 1) := dk_126 (dk_at dksX0_bare_0 3 rfl rfl)
theorem dX0_bare_4 : decode cX0_bare 4 = .ok (.ireturn, 1) := dk_172 (dk_at dksX0_bare_0 4 rfl rfl)
abbrev cX0_alike : ByteArray := method_4_code
def yX0_alike : MethodName := ⟨RX0, "alike", "(LShortSortDesk;[SI)Z"⟩
def dkwX0_alike_2 : List UInt8 := [3, 172]
abbrev dktX0_alike_2 : List UInt8 := dkwX0_alike_2 ++ []
def dkwX0_alike_1 : List UInt8 := [167, 255, 234, 42, 28, 182, 0, 10, 43, 28, 184, 0, 16, 16, 48, 112, 53, 160, 0, 7, 4, 167, 0, 4]
abbrev dktX0_alike_1 : List UInt8 := dkwX0_alike_1 ++ dktX0_alike_2
def dkwX0_alike_0 : List UInt8 := [3, 62, 29, 16, 48, 162, 0, 22, 42, 29, 182, 0, 10, 43, 29, 53, 159, 0, 5, 3, 172, 132, 3, 1]
abbrev dktX0_alike_0 : List UInt8 := dkwX0_alike_0 ++ dktX0_alike_1
theorem dksX0_alike_0 : cX0_alike.data.toList.drop 0 = dktX0_alike_0 := by decide +kernel
theorem dksX0_alike_1 : cX0_alike.data.toList.drop 24 = dktX0_alike_1 := dk_seg dksX0_alike_0 24 rfl rfl
theorem dksX0_alike_2 : cX0_alike.data.toList.drop 48 = dktX0_alike_2 := dk_seg dksX0_alike_1 24 rfl rfl
theorem dX0_alike_0 : decode cX0_alike 0 = .ok (.iconst 0, 1) := dk_3 (dk_at dksX0_alike_0 0 rfl rfl)
theorem dX0_alike_1 : decode cX0_alike 1 = .ok (.istore_n 3, 1) := dk_62 (dk_at dksX0_alike_0 1 rfl rfl)
theorem dX0_alike_2 : decode cX0_alike 2 = .ok (.iload_n 3, 1) := dk_29 (dk_at dksX0_alike_0 2 rfl rfl)
theorem dX0_alike_3 : decode cX0_alike 3 = .ok (.bipush 48, 2) := dk_16 48 (dk_at dksX0_alike_0 3 rfl rfl)
theorem dX0_alike_5 : decode cX0_alike 5 = .ok (.if_icmp .ge 22, 3) := dk_162 0 22 (dk_at dksX0_alike_0 5 rfl rfl)
theorem dX0_alike_8 : decode cX0_alike 8 = .ok (.aload_n 0, 1) := dk_42 (dk_at dksX0_alike_0 8 rfl rfl)
theorem dX0_alike_9 : decode cX0_alike 9 = .ok (.iload_n 3, 1) := dk_29 (dk_at dksX0_alike_0 9 rfl rfl)
theorem dX0_alike_10 : decode cX0_alike 10 = .ok (.invokevirtual 10, 3) := dk_182 0 10 (dk_at dksX0_alike_0 10 rfl rfl)
theorem dX0_alike_13 : decode cX0_alike 13 = .ok (.aload_n 1, 1) := dk_43 (dk_at dksX0_alike_0 13 rfl rfl)
theorem dX0_alike_14 : decode cX0_alike 14 = .ok (.iload_n 3, 1) := dk_29 (dk_at dksX0_alike_0 14 rfl rfl)
theorem dX0_alike_15 : decode cX0_alike 15 = .ok (.saload, 1) := dk_53 (dk_at dksX0_alike_0 15 rfl rfl)
theorem dX0_alike_16 : decode cX0_alike 16 = .ok (.if_icmp .eq 5, 3) := dk_159 0 5 (dk_at dksX0_alike_0 16 rfl rfl)
theorem dX0_alike_19 : decode cX0_alike 19 = .ok (.iconst 0, 1) := dk_3 (dk_at dksX0_alike_0 19 rfl rfl)
theorem dX0_alike_20 : decode cX0_alike 20 = .ok (.ireturn, 1) := dk_172 (dk_at dksX0_alike_0 20 rfl rfl)
theorem dX0_alike_21 : decode cX0_alike 21 = .ok (.iinc 3 1, 3) := dk_132 3 1 (dk_at dksX0_alike_0 21 rfl rfl)
theorem dX0_alike_24 : decode cX0_alike 24 = .ok (.goto (-22), 3) := dk_167 255 234 (dk_at dksX0_alike_1 0 rfl rfl)
theorem dX0_alike_27 : decode cX0_alike 27 = .ok (.aload_n 0, 1) := dk_42 (dk_at dksX0_alike_1 3 rfl rfl)
theorem dX0_alike_28 : decode cX0_alike 28 = .ok (.iload_n 2, 1) := dk_28 (dk_at dksX0_alike_1 4 rfl rfl)
theorem dX0_alike_29 : decode cX0_alike 29 = .ok (.invokevirtual 10, 3) := dk_182 0 10 (dk_at dksX0_alike_1 5 rfl rfl)
theorem dX0_alike_32 : decode cX0_alike 32 = .ok (.aload_n 1, 1) := dk_43 (dk_at dksX0_alike_1 8 rfl rfl)
theorem dX0_alike_33 : decode cX0_alike 33 = .ok (.iload_n 2, 1) := dk_28 (dk_at dksX0_alike_1 9 rfl rfl)
theorem dX0_alike_34 : decode cX0_alike 34 = .ok (.invokestatic 16, 3) := dk_184 0 16 (dk_at dksX0_alike_1 10 rfl rfl)
theorem dX0_alike_37 : decode cX0_alike 37 = .ok (.bipush 48, 2) := dk_16 48 (dk_at dksX0_alike_1 13 rfl rfl)
theorem dX0_alike_39 : decode cX0_alike 39 = .ok (.irem, 1) := dk_112 (dk_at dksX0_alike_1 15 rfl rfl)
theorem dX0_alike_40 : decode cX0_alike 40 = .ok (.saload, 1) := dk_53 (dk_at dksX0_alike_1 16 rfl rfl)
theorem dX0_alike_41 : decode cX0_alike 41 = .ok (.if_icmp .ne 7, 3) := dk_160 0 7 (dk_at dksX0_alike_1 17 rfl rfl)
theorem dX0_alike_44 : decode cX0_alike 44 = .ok (.iconst 1, 1) := dk_4 (dk_at dksX0_alike_1 20 rfl rfl)
theorem dX0_alike_45 : decode cX0_alike 45 = .ok (.goto 4, 3) := dk_167 0 4 (dk_at dksX0_alike_1 21 rfl rfl)
theorem dX0_alike_48 : decode cX0_alike 48 = .ok (.iconst 0, 1) := dk_3 (dk_at dksX0_alike_2 0 rfl rfl)
theorem dX0_alike_49 : decode cX0_alike 49 = .ok (.ireturn, 1) := dk_172 (dk_at dksX0_alike_2 1 rfl rfl)
abbrev cX0_sort : ByteArray := method_5_code
def yX0_sort : MethodName := ⟨RX0, "sort", "([SII)V"⟩
def dkwX0_sort_4 : List UInt8 := [162, 0, 17, 42, 21, 4, 45, 21, 4, 53, 86, 132, 4, 1, 167, 255, 239, 177]
abbrev dktX0_sort_4 : List UInt8 := dkwX0_sort_4 ++ []
def dkwX0_sort_3 : List UInt8 := [45, 27, 21, 5, 96, 42, 21, 4, 53, 86, 132, 4, 1, 167, 255, 180, 27, 54, 4, 21, 4, 28]
abbrev dktX0_sort_3 : List UInt8 := dkwX0_sort_3 ++ dktX0_sort_4
def dkwX0_sort_2 : List UInt8 := [160, 0, 14, 21, 6, 21, 4, 162, 0, 7, 4, 167, 0, 4, 3, 96, 54, 5, 132, 6, 1, 167, 255, 208]
abbrev dktX0_sort_2 : List UInt8 := dkwX0_sort_2 ++ dktX0_sort_3
def dkwX0_sort_1 : List UInt8 := [162, 0, 48, 21, 5, 42, 21, 6, 53, 42, 21, 4, 53, 161, 0, 21, 42, 21, 6, 53, 42, 21, 4, 53]
abbrev dktX0_sort_1 : List UInt8 := dkwX0_sort_1 ++ dktX0_sort_2
def dkwX0_sort_0 : List UInt8 := [16, 48, 188, 9, 78, 27, 54, 4, 21, 4, 28, 162, 0, 76, 3, 54, 5, 27, 54, 6, 21, 6, 28]
abbrev dktX0_sort_0 : List UInt8 := dkwX0_sort_0 ++ dktX0_sort_1
theorem dksX0_sort_0 : cX0_sort.data.toList.drop 0 = dktX0_sort_0 := by decide +kernel
theorem dksX0_sort_1 : cX0_sort.data.toList.drop 23 = dktX0_sort_1 := dk_seg dksX0_sort_0 23 rfl rfl
theorem dksX0_sort_2 : cX0_sort.data.toList.drop 47 = dktX0_sort_2 := dk_seg dksX0_sort_1 24 rfl rfl
theorem dksX0_sort_3 : cX0_sort.data.toList.drop 71 = dktX0_sort_3 := dk_seg dksX0_sort_2 24 rfl rfl
theorem dksX0_sort_4 : cX0_sort.data.toList.drop 93 = dktX0_sort_4 := dk_seg dksX0_sort_3 22 rfl rfl
theorem dX0_sort_0 : decode cX0_sort 0 = .ok (.bipush 48, 2) := dk_16 48 (dk_at dksX0_sort_0 0 rfl rfl)
theorem dX0_sort_2 : decode cX0_sort 2 = .ok (.newarray .short, 2) := dk_188_9 (dk_at dksX0_sort_0 2 rfl rfl)
theorem dX0_sort_4 : decode cX0_sort 4 = .ok (.astore_n 3, 1) := dk_78 (dk_at dksX0_sort_0 4 rfl rfl)
theorem dX0_sort_5 : decode cX0_sort 5 = .ok (.iload_n 1, 1) := dk_27 (dk_at dksX0_sort_0 5 rfl rfl)
theorem dX0_sort_6 : decode cX0_sort 6 = .ok (.istore 4, 2) := dk_54 4 (dk_at dksX0_sort_0 6 rfl rfl)
theorem dX0_sort_8 : decode cX0_sort 8 = .ok (.iload 4, 2) := dk_21 4 (dk_at dksX0_sort_0 8 rfl rfl)
theorem dX0_sort_10 : decode cX0_sort 10 = .ok (.iload_n 2, 1) := dk_28 (dk_at dksX0_sort_0 10 rfl rfl)
theorem dX0_sort_11 : decode cX0_sort 11 = .ok (.if_icmp .ge 76, 3) := dk_162 0 76 (dk_at dksX0_sort_0 11 rfl rfl)
theorem dX0_sort_14 : decode cX0_sort 14 = .ok (.iconst 0, 1) := dk_3 (dk_at dksX0_sort_0 14 rfl rfl)
theorem dX0_sort_15 : decode cX0_sort 15 = .ok (.istore 5, 2) := dk_54 5 (dk_at dksX0_sort_0 15 rfl rfl)
theorem dX0_sort_17 : decode cX0_sort 17 = .ok (.iload_n 1, 1) := dk_27 (dk_at dksX0_sort_0 17 rfl rfl)
theorem dX0_sort_18 : decode cX0_sort 18 = .ok (.istore 6, 2) := dk_54 6 (dk_at dksX0_sort_0 18 rfl rfl)
theorem dX0_sort_20 : decode cX0_sort 20 = .ok (.iload 6, 2) := dk_21 6 (dk_at dksX0_sort_0 20 rfl rfl)
theorem dX0_sort_22 : decode cX0_sort 22 = .ok (.iload_n 2, 1) := dk_28 (dk_at dksX0_sort_0 22 rfl rfl)
theorem dX0_sort_23 : decode cX0_sort 23 = .ok (.if_icmp .ge 48, 3) := dk_162 0 48 (dk_at dksX0_sort_1 0 rfl rfl)
theorem dX0_sort_26 : decode cX0_sort 26 = .ok (.iload 5, 2) := dk_21 5 (dk_at dksX0_sort_1 3 rfl rfl)
theorem dX0_sort_28 : decode cX0_sort 28 = .ok (.aload_n 0, 1) := dk_42 (dk_at dksX0_sort_1 5 rfl rfl)
theorem dX0_sort_29 : decode cX0_sort 29 = .ok (.iload 6, 2) := dk_21 6 (dk_at dksX0_sort_1 6 rfl rfl)
theorem dX0_sort_31 : decode cX0_sort 31 = .ok (.saload, 1) := dk_53 (dk_at dksX0_sort_1 8 rfl rfl)
theorem dX0_sort_32 : decode cX0_sort 32 = .ok (.aload_n 0, 1) := dk_42 (dk_at dksX0_sort_1 9 rfl rfl)
theorem dX0_sort_33 : decode cX0_sort 33 = .ok (.iload 4, 2) := dk_21 4 (dk_at dksX0_sort_1 10 rfl rfl)
theorem dX0_sort_35 : decode cX0_sort 35 = .ok (.saload, 1) := dk_53 (dk_at dksX0_sort_1 12 rfl rfl)
theorem dX0_sort_36 : decode cX0_sort 36 = .ok (.if_icmp .lt 21, 3) := dk_161 0 21 (dk_at dksX0_sort_1 13 rfl rfl)
theorem dX0_sort_39 : decode cX0_sort 39 = .ok (.aload_n 0, 1) := dk_42 (dk_at dksX0_sort_1 16 rfl rfl)
theorem dX0_sort_40 : decode cX0_sort 40 = .ok (.iload 6, 2) := dk_21 6 (dk_at dksX0_sort_1 17 rfl rfl)
theorem dX0_sort_42 : decode cX0_sort 42 = .ok (.saload, 1) := dk_53 (dk_at dksX0_sort_1 19 rfl rfl)
theorem dX0_sort_43 : decode cX0_sort 43 = .ok (.aload_n 0, 1) := dk_42 (dk_at dksX0_sort_1 20 rfl rfl)
theorem dX0_sort_44 : decode cX0_sort 44 = .ok (.iload 4, 2) := dk_21 4 (dk_at dksX0_sort_1 21 rfl rfl)
theorem dX0_sort_46 : decode cX0_sort 46 = .ok (.saload, 1) := dk_53 (dk_at dksX0_sort_1 23 rfl rfl)
theorem dX0_sort_47 : decode cX0_sort 47 = .ok (.if_icmp .ne 14, 3) := dk_160 0 14 (dk_at dksX0_sort_2 0 rfl rfl)
theorem dX0_sort_50 : decode cX0_sort 50 = .ok (.iload 6, 2) := dk_21 6 (dk_at dksX0_sort_2 3 rfl rfl)
theorem dX0_sort_52 : decode cX0_sort 52 = .ok (.iload 4, 2) := dk_21 4 (dk_at dksX0_sort_2 5 rfl rfl)
theorem dX0_sort_54 : decode cX0_sort 54 = .ok (.if_icmp .ge 7, 3) := dk_162 0 7 (dk_at dksX0_sort_2 7 rfl rfl)
theorem dX0_sort_57 : decode cX0_sort 57 = .ok (.iconst 1, 1) := dk_4 (dk_at dksX0_sort_2 10 rfl rfl)
theorem dX0_sort_58 : decode cX0_sort 58 = .ok (.goto 4, 3) := dk_167 0 4 (dk_at dksX0_sort_2 11 rfl rfl)
theorem dX0_sort_61 : decode cX0_sort 61 = .ok (.iconst 0, 1) := dk_3 (dk_at dksX0_sort_2 14 rfl rfl)
theorem dX0_sort_62 : decode cX0_sort 62 = .ok (.iadd, 1) := dk_96 (dk_at dksX0_sort_2 15 rfl rfl)
theorem dX0_sort_63 : decode cX0_sort 63 = .ok (.istore 5, 2) := dk_54 5 (dk_at dksX0_sort_2 16 rfl rfl)
theorem dX0_sort_65 : decode cX0_sort 65 = .ok (.iinc 6 1, 3) := dk_132 6 1 (dk_at dksX0_sort_2 18 rfl rfl)
theorem dX0_sort_68 : decode cX0_sort 68 = .ok (.goto (-48), 3) := dk_167 255 208 (dk_at dksX0_sort_2 21 rfl rfl)
theorem dX0_sort_71 : decode cX0_sort 71 = .ok (.aload_n 3, 1) := dk_45 (dk_at dksX0_sort_3 0 rfl rfl)
theorem dX0_sort_72 : decode cX0_sort 72 = .ok (.iload_n 1, 1) := dk_27 (dk_at dksX0_sort_3 1 rfl rfl)
theorem dX0_sort_73 : decode cX0_sort 73 = .ok (.iload 5, 2) := dk_21 5 (dk_at dksX0_sort_3 2 rfl rfl)
theorem dX0_sort_75 : decode cX0_sort 75 = .ok (.iadd, 1) := dk_96 (dk_at dksX0_sort_3 4 rfl rfl)
theorem dX0_sort_76 : decode cX0_sort 76 = .ok (.aload_n 0, 1) := dk_42 (dk_at dksX0_sort_3 5 rfl rfl)
theorem dX0_sort_77 : decode cX0_sort 77 = .ok (.iload 4, 2) := dk_21 4 (dk_at dksX0_sort_3 6 rfl rfl)
theorem dX0_sort_79 : decode cX0_sort 79 = .ok (.saload, 1) := dk_53 (dk_at dksX0_sort_3 8 rfl rfl)
theorem dX0_sort_80 : decode cX0_sort 80 = .ok (.sastore, 1) := dk_86 (dk_at dksX0_sort_3 9 rfl rfl)
theorem dX0_sort_81 : decode cX0_sort 81 = .ok (.iinc 4 1, 3) := dk_132 4 1 (dk_at dksX0_sort_3 10 rfl rfl)
theorem dX0_sort_84 : decode cX0_sort 84 = .ok (.goto (-76), 3) := dk_167 255 180 (dk_at dksX0_sort_3 13 rfl rfl)
theorem dX0_sort_87 : decode cX0_sort 87 = .ok (.iload_n 1, 1) := dk_27 (dk_at dksX0_sort_3 16 rfl rfl)
theorem dX0_sort_88 : decode cX0_sort 88 = .ok (.istore 4, 2) := dk_54 4 (dk_at dksX0_sort_3 17 rfl rfl)
theorem dX0_sort_90 : decode cX0_sort 90 = .ok (.iload 4, 2) := dk_21 4 (dk_at dksX0_sort_3 19 rfl rfl)
theorem dX0_sort_92 : decode cX0_sort 92 = .ok (.iload_n 2, 1) := dk_28 (dk_at dksX0_sort_3 21 rfl rfl)
theorem dX0_sort_93 : decode cX0_sort 93 = .ok (.if_icmp .ge 17, 3) := dk_162 0 17 (dk_at dksX0_sort_4 0 rfl rfl)
theorem dX0_sort_96 : decode cX0_sort 96 = .ok (.aload_n 0, 1) := dk_42 (dk_at dksX0_sort_4 3 rfl rfl)
theorem dX0_sort_97 : decode cX0_sort 97 = .ok (.iload 4, 2) := dk_21 4 (dk_at dksX0_sort_4 4 rfl rfl)
theorem dX0_sort_99 : decode cX0_sort 99 = .ok (.aload_n 3, 1) := dk_45 (dk_at dksX0_sort_4 6 rfl rfl)
theorem dX0_sort_100 : decode cX0_sort 100 = .ok (.iload 4, 2) := dk_21 4 (dk_at dksX0_sort_4 7 rfl rfl)
theorem dX0_sort_102 : decode cX0_sort 102 = .ok (.saload, 1) := dk_53 (dk_at dksX0_sort_4 9 rfl rfl)
theorem dX0_sort_103 : decode cX0_sort 103 = .ok (.sastore, 1) := dk_86 (dk_at dksX0_sort_4 10 rfl rfl)
theorem dX0_sort_104 : decode cX0_sort 104 = .ok (.iinc 4 1, 3) := dk_132 4 1 (dk_at dksX0_sort_4 11 rfl rfl)
theorem dX0_sort_107 : decode cX0_sort 107 = .ok (.goto (-17), 3) := dk_167 255 239 (dk_at dksX0_sort_4 14 rfl rfl)
theorem dX0_sort_110 : decode cX0_sort 110 = .ok (.return_, 1) := dk_177 (dk_at dksX0_sort_4 17 rfl rfl)
abbrev cX0_turn : ByteArray := method_6_code
def yX0_turn : MethodName := ⟨RX0, "turn", "([SII)V"⟩
def dkwX0_turn_1 : List UInt8 := [86, 42, 21, 4, 21, 5, 86, 132, 3, 1, 132, 4, 255, 167, 255, 226, 177]
abbrev dktX0_turn_1 : List UInt8 := dkwX0_turn_1 ++ []
def dkwX0_turn_0 : List UInt8 := [27, 62, 28, 4, 100, 54, 4, 29, 21, 4, 162, 0, 30, 42, 29, 53, 54, 5, 42, 29, 42, 21, 4, 53]
abbrev dktX0_turn_0 : List UInt8 := dkwX0_turn_0 ++ dktX0_turn_1
theorem dksX0_turn_0 : cX0_turn.data.toList.drop 0 = dktX0_turn_0 := by decide +kernel
theorem dksX0_turn_1 : cX0_turn.data.toList.drop 24 = dktX0_turn_1 := dk_seg dksX0_turn_0 24 rfl rfl
theorem dX0_turn_0 : decode cX0_turn 0 = .ok (.iload_n 1, 1) := dk_27 (dk_at dksX0_turn_0 0 rfl rfl)
theorem dX0_turn_1 : decode cX0_turn 1 = .ok (.istore_n 3, 1) := dk_62 (dk_at dksX0_turn_0 1 rfl rfl)
theorem dX0_turn_2 : decode cX0_turn 2 = .ok (.iload_n 2, 1) := dk_28 (dk_at dksX0_turn_0 2 rfl rfl)
theorem dX0_turn_3 : decode cX0_turn 3 = .ok (.iconst 1, 1) := dk_4 (dk_at dksX0_turn_0 3 rfl rfl)
theorem dX0_turn_4 : decode cX0_turn 4 = .ok (.isub, 1) := dk_100 (dk_at dksX0_turn_0 4 rfl rfl)
theorem dX0_turn_5 : decode cX0_turn 5 = .ok (.istore 4, 2) := dk_54 4 (dk_at dksX0_turn_0 5 rfl rfl)
theorem dX0_turn_7 : decode cX0_turn 7 = .ok (.iload_n 3, 1) := dk_29 (dk_at dksX0_turn_0 7 rfl rfl)
theorem dX0_turn_8 : decode cX0_turn 8 = .ok (.iload 4, 2) := dk_21 4 (dk_at dksX0_turn_0 8 rfl rfl)
theorem dX0_turn_10 : decode cX0_turn 10 = .ok (.if_icmp .ge 30, 3) := dk_162 0 30 (dk_at dksX0_turn_0 10 rfl rfl)
theorem dX0_turn_13 : decode cX0_turn 13 = .ok (.aload_n 0, 1) := dk_42 (dk_at dksX0_turn_0 13 rfl rfl)
theorem dX0_turn_14 : decode cX0_turn 14 = .ok (.iload_n 3, 1) := dk_29 (dk_at dksX0_turn_0 14 rfl rfl)
theorem dX0_turn_15 : decode cX0_turn 15 = .ok (.saload, 1) := dk_53 (dk_at dksX0_turn_0 15 rfl rfl)
theorem dX0_turn_16 : decode cX0_turn 16 = .ok (.istore 5, 2) := dk_54 5 (dk_at dksX0_turn_0 16 rfl rfl)
theorem dX0_turn_18 : decode cX0_turn 18 = .ok (.aload_n 0, 1) := dk_42 (dk_at dksX0_turn_0 18 rfl rfl)
theorem dX0_turn_19 : decode cX0_turn 19 = .ok (.iload_n 3, 1) := dk_29 (dk_at dksX0_turn_0 19 rfl rfl)
theorem dX0_turn_20 : decode cX0_turn 20 = .ok (.aload_n 0, 1) := dk_42 (dk_at dksX0_turn_0 20 rfl rfl)
theorem dX0_turn_21 : decode cX0_turn 21 = .ok (.iload 4, 2) := dk_21 4 (dk_at dksX0_turn_0 21 rfl rfl)
theorem dX0_turn_23 : decode cX0_turn 23 = .ok (.saload, 1) := dk_53 (dk_at dksX0_turn_0 23 rfl rfl)
theorem dX0_turn_24 : decode cX0_turn 24 = .ok (.sastore, 1) := dk_86 (dk_at dksX0_turn_1 0 rfl rfl)
theorem dX0_turn_25 : decode cX0_turn 25 = .ok (.aload_n 0, 1) := dk_42 (dk_at dksX0_turn_1 1 rfl rfl)
theorem dX0_turn_26 : decode cX0_turn 26 = .ok (.iload 4, 2) := dk_21 4 (dk_at dksX0_turn_1 2 rfl rfl)
theorem dX0_turn_28 : decode cX0_turn 28 = .ok (.iload 5, 2) := dk_21 5 (dk_at dksX0_turn_1 4 rfl rfl)
theorem dX0_turn_30 : decode cX0_turn 30 = .ok (.sastore, 1) := dk_86 (dk_at dksX0_turn_1 6 rfl rfl)
theorem dX0_turn_31 : decode cX0_turn 31 = .ok (.iinc 3 1, 3) := dk_132 3 1 (dk_at dksX0_turn_1 7 rfl rfl)
theorem dX0_turn_34 : decode cX0_turn 34 = .ok (.iinc 4 (-1), 3) := dk_132 4 255 (dk_at dksX0_turn_1 10 rfl rfl)
theorem dX0_turn_37 : decode cX0_turn 37 = .ok (.goto (-30), 3) := dk_167 255 226 (dk_at dksX0_turn_1 13 rfl rfl)
theorem dX0_turn_40 : decode cX0_turn 40 = .ok (.return_, 1) := dk_177 (dk_at dksX0_turn_1 16 rfl rfl)
abbrev cX0_find : ByteArray := method_7_code
def yX0_find : MethodName := ⟨RX0, "find", "([SIII)I"⟩
def dkwX0_find_4 : List UInt8 := [27, 21, 4, 96, 116, 4, 100, 172]
abbrev dktX0_find_4 : List UInt8 := dkwX0_find_4 ++ []
def dkwX0_find_3 : List UInt8 := [167, 0, 4, 3, 54, 5, 132, 6, 1, 167, 255, 185, 21, 5, 153, 0, 10, 27, 21, 4, 96, 167, 0, 10]
abbrev dktX0_find_3 : List UInt8 := dkwX0_find_3 ++ dktX0_find_4
def dkwX0_find_2 : List UInt8 := [4, 167, 0, 4, 3, 96, 54, 4, 21, 5, 154, 0, 12, 42, 21, 6, 53, 29, 147, 160, 0, 7, 4]
abbrev dktX0_find_2 : List UInt8 := dkwX0_find_2 ++ dktX0_find_3
def dkwX0_find_1 : List UInt8 := [4, 100, 53, 42, 21, 6, 53, 161, 0, 6, 16, 156, 172, 21, 4, 42, 21, 6, 53, 29, 147, 162, 0, 7]
abbrev dktX0_find_1 : List UInt8 := dkwX0_find_1 ++ dktX0_find_2
def dkwX0_find_0 : List UInt8 := [3, 54, 4, 3, 54, 5, 27, 54, 6, 21, 6, 28, 162, 0, 71, 21, 6, 27, 164, 0, 19, 42, 21, 6]
abbrev dktX0_find_0 : List UInt8 := dkwX0_find_0 ++ dktX0_find_1
theorem dksX0_find_0 : cX0_find.data.toList.drop 0 = dktX0_find_0 := by decide +kernel
theorem dksX0_find_1 : cX0_find.data.toList.drop 24 = dktX0_find_1 := dk_seg dksX0_find_0 24 rfl rfl
theorem dksX0_find_2 : cX0_find.data.toList.drop 48 = dktX0_find_2 := dk_seg dksX0_find_1 24 rfl rfl
theorem dksX0_find_3 : cX0_find.data.toList.drop 71 = dktX0_find_3 := dk_seg dksX0_find_2 23 rfl rfl
theorem dksX0_find_4 : cX0_find.data.toList.drop 95 = dktX0_find_4 := dk_seg dksX0_find_3 24 rfl rfl
theorem dX0_find_0 : decode cX0_find 0 = .ok (.iconst 0, 1) := dk_3 (dk_at dksX0_find_0 0 rfl rfl)
theorem dX0_find_1 : decode cX0_find 1 = .ok (.istore 4, 2) := dk_54 4 (dk_at dksX0_find_0 1 rfl rfl)
theorem dX0_find_3 : decode cX0_find 3 = .ok (.iconst 0, 1) := dk_3 (dk_at dksX0_find_0 3 rfl rfl)
theorem dX0_find_4 : decode cX0_find 4 = .ok (.istore 5, 2) := dk_54 5 (dk_at dksX0_find_0 4 rfl rfl)
theorem dX0_find_6 : decode cX0_find 6 = .ok (.iload_n 1, 1) := dk_27 (dk_at dksX0_find_0 6 rfl rfl)
theorem dX0_find_7 : decode cX0_find 7 = .ok (.istore 6, 2) := dk_54 6 (dk_at dksX0_find_0 7 rfl rfl)
theorem dX0_find_9 : decode cX0_find 9 = .ok (.iload 6, 2) := dk_21 6 (dk_at dksX0_find_0 9 rfl rfl)
theorem dX0_find_11 : decode cX0_find 11 = .ok (.iload_n 2, 1) := dk_28 (dk_at dksX0_find_0 11 rfl rfl)
theorem dX0_find_12 : decode cX0_find 12 = .ok (.if_icmp .ge 71, 3) := dk_162 0 71 (dk_at dksX0_find_0 12 rfl rfl)
theorem dX0_find_15 : decode cX0_find 15 = .ok (.iload 6, 2) := dk_21 6 (dk_at dksX0_find_0 15 rfl rfl)
theorem dX0_find_17 : decode cX0_find 17 = .ok (.iload_n 1, 1) := dk_27 (dk_at dksX0_find_0 17 rfl rfl)
theorem dX0_find_18 : decode cX0_find 18 = .ok (.if_icmp .le 19, 3) := dk_164 0 19 (dk_at dksX0_find_0 18 rfl rfl)
theorem dX0_find_21 : decode cX0_find 21 = .ok (.aload_n 0, 1) := dk_42 (dk_at dksX0_find_0 21 rfl rfl)
theorem dX0_find_22 : decode cX0_find 22 = .ok (.iload 6, 2) := dk_21 6 (dk_at dksX0_find_0 22 rfl rfl)
theorem dX0_find_24 : decode cX0_find 24 = .ok (.iconst 1, 1) := dk_4 (dk_at dksX0_find_1 0 rfl rfl)
theorem dX0_find_25 : decode cX0_find 25 = .ok (.isub, 1) := dk_100 (dk_at dksX0_find_1 1 rfl rfl)
theorem dX0_find_26 : decode cX0_find 26 = .ok (.saload, 1) := dk_53 (dk_at dksX0_find_1 2 rfl rfl)
theorem dX0_find_27 : decode cX0_find 27 = .ok (.aload_n 0, 1) := dk_42 (dk_at dksX0_find_1 3 rfl rfl)
theorem dX0_find_28 : decode cX0_find 28 = .ok (.iload 6, 2) := dk_21 6 (dk_at dksX0_find_1 4 rfl rfl)
theorem dX0_find_30 : decode cX0_find 30 = .ok (.saload, 1) := dk_53 (dk_at dksX0_find_1 6 rfl rfl)
theorem dX0_find_31 : decode cX0_find 31 = .ok (.if_icmp .lt 6, 3) := dk_161 0 6 (dk_at dksX0_find_1 7 rfl rfl)
theorem dX0_find_34 : decode cX0_find 34 = .ok (.bipush (-100), 2) := dk_16 156 (dk_at dksX0_find_1 10 rfl rfl)
theorem dX0_find_36 : decode cX0_find 36 = .ok (.ireturn, 1) := dk_172 (dk_at dksX0_find_1 12 rfl rfl)
theorem dX0_find_37 : decode cX0_find 37 = .ok (.iload 4, 2) := dk_21 4 (dk_at dksX0_find_1 13 rfl rfl)
theorem dX0_find_39 : decode cX0_find 39 = .ok (.aload_n 0, 1) := dk_42 (dk_at dksX0_find_1 15 rfl rfl)
theorem dX0_find_40 : decode cX0_find 40 = .ok (.iload 6, 2) := dk_21 6 (dk_at dksX0_find_1 16 rfl rfl)
theorem dX0_find_42 : decode cX0_find 42 = .ok (.saload, 1) := dk_53 (dk_at dksX0_find_1 18 rfl rfl)
theorem dX0_find_43 : decode cX0_find 43 = .ok (.iload_n 3, 1) := dk_29 (dk_at dksX0_find_1 19 rfl rfl)
theorem dX0_find_44 : decode cX0_find 44 = .ok (.i2s, 1) := dk_147 (dk_at dksX0_find_1 20 rfl rfl)
theorem dX0_find_45 : decode cX0_find 45 = .ok (.if_icmp .ge 7, 3) := dk_162 0 7 (dk_at dksX0_find_1 21 rfl rfl)
theorem dX0_find_48 : decode cX0_find 48 = .ok (.iconst 1, 1) := dk_4 (dk_at dksX0_find_2 0 rfl rfl)
theorem dX0_find_49 : decode cX0_find 49 = .ok (.goto 4, 3) := dk_167 0 4 (dk_at dksX0_find_2 1 rfl rfl)
theorem dX0_find_52 : decode cX0_find 52 = .ok (.iconst 0, 1) := dk_3 (dk_at dksX0_find_2 4 rfl rfl)
theorem dX0_find_53 : decode cX0_find 53 = .ok (.iadd, 1) := dk_96 (dk_at dksX0_find_2 5 rfl rfl)
theorem dX0_find_54 : decode cX0_find 54 = .ok (.istore 4, 2) := dk_54 4 (dk_at dksX0_find_2 6 rfl rfl)
theorem dX0_find_56 : decode cX0_find 56 = .ok (.iload 5, 2) := dk_21 5 (dk_at dksX0_find_2 8 rfl rfl)
theorem dX0_find_58 : decode cX0_find 58 = .ok (.ifCond .ne 12, 3) := dk_154 0 12 (dk_at dksX0_find_2 10 rfl rfl)
theorem dX0_find_61 : decode cX0_find 61 = .ok (.aload_n 0, 1) := dk_42 (dk_at dksX0_find_2 13 rfl rfl)
theorem dX0_find_62 : decode cX0_find 62 = .ok (.iload 6, 2) := dk_21 6 (dk_at dksX0_find_2 14 rfl rfl)
theorem dX0_find_64 : decode cX0_find 64 = .ok (.saload, 1) := dk_53 (dk_at dksX0_find_2 16 rfl rfl)
theorem dX0_find_65 : decode cX0_find 65 = .ok (.iload_n 3, 1) := dk_29 (dk_at dksX0_find_2 17 rfl rfl)
theorem dX0_find_66 : decode cX0_find 66 = .ok (.i2s, 1) := dk_147 (dk_at dksX0_find_2 18 rfl rfl)
theorem dX0_find_67 : decode cX0_find 67 = .ok (.if_icmp .ne 7, 3) := dk_160 0 7 (dk_at dksX0_find_2 19 rfl rfl)
theorem dX0_find_70 : decode cX0_find 70 = .ok (.iconst 1, 1) := dk_4 (dk_at dksX0_find_2 22 rfl rfl)
theorem dX0_find_71 : decode cX0_find 71 = .ok (.goto 4, 3) := dk_167 0 4 (dk_at dksX0_find_3 0 rfl rfl)
theorem dX0_find_74 : decode cX0_find 74 = .ok (.iconst 0, 1) := dk_3 (dk_at dksX0_find_3 3 rfl rfl)
theorem dX0_find_75 : decode cX0_find 75 = .ok (.istore 5, 2) := dk_54 5 (dk_at dksX0_find_3 4 rfl rfl)
theorem dX0_find_77 : decode cX0_find 77 = .ok (.iinc 6 1, 3) := dk_132 6 1 (dk_at dksX0_find_3 6 rfl rfl)
theorem dX0_find_80 : decode cX0_find 80 = .ok (.goto (-71), 3) := dk_167 255 185 (dk_at dksX0_find_3 9 rfl rfl)
theorem dX0_find_83 : decode cX0_find 83 = .ok (.iload 5, 2) := dk_21 5 (dk_at dksX0_find_3 12 rfl rfl)
theorem dX0_find_85 : decode cX0_find 85 = .ok (.ifCond .eq 10, 3) := dk_153 0 10 (dk_at dksX0_find_3 14 rfl rfl)
theorem dX0_find_88 : decode cX0_find 88 = .ok (.iload_n 1, 1) := dk_27 (dk_at dksX0_find_3 17 rfl rfl)
theorem dX0_find_89 : decode cX0_find 89 = .ok (.iload 4, 2) := dk_21 4 (dk_at dksX0_find_3 18 rfl rfl)
theorem dX0_find_91 : decode cX0_find 91 = .ok (.iadd, 1) := dk_96 (dk_at dksX0_find_3 20 rfl rfl)
theorem dX0_find_92 : decode cX0_find 92 = .ok (.goto 10, 3) := dk_167 0 10 (dk_at dksX0_find_3 21 rfl rfl)
theorem dX0_find_95 : decode cX0_find 95 = .ok (.iload_n 1, 1) := dk_27 (dk_at dksX0_find_4 0 rfl rfl)
theorem dX0_find_96 : decode cX0_find 96 = .ok (.iload 4, 2) := dk_21 4 (dk_at dksX0_find_4 1 rfl rfl)
theorem dX0_find_98 : decode cX0_find 98 = .ok (.iadd, 1) := dk_96 (dk_at dksX0_find_4 3 rfl rfl)
theorem dX0_find_99 : decode cX0_find 99 = .ok (.ineg, 1) := dk_116 (dk_at dksX0_find_4 4 rfl rfl)
theorem dX0_find_100 : decode cX0_find 100 = .ok (.iconst 1, 1) := dk_4 (dk_at dksX0_find_4 5 rfl rfl)
theorem dX0_find_101 : decode cX0_find 101 = .ok (.isub, 1) := dk_100 (dk_at dksX0_find_4 6 rfl rfl)
theorem dX0_find_102 : decode cX0_find 102 = .ok (.ireturn, 1) := dk_172 (dk_at dksX0_find_4 7 rfl rfl)
abbrev cX0_sorts : ByteArray := method_8_code
def yX0_sorts : MethodName := ⟨RX0, "sorts", "(LShortSortDesk;III)V"⟩
def dkwX0_sorts_1 : List UInt8 := [167, 0, 9, 42, 28, 29, 182, 0, 26, 177]
abbrev dktX0_sorts_1 : List UInt8 := dkwX0_sorts_1 ++ []
def dkwX0_sorts_0 : List UInt8 := [27, 154, 0, 12, 42, 28, 29, 182, 0, 19, 167, 0, 23, 27, 4, 160, 0, 12, 42, 28, 29, 182, 0, 23]
abbrev dktX0_sorts_0 : List UInt8 := dkwX0_sorts_0 ++ dktX0_sorts_1
theorem dksX0_sorts_0 : cX0_sorts.data.toList.drop 0 = dktX0_sorts_0 := by decide +kernel
theorem dksX0_sorts_1 : cX0_sorts.data.toList.drop 24 = dktX0_sorts_1 := dk_seg dksX0_sorts_0 24 rfl rfl
theorem dX0_sorts_0 : decode cX0_sorts 0 = .ok (.iload_n 1, 1) := dk_27 (dk_at dksX0_sorts_0 0 rfl rfl)
theorem dX0_sorts_1 : decode cX0_sorts 1 = .ok (.ifCond .ne 12, 3) := dk_154 0 12 (dk_at dksX0_sorts_0 1 rfl rfl)
theorem dX0_sorts_4 : decode cX0_sorts 4 = .ok (.aload_n 0, 1) := dk_42 (dk_at dksX0_sorts_0 4 rfl rfl)
theorem dX0_sorts_5 : decode cX0_sorts 5 = .ok (.iload_n 2, 1) := dk_28 (dk_at dksX0_sorts_0 5 rfl rfl)
theorem dX0_sorts_6 : decode cX0_sorts 6 = .ok (.iload_n 3, 1) := dk_29 (dk_at dksX0_sorts_0 6 rfl rfl)
theorem dX0_sorts_7 : decode cX0_sorts 7 = .ok (.invokevirtual 19, 3) := dk_182 0 19 (dk_at dksX0_sorts_0 7 rfl rfl)
theorem dX0_sorts_10 : decode cX0_sorts 10 = .ok (.goto 23, 3) := dk_167 0 23 (dk_at dksX0_sorts_0 10 rfl rfl)
theorem dX0_sorts_13 : decode cX0_sorts 13 = .ok (.iload_n 1, 1) := dk_27 (dk_at dksX0_sorts_0 13 rfl rfl)
theorem dX0_sorts_14 : decode cX0_sorts 14 = .ok (.iconst 1, 1) := dk_4 (dk_at dksX0_sorts_0 14 rfl rfl)
theorem dX0_sorts_15 : decode cX0_sorts 15 = .ok (.if_icmp .ne 12, 3) := dk_160 0 12 (dk_at dksX0_sorts_0 15 rfl rfl)
theorem dX0_sorts_18 : decode cX0_sorts 18 = .ok (.aload_n 0, 1) := dk_42 (dk_at dksX0_sorts_0 18 rfl rfl)
theorem dX0_sorts_19 : decode cX0_sorts 19 = .ok (.iload_n 2, 1) := dk_28 (dk_at dksX0_sorts_0 19 rfl rfl)
theorem dX0_sorts_20 : decode cX0_sorts 20 = .ok (.iload_n 3, 1) := dk_29 (dk_at dksX0_sorts_0 20 rfl rfl)
theorem dX0_sorts_21 : decode cX0_sorts 21 = .ok (.invokevirtual 23, 3) := dk_182 0 23 (dk_at dksX0_sorts_0 21 rfl rfl)
theorem dX0_sorts_24 : decode cX0_sorts 24 = .ok (.goto 9, 3) := dk_167 0 9 (dk_at dksX0_sorts_1 0 rfl rfl)
theorem dX0_sorts_27 : decode cX0_sorts 27 = .ok (.aload_n 0, 1) := dk_42 (dk_at dksX0_sorts_1 3 rfl rfl)
theorem dX0_sorts_28 : decode cX0_sorts 28 = .ok (.iload_n 2, 1) := dk_28 (dk_at dksX0_sorts_1 4 rfl rfl)
theorem dX0_sorts_29 : decode cX0_sorts 29 = .ok (.iload_n 3, 1) := dk_29 (dk_at dksX0_sorts_1 5 rfl rfl)
theorem dX0_sorts_30 : decode cX0_sorts 30 = .ok (.invokevirtual 26, 3) := dk_182 0 26 (dk_at dksX0_sorts_1 6 rfl rfl)
theorem dX0_sorts_33 : decode cX0_sorts 33 = .ok (.return_, 1) := dk_177 (dk_at dksX0_sorts_1 9 rfl rfl)
theorem q2 : (Jvm.Cond.initialized "ShortSortDeskLaw") ∈ lw_all := lw_g (lw_at lw_m0 0 rfl) rfl
theorem q9 : (Jvm.Cond.classLink "ShortSortDeskLaw" (11 : Nat) "ShortSortDesk") ∈ lw_all := lw_g (lw_at lw_m0 7 rfl) rfl
theorem q11 : (Jvm.Cond.methodLink "ShortSortDeskLaw" (29 : Nat) ({ cls := "ShortSortDesk", name := "<init>", desc := "()V" } : Jvm.MethodName)) ∈ lw_all := lw_g (lw_at lw_m0 9 rfl) rfl
theorem q22 : (Jvm.Cond.methodLink "ShortSortDeskLaw" (38 : Nat) ({ cls := "ShortSortDesk", name := "set", desc := "(II)V" } : Jvm.MethodName)) ∈ lw_all := lw_g (lw_at lw_m0 20 rfl) rfl
theorem q27 : (Jvm.Cond.methodLink "ShortSortDeskLaw" (10 : Nat) ({ cls := "ShortSortDesk", name := "get", desc := "(I)I" } : Jvm.MethodName)) ∈ lw_all := lw_g (lw_at lw_m0 25 rfl) rfl
theorem q31 : (Jvm.Cond.methodLink "ShortSortDeskLaw" (49 : Nat) ({ cls := "ShortSortDesk", name := "reverse", desc := "(II)V" } : Jvm.MethodName)) ∈ lw_all := lw_g (lw_at lw_m0 29 rfl) rfl
theorem q46 : (Jvm.Cond.methodLink "ShortSortDeskLaw" (55 : Nat) ({ cls := "ShortSortDesk", name := "find", desc := "(III)I" } : Jvm.MethodName)) ∈ lw_all := lw_g (lw_at lw_m0 44 rfl) rfl
theorem q53 : (Jvm.Cond.methodLink "ShortSortDeskLaw" (30 : Nat) ({ cls := "ShortSortDeskLaw", name := "cell", desc := "([II)I" } : Jvm.MethodName)) ∈ lw_all := lw_g (lw_at lw_m0 51 rfl) rfl
theorem q54 : (Jvm.Cond.static ({ cls := "ShortSortDeskLaw", name := "cell", desc := "([II)I" } : Jvm.MethodName)) ∈ lw_all := lw_g (lw_at lw_m0 52 rfl) rfl
theorem q55 : (Jvm.Cond.code ({ cls := "ShortSortDeskLaw", name := "cell", desc := "([II)I" } : Jvm.MethodName) method_2_code (2 : Nat) (Option.some Jvm.ClassFile.FieldType.int)) ∈ lw_all := lw_g (lw_at lw_m0 53 rfl) rfl
theorem q56 : (Jvm.Cond.methodLink "ShortSortDeskLaw" (16 : Nat) ({ cls := "ShortSortDeskLaw", name := "bare", desc := "(I)I" } : Jvm.MethodName)) ∈ lw_all := lw_g (lw_at lw_m0 54 rfl) rfl
theorem q57 : (Jvm.Cond.static ({ cls := "ShortSortDeskLaw", name := "bare", desc := "(I)I" } : Jvm.MethodName)) ∈ lw_all := lw_g (lw_at lw_m0 55 rfl) rfl
theorem q58 : (Jvm.Cond.code ({ cls := "ShortSortDeskLaw", name := "bare", desc := "(I)I" } : Jvm.MethodName) method_3_code (1 : Nat) (Option.some Jvm.ClassFile.FieldType.int)) ∈ lw_all := lw_g (lw_at lw_m0 56 rfl) rfl
theorem q59 : (Jvm.Cond.constant "ShortSortDeskLaw" (9 : Nat) (2147483647 : Int32)) ∈ lw_all := lw_g (lw_at lw_m0 57 rfl) rfl
theorem q60 : (Jvm.Cond.methodLink "ShortSortDeskLaw" (34 : Nat) ({ cls := "ShortSortDeskLaw", name := "alike", desc := "(LShortSortDesk;[SI)Z" } : Jvm.MethodName)) ∈ lw_all := lw_g (lw_at lw_m0 58 rfl) rfl
theorem q61 : (Jvm.Cond.static ({ cls := "ShortSortDeskLaw", name := "alike", desc := "(LShortSortDesk;[SI)Z" } : Jvm.MethodName)) ∈ lw_all := lw_g (lw_at lw_m0 59 rfl) rfl
theorem q62 : (Jvm.Cond.code ({ cls := "ShortSortDeskLaw", name := "alike", desc := "(LShortSortDesk;[SI)Z" } : Jvm.MethodName) method_4_code (4 : Nat) (Option.some Jvm.ClassFile.FieldType.boolean)) ∈ lw_all := lw_g (lw_at lw_m0 60 rfl) rfl
theorem q63 : (Jvm.Cond.methodLink "ShortSortDeskLaw" (45 : Nat) ({ cls := "ShortSortDeskLaw", name := "sort", desc := "([SII)V" } : Jvm.MethodName)) ∈ lw_all := lw_g (lw_at lw_m0 61 rfl) rfl
theorem q64 : (Jvm.Cond.static ({ cls := "ShortSortDeskLaw", name := "sort", desc := "([SII)V" } : Jvm.MethodName)) ∈ lw_all := lw_g (lw_at lw_m0 62 rfl) rfl
theorem q65 : (Jvm.Cond.code ({ cls := "ShortSortDeskLaw", name := "sort", desc := "([SII)V" } : Jvm.MethodName) method_5_code (7 : Nat) (Option.none : Option Jvm.ClassFile.FieldType)) ∈ lw_all := lw_g (lw_at lw_m0 63 rfl) rfl
theorem q66 : (Jvm.Cond.methodLink "ShortSortDeskLaw" (52 : Nat) ({ cls := "ShortSortDeskLaw", name := "turn", desc := "([SII)V" } : Jvm.MethodName)) ∈ lw_all := lw_g (lw_at lw_m0 64 rfl) rfl
theorem q67 : (Jvm.Cond.static ({ cls := "ShortSortDeskLaw", name := "turn", desc := "([SII)V" } : Jvm.MethodName)) ∈ lw_all := lw_g (lw_at lw_m0 65 rfl) rfl
theorem q68 : (Jvm.Cond.code ({ cls := "ShortSortDeskLaw", name := "turn", desc := "([SII)V" } : Jvm.MethodName) method_6_code (6 : Nat) (Option.none : Option Jvm.ClassFile.FieldType)) ∈ lw_all := lw_g (lw_at lw_m0 66 rfl) rfl
theorem q69 : (Jvm.Cond.methodLink "ShortSortDeskLaw" (59 : Nat) ({ cls := "ShortSortDeskLaw", name := "find", desc := "([SIII)I" } : Jvm.MethodName)) ∈ lw_all := lw_g (lw_at lw_m0 67 rfl) rfl
theorem q70 : (Jvm.Cond.static ({ cls := "ShortSortDeskLaw", name := "find", desc := "([SIII)I" } : Jvm.MethodName)) ∈ lw_all := lw_g (lw_at lw_m0 68 rfl) rfl
theorem q71 : (Jvm.Cond.code ({ cls := "ShortSortDeskLaw", name := "find", desc := "([SIII)I" } : Jvm.MethodName) method_7_code (7 : Nat) (Option.some Jvm.ClassFile.FieldType.int)) ∈ lw_all := lw_g (lw_at lw_m0 69 rfl) rfl
theorem q72 : (Jvm.Cond.methodLink "ShortSortDeskLaw" (41 : Nat) ({ cls := "ShortSortDeskLaw", name := "sorts", desc := "(LShortSortDesk;III)V" } : Jvm.MethodName)) ∈ lw_all := lw_g (lw_at lw_m0 70 rfl) rfl
theorem q73 : (Jvm.Cond.static ({ cls := "ShortSortDeskLaw", name := "sorts", desc := "(LShortSortDesk;III)V" } : Jvm.MethodName)) ∈ lw_all := lw_g (lw_at lw_m0 71 rfl) rfl
theorem q74 : (Jvm.Cond.code ({ cls := "ShortSortDeskLaw", name := "sorts", desc := "(LShortSortDesk;III)V" } : Jvm.MethodName) method_8_code (4 : Nat) (Option.none : Option Jvm.ClassFile.FieldType)) ∈ lw_all := lw_g (lw_at lw_m0 72 rfl) rfl
theorem q75 : (Jvm.Cond.methodLink "ShortSortDeskLaw" (19 : Nat) ({ cls := "ShortSortDesk", name := "quick", desc := "(II)V" } : Jvm.MethodName)) ∈ lw_all := lw_g (lw_at lw_m0 73 rfl) rfl
theorem q101 : (Jvm.Cond.methodLink "ShortSortDeskLaw" (23 : Nat) ({ cls := "ShortSortDesk", name := "merge", desc := "(II)V" } : Jvm.MethodName)) ∈ lw_all := lw_g (lw_at lw_m0 99 rfl) rfl
theorem q130 : (Jvm.Cond.methodLink "ShortSortDeskLaw" (26 : Nat) ({ cls := "ShortSortDesk", name := "radix", desc := "(II)V" } : Jvm.MethodName)) ∈ lw_all := lw_g (lw_at lw_m0 128 rfl) rfl
/-! the law's own entry -/
set_option maxRecDepth 100000
abbrev cL_law : ByteArray := code
def dkwL_law_26 : List UInt8 := [3, 172]
abbrev dktL_law_26 : List UInt8 := dkwL_law_26 ++ []
def dkwL_law_25 : List UInt8 := [182, 0, 55, 2, 160, 0, 20, 43, 16, 48, 3, 8, 182, 0, 55, 16, 207, 160, 0, 7, 4, 167, 0, 4]
abbrev dktL_law_25 : List UInt8 := dkwL_law_25 ++ dktL_law_26
def dkwL_law_24 : List UInt8 := [96, 116, 4, 100, 159, 0, 5, 3, 172, 132, 3, 1, 167, 255, 178, 43, 3, 16, 48, 17, 128, 0]
abbrev dktL_law_24 : List UInt8 := dkwL_law_24 ++ dktL_law_25
def dkwL_law_23 : List UInt8 := [16, 48, 21, 4, 4, 96, 42, 29, 184, 0, 30, 184, 0, 16, 17, 3, 231, 112, 96, 182, 0, 55, 29, 4]
abbrev dktL_law_23 : List UInt8 := dkwL_law_23 ++ dktL_law_24
def dkwL_law_22 : List UInt8 := [182, 0, 10, 21, 4, 160, 0, 49, 43, 3, 16, 48, 21, 4, 182, 0, 55, 29, 160, 0, 36, 43, 3]
abbrev dktL_law_22 : List UInt8 := dkwL_law_22 ++ dktL_law_23
def dkwL_law_21 : List UInt8 := [184, 0, 41, 3, 62, 29, 16, 48, 162, 0, 78, 17, 3, 232, 29, 104, 17, 89, 216, 100, 54, 4, 43, 29]
abbrev dktL_law_21 : List UInt8 := dkwL_law_21 ++ dktL_law_22
def dkwL_law_20 : List UInt8 := [182, 0, 38, 132, 3, 1, 167, 255, 227, 43, 42, 5, 184, 0, 30, 184, 0, 16, 6, 112, 3, 16, 48]
abbrev dktL_law_20 : List UInt8 := dkwL_law_20 ++ dktL_law_21
def dkwL_law_19 : List UInt8 := [29, 16, 48, 162, 0, 29, 43, 16, 7, 29, 104, 16, 48, 112, 17, 3, 232, 29, 104, 17, 89, 216, 100]
abbrev dktL_law_19 : List UInt8 := dkwL_law_19 ++ dktL_law_20
def dkwL_law_18 : List UInt8 := [16, 48, 184, 0, 52, 43, 44, 29, 184, 0, 34, 154, 0, 5, 3, 172, 132, 3, 1, 167, 255, 197, 3, 62]
abbrev dktL_law_18 : List UInt8 := dkwL_law_18 ++ dktL_law_19
def dkwL_law_17 : List UInt8 := [184, 0, 45, 43, 44, 29, 184, 0, 34, 154, 0, 5, 3, 172, 43, 3, 16, 48, 182, 0, 49, 44, 3]
abbrev dktL_law_17 : List UInt8 := dkwL_law_17 ++ dktL_law_18
def dkwL_law_16 : List UInt8 := [167, 254, 255, 3, 62, 29, 6, 162, 0, 60, 43, 29, 3, 16, 48, 184, 0, 41, 44, 3, 16, 48]
abbrev dktL_law_16 : List UInt8 := dkwL_law_16 ++ dktL_law_17
def dkwL_law_15 : List UInt8 := [21, 8, 44, 21, 10, 53, 184, 0, 59, 159, 0, 5, 3, 172, 132, 10, 1, 167, 255, 217, 132, 3, 3]
abbrev dktL_law_15 : List UInt8 := dkwL_law_15 ++ dktL_law_16
def dkwL_law_14 : List UInt8 := [54, 10, 21, 10, 21, 8, 162, 0, 38, 43, 21, 5, 21, 6, 44, 21, 10, 53, 182, 0, 55, 44, 21, 7]
abbrev dktL_law_14 : List UInt8 := dkwL_law_14 ++ dktL_law_15
def dkwL_law_13 : List UInt8 := [16, 48, 21, 4, 182, 0, 55, 44, 3, 16, 48, 21, 4, 184, 0, 59, 159, 0, 5, 3, 172, 21, 7]
abbrev dktL_law_13 : List UInt8 := dkwL_law_13 ++ dktL_law_14
def dkwL_law_12 : List UInt8 := [16, 8, 122, 182, 0, 55, 44, 21, 7, 21, 8, 21, 4, 16, 8, 122, 184, 0, 59, 160, 0, 24, 43, 3]
abbrev dktL_law_12 : List UInt8 := dkwL_law_12 ++ dktL_law_13
def dkwL_law_11 : List UInt8 := [16, 48, 112, 21, 6, 147, 86, 43, 44, 21, 4, 184, 0, 34, 153, 0, 53, 43, 21, 5, 21, 6, 21, 4]
abbrev dktL_law_11 : List UInt8 := dkwL_law_11 ++ dktL_law_12
def dkwL_law_10 : List UInt8 := [21, 7, 21, 8, 184, 0, 52, 167, 0, 24, 43, 21, 5, 21, 6, 182, 0, 38, 44, 21, 5, 184, 0, 16]
abbrev dktL_law_10 : List UInt8 := dkwL_law_10 ++ dktL_law_11
def dkwL_law_9 : List UInt8 := [21, 8, 184, 0, 45, 167, 0, 50, 21, 9, 16, 6, 160, 0, 22, 43, 21, 5, 21, 6, 182, 0, 49, 44]
abbrev dktL_law_9 : List UInt8 := dkwL_law_9 ++ dktL_law_10
def dkwL_law_8 : List UInt8 := [54, 9, 21, 9, 16, 6, 162, 0, 26, 43, 21, 9, 6, 112, 21, 5, 21, 6, 184, 0, 41, 44, 21, 7]
abbrev dktL_law_8 : List UInt8 := dkwL_law_8 ++ dktL_law_9
def dkwL_law_7 : List UInt8 := [21, 7, 21, 6, 184, 0, 16, 16, 49, 21, 7, 100, 112, 96, 54, 8, 21, 4, 184, 0, 16, 16, 8, 112]
abbrev dktL_law_7 : List UInt8 := dkwL_law_7 ++ dktL_law_8
def dkwL_law_6 : List UInt8 := [184, 0, 30, 54, 5, 42, 29, 5, 96, 184, 0, 30, 54, 6, 21, 5, 184, 0, 16, 16, 49, 112, 54, 7]
abbrev dktL_law_6 : List UInt8 := dkwL_law_6 ++ dktL_law_7
def dkwL_law_5 : List UInt8 := [16, 48, 62, 29, 5, 96, 16, 96, 162, 0, 255, 42, 29, 184, 0, 30, 54, 4, 42, 29, 4, 96]
abbrev dktL_law_5 : List UInt8 := dkwL_law_5 ++ dktL_law_6
def dkwL_law_4 : List UInt8 := [126, 147, 86, 132, 3, 1, 167, 255, 185, 43, 44, 42, 4, 184, 0, 30, 184, 0, 34, 154, 0, 5, 3, 172]
abbrev dktL_law_4 : List UInt8 := dkwL_law_4 ++ dktL_law_5
def dkwL_law_3 : List UInt8 := [44, 29, 21, 4, 16, 20, 122, 4, 126, 154, 0, 8, 21, 4, 167, 0, 11, 21, 4, 16, 16, 122, 16, 7]
abbrev dktL_law_3 : List UInt8 := dkwL_law_3 ++ dktL_law_4
def dkwL_law_2 : List UInt8 := [16, 20, 122, 4, 126, 154, 0, 8, 21, 4, 167, 0, 11, 21, 4, 16, 16, 122, 16, 7, 126, 182, 0, 38]
abbrev dktL_law_2 : List UInt8 := dkwL_law_2 ++ dktL_law_3
def dkwL_law_1 : List UInt8 := [154, 0, 5, 3, 172, 3, 62, 29, 16, 48, 162, 0, 71, 42, 29, 184, 0, 30, 54, 4, 43, 29, 21, 4]
abbrev dktL_law_1 : List UInt8 := dkwL_law_1 ++ dktL_law_2
def dkwL_law_0 : List UInt8 := [187, 0, 11, 89, 183, 0, 29, 76, 16, 48, 188, 9, 77, 43, 44, 42, 3, 184, 0, 30, 184, 0, 34]
abbrev dktL_law_0 : List UInt8 := dkwL_law_0 ++ dktL_law_1
theorem dksL_law_0 : cL_law.data.toList.drop 0 = dktL_law_0 := by decide +kernel
theorem dksL_law_1 : cL_law.data.toList.drop 23 = dktL_law_1 := dk_seg dksL_law_0 23 rfl rfl
theorem dksL_law_2 : cL_law.data.toList.drop 47 = dktL_law_2 := dk_seg dksL_law_1 24 rfl rfl
theorem dksL_law_3 : cL_law.data.toList.drop 71 = dktL_law_3 := dk_seg dksL_law_2 24 rfl rfl
theorem dksL_law_4 : cL_law.data.toList.drop 95 = dktL_law_4 := dk_seg dksL_law_3 24 rfl rfl
theorem dksL_law_5 : cL_law.data.toList.drop 119 = dktL_law_5 := dk_seg dksL_law_4 24 rfl rfl
theorem dksL_law_6 : cL_law.data.toList.drop 141 = dktL_law_6 := dk_seg dksL_law_5 22 rfl rfl
theorem dksL_law_7 : cL_law.data.toList.drop 165 = dktL_law_7 := dk_seg dksL_law_6 24 rfl rfl
theorem dksL_law_8 : cL_law.data.toList.drop 189 = dktL_law_8 := dk_seg dksL_law_7 24 rfl rfl
theorem dksL_law_9 : cL_law.data.toList.drop 213 = dktL_law_9 := dk_seg dksL_law_8 24 rfl rfl
theorem dksL_law_10 : cL_law.data.toList.drop 237 = dktL_law_10 := dk_seg dksL_law_9 24 rfl rfl
theorem dksL_law_11 : cL_law.data.toList.drop 261 = dktL_law_11 := dk_seg dksL_law_10 24 rfl rfl
theorem dksL_law_12 : cL_law.data.toList.drop 285 = dktL_law_12 := dk_seg dksL_law_11 24 rfl rfl
theorem dksL_law_13 : cL_law.data.toList.drop 309 = dktL_law_13 := dk_seg dksL_law_12 24 rfl rfl
theorem dksL_law_14 : cL_law.data.toList.drop 332 = dktL_law_14 := dk_seg dksL_law_13 23 rfl rfl
theorem dksL_law_15 : cL_law.data.toList.drop 356 = dktL_law_15 := dk_seg dksL_law_14 24 rfl rfl
theorem dksL_law_16 : cL_law.data.toList.drop 379 = dktL_law_16 := dk_seg dksL_law_15 23 rfl rfl
theorem dksL_law_17 : cL_law.data.toList.drop 401 = dktL_law_17 := dk_seg dksL_law_16 22 rfl rfl
theorem dksL_law_18 : cL_law.data.toList.drop 424 = dktL_law_18 := dk_seg dksL_law_17 23 rfl rfl
theorem dksL_law_19 : cL_law.data.toList.drop 448 = dktL_law_19 := dk_seg dksL_law_18 24 rfl rfl
theorem dksL_law_20 : cL_law.data.toList.drop 471 = dktL_law_20 := dk_seg dksL_law_19 23 rfl rfl
theorem dksL_law_21 : cL_law.data.toList.drop 494 = dktL_law_21 := dk_seg dksL_law_20 23 rfl rfl
theorem dksL_law_22 : cL_law.data.toList.drop 518 = dktL_law_22 := dk_seg dksL_law_21 24 rfl rfl
theorem dksL_law_23 : cL_law.data.toList.drop 541 = dktL_law_23 := dk_seg dksL_law_22 23 rfl rfl
theorem dksL_law_24 : cL_law.data.toList.drop 565 = dktL_law_24 := dk_seg dksL_law_23 24 rfl rfl
theorem dksL_law_25 : cL_law.data.toList.drop 587 = dktL_law_25 := dk_seg dksL_law_24 22 rfl rfl
theorem dksL_law_26 : cL_law.data.toList.drop 611 = dktL_law_26 := dk_seg dksL_law_25 24 rfl rfl
theorem dL_law_0 : decode cL_law 0 = .ok (.new 11, 3) := dk_187 0 11 (dk_at dksL_law_0 0 rfl rfl)
theorem dL_law_3 : decode cL_law 3 = .ok (.dup, 1) := dk_89 (dk_at dksL_law_0 3 rfl rfl)
theorem dL_law_4 : decode cL_law 4 = .ok (.invokespecial 29, 3) := dk_183 0 29 (dk_at dksL_law_0 4 rfl rfl)
theorem dL_law_7 : decode cL_law 7 = .ok (.astore_n 1, 1) := dk_76 (dk_at dksL_law_0 7 rfl rfl)
theorem dL_law_8 : decode cL_law 8 = .ok (.bipush 48, 2) := dk_16 48 (dk_at dksL_law_0 8 rfl rfl)
theorem dL_law_10 : decode cL_law 10 = .ok (.newarray .short, 2) := dk_188_9 (dk_at dksL_law_0 10 rfl rfl)
theorem dL_law_12 : decode cL_law 12 = .ok (.astore_n 2, 1) := dk_77 (dk_at dksL_law_0 12 rfl rfl)
theorem dL_law_13 : decode cL_law 13 = .ok (.aload_n 1, 1) := dk_43 (dk_at dksL_law_0 13 rfl rfl)
theorem dL_law_14 : decode cL_law 14 = .ok (.aload_n 2, 1) := dk_44 (dk_at dksL_law_0 14 rfl rfl)
theorem dL_law_15 : decode cL_law 15 = .ok (.aload_n 0, 1) := dk_42 (dk_at dksL_law_0 15 rfl rfl)
theorem dL_law_16 : decode cL_law 16 = .ok (.iconst 0, 1) := dk_3 (dk_at dksL_law_0 16 rfl rfl)
theorem dL_law_17 : decode cL_law 17 = .ok (.invokestatic 30, 3) := dk_184 0 30 (dk_at dksL_law_0 17 rfl rfl)
theorem dL_law_20 : decode cL_law 20 = .ok (.invokestatic 34, 3) := dk_184 0 34 (dk_at dksL_law_0 20 rfl rfl)
theorem dL_law_23 : decode cL_law 23 = .ok (.ifCond .ne 5, 3) := dk_154 0 5 (dk_at dksL_law_1 0 rfl rfl)
theorem dL_law_26 : decode cL_law 26 = .ok (.iconst 0, 1) := dk_3 (dk_at dksL_law_1 3 rfl rfl)
theorem dL_law_27 : decode cL_law 27 = .ok (.ireturn, 1) := dk_172 (dk_at dksL_law_1 4 rfl rfl)
theorem dL_law_28 : decode cL_law 28 = .ok (.iconst 0, 1) := dk_3 (dk_at dksL_law_1 5 rfl rfl)
theorem dL_law_29 : decode cL_law 29 = .ok (.istore_n 3, 1) := dk_62 (dk_at dksL_law_1 6 rfl rfl)
theorem dL_law_30 : decode cL_law 30 = .ok (.iload_n 3, 1) := dk_29 (dk_at dksL_law_1 7 rfl rfl)
theorem dL_law_31 : decode cL_law 31 = .ok (.bipush 48, 2) := dk_16 48 (dk_at dksL_law_1 8 rfl rfl)
theorem dL_law_33 : decode cL_law 33 = .ok (.if_icmp .ge 71, 3) := dk_162 0 71 (dk_at dksL_law_1 10 rfl rfl)
theorem dL_law_36 : decode cL_law 36 = .ok (.aload_n 0, 1) := dk_42 (dk_at dksL_law_1 13 rfl rfl)
theorem dL_law_37 : decode cL_law 37 = .ok (.iload_n 3, 1) := dk_29 (dk_at dksL_law_1 14 rfl rfl)
theorem dL_law_38 : decode cL_law 38 = .ok (.invokestatic 30, 3) := dk_184 0 30 (dk_at dksL_law_1 15 rfl rfl)
theorem dL_law_41 : decode cL_law 41 = .ok (.istore 4, 2) := dk_54 4 (dk_at dksL_law_1 18 rfl rfl)
theorem dL_law_43 : decode cL_law 43 = .ok (.aload_n 1, 1) := dk_43 (dk_at dksL_law_1 20 rfl rfl)
theorem dL_law_44 : decode cL_law 44 = .ok (.iload_n 3, 1) := dk_29 (dk_at dksL_law_1 21 rfl rfl)
theorem dL_law_45 : decode cL_law 45 = .ok (.iload 4, 2) := dk_21 4 (dk_at dksL_law_1 22 rfl rfl)
theorem dL_law_47 : decode cL_law 47 = .ok (.bipush 20, 2) := dk_16 20 (dk_at dksL_law_2 0 rfl rfl)
theorem dL_law_49 : decode cL_law 49 = .ok (.ishr, 1) := dk_122 (dk_at dksL_law_2 2 rfl rfl)
theorem dL_law_50 : decode cL_law 50 = .ok (.iconst 1, 1) := dk_4 (dk_at dksL_law_2 3 rfl rfl)
theorem dL_law_51 : decode cL_law 51 = .ok (.iand, 1) := dk_126 (dk_at dksL_law_2 4 rfl rfl)
theorem dL_law_52 : decode cL_law 52 = .ok (.ifCond .ne 8, 3) := dk_154 0 8 (dk_at dksL_law_2 5 rfl rfl)
theorem dL_law_55 : decode cL_law 55 = .ok (.iload 4, 2) := dk_21 4 (dk_at dksL_law_2 8 rfl rfl)
theorem dL_law_57 : decode cL_law 57 = .ok (.goto 11, 3) := dk_167 0 11 (dk_at dksL_law_2 10 rfl rfl)
theorem dL_law_60 : decode cL_law 60 = .ok (.iload 4, 2) := dk_21 4 (dk_at dksL_law_2 13 rfl rfl)
theorem dL_law_62 : decode cL_law 62 = .ok (.bipush 16, 2) := dk_16 16 (dk_at dksL_law_2 15 rfl rfl)
theorem dL_law_64 : decode cL_law 64 = .ok (.ishr, 1) := dk_122 (dk_at dksL_law_2 17 rfl rfl)
theorem dL_law_65 : decode cL_law 65 = .ok (.bipush 7, 2) := dk_16 7 (dk_at dksL_law_2 18 rfl rfl)
theorem dL_law_67 : decode cL_law 67 = .ok (.iand, 1) := dk_126 (dk_at dksL_law_2 20 rfl rfl)
theorem dL_law_68 : decode cL_law 68 = .ok (.invokevirtual 38, 3) := dk_182 0 38 (dk_at dksL_law_2 21 rfl rfl)
theorem dL_law_71 : decode cL_law 71 = .ok (.aload_n 2, 1) := dk_44 (dk_at dksL_law_3 0 rfl rfl)
theorem dL_law_72 : decode cL_law 72 = .ok (.iload_n 3, 1) := dk_29 (dk_at dksL_law_3 1 rfl rfl)
theorem dL_law_73 : decode cL_law 73 = .ok (.iload 4, 2) := dk_21 4 (dk_at dksL_law_3 2 rfl rfl)
theorem dL_law_75 : decode cL_law 75 = .ok (.bipush 20, 2) := dk_16 20 (dk_at dksL_law_3 4 rfl rfl)
theorem dL_law_77 : decode cL_law 77 = .ok (.ishr, 1) := dk_122 (dk_at dksL_law_3 6 rfl rfl)
theorem dL_law_78 : decode cL_law 78 = .ok (.iconst 1, 1) := dk_4 (dk_at dksL_law_3 7 rfl rfl)
theorem dL_law_79 : decode cL_law 79 = .ok (.iand, 1) := dk_126 (dk_at dksL_law_3 8 rfl rfl)
theorem dL_law_80 : decode cL_law 80 = .ok (.ifCond .ne 8, 3) := dk_154 0 8 (dk_at dksL_law_3 9 rfl rfl)
theorem dL_law_83 : decode cL_law 83 = .ok (.iload 4, 2) := dk_21 4 (dk_at dksL_law_3 12 rfl rfl)
theorem dL_law_85 : decode cL_law 85 = .ok (.goto 11, 3) := dk_167 0 11 (dk_at dksL_law_3 14 rfl rfl)
theorem dL_law_88 : decode cL_law 88 = .ok (.iload 4, 2) := dk_21 4 (dk_at dksL_law_3 17 rfl rfl)
theorem dL_law_90 : decode cL_law 90 = .ok (.bipush 16, 2) := dk_16 16 (dk_at dksL_law_3 19 rfl rfl)
theorem dL_law_92 : decode cL_law 92 = .ok (.ishr, 1) := dk_122 (dk_at dksL_law_3 21 rfl rfl)
theorem dL_law_93 : decode cL_law 93 = .ok (.bipush 7, 2) := dk_16 7 (dk_at dksL_law_3 22 rfl rfl)
theorem dL_law_95 : decode cL_law 95 = .ok (.iand, 1) := dk_126 (dk_at dksL_law_4 0 rfl rfl)
theorem dL_law_96 : decode cL_law 96 = .ok (.i2s, 1) := dk_147 (dk_at dksL_law_4 1 rfl rfl)
theorem dL_law_97 : decode cL_law 97 = .ok (.sastore, 1) := dk_86 (dk_at dksL_law_4 2 rfl rfl)
theorem dL_law_98 : decode cL_law 98 = .ok (.iinc 3 1, 3) := dk_132 3 1 (dk_at dksL_law_4 3 rfl rfl)
theorem dL_law_101 : decode cL_law 101 = .ok (.goto (-71), 3) := dk_167 255 185 (dk_at dksL_law_4 6 rfl rfl)
theorem dL_law_104 : decode cL_law 104 = .ok (.aload_n 1, 1) := dk_43 (dk_at dksL_law_4 9 rfl rfl)
theorem dL_law_105 : decode cL_law 105 = .ok (.aload_n 2, 1) := dk_44 (dk_at dksL_law_4 10 rfl rfl)
theorem dL_law_106 : decode cL_law 106 = .ok (.aload_n 0, 1) := dk_42 (dk_at dksL_law_4 11 rfl rfl)
theorem dL_law_107 : decode cL_law 107 = .ok (.iconst 1, 1) := dk_4 (dk_at dksL_law_4 12 rfl rfl)
theorem dL_law_108 : decode cL_law 108 = .ok (.invokestatic 30, 3) := dk_184 0 30 (dk_at dksL_law_4 13 rfl rfl)
theorem dL_law_111 : decode cL_law 111 = .ok (.invokestatic 34, 3) := dk_184 0 34 (dk_at dksL_law_4 16 rfl rfl)
theorem dL_law_114 : decode cL_law 114 = .ok (.ifCond .ne 5, 3) := dk_154 0 5 (dk_at dksL_law_4 19 rfl rfl)
theorem dL_law_117 : decode cL_law 117 = .ok (.iconst 0, 1) := dk_3 (dk_at dksL_law_4 22 rfl rfl)
theorem dL_law_118 : decode cL_law 118 = .ok (.ireturn, 1) := dk_172 (dk_at dksL_law_4 23 rfl rfl)
theorem dL_law_119 : decode cL_law 119 = .ok (.bipush 48, 2) := dk_16 48 (dk_at dksL_law_5 0 rfl rfl)
theorem dL_law_121 : decode cL_law 121 = .ok (.istore_n 3, 1) := dk_62 (dk_at dksL_law_5 2 rfl rfl)
theorem dL_law_122 : decode cL_law 122 = .ok (.iload_n 3, 1) := dk_29 (dk_at dksL_law_5 3 rfl rfl)
theorem dL_law_123 : decode cL_law 123 = .ok (.iconst 2, 1) := dk_5 (dk_at dksL_law_5 4 rfl rfl)
theorem dL_law_124 : decode cL_law 124 = .ok (.iadd, 1) := dk_96 (dk_at dksL_law_5 5 rfl rfl)
theorem dL_law_125 : decode cL_law 125 = .ok (.bipush 96, 2) := dk_16 96 (dk_at dksL_law_5 6 rfl rfl)
theorem dL_law_127 : decode cL_law 127 = .ok (.if_icmp .ge 255, 3) := dk_162 0 255 (dk_at dksL_law_5 8 rfl rfl)
theorem dL_law_130 : decode cL_law 130 = .ok (.aload_n 0, 1) := dk_42 (dk_at dksL_law_5 11 rfl rfl)
theorem dL_law_131 : decode cL_law 131 = .ok (.iload_n 3, 1) := dk_29 (dk_at dksL_law_5 12 rfl rfl)
theorem dL_law_132 : decode cL_law 132 = .ok (.invokestatic 30, 3) := dk_184 0 30 (dk_at dksL_law_5 13 rfl rfl)
theorem dL_law_135 : decode cL_law 135 = .ok (.istore 4, 2) := dk_54 4 (dk_at dksL_law_5 16 rfl rfl)
theorem dL_law_137 : decode cL_law 137 = .ok (.aload_n 0, 1) := dk_42 (dk_at dksL_law_5 18 rfl rfl)
theorem dL_law_138 : decode cL_law 138 = .ok (.iload_n 3, 1) := dk_29 (dk_at dksL_law_5 19 rfl rfl)
theorem dL_law_139 : decode cL_law 139 = .ok (.iconst 1, 1) := dk_4 (dk_at dksL_law_5 20 rfl rfl)
theorem dL_law_140 : decode cL_law 140 = .ok (.iadd, 1) := dk_96 (dk_at dksL_law_5 21 rfl rfl)
theorem dL_law_141 : decode cL_law 141 = .ok (.invokestatic 30, 3) := dk_184 0 30 (dk_at dksL_law_6 0 rfl rfl)
theorem dL_law_144 : decode cL_law 144 = .ok (.istore 5, 2) := dk_54 5 (dk_at dksL_law_6 3 rfl rfl)
theorem dL_law_146 : decode cL_law 146 = .ok (.aload_n 0, 1) := dk_42 (dk_at dksL_law_6 5 rfl rfl)
theorem dL_law_147 : decode cL_law 147 = .ok (.iload_n 3, 1) := dk_29 (dk_at dksL_law_6 6 rfl rfl)
theorem dL_law_148 : decode cL_law 148 = .ok (.iconst 2, 1) := dk_5 (dk_at dksL_law_6 7 rfl rfl)
theorem dL_law_149 : decode cL_law 149 = .ok (.iadd, 1) := dk_96 (dk_at dksL_law_6 8 rfl rfl)
theorem dL_law_150 : decode cL_law 150 = .ok (.invokestatic 30, 3) := dk_184 0 30 (dk_at dksL_law_6 9 rfl rfl)
theorem dL_law_153 : decode cL_law 153 = .ok (.istore 6, 2) := dk_54 6 (dk_at dksL_law_6 12 rfl rfl)
theorem dL_law_155 : decode cL_law 155 = .ok (.iload 5, 2) := dk_21 5 (dk_at dksL_law_6 14 rfl rfl)
theorem dL_law_157 : decode cL_law 157 = .ok (.invokestatic 16, 3) := dk_184 0 16 (dk_at dksL_law_6 16 rfl rfl)
theorem dL_law_160 : decode cL_law 160 = .ok (.bipush 49, 2) := dk_16 49 (dk_at dksL_law_6 19 rfl rfl)
theorem dL_law_162 : decode cL_law 162 = .ok (.irem, 1) := dk_112 (dk_at dksL_law_6 21 rfl rfl)
theorem dL_law_163 : decode cL_law 163 = .ok (.istore 7, 2) := dk_54 7 (dk_at dksL_law_6 22 rfl rfl)
theorem dL_law_165 : decode cL_law 165 = .ok (.iload 7, 2) := dk_21 7 (dk_at dksL_law_7 0 rfl rfl)
theorem dL_law_167 : decode cL_law 167 = .ok (.iload 6, 2) := dk_21 6 (dk_at dksL_law_7 2 rfl rfl)
theorem dL_law_169 : decode cL_law 169 = .ok (.invokestatic 16, 3) := dk_184 0 16 (dk_at dksL_law_7 4 rfl rfl)
theorem dL_law_172 : decode cL_law 172 = .ok (.bipush 49, 2) := dk_16 49 (dk_at dksL_law_7 7 rfl rfl)
theorem dL_law_174 : decode cL_law 174 = .ok (.iload 7, 2) := dk_21 7 (dk_at dksL_law_7 9 rfl rfl)
theorem dL_law_176 : decode cL_law 176 = .ok (.isub, 1) := dk_100 (dk_at dksL_law_7 11 rfl rfl)
theorem dL_law_177 : decode cL_law 177 = .ok (.irem, 1) := dk_112 (dk_at dksL_law_7 12 rfl rfl)
theorem dL_law_178 : decode cL_law 178 = .ok (.iadd, 1) := dk_96 (dk_at dksL_law_7 13 rfl rfl)
theorem dL_law_179 : decode cL_law 179 = .ok (.istore 8, 2) := dk_54 8 (dk_at dksL_law_7 14 rfl rfl)
theorem dL_law_181 : decode cL_law 181 = .ok (.iload 4, 2) := dk_21 4 (dk_at dksL_law_7 16 rfl rfl)
theorem dL_law_183 : decode cL_law 183 = .ok (.invokestatic 16, 3) := dk_184 0 16 (dk_at dksL_law_7 18 rfl rfl)
theorem dL_law_186 : decode cL_law 186 = .ok (.bipush 8, 2) := dk_16 8 (dk_at dksL_law_7 21 rfl rfl)
theorem dL_law_188 : decode cL_law 188 = .ok (.irem, 1) := dk_112 (dk_at dksL_law_7 23 rfl rfl)
theorem dL_law_189 : decode cL_law 189 = .ok (.istore 9, 2) := dk_54 9 (dk_at dksL_law_8 0 rfl rfl)
theorem dL_law_191 : decode cL_law 191 = .ok (.iload 9, 2) := dk_21 9 (dk_at dksL_law_8 2 rfl rfl)
theorem dL_law_193 : decode cL_law 193 = .ok (.bipush 6, 2) := dk_16 6 (dk_at dksL_law_8 4 rfl rfl)
theorem dL_law_195 : decode cL_law 195 = .ok (.if_icmp .ge 26, 3) := dk_162 0 26 (dk_at dksL_law_8 6 rfl rfl)
theorem dL_law_198 : decode cL_law 198 = .ok (.aload_n 1, 1) := dk_43 (dk_at dksL_law_8 9 rfl rfl)
theorem dL_law_199 : decode cL_law 199 = .ok (.iload 9, 2) := dk_21 9 (dk_at dksL_law_8 10 rfl rfl)
theorem dL_law_201 : decode cL_law 201 = .ok (.iconst 3, 1) := dk_6 (dk_at dksL_law_8 12 rfl rfl)
theorem dL_law_202 : decode cL_law 202 = .ok (.irem, 1) := dk_112 (dk_at dksL_law_8 13 rfl rfl)
theorem dL_law_203 : decode cL_law 203 = .ok (.iload 5, 2) := dk_21 5 (dk_at dksL_law_8 14 rfl rfl)
theorem dL_law_205 : decode cL_law 205 = .ok (.iload 6, 2) := dk_21 6 (dk_at dksL_law_8 16 rfl rfl)
theorem dL_law_207 : decode cL_law 207 = .ok (.invokestatic 41, 3) := dk_184 0 41 (dk_at dksL_law_8 18 rfl rfl)
theorem dL_law_210 : decode cL_law 210 = .ok (.aload_n 2, 1) := dk_44 (dk_at dksL_law_8 21 rfl rfl)
theorem dL_law_211 : decode cL_law 211 = .ok (.iload 7, 2) := dk_21 7 (dk_at dksL_law_8 22 rfl rfl)
theorem dL_law_213 : decode cL_law 213 = .ok (.iload 8, 2) := dk_21 8 (dk_at dksL_law_9 0 rfl rfl)
theorem dL_law_215 : decode cL_law 215 = .ok (.invokestatic 45, 3) := dk_184 0 45 (dk_at dksL_law_9 2 rfl rfl)
theorem dL_law_218 : decode cL_law 218 = .ok (.goto 50, 3) := dk_167 0 50 (dk_at dksL_law_9 5 rfl rfl)
theorem dL_law_221 : decode cL_law 221 = .ok (.iload 9, 2) := dk_21 9 (dk_at dksL_law_9 8 rfl rfl)
theorem dL_law_223 : decode cL_law 223 = .ok (.bipush 6, 2) := dk_16 6 (dk_at dksL_law_9 10 rfl rfl)
theorem dL_law_225 : decode cL_law 225 = .ok (.if_icmp .ne 22, 3) := dk_160 0 22 (dk_at dksL_law_9 12 rfl rfl)
theorem dL_law_228 : decode cL_law 228 = .ok (.aload_n 1, 1) := dk_43 (dk_at dksL_law_9 15 rfl rfl)
theorem dL_law_229 : decode cL_law 229 = .ok (.iload 5, 2) := dk_21 5 (dk_at dksL_law_9 16 rfl rfl)
theorem dL_law_231 : decode cL_law 231 = .ok (.iload 6, 2) := dk_21 6 (dk_at dksL_law_9 18 rfl rfl)
theorem dL_law_233 : decode cL_law 233 = .ok (.invokevirtual 49, 3) := dk_182 0 49 (dk_at dksL_law_9 20 rfl rfl)
theorem dL_law_236 : decode cL_law 236 = .ok (.aload_n 2, 1) := dk_44 (dk_at dksL_law_9 23 rfl rfl)
theorem dL_law_237 : decode cL_law 237 = .ok (.iload 7, 2) := dk_21 7 (dk_at dksL_law_10 0 rfl rfl)
theorem dL_law_239 : decode cL_law 239 = .ok (.iload 8, 2) := dk_21 8 (dk_at dksL_law_10 2 rfl rfl)
theorem dL_law_241 : decode cL_law 241 = .ok (.invokestatic 52, 3) := dk_184 0 52 (dk_at dksL_law_10 4 rfl rfl)
theorem dL_law_244 : decode cL_law 244 = .ok (.goto 24, 3) := dk_167 0 24 (dk_at dksL_law_10 7 rfl rfl)
theorem dL_law_247 : decode cL_law 247 = .ok (.aload_n 1, 1) := dk_43 (dk_at dksL_law_10 10 rfl rfl)
theorem dL_law_248 : decode cL_law 248 = .ok (.iload 5, 2) := dk_21 5 (dk_at dksL_law_10 11 rfl rfl)
theorem dL_law_250 : decode cL_law 250 = .ok (.iload 6, 2) := dk_21 6 (dk_at dksL_law_10 13 rfl rfl)
theorem dL_law_252 : decode cL_law 252 = .ok (.invokevirtual 38, 3) := dk_182 0 38 (dk_at dksL_law_10 15 rfl rfl)
theorem dL_law_255 : decode cL_law 255 = .ok (.aload_n 2, 1) := dk_44 (dk_at dksL_law_10 18 rfl rfl)
theorem dL_law_256 : decode cL_law 256 = .ok (.iload 5, 2) := dk_21 5 (dk_at dksL_law_10 19 rfl rfl)
theorem dL_law_258 : decode cL_law 258 = .ok (.invokestatic 16, 3) := dk_184 0 16 (dk_at dksL_law_10 21 rfl rfl)
theorem dL_law_261 : decode cL_law 261 = .ok (.bipush 48, 2) := dk_16 48 (dk_at dksL_law_11 0 rfl rfl)
theorem dL_law_263 : decode cL_law 263 = .ok (.irem, 1) := dk_112 (dk_at dksL_law_11 2 rfl rfl)
theorem dL_law_264 : decode cL_law 264 = .ok (.iload 6, 2) := dk_21 6 (dk_at dksL_law_11 3 rfl rfl)
theorem dL_law_266 : decode cL_law 266 = .ok (.i2s, 1) := dk_147 (dk_at dksL_law_11 5 rfl rfl)
theorem dL_law_267 : decode cL_law 267 = .ok (.sastore, 1) := dk_86 (dk_at dksL_law_11 6 rfl rfl)
theorem dL_law_268 : decode cL_law 268 = .ok (.aload_n 1, 1) := dk_43 (dk_at dksL_law_11 7 rfl rfl)
theorem dL_law_269 : decode cL_law 269 = .ok (.aload_n 2, 1) := dk_44 (dk_at dksL_law_11 8 rfl rfl)
theorem dL_law_270 : decode cL_law 270 = .ok (.iload 4, 2) := dk_21 4 (dk_at dksL_law_11 9 rfl rfl)
theorem dL_law_272 : decode cL_law 272 = .ok (.invokestatic 34, 3) := dk_184 0 34 (dk_at dksL_law_11 11 rfl rfl)
theorem dL_law_275 : decode cL_law 275 = .ok (.ifCond .eq 53, 3) := dk_153 0 53 (dk_at dksL_law_11 14 rfl rfl)
theorem dL_law_278 : decode cL_law 278 = .ok (.aload_n 1, 1) := dk_43 (dk_at dksL_law_11 17 rfl rfl)
theorem dL_law_279 : decode cL_law 279 = .ok (.iload 5, 2) := dk_21 5 (dk_at dksL_law_11 18 rfl rfl)
theorem dL_law_281 : decode cL_law 281 = .ok (.iload 6, 2) := dk_21 6 (dk_at dksL_law_11 20 rfl rfl)
theorem dL_law_283 : decode cL_law 283 = .ok (.iload 4, 2) := dk_21 4 (dk_at dksL_law_11 22 rfl rfl)
theorem dL_law_285 : decode cL_law 285 = .ok (.bipush 8, 2) := dk_16 8 (dk_at dksL_law_12 0 rfl rfl)
theorem dL_law_287 : decode cL_law 287 = .ok (.ishr, 1) := dk_122 (dk_at dksL_law_12 2 rfl rfl)
theorem dL_law_288 : decode cL_law 288 = .ok (.invokevirtual 55, 3) := dk_182 0 55 (dk_at dksL_law_12 3 rfl rfl)
theorem dL_law_291 : decode cL_law 291 = .ok (.aload_n 2, 1) := dk_44 (dk_at dksL_law_12 6 rfl rfl)
theorem dL_law_292 : decode cL_law 292 = .ok (.iload 7, 2) := dk_21 7 (dk_at dksL_law_12 7 rfl rfl)
theorem dL_law_294 : decode cL_law 294 = .ok (.iload 8, 2) := dk_21 8 (dk_at dksL_law_12 9 rfl rfl)
theorem dL_law_296 : decode cL_law 296 = .ok (.iload 4, 2) := dk_21 4 (dk_at dksL_law_12 11 rfl rfl)
theorem dL_law_298 : decode cL_law 298 = .ok (.bipush 8, 2) := dk_16 8 (dk_at dksL_law_12 13 rfl rfl)
theorem dL_law_300 : decode cL_law 300 = .ok (.ishr, 1) := dk_122 (dk_at dksL_law_12 15 rfl rfl)
theorem dL_law_301 : decode cL_law 301 = .ok (.invokestatic 59, 3) := dk_184 0 59 (dk_at dksL_law_12 16 rfl rfl)
theorem dL_law_304 : decode cL_law 304 = .ok (.if_icmp .ne 24, 3) := dk_160 0 24 (dk_at dksL_law_12 19 rfl rfl)
theorem dL_law_307 : decode cL_law 307 = .ok (.aload_n 1, 1) := dk_43 (dk_at dksL_law_12 22 rfl rfl)
theorem dL_law_308 : decode cL_law 308 = .ok (.iconst 0, 1) := dk_3 (dk_at dksL_law_12 23 rfl rfl)
theorem dL_law_309 : decode cL_law 309 = .ok (.bipush 48, 2) := dk_16 48 (dk_at dksL_law_13 0 rfl rfl)
theorem dL_law_311 : decode cL_law 311 = .ok (.iload 4, 2) := dk_21 4 (dk_at dksL_law_13 2 rfl rfl)
theorem dL_law_313 : decode cL_law 313 = .ok (.invokevirtual 55, 3) := dk_182 0 55 (dk_at dksL_law_13 4 rfl rfl)
theorem dL_law_316 : decode cL_law 316 = .ok (.aload_n 2, 1) := dk_44 (dk_at dksL_law_13 7 rfl rfl)
theorem dL_law_317 : decode cL_law 317 = .ok (.iconst 0, 1) := dk_3 (dk_at dksL_law_13 8 rfl rfl)
theorem dL_law_318 : decode cL_law 318 = .ok (.bipush 48, 2) := dk_16 48 (dk_at dksL_law_13 9 rfl rfl)
theorem dL_law_320 : decode cL_law 320 = .ok (.iload 4, 2) := dk_21 4 (dk_at dksL_law_13 11 rfl rfl)
theorem dL_law_322 : decode cL_law 322 = .ok (.invokestatic 59, 3) := dk_184 0 59 (dk_at dksL_law_13 13 rfl rfl)
theorem dL_law_325 : decode cL_law 325 = .ok (.if_icmp .eq 5, 3) := dk_159 0 5 (dk_at dksL_law_13 16 rfl rfl)
theorem dL_law_328 : decode cL_law 328 = .ok (.iconst 0, 1) := dk_3 (dk_at dksL_law_13 19 rfl rfl)
theorem dL_law_329 : decode cL_law 329 = .ok (.ireturn, 1) := dk_172 (dk_at dksL_law_13 20 rfl rfl)
theorem dL_law_330 : decode cL_law 330 = .ok (.iload 7, 2) := dk_21 7 (dk_at dksL_law_13 21 rfl rfl)
theorem dL_law_332 : decode cL_law 332 = .ok (.istore 10, 2) := dk_54 10 (dk_at dksL_law_14 0 rfl rfl)
theorem dL_law_334 : decode cL_law 334 = .ok (.iload 10, 2) := dk_21 10 (dk_at dksL_law_14 2 rfl rfl)
theorem dL_law_336 : decode cL_law 336 = .ok (.iload 8, 2) := dk_21 8 (dk_at dksL_law_14 4 rfl rfl)
theorem dL_law_338 : decode cL_law 338 = .ok (.if_icmp .ge 38, 3) := dk_162 0 38 (dk_at dksL_law_14 6 rfl rfl)
theorem dL_law_341 : decode cL_law 341 = .ok (.aload_n 1, 1) := dk_43 (dk_at dksL_law_14 9 rfl rfl)
theorem dL_law_342 : decode cL_law 342 = .ok (.iload 5, 2) := dk_21 5 (dk_at dksL_law_14 10 rfl rfl)
theorem dL_law_344 : decode cL_law 344 = .ok (.iload 6, 2) := dk_21 6 (dk_at dksL_law_14 12 rfl rfl)
theorem dL_law_346 : decode cL_law 346 = .ok (.aload_n 2, 1) := dk_44 (dk_at dksL_law_14 14 rfl rfl)
theorem dL_law_347 : decode cL_law 347 = .ok (.iload 10, 2) := dk_21 10 (dk_at dksL_law_14 15 rfl rfl)
theorem dL_law_349 : decode cL_law 349 = .ok (.saload, 1) := dk_53 (dk_at dksL_law_14 17 rfl rfl)
theorem dL_law_350 : decode cL_law 350 = .ok (.invokevirtual 55, 3) := dk_182 0 55 (dk_at dksL_law_14 18 rfl rfl)
theorem dL_law_353 : decode cL_law 353 = .ok (.aload_n 2, 1) := dk_44 (dk_at dksL_law_14 21 rfl rfl)
theorem dL_law_354 : decode cL_law 354 = .ok (.iload 7, 2) := dk_21 7 (dk_at dksL_law_14 22 rfl rfl)
theorem dL_law_356 : decode cL_law 356 = .ok (.iload 8, 2) := dk_21 8 (dk_at dksL_law_15 0 rfl rfl)
theorem dL_law_358 : decode cL_law 358 = .ok (.aload_n 2, 1) := dk_44 (dk_at dksL_law_15 2 rfl rfl)
theorem dL_law_359 : decode cL_law 359 = .ok (.iload 10, 2) := dk_21 10 (dk_at dksL_law_15 3 rfl rfl)
theorem dL_law_361 : decode cL_law 361 = .ok (.saload, 1) := dk_53 (dk_at dksL_law_15 5 rfl rfl)
theorem dL_law_362 : decode cL_law 362 = .ok (.invokestatic 59, 3) := dk_184 0 59 (dk_at dksL_law_15 6 rfl rfl)
theorem dL_law_365 : decode cL_law 365 = .ok (.if_icmp .eq 5, 3) := dk_159 0 5 (dk_at dksL_law_15 9 rfl rfl)
theorem dL_law_368 : decode cL_law 368 = .ok (.iconst 0, 1) := dk_3 (dk_at dksL_law_15 12 rfl rfl)
theorem dL_law_369 : decode cL_law 369 = .ok (.ireturn, 1) := dk_172 (dk_at dksL_law_15 13 rfl rfl)
theorem dL_law_370 : decode cL_law 370 = .ok (.iinc 10 1, 3) := dk_132 10 1 (dk_at dksL_law_15 14 rfl rfl)
theorem dL_law_373 : decode cL_law 373 = .ok (.goto (-39), 3) := dk_167 255 217 (dk_at dksL_law_15 17 rfl rfl)
theorem dL_law_376 : decode cL_law 376 = .ok (.iinc 3 3, 3) := dk_132 3 3 (dk_at dksL_law_15 20 rfl rfl)
theorem dL_law_379 : decode cL_law 379 = .ok (.goto (-257), 3) := dk_167 254 255 (dk_at dksL_law_16 0 rfl rfl)
theorem dL_law_382 : decode cL_law 382 = .ok (.iconst 0, 1) := dk_3 (dk_at dksL_law_16 3 rfl rfl)
theorem dL_law_383 : decode cL_law 383 = .ok (.istore_n 3, 1) := dk_62 (dk_at dksL_law_16 4 rfl rfl)
theorem dL_law_384 : decode cL_law 384 = .ok (.iload_n 3, 1) := dk_29 (dk_at dksL_law_16 5 rfl rfl)
theorem dL_law_385 : decode cL_law 385 = .ok (.iconst 3, 1) := dk_6 (dk_at dksL_law_16 6 rfl rfl)
theorem dL_law_386 : decode cL_law 386 = .ok (.if_icmp .ge 60, 3) := dk_162 0 60 (dk_at dksL_law_16 7 rfl rfl)
theorem dL_law_389 : decode cL_law 389 = .ok (.aload_n 1, 1) := dk_43 (dk_at dksL_law_16 10 rfl rfl)
theorem dL_law_390 : decode cL_law 390 = .ok (.iload_n 3, 1) := dk_29 (dk_at dksL_law_16 11 rfl rfl)
theorem dL_law_391 : decode cL_law 391 = .ok (.iconst 0, 1) := dk_3 (dk_at dksL_law_16 12 rfl rfl)
theorem dL_law_392 : decode cL_law 392 = .ok (.bipush 48, 2) := dk_16 48 (dk_at dksL_law_16 13 rfl rfl)
theorem dL_law_394 : decode cL_law 394 = .ok (.invokestatic 41, 3) := dk_184 0 41 (dk_at dksL_law_16 15 rfl rfl)
theorem dL_law_397 : decode cL_law 397 = .ok (.aload_n 2, 1) := dk_44 (dk_at dksL_law_16 18 rfl rfl)
theorem dL_law_398 : decode cL_law 398 = .ok (.iconst 0, 1) := dk_3 (dk_at dksL_law_16 19 rfl rfl)
theorem dL_law_399 : decode cL_law 399 = .ok (.bipush 48, 2) := dk_16 48 (dk_at dksL_law_16 20 rfl rfl)
theorem dL_law_401 : decode cL_law 401 = .ok (.invokestatic 45, 3) := dk_184 0 45 (dk_at dksL_law_17 0 rfl rfl)
theorem dL_law_404 : decode cL_law 404 = .ok (.aload_n 1, 1) := dk_43 (dk_at dksL_law_17 3 rfl rfl)
theorem dL_law_405 : decode cL_law 405 = .ok (.aload_n 2, 1) := dk_44 (dk_at dksL_law_17 4 rfl rfl)
theorem dL_law_406 : decode cL_law 406 = .ok (.iload_n 3, 1) := dk_29 (dk_at dksL_law_17 5 rfl rfl)
theorem dL_law_407 : decode cL_law 407 = .ok (.invokestatic 34, 3) := dk_184 0 34 (dk_at dksL_law_17 6 rfl rfl)
theorem dL_law_410 : decode cL_law 410 = .ok (.ifCond .ne 5, 3) := dk_154 0 5 (dk_at dksL_law_17 9 rfl rfl)
theorem dL_law_413 : decode cL_law 413 = .ok (.iconst 0, 1) := dk_3 (dk_at dksL_law_17 12 rfl rfl)
theorem dL_law_414 : decode cL_law 414 = .ok (.ireturn, 1) := dk_172 (dk_at dksL_law_17 13 rfl rfl)
theorem dL_law_415 : decode cL_law 415 = .ok (.aload_n 1, 1) := dk_43 (dk_at dksL_law_17 14 rfl rfl)
theorem dL_law_416 : decode cL_law 416 = .ok (.iconst 0, 1) := dk_3 (dk_at dksL_law_17 15 rfl rfl)
theorem dL_law_417 : decode cL_law 417 = .ok (.bipush 48, 2) := dk_16 48 (dk_at dksL_law_17 16 rfl rfl)
theorem dL_law_419 : decode cL_law 419 = .ok (.invokevirtual 49, 3) := dk_182 0 49 (dk_at dksL_law_17 18 rfl rfl)
theorem dL_law_422 : decode cL_law 422 = .ok (.aload_n 2, 1) := dk_44 (dk_at dksL_law_17 21 rfl rfl)
theorem dL_law_423 : decode cL_law 423 = .ok (.iconst 0, 1) := dk_3 (dk_at dksL_law_17 22 rfl rfl)
theorem dL_law_424 : decode cL_law 424 = .ok (.bipush 48, 2) := dk_16 48 (dk_at dksL_law_18 0 rfl rfl)
theorem dL_law_426 : decode cL_law 426 = .ok (.invokestatic 52, 3) := dk_184 0 52 (dk_at dksL_law_18 2 rfl rfl)
theorem dL_law_429 : decode cL_law 429 = .ok (.aload_n 1, 1) := dk_43 (dk_at dksL_law_18 5 rfl rfl)
theorem dL_law_430 : decode cL_law 430 = .ok (.aload_n 2, 1) := dk_44 (dk_at dksL_law_18 6 rfl rfl)
theorem dL_law_431 : decode cL_law 431 = .ok (.iload_n 3, 1) := dk_29 (dk_at dksL_law_18 7 rfl rfl)
theorem dL_law_432 : decode cL_law 432 = .ok (.invokestatic 34, 3) := dk_184 0 34 (dk_at dksL_law_18 8 rfl rfl)
theorem dL_law_435 : decode cL_law 435 = .ok (.ifCond .ne 5, 3) := dk_154 0 5 (dk_at dksL_law_18 11 rfl rfl)
theorem dL_law_438 : decode cL_law 438 = .ok (.iconst 0, 1) := dk_3 (dk_at dksL_law_18 14 rfl rfl)
theorem dL_law_439 : decode cL_law 439 = .ok (.ireturn, 1) := dk_172 (dk_at dksL_law_18 15 rfl rfl)
theorem dL_law_440 : decode cL_law 440 = .ok (.iinc 3 1, 3) := dk_132 3 1 (dk_at dksL_law_18 16 rfl rfl)
theorem dL_law_443 : decode cL_law 443 = .ok (.goto (-59), 3) := dk_167 255 197 (dk_at dksL_law_18 19 rfl rfl)
theorem dL_law_446 : decode cL_law 446 = .ok (.iconst 0, 1) := dk_3 (dk_at dksL_law_18 22 rfl rfl)
theorem dL_law_447 : decode cL_law 447 = .ok (.istore_n 3, 1) := dk_62 (dk_at dksL_law_18 23 rfl rfl)
theorem dL_law_448 : decode cL_law 448 = .ok (.iload_n 3, 1) := dk_29 (dk_at dksL_law_19 0 rfl rfl)
theorem dL_law_449 : decode cL_law 449 = .ok (.bipush 48, 2) := dk_16 48 (dk_at dksL_law_19 1 rfl rfl)
theorem dL_law_451 : decode cL_law 451 = .ok (.if_icmp .ge 29, 3) := dk_162 0 29 (dk_at dksL_law_19 3 rfl rfl)
theorem dL_law_454 : decode cL_law 454 = .ok (.aload_n 1, 1) := dk_43 (dk_at dksL_law_19 6 rfl rfl)
theorem dL_law_455 : decode cL_law 455 = .ok (.bipush 7, 2) := dk_16 7 (dk_at dksL_law_19 7 rfl rfl)
theorem dL_law_457 : decode cL_law 457 = .ok (.iload_n 3, 1) := dk_29 (dk_at dksL_law_19 9 rfl rfl)
theorem dL_law_458 : decode cL_law 458 = .ok (.imul, 1) := dk_104 (dk_at dksL_law_19 10 rfl rfl)
theorem dL_law_459 : decode cL_law 459 = .ok (.bipush 48, 2) := dk_16 48 (dk_at dksL_law_19 11 rfl rfl)
theorem dL_law_461 : decode cL_law 461 = .ok (.irem, 1) := dk_112 (dk_at dksL_law_19 13 rfl rfl)
theorem dL_law_462 : decode cL_law 462 = .ok (.sipush 1000, 3) := dk_17 3 232 (dk_at dksL_law_19 14 rfl rfl)
theorem dL_law_465 : decode cL_law 465 = .ok (.iload_n 3, 1) := dk_29 (dk_at dksL_law_19 17 rfl rfl)
theorem dL_law_466 : decode cL_law 466 = .ok (.imul, 1) := dk_104 (dk_at dksL_law_19 18 rfl rfl)
theorem dL_law_467 : decode cL_law 467 = .ok (.sipush 23000, 3) := dk_17 89 216 (dk_at dksL_law_19 19 rfl rfl)
theorem dL_law_470 : decode cL_law 470 = .ok (.isub, 1) := dk_100 (dk_at dksL_law_19 22 rfl rfl)
theorem dL_law_471 : decode cL_law 471 = .ok (.invokevirtual 38, 3) := dk_182 0 38 (dk_at dksL_law_20 0 rfl rfl)
theorem dL_law_474 : decode cL_law 474 = .ok (.iinc 3 1, 3) := dk_132 3 1 (dk_at dksL_law_20 3 rfl rfl)
theorem dL_law_477 : decode cL_law 477 = .ok (.goto (-29), 3) := dk_167 255 227 (dk_at dksL_law_20 6 rfl rfl)
theorem dL_law_480 : decode cL_law 480 = .ok (.aload_n 1, 1) := dk_43 (dk_at dksL_law_20 9 rfl rfl)
theorem dL_law_481 : decode cL_law 481 = .ok (.aload_n 0, 1) := dk_42 (dk_at dksL_law_20 10 rfl rfl)
theorem dL_law_482 : decode cL_law 482 = .ok (.iconst 2, 1) := dk_5 (dk_at dksL_law_20 11 rfl rfl)
theorem dL_law_483 : decode cL_law 483 = .ok (.invokestatic 30, 3) := dk_184 0 30 (dk_at dksL_law_20 12 rfl rfl)
theorem dL_law_486 : decode cL_law 486 = .ok (.invokestatic 16, 3) := dk_184 0 16 (dk_at dksL_law_20 15 rfl rfl)
theorem dL_law_489 : decode cL_law 489 = .ok (.iconst 3, 1) := dk_6 (dk_at dksL_law_20 18 rfl rfl)
theorem dL_law_490 : decode cL_law 490 = .ok (.irem, 1) := dk_112 (dk_at dksL_law_20 19 rfl rfl)
theorem dL_law_491 : decode cL_law 491 = .ok (.iconst 0, 1) := dk_3 (dk_at dksL_law_20 20 rfl rfl)
theorem dL_law_492 : decode cL_law 492 = .ok (.bipush 48, 2) := dk_16 48 (dk_at dksL_law_20 21 rfl rfl)
theorem dL_law_494 : decode cL_law 494 = .ok (.invokestatic 41, 3) := dk_184 0 41 (dk_at dksL_law_21 0 rfl rfl)
theorem dL_law_497 : decode cL_law 497 = .ok (.iconst 0, 1) := dk_3 (dk_at dksL_law_21 3 rfl rfl)
theorem dL_law_498 : decode cL_law 498 = .ok (.istore_n 3, 1) := dk_62 (dk_at dksL_law_21 4 rfl rfl)
theorem dL_law_499 : decode cL_law 499 = .ok (.iload_n 3, 1) := dk_29 (dk_at dksL_law_21 5 rfl rfl)
theorem dL_law_500 : decode cL_law 500 = .ok (.bipush 48, 2) := dk_16 48 (dk_at dksL_law_21 6 rfl rfl)
theorem dL_law_502 : decode cL_law 502 = .ok (.if_icmp .ge 78, 3) := dk_162 0 78 (dk_at dksL_law_21 8 rfl rfl)
theorem dL_law_505 : decode cL_law 505 = .ok (.sipush 1000, 3) := dk_17 3 232 (dk_at dksL_law_21 11 rfl rfl)
theorem dL_law_508 : decode cL_law 508 = .ok (.iload_n 3, 1) := dk_29 (dk_at dksL_law_21 14 rfl rfl)
theorem dL_law_509 : decode cL_law 509 = .ok (.imul, 1) := dk_104 (dk_at dksL_law_21 15 rfl rfl)
theorem dL_law_510 : decode cL_law 510 = .ok (.sipush 23000, 3) := dk_17 89 216 (dk_at dksL_law_21 16 rfl rfl)
theorem dL_law_513 : decode cL_law 513 = .ok (.isub, 1) := dk_100 (dk_at dksL_law_21 19 rfl rfl)
theorem dL_law_514 : decode cL_law 514 = .ok (.istore 4, 2) := dk_54 4 (dk_at dksL_law_21 20 rfl rfl)
theorem dL_law_516 : decode cL_law 516 = .ok (.aload_n 1, 1) := dk_43 (dk_at dksL_law_21 22 rfl rfl)
theorem dL_law_517 : decode cL_law 517 = .ok (.iload_n 3, 1) := dk_29 (dk_at dksL_law_21 23 rfl rfl)
theorem dL_law_518 : decode cL_law 518 = .ok (.invokevirtual 10, 3) := dk_182 0 10 (dk_at dksL_law_22 0 rfl rfl)
theorem dL_law_521 : decode cL_law 521 = .ok (.iload 4, 2) := dk_21 4 (dk_at dksL_law_22 3 rfl rfl)
theorem dL_law_523 : decode cL_law 523 = .ok (.if_icmp .ne 49, 3) := dk_160 0 49 (dk_at dksL_law_22 5 rfl rfl)
theorem dL_law_526 : decode cL_law 526 = .ok (.aload_n 1, 1) := dk_43 (dk_at dksL_law_22 8 rfl rfl)
theorem dL_law_527 : decode cL_law 527 = .ok (.iconst 0, 1) := dk_3 (dk_at dksL_law_22 9 rfl rfl)
theorem dL_law_528 : decode cL_law 528 = .ok (.bipush 48, 2) := dk_16 48 (dk_at dksL_law_22 10 rfl rfl)
theorem dL_law_530 : decode cL_law 530 = .ok (.iload 4, 2) := dk_21 4 (dk_at dksL_law_22 12 rfl rfl)
theorem dL_law_532 : decode cL_law 532 = .ok (.invokevirtual 55, 3) := dk_182 0 55 (dk_at dksL_law_22 14 rfl rfl)
theorem dL_law_535 : decode cL_law 535 = .ok (.iload_n 3, 1) := dk_29 (dk_at dksL_law_22 17 rfl rfl)
theorem dL_law_536 : decode cL_law 536 = .ok (.if_icmp .ne 36, 3) := dk_160 0 36 (dk_at dksL_law_22 18 rfl rfl)
theorem dL_law_539 : decode cL_law 539 = .ok (.aload_n 1, 1) := dk_43 (dk_at dksL_law_22 21 rfl rfl)
theorem dL_law_540 : decode cL_law 540 = .ok (.iconst 0, 1) := dk_3 (dk_at dksL_law_22 22 rfl rfl)
theorem dL_law_541 : decode cL_law 541 = .ok (.bipush 48, 2) := dk_16 48 (dk_at dksL_law_23 0 rfl rfl)
theorem dL_law_543 : decode cL_law 543 = .ok (.iload 4, 2) := dk_21 4 (dk_at dksL_law_23 2 rfl rfl)
theorem dL_law_545 : decode cL_law 545 = .ok (.iconst 1, 1) := dk_4 (dk_at dksL_law_23 4 rfl rfl)
theorem dL_law_546 : decode cL_law 546 = .ok (.iadd, 1) := dk_96 (dk_at dksL_law_23 5 rfl rfl)
theorem dL_law_547 : decode cL_law 547 = .ok (.aload_n 0, 1) := dk_42 (dk_at dksL_law_23 6 rfl rfl)
theorem dL_law_548 : decode cL_law 548 = .ok (.iload_n 3, 1) := dk_29 (dk_at dksL_law_23 7 rfl rfl)
theorem dL_law_549 : decode cL_law 549 = .ok (.invokestatic 30, 3) := dk_184 0 30 (dk_at dksL_law_23 8 rfl rfl)
theorem dL_law_552 : decode cL_law 552 = .ok (.invokestatic 16, 3) := dk_184 0 16 (dk_at dksL_law_23 11 rfl rfl)
theorem dL_law_555 : decode cL_law 555 = .ok (.sipush 999, 3) := dk_17 3 231 (dk_at dksL_law_23 14 rfl rfl)
theorem dL_law_558 : decode cL_law 558 = .ok (.irem, 1) := dk_112 (dk_at dksL_law_23 17 rfl rfl)
theorem dL_law_559 : decode cL_law 559 = .ok (.iadd, 1) := dk_96 (dk_at dksL_law_23 18 rfl rfl)
theorem dL_law_560 : decode cL_law 560 = .ok (.invokevirtual 55, 3) := dk_182 0 55 (dk_at dksL_law_23 19 rfl rfl)
theorem dL_law_563 : decode cL_law 563 = .ok (.iload_n 3, 1) := dk_29 (dk_at dksL_law_23 22 rfl rfl)
theorem dL_law_564 : decode cL_law 564 = .ok (.iconst 1, 1) := dk_4 (dk_at dksL_law_23 23 rfl rfl)
theorem dL_law_565 : decode cL_law 565 = .ok (.iadd, 1) := dk_96 (dk_at dksL_law_24 0 rfl rfl)
theorem dL_law_566 : decode cL_law 566 = .ok (.ineg, 1) := dk_116 (dk_at dksL_law_24 1 rfl rfl)
theorem dL_law_567 : decode cL_law 567 = .ok (.iconst 1, 1) := dk_4 (dk_at dksL_law_24 2 rfl rfl)
theorem dL_law_568 : decode cL_law 568 = .ok (.isub, 1) := dk_100 (dk_at dksL_law_24 3 rfl rfl)
theorem dL_law_569 : decode cL_law 569 = .ok (.if_icmp .eq 5, 3) := dk_159 0 5 (dk_at dksL_law_24 4 rfl rfl)
theorem dL_law_572 : decode cL_law 572 = .ok (.iconst 0, 1) := dk_3 (dk_at dksL_law_24 7 rfl rfl)
theorem dL_law_573 : decode cL_law 573 = .ok (.ireturn, 1) := dk_172 (dk_at dksL_law_24 8 rfl rfl)
theorem dL_law_574 : decode cL_law 574 = .ok (.iinc 3 1, 3) := dk_132 3 1 (dk_at dksL_law_24 9 rfl rfl)
theorem dL_law_577 : decode cL_law 577 = .ok (.goto (-78), 3) := dk_167 255 178 (dk_at dksL_law_24 12 rfl rfl)
theorem dL_law_580 : decode cL_law 580 = .ok (.aload_n 1, 1) := dk_43 (dk_at dksL_law_24 15 rfl rfl)
theorem dL_law_581 : decode cL_law 581 = .ok (.iconst 0, 1) := dk_3 (dk_at dksL_law_24 16 rfl rfl)
theorem dL_law_582 : decode cL_law 582 = .ok (.bipush 48, 2) := dk_16 48 (dk_at dksL_law_24 17 rfl rfl)
theorem dL_law_584 : decode cL_law 584 = .ok (.sipush (-32768), 3) := dk_17 128 0 (dk_at dksL_law_24 19 rfl rfl)
theorem dL_law_587 : decode cL_law 587 = .ok (.invokevirtual 55, 3) := dk_182 0 55 (dk_at dksL_law_25 0 rfl rfl)
theorem dL_law_590 : decode cL_law 590 = .ok (.iconst (-1), 1) := dk_2 (dk_at dksL_law_25 3 rfl rfl)
theorem dL_law_591 : decode cL_law 591 = .ok (.if_icmp .ne 20, 3) := dk_160 0 20 (dk_at dksL_law_25 4 rfl rfl)
theorem dL_law_594 : decode cL_law 594 = .ok (.aload_n 1, 1) := dk_43 (dk_at dksL_law_25 7 rfl rfl)
theorem dL_law_595 : decode cL_law 595 = .ok (.bipush 48, 2) := dk_16 48 (dk_at dksL_law_25 8 rfl rfl)
theorem dL_law_597 : decode cL_law 597 = .ok (.iconst 0, 1) := dk_3 (dk_at dksL_law_25 10 rfl rfl)
theorem dL_law_598 : decode cL_law 598 = .ok (.iconst 5, 1) := dk_8 (dk_at dksL_law_25 11 rfl rfl)
theorem dL_law_599 : decode cL_law 599 = .ok (.invokevirtual 55, 3) := dk_182 0 55 (dk_at dksL_law_25 12 rfl rfl)
theorem dL_law_602 : decode cL_law 602 = .ok (.bipush (-49), 2) := dk_16 207 (dk_at dksL_law_25 15 rfl rfl)
theorem dL_law_604 : decode cL_law 604 = .ok (.if_icmp .ne 7, 3) := dk_160 0 7 (dk_at dksL_law_25 17 rfl rfl)
theorem dL_law_607 : decode cL_law 607 = .ok (.iconst 1, 1) := dk_4 (dk_at dksL_law_25 20 rfl rfl)
theorem dL_law_608 : decode cL_law 608 = .ok (.goto 4, 3) := dk_167 0 4 (dk_at dksL_law_25 21 rfl rfl)
theorem dL_law_611 : decode cL_law 611 = .ok (.iconst 0, 1) := dk_3 (dk_at dksL_law_26 0 rfl rfl)
theorem dL_law_612 : decode cL_law 612 = .ok (.ireturn, 1) := dk_172 (dk_at dksL_law_26 1 rfl rfl)
end
section
/-! plain facts, pasted from the kit's laws (COUNTS, NUMBERS): counts, signed ints, cuts, order, stretches -/
/-! ===== how many places have a property ===== -/
def fb_ct (p : Nat → Bool) : Nat → Nat
  | 0 => 0
  | n + 1 => fb_ct p n + (if p n then 1 else 0)
theorem fb_ct_succ (p : Nat → Bool) (n : Nat) : fb_ct p (n + 1) = fb_ct p n + (if p n then 1 else 0) := rfl
theorem fb_ct_le (p : Nat → Bool) : ∀ n, fb_ct p n ≤ n
  | 0 => Nat.le_refl _
  | n + 1 => by
    have h := fb_ct_le p n
    rw [fb_ct_succ]
    split <;> omega
theorem fb_ct_step (p : Nat → Bool) (m : Nat) : ∀ n, fb_ct p m ≤ fb_ct p (m + n)
  | 0 => Nat.le_refl _
  | n + 1 => by
    have h := fb_ct_step p m n
    show fb_ct p m ≤ fb_ct p (m + n + 1)
    rw [fb_ct_succ]
    omega
theorem fb_ct_mono (p : Nat → Bool) {m n : Nat} (h : m ≤ n) : fb_ct p m ≤ fb_ct p n := by
  have := fb_ct_step p m (n - m)
  rwa [Nat.add_sub_cancel' h] at this
theorem fb_ct_cong {p q : Nat → Bool} : ∀ {n : Nat}, (∀ k, k < n → p k = q k) → fb_ct p n = fb_ct q n
  | 0, _ => rfl
  | n + 1, h => by
    rw [fb_ct_succ, fb_ct_succ, fb_ct_cong (fun k hk => h k (by omega)), h n (by omega)]
/-- one place changed -/
theorem fb_ct_out (p : Nat → Bool) (b : Bool) {i n : Nat} (h : n ≤ i) : fb_ct (fun k => if k = i then b else p k) n = fb_ct p n :=
  fb_ct_cong fun k hk => if_neg (by omega)
theorem fb_ct_upd (p : Nat → Bool) (b : Bool) {i : Nat} : ∀ {n : Nat}, i < n → fb_ct (fun k => if k = i then b else p k) n + (if p i then 1 else 0) = fb_ct p n + (if b then 1 else 0)
  | 0, h => absurd h (Nat.not_lt_zero i)
  | n + 1, h => by
    rw [fb_ct_succ, fb_ct_succ]
    rcases Nat.lt_or_ge i n with q | q
    · have := fb_ct_upd p b q
      have e : (if n = i then b else p n) = p n := if_neg (by omega)
      rw [e]
      omega
    · have e : i = n := by omega
      subst e
      rw [fb_ct_out p b (Nat.le_refl _)]
      simp only [if_true]
      omega
theorem fb_ct_sub {p q : Nat → Bool} : ∀ {n : Nat}, (∀ k, k < n → p k = true → q k = true) → fb_ct p n ≤ fb_ct q n
  | 0, _ => Nat.le_refl _
  | n + 1, h => by
    have h1 := fb_ct_sub (n := n) (p := p) (q := q) (fun k hk => h k (by omega))
    have h2 := h n (by omega)
    rw [fb_ct_succ, fb_ct_succ]
    cases hp : p n <;> cases hq : q n <;> simp_all <;> omega
theorem fb_ct_or {p q : Nat → Bool} : ∀ {n : Nat}, (∀ k, k < n → ¬ (p k = true ∧ q k = true)) → fb_ct (fun k => p k || q k) n = fb_ct p n + fb_ct q n
  | 0, _ => rfl
  | n + 1, h => by
    have h1 := fb_ct_or (n := n) (p := p) (q := q) (fun k hk => h k (by omega))
    have h2 := h n (by omega)
    rw [fb_ct_succ, fb_ct_succ, fb_ct_succ, h1]
    cases hp : p n <;> cases hq : q n <;> simp_all <;> omega
theorem fb_ct_not (p : Nat → Bool) : ∀ n, fb_ct p n + fb_ct (fun k => !p k) n = n
  | 0 => rfl
  | n + 1 => by
    have h := fb_ct_not p n
    rw [fb_ct_succ, fb_ct_succ]
    cases p n <;> simp <;> omega
theorem fb_ct_split (p : Nat → Bool) (m : Nat) : ∀ n, fb_ct p (m + n) = fb_ct p m + fb_ct (fun k => p (m + k)) n
  | 0 => rfl
  | n + 1 => by
    have h := fb_ct_split p m n
    show fb_ct p (m + n + 1) = _
    rw [fb_ct_succ, fb_ct_succ, h, Nat.add_assoc]
theorem fb_ct_zero {p : Nat → Bool} : ∀ {n : Nat}, fb_ct p n = 0 ↔ ∀ k, k < n → p k = false
  | 0 => ⟨fun _ k hk => absurd hk (Nat.not_lt_zero k), fun _ => rfl⟩
  | n + 1 => by
    have h := fb_ct_zero (p := p) (n := n)
    rw [fb_ct_succ]
    constructor
    · intro e k hk
      have e1 : fb_ct p n = 0 := by omega
      rcases Nat.lt_or_ge k n with q | q
      · exact h.mp e1 k q
      · have ek : k = n := by omega
        subst ek
        cases hp : p k
        · rfl
        · simp [hp] at e
    · intro a
      rw [h.mpr (fun k hk => a k (by omega)), a n (by omega)]
      rfl
theorem fb_ct_pos {p : Nat → Bool} {n : Nat} : 0 < fb_ct p n ↔ ∃ k, k < n ∧ p k = true := by
  constructor
  · intro h
    refine Classical.byContradiction fun hx => ?_
    have := fb_ct_zero.mpr (fun k hk => by
      cases hp : p k
      · rfl
      · exact absurd ⟨k, hk, hp⟩ hx : ∀ k, k < n → p k = false)
    omega
  · rintro ⟨k, hk, hp⟩
    rcases Nat.eq_zero_or_pos (fb_ct p n) with e | e
    · have := fb_ct_zero.mp e k hk
      rw [this] at hp
      cases hp
    · exact e
theorem fb_ct_all {p : Nat → Bool} {n : Nat} : fb_ct p n = n ↔ ∀ k, k < n → p k = true := by
  have h := fb_ct_not p n
  constructor
  · intro e k hk
    have z : fb_ct (fun k => !p k) n = 0 := by omega
    have := fb_ct_zero.mp z k hk
    cases hp : p k
    · simp [hp] at this
    · rfl
  · intro a
    have z : fb_ct (fun k => !p k) n = 0 := fb_ct_zero.mpr (fun k hk => by simp [a k hk])
    omega
/-- the k-th place with the property -/
theorem fb_ct_kth {p : Nat → Bool} {k : Nat} : ∀ {n : Nat}, k < fb_ct p n → ∃ i, i < n ∧ p i = true ∧ fb_ct p i = k
  | 0, h => absurd h (Nat.not_lt_zero k)
  | n + 1, h => by
    rcases Nat.lt_or_ge k (fb_ct p n) with q | q
    · obtain ⟨i, h1, h2⟩ := fb_ct_kth q
      exact ⟨i, by omega, h2⟩
    · rw [fb_ct_succ] at h
      cases hp : p n
      · simp [hp] at h; omega
      · simp [hp] at h
        exact ⟨n, by omega, hp, by omega⟩
theorem fb_ct_kth_one {p : Nat → Bool} {i j : Nat} (hi : p i = true) (hj : p j = true) (e : fb_ct p i = fb_ct p j) : i = j := by
  have key : ∀ a b : Nat, a < b → p a = true → fb_ct p a < fb_ct p b := by
    intro a b hab ha
    have h := fb_ct_mono p (show a + 1 ≤ b from hab)
    rw [fb_ct_succ, ha] at h
    simp at h
    omega
  rcases Nat.lt_trichotomy i j with q | q | q
  · have := key i j q hi; omega
  · exact q
  · have := key j i q hj; omega
/-! ===== signed ints as whole numbers, within bounds ===== -/
theorem fb_rng (x : Int32) : -2147483648 ≤ x.toInt ∧ x.toInt < 2147483648 := by
  have h1 := Int32.le_toInt x
  have h2 := Int32.toInt_lt x
  omega
theorem fb_bmod {z : Int} (h1 : -2147483648 ≤ z) (h2 : z < 2147483648) : z.bmod (2 ^ 32) = z := by
  rw [Int.bmod_eq_of_le (by omega) (by omega)]
theorem fb_addI {x y : Int32} (h1 : -2147483648 ≤ x.toInt + y.toInt) (h2 : x.toInt + y.toInt < 2147483648) : (x + y).toInt = x.toInt + y.toInt := by
  rw [Int32.toInt_add, fb_bmod h1 h2]
theorem fb_subI {x y : Int32} (h1 : -2147483648 ≤ x.toInt - y.toInt) (h2 : x.toInt - y.toInt < 2147483648) : (x - y).toInt = x.toInt - y.toInt := by
  rw [Int32.toInt_sub, fb_bmod h1 h2]
theorem fb_mulI {x y : Int32} (h1 : -2147483648 ≤ x.toInt * y.toInt) (h2 : x.toInt * y.toInt < 2147483648) : (x * y).toInt = x.toInt * y.toInt := by
  rw [Int32.toInt_mul, fb_bmod h1 h2]
theorem fb_negI {x : Int32} (h : x.toInt ≠ -2147483648) : (-x).toInt = -x.toInt := by
  have := fb_rng x
  rw [Int32.toInt_neg, fb_bmod (by omega) (by omega)]
theorem fb_ofI {z : Int} (h1 : -2147483648 ≤ z) (h2 : z < 2147483648) : (Int32.ofInt z).toInt = z := by
  rw [Int32.toInt_ofInt, fb_bmod h1 h2]
theorem fb_asI (x : Int32) : Int32.ofInt x.toInt = x := Int32.ofInt_toInt x
theorem fb_rngL (x : Int64) : -9223372036854775808 ≤ x.toInt ∧ x.toInt < 9223372036854775808 := by
  have h1 := Int64.le_toInt x
  have h2 := Int64.toInt_lt x
  omega
theorem fb_bmodL {z : Int} (h1 : -9223372036854775808 ≤ z) (h2 : z < 9223372036854775808) : z.bmod (2 ^ 64) = z := by
  rw [Int.bmod_eq_of_le (by omega) (by omega)]
theorem fb_addL {x y : Int64} (h1 : -9223372036854775808 ≤ x.toInt + y.toInt) (h2 : x.toInt + y.toInt < 9223372036854775808) : (x + y).toInt = x.toInt + y.toInt := by
  rw [Int64.toInt_add, fb_bmodL h1 h2]
theorem fb_subL {x y : Int64} (h1 : -9223372036854775808 ≤ x.toInt - y.toInt) (h2 : x.toInt - y.toInt < 9223372036854775808) : (x - y).toInt = x.toInt - y.toInt := by
  rw [Int64.toInt_sub, fb_bmodL h1 h2]
theorem fb_mulL {x y : Int64} (h1 : -9223372036854775808 ≤ x.toInt * y.toInt) (h2 : x.toInt * y.toInt < 9223372036854775808) : (x * y).toInt = x.toInt * y.toInt := by
  rw [Int64.toInt_mul, fb_bmodL h1 h2]
/-! ===== cuts of what is narrow already ===== -/
theorem fb_byte {x : Int32} (h1 : -128 ≤ x.toInt) (h2 : x.toInt < 128) : x.toInt8.toInt32 = x := by
  apply Int32.toInt_inj.1
  rw [Int8.toInt_toInt32, Int32.toInt_toInt8, Int.bmod_eq_of_le (by omega) (by omega)]
theorem fb_short {x : Int32} (h1 : -32768 ≤ x.toInt) (h2 : x.toInt < 32768) : x.toInt16.toInt32 = x := by
  apply Int32.toInt_inj.1
  rw [Int16.toInt_toInt32, Int32.toInt_toInt16, Int.bmod_eq_of_le (by omega) (by omega)]
theorem fb_byte_rng (x : Int32) : -128 ≤ x.toInt8.toInt32.toInt ∧ x.toInt8.toInt32.toInt < 128 := by
  rw [Int8.toInt_toInt32]
  have h1 := Int8.le_toInt x.toInt8
  have h2 := Int8.toInt_lt x.toInt8
  omega
theorem fb_short_rng (x : Int32) : -32768 ≤ x.toInt16.toInt32.toInt ∧ x.toInt16.toInt32.toInt < 32768 := by
  rw [Int16.toInt_toInt32]
  have h1 := Int16.le_toInt x.toInt16
  have h2 := Int16.toInt_lt x.toInt16
  omega
theorem fb_byte_twice (x : Int32) : x.toInt8.toInt32.toInt8.toInt32 = x.toInt8.toInt32 := fb_byte (fb_byte_rng x).1 (fb_byte_rng x).2
theorem fb_short_twice (x : Int32) : x.toInt16.toInt32.toInt16.toInt32 = x.toInt16.toInt32 := fb_short (fb_short_rng x).1 (fb_short_rng x).2
/-! ===== order of ints, in all its forms, and through longs ===== -/
theorem fa_lt (a b : Int32) : a < b ↔ a.toInt < b.toInt := Int32.lt_iff_toInt_lt
theorem fa_le (a b : Int32) : a ≤ b ↔ a.toInt ≤ b.toInt := Int32.le_iff_toInt_le
theorem fa_eq (a b : Int32) : a = b ↔ a.toInt = b.toInt := Int32.toInt_inj.symm
theorem fa_lt64 (a b : Int64) : a < b ↔ a.toInt < b.toInt := Int64.lt_iff_toInt_lt
theorem fa_le64 (a b : Int64) : a ≤ b ↔ a.toInt ≤ b.toInt := Int64.le_iff_toInt_le
theorem fa_eq64 (a b : Int64) : a = b ↔ a.toInt = b.toInt := Int64.toInt_inj.symm
/-- a comparison of two ints taken as longs -/
theorem fa_wide_lt (a b : Int32) : a.toInt64 < b.toInt64 ↔ a < b := by rw [fa_lt64, fa_lt, Int32.toInt_toInt64, Int32.toInt_toInt64]
theorem fa_wide_le (a b : Int32) : a.toInt64 ≤ b.toInt64 ↔ a ≤ b := by rw [fa_le64, fa_le, Int32.toInt_toInt64, Int32.toInt_toInt64]
theorem fa_wide_eq (a b : Int32) : a.toInt64 = b.toInt64 ↔ a = b := by rw [fa_eq64, fa_eq, Int32.toInt_toInt64, Int32.toInt_toInt64]
/-- one strict comparison gives all the others -/
theorem fa_of_lt {a b : Int32} (h : a < b) : a ≤ b ∧ ¬ b ≤ a ∧ ¬ b < a ∧ a ≠ b ∧ b ≠ a := by
  rw [fa_lt] at h
  refine ⟨?_, ?_, ?_, ?_, ?_⟩
  · rw [fa_le]; omega
  · rw [fa_le]; omega
  · rw [fa_lt]; omega
  · intro e; rw [fa_eq] at e; omega
  · intro e; rw [fa_eq] at e; omega
theorem fa_of_nlt {a b : Int32} (h : ¬ a < b) : b ≤ a := by
  rw [fa_lt] at h
  rw [fa_le]
  omega
theorem fa_of_nle {a b : Int32} (h : ¬ a ≤ b) : b < a := by
  rw [fa_le] at h
  rw [fa_lt]
  omega
theorem fa_le_ne {a b : Int32} (h : a ≤ b) (h2 : a ≠ b) : a < b := by
  rw [fa_le] at h
  rw [fa_lt]
  have h3 : a.toInt ≠ b.toInt := fun e => h2 ((fa_eq a b).mpr e)
  omega
theorem fa_three (a b : Int32) : a < b ∨ a = b ∨ b < a := by
  rw [fa_lt, fa_lt, fa_eq]
  omega
theorem fa_trans {a b c : Int32} (h : a < b) (h2 : b ≤ c) : a < c := by
  rw [fa_lt] at *
  rw [fa_le] at h2
  omega
/-! ===== small literals as numbers ===== -/
theorem fa_lit (n : Nat) : (OfNat.ofNat n : Int32) = nI n := rfl
theorem fa_litL (n : Nat) : (OfNat.ofNat n : Int64) = lN n := rfl
/-! ===== an array behind i stores, a conditional store, a row copied ===== -/
/-- f where k < i, what stood there else -/
def fa_fill {α : Type} (f g : Nat → α) (i : Nat) : Nat → α := fun k => if k < i then f k else g k
theorem fa_fill_0 {α : Type} (f g : Nat → α) : fa_fill f g 0 = g := funext fun k => if_neg (Nat.not_lt_zero k)
theorem fa_fill_in {α : Type} {f g : Nat → α} {i k : Nat} (h : k < i) : fa_fill f g i k = f k := if_pos h
theorem fa_fill_out {α : Type} {f g : Nat → α} {i k : Nat} (h : i ≤ k) : fa_fill f g i k = g k := if_neg (Nat.not_lt.mpr h)
theorem fa_fill_succ (f g : Nat → Int32) (i : Nat) : upd (fa_fill f g i) i (f i) = fa_fill f g (i + 1) := by
  funext k
  by_cases e : k = i
  · subst e
    rw [pk_us]
    exact (if_pos (Nat.lt_succ_self k)).symm
  · rw [pk_un e]
    by_cases h : k < i
    · rw [fa_fill_in h, fa_fill_in (Nat.lt_succ_of_lt h)]
    · rw [fa_fill_out (Nat.le_of_not_lt h), fa_fill_out (by omega)]
/-- a store that changes nothing -/
theorem fa_upd_same {f : Nat → Int32} {i : Nat} {x : Int32} (h : f i = x) : upd f i x = f := by
  funext k
  by_cases e : k = i
  · subst e
    rw [pk_us, h]
  · rw [pk_un e]
/-- a store under a condition, told as one -/
theorem fa_upd_if (c : Prop) [Decidable c] (f : Nat → Int32) (i : Nat) (x : Int32) : (if c then upd f i x else f) = upd f i (if c then x else f i) := by
  by_cases h : c
  · rw [if_pos h, if_pos h]
  · rw [if_neg h, if_neg h, fa_upd_same rfl]
/-- two stores at one place, at two -/
theorem fa_upd_twice (f : Nat → Int32) (i : Nat) (x y : Int32) : upd (upd f i x) i y = upd f i y := by
  funext k
  by_cases e : k = i
  · subst e
    rw [pk_us, pk_us]
  · rw [pk_un e, pk_un e, pk_un e]
theorem fa_upd_swap (f : Nat → Int32) {i j : Nat} (h : i ≠ j) (x y : Int32) : upd (upd f i x) j y = upd (upd f j y) i x := by
  funext k
  by_cases e : k = i
  · subst e
    rw [pk_un h, pk_us, pk_us]
  · by_cases e2 : k = j
    · subst e2
      rw [pk_us, pk_un e, pk_us]
    · rw [pk_un e2, pk_un e, pk_un e, pk_un e2]
end
section
/-! THE FRAME: this claim's own shape of contract, and one row for an entry, an end, a call -/
set_option maxRecDepth 100000
abbrev vwCl : List vw_C := [(RX1, TX1, 1)]
/-- an array of shorts in the world -/
abbrev sdA (x : Nat) (cA : ClassId) (n : Nat) (F : Nat → Int32) : Nat × va_E := (x, .inl (cA, n, .inl F))
/-- a desk in the world: its one field is the row -/
abbrev sdO (d r : Nat) : Nat × va_E := (d, .inr (0, [.ref r]))
def sdK (D : va_G) (tys : List (ClassId × FieldType)) (U : State) : Prop := va_K D vwCl tys U ∧ va_Nw (.castable "[S" "java/lang/Cloneable") U
def sdZ (D : va_G) (A : Nat → Prop) (s : State) (ws : va_W) (H : Heap) (locs : List Loc) : Prop := va_P D vwCl ws H ∧ va_D A ws ∧ va_S A s.heap H locs
def sdC (D : va_G) (wc : va_W) (tc : List (ClassId × FieldType)) (sz : Nat) (U : State) : Prop := U.heap.size = sz ∧ va_P D vwCl wc U.heap ∧ sdK D tc U ∧ va_D (fun _ => True) wc
def sdB {S : Type} (D : va_G) (A : Nat → Prop) (w1 : S → va_W) (u : S) (t : State) : Prop := va_P D vwCl (w1 u) t.heap ∧ va_D A (w1 u)
def sdX (p : Program) (s : State) (m : MethodId) (args : Array Value) (c : Code) (cc : ByteArray) (nL : Nat) (own : String) (D : va_G) (tys : List (ClassId × FieldType)) (A : Nat → Prop) : Prop :=
  (p.tables.exec = Jvm.exec ∧ c.code = cc ∧ c.maxLocals = nL ∧ s.vm.findClass own = some m.cls ∧ ∀ w ∈ lw_all, w.before args s = true) ∧ sdK D tys s ∧ (∀ q : Nat, s.heap.size ≤ q → A q)
/-- a method that answers nothing -/
def sdMv {S : Type} (l : Launch) (y : MethodName) (cc : ByteArray) (nL : Nat) (rm : Room) (As : List Value) (D : va_G) (wc : va_W) (tc : List (ClassId × FieldType)) (post : S → Prop) (w1 : S → va_W) : Prop :=
  ∀ sz : Nat, Met l y (ws_ y cc nL none) rm (va_Pc As (sdC D wc tc sz)) (va_Qv post (sdB D (va_A wc sz) w1) (va_A wc sz)) rm.cells rm.slots (va_A wc sz)
/-- a method that answers an int, or a boolean -/
def sdMi {S : Type} (l : Launch) (y : MethodName) (cc : ByteArray) (nL : Nat) (ty : FieldType) (rm : Room) (As : List Value) (D : va_G) (wc : va_W) (tc : List (ClassId × FieldType)) (post : Int32 → S → Prop) (w1 : S → va_W) : Prop :=
  ∀ sz : Nat, Met l y (ws_ y cc nL (some ty)) rm (va_Pc As (sdC D wc tc sz)) (va_Qi post (sdB D (va_A wc sz) w1) (va_A wc sz)) rm.cells rm.slots (va_A wc sz)
def sdBr {S : Type} (D : va_G) (A : Nat → Prop) (w1 : S → Nat → va_W) (t1 : S → List (ClassId × FieldType)) (u : S) (ra : Nat) (t : State) : Prop := va_P D vwCl (w1 u ra) t.heap ∧ va_D A (w1 u ra) ∧ va_K D vwCl (t1 u) t
/-- a method that answers an array -/
def sdMr {S : Type} (l : Launch) (y : MethodName) (cc : ByteArray) (nL : Nat) (ty : FieldType) (rm : Room) (As : List Value) (D : va_G) (wc : va_W) (tc : List (ClassId × FieldType)) (post : S → Prop) (w1 : S → Nat → va_W) (t1 : S → List (ClassId × FieldType)) : Prop :=
  ∀ sz : Nat, Met l y (ws_ y cc nL (some ty)) rm (va_Pc As (sdC D wc tc sz)) (va_Qr post (sdBr D (va_A wc sz) w1 t1) (va_A wc sz)) rm.cells rm.slots (va_A wc sz)
theorem sdK.sub {D : va_G} {tys tc : List (ClassId × FieldType)} {U : State} (h : sdK D tys U) (is : List Nat) (hs : is.filterMap (fun i => tys[i]?) = tc) : sdK D tc U := ⟨h.1.sub is hs, h.2⟩
theorem sdK.warm {D : va_G} {tys : List (ClassId × FieldType)} {s U : State} (hW : s.WarmedH U.vm) (h : sdK D tys s) : sdK D tys U := ⟨va_K.moved hW.alike h.1, va_Nw.warmC hW h.2⟩
theorem sdBlind {As : List Value} {D : va_G} {wc : va_W} {tc : List (ClassId × FieldType)} {sz : Nat} : FrameBlind (va_Pc As (sdC D wc tc sz)) := fun a U g mk q => by
  obtain ⟨q0, q1, qP, ⟨qK, qN⟩, qD⟩ := q
  exact ⟨q0, q1, qP, ⟨va_K.moved (u := U) (U := U.calling g mk a) (Vm.Alike.refl U.vm) qK, va_Nw.same rfl (rfl : U.vm = (U.calling g mk a).vm) qN⟩, qD⟩
theorem sdPre {As : List Value} {D : va_G} {wc : va_W} {tc : List (ClassId × FieldType)} {s : State} {H : Heap} (hP : va_P D vwCl wc H) (hK : sdK D tc s) (hD : va_D (fun _ => True) wc) (U : State) (hU : U.heap = H) (hW : s.WarmedH U.vm) : va_Pc As (sdC D wc tc H.size) As.toArray U :=
  ⟨rfl, by rw [hU], by rw [hU]; exact hP, hK.warm hW, hD⟩
theorem sdZ.sub {D : va_G} {A : Nat → Prop} {s : State} {ws ws' : va_W} {H : Heap} {locs : List Loc} (h : sdZ D A s ws H locs) (is : List Nat) (hn : va_nd is = true) (hs : is.filterMap (fun i => ws[i]?) = ws') (hm : is.map (fun i => ws[i]?) = ws'.map some) : sdZ D A s ws' H locs := ⟨h.1.sub is hs, h.2.1.sub is hn hm, h.2.2⟩
/-- the entry -/
theorem sdMv.of {S : Type} {l : Launch} {y : MethodName} {cc : ByteArray} {nL : Nat} {rm : Room} {As : List Value} {D : va_G} {wc : va_W} {tc : List (ClassId × FieldType)} {post : S → Prop} {w1 : S → va_W} (hy : plainName y.cls = true) (hlen : (lg_sl As).length ≤ nL)
    (body : ∀ (p : Program) (e : Env) (s : State) (m : MethodId) (args : Array Value) (below : List Frame) (meth : Method) (c : Code) (A : Nat → Prop) (ls : Array Slot), sdX p s m args c cc nL y.cls D tc A → meth.sig.returnType = none → meth.locks = false → sdZ D A s wc s.heap [] → lv_has ls nL (lv_args 0 As) →
      W p l e rm s m args below meth c s.heap [] 0 0 (MQ below (va_Qv post (sdB D A w1) A) args s rm.cells rm.slots A) (F0 m 0 ls [])) : sdMv l y cc nL rm As D wc tc post w1 := by
  intro sz
  refine Met.ofW (cc := cc) (maxL := nL) (ret := none) hy rfl ?_
  intro p e s m args below meth c s₁ B hml hv
  obtain ⟨rfl, hsz, hP, hK, hD0⟩ := hv
  have hts := atoms_spec (ws := ws_ y cc nL none) B.pre
  have hts : ∀ w ∈ lw_all, w.before _ s = true := fun w h => hts w (List.mem_cons_of_mem _ h)
  subst hsz
  have hl := lv_entry As (n := nL) hlen
  rw [lg_entry_eq]
  exact body p e s m _ below meth c (va_A wc s.heap.size) _ ⟨⟨B.exec, B.bytes, hml, findClass_of_methodNamed B.named, hts⟩, hK, fun q h => Or.inr h⟩ B.returns B.notSynchronized ⟨hP, hD0.self, va_S.rf⟩ hl
theorem sdMi.of {S : Type} {l : Launch} {y : MethodName} {cc : ByteArray} {nL : Nat} {ty : FieldType} {rm : Room} {As : List Value} {D : va_G} {wc : va_W} {tc : List (ClassId × FieldType)} {post : Int32 → S → Prop} {w1 : S → va_W} (hy : plainName y.cls = true) (hlen : (lg_sl As).length ≤ nL)
    (body : ∀ (p : Program) (e : Env) (s : State) (m : MethodId) (args : Array Value) (below : List Frame) (meth : Method) (c : Code) (A : Nat → Prop) (ls : Array Slot), sdX p s m args c cc nL y.cls D tc A → meth.sig.returnType = some ty → meth.locks = false → sdZ D A s wc s.heap [] → lv_has ls nL (lv_args 0 As) →
      W p l e rm s m args below meth c s.heap [] 0 0 (MQ below (va_Qi post (sdB D A w1) A) args s rm.cells rm.slots A) (F0 m 0 ls [])) : sdMi l y cc nL ty rm As D wc tc post w1 := by
  intro sz
  refine Met.ofW (cc := cc) (maxL := nL) (ret := some ty) hy rfl ?_
  intro p e s m args below meth c s₁ B hml hv
  obtain ⟨rfl, hsz, hP, hK, hD0⟩ := hv
  have hts := atoms_spec (ws := ws_ y cc nL (some ty)) B.pre
  have hts : ∀ w ∈ lw_all, w.before _ s = true := fun w h => hts w (List.mem_cons_of_mem _ h)
  subst hsz
  have hl := lv_entry As (n := nL) hlen
  rw [lg_entry_eq]
  exact body p e s m _ below meth c (va_A wc s.heap.size) _ ⟨⟨B.exec, B.bytes, hml, findClass_of_methodNamed B.named, hts⟩, hK, fun q h => Or.inr h⟩ B.returns B.notSynchronized ⟨hP, hD0.self, va_S.rf⟩ hl
theorem sdMr.of {S : Type} {l : Launch} {y : MethodName} {cc : ByteArray} {nL : Nat} {ty : FieldType} {rm : Room} {As : List Value} {D : va_G} {wc : va_W} {tc : List (ClassId × FieldType)} {post : S → Prop} {w1 : S → Nat → va_W} {t1 : S → List (ClassId × FieldType)} (hy : plainName y.cls = true) (hlen : (lg_sl As).length ≤ nL)
    (body : ∀ (p : Program) (e : Env) (s : State) (m : MethodId) (args : Array Value) (below : List Frame) (meth : Method) (c : Code) (A : Nat → Prop) (ls : Array Slot), sdX p s m args c cc nL y.cls D tc A → meth.sig.returnType = some ty → meth.locks = false → sdZ D A s wc s.heap [] → lv_has ls nL (lv_args 0 As) →
      W p l e rm s m args below meth c s.heap [] 0 0 (MQ below (va_Qr post (sdBr D A w1 t1) A) args s rm.cells rm.slots A) (F0 m 0 ls [])) : sdMr l y cc nL ty rm As D wc tc post w1 t1 := by
  intro sz
  refine Met.ofW (cc := cc) (maxL := nL) (ret := some ty) hy rfl ?_
  intro p e s m args below meth c s₁ B hml hv
  obtain ⟨rfl, hsz, hP, hK, hD0⟩ := hv
  have hts := atoms_spec (ws := ws_ y cc nL (some ty)) B.pre
  have hts : ∀ w ∈ lw_all, w.before _ s = true := fun w h => hts w (List.mem_cons_of_mem _ h)
  subst hsz
  have hl := lv_entry As (n := nL) hlen
  rw [lg_entry_eq]
  exact body p e s m _ below meth c (va_A wc s.heap.size) _ ⟨⟨B.exec, B.bytes, hml, findClass_of_methodNamed B.named, hts⟩, hK, fun q h => Or.inr h⟩ B.returns B.notSynchronized ⟨hP, hD0.self, va_S.rf⟩ hl
section SD
variable {p : Program} {l : Launch} {e : Env} {R : Room} {s : State} {m : MethodId} {args : Array Value} {below : List Frame} {meth : Method} {c : Code} {H : Heap} {locs : List Loc} {cells slots : Nat} {Q : State → Prop}
variable {cc : ByteArray} {nL pc : Nat} {ls : Array Slot} {rest : List Value} {own : String} {D : va_G} {tys : List (ClassId × FieldType)} {A : Nat → Prop} {ws : va_W}
/-- the end -/
theorem sdRet_v {S : Type} {post : S → Prop} {w1 : S → va_W} {mc ms : Nat} (X : sdX p s m args c cc nL own D tys A) (hr : meth.sig.returnType = none) (hlk : meth.locks = false) (Z : sdZ D A s ws H locs) (u : S) (hp : post u) (is : List Nat) (hn : va_nd is = true) (hs : is.filterMap (fun i => ws[i]?) = w1 u) (hm : is.map (fun i => ws[i]?) = (w1 u).map some)
    (hc : cells ≤ mc) (hsl : slots ≤ ms) (hdg : decode cc pc = .ok (.return_, 1)) : W p l e R s m args below meth c H locs cells slots (MQ below (va_Qv post (sdB D A w1) A) args s mc ms A) (F0 m pc ls []) := by
  have Z1 := Z.sub is hn hs hm
  refine W.widen (k := mc) (n := ms) hc hsl ?_
  exact W.vret X.1.1 X.1.2.1 hr (fun t ht hW => ⟨⟨u, rfl, hp, by rw [ht]; exact Z1.1, Z1.2.1⟩, Z1.2.2.F ht⟩) Z1.2.2.2.2 hdg hlk
theorem sdRet_i {S : Type} {post : Int32 → S → Prop} {w1 : S → va_W} {mc ms : Nat} {ty : FieldType} {v : Int32} (X : sdX p s m args c cc nL own D tys A) (hr : meth.sig.returnType = some ty) (hlk : meth.locks = false) (hnar : narrow ty (.int v) = .int v) (Z : sdZ D A s ws H locs) (u : S) (hp : post v u) (is : List Nat) (hn : va_nd is = true) (hs : is.filterMap (fun i => ws[i]?) = w1 u) (hm : is.map (fun i => ws[i]?) = (w1 u).map some)
    (hc : cells ≤ mc) (hsl : slots ≤ ms) (hdg : decode cc pc = .ok (.ireturn, 1)) : W p l e R s m args below meth c H locs cells slots (MQ below (va_Qi post (sdB D A w1) A) args s mc ms A) (F0 m pc ls [.int v]) := by
  have Z1 := Z.sub is hn hs hm
  refine W.widen (k := mc) (n := ms) hc hsl ?_
  exact W.zret X.1.1 X.1.2.1 hr hnar (fun t ht hW => ⟨⟨v, u, rfl, hp, by rw [ht]; exact Z1.1, Z1.2.1⟩, Z1.2.2.F ht⟩) Z1.2.2.2.2 hdg hlk
theorem sdRet_r {S : Type} {post : S → Prop} {w1 : S → Nat → va_W} {t1 : S → List (ClassId × FieldType)} {mc ms : Nat} {ty : FieldType} {ra : Nat} (X : sdX p s m args c cc nL own D tys A) (hr : meth.sig.returnType = some (.array ty)) (hlk : meth.locks = false) (Z : sdZ D A s ws H locs) (u : S) (hp : post u) (is it : List Nat) (hn : va_nd is = true) (hs : is.filterMap (fun i => ws[i]?) = w1 u ra) (hm : is.map (fun i => ws[i]?) = (w1 u ra).map some) (ht1 : it.filterMap (fun i => tys[i]?) = t1 u)
    (hc : cells ≤ mc) (hsl : slots ≤ ms) (hdg : decode cc pc = .ok (.areturn, 1)) : W p l e R s m args below meth c H locs cells slots (MQ below (va_Qr post (sdBr D A w1 t1) A) args s mc ms A) (F0 m pc ls [.ref ra]) := by
  have Z1 := Z.sub is hn hs hm
  have K1 := X.2.1.1.sub it ht1
  refine W.widen (k := mc) (n := ms) hc hsl ?_
  exact W.aret X.1.1 X.1.2.1 hr (Or.inr ⟨_, rfl⟩) (Or.inr ⟨_, rfl⟩) (fun t ht hW => ⟨⟨u, ra, rfl, hp, by rw [ht]; exact Z1.1, Z1.2.1, va_K.moved hW.alike K1⟩, Z1.2.2.F ht⟩) Z1.2.2.2.2 hdg hlk
/-- what comes back from a call, beside what stayed -/
theorem sdJoin {wc wr w1 : va_W} {H1 : Heap} {locs1 : List Loc} (Z : sdZ D A s ws H locs) (isC isR : List Nat) (hC : isC.map (fun i => ws[i]?) = wc.map some) (hR : isR.map (fun i => ws[i]?) = wr.map some) (hn : va_nd isR = true) (hdis : ∀ i ∈ isR, i ∉ isC) (hk : ∀ q : Nat, q < H.size → ¬ va_A wc H.size q → H1[q]? = H[q]?) (hF : ∀ q, va_A wc H.size q → A q) (hP1 : va_P D vwCl w1 H1) (hD1 : va_D (va_A wc H.size) w1) (hS : va_S A s.heap H1 locs1) : sdZ D A s (wr ++ w1) H1 locs1 := by
  obtain ⟨a, b⟩ := va_join Z.1 Z.2.1 isC isR hC hR hn hdis hk hF hP1 hD1
  exact ⟨a, b, hS⟩
theorem sdCut {wc : va_W} (Z : sdZ D A s ws H locs) (isC : List Nat) (hn : va_nd isC = true) (hs : isC.filterMap (fun i => ws[i]?) = wc) (hC : isC.map (fun i => ws[i]?) = wc.map some) : va_P D vwCl wc H ∧ va_D (fun _ => True) wc := ⟨Z.1.sub isC hs, (Z.2.1.sub isC hn hC).weaken (fun _ _ _ _ => trivial)⟩
/-- a static call, nothing comes back -/
theorem sdCall_sv {S : Type} {y : MethodName} {bytes : ByteArray} {mL index k n na : Nat} {rm : Room} {As stk : List Value} {wc wr : va_W} {tc : List (ClassId × FieldType)} {post : S → Prop} {w1 : S → va_W} (X : sdX p s m args c cc nL own D tys A) (Z : sdZ D A s ws H locs) (hM : sdMv l y bytes mL rm As D wc tc post w1)
    (h1 : Cond.methodLink own index y ∈ lw_all) (h2 : Cond.static y ∈ lw_all) (h3 : Cond.initialized y.cls ∈ lw_all) (h4 : Cond.code y bytes mL none ∈ lw_all) (hd : y.cls ≠ "java/lang/invoke/MethodHandle" ∧ y.cls ≠ "java/lang/invoke/VarHandle" ∧ (parseMethodDescriptor y.desc).map (fun d => d.parameters.length) = some na) (hna : As.length = na)
    (hRf : rm.frames + 1 ≤ R.frames) (hRl : 8 + (mL + 11) + rm.locals ≤ R.locals) (isC isR it : List Nat) (hnC : va_nd isC = true) (hsC : isC.filterMap (fun i => ws[i]?) = wc) (hC : isC.map (fun i => ws[i]?) = wc.map some) (hR : isR.map (fun i => ws[i]?) = wr.map some) (hn : va_nd isR = true) (hdis : ∀ i ∈ isR, i ∉ isC) (ht : it.filterMap (fun i => tys[i]?) = tc)
    (hsz : ls.size = nL) (hstk : stk = As.reverse ++ rest) (hrm : (rest.map fun v => v.category).sum ≤ 8) (hdg : decode cc pc = .ok (.invokestatic index, 3)) (hcR : cells + rm.cells ≤ R.cells) (hsR : slots + rm.slots ≤ R.slots) (hck : cells + rm.cells ≤ k) (hsn : slots + rm.slots ≤ n)
    (kk : ∀ (u : S) (H1 : Heap) (locs1 : List Loc), post u → sdZ D A s (wr ++ w1 u) H1 locs1 → W p l e R s m args below meth c H1 locs1 k n Q (F0 m (pc + 3) ls rest)) : W p l e R s m args below meth c H locs cells slots Q (F0 m pc ls stk) := by
  obtain ⟨hPc, hDc⟩ := sdCut Z isC hnC hsC hC
  have hKc := X.2.1.sub it ht
  have hF := va_free Z.2.1 Z.2.2 X.2.2 isC hC
  refine va_callv (va_runS (As := As) (rest := rest) X.1 (hM H.size) (va_cwS na X.1.2.2.2.2 (lw_S h1 h2 h3 h4) rfl rfl rfl hd ⟨hRf, hRl⟩) ⟨sdBlind, fun U hU hW => sdPre hPc hKc hDc U hU hW⟩ rfl hna hsz hstk (lv_room hrm) hdg ⟨hcR, hsR⟩) Z.2.2 (fun q _ h => hF q h) hF (fun u t H1 locs1 hth hvm hw hB hz1 hk1 hS => ?_)
  obtain ⟨hP1, hD1⟩ := hB
  rw [hth] at hP1
  exact W.widen hck hsn (kk u H1 locs1 hw (sdJoin Z isC isR hC hR hn hdis hk1 hF hP1 hD1 hS))
/-- a static call, an int comes back -/
theorem sdCall_si {S : Type} {y : MethodName} {bytes : ByteArray} {mL index k n na : Nat} {ty : FieldType} {rm : Room} {As stk : List Value} {wc wr : va_W} {tc : List (ClassId × FieldType)} {post : Int32 → S → Prop} {w1 : S → va_W} (X : sdX p s m args c cc nL own D tys A) (Z : sdZ D A s ws H locs) (hM : sdMi l y bytes mL ty rm As D wc tc post w1)
    (h1 : Cond.methodLink own index y ∈ lw_all) (h2 : Cond.static y ∈ lw_all) (h3 : Cond.initialized y.cls ∈ lw_all) (h4 : Cond.code y bytes mL (some ty) ∈ lw_all) (hd : y.cls ≠ "java/lang/invoke/MethodHandle" ∧ y.cls ≠ "java/lang/invoke/VarHandle" ∧ (parseMethodDescriptor y.desc).map (fun d => d.parameters.length) = some na) (hna : As.length = na)
    (hRf : rm.frames + 1 ≤ R.frames) (hRl : 8 + (mL + 11) + rm.locals ≤ R.locals) (isC isR it : List Nat) (hnC : va_nd isC = true) (hsC : isC.filterMap (fun i => ws[i]?) = wc) (hC : isC.map (fun i => ws[i]?) = wc.map some) (hR : isR.map (fun i => ws[i]?) = wr.map some) (hn : va_nd isR = true) (hdis : ∀ i ∈ isR, i ∉ isC) (ht : it.filterMap (fun i => tys[i]?) = tc)
    (hsz : ls.size = nL) (hstk : stk = As.reverse ++ rest) (hrm : (rest.map fun v => v.category).sum ≤ 8) (hdg : decode cc pc = .ok (.invokestatic index, 3)) (hcR : cells + rm.cells ≤ R.cells) (hsR : slots + rm.slots ≤ R.slots) (hck : cells + rm.cells ≤ k) (hsn : slots + rm.slots ≤ n)
    (kk : ∀ (r : Int32) (u : S) (H1 : Heap) (locs1 : List Loc), post r u → sdZ D A s (wr ++ w1 u) H1 locs1 → W p l e R s m args below meth c H1 locs1 k n Q (F0 m (pc + 3) ls (.int r :: rest))) : W p l e R s m args below meth c H locs cells slots Q (F0 m pc ls stk) := by
  obtain ⟨hPc, hDc⟩ := sdCut Z isC hnC hsC hC
  have hKc := X.2.1.sub it ht
  have hF := va_free Z.2.1 Z.2.2 X.2.2 isC hC
  refine va_calli (va_runS (As := As) (rest := rest) X.1 (hM H.size) (va_cwS na X.1.2.2.2.2 (lw_S h1 h2 h3 h4) rfl rfl rfl hd ⟨hRf, hRl⟩) ⟨sdBlind, fun U hU hW => sdPre hPc hKc hDc U hU hW⟩ rfl hna hsz hstk (lv_room hrm) hdg ⟨hcR, hsR⟩) Z.2.2 (fun q _ h => hF q h) hF (fun r u t H1 locs1 hth hvm hw hB hz1 hk1 hS => ?_)
  obtain ⟨hP1, hD1⟩ := hB
  rw [hth] at hP1
  exact W.widen hck hsn (kk r u H1 locs1 hw (sdJoin Z isC isR hC hR hn hdis hk1 hF hP1 hD1 hS))
theorem sdX.app {t1 : List (ClassId × FieldType)} (X : sdX p s m args c cc nL own D tys A) (h : va_K D vwCl t1 s) : sdX p s m args c cc nL own D (tys ++ t1) A := ⟨X.1, ⟨X.2.1.1.app h, X.2.1.2⟩, X.2.2⟩
/-- a static call, an array comes back -/
theorem sdCall_sr {S : Type} {y : MethodName} {bytes : ByteArray} {mL index k n na : Nat} {ty : FieldType} {rm : Room} {As stk : List Value} {wc wr : va_W} {tc : List (ClassId × FieldType)} {post : S → Prop} {w1 : S → Nat → va_W} {t1 : S → List (ClassId × FieldType)} (X : sdX p s m args c cc nL own D tys A) (Z : sdZ D A s ws H locs) (hM : sdMr l y bytes mL ty rm As D wc tc post w1 t1)
    (h1 : Cond.methodLink own index y ∈ lw_all) (h2 : Cond.static y ∈ lw_all) (h3 : Cond.initialized y.cls ∈ lw_all) (h4 : Cond.code y bytes mL (some ty) ∈ lw_all) (hd : y.cls ≠ "java/lang/invoke/MethodHandle" ∧ y.cls ≠ "java/lang/invoke/VarHandle" ∧ (parseMethodDescriptor y.desc).map (fun d => d.parameters.length) = some na) (hna : As.length = na)
    (hRf : rm.frames + 1 ≤ R.frames) (hRl : 8 + (mL + 11) + rm.locals ≤ R.locals) (isC isR it : List Nat) (hnC : va_nd isC = true) (hsC : isC.filterMap (fun i => ws[i]?) = wc) (hC : isC.map (fun i => ws[i]?) = wc.map some) (hR : isR.map (fun i => ws[i]?) = wr.map some) (hn : va_nd isR = true) (hdis : ∀ i ∈ isR, i ∉ isC) (ht : it.filterMap (fun i => tys[i]?) = tc)
    (hsz : ls.size = nL) (hstk : stk = As.reverse ++ rest) (hrm : (rest.map fun v => v.category).sum ≤ 8) (hdg : decode cc pc = .ok (.invokestatic index, 3)) (hcR : cells + rm.cells ≤ R.cells) (hsR : slots + rm.slots ≤ R.slots) (hck : cells + rm.cells ≤ k) (hsn : slots + rm.slots ≤ n)
    (kk : ∀ (u : S) (ra : Nat) (H1 : Heap) (locs1 : List Loc), post u → sdX p s m args c cc nL own D (tys ++ t1 u) A → sdZ D A s (wr ++ w1 u ra) H1 locs1 → W p l e R s m args below meth c H1 locs1 k n Q (F0 m (pc + 3) ls (.ref ra :: rest))) : W p l e R s m args below meth c H locs cells slots Q (F0 m pc ls stk) := by
  obtain ⟨hPc, hDc⟩ := sdCut Z isC hnC hsC hC
  have hKc := X.2.1.sub it ht
  have hF := va_free Z.2.1 Z.2.2 X.2.2 isC hC
  refine va_callr (va_runS (As := As) (rest := rest) X.1 (hM H.size) (va_cwS na X.1.2.2.2.2 (lw_S h1 h2 h3 h4) rfl rfl rfl hd ⟨hRf, hRl⟩) ⟨sdBlind, fun U hU hW => sdPre hPc hKc hDc U hU hW⟩ rfl hna hsz hstk (lv_room hrm) hdg ⟨hcR, hsR⟩) Z.2.2 (fun q _ h => hF q h) hF (fun u ra t H1 locs1 hth hvm hw hB hz1 hk1 hS => ?_)
  obtain ⟨hP1, hD1, hK1⟩ := hB
  rw [hth] at hP1
  exact W.widen hck hsn (kk u ra H1 locs1 hw (X.app (va_K.moved hvm.symm hK1)) (sdJoin Z isC isR hC hR hn hdis hk1 hF hP1 hD1 hS))
/-- a call through a desk, nothing comes back -/
theorem sdCall_vv {S : Type} {y : MethodName} {bytes : ByteArray} {mL index k n q0 na : Nat} {b : Nat} {fs : List Value} {rm : Room} {As stk : List Value} {wc wr : va_W} {tc : List (ClassId × FieldType)} {post : S → Prop} {w1 : S → va_W} (X : sdX p s m args c cc nL own D tys A) (Z : sdZ D A s ws H locs) (hM : sdMv l y bytes mL rm (.ref b :: As) D wc tc post w1) (he : ws[q0]? = some (b, .inr (0, fs)))
    (h1 : Cond.methodLink own index y ∈ lw_all) (h2 : Cond.instanceMethod y ∈ lw_all) (h3 : Cond.selects RX1 y y ∈ lw_all) (h4 : Cond.initialized RX1 ∈ lw_all) (h5 : Cond.code y bytes mL none ∈ lw_all) (hd : y.cls = RX1 ∧ y.cls ≠ "java/lang/invoke/MethodHandle" ∧ y.cls ≠ "java/lang/invoke/VarHandle" ∧ (parseMethodDescriptor y.desc).map (fun d => d.parameters.length) = some na) (hna : As.length = na)
    (hRf : rm.frames + 1 ≤ R.frames) (hRl : 8 + (mL + 11) + rm.locals ≤ R.locals) (isC isR it : List Nat) (hnC : va_nd isC = true) (hsC : isC.filterMap (fun i => ws[i]?) = wc) (hC : isC.map (fun i => ws[i]?) = wc.map some) (hR : isR.map (fun i => ws[i]?) = wr.map some) (hn : va_nd isR = true) (hdis : ∀ i ∈ isR, i ∉ isC) (ht : it.filterMap (fun i => tys[i]?) = tc)
    (hsz : ls.size = nL) (hstk : stk = As.reverse ++ .ref b :: rest) (hrm : (rest.map fun v => v.category).sum ≤ 8) (hdg : decode cc pc = .ok (.invokevirtual index, 3)) (hcR : cells + rm.cells ≤ R.cells) (hsR : slots + rm.slots ≤ R.slots) (hck : cells + rm.cells ≤ k) (hsn : slots + rm.slots ≤ n)
    (kk : ∀ (u : S) (H1 : Heap) (locs1 : List Loc), post u → sdZ D A s (wr ++ w1 u) H1 locs1 → W p l e R s m args below meth c H1 locs1 k n Q (F0 m (pc + 3) ls rest)) : W p l e R s m args below meth c H locs cells slots Q (F0 m pc ls stk) := by
  obtain ⟨hPc, hDc⟩ := sdCut Z isC hnC hsC hC
  have hKc := X.2.1.sub it ht
  have hF := va_free Z.2.1 Z.2.2 X.2.2 isC hC
  refine va_callv (va_runV (C := RX1) (As := As) (rest := rest) X.1 (hM H.size) (cwV na X.1.2.2.2.2 (lw_V h1 h2 h3 h4 h5) rfl rfl rfl hd ⟨hRf, hRl⟩) ⟨sdBlind, va_recv X.2.1.1 Z.1 (ci := 0) (q := (RX1, TX1, 1)) rfl he, fun U hU hW => sdPre hPc hKc hDc U hU hW⟩ rfl hna hsz hstk (lv_room hrm) hdg ⟨hcR, hsR⟩) Z.2.2 (fun q _ h => hF q h) hF (fun u t H1 locs1 hth hvm hw hB hz1 hk1 hS => ?_)
  obtain ⟨hP1, hD1⟩ := hB
  rw [hth] at hP1
  exact W.widen hck hsn (kk u H1 locs1 hw (sdJoin Z isC isR hC hR hn hdis hk1 hF hP1 hD1 hS))
/-- a call through a desk, an int comes back -/
theorem sdCall_vi {S : Type} {y : MethodName} {bytes : ByteArray} {mL index k n q0 na : Nat} {b : Nat} {fs : List Value} {ty : FieldType} {rm : Room} {As stk : List Value} {wc wr : va_W} {tc : List (ClassId × FieldType)} {post : Int32 → S → Prop} {w1 : S → va_W} (X : sdX p s m args c cc nL own D tys A) (Z : sdZ D A s ws H locs) (hM : sdMi l y bytes mL ty rm (.ref b :: As) D wc tc post w1) (he : ws[q0]? = some (b, .inr (0, fs)))
    (h1 : Cond.methodLink own index y ∈ lw_all) (h2 : Cond.instanceMethod y ∈ lw_all) (h3 : Cond.selects RX1 y y ∈ lw_all) (h4 : Cond.initialized RX1 ∈ lw_all) (h5 : Cond.code y bytes mL (some ty) ∈ lw_all) (hd : y.cls = RX1 ∧ y.cls ≠ "java/lang/invoke/MethodHandle" ∧ y.cls ≠ "java/lang/invoke/VarHandle" ∧ (parseMethodDescriptor y.desc).map (fun d => d.parameters.length) = some na) (hna : As.length = na)
    (hRf : rm.frames + 1 ≤ R.frames) (hRl : 8 + (mL + 11) + rm.locals ≤ R.locals) (isC isR it : List Nat) (hnC : va_nd isC = true) (hsC : isC.filterMap (fun i => ws[i]?) = wc) (hC : isC.map (fun i => ws[i]?) = wc.map some) (hR : isR.map (fun i => ws[i]?) = wr.map some) (hn : va_nd isR = true) (hdis : ∀ i ∈ isR, i ∉ isC) (ht : it.filterMap (fun i => tys[i]?) = tc)
    (hsz : ls.size = nL) (hstk : stk = As.reverse ++ .ref b :: rest) (hrm : (rest.map fun v => v.category).sum ≤ 8) (hdg : decode cc pc = .ok (.invokevirtual index, 3)) (hcR : cells + rm.cells ≤ R.cells) (hsR : slots + rm.slots ≤ R.slots) (hck : cells + rm.cells ≤ k) (hsn : slots + rm.slots ≤ n)
    (kk : ∀ (r : Int32) (u : S) (H1 : Heap) (locs1 : List Loc), post r u → sdZ D A s (wr ++ w1 u) H1 locs1 → W p l e R s m args below meth c H1 locs1 k n Q (F0 m (pc + 3) ls (.int r :: rest))) : W p l e R s m args below meth c H locs cells slots Q (F0 m pc ls stk) := by
  obtain ⟨hPc, hDc⟩ := sdCut Z isC hnC hsC hC
  have hKc := X.2.1.sub it ht
  have hF := va_free Z.2.1 Z.2.2 X.2.2 isC hC
  refine va_calli (va_runV (C := RX1) (As := As) (rest := rest) X.1 (hM H.size) (cwV na X.1.2.2.2.2 (lw_V h1 h2 h3 h4 h5) rfl rfl rfl hd ⟨hRf, hRl⟩) ⟨sdBlind, va_recv X.2.1.1 Z.1 (ci := 0) (q := (RX1, TX1, 1)) rfl he, fun U hU hW => sdPre hPc hKc hDc U hU hW⟩ rfl hna hsz hstk (lv_room hrm) hdg ⟨hcR, hsR⟩) Z.2.2 (fun q _ h => hF q h) hF (fun r u t H1 locs1 hth hvm hw hB hz1 hk1 hS => ?_)
  obtain ⟨hP1, hD1⟩ := hB
  rw [hth] at hP1
  exact W.widen hck hsn (kk r u H1 locs1 hw (sdJoin Z isC isR hC hR hn hdis hk1 hF hP1 hD1 hS))
/-! rows on numbers written nI n -/
theorem sd_top {x y : Int32} (h : x = y) (k : W p l e R s m args below meth c H locs cells slots Q (F0 m pc ls (.int y :: rest))) : W p l e R s m args below meth c H locs cells slots Q (F0 m pc ls (.int x :: rest)) := by
  rw [h]; exact k
theorem sd_inc (a : Nat) : nI a + Int32.ofInt 1 = nI (a + 1) := nI_1 a
theorem sd_dec {a : Nat} (h : 1 ≤ a) : nI a + Int32.ofInt (-1) = nI (a - 1) := by
  obtain ⟨b, rfl⟩ : ∃ b, a = b + 1 := ⟨a - 1, by omega⟩
  exact pk_m1 b
theorem sd_iadd (hx : p.tables.exec = Jvm.exec) (hb : c.code = cc) (hdg : decode cc pc = .ok (.iadd, 1)) {a b k : Nat} (hk : a + b = k) (kk : W p l e R s m args below meth c H locs cells slots Q (F0 m (pc + 1) ls (.int (nI k) :: rest))) : W p l e R s m args below meth c H locs cells slots Q (F0 m pc ls (.int (nI b) :: .int (nI a) :: rest)) := by
  subst hk
  refine lv_iadd hx hb hdg ?_
  rw [nI_add]
  exact kk
theorem sd_isub (hx : p.tables.exec = Jvm.exec) (hb : c.code = cc) (hdg : decode cc pc = .ok (.isub, 1)) {a b k : Nat} (hle : b ≤ a) (hk : a - b = k) (kk : W p l e R s m args below meth c H locs cells slots Q (F0 m (pc + 1) ls (.int (nI k) :: rest))) : W p l e R s m args below meth c H locs cells slots Q (F0 m pc ls (.int (nI b) :: .int (nI a) :: rest)) := by
  subst hk
  refine lv_isub hx hb hdg ?_
  rw [pk_sub hle]
  exact kk
theorem sd_ne0 {d : Nat} (h0 : 0 < d) (hd : d < 2 ^ 31) : ¬ nI d = 0 := nI_ne0 h0 hd
theorem sd_idiv (hx : p.tables.exec = Jvm.exec) (hb : c.code = cc) (hdg : decode cc pc = .ok (.idiv, 1)) {a d k : Nat} (ha : a < 2 ^ 31) (h0 : 0 < d) (hd : d < 2 ^ 31) (hk : a / d = k) (kk : W p l e R s m args below meth c H locs cells slots Q (F0 m (pc + 1) ls (.int (nI k) :: rest))) : W p l e R s m args below meth c H locs cells slots Q (F0 m pc ls (.int (nI d) :: .int (nI a) :: rest)) := by
  subst hk
  refine lv_idiv hx hb hdg (nI_ne0 h0 hd) ?_
  rw [pk_div ha h0 hd]
  exact kk
theorem sd_irem (hx : p.tables.exec = Jvm.exec) (hb : c.code = cc) (hdg : decode cc pc = .ok (.irem, 1)) {a d k : Nat} (ha : a < 2 ^ 31) (h0 : 0 < d) (hd : d < 2 ^ 31) (hk : a % d = k) (kk : W p l e R s m args below meth c H locs cells slots Q (F0 m (pc + 1) ls (.int (nI k) :: rest))) : W p l e R s m args below meth c H locs cells slots Q (F0 m pc ls (.int (nI d) :: .int (nI a) :: rest)) := by
  subst hk
  refine lv_irem hx hb hdg (nI_ne0 h0 hd) ?_
  rw [pk_rem ha h0 hd]
  exact kk
theorem sd_tlt (hx : p.tables.exec = Jvm.exec) (hb : c.code = cc) {x y : Int32} {off : Int} {tgt : Nat} (hdg : decode cc pc = .ok (.if_icmp .lt off, 3)) (ht : (pc : Int) + off = (tgt : Int)) (kt : x.toInt < y.toInt → W p l e R s m args below meth c H locs cells slots Q (F0 m tgt ls rest)) (kf : y.toInt ≤ x.toInt → W p l e R s m args below meth c H locs cells slots Q (F0 m (pc + 3) ls rest)) : W p l e R s m args below meth c H locs cells slots Q (F0 m pc ls (.int y :: .int x :: rest)) := by
  refine lv_icmp_lt hx hb hdg ht (fun h => kt ?_) (fun h => kf ?_) <;> simp only [fa_lt, fa_le, fa_eq, ne_eq, Int32.not_lt, Int32.not_le, ge_iff_le, gt_iff_lt] at h ⊢ <;> omega
theorem sd_zlt (hx : p.tables.exec = Jvm.exec) (hb : c.code = cc) {x : Int32} {off : Int} {tgt : Nat} (hdg : decode cc pc = .ok (.ifCond .lt off, 3)) (ht : (pc : Int) + off = (tgt : Int)) (kt : x.toInt < 0 → W p l e R s m args below meth c H locs cells slots Q (F0 m tgt ls rest)) (kf : 0 ≤ x.toInt → W p l e R s m args below meth c H locs cells slots Q (F0 m (pc + 3) ls rest)) : W p l e R s m args below meth c H locs cells slots Q (F0 m pc ls (.int x :: rest)) := by
  have h0 : (0 : Int32).toInt = 0 := rfl
  refine lv_if_lt hx hb hdg ht (fun h => kt ?_) (fun h => kf ?_) <;> simp only [fa_lt, fa_le, fa_eq, ne_eq, Int32.not_lt, Int32.not_le, ge_iff_le, gt_iff_lt, h0] at h ⊢ <;> omega
theorem sd_nlt (hx : p.tables.exec = Jvm.exec) (hb : c.code = cc) {a b : Nat} {off : Int} {tgt : Nat} (hdg : decode cc pc = .ok (.if_icmp .lt off, 3)) (ht : (pc : Int) + off = (tgt : Int)) (ha : a < 2 ^ 31) (hb2 : b < 2 ^ 31) (kt : a < b → W p l e R s m args below meth c H locs cells slots Q (F0 m tgt ls rest)) (kf : b ≤ a → W p l e R s m args below meth c H locs cells slots Q (F0 m (pc + 3) ls rest)) : W p l e R s m args below meth c H locs cells slots Q (F0 m pc ls (.int (nI b) :: .int (nI a) :: rest)) := by
  have e1 := nI_toInt ha
  have e2 := nI_toInt hb2
  exact sd_tlt hx hb hdg ht (fun h => kt (by omega)) (fun h => kf (by omega))
theorem sd_tge (hx : p.tables.exec = Jvm.exec) (hb : c.code = cc) {x y : Int32} {off : Int} {tgt : Nat} (hdg : decode cc pc = .ok (.if_icmp .ge off, 3)) (ht : (pc : Int) + off = (tgt : Int)) (kt : y.toInt ≤ x.toInt → W p l e R s m args below meth c H locs cells slots Q (F0 m tgt ls rest)) (kf : x.toInt < y.toInt → W p l e R s m args below meth c H locs cells slots Q (F0 m (pc + 3) ls rest)) : W p l e R s m args below meth c H locs cells slots Q (F0 m pc ls (.int y :: .int x :: rest)) := by
  refine lv_icmp_ge hx hb hdg ht (fun h => kt ?_) (fun h => kf ?_) <;> simp only [fa_lt, fa_le, fa_eq, ne_eq, Int32.not_lt, Int32.not_le, ge_iff_le, gt_iff_lt] at h ⊢ <;> omega
theorem sd_zge (hx : p.tables.exec = Jvm.exec) (hb : c.code = cc) {x : Int32} {off : Int} {tgt : Nat} (hdg : decode cc pc = .ok (.ifCond .ge off, 3)) (ht : (pc : Int) + off = (tgt : Int)) (kt : 0 ≤ x.toInt → W p l e R s m args below meth c H locs cells slots Q (F0 m tgt ls rest)) (kf : x.toInt < 0 → W p l e R s m args below meth c H locs cells slots Q (F0 m (pc + 3) ls rest)) : W p l e R s m args below meth c H locs cells slots Q (F0 m pc ls (.int x :: rest)) := by
  have h0 : (0 : Int32).toInt = 0 := rfl
  refine lv_if_ge hx hb hdg ht (fun h => kt ?_) (fun h => kf ?_) <;> simp only [fa_lt, fa_le, fa_eq, ne_eq, Int32.not_lt, Int32.not_le, ge_iff_le, gt_iff_lt, h0] at h ⊢ <;> omega
theorem sd_nge (hx : p.tables.exec = Jvm.exec) (hb : c.code = cc) {a b : Nat} {off : Int} {tgt : Nat} (hdg : decode cc pc = .ok (.if_icmp .ge off, 3)) (ht : (pc : Int) + off = (tgt : Int)) (ha : a < 2 ^ 31) (hb2 : b < 2 ^ 31) (kt : b ≤ a → W p l e R s m args below meth c H locs cells slots Q (F0 m tgt ls rest)) (kf : a < b → W p l e R s m args below meth c H locs cells slots Q (F0 m (pc + 3) ls rest)) : W p l e R s m args below meth c H locs cells slots Q (F0 m pc ls (.int (nI b) :: .int (nI a) :: rest)) := by
  have e1 := nI_toInt ha
  have e2 := nI_toInt hb2
  exact sd_tge hx hb hdg ht (fun h => kt (by omega)) (fun h => kf (by omega))
theorem sd_tgt (hx : p.tables.exec = Jvm.exec) (hb : c.code = cc) {x y : Int32} {off : Int} {tgt : Nat} (hdg : decode cc pc = .ok (.if_icmp .gt off, 3)) (ht : (pc : Int) + off = (tgt : Int)) (kt : y.toInt < x.toInt → W p l e R s m args below meth c H locs cells slots Q (F0 m tgt ls rest)) (kf : x.toInt ≤ y.toInt → W p l e R s m args below meth c H locs cells slots Q (F0 m (pc + 3) ls rest)) : W p l e R s m args below meth c H locs cells slots Q (F0 m pc ls (.int y :: .int x :: rest)) := by
  refine lv_icmp_gt hx hb hdg ht (fun h => kt ?_) (fun h => kf ?_) <;> simp only [fa_lt, fa_le, fa_eq, ne_eq, Int32.not_lt, Int32.not_le, ge_iff_le, gt_iff_lt] at h ⊢ <;> omega
theorem sd_zgt (hx : p.tables.exec = Jvm.exec) (hb : c.code = cc) {x : Int32} {off : Int} {tgt : Nat} (hdg : decode cc pc = .ok (.ifCond .gt off, 3)) (ht : (pc : Int) + off = (tgt : Int)) (kt : 0 < x.toInt → W p l e R s m args below meth c H locs cells slots Q (F0 m tgt ls rest)) (kf : x.toInt ≤ 0 → W p l e R s m args below meth c H locs cells slots Q (F0 m (pc + 3) ls rest)) : W p l e R s m args below meth c H locs cells slots Q (F0 m pc ls (.int x :: rest)) := by
  have h0 : (0 : Int32).toInt = 0 := rfl
  refine lv_if_gt hx hb hdg ht (fun h => kt ?_) (fun h => kf ?_) <;> simp only [fa_lt, fa_le, fa_eq, ne_eq, Int32.not_lt, Int32.not_le, ge_iff_le, gt_iff_lt, h0] at h ⊢ <;> omega
theorem sd_ngt (hx : p.tables.exec = Jvm.exec) (hb : c.code = cc) {a b : Nat} {off : Int} {tgt : Nat} (hdg : decode cc pc = .ok (.if_icmp .gt off, 3)) (ht : (pc : Int) + off = (tgt : Int)) (ha : a < 2 ^ 31) (hb2 : b < 2 ^ 31) (kt : b < a → W p l e R s m args below meth c H locs cells slots Q (F0 m tgt ls rest)) (kf : a ≤ b → W p l e R s m args below meth c H locs cells slots Q (F0 m (pc + 3) ls rest)) : W p l e R s m args below meth c H locs cells slots Q (F0 m pc ls (.int (nI b) :: .int (nI a) :: rest)) := by
  have e1 := nI_toInt ha
  have e2 := nI_toInt hb2
  exact sd_tgt hx hb hdg ht (fun h => kt (by omega)) (fun h => kf (by omega))
theorem sd_tle (hx : p.tables.exec = Jvm.exec) (hb : c.code = cc) {x y : Int32} {off : Int} {tgt : Nat} (hdg : decode cc pc = .ok (.if_icmp .le off, 3)) (ht : (pc : Int) + off = (tgt : Int)) (kt : x.toInt ≤ y.toInt → W p l e R s m args below meth c H locs cells slots Q (F0 m tgt ls rest)) (kf : y.toInt < x.toInt → W p l e R s m args below meth c H locs cells slots Q (F0 m (pc + 3) ls rest)) : W p l e R s m args below meth c H locs cells slots Q (F0 m pc ls (.int y :: .int x :: rest)) := by
  refine lv_icmp_le hx hb hdg ht (fun h => kt ?_) (fun h => kf ?_) <;> simp only [fa_lt, fa_le, fa_eq, ne_eq, Int32.not_lt, Int32.not_le, ge_iff_le, gt_iff_lt] at h ⊢ <;> omega
theorem sd_zle (hx : p.tables.exec = Jvm.exec) (hb : c.code = cc) {x : Int32} {off : Int} {tgt : Nat} (hdg : decode cc pc = .ok (.ifCond .le off, 3)) (ht : (pc : Int) + off = (tgt : Int)) (kt : x.toInt ≤ 0 → W p l e R s m args below meth c H locs cells slots Q (F0 m tgt ls rest)) (kf : 0 < x.toInt → W p l e R s m args below meth c H locs cells slots Q (F0 m (pc + 3) ls rest)) : W p l e R s m args below meth c H locs cells slots Q (F0 m pc ls (.int x :: rest)) := by
  have h0 : (0 : Int32).toInt = 0 := rfl
  refine lv_if_le hx hb hdg ht (fun h => kt ?_) (fun h => kf ?_) <;> simp only [fa_lt, fa_le, fa_eq, ne_eq, Int32.not_lt, Int32.not_le, ge_iff_le, gt_iff_lt, h0] at h ⊢ <;> omega
theorem sd_nle (hx : p.tables.exec = Jvm.exec) (hb : c.code = cc) {a b : Nat} {off : Int} {tgt : Nat} (hdg : decode cc pc = .ok (.if_icmp .le off, 3)) (ht : (pc : Int) + off = (tgt : Int)) (ha : a < 2 ^ 31) (hb2 : b < 2 ^ 31) (kt : a ≤ b → W p l e R s m args below meth c H locs cells slots Q (F0 m tgt ls rest)) (kf : b < a → W p l e R s m args below meth c H locs cells slots Q (F0 m (pc + 3) ls rest)) : W p l e R s m args below meth c H locs cells slots Q (F0 m pc ls (.int (nI b) :: .int (nI a) :: rest)) := by
  have e1 := nI_toInt ha
  have e2 := nI_toInt hb2
  exact sd_tle hx hb hdg ht (fun h => kt (by omega)) (fun h => kf (by omega))
theorem sd_teq (hx : p.tables.exec = Jvm.exec) (hb : c.code = cc) {x y : Int32} {off : Int} {tgt : Nat} (hdg : decode cc pc = .ok (.if_icmp .eq off, 3)) (ht : (pc : Int) + off = (tgt : Int)) (kt : x.toInt = y.toInt → W p l e R s m args below meth c H locs cells slots Q (F0 m tgt ls rest)) (kf : x.toInt ≠ y.toInt → W p l e R s m args below meth c H locs cells slots Q (F0 m (pc + 3) ls rest)) : W p l e R s m args below meth c H locs cells slots Q (F0 m pc ls (.int y :: .int x :: rest)) := by
  refine lv_icmp_eq hx hb hdg ht (fun h => kt ?_) (fun h => kf ?_) <;> simp only [fa_lt, fa_le, fa_eq, ne_eq, Int32.not_lt, Int32.not_le, ge_iff_le, gt_iff_lt] at h ⊢ <;> omega
theorem sd_zeq (hx : p.tables.exec = Jvm.exec) (hb : c.code = cc) {x : Int32} {off : Int} {tgt : Nat} (hdg : decode cc pc = .ok (.ifCond .eq off, 3)) (ht : (pc : Int) + off = (tgt : Int)) (kt : x.toInt = 0 → W p l e R s m args below meth c H locs cells slots Q (F0 m tgt ls rest)) (kf : x.toInt ≠ 0 → W p l e R s m args below meth c H locs cells slots Q (F0 m (pc + 3) ls rest)) : W p l e R s m args below meth c H locs cells slots Q (F0 m pc ls (.int x :: rest)) := by
  have h0 : (0 : Int32).toInt = 0 := rfl
  refine lv_if_eq hx hb hdg ht (fun h => kt ?_) (fun h => kf ?_) <;> simp only [fa_lt, fa_le, fa_eq, ne_eq, Int32.not_lt, Int32.not_le, ge_iff_le, gt_iff_lt, h0] at h ⊢ <;> omega
theorem sd_neq (hx : p.tables.exec = Jvm.exec) (hb : c.code = cc) {a b : Nat} {off : Int} {tgt : Nat} (hdg : decode cc pc = .ok (.if_icmp .eq off, 3)) (ht : (pc : Int) + off = (tgt : Int)) (ha : a < 2 ^ 31) (hb2 : b < 2 ^ 31) (kt : a = b → W p l e R s m args below meth c H locs cells slots Q (F0 m tgt ls rest)) (kf : a ≠ b → W p l e R s m args below meth c H locs cells slots Q (F0 m (pc + 3) ls rest)) : W p l e R s m args below meth c H locs cells slots Q (F0 m pc ls (.int (nI b) :: .int (nI a) :: rest)) := by
  have e1 := nI_toInt ha
  have e2 := nI_toInt hb2
  exact sd_teq hx hb hdg ht (fun h => kt (by omega)) (fun h => kf (by omega))
theorem sd_tne (hx : p.tables.exec = Jvm.exec) (hb : c.code = cc) {x y : Int32} {off : Int} {tgt : Nat} (hdg : decode cc pc = .ok (.if_icmp .ne off, 3)) (ht : (pc : Int) + off = (tgt : Int)) (kt : x.toInt ≠ y.toInt → W p l e R s m args below meth c H locs cells slots Q (F0 m tgt ls rest)) (kf : x.toInt = y.toInt → W p l e R s m args below meth c H locs cells slots Q (F0 m (pc + 3) ls rest)) : W p l e R s m args below meth c H locs cells slots Q (F0 m pc ls (.int y :: .int x :: rest)) := by
  refine lv_icmp_ne hx hb hdg ht (fun h => kt ?_) (fun h => kf ?_) <;> simp only [fa_lt, fa_le, fa_eq, ne_eq, Int32.not_lt, Int32.not_le, ge_iff_le, gt_iff_lt] at h ⊢ <;> omega
theorem sd_zne (hx : p.tables.exec = Jvm.exec) (hb : c.code = cc) {x : Int32} {off : Int} {tgt : Nat} (hdg : decode cc pc = .ok (.ifCond .ne off, 3)) (ht : (pc : Int) + off = (tgt : Int)) (kt : x.toInt ≠ 0 → W p l e R s m args below meth c H locs cells slots Q (F0 m tgt ls rest)) (kf : x.toInt = 0 → W p l e R s m args below meth c H locs cells slots Q (F0 m (pc + 3) ls rest)) : W p l e R s m args below meth c H locs cells slots Q (F0 m pc ls (.int x :: rest)) := by
  have h0 : (0 : Int32).toInt = 0 := rfl
  refine lv_if_ne hx hb hdg ht (fun h => kt ?_) (fun h => kf ?_) <;> simp only [fa_lt, fa_le, fa_eq, ne_eq, Int32.not_lt, Int32.not_le, ge_iff_le, gt_iff_lt, h0] at h ⊢ <;> omega
theorem sd_nne (hx : p.tables.exec = Jvm.exec) (hb : c.code = cc) {a b : Nat} {off : Int} {tgt : Nat} (hdg : decode cc pc = .ok (.if_icmp .ne off, 3)) (ht : (pc : Int) + off = (tgt : Int)) (ha : a < 2 ^ 31) (hb2 : b < 2 ^ 31) (kt : a ≠ b → W p l e R s m args below meth c H locs cells slots Q (F0 m tgt ls rest)) (kf : a = b → W p l e R s m args below meth c H locs cells slots Q (F0 m (pc + 3) ls rest)) : W p l e R s m args below meth c H locs cells slots Q (F0 m pc ls (.int (nI b) :: .int (nI a) :: rest)) := by
  have e1 := nI_toInt ha
  have e2 := nI_toInt hb2
  exact sd_tne hx hb hdg ht (fun h => kt (by omega)) (fun h => kf (by omega))
/-! rows on arrays of shorts -/
theorem sd_vin {k n : Nat} (hk : k < n) (hn : n ≤ 48) : vp_in (nI k) n := vp_in_nI hk (by omega)
theorem sd_sld (X : sdX p s m args c cc nL own D tys A) (Z : sdZ D A s ws H locs) (q0 t0 : Nat) {a n k : Nat} {cA : ClassId} {F : Nat → Int32} (ha : ws[q0]? = some (a, .inl (cA, n, .inl F))) (ht : tys[t0]? = some (cA, .short)) (hk : k < n) (hn : n ≤ 48) (hdg : decode cc pc = .ok (.saload, 1))
    (kk : W p l e R s m args below meth c H locs cells slots Q (F0 m (pc + 1) ls (.int (F k) :: rest))) : W p l e R s m args below meth c H locs cells slots Q (F0 m pc ls (.int (nI k) :: .ref a :: rest)) := by
  refine va_sald X.1.1 X.1.2.1 X.2.1.1 Z.1 q0 t0 ha ht (sd_vin hk hn) hdg ?_
  rw [nI_clamp (by omega : k < 2 ^ 31)]
  exact kk
theorem sd_sst (X : sdX p s m args c cc nL own D tys A) (Z : sdZ D A s ws H locs) (q0 t0 : Nat) {a n k : Nat} {cA : ClassId} {F : Nat → Int32} {v : Int32} (ha : ws[q0]? = some (a, .inl (cA, n, .inl F))) (ht : tys[t0]? = some (cA, .short)) (hk : k < n) (hn : n ≤ 48) (hv : vp_nar .short v = v) (hdg : decode cc pc = .ok (.sastore, 1))
    (kk : ∀ (H1 : Heap) (locs1 : List Loc), sdZ D A s (ws.set q0 (a, .inl (cA, n, .inl (upd F k v)))) H1 locs1 → W p l e R s m args below meth c H1 locs1 cells slots Q (F0 m (pc + 1) ls rest)) : W p l e R s m args below meth c H locs cells slots Q (F0 m pc ls (.int v :: .int (nI k) :: .ref a :: rest)) := by
  refine va_sast X.1.1 X.1.2.1 X.2.1.1 Z.1 Z.2.1 Z.2.2 q0 t0 ha ht (sd_vin hk hn) hdg (fun H1 locs1 hP hD hS => ?_)
  rw [nI_clamp (by omega : k < 2 ^ 31), hv] at hP hD
  exact kk H1 locs1 ⟨hP, hD, hS⟩
theorem sd_new (X : sdX p s m args c cc nL own D tys A) (Z : sdZ D A s ws H locs) {n : Nat} (hn : n ≤ 48) (hc : cells + 1 ≤ R.cells) (hs : slots + n ≤ R.slots) (hdg : decode cc pc = .ok (.newarray .short, 2))
    (kk : ∀ (q : Nat) (cA : ClassId) (H1 : Heap), sdX p s m args c cc nL own D (tys ++ [(cA, .short)]) A → sdZ D A s (ws ++ [sdA q cA n (fun _ => 0)]) H1 locs → W p l e R s m args below meth c H1 locs (cells + 1) (slots + n) Q (F0 m (pc + 2) ls (.ref q :: rest))) : W p l e R s m args below meth c H locs cells slots Q (F0 m pc ls (.int (nI n) :: rest)) := by
  refine va_newa (atype := .short) (ty := .short) (a0 := (n, .inl (fun _ => 0))) X.1.1 X.1.2.1 (X.1.2.2.2.2 _ q21) rfl X.2.1.1 Z.1 Z.2.1 Z.2.2 X.2.2 (fun cA => rfl) (nI_pos (by omega)) (nI_clamp (by omega)) (by simp only [componentBytes]; omega) hc hs hdg (fun q cA H1 hK hP hD hS => ?_)
  exact kk q cA H1 ⟨X.1, ⟨hK, X.2.1.2⟩, X.2.2⟩ ⟨hP, hD, hS⟩
/-- the desk's row -/
theorem sd_row (X : sdX p s m args c cc nL RX1 D tys A) (Z : sdZ D A s ws H locs) (q0 : Nat) {d r : Nat} (he : ws[q0]? = some (sdO d r)) (hdg : decode cc pc = .ok (.getfield 7, 3))
    (kk : W p l e R s m args below meth c H locs cells slots Q (F0 m (pc + 3) ls (.ref r :: rest))) : W p l e R s m args below meth c H locs cells slots Q (F0 m pc ls (.ref d :: rest)) :=
  va_get (D := D) (cl := vwCl) (ci := 0) (v := .ref r) (C := RX1) (T := TX1) (N := 1) X.1.1 X.1.2.1 X.1.2.2.2.2 in_X1 X.1.2.2.2.1 X.2.1.1 Z.1 q0 he rfl 0 (by decide) (X.1.2.2.2.2 _ q17) (fun _ h9 => h9) rfl hdg kk
end SD
end
section
/-! THE PLAIN LAW: rows of shorts, rearranged and sorted; no program in sight -/
/-- every number of the row is a short -/
def Sh (F : Nat → Int32) : Prop := ∀ k, vp_nar .short (F k) = F k
theorem nar_cut (x : Int32) : vp_nar .short x.toInt16.toInt32 = x.toInt16.toInt32 := by
  rw [vp_nar_short, fb_short_twice]
theorem nar_rng {x : Int32} (h : vp_nar .short x = x) : -32768 ≤ x.toInt ∧ x.toInt < 32768 := by
  have h1 := fb_short_rng x
  rw [vp_nar_short] at h
  rw [h] at h1
  exact h1
theorem nar_of {x : Int32} (h1 : -32768 ≤ x.toInt) (h2 : x.toInt < 32768) : vp_nar .short x = x := by
  rw [vp_nar_short]
  exact fb_short h1 h2
theorem Sh.rng {F : Nat → Int32} (h : Sh F) (k : Nat) : -32768 ≤ (F k).toInt ∧ (F k).toInt < 32768 := nar_rng (h k)
theorem Sh.zero : Sh (fun _ => 0) := fun _ => (nar_of (x := 0) (by decide) (by decide) : vp_nar .short 0 = 0)
theorem Sh.up {F : Nat → Int32} {i : Nat} {v : Int32} (h : Sh F) (hv : vp_nar .short v = v) : Sh (upd F i v) := by
  intro j
  by_cases hj : j = i
  · subst hj
    rw [pk_us]
    exact hv
  · rw [pk_un hj]
    exact h j
/-- the difference of two shorts -/
theorem sub_rng {x y : Int32} (hx : -32768 ≤ x.toInt ∧ x.toInt < 32768) (hy : -32768 ≤ y.toInt ∧ y.toInt < 32768) : (x - y).toInt = x.toInt - y.toInt := fb_subI (by omega) (by omega)
/-- two places exchanged -/
def swp (F : Nat → Int32) (i j : Nat) : Nat → Int32 := upd (upd F i (F j)) j (F i)
theorem swp_at (F : Nat → Int32) (i j k : Nat) : swp F i j k = if k = j then F i else if k = i then F j else F k := rfl
theorem upd_at (F : Nat → Int32) (i k : Nat) (v : Int32) : upd F i v k = if k = i then v else F k := rfl
/-- how many of the n numbers from a on have the property -/
abbrev ctR (P : Int32 → Bool) (F : Nat → Int32) (a n : Nat) : Nat := fb_ct (fun k => P (F (a + k))) n
theorem ctR_add (P : Int32 → Bool) (F : Nat → Int32) (a m n : Nat) : ctR P F a (m + n) = ctR P F a m + ctR P F (a + m) n := by
  have h := fb_ct_split (fun k => P (F (a + k))) m n
  rw [ctR, h]
  show _ + fb_ct (fun k => P (F (a + (m + k)))) n = _ + fb_ct (fun k => P (F (a + m + k))) n
  congr 1
  exact fb_ct_cong (fun k _ => by rw [Nat.add_assoc])
theorem ctR_cong {P : Int32 → Bool} {F G : Nat → Int32} {a n : Nat} (h : ∀ k, a ≤ k → k < a + n → G k = F k) : ctR P G a n = ctR P F a n :=
  fb_ct_cong (fun k hk => by rw [h (a + k) (by omega) (by omega)])
theorem ctR_up (P : Int32 → Bool) (F : Nat → Int32) {a n i : Nat} (v : Int32) (h1 : a ≤ i) (h2 : i < a + n) : ctR P (upd F i v) a n + (if P (F i) then 1 else 0) = ctR P F a n + (if P v then 1 else 0) := by
  have h := fb_ct_upd (fun k => P (F (a + k))) (P v) (i := i - a) (n := n) (by omega)
  have e : fb_ct (fun k => if k = i - a then P v else P (F (a + k))) n = ctR P (upd F i v) a n := by
    refine fb_ct_cong (fun k hk => ?_)
    rw [upd_at]
    by_cases q : k = i - a
    · rw [if_pos q, if_pos (by omega)]
    · rw [if_neg q, if_neg (by omega)]
  rw [e] at h
  have e2 : a + (i - a) = i := by omega
  rw [e2] at h
  exact h
/-- the same numbers between a and b, each as often -/
def PM (F G : Nat → Int32) (a b : Nat) : Prop := ∀ P : Int32 → Bool, ctR P G a (b - a) = ctR P F a (b - a)
/-- rearranged between a and b; nothing else changes -/
def RA (F G : Nat → Int32) (a b : Nat) : Prop := (∀ k, k < a ∨ b ≤ k → G k = F k) ∧ PM F G a b
theorem RA.rf {F : Nat → Int32} {a b : Nat} : RA F F a b := ⟨fun _ _ => rfl, fun _ => rfl⟩
theorem RA.tr {F G K : Nat → Int32} {a b : Nat} (h1 : RA F G a b) (h2 : RA G K a b) : RA F K a b := ⟨fun k hk => (h2.1 k hk).trans (h1.1 k hk), fun P => (h2.2 P).trans (h1.2 P)⟩
theorem RA.wid {F G : Nat → Int32} {a b a' b' : Nat} (h : RA F G a b) (h1 : a' ≤ a) (h2 : a ≤ b) (h3 : b ≤ b') : RA F G a' b' := by
  refine ⟨fun k hk => h.1 k (by omega), fun P => ?_⟩
  have hsp : ∀ X : Nat → Int32, ctR P X a' (b' - a') = ctR P X a' (a - a') + (ctR P X a (b - a) + ctR P X b (b' - b)) := by
    intro X
    have e1 := ctR_add P X a' (a - a') ((b - a) + (b' - b))
    have e2 := ctR_add P X a (b - a) (b' - b)
    rw [show a' + (a - a') = a by omega] at e1
    rw [show a + (b - a) = b by omega] at e2
    rw [show b' - a' = (a - a') + ((b - a) + (b' - b)) by omega, e1, e2]
  rw [hsp G, hsp F, h.2 P, ctR_cong (F := F) (G := G) (a := a') (fun k _ hk => h.1 k (Or.inl (by omega))), ctR_cong (F := F) (G := G) (a := b) (fun k hk _ => h.1 k (Or.inr hk))]
theorem RA.sw {F : Nat → Int32} {a b i j : Nat} (h1 : a ≤ i) (h2 : i < b) (h3 : a ≤ j) (h4 : j < b) : RA F (swp F i j) a b := by
  refine ⟨fun k hk => ?_, fun P => ?_⟩
  · rw [swp_at, if_neg (by omega), if_neg (by omega)]
  · have e1 := ctR_up P (upd F i (F j)) (a := a) (n := b - a) (i := j) (F i) h3 (by omega)
    have e2 := ctR_up P F (a := a) (n := b - a) (i := i) (F j) h1 (by omega)
    have e3 : upd F i (F j) j = F j := by
      rw [upd_at]
      by_cases q : j = i
      · rw [if_pos q]
      · rw [if_neg q]
    rw [e3] at e1
    show ctR P (upd (upd F i (F j)) j (F i)) a (b - a) = _
    omega
theorem RA.all {F G : Nat → Int32} {a b : Nat} (h : RA F G a b) (P : Int32 → Prop) (hF : ∀ k, a ≤ k → k < b → P (F k)) : ∀ k, a ≤ k → k < b → P (G k) := by
  classical
  intro k hk hb
  have h0 : ctR (fun x => !decide (P x)) F a (b - a) = 0 := fb_ct_zero.mpr (fun j hj => by simp [hF (a + j) (by omega) (by omega)])
  have h1 := h.2 (fun x => !decide (P x))
  rw [h0] at h1
  have h2 := fb_ct_zero.mp h1 (k - a) (by omega)
  rw [show a + (k - a) = k by omega] at h2
  simpa using h2
theorem RA.ex {F G : Nat → Int32} {a b : Nat} (h : RA F G a b) (P : Int32 → Prop) {i : Nat} (h1 : a ≤ i) (h2 : i < b) (hF : P (F i)) : ∃ k, a ≤ k ∧ k < b ∧ P (G k) := by
  classical
  have h0 : 0 < ctR (fun x => decide (P x)) F a (b - a) := fb_ct_pos.mpr ⟨i - a, by omega, by rw [show a + (i - a) = i by omega]; simpa using hF⟩
  rw [← h.2 (fun x => decide (P x))] at h0
  obtain ⟨k, hk, hp⟩ := fb_ct_pos.mp h0
  exact ⟨a + k, by omega, by omega, by simpa using hp⟩
theorem RA.sh {F G : Nat → Int32} {a b : Nat} (h : RA F G a b) (hF : Sh F) : Sh G := by
  intro k
  by_cases q : a ≤ k ∧ k < b
  · exact h.all (fun x => vp_nar .short x = x) (fun j _ _ => hF j) k q.1 q.2
  · rw [h.1 k (by omega)]
    exact hF k
/-- rising between a and b -/
def Sd (F : Nat → Int32) (a b : Nat) : Prop := ∀ i j, a ≤ i → i < j → j < b → (F i).toInt ≤ (F j).toInt
theorem Sd.cong {F G : Nat → Int32} {a b : Nat} (h : Sd F a b) (e : ∀ k, a ≤ k → k < b → G k = F k) : Sd G a b := fun i j h1 h2 h3 => by
  rw [e i h1 (by omega), e j (by omega) h3]
  exact h i j h1 h2 h3
theorem Sd.small {F : Nat → Int32} {a b : Nat} (h : b ≤ a + 1) : Sd F a b := fun i j h1 h2 h3 => by omega
/-- what quickSort leaves -/
theorem Sd.three {F : Nat → Int32} {a u r b : Nat} {v : Int} (h1 : Sd F a u) (h2 : Sd F r b) (lo : ∀ k, a ≤ k → k < u → (F k).toInt < v) (mid : ∀ k, u ≤ k → k < r → (F k).toInt = v) (hi : ∀ k, r ≤ k → k < b → v < (F k).toInt) (hu : u ≤ r) : Sd F a b := by
  intro i j hi1 hij hj
  by_cases p1 : j < u
  · exact h1 i j hi1 hij p1
  · by_cases p2 : r ≤ i
    · exact h2 i j p2 hij hj
    · have x1 : (F i).toInt ≤ v := by
        by_cases p3 : i < u
        · exact Int.le_of_lt (lo i hi1 p3)
        · exact Int.le_of_eq (mid i (by omega) (by omega))
      have x2 : v ≤ (F j).toInt := by
        by_cases p3 : j < r
        · exact Int.le_of_eq (mid j (by omega) p3).symm
        · exact Int.le_of_lt (hi j (by omega) hj)
      omega
/-- sorted out of F between a and b -/
def SO (F G : Nat → Int32) (a b : Nat) : Prop := RA F G a b ∧ Sd G a b
/-! selectionSort -/
/-- i places done, m the least of those from i to j -/
def SelO (F0 F : Nat → Int32) (a b i : Nat) : Prop := RA F0 F a b ∧ Sd F a i ∧ ∀ x y, a ≤ x → x < i → i ≤ y → y < b → (F x).toInt ≤ (F y).toInt
theorem SelO.start {F : Nat → Int32} {a b : Nat} : SelO F F a b a := ⟨RA.rf, Sd.small (by omega), fun x y _ _ _ _ => by omega⟩
theorem SelO.step {F0 F : Nat → Int32} {a b i m : Nat} (h : SelO F0 F a b i) (hi : a ≤ i) (him : i ≤ m) (hm : m < b) (hmin : ∀ k, i ≤ k → k < b → (F m).toInt ≤ (F k).toInt) : SelO F0 (swp F i m) a b (i + 1) := by
  obtain ⟨h1, h2, h3⟩ := h
  refine ⟨h1.tr (RA.sw hi (by omega) (by omega) hm), fun x y hx hxy hy => ?_, fun x y hx1 hx2 hy1 hy2 => ?_⟩
  · have ex : swp F i m x = F x := by rw [swp_at, if_neg (by omega), if_neg (by omega)]
    rw [ex]
    by_cases q : y = i
    · subst q
      have ey : swp F y m y = F m := by
        rw [swp_at]
        by_cases q2 : y = m
        · rw [if_pos q2, ← q2]
        · rw [if_neg q2, if_pos rfl]
      rw [ey]
      exact h3 x m hx hxy him hm
    · have ey : swp F i m y = F y := by rw [swp_at, if_neg (by omega), if_neg q]
      rw [ey]
      exact h2 x y hx hxy (by omega)
  · have ey : ∃ z, i ≤ z ∧ z < b ∧ swp F i m y = F z := by
      rw [swp_at]
      by_cases q : y = m
      · rw [if_pos q]; exact ⟨i, by omega, by omega, rfl⟩
      · rw [if_neg q, if_neg (by omega)]; exact ⟨y, by omega, hy2, rfl⟩
    obtain ⟨z, z1, z2, z3⟩ := ey
    rw [z3]
    by_cases q : x = i
    · have ex : swp F i m x = F m := by
        rw [swp_at]
        by_cases q2 : x = m
        · rw [if_pos q2, ← q2, q]
        · rw [if_neg q2, if_pos q]
      rw [ex]
      exact hmin z z1 z2
    · have ex : swp F i m x = F x := by rw [swp_at, if_neg (by omega), if_neg q]
      rw [ex]
      exact h3 x z hx1 (by omega) z1 z2
theorem swp_self (F : Nat → Int32) (i : Nat) : swp F i i = F := by
  funext k
  rw [swp_at]
  by_cases q : k = i
  · rw [if_pos q, q]
  · rw [if_neg q, if_neg q]
theorem SelO.done {F0 F : Nat → Int32} {a b i : Nat} (h : SelO F0 F a b i) (hi : b ≤ i + 1) : SO F0 F a b := by
  refine ⟨h.1, fun x y hx hxy hy => ?_⟩
  by_cases q : y < i
  · exact h.2.1 x y hx hxy q
  · exact h.2.2 x y hx (by omega) (by omega) hy
/-! insertionSort: the place j stands open, t waits -/
def InsO (F0 F : Nat → Int32) (t : Int32) (a b i j : Nat) : Prop := RA F0 (upd F j t) a b ∧ (∀ x y, a ≤ x → x < y → y ≤ i → x ≠ j → y ≠ j → (F x).toInt ≤ (F y).toInt) ∧ ∀ k, j < k → k ≤ i → t.toInt < (F k).toInt
theorem InsO.start {F0 F : Nat → Int32} {a b i : Nat} (h : RA F0 F a b) (hs : Sd F a i) : InsO F0 F (F i) a b i i :=
  ⟨by rw [fa_upd_same rfl]; exact h, fun x y hx hxy hy h1 h2 => hs x y hx hxy (by omega), fun k h1 h2 => by omega⟩
theorem InsO.step {F0 F : Nat → Int32} {t : Int32} {a b i j : Nat} (h : InsO F0 F t a b i j) (hj : a < j) (hji : j ≤ i) (hib : i < b) (hlt : t.toInt < (F (j - 1)).toInt) : InsO F0 (upd F j (F (j - 1))) t a b i (j - 1) := by
  obtain ⟨h1, h2, h3⟩ := h
  refine ⟨?_, fun x y hx hxy hy n1 n2 => ?_, fun k k1 k2 => ?_⟩
  · have e : upd (upd F j (F (j - 1))) (j - 1) t = swp (upd F j t) (j - 1) j := by
      funext k
      rw [swp_at, upd_at, upd_at, upd_at, upd_at, upd_at]
      by_cases q1 : k = j - 1
      · rw [if_pos q1, if_neg (by omega), if_pos q1, if_pos rfl]
      · rw [if_neg q1]
        by_cases q2 : k = j
        · rw [if_pos q2, if_pos q2, if_neg (by omega)]
        · rw [if_neg q2, if_neg q2, if_neg q1, if_neg q2]
    rw [e]
    exact h1.tr (RA.sw (by omega) (by omega) (by omega) (by omega))
  · rw [upd_at, upd_at]
    by_cases q1 : x = j
    · rw [if_pos q1, if_neg (by omega)]
      exact h2 (j - 1) y (by omega) (by omega) hy (by omega) (by omega)
    · rw [if_neg q1]
      by_cases q2 : y = j
      · rw [if_pos q2]
        exact h2 x (j - 1) hx (by omega) (by omega) (by omega) (by omega)
      · rw [if_neg q2]
        exact h2 x y hx hxy hy q1 q2
  · rw [upd_at]
    by_cases q : k = j
    · rw [if_pos q]
      exact hlt
    · rw [if_neg q]
      exact h3 k (by omega) k2
theorem InsO.done {F0 F : Nat → Int32} {t : Int32} {a b i j : Nat} (h : InsO F0 F t a b i j) (hji : j ≤ i) (hle : j = a ∨ (F (j - 1)).toInt ≤ t.toInt) (haj : a ≤ j) : RA F0 (upd F j t) a b ∧ Sd (upd F j t) a (i + 1) := by
  obtain ⟨h1, h2, h3⟩ := h
  refine ⟨h1, fun x y hx hxy hy => ?_⟩
  rw [upd_at, upd_at]
  by_cases q1 : x = j
  · rw [if_pos q1, if_neg (by omega)]
    exact Int.le_of_lt (h3 y (by omega) (by omega))
  · rw [if_neg q1]
    by_cases q2 : y = j
    · rw [if_pos q2]
      rcases hle with e | e
      · omega
      · by_cases q3 : x = j - 1
        · rw [q3]; exact e
        · have := h2 x (j - 1) hx (by omega) (by omega) q1 (by omega)
          omega
    · rw [if_neg q2]
      exact h2 x y hx hxy (by omega) q1 q2
/-! the merge of two halves of S into F -/
def MG (F0 F S : Nat → Int32) (a m b i p q : Nat) : Prop :=
  (a ≤ p ∧ p ≤ m ∧ m ≤ q ∧ q ≤ b ∧ i + m = p + q) ∧ (∀ P, ctR P F a (i - a) = ctR P S a (p - a) + ctR P S m (q - m)) ∧ Sd F a i ∧ (∀ k, a ≤ k → k < i → (p < m → (F k).toInt ≤ (S p).toInt) ∧ (q < b → (F k).toInt ≤ (S q).toInt)) ∧ ∀ k, k < a ∨ i ≤ k → F k = F0 k
theorem MG.start {F S : Nat → Int32} {a m b : Nat} (h1 : a ≤ m) (h2 : m ≤ b) : MG F F S a m b a a m :=
  ⟨⟨by omega, by omega, by omega, by omega, by omega⟩, fun P => by rw [Nat.sub_self, Nat.sub_self]; rfl, Sd.small (by omega), fun k h3 h4 => by omega, fun _ _ => rfl⟩
theorem ctR_succ (P : Int32 → Bool) (F : Nat → Int32) (a n : Nat) : ctR P F a (n + 1) = ctR P F a n + (if P (F (a + n)) then 1 else 0) := rfl
theorem ctR_end (P : Int32 → Bool) (F : Nat → Int32) {a i : Nat} (v : Int32) (h : a ≤ i) : ctR P (upd F i v) a (i + 1 - a) = ctR P F a (i - a) + (if P v then 1 else 0) := by
  rw [show i + 1 - a = (i - a) + 1 by omega, ctR_succ, show a + (i - a) = i by omega, pk_us, ctR_cong (F := F) (G := upd F i v) (fun k h1 h2 => pk_un (by omega))]
theorem MG.put {F0 F S : Nat → Int32} {a m b i p q : Nat} {v : Int32} (h : MG F0 F S a m b i p q) : (Sd F a i ∧ (∀ k, a ≤ k → k < i → (F k).toInt ≤ v.toInt)) → Sd (upd F i v) a (i + 1) := by
  intro hh x y hx hxy hy
  rw [upd_at, upd_at, if_neg (by omega)]
  by_cases e : y = i
  · rw [if_pos e]
    exact hh.2 x hx (by omega)
  · rw [if_neg e]
    exact hh.1 x y hx hxy (by omega)
theorem MG.left {F0 F S : Nat → Int32} {a m b i p q : Nat} (h : MG F0 F S a m b i p q) (hS1 : Sd S a m) (hp : p < m) (hle : b ≤ q ∨ (S p).toInt ≤ (S q).toInt) : MG F0 (upd F i (S p)) S a m b (i + 1) (p + 1) q := by
  have h' := h
  obtain ⟨⟨z1, z2, z3, z4, z5⟩, h2, h3, h4, h5⟩ := h
  refine ⟨⟨by omega, by omega, by omega, by omega, by omega⟩, fun P => ?_, h'.put ⟨h3, fun k k1 k2 => (h4 k k1 k2).1 hp⟩, fun k k1 k2 => ?_, fun k hk => ?_⟩
  · rw [ctR_end P F (S p) (by omega), h2 P, show p + 1 - a = (p - a) + 1 by omega, ctR_succ, show a + (p - a) = p by omega]
    omega
  · rw [upd_at]
    by_cases e : k = i
    · rw [if_pos e]
      refine ⟨fun g => hS1 p (p + 1) z1 (by omega) g, fun g => ?_⟩
      rcases hle with w | w
      · omega
      · exact w
    · rw [if_neg e]
      obtain ⟨g1, g2⟩ := h4 k k1 (by omega)
      refine ⟨fun g => ?_, g2⟩
      have := g1 hp
      have := hS1 p (p + 1) z1 (by omega) g
      omega
  · rw [upd_at, if_neg (by omega)]
    exact h5 k (by omega)
theorem MG.right {F0 F S : Nat → Int32} {a m b i p q : Nat} (h : MG F0 F S a m b i p q) (hS2 : Sd S m b) (hq : q < b) (hle : m ≤ p ∨ (S q).toInt ≤ (S p).toInt) : MG F0 (upd F i (S q)) S a m b (i + 1) p (q + 1) := by
  have h' := h
  obtain ⟨⟨z1, z2, z3, z4, z5⟩, h2, h3, h4, h5⟩ := h
  refine ⟨⟨by omega, by omega, by omega, by omega, by omega⟩, fun P => ?_, h'.put ⟨h3, fun k k1 k2 => (h4 k k1 k2).2 hq⟩, fun k k1 k2 => ?_, fun k hk => ?_⟩
  · rw [ctR_end P F (S q) (by omega), h2 P, show q + 1 - m = (q - m) + 1 by omega, ctR_succ, show m + (q - m) = q by omega]
    omega
  · rw [upd_at]
    by_cases e : k = i
    · rw [if_pos e]
      refine ⟨fun g => ?_, fun g => hS2 q (q + 1) z3 (by omega) g⟩
      rcases hle with w | w
      · omega
      · exact w
    · rw [if_neg e]
      obtain ⟨g1, g2⟩ := h4 k k1 (by omega)
      refine ⟨g1, fun g => ?_⟩
      have := g2 hq
      have := hS2 q (q + 1) z3 (by omega) g
      omega
  · rw [upd_at, if_neg (by omega)]
    exact h5 k (by omega)
theorem MG.done {F0 F S : Nat → Int32} {a m b i p q : Nat} (h : MG F0 F S a m b i p q) (hi : b ≤ i) (ham : a ≤ m) (hmb : m ≤ b) (hpm : PM F0 S a b) : SO F0 F a b := by
  obtain ⟨⟨z1, z2, z3, z4, z5⟩, h2, h3, h4, h5⟩ := h
  have e1 : i = b := by omega
  have e2 : p = m := by omega
  have e3 : q = b := by omega
  subst e1 e2 e3
  refine ⟨⟨h5, fun P => ?_⟩, h3⟩
  rw [h2 P, ← hpm P]
  have e := ctR_add P S a (p - a) (q - p)
  rw [show p - a + (q - p) = q - a by omega, show a + (p - a) = p by omega] at e
  exact e.symm
end
section
/-! THE PLAIN LAW, 2: quickSort's partition, turning about, searching, the law's own sort -/
/-- quickSort's state: v at both ends, less from a to b, more from c to d (both behind by one) -/
def QP (F0 F : Nat → Int32) (v : Int32) (lo hi a b c d : Nat) : Prop := RA F0 F lo hi ∧ (lo ≤ a ∧ a ≤ b ∧ b ≤ c ∧ c ≤ d ∧ d ≤ hi) ∧ (∀ k, lo ≤ k → k < a → (F k).toInt = v.toInt) ∧ (∀ k, a ≤ k → k < b → (F k).toInt < v.toInt) ∧ (∀ k, c ≤ k → k < d → v.toInt < (F k).toInt) ∧ ∀ k, d ≤ k → k < hi → (F k).toInt = v.toInt
theorem QP.start {F : Nat → Int32} {v : Int32} {lo hi : Nat} (h : lo ≤ hi) : QP F F v lo hi lo lo hi hi :=
  ⟨RA.rf, ⟨by omega, by omega, by omega, by omega, by omega⟩, fun k _ _ => by omega, fun k _ _ => by omega, fun k _ _ => by omega, fun k _ _ => by omega⟩
theorem QP.less {F0 F : Nat → Int32} {v : Int32} {lo hi a b c d : Nat} (h : QP F0 F v lo hi a b c d) (hbc : b < c) (hv : (F b).toInt < v.toInt) : QP F0 F v lo hi a (b + 1) c d := by
  obtain ⟨h1, ⟨z1, z2, z3, z4, z5⟩, h2, h3, h4, h5⟩ := h
  refine ⟨h1, ⟨z1, by omega, by omega, z4, z5⟩, h2, fun k k1 k2 => ?_, h4, h5⟩
  by_cases q : k = b
  · rw [q]; exact hv
  · exact h3 k k1 (by omega)
theorem QP.more {F0 F : Nat → Int32} {v : Int32} {lo hi a b c d : Nat} (h : QP F0 F v lo hi a b c d) (hbc : b < c) (hv : v.toInt < (F (c - 1)).toInt) : QP F0 F v lo hi a b (c - 1) d := by
  obtain ⟨h1, ⟨z1, z2, z3, z4, z5⟩, h2, h3, h4, h5⟩ := h
  refine ⟨h1, ⟨z1, z2, by omega, by omega, z5⟩, h2, h3, fun k k1 k2 => ?_, h5⟩
  by_cases q : k = c - 1
  · rw [q]; exact hv
  · exact h4 k (by omega) k2
theorem QP.eqL {F0 F : Nat → Int32} {v : Int32} {lo hi a b c d : Nat} (h : QP F0 F v lo hi a b c d) (hbc : b < c) (hv : (F b).toInt = v.toInt) : QP F0 (swp F a b) v lo hi (a + 1) (b + 1) c d := by
  obtain ⟨h1, ⟨z1, z2, z3, z4, z5⟩, h2, h3, h4, h5⟩ := h
  refine ⟨h1.tr (RA.sw z1 (by omega) (by omega) (by omega)), ⟨by omega, by omega, by omega, z4, z5⟩, fun k k1 k2 => ?_, fun k k1 k2 => ?_, fun k k1 k2 => ?_, fun k k1 k2 => ?_⟩
  · rw [swp_at]
    by_cases q : k = b
    · rw [if_pos q, show a = b by omega]; exact hv
    · rw [if_neg q]
      by_cases q2 : k = a
      · rw [if_pos q2]; exact hv
      · rw [if_neg q2]; exact h2 k k1 (by omega)
  · rw [swp_at]
    by_cases q : k = b
    · rw [if_pos q]; exact h3 a (by omega) (by omega)
    · rw [if_neg q, if_neg (by omega)]; exact h3 k (by omega) (by omega)
  · rw [swp_at, if_neg (by omega), if_neg (by omega)]; exact h4 k k1 k2
  · rw [swp_at, if_neg (by omega), if_neg (by omega)]; exact h5 k k1 k2
theorem QP.eqR {F0 F : Nat → Int32} {v : Int32} {lo hi a b c d : Nat} (h : QP F0 F v lo hi a b c d) (hbc : b < c) (hv : (F (c - 1)).toInt = v.toInt) : QP F0 (swp F (c - 1) (d - 1)) v lo hi a b (c - 1) (d - 1) := by
  obtain ⟨h1, ⟨z1, z2, z3, z4, z5⟩, h2, h3, h4, h5⟩ := h
  refine ⟨h1.tr (RA.sw (by omega) (by omega) (by omega) (by omega)), ⟨by omega, by omega, by omega, by omega, by omega⟩, fun k k1 k2 => ?_, fun k k1 k2 => ?_, fun k k1 k2 => ?_, fun k k1 k2 => ?_⟩
  · rw [swp_at, if_neg (by omega), if_neg (by omega)]; exact h2 k k1 k2
  · rw [swp_at, if_neg (by omega), if_neg (by omega)]; exact h3 k k1 k2
  · rw [swp_at, if_neg (by omega)]
    by_cases q : k = c - 1
    · rw [if_pos q]; exact h4 (d - 1) (by omega) (by omega)
    · rw [if_neg q]; exact h4 k (by omega) (by omega)
  · rw [swp_at]
    by_cases q : k = d - 1
    · rw [if_pos q]; exact hv
    · rw [if_neg q, if_neg (by omega)]; exact h5 k (by omega) k2
theorem QP.cross {F0 F : Nat → Int32} {v : Int32} {lo hi a b c d : Nat} (h : QP F0 F v lo hi a b c d) (hbc : b < c) (hb : v.toInt < (F b).toInt) (hc : (F (c - 1)).toInt < v.toInt) : b + 1 < c ∧ QP F0 (swp F b (c - 1)) v lo hi a (b + 1) (c - 1) d := by
  have hne : b ≠ c - 1 := fun q => by rw [← q] at hc; omega
  obtain ⟨h1, ⟨z1, z2, z3, z4, z5⟩, h2, h3, h4, h5⟩ := h
  refine ⟨by omega, h1.tr (RA.sw (by omega) (by omega) (by omega) (by omega)), ⟨by omega, by omega, by omega, by omega, by omega⟩, fun k k1 k2 => ?_, fun k k1 k2 => ?_, fun k k1 k2 => ?_, fun k k1 k2 => ?_⟩
  · rw [swp_at, if_neg (by omega), if_neg (by omega)]; exact h2 k k1 k2
  · rw [swp_at, if_neg (by omega)]
    by_cases q : k = b
    · rw [if_pos q]; exact hc
    · rw [if_neg q]; exact h3 k k1 (by omega)
  · rw [swp_at]
    by_cases q : k = c - 1
    · rw [if_pos q]; exact hb
    · rw [if_neg q, if_neg (by omega)]; exact h4 k (by omega) k2
  · rw [swp_at, if_neg (by omega), if_neg (by omega)]; exact h5 k k1 k2
/-- n places exchanged, from i and from j on -/
def vsw (F : Nat → Int32) (i j : Nat) : Nat → Nat → Int32
  | 0 => F
  | n + 1 => swp (vsw F i j n) (i + n) (j + n)
theorem vsw_at (F : Nat → Int32) (i j : Nat) : ∀ n, i + n ≤ j → ∀ k, vsw F i j n k = if i ≤ k ∧ k < i + n then F (k + j - i) else if j ≤ k ∧ k < j + n then F (k + i - j) else F k := by
  intro n
  induction n with
  | zero =>
    intro _ k
    rw [if_neg (by omega), if_neg (by omega)]
    rfl
  | succ n ih =>
    intro h k
    have ih := ih (by omega)
    show swp (vsw F i j n) (i + n) (j + n) k = _
    rw [swp_at, ih (i + n), ih (j + n), ih k]
    by_cases q1 : k = j + n
    · rw [if_pos q1, if_neg (by omega), if_neg (by omega), if_neg (by omega), if_pos (by omega), show k + i - j = i + n by omega]
    · rw [if_neg q1]
      by_cases q2 : k = i + n
      · rw [if_pos q2, if_neg (by omega), if_neg (by omega), if_pos (by omega), show k + j - i = j + n by omega]
      · rw [if_neg q2]
        by_cases q3 : i ≤ k ∧ k < i + n
        · rw [if_pos q3, if_pos (by omega)]
        · rw [if_neg q3]
          by_cases q4 : j ≤ k ∧ k < j + n
          · rw [if_pos q4, if_neg (by omega), if_pos (by omega)]
          · rw [if_neg q4, if_neg (by omega), if_neg (by omega)]
theorem vsw_ra (F : Nat → Int32) {i j a b : Nat} : ∀ n, a ≤ i → a ≤ j → i + n ≤ b → j + n ≤ b → RA F (vsw F i j n) a b := by
  intro n
  induction n with
  | zero => intros; exact RA.rf
  | succ n ih => intro h1 h2 h3 h4; exact (ih h1 h2 (by omega) (by omega)).tr (RA.sw (by omega) (by omega) (by omega) (by omega))
/-- what the partition leaves: less from lo to u, v from u to r, more from r to hi -/
def QE (F0 F : Nat → Int32) (v : Int32) (lo hi u r : Nat) : Prop := RA F0 F lo hi ∧ (lo ≤ u ∧ u < r ∧ r ≤ hi) ∧ (∀ k, lo ≤ k → k < u → (F k).toInt < v.toInt) ∧ (∀ k, u ≤ k → k < r → (F k).toInt = v.toInt) ∧ ∀ k, r ≤ k → k < hi → v.toInt < (F k).toInt
theorem QP.end {F0 F : Nat → Int32} {v : Int32} {lo hi a b d s t : Nat} (h : QP F0 F v lo hi a b b d) {i : Nat} (hi1 : lo ≤ i) (hi2 : i < hi) (hiv : F0 i = v) (hs : s = if b - a < a - lo then b - a else a - lo) (ht : t = if hi - d < d - b then hi - d else d - b) :
    QE F0 (vsw (vsw F lo (b - s) s) b (hi - t) t) v lo hi (lo + (b - a)) (hi - (d - b)) := by
  obtain ⟨h1, ⟨z1, z2, z3, z4, z5⟩, h2, h3, h4, h5⟩ := h
  obtain ⟨w, w1, w2, w3⟩ := h1.ex (fun x => x = v) hi1 hi2 hiv
  have hne : lo < a ∨ d < hi := by
    rcases Nat.lt_or_ge lo a with q | q
    · exact Or.inl q
    · rcases Nat.lt_or_ge d hi with q2 | q2
      · exact Or.inr q2
      · by_cases q3 : w < b
        · have := h3 w (by omega) q3
          rw [w3] at this
          omega
        · have := h4 w (by omega) (by omega)
          rw [w3] at this
          omega
  have s1 : s ≤ a - lo ∧ s ≤ b - a ∧ (s = a - lo ∨ s = b - a) := by
    rw [hs]; split <;> omega
  have t1 : t ≤ d - b ∧ t ≤ hi - d ∧ (t = d - b ∨ t = hi - d) := by
    rw [ht]; split <;> omega
  have e1 := vsw_at F lo (b - s) s (by omega)
  have e2 := vsw_at (vsw F lo (b - s) s) b (hi - t) t (by omega)
  refine ⟨(h1.tr (vsw_ra F s (by omega) (by omega) (by omega) (by omega))).tr (vsw_ra _ t (by omega) (by omega) (by omega) (by omega)), ⟨by omega, by omega, by omega⟩, fun k k1 k2 => ?_, fun k k1 k2 => ?_, fun k k1 k2 => ?_⟩
  · rw [e2, if_neg (by omega), if_neg (by omega), e1]
    by_cases q : k < lo + s
    · rw [if_pos ⟨k1, q⟩]; exact h3 _ (by omega) (by omega)
    · rw [if_neg (by omega), if_neg (by omega)]; exact h3 k (by omega) (by omega)
  · by_cases q : k < b
    · rw [e2, if_neg (by omega), if_neg (by omega), e1, if_neg (by omega)]
      by_cases q2 : b - s ≤ k
      · rw [if_pos (by omega)]; exact h2 _ (by omega) (by omega)
      · rw [if_neg (by omega)]; exact h2 k (by omega) (by omega)
    · rw [e2]
      by_cases q2 : k < b + t
      · rw [if_pos (by omega), e1, if_neg (by omega), if_neg (by omega)]; exact h5 _ (by omega) (by omega)
      · rw [if_neg (by omega), if_neg (by omega), e1, if_neg (by omega), if_neg (by omega)]; exact h5 k (by omega) (by omega)
  · rw [e2, if_neg (by omega)]
    by_cases q : hi - t ≤ k
    · rw [if_pos (by omega), e1, if_neg (by omega), if_neg (by omega)]; exact h4 _ (by omega) (by omega)
    · rw [if_neg (by omega), e1, if_neg (by omega), if_neg (by omega)]; exact h4 k (by omega) (by omega)
theorem QE.done {F0 F G K : Nat → Int32} {v : Int32} {lo hi u r : Nat} (h : QE F0 F v lo hi u r) (hL : SO F G lo u) (hR : SO G K r hi) : SO F0 K lo hi := by
  obtain ⟨h1, ⟨z1, z2, z3⟩, h2, h3, h4⟩ := h
  have gL := hL.1.all (fun x => x.toInt < v.toInt) h2
  have gR : ∀ k, r ≤ k → k < hi → v.toInt < (G k).toInt := fun k k1 k2 => by rw [hL.1.1 k (by omega)]; exact h4 k k1 k2
  have kR := hR.1.all (fun x => v.toInt < x.toInt) gR
  refine ⟨(h1.tr (hL.1.wid (Nat.le_refl _) z1 (by omega))).tr (hR.1.wid (by omega) z3 (Nat.le_refl _)), ?_⟩
  refine Sd.three (u := u) (r := r) (v := v.toInt) (hL.2.cong (fun k k1 k2 => hR.1.1 k (by omega))) hR.2 (fun k k1 k2 => ?_) (fun k k1 k2 => ?_) kR (by omega)
  · rw [hR.1.1 k (by omega)]; exact gL k k1 k2
  · rw [hR.1.1 k (by omega), hL.1.1 k (by omega)]; exact h3 k k1 k2
/-! turned about -/
def rvs (F : Nat → Int32) (a b : Nat) : Nat → Int32 := fun k => if a ≤ k ∧ k < b then F (a + b - 1 - k) else F k
/-- reverse: all but the outer i at each end -/
def rvI (F : Nat → Int32) (a b i : Nat) : Nat → Int32 := fun k => if a + i ≤ k ∧ k + i < b then F (a + b - 1 - k) else F k
theorem rvI_start (F : Nat → Int32) {a b : Nat} : rvI F a b ((b - a) / 2) = F := by
  funext k
  show (if _ then _ else _) = _
  split
  · congr 1; omega
  · rfl
theorem rvI_step (F : Nat → Int32) {a b i : Nat} (h : a + (i + 1) + (i + 1) ≤ b) : swp (rvI F a b (i + 1)) (b - 1 - i) (a + i) = rvI F a b i := by
  funext k
  have e1 : rvI F a b (i + 1) (b - 1 - i) = F (b - 1 - i) := if_neg (by omega)
  have e2 : rvI F a b (i + 1) (a + i) = F (a + i) := if_neg (by omega)
  rw [swp_at, e1, e2]
  show _ = if _ then _ else _
  by_cases q1 : k = a + i
  · rw [if_pos q1, if_pos (by omega)]; congr 1; omega
  · rw [if_neg q1]
    by_cases q2 : k = b - 1 - i
    · rw [if_pos q2, if_pos (by omega)]; congr 1; omega
    · rw [if_neg q2]
      show (if _ then _ else _) = _
      by_cases q3 : a + (i + 1) ≤ k ∧ k + (i + 1) < b
      · rw [if_pos q3, if_pos (by omega)]
      · rw [if_neg q3, if_neg (by omega)]
theorem rvI_end (F : Nat → Int32) (a b : Nat) : rvI F a b 0 = rvs F a b := by
  funext k
  show (if _ then _ else _) = if _ then _ else _
  by_cases q : a ≤ k ∧ k < b
  · rw [if_pos q, if_pos (by omega)]
  · rw [if_neg q, if_neg (by omega)]
/-- turn: the outer m at each end -/
def tvO (F : Nat → Int32) (a b m : Nat) : Nat → Int32 := fun k => if (a ≤ k ∧ k < a + m) ∨ (b ≤ k + m ∧ k < b) then F (a + b - 1 - k) else F k
theorem tvO_start (F : Nat → Int32) (a b : Nat) : tvO F a b 0 = F := by
  funext k
  exact if_neg (by omega)
theorem tvO_step (F : Nat → Int32) {a b m : Nat} (h : a + m + m + 1 < b) : swp (tvO F a b m) (a + m) (b - 1 - m) = tvO F a b (m + 1) := by
  funext k
  have e1 : tvO F a b m (b - 1 - m) = F (b - 1 - m) := if_neg (by omega)
  have e2 : tvO F a b m (a + m) = F (a + m) := if_neg (by omega)
  rw [swp_at, e1, e2]
  show _ = if _ then _ else _
  by_cases q1 : k = b - 1 - m
  · rw [if_pos q1, if_pos (by omega)]; congr 1; omega
  · rw [if_neg q1]
    by_cases q2 : k = a + m
    · rw [if_pos q2, if_pos (by omega)]; congr 1; omega
    · rw [if_neg q2]
      show (if _ then _ else _) = _
      by_cases q3 : (a ≤ k ∧ k < a + m) ∨ (b ≤ k + m ∧ k < b)
      · rw [if_pos q3, if_pos (by omega)]
      · rw [if_neg q3, if_neg (by omega)]
theorem tvO_end (F : Nat → Int32) {a b m : Nat} (h : b ≤ a + m + m + 1) (hm : a + m ≤ b) : tvO F a b m = rvs F a b := by
  funext k
  show (if _ then _ else _) = if _ then _ else _
  by_cases q : a ≤ k ∧ k < b
  · rw [if_pos q]
    by_cases q2 : (a ≤ k ∧ k < a + m) ∨ (b ≤ k + m ∧ k < b)
    · rw [if_pos q2]
    · rw [if_neg q2]; congr 1; omega
  · rw [if_neg q, if_neg (by omega)]
theorem rvs_sh {F : Nat → Int32} {a b : Nat} (h : Sh F) : Sh (rvs F a b) := by
  intro k
  by_cases q : a ≤ k ∧ k < b
  · have e : rvs F a b k = F (a + b - 1 - k) := if_pos q
    rw [e]; exact h _
  · have e : rvs F a b k = F k := if_neg q
    rw [e]; exact h _
theorem rvI_sh {F : Nat → Int32} {a b i : Nat} (h : Sh F) : Sh (rvI F a b i) := by
  intro k
  by_cases q : a + i ≤ k ∧ k + i < b
  · have e : rvI F a b i k = F (a + b - 1 - k) := if_pos q
    rw [e]; exact h _
  · have e : rvI F a b i k = F k := if_neg q
    rw [e]; exact h _
theorem tvO_sh {F : Nat → Int32} {a b m : Nat} (h : Sh F) : Sh (tvO F a b m) := by
  intro k
  by_cases q : (a ≤ k ∧ k < a + m) ∨ (b ≤ k + m ∧ k < b)
  · have e : tvO F a b m k = F (a + b - 1 - k) := if_pos q
    rw [e]; exact h _
  · have e : tvO F a b m k = F k := if_neg q
    rw [e]; exact h _
/-! searching -/
/-- strictly rising, neighbour by neighbour -/
def SA (F : Nat → Int32) (a b : Nat) : Prop := ∀ k, a ≤ k → k + 1 < b → (F k).toInt < (F (k + 1)).toInt
theorem SA.lt {F : Nat → Int32} {a b : Nat} (h : SA F a b) {i : Nat} (hi : a ≤ i) : ∀ n, i + (n + 1) < b → (F i).toInt < (F (i + (n + 1))).toInt := by
  intro n
  induction n with
  | zero => intro hb; exact h i hi hb
  | succ n ih =>
    intro hb
    have h1 := ih (by omega)
    have h2 := h (i + (n + 1)) (by omega) (by omega)
    have e : i + (n + 1) + 1 = i + (n + 1 + 1) := by omega
    rw [e] at h2
    omega
theorem SA.lt' {F : Nat → Int32} {a b i j : Nat} (h : SA F a b) (hi : a ≤ i) (hij : i < j) (hj : j < b) : (F i).toInt < (F j).toInt := by
  have := h.lt hi (j - i - 1) (by omega)
  rwa [show i + (j - i - 1 + 1) = j by omega] at this
/-- the place of v, or where it would stand -/
def FP (F : Nat → Int32) (a b : Nat) (v r : Int32) : Prop := (∃ k, a ≤ k ∧ k < b ∧ (F k).toInt = v.toInt ∧ r = nI k) ∨ ∃ k, a ≤ k ∧ k ≤ b ∧ (∀ j, a ≤ j → j < k → (F j).toInt < v.toInt) ∧ (∀ j, k ≤ j → j < b → v.toInt < (F j).toInt) ∧ r = -(nI k + 1)
def FD (F : Nat → Int32) (a b : Nat) (v r : Int32) : Prop := (¬ SA F a b ∧ r = -100) ∨ (SA F a b ∧ FP F a b v r)
theorem FP.one {F : Nat → Int32} {a b : Nat} {v r1 r2 : Int32} (hs : SA F a b) (h1 : FP F a b v r1) (h2 : FP F a b v r2) : r1 = r2 := by
  rcases h1 with ⟨k, k1, k2, k3, k4⟩ | ⟨k, k1, k2, k3, k4, k5⟩ <;> rcases h2 with ⟨j, j1, j2, j3, j4⟩ | ⟨j, j1, j2, j3, j4, j5⟩
  · rw [k4, j4]
    rcases Nat.lt_trichotomy k j with q | q | q
    · have := hs.lt' k1 q j2; omega
    · rw [q]
    · have := hs.lt' j1 q k2; omega
  · exfalso
    by_cases q : k < j
    · have := j3 k k1 q; omega
    · have := j4 k (by omega) k2; omega
  · exfalso
    by_cases q : j < k
    · have := k3 j j1 q; omega
    · have := k4 j (by omega) j2; omega
  · rw [k5, j5]
    rcases Nat.lt_trichotomy k j with q | q | q
    · have := j3 k k1 q
      have := k4 k (Nat.le_refl _) (by omega)
      omega
    · rw [q]
    · have := k3 j j1 q
      have := j4 j (Nat.le_refl _) (by omega)
      omega
theorem FD.one {F : Nat → Int32} {a b : Nat} {v r1 r2 : Int32} (h1 : FD F a b v r1) (h2 : FD F a b v r2) : r1 = r2 := by
  rcases h1 with ⟨q1, e1⟩ | ⟨q1, e1⟩ <;> rcases h2 with ⟨q2, e2⟩ | ⟨q2, e2⟩
  · rw [e1, e2]
  · exact absurd q2 q1
  · exact absurd q1 q2
  · exact e1.one q1 e2
/-! the law's own sort: a number's place is how many go ahead of it -/
/-- how many of the first n from a on go ahead of the number at i -/
def ahd (F : Nat → Int32) (a i : Nat) (n : Nat) : Nat := fb_ct (fun k => decide ((F (a + k)).toInt < (F i).toInt ∨ ((F (a + k)).toInt = (F i).toInt ∧ a + k < i))) n
theorem ahd_succ (F : Nat → Int32) (a i n : Nat) : ahd F a i (n + 1) = ahd F a i n + (if (F (a + n)).toInt < (F i).toInt ∨ ((F (a + n)).toInt = (F i).toInt ∧ a + n < i) then 1 else 0) := by
  unfold ahd
  rw [fb_ct_succ]
  congr 1
  by_cases q : (F (a + n)).toInt < (F i).toInt ∨ ((F (a + n)).toInt = (F i).toInt ∧ a + n < i)
  · rw [if_pos q, if_pos (decide_eq_true q)]
  · rw [if_neg q, if_neg (by simpa using q)]
theorem ahd_le (F : Nat → Int32) (a i n : Nat) : ahd F a i n ≤ n := fb_ct_le _ n
abbrev ltP (v : Int32) : Int32 → Bool := fun x => decide (x.toInt < v.toInt)
abbrev eqP (v : Int32) : Int32 → Bool := fun x => decide (x.toInt = v.toInt)
theorem ct_ge {p : Nat → Bool} {m n : Nat} (h : m ≤ n) (hp : ∀ k, k < m → p k = true) : m ≤ fb_ct p n := by
  have h1 := fb_ct_all.mpr hp
  have h2 := fb_ct_mono p h
  omega
theorem ct_le {p : Nat → Bool} {m n : Nat} (h : m ≤ n) (hp : ∀ k, m ≤ k → k < n → p k = false) : fb_ct p n ≤ m := by
  have h1 := fb_ct_split p m (n - m)
  rw [show m + (n - m) = n by omega] at h1
  have h2 : fb_ct (fun k => p (m + k)) (n - m) = 0 := fb_ct_zero.mpr (fun k hk => hp (m + k) (by omega) (by omega))
  have h3 := fb_ct_le p m
  omega
theorem ahd_eq (F : Nat → Int32) {a b i : Nat} (h1 : a ≤ i) (h2 : i < b) : ahd F a i (b - a) = ctR (ltP (F i)) F a (b - a) + ctR (eqP (F i)) F a (i - a) := by
  have e1 : ahd F a i (b - a) = fb_ct (fun k => (decide ((F (a + k)).toInt < (F i).toInt)) || (decide ((F (a + k)).toInt = (F i).toInt ∧ a + k < i))) (b - a) :=
    fb_ct_cong (fun k _ => by simp)
  have e2 := fb_ct_or (p := fun k => decide ((F (a + k)).toInt < (F i).toInt)) (q := fun k => decide ((F (a + k)).toInt = (F i).toInt ∧ a + k < i)) (n := b - a) (fun k _ hh => by
    have g1 := of_decide_eq_true hh.1
    have g2 := of_decide_eq_true hh.2
    omega)
  rw [e1, e2]
  congr 1
  have e3 := fb_ct_split (fun k => decide ((F (a + k)).toInt = (F i).toInt ∧ a + k < i)) (i - a) (b - i)
  rw [show i - a + (b - i) = b - a by omega] at e3
  have e4 : fb_ct (fun k => decide ((F (a + (i - a + k))).toInt = (F i).toInt ∧ a + (i - a + k) < i)) (b - i) = 0 := fb_ct_zero.mpr (fun k _ => decide_eq_false (by omega))
  rw [e3]
  show _ + fb_ct (fun k => decide ((F (a + (i - a + k))).toInt = (F i).toInt ∧ a + (i - a + k) < i)) (b - i) = _
  rw [e4]
  exact fb_ct_cong (fun k hk => by
    by_cases q : (F (a + k)).toInt = (F i).toInt
    · simp [q]; omega
    · simp [q])
/-- in a sorted row G the number at a + r is v, if so many are less, and so many no more -/
theorem sd_place {G : Nat → Int32} {a b r : Nat} {v : Int32} (hs : Sd G a b) (hr : a + r < b) (h1 : ctR (ltP v) G a (b - a) ≤ r) (h2 : r < ctR (ltP v) G a (b - a) + ctR (eqP v) G a (b - a)) : (G (a + r)).toInt = v.toInt := by
  rcases Int.lt_trichotomy (G (a + r)).toInt v.toInt with q | q | q
  · exfalso
    have : r + 1 ≤ ctR (ltP v) G a (b - a) := ct_ge (by omega) (fun k hk => decide_eq_true (by
      by_cases e : k = r
      · rw [e]; exact q
      · have := hs (a + k) (a + r) (by omega) (by omega) hr
        omega))
    omega
  · exact q
  · exfalso
    have e2 : fb_ct (fun k => ltP v (G (a + k)) || eqP v (G (a + k))) (b - a) = ctR (ltP v) G a (b - a) + ctR (eqP v) G a (b - a) := fb_ct_or (p := fun k => ltP v (G (a + k))) (q := fun k => eqP v (G (a + k))) (n := b - a) (fun k _ hh => by
      have g1 := of_decide_eq_true hh.1
      have g2 := of_decide_eq_true hh.2
      omega)
    have e3 : fb_ct (fun k => ltP v (G (a + k)) || eqP v (G (a + k))) (b - a) ≤ r := ct_le (by omega) (fun k k1 k2 => by
      have h3 : v.toInt < (G (a + k)).toInt := by
        by_cases e : k = r
        · rw [e]; exact q
        · have := hs (a + r) (a + k) (by omega) (by omega) (by omega)
          omega
      have d1 : ltP v (G (a + k)) = false := decide_eq_false (by omega)
      have d2 : eqP v (G (a + k)) = false := decide_eq_false (by omega)
      rw [d1, d2]; rfl)
    omega
theorem i32_eq {x y : Int32} (h : x.toInt = y.toInt) : x = y := Int32.toInt_inj.mp h
/-- where the law's sort puts the number at i, the sorted row has it -/
theorem ahd_put {F G : Nat → Int32} {a b i : Nat} (h : SO F G a b) (h1 : a ≤ i) (h2 : i < b) : a + ahd F a i (b - a) < b ∧ G (a + ahd F a i (b - a)) = F i := by
  have e := ahd_eq F h1 h2
  have p1 := h.1.2 (ltP (F i))
  have p2 := h.1.2 (eqP (F i))
  have e3 := ctR_add (eqP (F i)) F a (i - a) (b - i)
  rw [show i - a + (b - i) = b - a by omega, show a + (i - a) = i by omega] at e3
  have e4 : 0 < ctR (eqP (F i)) F i (b - i) := fb_ct_pos.mpr ⟨0, by omega, decide_eq_true rfl⟩
  have e5 : ctR (ltP (F i)) F a (b - a) + ctR (eqP (F i)) F a (b - a) ≤ b - a := by
    have e2 : fb_ct (fun k => ltP (F i) (F (a + k)) || eqP (F i) (F (a + k))) (b - a) = ctR (ltP (F i)) F a (b - a) + ctR (eqP (F i)) F a (b - a) := fb_ct_or (p := fun k => ltP (F i) (F (a + k))) (q := fun k => eqP (F i) (F (a + k))) (n := b - a) (fun k _ hh => by
      have g1 := of_decide_eq_true hh.1
      have g2 := of_decide_eq_true hh.2
      omega)
    have := fb_ct_le (fun k => ltP (F i) (F (a + k)) || eqP (F i) (F (a + k))) (b - a)
    omega
  have hlt : a + ahd F a i (b - a) < b := by omega
  exact ⟨hlt, i32_eq (sd_place h.2 hlt (by omega) (by omega))⟩
/-- each place is taken -/
theorem ahd_on {F G : Nat → Int32} {a b p : Nat} (h : SO F G a b) (h1 : a ≤ p) (h2 : p < b) : ∃ i, a ≤ i ∧ i < b ∧ a + ahd F a i (b - a) = p := by
  have p1 := h.1.2 (ltP (G p))
  have p2 := h.1.2 (eqP (G p))
  have e1 : ctR (ltP (G p)) G a (b - a) ≤ p - a := ct_le (by omega) (fun k k1 k2 => decide_eq_false (by
    by_cases e : a + k = p
    · rw [e]; omega
    · have := h.2 p (a + k) h1 (by omega) (by omega)
      omega))
  have e2 : fb_ct (fun k => ltP (G p) (G (a + k)) || eqP (G p) (G (a + k))) (b - a) = ctR (ltP (G p)) G a (b - a) + ctR (eqP (G p)) G a (b - a) := fb_ct_or (p := fun k => ltP (G p) (G (a + k))) (q := fun k => eqP (G p) (G (a + k))) (n := b - a) (fun k _ hh => by
    have g1 := of_decide_eq_true hh.1
    have g2 := of_decide_eq_true hh.2
    omega)
  have e3 : p - a + 1 ≤ fb_ct (fun k => ltP (G p) (G (a + k)) || eqP (G p) (G (a + k))) (b - a) := ct_ge (by omega) (fun k hk => by
    have h3 : (G (a + k)).toInt ≤ (G p).toInt := by
      by_cases e : a + k = p
      · rw [e]; omega
      · exact h.2 (a + k) p (by omega) (by omega) h2
    rcases Int.lt_or_eq_of_le h3 with q | q
    · have d : ltP (G p) (G (a + k)) = true := decide_eq_true q
      rw [d]; rfl
    · have d : eqP (G p) (G (a + k)) = true := decide_eq_true q
      rw [d, Bool.or_true])
  obtain ⟨i, i1, i2, i3⟩ := fb_ct_kth (p := fun k => eqP (G p) (F (a + k))) (k := p - a - ctR (ltP (G p)) G a (b - a)) (n := b - a) (by
    show _ < ctR (eqP (G p)) F a (b - a)
    omega)
  have hv : F (a + i) = G p := i32_eq (of_decide_eq_true i2)
  have e := ahd_eq F (a := a) (b := b) (i := a + i) (by omega) (by omega)
  rw [hv, show a + i - a = i by omega] at e
  refine ⟨a + i, by omega, by omega, ?_⟩
  have i3' : ctR (eqP (G p)) F a i = p - a - ctR (ltP (G p)) G a (b - a) := i3
  omega
/-- the sorted row's part of G laid into F -/
theorem SO.lay {F G K : Nat → Int32} {a b : Nat} (h : SO F G a b) (h1 : ∀ k, a ≤ k → k < b → K k = G k) (h2 : ∀ k, k < a ∨ b ≤ k → K k = F k) : K = G := by
  funext k
  by_cases q : a ≤ k ∧ k < b
  · exact h1 k q.1 q.2
  · rw [h2 k (by omega), h.1.1 k (by omega)]
end
section
/-! ShortArrays, 1: swap, med3, selectionSort, insertionSort, binarySearch, reverse -/
set_option maxRecDepth 100000
set_option maxHeartbeats 4000000 in
/-- Short.compare: the difference -/
theorem met_compare (l : Launch) (D : va_G) (x y : Int32) : sdMi l yJ0_compare cJ0_compare 2 .int ({ frames := 0, cells := 0, slots := 0, locals := 0 } : Room) [.int x, .int y] D [] [] (fun (r : Int32) (_ : Unit) => r = x - y) (fun _ => []) := by
  refine sdMi.of (by decide +kernel) (Nat.le_of_ble_eq_true rfl) ?_
  intro p e s m args below meth c A ls X hr hlk Z hl
  have X : sdX p s m args c cJ0_compare 2 RJ0 D [] A := X
  have hx := X.1.1
  have hb := X.1.2.1
  have hl : lv_has ls 2 [(0, .int x), (1, .int y)] := hl
  refine lv_iload_n hx hb dJ0_compare_0 rfl (lv_at hl 0 rfl) ?_
  refine lv_iload_n hx hb dJ0_compare_1 rfl (lv_at hl 1 rfl) ?_
  refine lv_isub hx hb dJ0_compare_2 ?_
  exact sdRet_i X hr hlk rfl Z (()) rfl [] (by decide) rfl rfl (Nat.zero_le _) (Nat.zero_le _) dJ0_compare_3
set_option maxHeartbeats 4000000 in
/-- swap: two places exchanged -/
theorem met_swap (l : Launch) (D : va_G) {x n : Nat} {cA : ClassId} {F : Nat → Int32} (hn : n ≤ 48) (hF : Sh F) {a b : Nat} (h1 : a < n) (h2 : b < n) : sdMv l yX2_swap cX2_swap 4 ({ frames := 0, cells := 0, slots := 0, locals := 0 } : Room) [.ref x, .int (nI a), .int (nI b)] D [sdA x cA n F] [(cA, .short)] (fun G : Nat → Int32 => G = swp F a b) (fun G => [sdA x cA n G]) := by
  refine sdMv.of (by decide +kernel) (Nat.le_of_ble_eq_true rfl) ?_
  intro p e s m args below meth c A ls X hr hlk Z hl
  have X : sdX p s m args c cX2_swap 4 RX2 D [(cA, .short)] A := X
  have hx := X.1.1
  have hb := X.1.2.1
  have hl : lv_has ls 4 [(0, .ref x), (1, .int (nI a)), (2, .int (nI b))] := hl
  refine lv_aload_n hx hb dX2_swap_0 rfl (lv_at hl 0 rfl) ?_
  refine lv_iload_n hx hb dX2_swap_1 rfl (lv_at hl 1 rfl) ?_
  refine sd_sld (k := a) X Z 0 0 rfl rfl (by omega) (by omega) dX2_swap_2 ?_
  refine lv_istore_n (lv' := [(3, .int (F a)), (0, .ref x), (1, .int (nI a)), (2, .int (nI b))]) hx hb dX2_swap_3 rfl hl (by decide) rfl (fun ls hl => ?_)
  refine lv_aload_n hx hb dX2_swap_4 rfl (lv_at hl 1 rfl) ?_
  refine lv_iload_n hx hb dX2_swap_5 rfl (lv_at hl 2 rfl) ?_
  refine lv_aload_n hx hb dX2_swap_6 rfl (lv_at hl 1 rfl) ?_
  refine lv_iload_n hx hb dX2_swap_7 rfl (lv_at hl 3 rfl) ?_
  refine sd_sld (k := b) X Z 0 0 rfl rfl (by omega) (by omega) dX2_swap_8 ?_
  refine sd_sst (k := a) (v := F b) X Z 0 0 rfl rfl (by omega) (by omega) (hF b) dX2_swap_9 (fun H locs Z => ?_)
  have Z : sdZ D A s [sdA x cA n (upd F a (F b))] _ _ := Z
  refine lv_aload_n hx hb dX2_swap_10 rfl (lv_at hl 1 rfl) ?_
  refine lv_iload_n hx hb dX2_swap_11 rfl (lv_at hl 3 rfl) ?_
  refine lv_iload_n hx hb dX2_swap_12 rfl (lv_at hl 0 rfl) ?_
  refine sd_sst (k := b) (v := F a) X Z 0 0 rfl rfl (by omega) (by omega) (hF a) dX2_swap_13 (fun H locs Z => ?_)
  have Z : sdZ D A s [sdA x cA n (upd (upd F a (F b)) b (F a))] _ _ := Z
  exact sdRet_v X hr hlk Z (swp F a b) rfl [0] (by decide) rfl rfl (Nat.zero_le _) (Nat.zero_le _) dX2_swap_14
section
variable {p : Program} {l : Launch} {e : Env} {R : Room} {s : State} {m : MethodId} {args : Array Value} {below : List Frame} {meth : Method} {c : Code} {A : Nat → Prop} {Q : State → Prop} {D : va_G} {cells slots : Nat}
set_option maxHeartbeats 4000000 in
/-- swap of n places: its loop, t done -/
theorem lp_swap2 {x n : Nat} {cA : ClassId} {F : Nat → Int32} (hn : n ≤ 48) (hF : Sh F) {i j cnt : Nat} (hi : i + cnt ≤ n) (hj : j + cnt ≤ n) (X : sdX p s m args c cX2_swap_2 5 RX2 D [(cA, .short)] A) (hRf : 1 ≤ R.frames) (hRl : 23 ≤ R.locals) (hRc : cells ≤ R.cells) (hRs : slots ≤ R.slots)
    (kk : ∀ (H : Heap) (locs : List Loc) (ls : Array Slot), sdZ D A s [sdA x cA n (vsw F i j cnt)] H locs → W p l e R s m args below meth c H locs cells slots Q (F0 m 27 ls [])) :
    ∀ (r t : Nat), t ≤ cnt → cnt < t + r → ∀ (H : Heap) (locs : List Loc) (ls : Array Slot), sdZ D A s [sdA x cA n (vsw F i j t)] H locs → lv_has ls 5 [(0, .ref x), (1, .int (nI (i + t))), (2, .int (nI (j + t))), (3, .int (nI cnt)), (4, .int (nI t))] → W p l e R s m args below meth c H locs cells slots Q (F0 m 3 ls []) := by
  have hx := X.1.1
  have hb := X.1.2.1
  intro r
  induction r with
  | zero =>
    intro t h1 h2
    exact absurd h2 (by omega)
  | succ r ih =>
    intro t h1 h2 H locs ls Z hl
    refine lv_iload hx hb dX2_swap_2_3 (lv_at hl 4 rfl) ?_
    refine lv_iload_n hx hb dX2_swap_2_5 rfl (lv_at hl 3 rfl) ?_
    refine sd_nge (tgt := 27) hx hb dX2_swap_2_6 (by decide) (by omega) (by omega) (fun h3 => ?_) (fun h3 => ?_)
    · obtain rfl : t = cnt := by omega
      exact kk H locs ls Z
    · refine lv_aload_n hx hb dX2_swap_2_9 rfl (lv_at hl 0 rfl) ?_
      refine lv_iload_n hx hb dX2_swap_2_10 rfl (lv_at hl 1 rfl) ?_
      refine lv_iload_n hx hb dX2_swap_2_11 rfl (lv_at hl 2 rfl) ?_
      have hG := (vsw_ra F (i := i) (j := j) (a := 0) (b := n) t (by omega) (by omega) (by omega) (by omega)).sh hF
      refine sdCall_sv (na := 3) (As := [.ref x, .int (nI (i + t)), .int (nI (j + t))]) (rest := []) (wr := []) (k := cells) (n := slots) X Z (met_swap l D hn hG (by omega : i + t < n) (by omega : j + t < n)) q91 q92 q4 q93 (by decide +kernel) rfl (by first | exact Nat.le_of_ble_eq_true rfl | (dsimp only; omega)) (by first | exact Nat.le_of_ble_eq_true rfl | (dsimp only; omega)) [0] [] [0] (by decide) rfl rfl rfl (by decide) (by decide) rfl hl.1 rfl (Nat.le_of_ble_eq_true rfl) dX2_swap_2_12 (by first | exact Nat.le_of_ble_eq_true rfl | (dsimp only; omega)) (by first | exact Nat.le_of_ble_eq_true rfl | (dsimp only; omega)) (by first | exact Nat.le_of_ble_eq_true rfl | (dsimp only; omega)) (by first | exact Nat.le_of_ble_eq_true rfl | (dsimp only; omega)) (fun G H locs hu Z => ?_)
      subst hu
      refine lv_iinc (v := nI (t + 1)) (lv' := [(4, .int (nI (t + 1))), (0, .ref x), (1, .int (nI (i + t))), (2, .int (nI (j + t))), (3, .int (nI cnt))]) hx hb dX2_swap_2_15 hl (k := 4) rfl (sd_inc _) (by decide) rfl (fun ls hl => ?_)
      refine lv_iinc (v := nI (i + t + 1)) (lv' := [(1, .int (nI (i + t + 1))), (4, .int (nI (t + 1))), (0, .ref x), (2, .int (nI (j + t))), (3, .int (nI cnt))]) hx hb dX2_swap_2_18 hl (k := 2) rfl (sd_inc _) (by decide) rfl (fun ls hl => ?_)
      refine lv_iinc (v := nI (j + t + 1)) (lv' := [(2, .int (nI (j + t + 1))), (1, .int (nI (i + t + 1))), (4, .int (nI (t + 1))), (0, .ref x), (3, .int (nI cnt))]) hx hb dX2_swap_2_21 hl (k := 3) rfl (sd_inc _) (by decide) rfl (fun ls hl => ?_)
      refine lv_goto (tgt := 3) hx hb dX2_swap_2_24 (by decide) ?_
      exact ih (t + 1) (by omega) (by omega) H locs ls Z (lv_sub hl [3, 1, 0, 4, 2] rfl)
end
set_option maxHeartbeats 4000000 in
/-- swap of n places from i and from j on -/
theorem met_swap2 (l : Launch) (D : va_G) {x n : Nat} {cA : ClassId} {F : Nat → Int32} (hn : n ≤ 48) (hF : Sh F) {i j cnt : Nat} (h1 : i + cnt ≤ n) (h2 : j + cnt ≤ n) : sdMv l yX2_swap_2 cX2_swap_2 5 ({ frames := 1, cells := 0, slots := 0, locals := 23 } : Room) [.ref x, .int (nI i), .int (nI j), .int (nI cnt)] D [sdA x cA n F] [(cA, .short)] (fun G : Nat → Int32 => G = vsw F i j cnt) (fun G => [sdA x cA n G]) := by
  refine sdMv.of (by decide +kernel) (Nat.le_of_ble_eq_true rfl) ?_
  intro p e s m args below meth c A ls X hr hlk Z hl
  have X : sdX p s m args c cX2_swap_2 5 RX2 D [(cA, .short)] A := X
  have hx := X.1.1
  have hb := X.1.2.1
  have hl : lv_has ls 5 [(0, .ref x), (1, .int (nI i)), (2, .int (nI j)), (3, .int (nI cnt))] := hl
  refine lv_iconst (v := nI 0) hx hb dX2_swap_2_0 (by decide) ?_
  refine lv_istore (lv' := [(4, .int (nI 0)), (0, .ref x), (1, .int (nI i)), (2, .int (nI j)), (3, .int (nI cnt))]) hx hb dX2_swap_2_1 hl (by decide) rfl (fun ls hl => ?_)
  refine lp_swap2 hn hF h1 h2 X (Nat.le_refl _) (Nat.le_refl _) (Nat.le_refl _) (Nat.le_refl _) (fun H locs ls Z => ?_) (cnt + 1) 0 (Nat.zero_le _) (by omega) _ _ ls Z (lv_sub hl [1, 2, 3, 4, 0] rfl)
  exact sdRet_v X hr hlk Z (vsw F i j cnt) rfl [0] (by decide) rfl rfl (Nat.zero_le _) (Nat.zero_le _) dX2_swap_2_27
set_option maxHeartbeats 4000000 in
/-- med3: one of the three places -/
theorem met_med3 (l : Launch) (D : va_G) {x n : Nat} {cA : ClassId} {F : Nat → Int32} (hn : n ≤ 48) (hF : Sh F) {a b d : Nat} (h1 : a < n) (h2 : b < n) (h3 : d < n) : sdMi l yX2_med3 cX2_med3 7 .int ({ frames := 1, cells := 0, slots := 0, locals := 21 } : Room) [.ref x, .int (nI a), .int (nI b), .int (nI d)] D [sdA x cA n F] [(cA, .short)] (fun (r : Int32) (_ : Unit) => r = nI a ∨ r = nI b ∨ r = nI d) (fun _ => [sdA x cA n F]) := by
  refine sdMi.of (by decide +kernel) (Nat.le_of_ble_eq_true rfl) ?_
  intro p e s m args below meth c A ls X hr hlk Z hl
  have X : sdX p s m args c cX2_med3 7 RX2 D [(cA, .short)] A := X
  have hx := X.1.1
  have hb := X.1.2.1
  have hl : lv_has ls 7 [(0, .ref x), (1, .int (nI a)), (2, .int (nI b)), (3, .int (nI d))] := hl
  refine lv_aload_n hx hb dX2_med3_0 rfl (lv_at hl 0 rfl) ?_
  refine lv_iload_n hx hb dX2_med3_1 rfl (lv_at hl 1 rfl) ?_
  refine sd_sld (k := a) X Z 0 0 rfl rfl (by omega) (by omega) dX2_med3_2 ?_
  refine lv_aload_n hx hb dX2_med3_3 rfl (lv_at hl 0 rfl) ?_
  refine lv_iload_n hx hb dX2_med3_4 rfl (lv_at hl 2 rfl) ?_
  refine sd_sld (k := b) X Z 0 0 rfl rfl (by omega) (by omega) dX2_med3_5 ?_
  refine sdCall_si (na := 2) (As := [.int (F a), .int (F b)]) (rest := []) (wr := [sdA x cA n F]) (k := 0) (n := 0) X Z (met_compare l D (F a) (F b)) q88 q89 q5 q90 (by decide +kernel) rfl (by first | exact Nat.le_of_ble_eq_true rfl | (dsimp only; omega)) (by first | exact Nat.le_of_ble_eq_true rfl | (dsimp only; omega)) [] [0] [] (by decide) rfl rfl rfl (by decide) (by decide) rfl hl.1 rfl (Nat.le_of_ble_eq_true rfl) dX2_med3_6 (by first | exact Nat.le_of_ble_eq_true rfl | (dsimp only; omega)) (by first | exact Nat.le_of_ble_eq_true rfl | (dsimp only; omega)) (by first | exact Nat.le_of_ble_eq_true rfl | (dsimp only; omega)) (by first | exact Nat.le_of_ble_eq_true rfl | (dsimp only; omega)) (fun r0 u H locs hr0 Z => ?_)
  have Z : sdZ D A s [sdA x cA n F] _ _ := Z
  refine lv_istore (lv' := [(4, .int r0), (0, .ref x), (1, .int (nI a)), (2, .int (nI b)), (3, .int (nI d))]) hx hb dX2_med3_9 hl (by decide) rfl (fun ls hl => ?_)
  refine lv_aload_n hx hb dX2_med3_11 rfl (lv_at hl 1 rfl) ?_
  refine lv_iload_n hx hb dX2_med3_12 rfl (lv_at hl 2 rfl) ?_
  refine sd_sld (k := a) X Z 0 0 rfl rfl (by omega) (by omega) dX2_med3_13 ?_
  refine lv_aload_n hx hb dX2_med3_14 rfl (lv_at hl 1 rfl) ?_
  refine lv_iload_n hx hb dX2_med3_15 rfl (lv_at hl 4 rfl) ?_
  refine sd_sld (k := d) X Z 0 0 rfl rfl (by omega) (by omega) dX2_med3_16 ?_
  refine sdCall_si (na := 2) (As := [.int (F a), .int (F d)]) (rest := []) (wr := [sdA x cA n F]) (k := 0) (n := 0) X Z (met_compare l D (F a) (F d)) q88 q89 q5 q90 (by decide +kernel) rfl (by first | exact Nat.le_of_ble_eq_true rfl | (dsimp only; omega)) (by first | exact Nat.le_of_ble_eq_true rfl | (dsimp only; omega)) [] [0] [] (by decide) rfl rfl rfl (by decide) (by decide) rfl hl.1 rfl (Nat.le_of_ble_eq_true rfl) dX2_med3_17 (by first | exact Nat.le_of_ble_eq_true rfl | (dsimp only; omega)) (by first | exact Nat.le_of_ble_eq_true rfl | (dsimp only; omega)) (by first | exact Nat.le_of_ble_eq_true rfl | (dsimp only; omega)) (by first | exact Nat.le_of_ble_eq_true rfl | (dsimp only; omega)) (fun r1 u H locs hr1 Z => ?_)
  have Z : sdZ D A s [sdA x cA n F] _ _ := Z
  refine lv_istore (lv' := [(5, .int r1), (4, .int r0), (0, .ref x), (1, .int (nI a)), (2, .int (nI b)), (3, .int (nI d))]) hx hb dX2_med3_20 hl (by decide) rfl (fun ls hl => ?_)
  refine lv_aload_n hx hb dX2_med3_22 rfl (lv_at hl 2 rfl) ?_
  refine lv_iload_n hx hb dX2_med3_23 rfl (lv_at hl 4 rfl) ?_
  refine sd_sld (k := b) X Z 0 0 rfl rfl (by omega) (by omega) dX2_med3_24 ?_
  refine lv_aload_n hx hb dX2_med3_25 rfl (lv_at hl 2 rfl) ?_
  refine lv_iload_n hx hb dX2_med3_26 rfl (lv_at hl 5 rfl) ?_
  refine sd_sld (k := d) X Z 0 0 rfl rfl (by omega) (by omega) dX2_med3_27 ?_
  refine sdCall_si (na := 2) (As := [.int (F b), .int (F d)]) (rest := []) (wr := [sdA x cA n F]) (k := 0) (n := 0) X Z (met_compare l D (F b) (F d)) q88 q89 q5 q90 (by decide +kernel) rfl (by first | exact Nat.le_of_ble_eq_true rfl | (dsimp only; omega)) (by first | exact Nat.le_of_ble_eq_true rfl | (dsimp only; omega)) [] [0] [] (by decide) rfl rfl rfl (by decide) (by decide) rfl hl.1 rfl (Nat.le_of_ble_eq_true rfl) dX2_med3_28 (by first | exact Nat.le_of_ble_eq_true rfl | (dsimp only; omega)) (by first | exact Nat.le_of_ble_eq_true rfl | (dsimp only; omega)) (by first | exact Nat.le_of_ble_eq_true rfl | (dsimp only; omega)) (by first | exact Nat.le_of_ble_eq_true rfl | (dsimp only; omega)) (fun r2 u H locs hr2 Z => ?_)
  have Z : sdZ D A s [sdA x cA n F] _ _ := Z
  refine lv_istore (lv' := [(6, .int r2), (5, .int r1), (4, .int r0), (0, .ref x), (1, .int (nI a)), (2, .int (nI b)), (3, .int (nI d))]) hx hb dX2_med3_31 hl (by decide) rfl (fun ls hl => ?_)
  refine lv_iload hx hb dX2_med3_33 (lv_at hl 2 rfl) ?_
  refine sd_zge (tgt := 60) hx hb dX2_med3_35 (by decide) (fun c0 => ?_) (fun c0 => ?_)
  · refine lv_iload hx hb dX2_med3_60 (lv_at hl 0 rfl) ?_
    refine sd_zle (tgt := 69) hx hb dX2_med3_62 (by decide) (fun c1 => ?_) (fun c1 => ?_)
    · refine lv_iload hx hb dX2_med3_69 (lv_at hl 1 rfl) ?_
      refine sd_zle (tgt := 78) hx hb dX2_med3_71 (by decide) (fun c2 => ?_) (fun c2 => ?_)
      · refine lv_iload_n hx hb dX2_med3_78 rfl (lv_at hl 4 rfl) ?_
        exact sdRet_i X hr hlk rfl Z (()) (Or.inl rfl) [0] (by decide) rfl rfl (Nat.zero_le _) (Nat.zero_le _) dX2_med3_79
      · refine lv_iload_n hx hb dX2_med3_74 rfl (lv_at hl 6 rfl) ?_
        refine lv_goto (tgt := 79) hx hb dX2_med3_75 (by decide) ?_
        exact sdRet_i X hr hlk rfl Z (()) (Or.inr (Or.inr rfl)) [0] (by decide) rfl rfl (Nat.zero_le _) (Nat.zero_le _) dX2_med3_79
    · refine lv_iload_n hx hb dX2_med3_65 rfl (lv_at hl 5 rfl) ?_
      refine lv_goto (tgt := 79) hx hb dX2_med3_66 (by decide) ?_
      exact sdRet_i X hr hlk rfl Z (()) (Or.inr (Or.inl rfl)) [0] (by decide) rfl rfl (Nat.zero_le _) (Nat.zero_le _) dX2_med3_79
  · refine lv_iload hx hb dX2_med3_38 (lv_at hl 0 rfl) ?_
    refine sd_zge (tgt := 47) hx hb dX2_med3_40 (by decide) (fun c1 => ?_) (fun c1 => ?_)
    · refine lv_iload hx hb dX2_med3_47 (lv_at hl 1 rfl) ?_
      refine sd_zge (tgt := 56) hx hb dX2_med3_49 (by decide) (fun c2 => ?_) (fun c2 => ?_)
      · refine lv_iload_n hx hb dX2_med3_56 rfl (lv_at hl 4 rfl) ?_
        refine lv_goto (tgt := 79) hx hb dX2_med3_57 (by decide) ?_
        exact sdRet_i X hr hlk rfl Z (()) (Or.inl rfl) [0] (by decide) rfl rfl (Nat.zero_le _) (Nat.zero_le _) dX2_med3_79
      · refine lv_iload_n hx hb dX2_med3_52 rfl (lv_at hl 6 rfl) ?_
        refine lv_goto (tgt := 79) hx hb dX2_med3_53 (by decide) ?_
        exact sdRet_i X hr hlk rfl Z (()) (Or.inr (Or.inr rfl)) [0] (by decide) rfl rfl (Nat.zero_le _) (Nat.zero_le _) dX2_med3_79
    · refine lv_iload_n hx hb dX2_med3_43 rfl (lv_at hl 5 rfl) ?_
      refine lv_goto (tgt := 79) hx hb dX2_med3_44 (by decide) ?_
      exact sdRet_i X hr hlk rfl Z (()) (Or.inr (Or.inl rfl)) [0] (by decide) rfl rfl (Nat.zero_le _) (Nat.zero_le _) dX2_med3_79
section
variable {p : Program} {l : Launch} {e : Env} {R : Room} {s : State} {m : MethodId} {args : Array Value} {below : List Frame} {meth : Method} {c : Code} {A : Nat → Prop} {Q : State → Prop} {D : va_G} {cells slots : Nat}
set_option maxHeartbeats 4000000 in
/-- selectionSort's inner loop: k the least so far of those from i to j -/
theorem lp_selIn {x n : Nat} {cA : ClassId} {F : Nat → Int32} (hn : n ≤ 48) (hF : Sh F) {a b i : Nat} {y : Value} (hb2 : b ≤ n) (X : sdX p s m args c cX2_selectionSort 6 RX2 D [(cA, .short)] A)
    (kk : ∀ (k : Nat) (H : Heap) (locs : List Loc) (ls : Array Slot), i ≤ k → k < b → (∀ z, i ≤ z → z < b → (F k).toInt ≤ (F z).toInt) → sdZ D A s [sdA x cA n F] H locs → lv_has ls 6 [(0, .ref x), (1, y), (2, .int (nI b)), (3, .int (nI i)), (4, .int (nI k)), (5, .int (nI b))] → W p l e R s m args below meth c H locs cells slots Q (F0 m 44 ls [])) :
    ∀ (r j k : Nat), j ≤ b → b < j + r → i ≤ k → k < j → (∀ z, i ≤ z → z < j → (F k).toInt ≤ (F z).toInt) → ∀ (H : Heap) (locs : List Loc) (ls : Array Slot), sdZ D A s [sdA x cA n F] H locs → lv_has ls 6 [(0, .ref x), (1, y), (2, .int (nI b)), (3, .int (nI i)), (4, .int (nI k)), (5, .int (nI j))] → W p l e R s m args below meth c H locs cells slots Q (F0 m 17 ls []) := by
  have hx := X.1.1
  have hb := X.1.2.1
  intro r
  induction r with
  | zero =>
    intro j k h1 h2
    exact absurd h2 (by omega)
  | succ r ih =>
    intro j k h1 h2 h3 h4 h5 H locs ls Z hl
    refine lv_iload hx hb dX2_selectionSort_17 (lv_at hl 5 rfl) ?_
    refine lv_iload_n hx hb dX2_selectionSort_19 rfl (lv_at hl 2 rfl) ?_
    refine sd_nge (tgt := 44) hx hb dX2_selectionSort_20 (by decide) (by omega) (by omega) (fun h6 => ?_) (fun h6 => ?_)
    · obtain rfl : j = b := by omega
      exact kk k H locs ls h3 h4 h5 Z hl
    · refine lv_aload_n hx hb dX2_selectionSort_23 rfl (lv_at hl 0 rfl) ?_
      refine lv_iload hx hb dX2_selectionSort_24 (lv_at hl 5 rfl) ?_
      refine sd_sld (k := j) X Z 0 0 rfl rfl (by omega) (by omega) dX2_selectionSort_26 ?_
      refine lv_aload_n hx hb dX2_selectionSort_27 rfl (lv_at hl 0 rfl) ?_
      refine lv_iload hx hb dX2_selectionSort_28 (lv_at hl 4 rfl) ?_
      refine sd_sld (k := k) X Z 0 0 rfl rfl (by omega) (by omega) dX2_selectionSort_30 ?_
      refine sd_tge (tgt := 38) hx hb dX2_selectionSort_31 (by decide) (fun h7 => ?_) (fun h7 => ?_)
      · refine lv_iinc (v := nI (j + 1)) (lv' := [(5, .int (nI (j + 1))), (0, .ref x), (1, y), (2, .int (nI b)), (3, .int (nI i)), (4, .int (nI k))]) hx hb dX2_selectionSort_38 hl (k := 5) rfl (sd_inc _) (by decide) rfl (fun ls hl => ?_)
        refine lv_goto (tgt := 17) hx hb dX2_selectionSort_41 (by decide) ?_
        exact ih (j + 1) k (by omega) (by omega) h3 (by omega) (fun z z1 z2 => by
          by_cases q : z = j
          · rw [q]; exact h7
          · exact h5 z z1 (by omega)) H locs ls Z (lv_sub hl [1, 2, 3, 4, 5, 0] rfl)
      · refine lv_iload hx hb dX2_selectionSort_34 (lv_at hl 5 rfl) ?_
        refine lv_istore (lv' := [(4, .int (nI j)), (0, .ref x), (1, y), (2, .int (nI b)), (3, .int (nI i)), (5, .int (nI j))]) hx hb dX2_selectionSort_36 hl (by decide) rfl (fun ls hl => ?_)
        refine lv_iinc (v := nI (j + 1)) (lv' := [(5, .int (nI (j + 1))), (4, .int (nI j)), (0, .ref x), (1, y), (2, .int (nI b)), (3, .int (nI i))]) hx hb dX2_selectionSort_38 hl (k := 5) rfl (sd_inc _) (by decide) rfl (fun ls hl => ?_)
        refine lv_goto (tgt := 17) hx hb dX2_selectionSort_41 (by decide) ?_
        exact ih (j + 1) j (by omega) (by omega) (by omega) (by omega) (fun z z1 z2 => by
          by_cases q : z = j
          · rw [q]; exact Int.le_refl _
          · have := h5 z z1 (by omega)
            omega) H locs ls Z (lv_sub hl [2, 3, 4, 5, 1, 0] rfl)
set_option maxHeartbeats 4000000 in
/-- selectionSort's outer loop -/
theorem lp_sel {x n : Nat} {cA : ClassId} {F : Nat → Int32} (hn : n ≤ 48) (hF : Sh F) {a b : Nat} (hab : a ≤ b) (hb2 : b ≤ n) (X : sdX p s m args c cX2_selectionSort 6 RX2 D [(cA, .short)] A)
    (kk : ∀ (G : Nat → Int32) (H : Heap) (locs : List Loc) (ls : Array Slot), SO F G a b → sdZ D A s [sdA x cA n G] H locs → W p l e R s m args below meth c H locs cells slots Q (F0 m 74 ls [])) :
    ∀ (r i : Nat) (G : Nat → Int32), a ≤ i → i ≤ b → b < i + r → SelO F G a b i → ∀ (H : Heap) (locs : List Loc) (ls : Array Slot), sdZ D A s [sdA x cA n G] H locs → lv_has ls 6 [(0, .ref x), (1, .int (nI a)), (2, .int (nI b)), (3, .int (nI i))] → W p l e R s m args below meth c H locs cells slots Q (F0 m 2 ls []) := by
  have hx := X.1.1
  have hb := X.1.2.1
  intro r
  induction r with
  | zero =>
    intro i G h0 h1 h2
    exact absurd h2 (by omega)
  | succ r ih =>
    intro i G h0 h1 h2 h3 H locs ls Z hl
    have hG : Sh G := h3.1.sh hF
    have e1 := nI_toInt (n := i) (by omega)
    have e2 : (nI b - nI 1).toInt = (b : Int) - 1 := by
      have := pk_sub_toInt (a := b) (b := 1) (by omega) (by omega)
      omega
    refine lv_iload_n hx hb dX2_selectionSort_2 rfl (lv_at hl 3 rfl) ?_
    refine lv_iload_n hx hb dX2_selectionSort_3 rfl (lv_at hl 2 rfl) ?_
    refine lv_iconst (v := nI 1) hx hb dX2_selectionSort_4 (by decide) ?_
    refine lv_isub hx hb dX2_selectionSort_5 ?_
    refine sd_tge (tgt := 74) hx hb dX2_selectionSort_6 (by decide) (fun h4 => ?_) (fun h4 => ?_)
    · exact kk G H locs ls (h3.done (by omega)) Z
    · refine lv_iload_n hx hb dX2_selectionSort_9 rfl (lv_at hl 3 rfl) ?_
      refine lv_istore (lv' := [(4, .int (nI i)), (0, .ref x), (1, .int (nI a)), (2, .int (nI b)), (3, .int (nI i))]) hx hb dX2_selectionSort_10 hl (by decide) rfl (fun ls hl => ?_)
      refine lv_iload_n hx hb dX2_selectionSort_12 rfl (lv_at hl 4 rfl) ?_
      refine lv_iconst (v := nI 1) hx hb dX2_selectionSort_13 (by decide) ?_
      refine sd_iadd (a := i) (b := 1) (k := i + 1) hx hb dX2_selectionSort_14 rfl ?_
      refine lv_istore (lv' := [(5, .int (nI (i + 1))), (4, .int (nI i)), (0, .ref x), (1, .int (nI a)), (2, .int (nI b)), (3, .int (nI i))]) hx hb dX2_selectionSort_15 hl (by decide) rfl (fun ls hl => ?_)
      refine lp_selIn (F := G) (a := a) (b := b) (i := i) hn hG hb2 X (fun k H locs ls k1 k2 k3 Z hl => ?_) (b + 1) (i + 1) i (by omega) (by omega) (Nat.le_refl _) (by omega) (fun z z1 z2 => by rw [show z = i by omega]; exact Int.le_refl _) H locs ls Z (lv_sub hl [2, 3, 4, 5, 1, 0] rfl)
      refine lv_iload hx hb dX2_selectionSort_44 (lv_at hl 4 rfl) ?_
      refine lv_iload_n hx hb dX2_selectionSort_46 rfl (lv_at hl 3 rfl) ?_
      refine sd_neq (tgt := 68) hx hb dX2_selectionSort_47 (by decide) (by omega) (by omega) (fun h5 => ?_) (fun h5 => ?_)
      · obtain rfl : k = i := h5
        refine lv_iinc (v := nI (k + 1)) (lv' := [(3, .int (nI (k + 1))), (0, .ref x), (1, .int (nI a)), (2, .int (nI b)), (4, .int (nI k)), (5, .int (nI b))]) hx hb dX2_selectionSort_68 hl (k := 3) rfl (sd_inc _) (by decide) rfl (fun ls hl => ?_)
        refine lv_goto (tgt := 2) hx hb dX2_selectionSort_71 (by decide) ?_
        exact ih (k + 1) G (by omega) (by omega) (by omega) (by have := h3.step h0 (Nat.le_refl _) k2 k3; rwa [swp_self] at this) H locs ls Z (lv_sub hl [1, 2, 3, 0] rfl)
      · refine lv_aload_n hx hb dX2_selectionSort_50 rfl (lv_at hl 0 rfl) ?_
        refine lv_iload_n hx hb dX2_selectionSort_51 rfl (lv_at hl 3 rfl) ?_
        refine sd_sld (k := i) X Z 0 0 rfl rfl (by omega) (by omega) dX2_selectionSort_52 ?_
        refine lv_istore (lv' := [(5, .int (G i)), (0, .ref x), (1, .int (nI a)), (2, .int (nI b)), (3, .int (nI i)), (4, .int (nI k))]) hx hb dX2_selectionSort_53 hl (by decide) rfl (fun ls hl => ?_)
        refine lv_aload_n hx hb dX2_selectionSort_55 rfl (lv_at hl 1 rfl) ?_
        refine lv_iload_n hx hb dX2_selectionSort_56 rfl (lv_at hl 4 rfl) ?_
        refine lv_aload_n hx hb dX2_selectionSort_57 rfl (lv_at hl 1 rfl) ?_
        refine lv_iload hx hb dX2_selectionSort_58 (lv_at hl 5 rfl) ?_
        refine sd_sld (k := k) X Z 0 0 rfl rfl (by omega) (by omega) dX2_selectionSort_60 ?_
        refine sd_sst (k := i) (v := G k) X Z 0 0 rfl rfl (by omega) (by omega) (hG k) dX2_selectionSort_61 (fun H locs Z => ?_)
        have Z : sdZ D A s [sdA x cA n (upd G i (G k))] _ _ := Z
        refine lv_aload_n hx hb dX2_selectionSort_62 rfl (lv_at hl 1 rfl) ?_
        refine lv_iload hx hb dX2_selectionSort_63 (lv_at hl 5 rfl) ?_
        refine lv_iload hx hb dX2_selectionSort_65 (lv_at hl 0 rfl) ?_
        refine sd_sst (k := k) (v := G i) X Z 0 0 rfl rfl (by omega) (by omega) (hG i) dX2_selectionSort_67 (fun H locs Z => ?_)
        have Z : sdZ D A s [sdA x cA n (upd (upd G i (G k)) k (G i))] _ _ := Z
        refine lv_iinc (v := nI (i + 1)) (lv' := [(3, .int (nI (i + 1))), (5, .int (G i)), (0, .ref x), (1, .int (nI a)), (2, .int (nI b)), (4, .int (nI k))]) hx hb dX2_selectionSort_68 hl (k := 4) rfl (sd_inc _) (by decide) rfl (fun ls hl => ?_)
        refine lv_goto (tgt := 2) hx hb dX2_selectionSort_71 (by decide) ?_
        exact ih (i + 1) (swp G i k) (by omega) (by omega) (by omega) (h3.step h0 k1 k2 k3) H locs ls Z (lv_sub hl [2, 3, 4, 0] rfl)
end
set_option maxHeartbeats 4000000 in
/-- selectionSort -/
theorem met_selectionSort (l : Launch) (D : va_G) {x n : Nat} {cA : ClassId} {F : Nat → Int32} (hn : n ≤ 48) (hF : Sh F) {a b : Nat} (h1 : a ≤ b) (h2 : b ≤ n) : sdMv l yX2_selectionSort cX2_selectionSort 6 ({ frames := 0, cells := 0, slots := 0, locals := 0 } : Room) [.ref x, .int (nI a), .int (nI b)] D [sdA x cA n F] [(cA, .short)] (fun G : Nat → Int32 => SO F G a b) (fun G => [sdA x cA n G]) := by
  refine sdMv.of (by decide +kernel) (Nat.le_of_ble_eq_true rfl) ?_
  intro p e s m args below meth c A ls X hr hlk Z hl
  have X : sdX p s m args c cX2_selectionSort 6 RX2 D [(cA, .short)] A := X
  have hx := X.1.1
  have hb := X.1.2.1
  have hl : lv_has ls 6 [(0, .ref x), (1, .int (nI a)), (2, .int (nI b))] := hl
  refine lv_iload_n hx hb dX2_selectionSort_0 rfl (lv_at hl 1 rfl) ?_
  refine lv_istore_n (lv' := [(3, .int (nI a)), (0, .ref x), (1, .int (nI a)), (2, .int (nI b))]) hx hb dX2_selectionSort_1 rfl hl (by decide) rfl (fun ls hl => ?_)
  refine lp_sel hn hF h1 h2 X (fun G H locs ls hG Z => ?_) (b + 1) a F (Nat.le_refl _) h1 (by omega) SelO.start _ _ ls Z (lv_sub hl [1, 2, 3, 0] rfl)
  exact sdRet_v X hr hlk Z G hG [0] (by decide) rfl rfl (Nat.zero_le _) (Nat.zero_le _) dX2_selectionSort_74
section
variable {p : Program} {l : Launch} {e : Env} {R : Room} {s : State} {m : MethodId} {args : Array Value} {below : List Frame} {meth : Method} {c : Code} {A : Nat → Prop} {Q : State → Prop} {D : va_G} {cells slots : Nat}
set_option maxHeartbeats 4000000 in
/-- insertionSort's inner loop: the place j stands open, t waits, u is the number before it -/
theorem lp_insIn {x n : Nat} {cA : ClassId} {F : Nat → Int32} (hn : n ≤ 48) (hF : Sh F) {E : Nat → Int32} {a b i : Nat} {t : Int32} (ht : vp_nar .short t = t) (hib : i < b) (hb2 : b ≤ n) (X : sdX p s m args c cX2_insertionSort 7 RX2 D [(cA, .short)] A)
    (kk : ∀ (G : Nat → Int32) (H : Heap) (locs : List Loc) (ls : Array Slot), RA E G a b → Sd G a (i + 1) → sdZ D A s [sdA x cA n G] H locs → lv_has ls 7 [(0, .ref x), (1, .int (nI a)), (2, .int (nI b)), (3, .int (nI i))] → W p l e R s m args below meth c H locs cells slots Q (F0 m 73 ls [])) :
    ∀ (r j : Nat) (G : Nat → Int32), a < j → j ≤ i → j < r → Sh G → InsO E G t a b i j → ∀ (H : Heap) (locs : List Loc) (ls : Array Slot), sdZ D A s [sdA x cA n G] H locs → lv_has ls 7 [(0, .ref x), (1, .int (nI a)), (2, .int (nI b)), (3, .int (nI i)), (4, .int t), (5, .int (nI j)), (6, .int (G (j - 1)))] → W p l e R s m args below meth c H locs cells slots Q (F0 m 26 ls []) := by
  have hx := X.1.1
  have hb := X.1.2.1
  intro r
  induction r with
  | zero =>
    intro j G h0 h1 h2
    exact absurd h2 (by omega)
  | succ r ih =>
    intro j G h0 h1 h2 hG h3 H locs ls Z hl
    refine lv_iload hx hb dX2_insertionSort_26 (lv_at hl 4 rfl) ?_
    refine lv_iload hx hb dX2_insertionSort_28 (lv_at hl 6 rfl) ?_
    refine sd_tge (tgt := 67) hx hb dX2_insertionSort_30 (by decide) (fun h4 => ?_) (fun h4 => ?_)
    · have h5 := h3.done h1 (Or.inr h4) (Nat.le_of_lt h0)
      refine lv_aload_n hx hb dX2_insertionSort_67 rfl (lv_at hl 0 rfl) ?_
      refine lv_iload hx hb dX2_insertionSort_68 (lv_at hl 5 rfl) ?_
      refine lv_iload hx hb dX2_insertionSort_70 (lv_at hl 4 rfl) ?_
      refine sd_sst (k := j) (v := t) X Z 0 0 rfl rfl (by omega) (by omega) ht dX2_insertionSort_72 (fun H locs Z => ?_)
      have Z : sdZ D A s [sdA x cA n (upd G j t)] _ _ := Z
      exact kk _ H locs ls h5.1 h5.2 Z (lv_sub hl [0, 1, 2, 3] rfl)
    · have h5 := h3.step h0 h1 hib h4
      have hG2 : Sh (upd G j (G (j - 1))) := hG.up (hG _)
      refine lv_aload_n hx hb dX2_insertionSort_33 rfl (lv_at hl 0 rfl) ?_
      refine lv_iload hx hb dX2_insertionSort_34 (lv_at hl 5 rfl) ?_
      refine lv_iload hx hb dX2_insertionSort_36 (lv_at hl 6 rfl) ?_
      refine sd_sst (k := j) (v := G (j - 1)) X Z 0 0 rfl rfl (by omega) (by omega) (hG _) dX2_insertionSort_38 (fun H locs Z => ?_)
      have Z : sdZ D A s [sdA x cA n (upd G j (G (j - 1)))] _ _ := Z
      refine lv_iload_n hx hb dX2_insertionSort_39 rfl (lv_at hl 1 rfl) ?_
      refine lv_iload hx hb dX2_insertionSort_40 (lv_at hl 5 rfl) ?_
      refine lv_iconst (v := nI 1) hx hb dX2_insertionSort_42 (by decide) ?_
      refine sd_isub (a := j) (b := 1) (k := j - 1) hx hb dX2_insertionSort_43 (by omega) rfl ?_
      refine sd_nne (tgt := 53) hx hb dX2_insertionSort_44 (by decide) (by omega) (by omega) (fun h6 => ?_) (fun h6 => ?_)
      · have e7 : upd G j (G (j - 1)) (j - 1 - 1) = G (j - 1 - 1) := pk_un (by omega)
        refine lv_aload_n hx hb dX2_insertionSort_53 rfl (lv_at hl 0 rfl) ?_
        refine lv_iinc (v := nI (j - 1)) (lv' := [(5, .int (nI (j - 1))), (0, .ref x), (1, .int (nI a)), (2, .int (nI b)), (3, .int (nI i)), (4, .int t), (6, .int (G (j - 1)))]) hx hb dX2_insertionSort_54 hl (k := 5) rfl (sd_dec (by omega)) (by decide) rfl (fun ls hl => ?_)
        refine lv_iload hx hb dX2_insertionSort_57 (lv_at hl 0 rfl) ?_
        refine lv_iconst (v := nI 1) hx hb dX2_insertionSort_59 (by decide) ?_
        refine sd_isub (a := j - 1) (b := 1) (k := (j - 1) - 1) hx hb dX2_insertionSort_60 (by omega) rfl ?_
        refine sd_sld (k := (j - 1) - 1) X Z 0 0 rfl rfl (by omega) (by omega) dX2_insertionSort_61 ?_
        refine lv_istore (lv' := [(6, .int ((upd G j (G (j - 1))) ((j - 1) - 1))), (5, .int (nI (j - 1))), (0, .ref x), (1, .int (nI a)), (2, .int (nI b)), (3, .int (nI i)), (4, .int t)]) hx hb dX2_insertionSort_62 hl (by decide) rfl (fun ls hl => ?_)
        refine lv_goto (tgt := 26) hx hb dX2_insertionSort_64 (by decide) ?_
        exact ih (j - 1) _ (by omega) (by omega) (by omega) hG2 h5 H locs ls Z (lv_sub hl [2, 3, 4, 5, 6, 1, 0] rfl)
      · have h8 := h5.done (by omega) (Or.inl h6.symm) (by omega)
        refine lv_iinc (v := nI (j - 1)) (lv' := [(5, .int (nI (j - 1))), (0, .ref x), (1, .int (nI a)), (2, .int (nI b)), (3, .int (nI i)), (4, .int t), (6, .int (G (j - 1)))]) hx hb dX2_insertionSort_47 hl (k := 5) rfl (sd_dec (by omega)) (by decide) rfl (fun ls hl => ?_)
        refine lv_goto (tgt := 67) hx hb dX2_insertionSort_50 (by decide) ?_
        refine lv_aload_n hx hb dX2_insertionSort_67 rfl (lv_at hl 1 rfl) ?_
        refine lv_iload hx hb dX2_insertionSort_68 (lv_at hl 0 rfl) ?_
        refine lv_iload hx hb dX2_insertionSort_70 (lv_at hl 5 rfl) ?_
        refine sd_sst (k := j - 1) (v := t) X Z 0 0 rfl rfl (by omega) (by omega) ht dX2_insertionSort_72 (fun H locs Z => ?_)
        have Z : sdZ D A s [sdA x cA n (upd (upd G j (G (j - 1))) (j - 1) t)] _ _ := Z
        exact kk _ H locs ls h8.1 h8.2 Z (lv_sub hl [1, 2, 3, 4] rfl)
set_option maxHeartbeats 4000000 in
/-- insertionSort's outer loop, behind its step -/
theorem lp_ins {x n : Nat} {cA : ClassId} {F : Nat → Int32} (hn : n ≤ 48) (hF : Sh F) {a b : Nat} (hb2 : b ≤ n) (X : sdX p s m args c cX2_insertionSort 7 RX2 D [(cA, .short)] A)
    (kk : ∀ (G : Nat → Int32) (H : Heap) (locs : List Loc) (ls : Array Slot), SO F G a b → sdZ D A s [sdA x cA n G] H locs → W p l e R s m args below meth c H locs cells slots Q (F0 m 76 ls [])) :
    ∀ (r i : Nat) (G : Nat → Int32), a ≤ i → b < i + r → i ≤ b → RA F G a b → Sd G a (i + 1) → ∀ (H : Heap) (locs : List Loc) (ls : Array Slot), sdZ D A s [sdA x cA n G] H locs → lv_has ls 7 [(0, .ref x), (1, .int (nI a)), (2, .int (nI b)), (3, .int (nI i))] → W p l e R s m args below meth c H locs cells slots Q (F0 m 2 ls []) := by
  have hx := X.1.1
  have hb := X.1.2.1
  intro r
  induction r with
  | zero =>
    intro i G h0 h1 h2
    exact absurd h1 (by omega)
  | succ r ih =>
    intro i G h0 h1 h2 h3 h4 H locs ls Z hl
    have hG : Sh G := h3.sh hF
    refine lv_iinc (v := nI (i + 1)) (lv' := [(3, .int (nI (i + 1))), (0, .ref x), (1, .int (nI a)), (2, .int (nI b))]) hx hb dX2_insertionSort_2 hl (k := 3) rfl (sd_inc _) (by decide) rfl (fun ls hl => ?_)
    refine lv_iload_n hx hb dX2_insertionSort_5 rfl (lv_at hl 0 rfl) ?_
    refine lv_iload_n hx hb dX2_insertionSort_6 rfl (lv_at hl 3 rfl) ?_
    refine sd_nge (tgt := 76) hx hb dX2_insertionSort_7 (by decide) (by omega) (by omega) (fun h5 => ?_) (fun h5 => ?_)
    · exact kk G H locs ls ⟨h3, fun z y z1 z2 z3 => h4 z y z1 z2 (by omega)⟩ Z
    · refine lv_aload_n hx hb dX2_insertionSort_10 rfl (lv_at hl 1 rfl) ?_
      refine lv_iload_n hx hb dX2_insertionSort_11 rfl (lv_at hl 0 rfl) ?_
      refine sd_sld (k := i + 1) X Z 0 0 rfl rfl (by omega) (by omega) dX2_insertionSort_12 ?_
      refine lv_istore (lv' := [(4, .int (G (i + 1))), (3, .int (nI (i + 1))), (0, .ref x), (1, .int (nI a)), (2, .int (nI b))]) hx hb dX2_insertionSort_13 hl (by decide) rfl (fun ls hl => ?_)
      refine lv_iload_n hx hb dX2_insertionSort_15 rfl (lv_at hl 1 rfl) ?_
      refine lv_istore (lv' := [(5, .int (nI (i + 1))), (4, .int (G (i + 1))), (3, .int (nI (i + 1))), (0, .ref x), (1, .int (nI a)), (2, .int (nI b))]) hx hb dX2_insertionSort_16 hl (by decide) rfl (fun ls hl => ?_)
      refine lv_aload_n hx hb dX2_insertionSort_18 rfl (lv_at hl 3 rfl) ?_
      refine lv_iload hx hb dX2_insertionSort_19 (lv_at hl 0 rfl) ?_
      refine lv_iconst (v := nI 1) hx hb dX2_insertionSort_21 (by decide) ?_
      refine sd_isub (a := i + 1) (b := 1) (k := (i + 1) - 1) hx hb dX2_insertionSort_22 (by omega) rfl ?_
      refine sd_sld (k := (i + 1) - 1) X Z 0 0 rfl rfl (by omega) (by omega) dX2_insertionSort_23 ?_
      refine lv_istore (lv' := [(6, .int (G ((i + 1) - 1))), (5, .int (nI (i + 1))), (4, .int (G (i + 1))), (3, .int (nI (i + 1))), (0, .ref x), (1, .int (nI a)), (2, .int (nI b))]) hx hb dX2_insertionSort_24 hl (by decide) rfl (fun ls hl => ?_)
      refine lp_insIn (F := G) (E := F) (t := G (i + 1)) hn hG (hG _) h5 hb2 X (fun G2 H locs ls g1 g2 Z hl => ?_) (i + 2) (i + 1) G (by omega) (by omega) (by omega) hG (InsO.start h3 h4) H locs ls Z (lv_sub hl [4, 5, 6, 3, 2, 1, 0] rfl)
      refine lv_goto (tgt := 2) hx hb dX2_insertionSort_73 (by decide) ?_
      exact ih (i + 1) G2 (by omega) (by omega) (by omega) g1 g2 H locs ls Z (lv_sub hl [0, 1, 2, 3] rfl)
end
set_option maxHeartbeats 4000000 in
/-- insertionSort -/
theorem met_insertionSort (l : Launch) (D : va_G) {x n : Nat} {cA : ClassId} {F : Nat → Int32} (hn : n ≤ 48) (hF : Sh F) {a b : Nat} (h1 : a ≤ b) (h2 : b ≤ n) : sdMv l yX2_insertionSort cX2_insertionSort 7 ({ frames := 0, cells := 0, slots := 0, locals := 0 } : Room) [.ref x, .int (nI a), .int (nI b)] D [sdA x cA n F] [(cA, .short)] (fun G : Nat → Int32 => SO F G a b) (fun G => [sdA x cA n G]) := by
  refine sdMv.of (by decide +kernel) (Nat.le_of_ble_eq_true rfl) ?_
  intro p e s m args below meth c A ls X hr hlk Z hl
  have X : sdX p s m args c cX2_insertionSort 7 RX2 D [(cA, .short)] A := X
  have hx := X.1.1
  have hb := X.1.2.1
  have hl : lv_has ls 7 [(0, .ref x), (1, .int (nI a)), (2, .int (nI b))] := hl
  refine lv_iload_n hx hb dX2_insertionSort_0 rfl (lv_at hl 1 rfl) ?_
  refine lv_istore_n (lv' := [(3, .int (nI a)), (0, .ref x), (1, .int (nI a)), (2, .int (nI b))]) hx hb dX2_insertionSort_1 rfl hl (by decide) rfl (fun ls hl => ?_)
  refine lp_ins (F := F) (a := a) (b := b) hn hF h2 X (fun G H locs ls hG Z => ?_) (b + 1) a F (Nat.le_refl _) (by omega) h1 RA.rf (Sd.small (by omega)) _ _ ls Z (lv_sub hl [1, 2, 3, 0] rfl)
  exact sdRet_v X hr hlk Z G hG [0] (by decide) rfl rfl (Nat.zero_le _) (Nat.zero_le _) dX2_insertionSort_76
section
variable {p : Program} {l : Launch} {e : Env} {R : Room} {s : State} {m : MethodId} {args : Array Value} {below : List Frame} {meth : Method} {c : Code} {A : Nat → Prop} {Q : State → Prop} {D : va_G} {cells slots : Nat}
set_option maxHeartbeats 4000000 in
/-- binarySearch's loop: what is before lo is less, what is from hi on is more -/
theorem lp_bin {x n : Nat} {cA : ClassId} {F : Nat → Int32} (hn : n ≤ 48) (hF : Sh F) {a b : Nat} {v : Int32} (hb2 : b ≤ n) (hs : SA F a b) (X : sdX p s m args c cX2_binarySearch 6 RX2 D [(cA, .short)] A)
    (kk : ∀ (r : Int32) (pc : Nat) (H : Heap) (locs : List Loc) (ls : Array Slot), decode cX2_binarySearch pc = .ok (.ireturn, 1) → FP F a b v r → sdZ D A s [sdA x cA n F] H locs → W p l e R s m args below meth c H locs cells slots Q (F0 m pc ls [.int r])) :
    ∀ (r lo hi : Nat) (z : Int32), a ≤ lo → lo ≤ hi → hi ≤ b → hi < lo + r → z.toInt = (hi : Int) - 1 → (∀ j, a ≤ j → j < lo → (F j).toInt < v.toInt) → (∀ j, hi ≤ j → j < b → v.toInt < (F j).toInt) → ∀ (H : Heap) (locs : List Loc) (ls : Array Slot), sdZ D A s [sdA x cA n F] H locs → lv_has ls 6 [(0, .ref x), (1, .int (nI lo)), (2, .int z), (3, .int v)] → W p l e R s m args below meth c H locs cells slots Q (F0 m 3 ls []) := by
  have hx := X.1.1
  have hb := X.1.2.1
  intro r
  induction r with
  | zero =>
    intro lo hi z h0 h1 h2 h3
    exact absurd h3 (by omega)
  | succ r ih =>
    intro lo hi z h0 h1 h2 h3 h4 h5 h6 H locs ls Z hl
    have e1 := nI_toInt (n := lo) (by omega)
    refine lv_iload_n hx hb dX2_binarySearch_3 rfl (lv_at hl 1 rfl) ?_
    refine lv_iload_n hx hb dX2_binarySearch_4 rfl (lv_at hl 2 rfl) ?_
    refine sd_tgt (tgt := 55) hx hb dX2_binarySearch_5 (by decide) (fun h7 => ?_) (fun h7 => ?_)
    · refine lv_iload_n hx hb dX2_binarySearch_55 rfl (lv_at hl 1 rfl) ?_
      refine lv_iconst (v := nI 1) hx hb dX2_binarySearch_56 (by decide) ?_
      refine sd_iadd (a := lo) (b := 1) (k := lo + 1) hx hb dX2_binarySearch_57 rfl ?_
      refine lv_ineg hx hb dX2_binarySearch_58 ?_
      exact kk _ _ H locs ls dX2_binarySearch_59 (Or.inr ⟨lo, h0, by omega, h5, fun j j1 j2 => h6 j (by omega) j2, by rw [nI_1]⟩) Z
    · obtain ⟨w, hw, rfl⟩ : ∃ w : Nat, w + 1 = hi ∧ z = nI w := ⟨hi - 1, by omega, i32_eq (by rw [h4, nI_toInt (by omega)]; omega)⟩
      refine lv_iload_n hx hb dX2_binarySearch_8 rfl (lv_at hl 1 rfl) ?_
      refine lv_iload_n hx hb dX2_binarySearch_9 rfl (lv_at hl 2 rfl) ?_
      refine sd_iadd (a := lo) (b := w) (k := lo + w) hx hb dX2_binarySearch_10 rfl ?_
      refine lv_iconst (v := nI 1) hx hb dX2_binarySearch_11 (by decide) ?_
      refine lv_iushr (v := nI ((lo + w) / 2)) hx hb dX2_binarySearch_12 (pk_ushrN (by omega) (nI 1) 1 (by decide)) ?_
      obtain ⟨d, hd1, hd2, hd3⟩ : ∃ d, (lo + w) / 2 = d ∧ lo ≤ d ∧ d ≤ w := ⟨_, rfl, by omega, by omega⟩
      rw [hd1]
      refine lv_istore (lv' := [(5, .int (nI d)), (0, .ref x), (1, .int (nI lo)), (2, .int (nI w)), (3, .int v)]) hx hb dX2_binarySearch_13 hl (by decide) rfl (fun ls hl => ?_)
      refine lv_aload_n hx hb dX2_binarySearch_15 rfl (lv_at hl 1 rfl) ?_
      refine lv_iload hx hb dX2_binarySearch_16 (lv_at hl 0 rfl) ?_
      refine sd_sld (k := d) X Z 0 0 rfl rfl (by omega) (by omega) dX2_binarySearch_18 ?_
      refine lv_istore (lv' := [(4, .int (F d)), (5, .int (nI d)), (0, .ref x), (1, .int (nI lo)), (2, .int (nI w)), (3, .int v)]) hx hb dX2_binarySearch_19 hl (by decide) rfl (fun ls hl => ?_)
      refine lv_iload hx hb dX2_binarySearch_21 (lv_at hl 0 rfl) ?_
      refine lv_iload_n hx hb dX2_binarySearch_23 rfl (lv_at hl 5 rfl) ?_
      refine sd_tge (tgt := 35) hx hb dX2_binarySearch_24 (by decide) (fun h8 => ?_) (fun h8 => ?_)
      · refine lv_iload hx hb dX2_binarySearch_35 (lv_at hl 0 rfl) ?_
        refine lv_iload_n hx hb dX2_binarySearch_37 rfl (lv_at hl 5 rfl) ?_
        refine sd_tle (tgt := 49) hx hb dX2_binarySearch_38 (by decide) (fun h9 => ?_) (fun h9 => ?_)
        · refine lv_iload hx hb dX2_binarySearch_49 (lv_at hl 1 rfl) ?_
          exact kk _ _ H locs ls dX2_binarySearch_51 (Or.inl ⟨d, by omega, by omega, by omega, rfl⟩) Z
        · refine lv_iload hx hb dX2_binarySearch_41 (lv_at hl 1 rfl) ?_
          refine lv_iconst (v := nI 1) hx hb dX2_binarySearch_43 (by decide) ?_
          refine lv_isub hx hb dX2_binarySearch_44 ?_
          refine lv_istore_n (lv' := [(2, .int ((nI d) - (nI 1))), (4, .int (F d)), (5, .int (nI d)), (0, .ref x), (1, .int (nI lo)), (3, .int v)]) hx hb dX2_binarySearch_45 rfl hl (by decide) rfl (fun ls hl => ?_)
          refine lv_goto (tgt := 52) hx hb dX2_binarySearch_46 (by decide) ?_
          refine lv_goto (tgt := 3) hx hb dX2_binarySearch_52 (by decide) ?_
          exact ih lo d _ h0 hd2 (by omega) (by omega) (by have := pk_sub_toInt (a := d) (b := 1) (by omega) (by omega); omega) h5 (fun j j1 j2 => by
            by_cases q : j = d
            · rw [q]; exact h9
            · have := hs.lt' (by omega : a ≤ d) (by omega : d < j) j2
              omega) H locs ls Z (lv_sub hl [3, 4, 0, 5] rfl)
      · refine lv_iload hx hb dX2_binarySearch_27 (lv_at hl 1 rfl) ?_
        refine lv_iconst (v := nI 1) hx hb dX2_binarySearch_29 (by decide) ?_
        refine sd_iadd (a := d) (b := 1) (k := d + 1) hx hb dX2_binarySearch_30 rfl ?_
        refine lv_istore_n (lv' := [(1, .int (nI (d + 1))), (4, .int (F d)), (5, .int (nI d)), (0, .ref x), (2, .int (nI w)), (3, .int v)]) hx hb dX2_binarySearch_31 rfl hl (by decide) rfl (fun ls hl => ?_)
        refine lv_goto (tgt := 52) hx hb dX2_binarySearch_32 (by decide) ?_
        refine lv_goto (tgt := 3) hx hb dX2_binarySearch_52 (by decide) ?_
        exact ih (d + 1) hi _ (by omega) (by omega) h2 (by omega) h4 (fun j j1 j2 => by
          by_cases q : j = d
          · rw [q]; exact h8
          · have := hs.lt' j1 (by omega : j < d) (by omega)
            omega) h6 H locs ls Z (lv_sub hl [3, 0, 4, 5] rfl)
end
set_option maxHeartbeats 4000000 in
/-- binarySearch in a row that rises strictly -/
theorem met_binarySearch (l : Launch) (D : va_G) {x n : Nat} {cA : ClassId} {F : Nat → Int32} (hn : n ≤ 48) (hF : Sh F) {a b : Nat} {v : Int32} (h1 : a ≤ b) (h2 : b ≤ n) (hs : SA F a b) : sdMi l yX2_binarySearch cX2_binarySearch 6 .int ({ frames := 0, cells := 0, slots := 0, locals := 0 } : Room) [.ref x, .int (nI a), .int (nI b), .int v] D [sdA x cA n F] [(cA, .short)] (fun (r : Int32) (_ : Unit) => FP F a b v r) (fun _ => [sdA x cA n F]) := by
  refine sdMi.of (by decide +kernel) (Nat.le_of_ble_eq_true rfl) ?_
  intro p e s m args below meth c A ls X hr hlk Z hl
  have X : sdX p s m args c cX2_binarySearch 6 RX2 D [(cA, .short)] A := X
  have hx := X.1.1
  have hb := X.1.2.1
  have hl : lv_has ls 6 [(0, .ref x), (1, .int (nI a)), (2, .int (nI b)), (3, .int v)] := hl
  refine lv_iinc (v := nI b + Int32.ofInt (-1)) (lv' := [(2, .int (nI b + Int32.ofInt (-1))), (0, .ref x), (1, .int (nI a)), (3, .int v)]) hx hb dX2_binarySearch_0 hl (k := 2) rfl rfl (by decide) rfl (fun ls hl => ?_)
  have e0 : (nI b + Int32.ofInt (-1)).toInt = (b : Int) - 1 := by
    have e1 := nI_toInt (n := b) (by omega)
    have e2 : (Int32.ofInt (-1)).toInt = -1 := by decide
    rw [fb_addI (by omega) (by omega)]
    omega
  exact lp_bin hn hF h2 hs X (fun r pc H locs ls hd hr2 Z => sdRet_i X hr hlk rfl Z () hr2 [0] (by decide) rfl rfl (Nat.zero_le _) (Nat.zero_le _) hd) (b + 1) a b _ (Nat.le_refl _) h1 (Nat.le_refl _) (by omega) e0 (fun j j1 j2 => by omega) (fun j j1 j2 => by omega) _ _ ls Z (lv_sub hl [1, 2, 0, 3] rfl)
section
variable {p : Program} {l : Launch} {e : Env} {R : Room} {s : State} {m : MethodId} {args : Array Value} {below : List Frame} {meth : Method} {c : Code} {A : Nat → Prop} {Q : State → Prop} {D : va_G} {cells slots : Nat}
set_option maxHeartbeats 4000000 in
/-- reverse's loop: i pairs are left -/
theorem lp_rev {x n : Nat} {cA : ClassId} {F : Nat → Int32} (hn : n ≤ 48) (hF : Sh F) {a b : Nat} (h1 : a ≤ b) (h2 : b ≤ n) (X : sdX p s m args c cX2_reverse 6 RX2 D [(cA, .short)] A)
    (kk : ∀ (H : Heap) (locs : List Loc) (ls : Array Slot), sdZ D A s [sdA x cA n (rvs F a b)] H locs → ls[0]? = some (.val (.ref x)) → W p l e R s m args below meth c H locs cells slots Q (F0 m 56 ls [])) :
    ∀ (i : Nat), a + i + i ≤ b → ∀ (H : Heap) (locs : List Loc) (ls : Array Slot), sdZ D A s [sdA x cA n (rvI F a b i)] H locs → lv_has ls 6 [(0, .ref x), (1, .int (nI a)), (2, .int (nI b)), (3, .int (nI (b - a))), (4, .int (nI i))] → W p l e R s m args below meth c H locs cells slots Q (F0 m 9 ls []) := by
  have hx := X.1.1
  have hb := X.1.2.1
  intro i
  induction i with
  | zero =>
    intro h3 H locs ls Z hl
    refine lv_iload hx hb dX2_reverse_9 (lv_at hl 4 rfl) ?_
    refine lv_iinc (v := nI 0 + Int32.ofInt (-1)) (lv' := [(4, .int (nI 0 + Int32.ofInt (-1))), (0, .ref x), (1, .int (nI a)), (2, .int (nI b)), (3, .int (nI (b - a)))]) hx hb dX2_reverse_11 hl (k := 4) rfl rfl (by decide) rfl (fun ls hl => ?_)
    refine sd_zeq (tgt := 56) hx hb dX2_reverse_14 (by decide) (fun h4 => ?_) (fun h4 => ?_)
    · rw [rvI_end] at Z
      exact kk H locs ls Z (lv_at hl 1 rfl)
    · exact absurd (by decide : (nI 0).toInt = 0) h4
  | succ i ih =>
    intro h3 H locs ls Z hl
    have hG : Sh (rvI F a b (i + 1)) := rvI_sh hF
    refine lv_iload hx hb dX2_reverse_9 (lv_at hl 4 rfl) ?_
    refine lv_iinc (v := nI i) (lv' := [(4, .int (nI i)), (0, .ref x), (1, .int (nI a)), (2, .int (nI b)), (3, .int (nI (b - a)))]) hx hb dX2_reverse_11 hl (k := 4) rfl (sd_dec (by omega)) (by decide) rfl (fun ls hl => ?_)
    refine sd_zeq (tgt := 56) hx hb dX2_reverse_14 (by decide) (fun h4 => ?_) (fun h4 => ?_)
    · exact absurd h4 (by rw [nI_toInt (by omega)]; omega)
    · refine lv_aload_n hx hb dX2_reverse_17 rfl (lv_at hl 1 rfl) ?_
      refine lv_iload_n hx hb dX2_reverse_18 rfl (lv_at hl 2 rfl) ?_
      refine lv_iload_n hx hb dX2_reverse_19 rfl (lv_at hl 4 rfl) ?_
      refine sd_iadd (a := a) (b := b - a) (k := b) hx hb dX2_reverse_20 (by omega) ?_
      refine lv_iload hx hb dX2_reverse_21 (lv_at hl 0 rfl) ?_
      refine sd_isub (a := b) (b := i) (k := b - i) hx hb dX2_reverse_23 (by omega) (by omega) ?_
      refine lv_iconst (v := nI 1) hx hb dX2_reverse_24 (by decide) ?_
      refine sd_isub (a := b - i) (b := 1) (k := b - 1 - i) hx hb dX2_reverse_25 (by omega) (by omega) ?_
      refine sd_sld (k := b - 1 - i) X Z 0 0 rfl rfl (by omega) (by omega) dX2_reverse_26 ?_
      refine lv_istore (lv' := [(5, .int ((rvI F a b (i + 1)) (b - 1 - i))), (4, .int (nI i)), (0, .ref x), (1, .int (nI a)), (2, .int (nI b)), (3, .int (nI (b - a)))]) hx hb dX2_reverse_27 hl (by decide) rfl (fun ls hl => ?_)
      refine lv_aload_n hx hb dX2_reverse_29 rfl (lv_at hl 2 rfl) ?_
      refine lv_iload_n hx hb dX2_reverse_30 rfl (lv_at hl 3 rfl) ?_
      refine lv_iload_n hx hb dX2_reverse_31 rfl (lv_at hl 5 rfl) ?_
      refine sd_iadd (a := a) (b := b - a) (k := b) hx hb dX2_reverse_32 (by omega) ?_
      refine lv_iload hx hb dX2_reverse_33 (lv_at hl 1 rfl) ?_
      refine sd_isub (a := b) (b := i) (k := b - i) hx hb dX2_reverse_35 (by omega) (by omega) ?_
      refine lv_iconst (v := nI 1) hx hb dX2_reverse_36 (by decide) ?_
      refine sd_isub (a := b - i) (b := 1) (k := b - 1 - i) hx hb dX2_reverse_37 (by omega) (by omega) ?_
      refine lv_aload_n hx hb dX2_reverse_38 rfl (lv_at hl 2 rfl) ?_
      refine lv_iload_n hx hb dX2_reverse_39 rfl (lv_at hl 3 rfl) ?_
      refine lv_iload hx hb dX2_reverse_40 (lv_at hl 1 rfl) ?_
      refine sd_iadd (a := a) (b := i) (k := a + i) hx hb dX2_reverse_42 rfl ?_
      refine sd_sld (k := a + i) X Z 0 0 rfl rfl (by omega) (by omega) dX2_reverse_43 ?_
      refine sd_sst (k := b - 1 - i) (v := (rvI F a b (i + 1)) (a + i)) X Z 0 0 rfl rfl (by omega) (by omega) (hG _) dX2_reverse_44 (fun H locs Z => ?_)
      have Z : sdZ D A s [sdA x cA n (upd (rvI F a b (i + 1)) (b - 1 - i) ((rvI F a b (i + 1)) (a + i)))] _ _ := Z
      refine lv_aload_n hx hb dX2_reverse_45 rfl (lv_at hl 2 rfl) ?_
      refine lv_iload_n hx hb dX2_reverse_46 rfl (lv_at hl 3 rfl) ?_
      refine lv_iload hx hb dX2_reverse_47 (lv_at hl 1 rfl) ?_
      refine sd_iadd (a := a) (b := i) (k := a + i) hx hb dX2_reverse_49 rfl ?_
      refine lv_iload hx hb dX2_reverse_50 (lv_at hl 0 rfl) ?_
      refine sd_sst (k := a + i) (v := (rvI F a b (i + 1)) (b - 1 - i)) X Z 0 0 rfl rfl (by omega) (by omega) (hG _) dX2_reverse_52 (fun H locs Z => ?_)
      have Z : sdZ D A s [sdA x cA n (upd (upd (rvI F a b (i + 1)) (b - 1 - i) ((rvI F a b (i + 1)) (a + i))) (a + i) ((rvI F a b (i + 1)) (b - 1 - i)))] _ _ := Z
      refine lv_goto (tgt := 9) hx hb dX2_reverse_53 (by decide) ?_
      have e5 := rvI_step F (a := a) (b := b) (i := i) (by omega)
      have Z : sdZ D A s [sdA x cA n (swp (rvI F a b (i + 1)) (b - 1 - i) (a + i))] H locs := Z
      rw [e5] at Z
      exact ih (by omega) H locs ls Z (lv_sub hl [2, 3, 4, 5, 1] rfl)
end
set_option maxHeartbeats 4000000 in
/-- reverse -/
theorem met_reverse (l : Launch) (D : va_G) {x n : Nat} {cA : ClassId} {F : Nat → Int32} (hn : n ≤ 48) (hF : Sh F) {a b : Nat} (h1 : a ≤ b) (h2 : b ≤ n) : sdMr l yX2_reverse cX2_reverse 6 (.array .short) ({ frames := 0, cells := 0, slots := 0, locals := 0 } : Room) [.ref x, .int (nI a), .int (nI b)] D [sdA x cA n F] [(cA, .short)] (fun G : Nat → Int32 => G = rvs F a b) (fun G _ => [sdA x cA n G]) (fun _ => []) := by
  refine sdMr.of (by decide +kernel) (Nat.le_of_ble_eq_true rfl) ?_
  intro p e s m args below meth c A ls X hr hlk Z hl
  have X : sdX p s m args c cX2_reverse 6 RX2 D [(cA, .short)] A := X
  have hx := X.1.1
  have hb := X.1.2.1
  have hl : lv_has ls 6 [(0, .ref x), (1, .int (nI a)), (2, .int (nI b))] := hl
  refine lv_iload_n hx hb dX2_reverse_0 rfl (lv_at hl 2 rfl) ?_
  refine lv_iload_n hx hb dX2_reverse_1 rfl (lv_at hl 1 rfl) ?_
  refine sd_isub (a := b) (b := a) (k := b - a) hx hb dX2_reverse_2 (by omega) rfl ?_
  refine lv_istore_n (lv' := [(3, .int (nI (b - a))), (0, .ref x), (1, .int (nI a)), (2, .int (nI b))]) hx hb dX2_reverse_3 rfl hl (by decide) rfl (fun ls hl => ?_)
  refine lv_iload_n hx hb dX2_reverse_4 rfl (lv_at hl 0 rfl) ?_
  refine lv_iconst (v := nI 2) hx hb dX2_reverse_5 (by decide) ?_
  refine sd_idiv (a := b - a) (d := 2) (k := (b - a) / 2) hx hb dX2_reverse_6 (by omega) (by omega) (by omega) rfl ?_
  refine lv_istore (lv' := [(4, .int (nI ((b - a) / 2))), (3, .int (nI (b - a))), (0, .ref x), (1, .int (nI a)), (2, .int (nI b))]) hx hb dX2_reverse_7 hl (by decide) rfl (fun ls hl => ?_)
  have Z : sdZ D A s [sdA x cA n (rvI F a b ((b - a) / 2))] s.heap [] := by rw [rvI_start]; exact Z
  refine lp_rev hn hF h1 h2 X (fun H locs ls Z h0 => ?_) ((b - a) / 2) (by omega) _ _ ls Z (lv_sub hl [2, 3, 4, 1, 0] rfl)
  refine lv_aload_n hx hb dX2_reverse_56 rfl h0 ?_
  exact sdRet_r X hr hlk Z (rvs F a b) rfl [0] [] (by decide) rfl rfl rfl (Nat.zero_le _) (Nat.zero_le _) dX2_reverse_57
end
section
/-! THE FRAME, 2: a stretch copied, a row cloned, its length -/
set_option maxRecDepth 100000
theorem sh_fit {v : Int32} (h : vp_nar .short v = v) : fits .short (.int v) = true := by
  rw [vp_nar_short] at h
  rw [← h]
  exact pk_fs v
theorem sd_dect {c : Nat} (h : c < 2 ^ 31) : (nI c + Int32.ofInt (-1)).toInt = (c : Int) - 1 := by
  have e1 := nI_toInt h
  have e2 : (Int32.ofInt (-1)).toInt = -1 := by decide
  rw [fb_addI (by omega) (by omega)]
  omega
section SD2
variable {p : Program} {l : Launch} {e : Env} {R : Room} {s : State} {m : MethodId} {args : Array Value} {below : List Frame} {meth : Method} {c : Code} {H : Heap} {locs : List Loc} {cells slots : Nat} {Q : State → Prop}
variable {cc : ByteArray} {nL pc : Nat} {ls : Array Slot} {rest : List Value} {own : String} {D : va_G} {tys : List (ClassId × FieldType)} {A : Nat → Prop} {ws : va_W}
theorem sd_cpy (X : sdX p s m args c cc nL own D tys A) (Z : sdZ D A s ws H locs) (hsz : ls.size = nL) {index : Nat} (hlk : Cond.methodLink own index arraycopyName ∈ lw_all) (q0 q1 t0 t1 : Nat) {a0 a1 n0 n1 sp dp k : Nat} {c0 c1 : ClassId} {F G : Nat → Int32} (ha0 : ws[q0]? = some (a0, .inl (c0, n0, .inl F))) (ha1 : ws[q1]? = some (a1, .inl (c1, n1, .inl G))) (ht0 : tys[t0]? = some (c0, .short)) (ht1 : tys[t1]? = some (c1, .short))
    (hn0 : n0 ≤ 48) (hn1 : n1 ≤ 48) (h4 : sp + k ≤ n0) (h5 : dp + k ≤ n1) (hF : Sh F) (hframes : 1 ≤ R.frames) (hlocals : (rest.map fun v => v.category).sum + (nativeFrameWords "java/lang/System" "arraycopy" 5 + 11) ≤ R.locals) (hdg : decode cc pc = .ok (.invokestatic index, 3))
    (kk : ∀ (H1 : Heap) (locs1 : List Loc), sdZ D A s (ws.set q1 (a1, .inl (c1, n1, .inl (va_cpy F G sp dp k)))) H1 locs1 → W p l e R s m args below meth c H1 locs1 cells slots Q (F0 m (pc + 3) ls rest)) : W p l e R s m args below meth c H locs cells slots Q (F0 m pc ls (.int (nI k) :: .int (nI dp) :: .ref a1 :: .int (nI sp) :: .ref a0 :: rest)) := by
  have e1 := nI_clamp (n := sp) (by omega)
  have e2 := nI_clamp (n := dp) (by omega)
  have e3 := nI_clamp (n := k) (by omega)
  refine va_copyi X.1.1 X.1.2.1 (X.1.2.2.1.trans hsz.symm) X.1.2.2.2.1 (X.1.2.2.2.2 _ hlk) (X.1.2.2.2.2 _ q128) (X.1.2.2.2.2 _ q127) (X.1.2.2.2.2 _ q8) X.2.1.1 Z.1 Z.2.1 Z.2.2 q0 q1 t0 t1 ha0 ha1 ht0 ht1 rfl (nI_pos (by omega)) (nI_pos (by omega)) (nI_pos (by omega)) (by rw [e1, e3]; exact h4) (by rw [e2, e3]; exact h5) (fun i _ => sh_fit (hF _)) hframes hlocals hdg (fun H1 locs1 hP hD hS => ?_)
  rw [e1, e2, e3] at hP hD
  exact kk H1 locs1 ⟨hP, hD, hS⟩
theorem sd_clone (X : sdX p s m args c cc nL own D tys A) (Z : sdZ D A s ws H locs) (hsz : ls.size = nL) {index : Nat} (hlk : Cond.methodLink own index ⟨"[S", "clone", "()Ljava/lang/Object;"⟩ ∈ lw_all) (q0 t0 : Nat) {a n : Nat} {cA : ClassId} {F : Nat → Int32} (ha : ws[q0]? = some (a, .inl (cA, n, .inl F))) (ht : tys[t0]? = some (cA, .short)) (hF : Sh F)
    (hframes : 1 ≤ R.frames) (hlocals : (rest.map fun v => v.category).sum + 14 ≤ R.locals) (hcells : cells + 1 ≤ R.cells) (hslots : slots + n ≤ R.slots) (hdg : decode cc pc = .ok (.invokevirtual index, 3))
    (kk : ∀ (q : Nat) (H1 : Heap), s.vm.findClass "[S" = some cA → sdX p s m args c cc nL own D (tys ++ [(cA, .short)]) A → sdZ D A s (ws ++ [sdA q cA n F]) H1 locs → W p l e R s m args below meth c H1 locs (cells + 1) (slots + n) Q (F0 m (pc + 3) ls (.ref q :: rest))) : W p l e R s m args below meth c H locs cells slots Q (F0 m pc ls (.ref a :: rest)) := by
  have hnm : s.vm.findClass "[S" = some cA := (X.2.1.1.2 t0 _ ht).2
  refine va_clone (x := (n, .inl F)) X.1.1 X.1.2.1 (X.1.2.2.1.trans hsz.symm) X.1.2.2.2.1 (X.1.2.2.2.2 _ hlk) (X.1.2.2.2.2 _ q119) (X.1.2.2.2.2 _ q120) (X.1.2.2.2.2 _ q121) (X.1.2.2.2.2 _ q122) X.2.1.2 X.2.1.1 Z.1 Z.2.1 Z.2.2 X.2.2 q0 t0 ha ht hnm (fun i v hv => ?_) hframes hlocals hcells hslots hdg (fun q H1 hK hP hD hS => ?_)
  · rw [vp_cell_i] at hv
    by_cases hi : i < n
    · rw [arrV_read _ _ hi] at hv
      cases hv
      exact sh_fit (hF i)
    · rw [Array.getElem?_eq_none (by rw [arrV_size]; omega)] at hv
      cases hv
  · exact kk q H1 hnm ⟨X.1, ⟨hK, X.2.1.2⟩, X.2.2⟩ ⟨hP, hD, hS⟩
theorem sd_min (X : sdX p s m args c cc nL own D tys A) (hsz : ls.size = nL) {index : Nat} (hlk : Cond.methodLink own index ⟨"java/lang/Math", "min", "(II)I"⟩ ∈ lw_all) {a b k : Nat} (ha : a < 2 ^ 31) (hb2 : b < 2 ^ 31) (hk : (if b < a then b else a) = k)
    (hframes : 1 ≤ R.frames) (hlocals : (rest.map fun v => v.category).sum + 13 ≤ R.locals) (hc : cells ≤ R.cells) (hs : slots ≤ R.slots) (hdg : decode cc pc = .ok (.invokestatic index, 3))
    (kk : W p l e R s m args below meth c H locs cells slots Q (F0 m (pc + 3) ls (.int (nI k) :: rest))) : W p l e R s m args below meth c H locs cells slots Q (F0 m pc ls (.int (nI b) :: .int (nI a) :: rest)) := by
  refine va_mmin X.1.1 X.1.2.1 (X.1.2.2.1.trans hsz.symm) X.1.2.2.2.1 (X.1.2.2.2.2 _ hlk) (X.1.2.2.2.2 _ q95) (X.1.2.2.2.2 _ q6) (X.1.2.2.2.2 _ q96) hframes hlocals hc hs hdg ?_
  have e : (if nI b < nI a then nI b else nI a) = nI k := by
    rw [← hk]
    by_cases q : b < a
    · rw [if_pos q, if_pos (nI_lt q ha)]
    · rw [if_neg q, if_neg (nI_nlt (by omega) hb2)]
  rw [e]
  exact kk
end SD2
end
section
/-! ShortArrays, 2: quickSort, radixSort; Math.min -/
set_option maxRecDepth 100000
abbrev rmQ (d : Nat) : Room := { frames := d + 2, cells := 0, slots := 0, locals := 32 * d + 47 }
section
variable {p : Program} {l : Launch} {e : Env} {R : Room} {s : State} {m : MethodId} {args : Array Value} {below : List Frame} {meth : Method} {c : Code} {A : Nat → Prop} {Q : State → Prop} {D : va_G} {cells slots : Nat}
set_option maxHeartbeats 4000000 in
/-- quickSort's second inner loop: from the right, to a number less than v -/
theorem lp_q2 {x n : Nat} {cA : ClassId} {F : Nat → Int32} (hn : n ≤ 48) (hF : Sh F) {v : Int32} {lo hi a b c0 : Nat} (hh : hi ≤ n) (hv : vp_nar .short v = v) (X : sdX p s m args c cX2_quickSort 13 RX2 D [(cA, .short)] A) (hRf : 1 ≤ R.frames) (hRl : 23 ≤ R.locals) (hRc : cells ≤ R.cells) (hRs : slots ≤ R.slots)
    (kk : ∀ (cc d : Nat) (z w : Int32) (G : Nat → Int32) (H : Heap) (locs : List Loc) (ls : Array Slot), cc ≤ c0 → QP F G v lo hi a b cc d → (b = cc ∨ v.toInt < (G b).toInt) → (b = cc ∨ (G (cc - 1)).toInt < v.toInt) → z.toInt = (cc : Int) - 1 → w.toInt = (d : Int) - 1 → sdZ D A s [sdA x cA n G] H locs → lv_has ls 13 [(0, .ref x), (1, .int (nI lo)), (2, .int (nI hi)), (7, .int v), (8, .int (nI a)), (9, .int (nI b)), (10, .int z), (11, .int w)] → W p l e R s m args below meth c H locs cells slots Q (F0 m 225 ls [])) :
    ∀ (r cc d : Nat) (z w : Int32) (G : Nat → Int32), cc - b < r → cc ≤ c0 → QP F G v lo hi a b cc d → (b = cc ∨ v.toInt < (G b).toInt) → z.toInt = (cc : Int) - 1 → w.toInt = (d : Int) - 1 → ∀ (H : Heap) (locs : List Loc) (ls : Array Slot), sdZ D A s [sdA x cA n G] H locs → lv_has ls 13 [(0, .ref x), (1, .int (nI lo)), (2, .int (nI hi)), (7, .int v), (8, .int (nI a)), (9, .int (nI b)), (10, .int z), (11, .int w)] → W p l e R s m args below meth c H locs cells slots Q (F0 m 181 ls []) := by
  have hx := X.1.1
  have hb := X.1.2.1
  intro r
  induction r with
  | zero =>
    intro cc d z w G h0
    exact absurd h0 (by omega)
  | succ r ih =>
    intro cc d z w G h0 hc0 h1 h2 h3 h4 H locs ls Z hl
    have hG : Sh G := h1.1.sh hF
    obtain ⟨z1, z2, z3, z4, z5⟩ := h1.2.1
    have e1 := nI_toInt (n := b) (by omega)
    refine lv_iload hx hb dX2_quickSort_181 (lv_at hl 6 rfl) ?_
    refine lv_iload hx hb dX2_quickSort_183 (lv_at hl 5 rfl) ?_
    refine sd_tlt (tgt := 225) hx hb dX2_quickSort_185 (by decide) (fun h5 => ?_) (fun h5 => ?_)
    · have e2 : b = cc := by omega
      exact kk cc d z w G H locs ls hc0 h1 h2 (Or.inl e2) h3 h4 Z hl
    · obtain ⟨k, rfl⟩ : ∃ k, cc = k + 1 := ⟨cc - 1, by omega⟩
      obtain rfl : z = nI k := i32_eq (by rw [h3, nI_toInt (by omega)]; omega)
      refine lv_aload_n hx hb dX2_quickSort_188 rfl (lv_at hl 0 rfl) ?_
      refine lv_iload hx hb dX2_quickSort_189 (lv_at hl 6 rfl) ?_
      refine sd_sld (k := k) X Z 0 0 rfl rfl (by omega) (by omega) dX2_quickSort_191 ?_
      refine lv_iload hx hb dX2_quickSort_192 (lv_at hl 3 rfl) ?_
      refine sdCall_si (na := 2) (As := [.int (G k), .int v]) (rest := []) (wr := [sdA x cA n G]) (k := cells) (n := slots) X Z (met_compare l D (G k) v) q88 q89 q5 q90 (by decide +kernel) rfl (by first | exact Nat.le_of_ble_eq_true rfl | (dsimp only; omega)) (by first | exact Nat.le_of_ble_eq_true rfl | (dsimp only; omega)) [] [0] [] (by decide) rfl rfl rfl (by decide) (by decide) rfl hl.1 rfl (Nat.le_of_ble_eq_true rfl) dX2_quickSort_194 (by first | exact Nat.le_of_ble_eq_true rfl | (dsimp only; omega)) (by first | exact Nat.le_of_ble_eq_true rfl | (dsimp only; omega)) (by first | exact Nat.le_of_ble_eq_true rfl | (dsimp only; omega)) (by first | exact Nat.le_of_ble_eq_true rfl | (dsimp only; omega)) (fun q u H locs hq Z => ?_)
      have Z : sdZ D A s [sdA x cA n G] _ _ := Z
      have eq := sub_rng (hG.rng k) (nar_rng hv)
      rw [← hq] at eq
      refine lv_dup hx hb dX2_quickSort_197 rfl ?_
      refine lv_istore (lv' := [(12, .int q), (0, .ref x), (1, .int (nI lo)), (2, .int (nI hi)), (7, .int v), (8, .int (nI a)), (9, .int (nI b)), (10, .int (nI k)), (11, .int w)]) hx hb dX2_quickSort_198 hl (by decide) rfl (fun ls hl => ?_)
      refine sd_zlt (tgt := 225) hx hb dX2_quickSort_200 (by decide) (fun h6 => ?_) (fun h6 => ?_)
      · exact kk (k + 1) d (nI k) w G H locs ls hc0 h1 h2 (Or.inr (show (G k).toInt < v.toInt by omega)) h3 h4 Z (lv_sub hl [1, 2, 3, 4, 5, 6, 7, 8] rfl)
      · refine lv_iload hx hb dX2_quickSort_203 (lv_at hl 0 rfl) ?_
        refine sd_zne (tgt := 219) hx hb dX2_quickSort_205 (by decide) (fun h7 => ?_) (fun h7 => ?_)
        · refine lv_iinc (v := nI k + Int32.ofInt (-1)) (lv' := (10, .int (nI k + Int32.ofInt (-1))) :: [(12, .int q), (0, .ref x), (1, .int (nI lo)), (2, .int (nI hi)), (7, .int v), (8, .int (nI a)), (9, .int (nI b)), (11, .int w)]) hx hb dX2_quickSort_219 hl (k := 7) rfl rfl (by decide) rfl (fun ls hl => ?_)
          refine lv_goto (tgt := 181) hx hb dX2_quickSort_222 (by decide) ?_
          have h8 := h1.more (by omega) (show v.toInt < (G k).toInt by omega)
          exact ih k d _ w G (by omega) (by omega) h8 (by
            rcases h2 with q2 | q2
            · exact absurd q2 (by omega)
            · exact Or.inr q2) (sd_dect (by omega)) h4 H locs ls Z (lv_sub hl [2, 3, 4, 5, 6, 7, 0, 8] rfl)
        · obtain ⟨j, rfl⟩ : ∃ j, d = j + 1 := ⟨d - 1, by omega⟩
          obtain rfl : w = nI j := i32_eq (by rw [h4, nI_toInt (by omega)]; omega)
          refine lv_aload_n hx hb dX2_quickSort_208 rfl (lv_at hl 1 rfl) ?_
          refine lv_iload hx hb dX2_quickSort_209 (lv_at hl 7 rfl) ?_
          refine lv_iload hx hb dX2_quickSort_211 (lv_at hl 8 rfl) ?_
          refine lv_iinc (v := nI j + Int32.ofInt (-1)) (lv' := (11, .int (nI j + Int32.ofInt (-1))) :: [(12, .int q), (0, .ref x), (1, .int (nI lo)), (2, .int (nI hi)), (7, .int v), (8, .int (nI a)), (9, .int (nI b)), (10, .int (nI k))]) hx hb dX2_quickSort_213 hl (k := 8) rfl rfl (by decide) rfl (fun ls hl => ?_)
          refine sdCall_sv (na := 3) (As := [.ref x, .int (nI k), .int (nI j)]) (rest := []) (wr := []) (k := cells) (n := slots) X Z (met_swap l D hn hG (by omega : k < n) (by omega : j < n)) q91 q92 q4 q93 (by decide +kernel) rfl (by first | exact Nat.le_of_ble_eq_true rfl | (dsimp only; omega)) (by first | exact Nat.le_of_ble_eq_true rfl | (dsimp only; omega)) [0] [] [0] (by decide) rfl rfl rfl (by decide) (by decide) rfl hl.1 rfl (Nat.le_of_ble_eq_true rfl) dX2_quickSort_216 (by first | exact Nat.le_of_ble_eq_true rfl | (dsimp only; omega)) (by first | exact Nat.le_of_ble_eq_true rfl | (dsimp only; omega)) (by first | exact Nat.le_of_ble_eq_true rfl | (dsimp only; omega)) (by first | exact Nat.le_of_ble_eq_true rfl | (dsimp only; omega)) (fun K H locs hu Z => ?_)
          subst hu
          refine lv_iinc (v := nI k + Int32.ofInt (-1)) (lv' := (10, .int (nI k + Int32.ofInt (-1))) :: [(11, .int (nI j + Int32.ofInt (-1))), (12, .int q), (0, .ref x), (1, .int (nI lo)), (2, .int (nI hi)), (7, .int v), (8, .int (nI a)), (9, .int (nI b))]) hx hb dX2_quickSort_219 hl (k := 8) rfl rfl (by decide) rfl (fun ls hl => ?_)
          refine lv_goto (tgt := 181) hx hb dX2_quickSort_222 (by decide) ?_
          have h8 := h1.eqR (by omega) (show (G k).toInt = v.toInt by omega)
          exact ih k j _ _ (swp G k j) (by omega) (by omega) h8 (by
            rcases h2 with q2 | q2
            · exact absurd q2 (by omega)
            · refine Or.inr ?_
              have n1 : b ≠ k := fun q3 => by rw [← q3] at eq; omega
              rw [swp_at, if_neg (by omega), if_neg n1]
              exact q2) (sd_dect (by omega)) (sd_dect (by omega)) H locs ls Z (lv_sub hl [3, 4, 5, 6, 7, 8, 0, 1] rfl)
set_option maxHeartbeats 4000000 in
/-- quickSort's partition: its outer loop -/
theorem lp_q1 {x n : Nat} {cA : ClassId} {F : Nat → Int32} (hn : n ≤ 48) (hF : Sh F) {v : Int32} {lo hi : Nat} (hh : hi ≤ n) (hv : vp_nar .short v = v) (X : sdX p s m args c cX2_quickSort 13 RX2 D [(cA, .short)] A) (hRf : 1 ≤ R.frames) (hRl : 23 ≤ R.locals) (hRc : cells ≤ R.cells) (hRs : slots ≤ R.slots)
    (kk : ∀ (a b d : Nat) (z w : Int32) (G : Nat → Int32) (H : Heap) (locs : List Loc) (ls : Array Slot), QP F G v lo hi a b b d → z.toInt = (b : Int) - 1 → w.toInt = (d : Int) - 1 → sdZ D A s [sdA x cA n G] H locs → lv_has ls 13 [(0, .ref x), (1, .int (nI lo)), (2, .int (nI hi)), (7, .int v), (8, .int (nI a)), (9, .int (nI b)), (10, .int z), (11, .int w)] → W p l e R s m args below meth c H locs cells slots Q (F0 m 252 ls [])) :
    ∀ (r a b cc d : Nat) (z w : Int32) (G : Nat → Int32), cc - b < r → QP F G v lo hi a b cc d → z.toInt = (cc : Int) - 1 → w.toInt = (d : Int) - 1 → ∀ (H : Heap) (locs : List Loc) (ls : Array Slot), sdZ D A s [sdA x cA n G] H locs → lv_has ls 13 [(0, .ref x), (1, .int (nI lo)), (2, .int (nI hi)), (7, .int v), (8, .int (nI a)), (9, .int (nI b)), (10, .int z), (11, .int w)] → W p l e R s m args below meth c H locs cells slots Q (F0 m 137 ls []) := by
  have hx := X.1.1
  have hb := X.1.2.1
  intro r
  induction r with
  | zero =>
    intro a b cc d z w G h0
    exact absurd h0 (by omega)
  | succ r ih =>
    intro a b cc d z w G h0 h1 h3 h4 H locs ls Z hl
    have hG : Sh G := h1.1.sh hF
    obtain ⟨z1, z2, z3, z4, z5⟩ := h1.2.1
    have e1 := nI_toInt (n := b) (by omega)
    have go : ∀ (H : Heap) (locs : List Loc) (ls : Array Slot), (b = cc ∨ v.toInt < (G b).toInt) → sdZ D A s [sdA x cA n G] H locs → lv_has ls 13 [(0, .ref x), (1, .int (nI lo)), (2, .int (nI hi)), (7, .int v), (8, .int (nI a)), (9, .int (nI b)), (10, .int z), (11, .int w)] → W p l e R s m args below meth c H locs cells slots Q (F0 m 181 ls []) := by
      intro H locs ls h5 Z hl
      refine lp_q2 (c0 := cc) hn hF hh hv X hRf hRl hRc hRs (fun cc d z w G H locs ls g0 g1 g2 g3 g4 g5 Z hl => ?_) (cc - b + 1) cc d z w G (by omega) (Nat.le_refl _) h1 h5 h3 h4 H locs ls Z hl
      have hG : Sh G := g1.1.sh hF
      obtain ⟨y1, y2, y3, y4, y5⟩ := g1.2.1
      refine lv_iload hx hb dX2_quickSort_225 (lv_at hl 5 rfl) ?_
      refine lv_iload hx hb dX2_quickSort_227 (lv_at hl 6 rfl) ?_
      refine sd_tle (tgt := 235) hx hb dX2_quickSort_229 (by decide) (fun h6 => ?_) (fun h6 => ?_)
      · obtain ⟨k, rfl⟩ : ∃ k, cc = k + 1 := ⟨cc - 1, by omega⟩
        obtain rfl : z = nI k := i32_eq (by rw [g4, nI_toInt (by omega)]; omega)
        refine lv_aload_n hx hb dX2_quickSort_235 rfl (lv_at hl 0 rfl) ?_
        refine lv_iload hx hb dX2_quickSort_236 (lv_at hl 5 rfl) ?_
        refine lv_iinc (v := nI (b + 1)) (lv' := [(9, .int (nI (b + 1))), (0, .ref x), (1, .int (nI lo)), (2, .int (nI hi)), (7, .int v), (8, .int (nI a)), (10, .int (nI k)), (11, .int w)]) hx hb dX2_quickSort_238 hl (k := 5) rfl (sd_inc _) (by decide) rfl (fun ls hl => ?_)
        refine lv_iload hx hb dX2_quickSort_241 (lv_at hl 6 rfl) ?_
        refine lv_iinc (v := nI k + Int32.ofInt (-1)) (lv' := (10, .int (nI k + Int32.ofInt (-1))) :: [(9, .int (nI (b + 1))), (0, .ref x), (1, .int (nI lo)), (2, .int (nI hi)), (7, .int v), (8, .int (nI a)), (11, .int w)]) hx hb dX2_quickSort_243 hl (k := 6) rfl rfl (by decide) rfl (fun ls hl => ?_)
        refine sdCall_sv (na := 3) (As := [.ref x, .int (nI b), .int (nI k)]) (rest := []) (wr := []) (k := cells) (n := slots) X Z (met_swap l D hn hG (by omega : b < n) (by omega : k < n)) q91 q92 q4 q93 (by decide +kernel) rfl (by first | exact Nat.le_of_ble_eq_true rfl | (dsimp only; omega)) (by first | exact Nat.le_of_ble_eq_true rfl | (dsimp only; omega)) [0] [] [0] (by decide) rfl rfl rfl (by decide) (by decide) rfl hl.1 rfl (Nat.le_of_ble_eq_true rfl) dX2_quickSort_246 (by first | exact Nat.le_of_ble_eq_true rfl | (dsimp only; omega)) (by first | exact Nat.le_of_ble_eq_true rfl | (dsimp only; omega)) (by first | exact Nat.le_of_ble_eq_true rfl | (dsimp only; omega)) (by first | exact Nat.le_of_ble_eq_true rfl | (dsimp only; omega)) (fun K H locs hu Z => ?_)
        subst hu
        refine lv_goto (tgt := 137) hx hb dX2_quickSort_249 (by decide) ?_
        obtain ⟨h8, h9⟩ := g1.cross (by omega) (by
          rcases g2 with q | q
          · exact absurd q (by omega)
          · exact q) (by
          rcases g3 with q | q
          · exact absurd q (by omega)
          · exact q)
        exact ih a (b + 1) k d _ w (swp G b k) (by omega) h9 (sd_dect (by omega)) g5 H locs ls Z (lv_sub hl [2, 3, 4, 5, 6, 1, 0, 7] rfl)
      · refine lv_goto (tgt := 252) hx hb dX2_quickSort_232 (by decide) ?_
        obtain rfl : b = cc := by omega
        exact kk a b d z w G H locs ls g1 g4 g5 Z hl
    refine lv_iload hx hb dX2_quickSort_137 (lv_at hl 5 rfl) ?_
    refine lv_iload hx hb dX2_quickSort_139 (lv_at hl 6 rfl) ?_
    refine sd_tgt (tgt := 181) hx hb dX2_quickSort_141 (by decide) (fun h5 => ?_) (fun h5 => ?_)
    · exact go H locs ls (Or.inl (by omega)) Z hl
    · refine lv_aload_n hx hb dX2_quickSort_144 rfl (lv_at hl 0 rfl) ?_
      refine lv_iload hx hb dX2_quickSort_145 (lv_at hl 5 rfl) ?_
      refine sd_sld (k := b) X Z 0 0 rfl rfl (by omega) (by omega) dX2_quickSort_147 ?_
      refine lv_iload hx hb dX2_quickSort_148 (lv_at hl 3 rfl) ?_
      refine sdCall_si (na := 2) (As := [.int (G b), .int v]) (rest := []) (wr := [sdA x cA n G]) (k := cells) (n := slots) X Z (met_compare l D (G b) v) q88 q89 q5 q90 (by decide +kernel) rfl (by first | exact Nat.le_of_ble_eq_true rfl | (dsimp only; omega)) (by first | exact Nat.le_of_ble_eq_true rfl | (dsimp only; omega)) [] [0] [] (by decide) rfl rfl rfl (by decide) (by decide) rfl hl.1 rfl (Nat.le_of_ble_eq_true rfl) dX2_quickSort_150 (by first | exact Nat.le_of_ble_eq_true rfl | (dsimp only; omega)) (by first | exact Nat.le_of_ble_eq_true rfl | (dsimp only; omega)) (by first | exact Nat.le_of_ble_eq_true rfl | (dsimp only; omega)) (by first | exact Nat.le_of_ble_eq_true rfl | (dsimp only; omega)) (fun q u H locs hq Z => ?_)
      have Z : sdZ D A s [sdA x cA n G] _ _ := Z
      have eq := sub_rng (hG.rng b) (nar_rng hv)
      rw [← hq] at eq
      refine lv_dup hx hb dX2_quickSort_153 rfl ?_
      refine lv_istore (lv' := [(12, .int q), (0, .ref x), (1, .int (nI lo)), (2, .int (nI hi)), (7, .int v), (8, .int (nI a)), (9, .int (nI b)), (10, .int z), (11, .int w)]) hx hb dX2_quickSort_154 hl (by decide) rfl (fun ls hl => ?_)
      refine sd_zgt (tgt := 181) hx hb dX2_quickSort_156 (by decide) (fun h6 => ?_) (fun h6 => ?_)
      · exact go H locs ls (Or.inr (by omega)) Z (lv_sub hl [1, 2, 3, 4, 5, 6, 7, 8] rfl)
      · refine lv_iload hx hb dX2_quickSort_159 (lv_at hl 0 rfl) ?_
        refine sd_zne (tgt := 175) hx hb dX2_quickSort_161 (by decide) (fun h7 => ?_) (fun h7 => ?_)
        · refine lv_iinc (v := nI (b + 1)) (lv' := [(9, .int (nI (b + 1))), (12, .int q), (0, .ref x), (1, .int (nI lo)), (2, .int (nI hi)), (7, .int v), (8, .int (nI a)), (10, .int z), (11, .int w)]) hx hb dX2_quickSort_175 hl (k := 6) rfl (sd_inc _) (by decide) rfl (fun ls hl => ?_)
          refine lv_goto (tgt := 137) hx hb dX2_quickSort_178 (by decide) ?_
          exact ih a (b + 1) cc d z w G (by omega) (h1.less (by omega) (by omega)) h3 h4 H locs ls Z (lv_sub hl [2, 3, 4, 5, 6, 0, 7, 8] rfl)
        · refine lv_aload_n hx hb dX2_quickSort_164 rfl (lv_at hl 1 rfl) ?_
          refine lv_iload hx hb dX2_quickSort_165 (lv_at hl 5 rfl) ?_
          refine lv_iinc (v := nI (a + 1)) (lv' := [(8, .int (nI (a + 1))), (12, .int q), (0, .ref x), (1, .int (nI lo)), (2, .int (nI hi)), (7, .int v), (9, .int (nI b)), (10, .int z), (11, .int w)]) hx hb dX2_quickSort_167 hl (k := 5) rfl (sd_inc _) (by decide) rfl (fun ls hl => ?_)
          refine lv_iload hx hb dX2_quickSort_170 (lv_at hl 6 rfl) ?_
          refine sdCall_sv (na := 3) (As := [.ref x, .int (nI a), .int (nI b)]) (rest := []) (wr := []) (k := cells) (n := slots) X Z (met_swap l D hn hG (by omega : a < n) (by omega : b < n)) q91 q92 q4 q93 (by decide +kernel) rfl (by first | exact Nat.le_of_ble_eq_true rfl | (dsimp only; omega)) (by first | exact Nat.le_of_ble_eq_true rfl | (dsimp only; omega)) [0] [] [0] (by decide) rfl rfl rfl (by decide) (by decide) rfl hl.1 rfl (Nat.le_of_ble_eq_true rfl) dX2_quickSort_172 (by first | exact Nat.le_of_ble_eq_true rfl | (dsimp only; omega)) (by first | exact Nat.le_of_ble_eq_true rfl | (dsimp only; omega)) (by first | exact Nat.le_of_ble_eq_true rfl | (dsimp only; omega)) (by first | exact Nat.le_of_ble_eq_true rfl | (dsimp only; omega)) (fun K H locs hu Z => ?_)
          subst hu
          refine lv_iinc (v := nI (b + 1)) (lv' := [(9, .int (nI (b + 1))), (8, .int (nI (a + 1))), (12, .int q), (0, .ref x), (1, .int (nI lo)), (2, .int (nI hi)), (7, .int v), (10, .int z), (11, .int w)]) hx hb dX2_quickSort_175 hl (k := 6) rfl (sd_inc _) (by decide) rfl (fun ls hl => ?_)
          refine lv_goto (tgt := 137) hx hb dX2_quickSort_178 (by decide) ?_
          exact ih (a + 1) (b + 1) cc d z w (swp G a b) (by omega) (h1.eqL (by omega) (by omega)) h3 h4 H locs ls Z (lv_sub hl [3, 4, 5, 6, 1, 0, 7, 8] rfl)
end
section
variable {p : Program} {l : Launch} {e : Env} {R : Room} {s : State} {m : MethodId} {args : Array Value} {below : List Frame} {meth : Method} {c : Code} {A : Nat → Prop} {Q : State → Prop} {D : va_G} {cells slots : Nat}
set_option maxHeartbeats 4000000 in
/-- quickSort behind its first call of itself -/
theorem lp_q3 {x n : Nat} {cA : ClassId} {F : Nat → Int32} (hn : n ≤ 48) (hF : Sh F) {dd lo hi a b d : Nat} {v : Int32} {z w : Int32} (hh : hi ≤ n) (X : sdX p s m args c cX2_quickSort 13 RX2 D [(cA, .short)] A) (hM : ∀ (K : Nat → Int32) (u r : Nat), Sh K → u ≤ r → r ≤ n → r - u ≤ 15 + dd → sdMv l yX2_quickSort cX2_quickSort 13 (rmQ dd) [.ref x, .int (nI u), .int (nI r)] D [sdA x cA n K] [(cA, .short)] (fun G : Nat → Int32 => SO K G u r) (fun G => [sdA x cA n G]))
    (hbd : lo ≤ b ∧ b ≤ d ∧ d ≤ hi) (hdd : d - b ≤ 15 + dd) (hz : z.toInt = (b : Int) - 1) (hw : w.toInt = (d : Int) - 1)
    (kk : ∀ (K : Nat → Int32) (H : Heap) (locs : List Loc) (ls : Array Slot), SO F K (hi - (d - b)) hi → sdZ D A s [sdA x cA n K] H locs → W p l e (rmQ (dd + 1)) s m args below meth c H locs 0 0 Q (F0 m 348 ls [])) :
    ∀ (H : Heap) (locs : List Loc) (ls : Array Slot), sdZ D A s [sdA x cA n F] H locs → lv_has ls 13 [(0, .ref x), (2, .int (nI hi)), (10, .int z), (11, .int w)] → W p l e (rmQ (dd + 1)) s m args below meth c H locs 0 0 Q (F0 m 327 ls []) := by
  have hx := X.1.1
  have hb := X.1.2.1
  intro H locs ls Z hl
  obtain ⟨b1, b2, b3⟩ := hbd
  have e0 : w - z = nI (d - b) := i32_eq (by rw [fb_subI (by omega) (by omega), nI_toInt (by omega)]; omega)
  refine lv_iload hx hb dX2_quickSort_327 (lv_at hl 3 rfl) ?_
  refine lv_iload hx hb dX2_quickSort_329 (lv_at hl 2 rfl) ?_
  refine lv_isub hx hb dX2_quickSort_331 ?_
  refine sd_top e0 ?_
  refine lv_dup hx hb dX2_quickSort_332 rfl ?_
  refine lv_istore (lv' := [(12, .int (nI (d - b))), (0, .ref x), (2, .int (nI hi)), (10, .int z), (11, .int w)]) hx hb dX2_quickSort_333 hl (by decide) rfl (fun ls hl => ?_)
  refine lv_iconst (v := nI 1) hx hb dX2_quickSort_335 (by decide) ?_
  refine sd_nle (tgt := 348) hx hb dX2_quickSort_336 (by decide) (by omega) (by omega) (fun h3 => ?_) (fun h3 => ?_)
  · exact kk F H locs ls ⟨RA.rf, Sd.small (by omega)⟩ Z
  · refine lv_aload_n hx hb dX2_quickSort_339 rfl (lv_at hl 1 rfl) ?_
    refine lv_iload_n hx hb dX2_quickSort_340 rfl (lv_at hl 2 rfl) ?_
    refine lv_iload hx hb dX2_quickSort_341 (lv_at hl 0 rfl) ?_
    refine sd_isub (a := hi) (b := d - b) (k := hi - (d - b)) hx hb dX2_quickSort_343 (by omega) rfl ?_
    refine lv_iload_n hx hb dX2_quickSort_344 rfl (lv_at hl 2 rfl) ?_
    refine sdCall_sv (na := 3) (As := [.ref x, .int (nI (hi - (d - b))), .int (nI hi)]) (rest := []) (wr := []) (k := 0) (n := 0) X Z (hM F (hi - (d - b)) hi hF (by omega) hh (by omega)) q100 q80 q4 q81 (by decide +kernel) rfl (by dsimp only [rmQ]; omega) (by dsimp only [rmQ]; omega) [0] [] [0] (by decide) rfl rfl rfl (by decide) (by decide) rfl hl.1 rfl (Nat.le_of_ble_eq_true rfl) dX2_quickSort_345 (by first | exact Nat.le_of_ble_eq_true rfl | (dsimp only; omega)) (by first | exact Nat.le_of_ble_eq_true rfl | (dsimp only; omega)) (by first | exact Nat.le_of_ble_eq_true rfl | (dsimp only; omega)) (by first | exact Nat.le_of_ble_eq_true rfl | (dsimp only; omega)) (fun K H locs hu Z => ?_)
    exact kk K H locs ls hu Z
end
set_option maxHeartbeats 4000000 in
/-- quickSort of few -/
theorem met_quick0 (l : Launch) (D : va_G) {x n : Nat} {cA : ClassId} {F : Nat → Int32} (hn : n ≤ 48) (hF : Sh F) {lo hi : Nat} (h1 : lo ≤ hi) (h2 : hi ≤ n) (h3 : hi - lo ≤ 15) : sdMv l yX2_quickSort cX2_quickSort 13 (rmQ 0) [.ref x, .int (nI lo), .int (nI hi)] D [sdA x cA n F] [(cA, .short)] (fun G : Nat → Int32 => SO F G lo hi) (fun G => [sdA x cA n G]) := by
  refine sdMv.of (by decide +kernel) (Nat.le_of_ble_eq_true rfl) ?_
  intro p e s m args below meth c A ls X hr hlk Z hl
  have X : sdX p s m args c cX2_quickSort 13 RX2 D [(cA, .short)] A := X
  have hx := X.1.1
  have hb := X.1.2.1
  have hl : lv_has ls 13 [(0, .ref x), (1, .int (nI lo)), (2, .int (nI hi))] := hl
  refine lv_iload_n hx hb dX2_quickSort_0 rfl (lv_at hl 2 rfl) ?_
  refine lv_iload_n hx hb dX2_quickSort_1 rfl (lv_at hl 1 rfl) ?_
  refine sd_isub (a := hi) (b := lo) (k := hi - lo) hx hb dX2_quickSort_2 (by omega) rfl ?_
  refine lv_istore_n (lv' := [(3, .int (nI (hi - lo))), (0, .ref x), (1, .int (nI lo)), (2, .int (nI hi))]) hx hb dX2_quickSort_3 rfl hl (by decide) rfl (fun ls hl => ?_)
  refine lv_iload_n hx hb dX2_quickSort_4 rfl (lv_at hl 0 rfl) ?_
  refine lv_bipush (v := nI 16) hx hb dX2_quickSort_5 (by decide) ?_
  refine sd_nge (tgt := 17) hx hb dX2_quickSort_7 (by decide) (by omega) (by omega) (fun h4 => ?_) (fun h4 => ?_)
  · exact absurd h4 (by omega)
  · refine lv_aload_n hx hb dX2_quickSort_10 rfl (lv_at hl 1 rfl) ?_
    refine lv_iload_n hx hb dX2_quickSort_11 rfl (lv_at hl 2 rfl) ?_
    refine lv_iload_n hx hb dX2_quickSort_12 rfl (lv_at hl 3 rfl) ?_
    refine sdCall_sv (na := 3) (As := [.ref x, .int (nI lo), .int (nI hi)]) (rest := []) (wr := []) (k := 0) (n := 0) X Z (met_selectionSort l D hn hF h1 h2) q82 q83 q4 q84 (by decide +kernel) rfl (by first | exact Nat.le_of_ble_eq_true rfl | (dsimp only; omega)) (by first | exact Nat.le_of_ble_eq_true rfl | (dsimp only; omega)) [0] [] [0] (by decide) rfl rfl rfl (by decide) (by decide) rfl hl.1 rfl (Nat.le_of_ble_eq_true rfl) dX2_quickSort_13 (by first | exact Nat.le_of_ble_eq_true rfl | (dsimp only; omega)) (by first | exact Nat.le_of_ble_eq_true rfl | (dsimp only; omega)) (by first | exact Nat.le_of_ble_eq_true rfl | (dsimp only; omega)) (by first | exact Nat.le_of_ble_eq_true rfl | (dsimp only; omega)) (fun G H locs hu Z => ?_)
    exact sdRet_v X hr hlk Z G hu [0] (by decide) rfl rfl (Nat.zero_le _) (Nat.zero_le _) dX2_quickSort_16
set_option maxHeartbeats 4000000 in
/-- quickSort, if it holds of fewer -/
theorem met_quickS (l : Launch) (D : va_G) {x n : Nat} {cA : ClassId} {F : Nat → Int32} (hn : n ≤ 48) (hF : Sh F) {lo hi : Nat} (h1 : lo ≤ hi) (h2 : hi ≤ n) {dd : Nat} (hM : ∀ (K : Nat → Int32) (u r : Nat), Sh K → u ≤ r → r ≤ n → r - u ≤ 15 + dd → sdMv l yX2_quickSort cX2_quickSort 13 (rmQ dd) [.ref x, .int (nI u), .int (nI r)] D [sdA x cA n K] [(cA, .short)] (fun G : Nat → Int32 => SO K G u r) (fun G => [sdA x cA n G])) (h3 : hi - lo ≤ 15 + (dd + 1)) : sdMv l yX2_quickSort cX2_quickSort 13 (rmQ (dd + 1)) [.ref x, .int (nI lo), .int (nI hi)] D [sdA x cA n F] [(cA, .short)] (fun G : Nat → Int32 => SO F G lo hi) (fun G => [sdA x cA n G]) := by
  refine sdMv.of (by decide +kernel) (Nat.le_of_ble_eq_true rfl) ?_
  intro p e s m args below meth c A ls X hr hlk Z hl
  have X : sdX p s m args c cX2_quickSort 13 RX2 D [(cA, .short)] A := X
  have hx := X.1.1
  have hb := X.1.2.1
  have hl : lv_has ls 13 [(0, .ref x), (1, .int (nI lo)), (2, .int (nI hi))] := hl
  refine lv_iload_n hx hb dX2_quickSort_0 rfl (lv_at hl 2 rfl) ?_
  refine lv_iload_n hx hb dX2_quickSort_1 rfl (lv_at hl 1 rfl) ?_
  refine sd_isub (a := hi) (b := lo) (k := hi - lo) hx hb dX2_quickSort_2 (by omega) rfl ?_
  refine lv_istore_n (lv' := [(3, .int (nI (hi - lo))), (0, .ref x), (1, .int (nI lo)), (2, .int (nI hi))]) hx hb dX2_quickSort_3 rfl hl (by decide) rfl (fun ls hl => ?_)
  refine lv_iload_n hx hb dX2_quickSort_4 rfl (lv_at hl 0 rfl) ?_
  refine lv_bipush (v := nI 16) hx hb dX2_quickSort_5 (by decide) ?_
  refine sd_nge (tgt := 17) hx hb dX2_quickSort_7 (by decide) (by omega) (by omega) (fun h4 => ?_) (fun h4 => ?_)
  · refine lv_iload_n hx hb dX2_quickSort_17 rfl (lv_at hl 2 rfl) ?_
    refine lv_iload_n hx hb dX2_quickSort_18 rfl (lv_at hl 0 rfl) ?_
    refine lv_iconst (v := nI 2) hx hb dX2_quickSort_19 (by decide) ?_
    refine sd_idiv (a := hi - lo) (d := 2) (k := (hi - lo) / 2) hx hb dX2_quickSort_20 (by omega) (by omega) (by omega) rfl ?_
    refine sd_iadd (a := lo) (b := (hi - lo) / 2) (k := lo + ((hi - lo) / 2)) hx hb dX2_quickSort_21 rfl ?_
    refine lv_istore (lv' := [(4, .int (nI (lo + ((hi - lo) / 2)))), (3, .int (nI (hi - lo))), (0, .ref x), (1, .int (nI lo)), (2, .int (nI hi))]) hx hb dX2_quickSort_22 hl (by decide) rfl (fun ls hl => ?_)
    refine lv_iload_n hx hb dX2_quickSort_24 rfl (lv_at hl 3 rfl) ?_
    refine lv_istore (lv' := [(5, .int (nI lo)), (4, .int (nI (lo + ((hi - lo) / 2)))), (3, .int (nI (hi - lo))), (0, .ref x), (1, .int (nI lo)), (2, .int (nI hi))]) hx hb dX2_quickSort_25 hl (by decide) rfl (fun ls hl => ?_)
    refine lv_iload_n hx hb dX2_quickSort_27 rfl (lv_at hl 5 rfl) ?_
    refine lv_iconst (v := nI 1) hx hb dX2_quickSort_28 (by decide) ?_
    refine sd_isub (a := hi) (b := 1) (k := hi - 1) hx hb dX2_quickSort_29 (by omega) rfl ?_
    refine lv_istore (lv' := [(6, .int (nI (hi - 1))), (5, .int (nI lo)), (4, .int (nI (lo + ((hi - lo) / 2)))), (3, .int (nI (hi - lo))), (0, .ref x), (1, .int (nI lo)), (2, .int (nI hi))]) hx hb dX2_quickSort_30 hl (by decide) rfl (fun ls hl => ?_)
    refine lv_iload_n hx hb dX2_quickSort_32 rfl (lv_at hl 3 rfl) ?_
    refine lv_sipush (v := nI 128) hx hb dX2_quickSort_33 (by decide) ?_
    refine sd_nle (tgt := 103) hx hb dX2_quickSort_36 (by decide) (by omega) (by omega) (fun h5 => ?_) (fun h5 => ?_)
    · refine lv_aload_n hx hb dX2_quickSort_103 rfl (lv_at hl 4 rfl) ?_
      refine lv_iload hx hb dX2_quickSort_104 (lv_at hl 1 rfl) ?_
      refine lv_iload hx hb dX2_quickSort_106 (lv_at hl 2 rfl) ?_
      refine lv_iload hx hb dX2_quickSort_108 (lv_at hl 0 rfl) ?_
      refine sdCall_si (na := 4) (As := [.ref x, .int (nI lo), .int (nI (lo + ((hi - lo) / 2))), .int (nI (hi - 1))]) (rest := []) (wr := []) (k := 0) (n := 0) X Z (met_med3 l D hn hF (by omega : lo < n) (by omega : lo + (hi - lo) / 2 < n) (by omega : hi - 1 < n)) q85 q86 q4 q87 (by decide +kernel) rfl (by dsimp only [rmQ]; omega) (by dsimp only [rmQ]; omega) [0] [] [0] (by decide) rfl rfl rfl (by decide) (by decide) rfl hl.1 rfl (Nat.le_of_ble_eq_true rfl) dX2_quickSort_110 (by first | exact Nat.le_of_ble_eq_true rfl | (dsimp only; omega)) (by first | exact Nat.le_of_ble_eq_true rfl | (dsimp only; omega)) (by first | exact Nat.le_of_ble_eq_true rfl | (dsimp only; omega)) (by first | exact Nat.le_of_ble_eq_true rfl | (dsimp only; omega)) (fun q u H locs hq Z => ?_)
      have Z : sdZ D A s [sdA x cA n F] _ _ := Z
      obtain ⟨i, i1, i2, rfl⟩ : ∃ i, lo ≤ i ∧ i < hi ∧ q = nI i := by
        rcases hq with e | e | e
        · exact ⟨_, by omega, by omega, e⟩
        · exact ⟨_, by omega, by omega, e⟩
        · exact ⟨_, by omega, by omega, e⟩
      refine lv_istore (lv' := [(4, .int (nI i)), (6, .int (nI (hi - 1))), (5, .int (nI lo)), (3, .int (nI (hi - lo))), (0, .ref x), (1, .int (nI lo)), (2, .int (nI hi))]) hx hb dX2_quickSort_113 hl (by decide) rfl (fun ls hl => ?_)
      refine lv_aload_n hx hb dX2_quickSort_115 rfl (lv_at hl 4 rfl) ?_
      refine lv_iload hx hb dX2_quickSort_116 (lv_at hl 0 rfl) ?_
      refine sd_sld (k := i) X Z 0 0 rfl rfl (by omega) (by omega) dX2_quickSort_118 ?_
      refine lv_istore (lv' := [(7, .int (F i)), (4, .int (nI i)), (6, .int (nI (hi - 1))), (5, .int (nI lo)), (3, .int (nI (hi - lo))), (0, .ref x), (1, .int (nI lo)), (2, .int (nI hi))]) hx hb dX2_quickSort_119 hl (by decide) rfl (fun ls hl => ?_)
      refine lv_iload_n hx hb dX2_quickSort_121 rfl (lv_at hl 6 rfl) ?_
      refine lv_istore (lv' := [(8, .int (nI lo)), (7, .int (F i)), (4, .int (nI i)), (6, .int (nI (hi - 1))), (5, .int (nI lo)), (3, .int (nI (hi - lo))), (0, .ref x), (1, .int (nI lo)), (2, .int (nI hi))]) hx hb dX2_quickSort_122 hl (by decide) rfl (fun ls hl => ?_)
      refine lv_iload hx hb dX2_quickSort_124 (lv_at hl 0 rfl) ?_
      refine lv_istore (lv' := [(9, .int (nI lo)), (8, .int (nI lo)), (7, .int (F i)), (4, .int (nI i)), (6, .int (nI (hi - 1))), (5, .int (nI lo)), (3, .int (nI (hi - lo))), (0, .ref x), (1, .int (nI lo)), (2, .int (nI hi))]) hx hb dX2_quickSort_126 hl (by decide) rfl (fun ls hl => ?_)
      refine lv_iload_n hx hb dX2_quickSort_128 rfl (lv_at hl 9 rfl) ?_
      refine lv_iconst (v := nI 1) hx hb dX2_quickSort_129 (by decide) ?_
      refine sd_isub (a := hi) (b := 1) (k := hi - 1) hx hb dX2_quickSort_130 (by omega) rfl ?_
      refine lv_istore (lv' := [(10, .int (nI (hi - 1))), (9, .int (nI lo)), (8, .int (nI lo)), (7, .int (F i)), (4, .int (nI i)), (6, .int (nI (hi - 1))), (5, .int (nI lo)), (3, .int (nI (hi - lo))), (0, .ref x), (1, .int (nI lo)), (2, .int (nI hi))]) hx hb dX2_quickSort_131 hl (by decide) rfl (fun ls hl => ?_)
      refine lv_iload hx hb dX2_quickSort_133 (lv_at hl 0 rfl) ?_
      refine lv_istore (lv' := [(11, .int (nI (hi - 1))), (10, .int (nI (hi - 1))), (9, .int (nI lo)), (8, .int (nI lo)), (7, .int (F i)), (4, .int (nI i)), (6, .int (nI (hi - 1))), (5, .int (nI lo)), (3, .int (nI (hi - lo))), (0, .ref x), (1, .int (nI lo)), (2, .int (nI hi))]) hx hb dX2_quickSort_135 hl (by decide) rfl (fun ls hl => ?_)
      have e1 : (nI (hi - 1)).toInt = (hi : Int) - 1 := by rw [nI_toInt (by omega)]; omega
      refine lp_q1 (F := F) (v := F i) (lo := lo) (hi := hi) hn hF h2 (hF i) X (by dsimp only [rmQ]; omega) (by dsimp only [rmQ]; omega) (Nat.le_refl _) (Nat.le_refl _) (fun a b d z w G H locs ls g1 g2 g3 Z hl => ?_) (hi - lo + 1) lo lo hi hi _ _ F (by omega) (QP.start h1) e1 e1 _ _ ls Z (lv_sub hl [9, 10, 11, 4, 3, 2, 1, 0] rfl)
      have hG : Sh G := g1.1.sh hF
      obtain ⟨z1, z2, z3, z4, z5⟩ := g1.2.1
      refine lv_iload hx hb dX2_quickSort_252 (lv_at hl 4 rfl) ?_
      refine lv_iload_n hx hb dX2_quickSort_254 rfl (lv_at hl 1 rfl) ?_
      refine sd_isub (a := a) (b := lo) (k := a - lo) hx hb dX2_quickSort_255 (by omega) rfl ?_
      refine lv_iload hx hb dX2_quickSort_256 (lv_at hl 5 rfl) ?_
      refine lv_iload hx hb dX2_quickSort_258 (lv_at hl 4 rfl) ?_
      refine sd_isub (a := b) (b := a) (k := b - a) hx hb dX2_quickSort_260 (by omega) rfl ?_
      obtain ⟨s1, hs1⟩ : ∃ s1, s1 = if b - a < a - lo then b - a else a - lo := ⟨_, rfl⟩
      refine sd_min (rest := []) (a := a - lo) (b := b - a) (k := s1) X hl.1 q94 (by omega) (by omega) hs1.symm (by dsimp only [rmQ]; omega) (by show 0 + 13 ≤ _; dsimp only [rmQ]; omega) (by first | exact Nat.le_of_ble_eq_true rfl | (dsimp only; omega)) (by first | exact Nat.le_of_ble_eq_true rfl | (dsimp only; omega)) dX2_quickSort_261 ?_
      have hs2 : s1 ≤ a - lo ∧ s1 ≤ b - a := by rw [hs1]; split <;> omega
      refine lv_istore (lv' := [(12, .int (nI s1)), (0, .ref x), (1, .int (nI lo)), (2, .int (nI hi)), (7, .int (F i)), (8, .int (nI a)), (9, .int (nI b)), (10, .int z), (11, .int w)]) hx hb dX2_quickSort_264 hl (by decide) rfl (fun ls hl => ?_)
      refine lv_aload_n hx hb dX2_quickSort_266 rfl (lv_at hl 1 rfl) ?_
      refine lv_iload_n hx hb dX2_quickSort_267 rfl (lv_at hl 2 rfl) ?_
      refine lv_iload hx hb dX2_quickSort_268 (lv_at hl 6 rfl) ?_
      refine lv_iload hx hb dX2_quickSort_270 (lv_at hl 0 rfl) ?_
      refine sd_isub (a := b) (b := s1) (k := b - s1) hx hb dX2_quickSort_272 (by omega) rfl ?_
      refine lv_iload hx hb dX2_quickSort_273 (lv_at hl 0 rfl) ?_
      refine sdCall_sv (na := 4) (As := [.ref x, .int (nI lo), .int (nI (b - s1)), .int (nI s1)]) (rest := []) (wr := []) (k := 0) (n := 0) X Z (met_swap2 l D hn hG (i := lo) (j := b - s1) (cnt := s1) (by omega) (by omega)) q97 q98 q4 q99 (by decide +kernel) rfl (by dsimp only [rmQ]; omega) (by dsimp only [rmQ]; omega) [0] [] [0] (by decide) rfl rfl rfl (by decide) (by decide) rfl hl.1 rfl (Nat.le_of_ble_eq_true rfl) dX2_quickSort_275 (by first | exact Nat.le_of_ble_eq_true rfl | (dsimp only; omega)) (by first | exact Nat.le_of_ble_eq_true rfl | (dsimp only; omega)) (by first | exact Nat.le_of_ble_eq_true rfl | (dsimp only; omega)) (by first | exact Nat.le_of_ble_eq_true rfl | (dsimp only; omega)) (fun G1 H locs hu1 Z => ?_)
      have Z : sdZ D A s [sdA x cA n G1] _ _ := Z
      have hG1 : Sh G1 := by rw [hu1]; exact (vsw_ra G (a := 0) (b := n) s1 (by omega) (by omega) (by omega) (by omega)).sh hG
      refine lv_iload hx hb dX2_quickSort_278 (lv_at hl 8 rfl) ?_
      refine lv_iload hx hb dX2_quickSort_280 (lv_at hl 7 rfl) ?_
      refine lv_isub hx hb dX2_quickSort_282 ?_
      refine sd_top (y := nI (d - b)) (i32_eq (by rw [fb_subI (by omega) (by omega), nI_toInt (by omega)]; omega)) ?_
      refine lv_iload_n hx hb dX2_quickSort_283 rfl (lv_at hl 3 rfl) ?_
      refine lv_iload hx hb dX2_quickSort_284 (lv_at hl 8 rfl) ?_
      refine lv_isub hx hb dX2_quickSort_286 ?_
      refine lv_iconst (v := nI 1) hx hb dX2_quickSort_287 (by decide) ?_
      refine lv_isub hx hb dX2_quickSort_288 ?_
      refine sd_top (y := nI (hi - d)) (i32_eq (by
        have e2 := nI_toInt (n := hi) (by omega)
        have e3 : (nI 1).toInt = 1 := by decide
        have e4 : (nI hi - w).toInt = (hi : Int) - w.toInt := by rw [fb_subI (by omega) (by omega), e2]
        rw [fb_subI (by omega) (by omega), e4, e3, nI_toInt (by omega)]; omega)) ?_
      obtain ⟨s2, ht1⟩ : ∃ s2, s2 = if hi - d < d - b then hi - d else d - b := ⟨_, rfl⟩
      refine sd_min (rest := []) (a := d - b) (b := hi - d) (k := s2) X hl.1 q94 (by omega) (by omega) ht1.symm (by dsimp only [rmQ]; omega) (by show 0 + 13 ≤ _; dsimp only [rmQ]; omega) (by first | exact Nat.le_of_ble_eq_true rfl | (dsimp only; omega)) (by first | exact Nat.le_of_ble_eq_true rfl | (dsimp only; omega)) dX2_quickSort_289 ?_
      have ht2 : s2 ≤ d - b ∧ s2 ≤ hi - d := by rw [ht1]; split <;> omega
      refine lv_istore (lv' := [(12, .int (nI s2)), (0, .ref x), (1, .int (nI lo)), (2, .int (nI hi)), (7, .int (F i)), (8, .int (nI a)), (9, .int (nI b)), (10, .int z), (11, .int w)]) hx hb dX2_quickSort_292 hl (by decide) rfl (fun ls hl => ?_)
      refine lv_aload_n hx hb dX2_quickSort_294 rfl (lv_at hl 1 rfl) ?_
      refine lv_iload hx hb dX2_quickSort_295 (lv_at hl 6 rfl) ?_
      refine lv_iload_n hx hb dX2_quickSort_297 rfl (lv_at hl 3 rfl) ?_
      refine lv_iload hx hb dX2_quickSort_298 (lv_at hl 0 rfl) ?_
      refine sd_isub (a := hi) (b := s2) (k := hi - s2) hx hb dX2_quickSort_300 (by omega) rfl ?_
      refine lv_iload hx hb dX2_quickSort_301 (lv_at hl 0 rfl) ?_
      refine sdCall_sv (na := 4) (As := [.ref x, .int (nI b), .int (nI (hi - s2)), .int (nI s2)]) (rest := []) (wr := []) (k := 0) (n := 0) X Z (met_swap2 l D hn hG1 (i := b) (j := hi - s2) (cnt := s2) (by omega) (by omega)) q97 q98 q4 q99 (by decide +kernel) rfl (by dsimp only [rmQ]; omega) (by dsimp only [rmQ]; omega) [0] [] [0] (by decide) rfl rfl rfl (by decide) (by decide) rfl hl.1 rfl (Nat.le_of_ble_eq_true rfl) dX2_quickSort_303 (by first | exact Nat.le_of_ble_eq_true rfl | (dsimp only; omega)) (by first | exact Nat.le_of_ble_eq_true rfl | (dsimp only; omega)) (by first | exact Nat.le_of_ble_eq_true rfl | (dsimp only; omega)) (by first | exact Nat.le_of_ble_eq_true rfl | (dsimp only; omega)) (fun G2 H locs hu2 Z => ?_)
      have Z : sdZ D A s [sdA x cA n G2] _ _ := Z
      have hE : QE F G2 (F i) lo hi (lo + (b - a)) (hi - (d - b)) := by rw [hu2, hu1]; exact g1.end i1 i2 rfl hs1 ht1
      have hG2 : Sh G2 := hE.1.sh hF
      have hne := hE.2.1.2.1
      refine lv_iload hx hb dX2_quickSort_306 (lv_at hl 6 rfl) ?_
      refine lv_iload hx hb dX2_quickSort_308 (lv_at hl 5 rfl) ?_
      refine sd_isub (a := b) (b := a) (k := b - a) hx hb dX2_quickSort_310 (by omega) rfl ?_
      refine lv_dup hx hb dX2_quickSort_311 rfl ?_
      refine lv_istore (lv' := [(12, .int (nI (b - a))), (0, .ref x), (1, .int (nI lo)), (2, .int (nI hi)), (7, .int (F i)), (8, .int (nI a)), (9, .int (nI b)), (10, .int z), (11, .int w)]) hx hb dX2_quickSort_312 hl (by decide) rfl (fun ls hl => ?_)
      refine lv_iconst (v := nI 1) hx hb dX2_quickSort_314 (by decide) ?_
      refine sd_nle (tgt := 327) hx hb dX2_quickSort_315 (by decide) (by omega) (by omega) (fun h6 => ?_) (fun h6 => ?_)
      · refine lp_q3 (F := G2) (lo := lo) (b := b) (d := d) (a := a) (v := F i) (z := z) (w := w) hn hG2 h2 X (fun K u r k1 k2 k3 k4 => hM K u r k1 k2 k3 k4) ⟨by omega, by omega, by omega⟩ (by omega) g2 g3 (fun K H locs ls hK Z => ?_) H locs ls Z (lv_sub hl [1, 3, 7, 8] rfl)
        exact sdRet_v X hr hlk Z K (hE.done ⟨RA.rf, Sd.small (by omega)⟩ hK) [0] (by decide) rfl rfl (Nat.zero_le _) (Nat.zero_le _) dX2_quickSort_348
      · refine lv_aload_n hx hb dX2_quickSort_318 rfl (lv_at hl 1 rfl) ?_
        refine lv_iload_n hx hb dX2_quickSort_319 rfl (lv_at hl 2 rfl) ?_
        refine lv_iload_n hx hb dX2_quickSort_320 rfl (lv_at hl 2 rfl) ?_
        refine lv_iload hx hb dX2_quickSort_321 (lv_at hl 0 rfl) ?_
        refine sd_iadd (a := lo) (b := b - a) (k := lo + (b - a)) hx hb dX2_quickSort_323 rfl ?_
        refine sdCall_sv (na := 3) (As := [.ref x, .int (nI lo), .int (nI (lo + (b - a)))]) (rest := []) (wr := []) (k := 0) (n := 0) X Z (hM G2 lo (lo + (b - a)) hG2 (by omega) (by omega) (by omega)) q100 q80 q4 q81 (by decide +kernel) rfl (by dsimp only [rmQ]; omega) (by dsimp only [rmQ]; omega) [0] [] [0] (by decide) rfl rfl rfl (by decide) (by decide) rfl hl.1 rfl (Nat.le_of_ble_eq_true rfl) dX2_quickSort_324 (by first | exact Nat.le_of_ble_eq_true rfl | (dsimp only; omega)) (by first | exact Nat.le_of_ble_eq_true rfl | (dsimp only; omega)) (by first | exact Nat.le_of_ble_eq_true rfl | (dsimp only; omega)) (by first | exact Nat.le_of_ble_eq_true rfl | (dsimp only; omega)) (fun G3 H locs hu3 Z => ?_)
        have Z : sdZ D A s [sdA x cA n G3] _ _ := Z
        refine lp_q3 (F := G3) (lo := lo) (b := b) (d := d) (a := a) (v := F i) (z := z) (w := w) hn (hu3.1.sh hG2) h2 X (fun K u r k1 k2 k3 k4 => hM K u r k1 k2 k3 k4) ⟨by omega, by omega, by omega⟩ (by omega) g2 g3 (fun K H locs ls hK Z => ?_) H locs ls Z (lv_sub hl [1, 3, 7, 8] rfl)
        exact sdRet_v X hr hlk Z K (hE.done hu3 hK) [0] (by decide) rfl rfl (Nat.zero_le _) (Nat.zero_le _) dX2_quickSort_348
    · exact absurd h5 (by omega)
  · refine lv_aload_n hx hb dX2_quickSort_10 rfl (lv_at hl 1 rfl) ?_
    refine lv_iload_n hx hb dX2_quickSort_11 rfl (lv_at hl 2 rfl) ?_
    refine lv_iload_n hx hb dX2_quickSort_12 rfl (lv_at hl 3 rfl) ?_
    refine sdCall_sv (na := 3) (As := [.ref x, .int (nI lo), .int (nI hi)]) (rest := []) (wr := []) (k := 0) (n := 0) X Z (met_selectionSort l D hn hF h1 h2) q82 q83 q4 q84 (by decide +kernel) rfl (by dsimp only [rmQ]; omega) (by dsimp only [rmQ]; omega) [0] [] [0] (by decide) rfl rfl rfl (by decide) (by decide) rfl hl.1 rfl (Nat.le_of_ble_eq_true rfl) dX2_quickSort_13 (by first | exact Nat.le_of_ble_eq_true rfl | (dsimp only; omega)) (by first | exact Nat.le_of_ble_eq_true rfl | (dsimp only; omega)) (by first | exact Nat.le_of_ble_eq_true rfl | (dsimp only; omega)) (by first | exact Nat.le_of_ble_eq_true rfl | (dsimp only; omega)) (fun G H locs hu Z => ?_)
    exact sdRet_v X hr hlk Z G hu [0] (by decide) rfl rfl (Nat.zero_le _) (Nat.zero_le _) dX2_quickSort_16
/-- quickSort -/
theorem met_quickD (l : Launch) (D : va_G) {x n : Nat} {cA : ClassId} (hn : n ≤ 48) : ∀ (dd : Nat) (F : Nat → Int32) (lo hi : Nat), Sh F → lo ≤ hi → hi ≤ n → hi - lo ≤ 15 + dd → sdMv l yX2_quickSort cX2_quickSort 13 (rmQ dd) [.ref x, .int (nI lo), .int (nI hi)] D [sdA x cA n F] [(cA, .short)] (fun G : Nat → Int32 => SO F G lo hi) (fun G => [sdA x cA n G]) := by
  intro dd
  induction dd with
  | zero => intro F lo hi hF h1 h2 h3; exact met_quick0 l D hn hF h1 h2 h3
  | succ dd ih => intro F lo hi hF h1 h2 h3; exact met_quickS l D hn hF h1 h2 ih h3
theorem met_quickSort (l : Launch) (D : va_G) {x n : Nat} {cA : ClassId} {F : Nat → Int32} (hn : n ≤ 48) (hF : Sh F) {lo hi : Nat} (h1 : lo ≤ hi) (h2 : hi ≤ n) : sdMv l yX2_quickSort cX2_quickSort 13 (rmQ 33) [.ref x, .int (nI lo), .int (nI hi)] D [sdA x cA n F] [(cA, .short)] (fun G : Nat → Int32 => SO F G lo hi) (fun G => [sdA x cA n G]) := met_quickD l D hn 33 F lo hi hF h1 h2 (by omega)
set_option maxHeartbeats 4000000 in
/-- radixSort of few: quickSort -/
theorem met_radixSort (l : Launch) (D : va_G) {x n : Nat} {cA : ClassId} {F : Nat → Int32} (hn : n ≤ 48) (hF : Sh F) {lo hi : Nat} (h1 : lo ≤ hi) (h2 : hi ≤ n) : sdMv l yX2_radixSort cX2_radixSort 21 ({ frames := 36, cells := 0, slots := 0, locals := 1135 } : Room) [.ref x, .int (nI lo), .int (nI hi)] D [sdA x cA n F] [(cA, .short)] (fun G : Nat → Int32 => SO F G lo hi) (fun G => [sdA x cA n G]) := by
  refine sdMv.of (by decide +kernel) (Nat.le_of_ble_eq_true rfl) ?_
  intro p e s m args below meth c A ls X hr hlk Z hl
  have X : sdX p s m args c cX2_radixSort 21 RX2 D [(cA, .short)] A := X
  have hx := X.1.1
  have hb := X.1.2.1
  have hl : lv_has ls 21 [(0, .ref x), (1, .int (nI lo)), (2, .int (nI hi))] := hl
  refine lv_iload_n hx hb dX2_radixSort_0 rfl (lv_at hl 2 rfl) ?_
  refine lv_iload_n hx hb dX2_radixSort_1 rfl (lv_at hl 1 rfl) ?_
  refine sd_isub (a := hi) (b := lo) (k := hi - lo) hx hb dX2_radixSort_2 (by omega) rfl ?_
  refine lv_sipush (v := nI 1024) hx hb dX2_radixSort_3 (by decide) ?_
  refine sd_nge (tgt := 16) hx hb dX2_radixSort_6 (by decide) (by omega) (by omega) (fun h4 => ?_) (fun h4 => ?_)
  · exact absurd h4 (by omega)
  · refine lv_aload_n hx hb dX2_radixSort_9 rfl (lv_at hl 0 rfl) ?_
    refine lv_iload_n hx hb dX2_radixSort_10 rfl (lv_at hl 1 rfl) ?_
    refine lv_iload_n hx hb dX2_radixSort_11 rfl (lv_at hl 2 rfl) ?_
    refine sdCall_sv (na := 3) (As := [.ref x, .int (nI lo), .int (nI hi)]) (rest := []) (wr := []) (k := 0) (n := 0) X Z (met_quickSort l D hn hF h1 h2) q100 q80 q4 q81 (by decide +kernel) rfl (by first | exact Nat.le_of_ble_eq_true rfl | (dsimp only; omega)) (by first | exact Nat.le_of_ble_eq_true rfl | (dsimp only; omega)) [0] [] [0] (by decide) rfl rfl rfl (by decide) (by decide) rfl hl.1 rfl (Nat.le_of_ble_eq_true rfl) dX2_radixSort_12 (by first | exact Nat.le_of_ble_eq_true rfl | (dsimp only; omega)) (by first | exact Nat.le_of_ble_eq_true rfl | (dsimp only; omega)) (by first | exact Nat.le_of_ble_eq_true rfl | (dsimp only; omega)) (by first | exact Nat.le_of_ble_eq_true rfl | (dsimp only; omega)) (fun G H locs hu Z => ?_)
    exact sdRet_v X hr hlk Z G hu [0] (by decide) rfl rfl (Nat.zero_le _) (Nat.zero_le _) dX2_radixSort_15
end
section
/-! ShortArrays, 3: Arrays.copyOf, mergeSort -/
set_option maxRecDepth 100000
set_option maxHeartbeats 4000000 in
/-- Arrays.copyOf(a, b), b at most the length -/
theorem met_copyOf (l : Launch) (D : va_G) {x n : Nat} {cA : ClassId} {F : Nat → Int32} (hn : n ≤ 48) (hF : Sh F) {b : Nat} (h1 : b ≤ n) : sdMr l yJ2_copyOf cJ2_copyOf 3 (.array .short) ({ frames := 1, cells := 1, slots := 48, locals := 60 } : Room) [.ref x, .int (nI b)] D [sdA x cA n F] [(cA, .short)] (fun u : ClassId × (Nat → Int32) => Sh u.2 ∧ ∀ k, k < b → u.2 k = F k) (fun u ra => [sdA x cA n F, sdA ra u.1 b u.2]) (fun u => [(u.1, .short)]) := by
  refine sdMr.of (by decide +kernel) (Nat.le_of_ble_eq_true rfl) ?_
  intro p e s m args below meth c A ls X hr hlk Z hl
  have X : sdX p s m args c cJ2_copyOf 3 RJ2 D [(cA, .short)] A := X
  have hx := X.1.1
  have hb := X.1.2.1
  have hl : lv_has ls 3 [(0, .ref x), (1, .int (nI b))] := hl
  refine lv_iload_n hx hb dJ2_copyOf_0 rfl (lv_at hl 1 rfl) ?_
  refine lv_aload_n hx hb dJ2_copyOf_1 rfl (lv_at hl 0 rfl) ?_
  refine va_alen (v := nI n) hx hb X.2.1.1 Z.1 0 0 rfl rfl rfl dJ2_copyOf_2 ?_
  refine sd_nne (tgt := 14) hx hb dJ2_copyOf_3 (by decide) (by omega) (by omega) (fun h2 => ?_) (fun h2 => ?_)
  · refine lv_iload_n hx hb dJ2_copyOf_14 rfl (lv_at hl 1 rfl) ?_
    refine sd_new X Z (n := b) (by omega) (Nat.le_of_ble_eq_true rfl) (by show 0 + b ≤ 48; omega) dJ2_copyOf_15 (fun q cB H X Z => ?_)
    have Z : sdZ D A s [sdA x cA n F, sdA q cB b (fun _ => 0)] _ _ := Z
    refine lv_astore_n (lv' := [(2, .ref q), (0, .ref x), (1, .int (nI b))]) hx hb dJ2_copyOf_17 rfl hl (by decide) rfl (fun ls hl => ?_)
    refine lv_aload_n hx hb dJ2_copyOf_18 rfl (lv_at hl 1 rfl) ?_
    refine lv_iconst (v := nI 0) hx hb dJ2_copyOf_19 (by decide) ?_
    refine lv_aload_n hx hb dJ2_copyOf_20 rfl (lv_at hl 0 rfl) ?_
    refine lv_iconst (v := nI 0) hx hb dJ2_copyOf_21 (by decide) ?_
    refine lv_aload_n hx hb dJ2_copyOf_22 rfl (lv_at hl 1 rfl) ?_
    refine va_alen (v := nI n) hx hb X.2.1.1 Z.1 0 0 rfl rfl rfl dJ2_copyOf_23 ?_
    refine lv_iload_n hx hb dJ2_copyOf_24 rfl (lv_at hl 2 rfl) ?_
    refine sd_min (rest := [.int (nI 0), .ref q, .int (nI 0), .ref x]) (a := n) (b := b) (k := b) X hl.1 q125 (by omega) (by omega) (by split <;> omega) (Nat.le_of_ble_eq_true rfl) (Nat.le_of_ble_eq_true rfl) (Nat.le_of_ble_eq_true rfl) (by show 0 + b ≤ 48; omega) dJ2_copyOf_25 ?_
    refine sd_cpy X Z hl.1 q126 0 1 0 1 rfl rfl rfl rfl hn (by omega) (by omega) (by omega) hF (Nat.le_of_ble_eq_true rfl) (by decide +kernel) dJ2_copyOf_28 (fun H locs Z => ?_)
    have Z : sdZ D A s [sdA x cA n F, sdA q cB b (va_cpy F (fun _ => 0) 0 0 b)] _ _ := Z
    have hC : ∀ k, k < b → va_cpy F (fun _ => 0) 0 0 b k = F k := fun k hk => by rw [pk_cpy_in (by omega) (by omega)]; congr 1; omega
    have hS : Sh (va_cpy F (fun _ => 0) 0 0 b) := fun k => by
      by_cases q1 : k < b
      · rw [hC k q1]; exact hF k
      · rw [pk_cpy_out (by omega)]; exact Sh.zero k
    refine lv_aload_n hx hb dJ2_copyOf_31 rfl (lv_at hl 0 rfl) ?_
    exact sdRet_r X hr hlk Z ((cB, va_cpy F (fun _ => 0) 0 0 b)) ⟨hS, hC⟩ [0, 1] [1] (by decide) rfl rfl rfl (Nat.le_of_ble_eq_true rfl) (by show 0 + b ≤ 48; omega) dJ2_copyOf_32
  · subst h2
    refine lv_aload_n hx hb dJ2_copyOf_6 rfl (lv_at hl 0 rfl) ?_
    refine sd_clone X Z hl.1 q118 0 0 rfl rfl hF (Nat.le_of_ble_eq_true rfl) (by decide +kernel) (Nat.le_of_ble_eq_true rfl) (by show 0 + b ≤ 48; omega) dJ2_copyOf_7 (fun q H hnm X Z => ?_)
    have Z : sdZ D A s [sdA x cA b F, sdA q cA b F] _ _ := Z
    refine va_castA hx hb X.1.2.2.2.1 (X.1.2.2.2.2 _ q124) Z.1 1 rfl hnm dJ2_copyOf_10 ?_
    exact sdRet_r X hr hlk Z ((cA, F)) ⟨hF, fun _ _ => rfl⟩ [0, 1] [1] (by decide) rfl rfl rfl (Nat.le_of_ble_eq_true rfl) (by show 0 + b ≤ 48; omega) dJ2_copyOf_13
abbrev rmM (d : Nat) : Room := { frames := d + 2, cells := 0, slots := 0, locals := 28 * d + 100 }
theorem nfw : nativeFrameWords "java/lang/System" "arraycopy" 5 = 7 := by decide +kernel
abbrev MP (F G : Nat → Int32) (a b : Nat) : (Nat → Int32) × (Nat → Int32) → Prop := fun u => SO F u.1 a b ∧ RA G u.2 a b
/-- what the two halves leave -/
theorem ms_join {F G G1 F1 G2 F2 : Nat → Int32} {a m b : Nat} (ham : a ≤ m) (hmb : m ≤ b) (he : ∀ k, a ≤ k → k < b → G k = F k) (g1 : SO G G1 a m) (f1 : RA F F1 a m) (g2 : SO G1 G2 m b) (f2 : RA F1 F2 m b) :
    RA G G2 a b ∧ RA F F2 a b ∧ Sd G2 a m ∧ Sd G2 m b ∧ PM F2 G2 a b := by
  have r1 : RA G G2 a b := (g1.1.wid (Nat.le_refl _) ham hmb).tr (g2.1.wid ham hmb (Nat.le_refl _))
  have r2 : RA F F2 a b := (f1.wid (Nat.le_refl _) ham hmb).tr (f2.wid ham hmb (Nat.le_refl _))
  refine ⟨r1, r2, g1.2.cong (fun k k1 k2 => g2.1.1 k (by omega)), g2.2, fun P => ?_⟩
  rw [r1.2 P, r2.2 P]
  exact ctR_cong (fun k k1 k2 => he k k1 (by omega))
/-- the halves meet in order -/
theorem Sd.meet {G : Nat → Int32} {a m b : Nat} (h1 : Sd G a m) (h2 : Sd G m b) (ham : a < m) (hmb : m < b) (hle : (G (m - 1)).toInt ≤ (G m).toInt) : Sd G a b := by
  intro i j hi hij hj
  by_cases p1 : j < m
  · exact h1 i j hi hij p1
  · by_cases p2 : m ≤ i
    · exact h2 i j p2 hij hj
    · have x1 : (G i).toInt ≤ (G (m - 1)).toInt := by
        by_cases q : i = m - 1
        · rw [q]; exact Int.le_refl _
        · exact h1 i (m - 1) hi (by omega) (by omega)
      have x2 : (G m).toInt ≤ (G j).toInt := by
        by_cases q : j = m
        · rw [q]; exact Int.le_refl _
        · exact h2 m j (Nat.le_refl _) (by omega) hj
      omega
theorem ms_cpy {F F2 G2 : Nat → Int32} {a b : Nat} (hab : a ≤ b) (r2 : RA F F2 a b) (hp : PM F2 G2 a b) (hs : Sd G2 a b) : SO F (va_cpy G2 F2 a a (b - a)) a b := by
  have hin : ∀ k, a ≤ k → k < b → va_cpy G2 F2 a a (b - a) k = G2 k := fun k k1 k2 => by rw [pk_cpy_in k1 (by omega)]; congr 1; omega
  refine ⟨⟨fun k hk => by rw [pk_cpy_out (by omega)]; exact r2.1 k hk, fun P => ?_⟩, hs.cong hin⟩
  rw [ctR_cong (F := G2) (fun k k1 k2 => hin k k1 (by omega)), hp P, r2.2 P]
theorem cpy_sh {F G : Nat → Int32} {i j n : Nat} (hF : Sh F) (hG : Sh G) : Sh (va_cpy F G i j n) := by
  intro k
  by_cases q : j ≤ k ∧ k < j + n
  · rw [pk_cpy_in q.1 q.2]; exact hF _
  · rw [pk_cpy_out (by omega)]; exact hG _
section
variable {p : Program} {l : Launch} {e : Env} {R : Room} {s : State} {m : MethodId} {args : Array Value} {below : List Frame} {meth : Method} {c : Code} {A : Nat → Prop} {Q : State → Prop} {D : va_G} {cells slots : Nat}
set_option maxHeartbeats 4000000 in
/-- mergeSort's merge -/
theorem lp_merge {x n : Nat} {cA : ClassId} {F : Nat → Int32} (hn : n ≤ 48) (hF : Sh F) {y n2 : Nat} {cB : ClassId} {G : Nat → Int32} (hn2 : n2 ≤ 48) (hG : Sh G) {a md b : Nat} (hab : b ≤ n) (hab2 : b ≤ n2) (hs1 : Sd G a md) (hs2 : Sd G md b) (X : sdX p s m args c cX2_mergeSort_2 9 RX2 D [(cA, .short), (cB, .short)] A)
    (kk : ∀ (K : Nat → Int32) (i p1 p2 : Nat) (H : Heap) (locs : List Loc) (ls : Array Slot), b ≤ i → MG F K G a md b i p1 p2 → sdZ D A s [sdA x cA n K, sdA y cB n2 G] H locs → W p l e R s m args below meth c H locs cells slots Q (F0 m 146 ls [])) :
    ∀ (r i p1 p2 : Nat) (K : Nat → Int32), b < i + r → i ≤ b → Sh K → MG F K G a md b i p1 p2 → ∀ (H : Heap) (locs : List Loc) (ls : Array Slot), sdZ D A s [sdA x cA n K, sdA y cB n2 G] H locs → lv_has ls 9 [(0, .ref x), (2, .int (nI b)), (3, .ref y), (5, .int (nI md)), (6, .int (nI i)), (7, .int (nI p1)), (8, .int (nI p2))] → W p l e R s m args below meth c H locs cells slots Q (F0 m 85 ls []) := by
  have hx := X.1.1
  have hb := X.1.2.1
  intro r
  induction r with
  | zero =>
    intro i p1 p2 K h0 h1
    exact absurd h0 (by omega)
  | succ r ih =>
    intro i p1 p2 K h0 hib hK h1 H locs ls Z hl
    obtain ⟨z1, z2, z3, z4, z5⟩ := h1.1
    refine lv_iload hx hb dX2_mergeSort_2_85 (lv_at hl 4 rfl) ?_
    refine lv_iload_n hx hb dX2_mergeSort_2_87 rfl (lv_at hl 1 rfl) ?_
    refine sd_nge (tgt := 146) hx hb dX2_mergeSort_2_88 (by decide) (by omega) (by omega) (fun h2 => ?_) (fun h2 => ?_)
    · exact kk K i p1 p2 H locs ls h2 h1 Z
    · have goL : ∀ (H : Heap) (locs : List Loc) (ls : Array Slot), p1 < md → (b ≤ p2 ∨ (G p1).toInt ≤ (G p2).toInt) → sdZ D A s [sdA x cA n K, sdA y cB n2 G] H locs → lv_has ls 9 [(0, .ref x), (2, .int (nI b)), (3, .ref y), (5, .int (nI md)), (6, .int (nI i)), (7, .int (nI p1)), (8, .int (nI p2))] → W p l e R s m args below meth c H locs cells slots Q (F0 m 115 ls []) := by
        intro H locs ls g1 g2 Z hl
        refine lv_aload_n hx hb dX2_mergeSort_2_115 rfl (lv_at hl 0 rfl) ?_
        refine lv_iload hx hb dX2_mergeSort_2_116 (lv_at hl 4 rfl) ?_
        refine lv_aload_n hx hb dX2_mergeSort_2_118 rfl (lv_at hl 2 rfl) ?_
        refine lv_iload hx hb dX2_mergeSort_2_119 (lv_at hl 5 rfl) ?_
        refine lv_iinc (v := nI (p1 + 1)) (lv' := [(7, .int (nI (p1 + 1))), (0, .ref x), (2, .int (nI b)), (3, .ref y), (5, .int (nI md)), (6, .int (nI i)), (8, .int (nI p2))]) hx hb dX2_mergeSort_2_121 hl (k := 5) rfl (sd_inc _) (by decide) rfl (fun ls hl => ?_)
        refine sd_sld (k := p1) X Z 1 1 rfl rfl (by omega) (by omega) dX2_mergeSort_2_124 ?_
        refine sd_sst (k := i) (v := G p1) X Z 0 0 rfl rfl (by omega) (by omega) (hG p1) dX2_mergeSort_2_125 (fun H locs Z => ?_)
        have Z : sdZ D A s [sdA x cA n (upd K i (G p1)), sdA y cB n2 G] _ _ := Z
        refine lv_goto (tgt := 140) hx hb dX2_mergeSort_2_126 (by decide) ?_
        refine lv_iinc (v := nI (i + 1)) (lv' := [(6, .int (nI (i + 1))), (7, .int (nI (p1 + 1))), (0, .ref x), (2, .int (nI b)), (3, .ref y), (5, .int (nI md)), (8, .int (nI p2))]) hx hb dX2_mergeSort_2_140 hl (k := 5) rfl (sd_inc _) (by decide) rfl (fun ls hl => ?_)
        refine lv_goto (tgt := 85) hx hb dX2_mergeSort_2_143 (by decide) ?_
        exact ih (i + 1) (p1 + 1) p2 _ (by omega) (by omega) (hK.up (hG _)) (h1.left hs1 g1 g2) H locs ls Z (lv_sub hl [2, 3, 4, 5, 0, 1, 6] rfl)
      have goR : ∀ (H : Heap) (locs : List Loc) (ls : Array Slot), p2 < b → (md ≤ p1 ∨ (G p2).toInt ≤ (G p1).toInt) → sdZ D A s [sdA x cA n K, sdA y cB n2 G] H locs → lv_has ls 9 [(0, .ref x), (2, .int (nI b)), (3, .ref y), (5, .int (nI md)), (6, .int (nI i)), (7, .int (nI p1)), (8, .int (nI p2))] → W p l e R s m args below meth c H locs cells slots Q (F0 m 129 ls []) := by
        intro H locs ls g1 g2 Z hl
        refine lv_aload_n hx hb dX2_mergeSort_2_129 rfl (lv_at hl 0 rfl) ?_
        refine lv_iload hx hb dX2_mergeSort_2_130 (lv_at hl 4 rfl) ?_
        refine lv_aload_n hx hb dX2_mergeSort_2_132 rfl (lv_at hl 2 rfl) ?_
        refine lv_iload hx hb dX2_mergeSort_2_133 (lv_at hl 6 rfl) ?_
        refine lv_iinc (v := nI (p2 + 1)) (lv' := [(8, .int (nI (p2 + 1))), (0, .ref x), (2, .int (nI b)), (3, .ref y), (5, .int (nI md)), (6, .int (nI i)), (7, .int (nI p1))]) hx hb dX2_mergeSort_2_135 hl (k := 6) rfl (sd_inc _) (by decide) rfl (fun ls hl => ?_)
        refine sd_sld (k := p2) X Z 1 1 rfl rfl (by omega) (by omega) dX2_mergeSort_2_138 ?_
        refine sd_sst (k := i) (v := G p2) X Z 0 0 rfl rfl (by omega) (by omega) (hG p2) dX2_mergeSort_2_139 (fun H locs Z => ?_)
        have Z : sdZ D A s [sdA x cA n (upd K i (G p2)), sdA y cB n2 G] _ _ := Z
        refine lv_iinc (v := nI (i + 1)) (lv' := [(6, .int (nI (i + 1))), (8, .int (nI (p2 + 1))), (0, .ref x), (2, .int (nI b)), (3, .ref y), (5, .int (nI md)), (7, .int (nI p1))]) hx hb dX2_mergeSort_2_140 hl (k := 5) rfl (sd_inc _) (by decide) rfl (fun ls hl => ?_)
        refine lv_goto (tgt := 85) hx hb dX2_mergeSort_2_143 (by decide) ?_
        exact ih (i + 1) p1 (p2 + 1) _ (by omega) (by omega) (hK.up (hG _)) (h1.right hs2 g1 g2) H locs ls Z (lv_sub hl [2, 3, 4, 5, 0, 6, 1] rfl)
      refine lv_iload hx hb dX2_mergeSort_2_91 (lv_at hl 6 rfl) ?_
      refine lv_iload_n hx hb dX2_mergeSort_2_93 rfl (lv_at hl 1 rfl) ?_
      refine sd_nge (tgt := 115) hx hb dX2_mergeSort_2_94 (by decide) (by omega) (by omega) (fun h3 => ?_) (fun h3 => ?_)
      · exact goL H locs ls (by omega) (Or.inl h3) Z hl
      · refine lv_iload hx hb dX2_mergeSort_2_97 (lv_at hl 5 rfl) ?_
        refine lv_iload hx hb dX2_mergeSort_2_99 (lv_at hl 3 rfl) ?_
        refine sd_nge (tgt := 129) hx hb dX2_mergeSort_2_101 (by decide) (by omega) (by omega) (fun h4 => ?_) (fun h4 => ?_)
        · exact goR H locs ls (by omega) (Or.inl h4) Z hl
        · refine lv_aload_n hx hb dX2_mergeSort_2_104 rfl (lv_at hl 2 rfl) ?_
          refine lv_iload hx hb dX2_mergeSort_2_105 (lv_at hl 5 rfl) ?_
          refine sd_sld (k := p1) X Z 1 1 rfl rfl (by omega) (by omega) dX2_mergeSort_2_107 ?_
          refine lv_aload_n hx hb dX2_mergeSort_2_108 rfl (lv_at hl 2 rfl) ?_
          refine lv_iload hx hb dX2_mergeSort_2_109 (lv_at hl 6 rfl) ?_
          refine sd_sld (k := p2) X Z 1 1 rfl rfl (by omega) (by omega) dX2_mergeSort_2_111 ?_
          refine sd_tgt (tgt := 129) hx hb dX2_mergeSort_2_112 (by decide) (fun h5 => ?_) (fun h5 => ?_)
          · exact goR H locs ls (by omega) (Or.inr (by omega)) Z hl
          · exact goL H locs ls (by omega) (Or.inr (by omega)) Z hl
set_option maxHeartbeats 4000000 in
/-- mergeSort of many, its second array at hand -/
theorem lp_ms {x n : Nat} {cA : ClassId} {F : Nat → Int32} (hn : n ≤ 48) (hF : Sh F) {y n2 : Nat} {cB : ClassId} {G : Nat → Int32} (hn2 : n2 ≤ 48) (hG : Sh G) {a b dd : Nat} (h1 : a + 16 ≤ b) (h2 : b ≤ n) (h3 : b ≤ n2) (hdd : b - a ≤ 15 + (dd + 1)) (he : ∀ k, a ≤ k → k < b → G k = F k) (hM : ∀ (x n : Nat) (cA : ClassId) (F : Nat → Int32) (y n2 : Nat) (cB : ClassId) (G : Nat → Int32) (u r : Nat), n ≤ 48 → Sh F → n2 ≤ 48 → Sh G → u ≤ r → r ≤ n → r ≤ n2 → r - u ≤ 15 + dd → (∀ k, u ≤ k → k < r → G k = F k) → sdMv l yX2_mergeSort_2 cX2_mergeSort_2 9 (rmM dd) [.ref x, .int (nI u), .int (nI r), .ref y] D [sdA x cA n F, sdA y cB n2 G] [(cA, .short), (cB, .short)] (MP F G u r) (fun u => [sdA x cA n u.1, sdA y cB n2 u.2])) (X : sdX p s m args c cX2_mergeSort_2 9 RX2 D [(cA, .short), (cB, .short)] A) (hRf : dd + 3 ≤ R.frames) (hRl : 28 * dd + 128 ≤ R.locals) (hRc : cells ≤ R.cells) (hRs : slots ≤ R.slots)
    (kk : ∀ (u : (Nat → Int32) × (Nat → Int32)) (pc : Nat) (H : Heap) (locs : List Loc) (ls : Array Slot), decode cX2_mergeSort_2 pc = .ok (.return_, 1) → MP F G a b u → sdZ D A s [sdA x cA n u.1, sdA y cB n2 u.2] H locs → W p l e R s m args below meth c H locs cells slots Q (F0 m pc ls [])) :
    ∀ (H : Heap) (locs : List Loc) (ls : Array Slot), sdZ D A s [sdA x cA n F, sdA y cB n2 G] H locs → lv_has ls 9 [(0, .ref x), (1, .int (nI a)), (2, .int (nI b)), (3, .ref y), (4, .int (nI (b - a)))] → W p l e R s m args below meth c H locs cells slots Q (F0 m 29 ls []) := by
  have hx := X.1.1
  have hb := X.1.2.1
  intro H locs ls Z hl
  refine lv_iload_n hx hb dX2_mergeSort_2_29 rfl (lv_at hl 1 rfl) ?_
  refine lv_iload_n hx hb dX2_mergeSort_2_30 rfl (lv_at hl 2 rfl) ?_
  refine sd_iadd (a := a) (b := b) (k := a + b) hx hb dX2_mergeSort_2_31 rfl ?_
  refine lv_iconst (v := nI 1) hx hb dX2_mergeSort_2_32 (by decide) ?_
  refine lv_iushr (v := nI ((a + b) / 2)) hx hb dX2_mergeSort_2_33 (pk_ushrN (by omega) (nI 1) 1 (by decide)) ?_
  obtain ⟨md, hm1, hm2, hm3, hm4⟩ : ∃ md, (a + b) / 2 = md ∧ a < md ∧ md < b ∧ (md - a ≤ 15 + dd ∧ b - md ≤ 15 + dd) := ⟨_, rfl, by omega, by omega, by omega, by omega⟩
  rw [hm1]
  refine lv_istore (lv' := [(5, .int (nI md)), (0, .ref x), (1, .int (nI a)), (2, .int (nI b)), (3, .ref y), (4, .int (nI (b - a)))]) hx hb dX2_mergeSort_2_34 hl (by decide) rfl (fun ls hl => ?_)
  refine lv_aload_n hx hb dX2_mergeSort_2_36 rfl (lv_at hl 4 rfl) ?_
  refine lv_iload_n hx hb dX2_mergeSort_2_37 rfl (lv_at hl 2 rfl) ?_
  refine lv_iload hx hb dX2_mergeSort_2_38 (lv_at hl 0 rfl) ?_
  refine lv_aload_n hx hb dX2_mergeSort_2_40 rfl (lv_at hl 1 rfl) ?_
  refine sdCall_sv (na := 4) (As := [.ref y, .int (nI a), .int (nI md), .ref x]) (rest := []) (wr := []) (k := cells) (n := slots) X Z (hM y n2 cB G x n cA F a md hn2 hG hn hF (by omega) (by omega) (by omega) hm4.1 (fun k k1 k2 => (he k k1 (by omega)).symm)) q109 q110 q4 q111 (by decide +kernel) rfl (by dsimp only [rmM]; omega) (by dsimp only [rmM]; omega) [1, 0] [] [1, 0] (by decide) rfl rfl rfl (by decide) (by decide) rfl hl.1 rfl (Nat.le_of_ble_eq_true rfl) dX2_mergeSort_2_41 (by first | exact Nat.le_of_ble_eq_true rfl | (dsimp only; omega)) (by first | exact Nat.le_of_ble_eq_true rfl | (dsimp only; omega)) (by first | exact Nat.le_of_ble_eq_true rfl | (dsimp only; omega)) (by first | exact Nat.le_of_ble_eq_true rfl | (dsimp only; omega)) (fun u1 H locs hu1 Z => ?_)
  obtain ⟨G1, F1⟩ := u1
  have Z : sdZ D A s [sdA y cB n2 G1, sdA x cA n F1] _ _ := Z
  obtain ⟨g1, f1⟩ : SO G G1 a md ∧ RA F F1 a md := hu1
  refine lv_aload_n hx hb dX2_mergeSort_2_44 rfl (lv_at hl 4 rfl) ?_
  refine lv_iload hx hb dX2_mergeSort_2_45 (lv_at hl 0 rfl) ?_
  refine lv_iload_n hx hb dX2_mergeSort_2_47 rfl (lv_at hl 3 rfl) ?_
  refine lv_aload_n hx hb dX2_mergeSort_2_48 rfl (lv_at hl 1 rfl) ?_
  refine sdCall_sv (na := 4) (As := [.ref y, .int (nI md), .int (nI b), .ref x]) (rest := []) (wr := []) (k := cells) (n := slots) X Z (hM y n2 cB G1 x n cA F1 md b hn2 (g1.1.sh hG) hn (f1.sh hF) (by omega) h3 h2 hm4.2 (fun k k1 k2 => by rw [f1.1 k (by omega), g1.1.1 k (by omega)]; exact (he k (by omega) k2).symm)) q109 q110 q4 q111 (by decide +kernel) rfl (by dsimp only [rmM]; omega) (by dsimp only [rmM]; omega) [0, 1] [] [1, 0] (by decide) rfl rfl rfl (by decide) (by decide) rfl hl.1 rfl (Nat.le_of_ble_eq_true rfl) dX2_mergeSort_2_49 (by first | exact Nat.le_of_ble_eq_true rfl | (dsimp only; omega)) (by first | exact Nat.le_of_ble_eq_true rfl | (dsimp only; omega)) (by first | exact Nat.le_of_ble_eq_true rfl | (dsimp only; omega)) (by first | exact Nat.le_of_ble_eq_true rfl | (dsimp only; omega)) (fun u2 H locs hu2 Z => ?_)
  obtain ⟨G2, F2⟩ := u2
  have Z : sdZ D A s [sdA y cB n2 G2, sdA x cA n F2] _ _ := Z
  obtain ⟨g2, f2⟩ : SO G1 G2 md b ∧ RA F1 F2 md b := hu2
  obtain ⟨r1, r2, s1, s2, hp⟩ := ms_join (by omega) (by omega) he g1 f1 g2 f2
  have hG2 : Sh G2 := r1.sh hG
  have hF2 : Sh F2 := r2.sh hF
  have Z : sdZ D A s [sdA x cA n F2, sdA y cB n2 G2] H locs := Z.sub [1, 0] (by decide) rfl rfl
  refine lv_aload_n hx hb dX2_mergeSort_2_52 rfl (lv_at hl 4 rfl) ?_
  refine lv_iload hx hb dX2_mergeSort_2_53 (lv_at hl 0 rfl) ?_
  refine lv_iconst (v := nI 1) hx hb dX2_mergeSort_2_55 (by decide) ?_
  refine sd_isub (a := md) (b := 1) (k := md - 1) hx hb dX2_mergeSort_2_56 (by omega) rfl ?_
  refine sd_sld (k := md - 1) X Z 1 1 rfl rfl (by omega) (by omega) dX2_mergeSort_2_57 ?_
  refine lv_aload_n hx hb dX2_mergeSort_2_58 rfl (lv_at hl 4 rfl) ?_
  refine lv_iload hx hb dX2_mergeSort_2_59 (lv_at hl 0 rfl) ?_
  refine sd_sld (k := md) X Z 1 1 rfl rfl (by omega) (by omega) dX2_mergeSort_2_61 ?_
  refine sd_tgt (tgt := 75) hx hb dX2_mergeSort_2_62 (by decide) (fun h4 => ?_) (fun h4 => ?_)
  · refine lv_iload_n hx hb dX2_mergeSort_2_75 rfl (lv_at hl 2 rfl) ?_
    refine lv_istore (lv' := [(6, .int (nI a)), (5, .int (nI md)), (0, .ref x), (1, .int (nI a)), (2, .int (nI b)), (3, .ref y), (4, .int (nI (b - a)))]) hx hb dX2_mergeSort_2_76 hl (by decide) rfl (fun ls hl => ?_)
    refine lv_iload_n hx hb dX2_mergeSort_2_78 rfl (lv_at hl 3 rfl) ?_
    refine lv_istore (lv' := [(7, .int (nI a)), (6, .int (nI a)), (5, .int (nI md)), (0, .ref x), (1, .int (nI a)), (2, .int (nI b)), (3, .ref y), (4, .int (nI (b - a)))]) hx hb dX2_mergeSort_2_79 hl (by decide) rfl (fun ls hl => ?_)
    refine lv_iload hx hb dX2_mergeSort_2_81 (lv_at hl 2 rfl) ?_
    refine lv_istore (lv' := [(8, .int (nI md)), (7, .int (nI a)), (6, .int (nI a)), (5, .int (nI md)), (0, .ref x), (1, .int (nI a)), (2, .int (nI b)), (3, .ref y), (4, .int (nI (b - a)))]) hx hb dX2_mergeSort_2_83 hl (by decide) rfl (fun ls hl => ?_)
    refine lp_merge (F := F2) (G := G2) (a := a) (md := md) (b := b) hn hF2 hn2 hG2 h2 h3 s1 s2 X (fun K i p1 p2 H locs ls hi hK Z => ?_) (b + 1) a a md F2 (by omega) (by omega) hF2 (MG.start (by omega) (by omega)) H locs ls Z (lv_sub hl [4, 6, 7, 3, 2, 1, 0] rfl)
    have hd := hK.done hi (by omega) (by omega) hp
    exact kk (K, G2) 146 H locs ls dX2_mergeSort_2_146 ⟨⟨r2.tr hd.1, hd.2⟩, r1⟩ Z
  · refine lv_aload_n hx hb dX2_mergeSort_2_65 rfl (lv_at hl 4 rfl) ?_
    refine lv_iload_n hx hb dX2_mergeSort_2_66 rfl (lv_at hl 2 rfl) ?_
    refine lv_aload_n hx hb dX2_mergeSort_2_67 rfl (lv_at hl 1 rfl) ?_
    refine lv_iload_n hx hb dX2_mergeSort_2_68 rfl (lv_at hl 2 rfl) ?_
    refine lv_iload hx hb dX2_mergeSort_2_69 (lv_at hl 5 rfl) ?_
    refine sd_cpy X Z hl.1 q129 1 0 1 0 rfl rfl rfl rfl hn2 hn (by omega) (by omega) hG2 (by omega) (by rw [nfw]; show 0 + (7 + 11) ≤ _; omega) dX2_mergeSort_2_71 (fun H locs Z => ?_)
    exact kk (va_cpy G2 F2 a a (b - a), G2) 74 H locs ls dX2_mergeSort_2_74 ⟨ms_cpy (by omega) r2 hp (s1.meet s2 hm2 hm3 h4), r1⟩ Z
end
set_option maxHeartbeats 4000000 in
/-- mergeSort of few -/
theorem met_merge0 (l : Launch) (D : va_G) {x n : Nat} {cA : ClassId} {F : Nat → Int32} (hn : n ≤ 48) (hF : Sh F) {y n2 : Nat} {cB : ClassId} {G : Nat → Int32} (hn2 : n2 ≤ 48) (hG : Sh G) {a b : Nat} (h1 : a ≤ b) (h2 : b ≤ n) (h3 : b ≤ n2) (he : ∀ k, a ≤ k → k < b → G k = F k) (hd : b - a ≤ 15) : sdMv l yX2_mergeSort_2 cX2_mergeSort_2 9 (rmM 0) [.ref x, .int (nI a), .int (nI b), .ref y] D [sdA x cA n F, sdA y cB n2 G] [(cA, .short), (cB, .short)] (MP F G a b) (fun u => [sdA x cA n u.1, sdA y cB n2 u.2]) := by
  refine sdMv.of (by decide +kernel) (Nat.le_of_ble_eq_true rfl) ?_
  intro p e s m args below meth c A ls X hr hlk Z hl
  have X : sdX p s m args c cX2_mergeSort_2 9 RX2 D [(cA, .short), (cB, .short)] A := X
  have hx := X.1.1
  have hb := X.1.2.1
  have hl : lv_has ls 9 [(0, .ref x), (1, .int (nI a)), (2, .int (nI b)), (3, .ref y)] := hl
  refine lv_iload_n hx hb dX2_mergeSort_2_0 rfl (lv_at hl 2 rfl) ?_
  refine lv_iload_n hx hb dX2_mergeSort_2_1 rfl (lv_at hl 1 rfl) ?_
  refine sd_isub (a := b) (b := a) (k := b - a) hx hb dX2_mergeSort_2_2 (by omega) rfl ?_
  refine lv_istore (lv' := [(4, .int (nI (b - a))), (0, .ref x), (1, .int (nI a)), (2, .int (nI b)), (3, .ref y)]) hx hb dX2_mergeSort_2_3 hl (by decide) rfl (fun ls hl => ?_)
  refine lv_iload hx hb dX2_mergeSort_2_5 (lv_at hl 0 rfl) ?_
  refine lv_bipush (v := nI 16) hx hb dX2_mergeSort_2_7 (by decide) ?_
  refine sd_nge (tgt := 19) hx hb dX2_mergeSort_2_9 (by decide) (by omega) (by omega) (fun h4 => ?_) (fun h4 => ?_)
  · exact absurd h4 (by omega)
  · refine lv_aload_n hx hb dX2_mergeSort_2_12 rfl (lv_at hl 1 rfl) ?_
    refine lv_iload_n hx hb dX2_mergeSort_2_13 rfl (lv_at hl 2 rfl) ?_
    refine lv_iload_n hx hb dX2_mergeSort_2_14 rfl (lv_at hl 3 rfl) ?_
    refine sdCall_sv (na := 3) (As := [.ref x, .int (nI a), .int (nI b)]) (rest := []) (wr := [sdA y cB n2 G]) (k := 0) (n := 0) X Z (met_insertionSort l D hn hF h1 h2) q112 q113 q4 q114 (by decide +kernel) rfl (by first | exact Nat.le_of_ble_eq_true rfl | (dsimp only; omega)) (by first | exact Nat.le_of_ble_eq_true rfl | (dsimp only; omega)) [0] [1] [0] (by decide) rfl rfl rfl (by decide) (by decide) rfl hl.1 rfl (Nat.le_of_ble_eq_true rfl) dX2_mergeSort_2_15 (by first | exact Nat.le_of_ble_eq_true rfl | (dsimp only; omega)) (by first | exact Nat.le_of_ble_eq_true rfl | (dsimp only; omega)) (by first | exact Nat.le_of_ble_eq_true rfl | (dsimp only; omega)) (by first | exact Nat.le_of_ble_eq_true rfl | (dsimp only; omega)) (fun K H locs hu Z => ?_)
    have Z : sdZ D A s [sdA y cB n2 G, sdA x cA n K] _ _ := Z
    exact sdRet_v X hr hlk Z ((K, G)) ⟨hu, RA.rf⟩ [1, 0] (by decide) rfl rfl (Nat.zero_le _) (Nat.zero_le _) dX2_mergeSort_2_18
set_option maxHeartbeats 4000000 in
/-- mergeSort, if it holds of fewer -/
theorem met_mergeS (l : Launch) (D : va_G) {x n : Nat} {cA : ClassId} {F : Nat → Int32} (hn : n ≤ 48) (hF : Sh F) {y n2 : Nat} {cB : ClassId} {G : Nat → Int32} (hn2 : n2 ≤ 48) (hG : Sh G) {a b dd : Nat} (h1 : a ≤ b) (h2 : b ≤ n) (h3 : b ≤ n2) (he : ∀ k, a ≤ k → k < b → G k = F k) (hM : ∀ (x n : Nat) (cA : ClassId) (F : Nat → Int32) (y n2 : Nat) (cB : ClassId) (G : Nat → Int32) (u r : Nat), n ≤ 48 → Sh F → n2 ≤ 48 → Sh G → u ≤ r → r ≤ n → r ≤ n2 → r - u ≤ 15 + dd → (∀ k, u ≤ k → k < r → G k = F k) → sdMv l yX2_mergeSort_2 cX2_mergeSort_2 9 (rmM dd) [.ref x, .int (nI u), .int (nI r), .ref y] D [sdA x cA n F, sdA y cB n2 G] [(cA, .short), (cB, .short)] (MP F G u r) (fun u => [sdA x cA n u.1, sdA y cB n2 u.2])) (hd : b - a ≤ 15 + (dd + 1)) : sdMv l yX2_mergeSort_2 cX2_mergeSort_2 9 (rmM (dd + 1)) [.ref x, .int (nI a), .int (nI b), .ref y] D [sdA x cA n F, sdA y cB n2 G] [(cA, .short), (cB, .short)] (MP F G a b) (fun u => [sdA x cA n u.1, sdA y cB n2 u.2]) := by
  refine sdMv.of (by decide +kernel) (Nat.le_of_ble_eq_true rfl) ?_
  intro p e s m args below meth c A ls X hr hlk Z hl
  have X : sdX p s m args c cX2_mergeSort_2 9 RX2 D [(cA, .short), (cB, .short)] A := X
  have hx := X.1.1
  have hb := X.1.2.1
  have hl : lv_has ls 9 [(0, .ref x), (1, .int (nI a)), (2, .int (nI b)), (3, .ref y)] := hl
  refine lv_iload_n hx hb dX2_mergeSort_2_0 rfl (lv_at hl 2 rfl) ?_
  refine lv_iload_n hx hb dX2_mergeSort_2_1 rfl (lv_at hl 1 rfl) ?_
  refine sd_isub (a := b) (b := a) (k := b - a) hx hb dX2_mergeSort_2_2 (by omega) rfl ?_
  refine lv_istore (lv' := [(4, .int (nI (b - a))), (0, .ref x), (1, .int (nI a)), (2, .int (nI b)), (3, .ref y)]) hx hb dX2_mergeSort_2_3 hl (by decide) rfl (fun ls hl => ?_)
  refine lv_iload hx hb dX2_mergeSort_2_5 (lv_at hl 0 rfl) ?_
  refine lv_bipush (v := nI 16) hx hb dX2_mergeSort_2_7 (by decide) ?_
  refine sd_nge (tgt := 19) hx hb dX2_mergeSort_2_9 (by decide) (by omega) (by omega) (fun h4 => ?_) (fun h4 => ?_)
  · refine lv_aload_n hx hb dX2_mergeSort_2_19 rfl (lv_at hl 4 rfl) ?_
    refine lv_ifnonnull (tgt := 29) hx hb dX2_mergeSort_2_20 (by decide) ?_
    exact lp_ms hn hF hn2 hG (by omega) h2 h3 hd he hM X (by dsimp only [rmM]; omega) (by dsimp only [rmM]; omega) (Nat.le_refl _) (Nat.le_refl _) (fun u pc H locs ls hdc hu Z => sdRet_v X hr hlk Z u hu [0, 1] (by decide) rfl rfl (Nat.zero_le _) (Nat.zero_le _) hdc) _ _ ls Z (lv_sub hl [1, 2, 3, 4, 0] rfl)
  · refine lv_aload_n hx hb dX2_mergeSort_2_12 rfl (lv_at hl 1 rfl) ?_
    refine lv_iload_n hx hb dX2_mergeSort_2_13 rfl (lv_at hl 2 rfl) ?_
    refine lv_iload_n hx hb dX2_mergeSort_2_14 rfl (lv_at hl 3 rfl) ?_
    refine sdCall_sv (na := 3) (As := [.ref x, .int (nI a), .int (nI b)]) (rest := []) (wr := [sdA y cB n2 G]) (k := 0) (n := 0) X Z (met_insertionSort l D hn hF h1 h2) q112 q113 q4 q114 (by decide +kernel) rfl (by dsimp only [rmM]; omega) (by dsimp only [rmM]; omega) [0] [1] [0] (by decide) rfl rfl rfl (by decide) (by decide) rfl hl.1 rfl (Nat.le_of_ble_eq_true rfl) dX2_mergeSort_2_15 (by first | exact Nat.le_of_ble_eq_true rfl | (dsimp only; omega)) (by first | exact Nat.le_of_ble_eq_true rfl | (dsimp only; omega)) (by first | exact Nat.le_of_ble_eq_true rfl | (dsimp only; omega)) (by first | exact Nat.le_of_ble_eq_true rfl | (dsimp only; omega)) (fun K H locs hu Z => ?_)
    have Z : sdZ D A s [sdA y cB n2 G, sdA x cA n K] _ _ := Z
    exact sdRet_v X hr hlk Z ((K, G)) ⟨hu, RA.rf⟩ [1, 0] (by decide) rfl rfl (Nat.zero_le _) (Nat.zero_le _) dX2_mergeSort_2_18
/-- mergeSort with its second array -/
theorem met_mergeD (l : Launch) (D : va_G) : ∀ (dd : Nat) (x n : Nat) (cA : ClassId) (F : Nat → Int32) (y n2 : Nat) (cB : ClassId) (G : Nat → Int32) (u r : Nat), n ≤ 48 → Sh F → n2 ≤ 48 → Sh G → u ≤ r → r ≤ n → r ≤ n2 → r - u ≤ 15 + dd → (∀ k, u ≤ k → k < r → G k = F k) → sdMv l yX2_mergeSort_2 cX2_mergeSort_2 9 (rmM dd) [.ref x, .int (nI u), .int (nI r), .ref y] D [sdA x cA n F, sdA y cB n2 G] [(cA, .short), (cB, .short)] (MP F G u r) (fun u => [sdA x cA n u.1, sdA y cB n2 u.2]) := by
  intro dd
  induction dd with
  | zero => intro x n cA F y n2 cB G u r hn hF hn2 hG h1 h2 h3 hd he; exact met_merge0 l D hn hF hn2 hG h1 h2 h3 he hd
  | succ dd ih => intro x n cA F y n2 cB G u r hn hF hn2 hG h1 h2 h3 hd he; exact met_mergeS l D hn hF hn2 hG h1 h2 h3 he ih hd
set_option maxHeartbeats 4000000 in
/-- mergeSort without a second array -/
theorem met_mergeN (l : Launch) (D : va_G) {x n : Nat} {cA : ClassId} {F : Nat → Int32} (hn : n ≤ 48) (hF : Sh F) {a b : Nat} (h1 : a ≤ b) (h2 : b ≤ n) : sdMv l yX2_mergeSort_2 cX2_mergeSort_2 9 ({ frames := 40, cells := 1, slots := 48, locals := 1200 } : Room) [.ref x, .int (nI a), .int (nI b), .null] D [sdA x cA n F] [(cA, .short)] (fun G : Nat → Int32 => SO F G a b) (fun G => [sdA x cA n G]) := by
  refine sdMv.of (by decide +kernel) (Nat.le_of_ble_eq_true rfl) ?_
  intro p e s m args below meth c A ls X hr hlk Z hl
  have X : sdX p s m args c cX2_mergeSort_2 9 RX2 D [(cA, .short)] A := X
  have hx := X.1.1
  have hb := X.1.2.1
  have hl : lv_has ls 9 [(0, .ref x), (1, .int (nI a)), (2, .int (nI b)), (3, .null)] := hl
  refine lv_iload_n hx hb dX2_mergeSort_2_0 rfl (lv_at hl 2 rfl) ?_
  refine lv_iload_n hx hb dX2_mergeSort_2_1 rfl (lv_at hl 1 rfl) ?_
  refine sd_isub (a := b) (b := a) (k := b - a) hx hb dX2_mergeSort_2_2 (by omega) rfl ?_
  refine lv_istore (lv' := [(4, .int (nI (b - a))), (0, .ref x), (1, .int (nI a)), (2, .int (nI b)), (3, .null)]) hx hb dX2_mergeSort_2_3 hl (by decide) rfl (fun ls hl => ?_)
  refine lv_iload hx hb dX2_mergeSort_2_5 (lv_at hl 0 rfl) ?_
  refine lv_bipush (v := nI 16) hx hb dX2_mergeSort_2_7 (by decide) ?_
  refine sd_nge (tgt := 19) hx hb dX2_mergeSort_2_9 (by decide) (by omega) (by omega) (fun h4 => ?_) (fun h4 => ?_)
  · refine lv_aload_nN hx hb dX2_mergeSort_2_19 rfl (lv_at hl 4 rfl) ?_
    refine lv_ifnonnullN hx hb dX2_mergeSort_2_20 ?_
    refine lv_aload_n hx hb dX2_mergeSort_2_23 rfl (lv_at hl 1 rfl) ?_
    refine lv_iload_n hx hb dX2_mergeSort_2_24 rfl (lv_at hl 3 rfl) ?_
    refine sdCall_sr (na := 2) (As := [.ref x, .int (nI b)]) (rest := []) (wr := []) (k := 1) (n := 48) X Z (met_copyOf l D hn hF h2) q115 q116 q7 q117 (by decide +kernel) rfl (by first | exact Nat.le_of_ble_eq_true rfl | (dsimp only; omega)) (by first | exact Nat.le_of_ble_eq_true rfl | (dsimp only; omega)) [0] [] [0] (by decide) rfl rfl rfl (by decide) (by decide) rfl hl.1 rfl (Nat.le_of_ble_eq_true rfl) dX2_mergeSort_2_25 (by first | exact Nat.le_of_ble_eq_true rfl | (dsimp only; omega)) (by first | exact Nat.le_of_ble_eq_true rfl | (dsimp only; omega)) (by first | exact Nat.le_of_ble_eq_true rfl | (dsimp only; omega)) (by first | exact Nat.le_of_ble_eq_true rfl | (dsimp only; omega)) (fun u y H locs hu X Z => ?_)
    obtain ⟨cB, G⟩ := u
    have X : sdX p s m args c cX2_mergeSort_2 9 RX2 D [(cA, .short), (cB, .short)] A := X
    have Z : sdZ D A s [sdA x cA n F, sdA y cB b G] _ _ := Z
    obtain ⟨hG, he⟩ : Sh G ∧ ∀ k, k < b → G k = F k := hu
    refine lv_astore_n (lv' := [(3, .ref y), (4, .int (nI (b - a))), (0, .ref x), (1, .int (nI a)), (2, .int (nI b))]) hx hb dX2_mergeSort_2_28 rfl hl (by decide) rfl (fun ls hl => ?_)
    exact lp_ms (dd := 32) hn hF (by omega) hG (by omega) h2 (Nat.le_refl _) (by omega) (fun k _ k2 => he k k2) (met_mergeD l D 32) X (Nat.le_of_ble_eq_true rfl) (Nat.le_of_ble_eq_true rfl) (Nat.le_refl _) (Nat.le_refl _) (fun u pc H locs ls hdc hu Z => sdRet_v X hr hlk Z u.1 hu.1 [0] (by decide) rfl rfl (Nat.le_refl _) (Nat.le_refl _) hdc) _ _ ls Z (lv_sub hl [2, 3, 4, 0, 1] rfl)
  · refine lv_aload_n hx hb dX2_mergeSort_2_12 rfl (lv_at hl 1 rfl) ?_
    refine lv_iload_n hx hb dX2_mergeSort_2_13 rfl (lv_at hl 2 rfl) ?_
    refine lv_iload_n hx hb dX2_mergeSort_2_14 rfl (lv_at hl 3 rfl) ?_
    refine sdCall_sv (na := 3) (As := [.ref x, .int (nI a), .int (nI b)]) (rest := []) (wr := []) (k := 0) (n := 0) X Z (met_insertionSort l D hn hF h1 h2) q112 q113 q4 q114 (by decide +kernel) rfl (by first | exact Nat.le_of_ble_eq_true rfl | (dsimp only; omega)) (by first | exact Nat.le_of_ble_eq_true rfl | (dsimp only; omega)) [0] [] [0] (by decide) rfl rfl rfl (by decide) (by decide) rfl hl.1 rfl (Nat.le_of_ble_eq_true rfl) dX2_mergeSort_2_15 (by first | exact Nat.le_of_ble_eq_true rfl | (dsimp only; omega)) (by first | exact Nat.le_of_ble_eq_true rfl | (dsimp only; omega)) (by first | exact Nat.le_of_ble_eq_true rfl | (dsimp only; omega)) (by first | exact Nat.le_of_ble_eq_true rfl | (dsimp only; omega)) (fun K H locs hu Z => ?_)
    exact sdRet_v X hr hlk Z K hu [0] (by decide) rfl rfl (Nat.zero_le _) (Nat.zero_le _) dX2_mergeSort_2_18
set_option maxHeartbeats 4000000 in
/-- mergeSort -/
theorem met_mergeSort (l : Launch) (D : va_G) {x n : Nat} {cA : ClassId} {F : Nat → Int32} (hn : n ≤ 48) (hF : Sh F) {a b : Nat} (h1 : a ≤ b) (h2 : b ≤ n) : sdMv l yX2_mergeSort cX2_mergeSort 3 ({ frames := 41, cells := 1, slots := 48, locals := 1230 } : Room) [.ref x, .int (nI a), .int (nI b)] D [sdA x cA n F] [(cA, .short)] (fun G : Nat → Int32 => SO F G a b) (fun G => [sdA x cA n G]) := by
  refine sdMv.of (by decide +kernel) (Nat.le_of_ble_eq_true rfl) ?_
  intro p e s m args below meth c A ls X hr hlk Z hl
  have X : sdX p s m args c cX2_mergeSort 3 RX2 D [(cA, .short)] A := X
  have hx := X.1.1
  have hb := X.1.2.1
  have hl : lv_has ls 3 [(0, .ref x), (1, .int (nI a)), (2, .int (nI b))] := hl
  refine lv_aload_n hx hb dX2_mergeSort_0 rfl (lv_at hl 0 rfl) ?_
  refine lv_iload_n hx hb dX2_mergeSort_1 rfl (lv_at hl 1 rfl) ?_
  refine lv_iload_n hx hb dX2_mergeSort_2 rfl (lv_at hl 2 rfl) ?_
  refine lv_null hx hb dX2_mergeSort_3 ?_
  refine lv_castN hx hb dX2_mergeSort_4 ?_
  refine sdCall_sv (na := 4) (As := [.ref x, .int (nI a), .int (nI b), .null]) (rest := []) (wr := []) (k := 1) (n := 48) X Z (met_mergeN l D hn hF h1 h2) q109 q110 q4 q111 (by decide +kernel) rfl (by first | exact Nat.le_of_ble_eq_true rfl | (dsimp only; omega)) (by first | exact Nat.le_of_ble_eq_true rfl | (dsimp only; omega)) [0] [] [0] (by decide) rfl rfl rfl (by decide) (by decide) rfl hl.1 rfl (Nat.le_of_ble_eq_true rfl) dX2_mergeSort_7 (by first | exact Nat.le_of_ble_eq_true rfl | (dsimp only; omega)) (by first | exact Nat.le_of_ble_eq_true rfl | (dsimp only; omega)) (by first | exact Nat.le_of_ble_eq_true rfl | (dsimp only; omega)) (by first | exact Nat.le_of_ble_eq_true rfl | (dsimp only; omega)) (fun G H locs hu Z => ?_)
  exact sdRet_v X hr hlk Z G hu [0] (by decide) rfl rfl (Nat.le_refl _) (Nat.le_refl _) dX2_mergeSort_10
end
section
/-! THE FRAME, 3: a constructor, the script, plain numbers of the desk -/
set_option maxRecDepth 100000
/-- the low 31 bits -/
def bre (x : Int32) : Nat := x.toBitVec.toNat % 2 ^ 31
theorem bre_lt (x : Int32) : bre x < 2 ^ 31 := Nat.mod_lt _ (by decide)
theorem bre_and (x : Int32) : x &&& 2147483647 = nI (bre x) := pk_and x 31 (by decide)
theorem bre_nI {n : Nat} (h : n < 2 ^ 31) : bre (nI n) = n := by
  unfold bre
  rw [pk_tn (by omega), Nat.mod_eq_of_lt h]
/-- the desk's range: from, to -/
def fr (f : Int32) : Nat := bre f % 49
def tt (f t : Int32) : Nat := fr f + bre t % (49 - fr f)
theorem fr_le (f : Int32) : fr f ≤ 48 := by
  have : bre f % 49 < 49 := Nat.mod_lt _ (by decide)
  unfold fr
  omega
theorem tt_le (f t : Int32) : fr f ≤ tt f t ∧ tt f t ≤ 48 := by
  have h := fr_le f
  have : bre t % (49 - fr f) < 49 - fr f := Nat.mod_lt _ (by omega)
  unfold tt
  omega
/-- a constructor: it answers nothing, and brings arrays of classes of its own -/
def sdMn {S : Type} (l : Launch) (y : MethodName) (cc : ByteArray) (nL : Nat) (rm : Room) (As : List Value) (D : va_G) (wc : va_W) (tc : List (ClassId × FieldType)) (post : S → Prop) (w1 : S → va_W) (t1 : S → List (ClassId × FieldType)) : Prop :=
  ∀ sz : Nat, Met l y (ws_ y cc nL none) rm (va_Pc As (sdC D wc tc sz)) (va_Qv post (fun u t => sdBr D (va_A wc sz) (fun v _ => w1 v) t1 u 0 t) (va_A wc sz)) rm.cells rm.slots (va_A wc sz)
theorem sdMn.of {S : Type} {l : Launch} {y : MethodName} {cc : ByteArray} {nL : Nat} {rm : Room} {As : List Value} {D : va_G} {wc : va_W} {tc : List (ClassId × FieldType)} {post : S → Prop} {w1 : S → va_W} {t1 : S → List (ClassId × FieldType)} (hy : plainName y.cls = true) (hlen : (lg_sl As).length ≤ nL)
    (body : ∀ (p : Program) (e : Env) (s : State) (m : MethodId) (args : Array Value) (below : List Frame) (meth : Method) (c : Code) (A : Nat → Prop) (ls : Array Slot), sdX p s m args c cc nL y.cls D tc A → meth.sig.returnType = none → meth.locks = false → meth.name = y.name → sdZ D A s wc s.heap [] → lv_has ls nL (lv_args 0 As) →
      W p l e rm s m args below meth c s.heap [] 0 0 (MQ below (va_Qv post (fun u t => sdBr D A (fun v _ => w1 v) t1 u 0 t) A) args s rm.cells rm.slots A) (F0 m 0 ls [])) : sdMn l y cc nL rm As D wc tc post w1 t1 := by
  intro sz
  refine Met.ofW (cc := cc) (maxL := nL) (ret := none) hy rfl ?_
  intro p e s m args below meth c s₁ B hml hv
  obtain ⟨rfl, hsz, hP, hK, hD0⟩ := hv
  have hts := atoms_spec (ws := ws_ y cc nL none) B.pre
  have hts : ∀ w ∈ lw_all, w.before _ s = true := fun w h => hts w (List.mem_cons_of_mem _ h)
  subst hsz
  have hl := lv_entry As (n := nL) hlen
  rw [lg_entry_eq]
  exact body p e s m _ below meth c (va_A wc s.heap.size) _ ⟨⟨B.exec, B.bytes, hml, findClass_of_methodNamed B.named, hts⟩, hK, fun q h => Or.inr h⟩ B.returns B.notSynchronized (name_of_methodNamed B.named B.method).1 ⟨hP, hD0.self, va_S.rf⟩ hl
/-- a method that reads the script, the array of L ints xs at b, and answers some int -/
def sdMs (l : Launch) (y : MethodName) (cc : ByteArray) (nL : Nat) (rm : Room) (As : List Value) (D : va_G) (b L : Nat) (xs : Nat → Int32) : Prop :=
  ∀ sz : Nat, Met l y (ws_ y cc nL (some .int)) rm (va_Pc As (fun U => sdC D [] [] sz U ∧ va_X b L xs U U.heap ∧ b < U.heap.size)) (va_Qi (fun (_ : Int32) (_ : Unit) => True) (sdB D (va_A [] sz) (fun _ => [])) (va_A [] sz)) rm.cells rm.slots (va_A [] sz)
theorem sdMs.of {l : Launch} {y : MethodName} {cc : ByteArray} {nL : Nat} {rm : Room} {As : List Value} {D : va_G} {b L : Nat} {xs : Nat → Int32} (hy : plainName y.cls = true) (hlen : (lg_sl As).length ≤ nL)
    (body : ∀ (p : Program) (e : Env) (s : State) (m : MethodId) (args : Array Value) (below : List Frame) (meth : Method) (c : Code) (A : Nat → Prop) (ls : Array Slot), sdX p s m args c cc nL y.cls D [] A → meth.sig.returnType = some .int → meth.locks = false → va_X b L xs s s.heap → b < s.heap.size → ¬ A b → sdZ D A s [] s.heap [] → lv_has ls nL (lv_args 0 As) →
      W p l e rm s m args below meth c s.heap [] 0 0 (MQ below (va_Qi (fun (_ : Int32) (_ : Unit) => True) (sdB D A (fun _ => [])) A) args s rm.cells rm.slots A) (F0 m 0 ls [])) : sdMs l y cc nL rm As D b L xs := by
  intro sz
  refine Met.ofW (cc := cc) (maxL := nL) (ret := some .int) hy rfl ?_
  intro p e s m args below meth c s₁ B hml hv
  obtain ⟨rfl, ⟨hsz, hP, hK, hD0⟩, hX, hbl⟩ := hv
  have hts := atoms_spec (ws := ws_ y cc nL (some .int)) B.pre
  have hts : ∀ w ∈ lw_all, w.before _ s = true := fun w h => hts w (List.mem_cons_of_mem _ h)
  subst hsz
  have hl := lv_entry As (n := nL) hlen
  rw [lg_entry_eq]
  exact body p e s m _ below meth c (va_A [] s.heap.size) _ ⟨⟨B.exec, B.bytes, hml, findClass_of_methodNamed B.named, hts⟩, hK, fun q h => Or.inr h⟩ B.returns B.notSynchronized hX hbl (fun q => by
    rcases q with ⟨k, e, h⟩ | h
    · simp at h
    · omega) ⟨hP, hD0.self, va_S.rf⟩ hl
section SD3
variable {p : Program} {l : Launch} {e : Env} {R : Room} {s : State} {m : MethodId} {args : Array Value} {below : List Frame} {meth : Method} {c : Code} {H : Heap} {locs : List Loc} {cells slots : Nat} {Q : State → Prop}
variable {cc : ByteArray} {nL pc : Nat} {ls : Array Slot} {rest : List Value} {own : String} {D : va_G} {tys : List (ClassId × FieldType)} {A : Nat → Prop} {ws : va_W}
theorem sdRet_n {S : Type} {post : S → Prop} {w1 : S → va_W} {t1 : S → List (ClassId × FieldType)} {mc ms : Nat} (X : sdX p s m args c cc nL own D tys A) (hr : meth.sig.returnType = none) (hlk : meth.locks = false) (Z : sdZ D A s ws H locs) (u : S) (hp : post u) (is it : List Nat) (hn : va_nd is = true) (hs : is.filterMap (fun i => ws[i]?) = w1 u) (hm : is.map (fun i => ws[i]?) = (w1 u).map some) (ht1 : it.filterMap (fun i => tys[i]?) = t1 u)
    (hc : cells ≤ mc) (hsl : slots ≤ ms) (hdg : decode cc pc = .ok (.return_, 1)) : W p l e R s m args below meth c H locs cells slots (MQ below (va_Qv post (fun u t => sdBr D A (fun v _ => w1 v) t1 u 0 t) A) args s mc ms A) (F0 m pc ls []) := by
  have Z1 := Z.sub is hn hs hm
  have K1 := X.2.1.1.sub it ht1
  refine W.widen (k := mc) (n := ms) hc hsl ?_
  exact W.vret X.1.1 X.1.2.1 hr (fun t ht hW => ⟨⟨u, rfl, hp, by rw [ht]; exact Z1.1, Z1.2.1, va_K.moved hW.alike K1⟩, Z1.2.2.F ht⟩) Z1.2.2.2.2 hdg hlk
/-- a constructor's call -/
theorem sdCall_n {S : Type} {y : MethodName} {bytes : ByteArray} {mL index k n na : Nat} {b : Nat} {rm : Room} {As stk : List Value} {wc wr : va_W} {tc : List (ClassId × FieldType)} {post : S → Prop} {w1 : S → va_W} {t1 : S → List (ClassId × FieldType)} (X : sdX p s m args c cc nL own D tys A) (Z : sdZ D A s ws H locs) (hM : sdMn l y bytes mL rm (.ref b :: As) D wc tc post w1 t1)
    (h1 : Cond.methodLink own index y ∈ lw_all) (h2 : Cond.instanceMethod y ∈ lw_all) (h3 : Cond.initialized y.cls ∈ lw_all) (h4 : Cond.code y bytes mL none ∈ lw_all) (hy1 : y.name = "<init>") (hd : y.cls ≠ "java/lang/invoke/MethodHandle" ∧ y.cls ≠ "java/lang/invoke/VarHandle" ∧ (parseMethodDescriptor y.desc).map (fun d => d.parameters.length) = some na) (hna : As.length = na)
    (hRf : rm.frames + 1 ≤ R.frames) (hRl : 8 + (mL + 11) + rm.locals ≤ R.locals) (isC isR it : List Nat) (hnC : va_nd isC = true) (hsC : isC.filterMap (fun i => ws[i]?) = wc) (hC : isC.map (fun i => ws[i]?) = wc.map some) (hR : isR.map (fun i => ws[i]?) = wr.map some) (hn : va_nd isR = true) (hdis : ∀ i ∈ isR, i ∉ isC) (ht : it.filterMap (fun i => tys[i]?) = tc)
    (hsz : ls.size = nL) (hstk : stk = As.reverse ++ .ref b :: rest) (hrm : (rest.map fun v => v.category).sum ≤ 8) (hdg : decode cc pc = .ok (.invokespecial index, 3)) (hcR : cells + rm.cells ≤ R.cells) (hsR : slots + rm.slots ≤ R.slots) (hck : cells + rm.cells ≤ k) (hsn : slots + rm.slots ≤ n)
    (kk : ∀ (u : S) (H1 : Heap) (locs1 : List Loc), post u → sdX p s m args c cc nL own D (tys ++ t1 u) A → sdZ D A s (wr ++ w1 u) H1 locs1 → W p l e R s m args below meth c H1 locs1 k n Q (F0 m (pc + 3) ls rest)) : W p l e R s m args below meth c H locs cells slots Q (F0 m pc ls stk) := by
  obtain ⟨hPc, hDc⟩ := sdCut Z isC hnC hsC hC
  have hKc := X.2.1.sub it ht
  have hF := va_free Z.2.1 Z.2.2 X.2.2 isC hC
  refine va_callv (va_runI (As := As) (rest := rest) X.1 (hM H.size) (cwI na X.1.2.2.2.2 (lw_meth h4) rfl rfl rfl (X.1.2.2.2.2 _ h3) (X.1.2.2.2.2 _ h1) (X.1.2.2.2.2 _ h2) hy1 hd ⟨hRf, hRl⟩) ⟨sdBlind, fun U hU hW => sdPre hPc hKc hDc U hU hW⟩ rfl hna hsz hstk (lv_room hrm) hdg ⟨hcR, hsR⟩) Z.2.2 (fun q _ h => hF q h) hF (fun u t H1 locs1 hth hvm hw hB hz1 hk1 hS => ?_)
  obtain ⟨hP1, hD1, hK1⟩ := hB
  rw [hth] at hP1
  exact W.widen hck hsn (kk u H1 locs1 hw (X.app (va_K.moved hvm.symm hK1)) (sdJoin Z isC isR hC hR hn hdis hk1 hF hP1 hD1 hS))
/-- a call of a method that reads the script -/
theorem sdCall_s {y : MethodName} {bytes : ByteArray} {mL index k n na : Nat} {b L : Nat} {xs : Nat → Int32} {rm : Room} {As stk : List Value} (X : sdX p s m args c cc nL own D tys A) (Z : sdZ D A s ws H locs) (hM : sdMs l y bytes mL rm As D b L xs) (hX : va_X b L xs s s.heap) (hbl : b < s.heap.size) (hbA : ¬ A b)
    (h1 : Cond.methodLink own index y ∈ lw_all) (h2 : Cond.static y ∈ lw_all) (h3 : Cond.initialized y.cls ∈ lw_all) (h4 : Cond.code y bytes mL (some .int) ∈ lw_all) (hd : y.cls ≠ "java/lang/invoke/MethodHandle" ∧ y.cls ≠ "java/lang/invoke/VarHandle" ∧ (parseMethodDescriptor y.desc).map (fun d => d.parameters.length) = some na) (hna : As.length = na)
    (hRf : rm.frames + 1 ≤ R.frames) (hRl : 8 + (mL + 11) + rm.locals ≤ R.locals) (isR : List Nat) (hR : isR.map (fun i => ws[i]?) = ws.map some) (hn : va_nd isR = true)
    (hsz : ls.size = nL) (hstk : stk = As.reverse ++ rest) (hrm : (rest.map fun v => v.category).sum ≤ 8) (hdg : decode cc pc = .ok (.invokestatic index, 3)) (hcR : cells + rm.cells ≤ R.cells) (hsR : slots + rm.slots ≤ R.slots) (hck : cells + rm.cells ≤ k) (hsn : slots + rm.slots ≤ n)
    (kk : ∀ (r : Int32) (H1 : Heap) (locs1 : List Loc), sdZ D A s ws H1 locs1 → W p l e R s m args below meth c H1 locs1 k n Q (F0 m (pc + 3) ls (.int r :: rest))) : W p l e R s m args below meth c H locs cells slots Q (F0 m pc ls stk) := by
  obtain ⟨hPc, hDc⟩ := sdCut (wc := []) Z [] rfl rfl rfl
  have hKc := X.2.1.sub (tc := []) [] rfl
  have hF := va_free (wc := []) Z.2.1 Z.2.2 X.2.2 [] rfl
  have hXH : va_X b L xs s H := hX.kept (Z.2.2.2.1 b hbl hbA)
  have hbH : b < H.size := Nat.lt_of_lt_of_le hbl Z.2.2.1
  refine va_calli (va_runS (As := As) (rest := rest) X.1 (hM H.size) (va_cwS na X.1.2.2.2.2 (lw_S h1 h2 h3 h4) rfl rfl rfl hd ⟨hRf, hRl⟩) ⟨fun a U g mk q => ?_, fun U hU hW => ⟨rfl, (sdPre (As := As) hPc hKc hDc U hU hW).2, by rw [hU]; exact hXH.moved hW.alike, by rw [hU]; exact hbH⟩⟩ rfl hna hsz hstk (lv_room hrm) hdg ⟨hcR, hsR⟩) Z.2.2 (fun q _ h => hF q h) hF (fun r u t H1 locs1 hth hvm hw hB hz1 hk1 hS => ?_)
  · obtain ⟨q0, q1, q2, q3⟩ := q
    exact ⟨q0, (sdBlind (As := As) a U g mk ⟨q0, q1⟩).2, va_X.moved (u := U) (U := U.calling g mk a) (Vm.Alike.refl U.vm) q2, q3⟩
  · obtain ⟨hP1, hD1⟩ := hB
    rw [hth] at hP1
    have Z1 := sdJoin Z [] isR rfl hR hn (fun i _ h => by cases h) hk1 hF hP1 hD1 hS
    rw [List.append_nil] at Z1
    exact W.widen hck hsn (kk r H1 locs1 Z1)
end SD3
end
section
/-! ShortSortDesk -/
set_option maxRecDepth 100000
set_option maxHeartbeats 4000000 in
/-- ShortSortDesk(): a row of 48 zeros -/
theorem met_init (l : Launch) (D : va_G) (d : Nat) : sdMn l yX1_init cX1_init 1 ({ frames := 1, cells := 1, slots := 48, locals := 30 } : Room) [.ref d] D [(d, .inr (0, [.null]))] [] (fun _ : Nat × ClassId => True) (fun u => [sdO d u.1, sdA u.1 u.2 48 (fun _ => 0)]) (fun u => [(u.2, .short)]) := by
  refine sdMn.of (by decide +kernel) (Nat.le_of_ble_eq_true rfl) ?_
  intro p e s m args below meth c A ls X hr hlk hin Z hl
  have X : sdX p s m args c cX1_init 1 RX1 D [] A := X
  have hx := X.1.1
  have hb := X.1.2.1
  have hl : lv_has ls 1 [(0, .ref d)] := hl
  refine lv_aload_n hx hb dX1_init_0 rfl (lv_at hl 0 rfl) ?_
  refine W.objInit hx hb X.1.2.2.2.1 (X.1.2.2.2.2 _ q14) (X.1.2.2.2.2 _ q15) (X.1.2.2.2.2 _ q16) rfl (by rw [X.1.2.2.1]; exact hl.1) rfl dX1_init_1 (Nat.le_of_ble_eq_true rfl) (Nat.le_of_ble_eq_true rfl) ?_
  refine W.eq (g2 := F0 m 4 ls []) rfl ?_
  refine lv_aload_n hx hb dX1_init_4 rfl (lv_at hl 0 rfl) ?_
  refine lv_bipush (v := nI 48) hx hb dX1_init_5 (by decide) ?_
  refine sd_new X Z (n := 48) (by omega) (Nat.le_of_ble_eq_true rfl) (Nat.le_of_ble_eq_true rfl) dX1_init_7 (fun q cB H X Z => ?_)
  have Z : sdZ D A s [(d, .inr (0, [.null])), sdA q cB 48 (fun _ => 0)] _ _ := Z
  refine va_putF (D := D) (cl := vwCl) (ci := 0) (v := .ref q) (ty := .array .short) (C := RX1) (T := TX1) (N := 1) hx hb X.1.2.2.2.2 in_X1 tyX1 tyX1_ok nmX1 X.1.2.2.2.1 X.2.1.1 Z.1 Z.2.1 Z.2.2 0 rfl rfl 0 (by decide) (X.1.2.2.2.2 _ q17) (fun _ h9 => h9) rfl hin rfl (by decide +kernel) rfl rfl (Nat.le_of_ble_eq_true rfl) dX1_init_9 (fun H locs hP hD hS => ?_)
  have Z : sdZ D A s [sdO d q, sdA q cB 48 (fun _ => 0)] H locs := ⟨hP, hD, hS⟩
  exact sdRet_n X hr hlk Z (q, cB) trivial [0, 1] [0] (by decide) rfl rfl rfl (Nat.le_of_ble_eq_true rfl) (Nat.le_of_ble_eq_true rfl) dX1_init_12
set_option maxHeartbeats 4000000 in
/-- set(i, v) -/
theorem met_set (l : Launch) (D : va_G) {d ro : Nat} {cA : ClassId} {F : Nat → Int32} (hF : Sh F) (i v : Int32) : sdMv l yX1_set cX1_set 3 ({ frames := 0, cells := 0, slots := 0, locals := 0 } : Room) [.ref d, .int i, .int v] D [sdO d ro, sdA ro cA 48 F] [(cA, .short)] (fun G : Nat → Int32 => G = upd F (bre i % 48) v.toInt16.toInt32) (fun G => [sdO d ro, sdA ro cA 48 G]) := by
  refine sdMv.of (by decide +kernel) (Nat.le_of_ble_eq_true rfl) ?_
  intro p e s m args below meth c A ls X hr hlk Z hl
  have X : sdX p s m args c cX1_set 3 RX1 D [(cA, .short)] A := X
  have hx := X.1.1
  have hb := X.1.2.1
  have hl : lv_has ls 3 [(0, .ref d), (1, .int i), (2, .int v)] := hl
  refine lv_aload_n hx hb dX1_set_0 rfl (lv_at hl 0 rfl) ?_
  refine sd_row X Z 0 rfl dX1_set_1 ?_
  refine lv_iload_n hx hb dX1_set_4 rfl (lv_at hl 1 rfl) ?_
  refine lv_ldc (own := RX1) (v := 2147483647) hx hb X.1.2.2.2.1 (X.1.2.2.2.2 _ q26) dX1_set_5 ?_
  refine lv_iand hx hb dX1_set_7 ?_
  refine sd_top (bre_and _) ?_
  refine lv_bipush (v := nI 48) hx hb dX1_set_8 (by decide) ?_
  refine sd_irem (a := bre i) (d := 48) (k := (bre i) % 48) hx hb dX1_set_10 (bre_lt _) (by omega) (by omega) rfl ?_
  refine lv_iload_n hx hb dX1_set_11 rfl (lv_at hl 2 rfl) ?_
  refine lv_i2s (v := v.toInt16.toInt32) hx hb dX1_set_12 rfl ?_
  refine sd_sst (k := (bre i) % 48) (v := v.toInt16.toInt32) X Z 1 0 rfl rfl (by omega) (by omega) (nar_cut _) dX1_set_13 (fun H locs Z => ?_)
  have Z : sdZ D A s [sdO d ro, sdA ro cA 48 (upd F ((bre i) % 48) v.toInt16.toInt32)] _ _ := Z
  exact sdRet_v X hr hlk Z (upd F (bre i % 48) v.toInt16.toInt32) rfl [0, 1] (by decide) rfl rfl (Nat.zero_le _) (Nat.zero_le _) dX1_set_14
set_option maxHeartbeats 4000000 in
/-- get(i) -/
theorem met_get (l : Launch) (D : va_G) {d ro : Nat} {cA : ClassId} {F : Nat → Int32} (hF : Sh F) (i : Int32) : sdMi l yX1_get cX1_get 2 .int ({ frames := 0, cells := 0, slots := 0, locals := 0 } : Room) [.ref d, .int i] D [sdO d ro, sdA ro cA 48 F] [(cA, .short)] (fun (r : Int32) (_ : Unit) => r = F (bre i % 48)) (fun _ => [sdO d ro, sdA ro cA 48 F]) := by
  refine sdMi.of (by decide +kernel) (Nat.le_of_ble_eq_true rfl) ?_
  intro p e s m args below meth c A ls X hr hlk Z hl
  have X : sdX p s m args c cX1_get 2 RX1 D [(cA, .short)] A := X
  have hx := X.1.1
  have hb := X.1.2.1
  have hl : lv_has ls 2 [(0, .ref d), (1, .int i)] := hl
  refine lv_aload_n hx hb dX1_get_0 rfl (lv_at hl 0 rfl) ?_
  refine sd_row X Z 0 rfl dX1_get_1 ?_
  refine lv_iload_n hx hb dX1_get_4 rfl (lv_at hl 1 rfl) ?_
  refine lv_ldc (own := RX1) (v := 2147483647) hx hb X.1.2.2.2.1 (X.1.2.2.2.2 _ q26) dX1_get_5 ?_
  refine lv_iand hx hb dX1_get_7 ?_
  refine sd_top (bre_and _) ?_
  refine lv_bipush (v := nI 48) hx hb dX1_get_8 (by decide) ?_
  refine sd_irem (a := bre i) (d := 48) (k := (bre i) % 48) hx hb dX1_get_10 (bre_lt _) (by omega) (by omega) rfl ?_
  refine sd_sld (k := (bre i) % 48) X Z 1 0 rfl rfl (by omega) (by omega) dX1_get_11 ?_
  exact sdRet_i X hr hlk rfl Z (()) rfl [0, 1] (by decide) rfl rfl (Nat.zero_le _) (Nat.zero_le _) dX1_get_12
set_option maxHeartbeats 4000000 in
/-- from(f) -/
theorem met_from (l : Launch) (D : va_G) {d ro : Nat} (f : Int32) : sdMi l yX1_from cX1_from 2 .int ({ frames := 0, cells := 0, slots := 0, locals := 0 } : Room) [.ref d, .int f] D [sdO d ro] [] (fun (r : Int32) (_ : Unit) => r = nI (fr f)) (fun _ => [sdO d ro]) := by
  refine sdMi.of (by decide +kernel) (Nat.le_of_ble_eq_true rfl) ?_
  intro p e s m args below meth c A ls X hr hlk Z hl
  have X : sdX p s m args c cX1_from 2 RX1 D [] A := X
  have hx := X.1.1
  have hb := X.1.2.1
  have hl : lv_has ls 2 [(0, .ref d), (1, .int f)] := hl
  refine lv_iload_n hx hb dX1_from_0 rfl (lv_at hl 1 rfl) ?_
  refine lv_ldc (own := RX1) (v := 2147483647) hx hb X.1.2.2.2.1 (X.1.2.2.2.2 _ q26) dX1_from_1 ?_
  refine lv_iand hx hb dX1_from_3 ?_
  refine sd_top (bre_and _) ?_
  refine lv_bipush (v := nI 49) hx hb dX1_from_4 (by decide) ?_
  refine sd_irem (a := bre f) (d := 49) (k := (bre f) % 49) hx hb dX1_from_6 (bre_lt _) (by omega) (by omega) rfl ?_
  exact sdRet_i X hr hlk rfl Z (()) rfl [0] (by decide) rfl rfl (Nat.zero_le _) (Nat.zero_le _) dX1_from_7
set_option maxHeartbeats 4000000 in
/-- to(from(f), t) -/
theorem met_to (l : Launch) (D : va_G) {d ro : Nat} (f t : Int32) : sdMi l yX1_to cX1_to 3 .int ({ frames := 0, cells := 0, slots := 0, locals := 0 } : Room) [.ref d, .int (nI (fr f)), .int t] D [sdO d ro] [] (fun (r : Int32) (_ : Unit) => r = nI (tt f t)) (fun _ => [sdO d ro]) := by
  refine sdMi.of (by decide +kernel) (Nat.le_of_ble_eq_true rfl) ?_
  intro p e s m args below meth c A ls X hr hlk Z hl
  have X : sdX p s m args c cX1_to 3 RX1 D [] A := X
  have hx := X.1.1
  have hb := X.1.2.1
  have hl : lv_has ls 3 [(0, .ref d), (1, .int (nI (fr f))), (2, .int t)] := hl
  have hfr := fr_le f
  refine lv_iload_n hx hb dX1_to_0 rfl (lv_at hl 1 rfl) ?_
  refine lv_iload_n hx hb dX1_to_1 rfl (lv_at hl 2 rfl) ?_
  refine lv_ldc (own := RX1) (v := 2147483647) hx hb X.1.2.2.2.1 (X.1.2.2.2.2 _ q26) dX1_to_2 ?_
  refine lv_iand hx hb dX1_to_4 ?_
  refine sd_top (bre_and _) ?_
  refine lv_bipush (v := nI 49) hx hb dX1_to_5 (by decide) ?_
  refine lv_iload_n hx hb dX1_to_7 rfl (lv_at hl 1 rfl) ?_
  refine sd_isub (a := 49) (b := fr f) (k := 49 - (fr f)) hx hb dX1_to_8 (by omega) rfl ?_
  refine sd_irem (a := bre t) (d := 49 - (fr f)) (k := (bre t) % (49 - (fr f))) hx hb dX1_to_9 (bre_lt _) (by omega) (by omega) rfl ?_
  refine sd_iadd (a := fr f) (b := (bre t) % (49 - (fr f))) (k := (fr f) + ((bre t) % (49 - (fr f)))) hx hb dX1_to_10 rfl ?_
  exact sdRet_i X hr hlk rfl Z (()) rfl [0] (by decide) rfl rfl (Nat.zero_le _) (Nat.zero_le _) dX1_to_11
set_option maxHeartbeats 4000000 in
/-- quick(f, t) -/
theorem met_dquick (l : Launch) (D : va_G) {d ro : Nat} {cA : ClassId} {F : Nat → Int32} (hF : Sh F) (f t : Int32) : sdMv l yX1_quick cX1_quick 4 ({ frames := 36, cells := 0, slots := 0, locals := 1135 } : Room) [.ref d, .int f, .int t] D [sdO d ro, sdA ro cA 48 F] [(cA, .short)] (fun G : Nat → Int32 => SO F G (fr f) (tt f t)) (fun G => [sdO d ro, sdA ro cA 48 G]) := by
  refine sdMv.of (by decide +kernel) (Nat.le_of_ble_eq_true rfl) ?_
  intro p e s m args below meth c A ls X hr hlk Z hl
  have X : sdX p s m args c cX1_quick 4 RX1 D [(cA, .short)] A := X
  have hx := X.1.1
  have hb := X.1.2.1
  have hl : lv_has ls 4 [(0, .ref d), (1, .int f), (2, .int t)] := hl
  have hfr := fr_le f
  have htt := tt_le f t
  refine lv_aload_n hx hb dX1_quick_0 rfl (lv_at hl 0 rfl) ?_
  refine lv_iload_n hx hb dX1_quick_1 rfl (lv_at hl 1 rfl) ?_
  refine sdCall_vi (q0 := 0) (na := 1) (As := [.int f]) (rest := []) (wr := [sdA ro cA 48 F]) (k := 0) (n := 0) X Z (met_from l D f) rfl q35 q37 qs0 q3 q38 (by decide +kernel) rfl (by first | exact Nat.le_of_ble_eq_true rfl | (dsimp only; omega)) (by first | exact Nat.le_of_ble_eq_true rfl | (dsimp only; omega)) [0] [1] [] (by decide) rfl rfl rfl (by decide) (by decide) rfl hl.1 rfl (Nat.le_of_ble_eq_true rfl) dX1_quick_2 (by first | exact Nat.le_of_ble_eq_true rfl | (dsimp only; omega)) (by first | exact Nat.le_of_ble_eq_true rfl | (dsimp only; omega)) (by first | exact Nat.le_of_ble_eq_true rfl | (dsimp only; omega)) (by first | exact Nat.le_of_ble_eq_true rfl | (dsimp only; omega)) (fun q u H locs hq Z => ?_)
  obtain rfl : q = nI (fr f) := hq
  have Z : sdZ D A s [sdO d ro, sdA ro cA 48 F] H locs := Z.sub [1, 0] (by decide) rfl rfl
  refine lv_istore_n (lv' := [(3, .int (nI (fr f))), (0, .ref d), (1, .int f), (2, .int t)]) hx hb dX1_quick_5 rfl hl (by decide) rfl (fun ls hl => ?_)
  refine lv_aload_n hx hb dX1_quick_6 rfl (lv_at hl 1 rfl) ?_
  refine sd_row X Z 0 rfl dX1_quick_7 ?_
  refine lv_iload_n hx hb dX1_quick_10 rfl (lv_at hl 0 rfl) ?_
  refine lv_aload_n hx hb dX1_quick_11 rfl (lv_at hl 1 rfl) ?_
  refine lv_iload_n hx hb dX1_quick_12 rfl (lv_at hl 0 rfl) ?_
  refine lv_iload_n hx hb dX1_quick_13 rfl (lv_at hl 3 rfl) ?_
  refine sdCall_vi (q0 := 0) (na := 2) (As := [.int (nI (fr f)), .int t]) (rest := [.int (nI (fr f)), .ref ro]) (wr := [sdA ro cA 48 F]) (k := 0) (n := 0) X Z (met_to l D f t) rfl q39 q41 qs1 q3 q42 (by decide +kernel) rfl (by first | exact Nat.le_of_ble_eq_true rfl | (dsimp only; omega)) (by first | exact Nat.le_of_ble_eq_true rfl | (dsimp only; omega)) [0] [1] [] (by decide) rfl rfl rfl (by decide) (by decide) rfl hl.1 rfl (Nat.le_of_ble_eq_true rfl) dX1_quick_14 (by first | exact Nat.le_of_ble_eq_true rfl | (dsimp only; omega)) (by first | exact Nat.le_of_ble_eq_true rfl | (dsimp only; omega)) (by first | exact Nat.le_of_ble_eq_true rfl | (dsimp only; omega)) (by first | exact Nat.le_of_ble_eq_true rfl | (dsimp only; omega)) (fun q u H locs hq Z => ?_)
  obtain rfl : q = nI (tt f t) := hq
  have Z : sdZ D A s [sdO d ro, sdA ro cA 48 F] H locs := Z.sub [1, 0] (by decide) rfl rfl
  refine sdCall_sv (na := 3) (As := [.ref ro, .int (nI (fr f)), .int (nI (tt f t))]) (rest := []) (wr := [sdO d ro]) (k := 0) (n := 0) X Z (met_quickSort l D (Nat.le_refl 48) hF htt.1 htt.2) q79 q80 q4 q81 (by decide +kernel) rfl (by first | exact Nat.le_of_ble_eq_true rfl | (dsimp only; omega)) (by first | exact Nat.le_of_ble_eq_true rfl | (dsimp only; omega)) [1] [0] [0] (by decide) rfl rfl rfl (by decide) (by decide) rfl hl.1 rfl (Nat.le_of_ble_eq_true rfl) dX1_quick_17 (by first | exact Nat.le_of_ble_eq_true rfl | (dsimp only; omega)) (by first | exact Nat.le_of_ble_eq_true rfl | (dsimp only; omega)) (by first | exact Nat.le_of_ble_eq_true rfl | (dsimp only; omega)) (by first | exact Nat.le_of_ble_eq_true rfl | (dsimp only; omega)) (fun G H locs hu Z => ?_)
  exact sdRet_v X hr hlk Z G hu [0, 1] (by decide) rfl rfl (Nat.le_refl _) (Nat.le_refl _) dX1_quick_20
set_option maxHeartbeats 4000000 in
/-- merge(f, t) -/
theorem met_dmerge (l : Launch) (D : va_G) {d ro : Nat} {cA : ClassId} {F : Nat → Int32} (hF : Sh F) (f t : Int32) : sdMv l yX1_merge cX1_merge 4 ({ frames := 42, cells := 1, slots := 48, locals := 1252 } : Room) [.ref d, .int f, .int t] D [sdO d ro, sdA ro cA 48 F] [(cA, .short)] (fun G : Nat → Int32 => SO F G (fr f) (tt f t)) (fun G => [sdO d ro, sdA ro cA 48 G]) := by
  refine sdMv.of (by decide +kernel) (Nat.le_of_ble_eq_true rfl) ?_
  intro p e s m args below meth c A ls X hr hlk Z hl
  have X : sdX p s m args c cX1_merge 4 RX1 D [(cA, .short)] A := X
  have hx := X.1.1
  have hb := X.1.2.1
  have hl : lv_has ls 4 [(0, .ref d), (1, .int f), (2, .int t)] := hl
  have hfr := fr_le f
  have htt := tt_le f t
  refine lv_aload_n hx hb dX1_merge_0 rfl (lv_at hl 0 rfl) ?_
  refine lv_iload_n hx hb dX1_merge_1 rfl (lv_at hl 1 rfl) ?_
  refine sdCall_vi (q0 := 0) (na := 1) (As := [.int f]) (rest := []) (wr := [sdA ro cA 48 F]) (k := 0) (n := 0) X Z (met_from l D f) rfl q35 q37 qs0 q3 q38 (by decide +kernel) rfl (by first | exact Nat.le_of_ble_eq_true rfl | (dsimp only; omega)) (by first | exact Nat.le_of_ble_eq_true rfl | (dsimp only; omega)) [0] [1] [] (by decide) rfl rfl rfl (by decide) (by decide) rfl hl.1 rfl (Nat.le_of_ble_eq_true rfl) dX1_merge_2 (by first | exact Nat.le_of_ble_eq_true rfl | (dsimp only; omega)) (by first | exact Nat.le_of_ble_eq_true rfl | (dsimp only; omega)) (by first | exact Nat.le_of_ble_eq_true rfl | (dsimp only; omega)) (by first | exact Nat.le_of_ble_eq_true rfl | (dsimp only; omega)) (fun q u H locs hq Z => ?_)
  obtain rfl : q = nI (fr f) := hq
  have Z : sdZ D A s [sdO d ro, sdA ro cA 48 F] H locs := Z.sub [1, 0] (by decide) rfl rfl
  refine lv_istore_n (lv' := [(3, .int (nI (fr f))), (0, .ref d), (1, .int f), (2, .int t)]) hx hb dX1_merge_5 rfl hl (by decide) rfl (fun ls hl => ?_)
  refine lv_aload_n hx hb dX1_merge_6 rfl (lv_at hl 1 rfl) ?_
  refine sd_row X Z 0 rfl dX1_merge_7 ?_
  refine lv_iload_n hx hb dX1_merge_10 rfl (lv_at hl 0 rfl) ?_
  refine lv_aload_n hx hb dX1_merge_11 rfl (lv_at hl 1 rfl) ?_
  refine lv_iload_n hx hb dX1_merge_12 rfl (lv_at hl 0 rfl) ?_
  refine lv_iload_n hx hb dX1_merge_13 rfl (lv_at hl 3 rfl) ?_
  refine sdCall_vi (q0 := 0) (na := 2) (As := [.int (nI (fr f)), .int t]) (rest := [.int (nI (fr f)), .ref ro]) (wr := [sdA ro cA 48 F]) (k := 0) (n := 0) X Z (met_to l D f t) rfl q39 q41 qs1 q3 q42 (by decide +kernel) rfl (by first | exact Nat.le_of_ble_eq_true rfl | (dsimp only; omega)) (by first | exact Nat.le_of_ble_eq_true rfl | (dsimp only; omega)) [0] [1] [] (by decide) rfl rfl rfl (by decide) (by decide) rfl hl.1 rfl (Nat.le_of_ble_eq_true rfl) dX1_merge_14 (by first | exact Nat.le_of_ble_eq_true rfl | (dsimp only; omega)) (by first | exact Nat.le_of_ble_eq_true rfl | (dsimp only; omega)) (by first | exact Nat.le_of_ble_eq_true rfl | (dsimp only; omega)) (by first | exact Nat.le_of_ble_eq_true rfl | (dsimp only; omega)) (fun q u H locs hq Z => ?_)
  obtain rfl : q = nI (tt f t) := hq
  have Z : sdZ D A s [sdO d ro, sdA ro cA 48 F] H locs := Z.sub [1, 0] (by decide) rfl rfl
  refine sdCall_sv (na := 3) (As := [.ref ro, .int (nI (fr f)), .int (nI (tt f t))]) (rest := []) (wr := [sdO d ro]) (k := 1) (n := 48) X Z (met_mergeSort l D (Nat.le_refl 48) hF htt.1 htt.2) q105 q106 q4 q107 (by decide +kernel) rfl (by first | exact Nat.le_of_ble_eq_true rfl | (dsimp only; omega)) (by first | exact Nat.le_of_ble_eq_true rfl | (dsimp only; omega)) [1] [0] [0] (by decide) rfl rfl rfl (by decide) (by decide) rfl hl.1 rfl (Nat.le_of_ble_eq_true rfl) dX1_merge_17 (by first | exact Nat.le_of_ble_eq_true rfl | (dsimp only; omega)) (by first | exact Nat.le_of_ble_eq_true rfl | (dsimp only; omega)) (by first | exact Nat.le_of_ble_eq_true rfl | (dsimp only; omega)) (by first | exact Nat.le_of_ble_eq_true rfl | (dsimp only; omega)) (fun G H locs hu Z => ?_)
  exact sdRet_v X hr hlk Z G hu [0, 1] (by decide) rfl rfl (Nat.le_refl _) (Nat.le_refl _) dX1_merge_20
set_option maxHeartbeats 4000000 in
/-- radix(f, t) -/
theorem met_dradix (l : Launch) (D : va_G) {d ro : Nat} {cA : ClassId} {F : Nat → Int32} (hF : Sh F) (f t : Int32) : sdMv l yX1_radix cX1_radix 4 ({ frames := 37, cells := 0, slots := 0, locals := 1175 } : Room) [.ref d, .int f, .int t] D [sdO d ro, sdA ro cA 48 F] [(cA, .short)] (fun G : Nat → Int32 => SO F G (fr f) (tt f t)) (fun G => [sdO d ro, sdA ro cA 48 G]) := by
  refine sdMv.of (by decide +kernel) (Nat.le_of_ble_eq_true rfl) ?_
  intro p e s m args below meth c A ls X hr hlk Z hl
  have X : sdX p s m args c cX1_radix 4 RX1 D [(cA, .short)] A := X
  have hx := X.1.1
  have hb := X.1.2.1
  have hl : lv_has ls 4 [(0, .ref d), (1, .int f), (2, .int t)] := hl
  have hfr := fr_le f
  have htt := tt_le f t
  refine lv_aload_n hx hb dX1_radix_0 rfl (lv_at hl 0 rfl) ?_
  refine lv_iload_n hx hb dX1_radix_1 rfl (lv_at hl 1 rfl) ?_
  refine sdCall_vi (q0 := 0) (na := 1) (As := [.int f]) (rest := []) (wr := [sdA ro cA 48 F]) (k := 0) (n := 0) X Z (met_from l D f) rfl q35 q37 qs0 q3 q38 (by decide +kernel) rfl (by first | exact Nat.le_of_ble_eq_true rfl | (dsimp only; omega)) (by first | exact Nat.le_of_ble_eq_true rfl | (dsimp only; omega)) [0] [1] [] (by decide) rfl rfl rfl (by decide) (by decide) rfl hl.1 rfl (Nat.le_of_ble_eq_true rfl) dX1_radix_2 (by first | exact Nat.le_of_ble_eq_true rfl | (dsimp only; omega)) (by first | exact Nat.le_of_ble_eq_true rfl | (dsimp only; omega)) (by first | exact Nat.le_of_ble_eq_true rfl | (dsimp only; omega)) (by first | exact Nat.le_of_ble_eq_true rfl | (dsimp only; omega)) (fun q u H locs hq Z => ?_)
  obtain rfl : q = nI (fr f) := hq
  have Z : sdZ D A s [sdO d ro, sdA ro cA 48 F] H locs := Z.sub [1, 0] (by decide) rfl rfl
  refine lv_istore_n (lv' := [(3, .int (nI (fr f))), (0, .ref d), (1, .int f), (2, .int t)]) hx hb dX1_radix_5 rfl hl (by decide) rfl (fun ls hl => ?_)
  refine lv_aload_n hx hb dX1_radix_6 rfl (lv_at hl 1 rfl) ?_
  refine sd_row X Z 0 rfl dX1_radix_7 ?_
  refine lv_iload_n hx hb dX1_radix_10 rfl (lv_at hl 0 rfl) ?_
  refine lv_aload_n hx hb dX1_radix_11 rfl (lv_at hl 1 rfl) ?_
  refine lv_iload_n hx hb dX1_radix_12 rfl (lv_at hl 0 rfl) ?_
  refine lv_iload_n hx hb dX1_radix_13 rfl (lv_at hl 3 rfl) ?_
  refine sdCall_vi (q0 := 0) (na := 2) (As := [.int (nI (fr f)), .int t]) (rest := [.int (nI (fr f)), .ref ro]) (wr := [sdA ro cA 48 F]) (k := 0) (n := 0) X Z (met_to l D f t) rfl q39 q41 qs1 q3 q42 (by decide +kernel) rfl (by first | exact Nat.le_of_ble_eq_true rfl | (dsimp only; omega)) (by first | exact Nat.le_of_ble_eq_true rfl | (dsimp only; omega)) [0] [1] [] (by decide) rfl rfl rfl (by decide) (by decide) rfl hl.1 rfl (Nat.le_of_ble_eq_true rfl) dX1_radix_14 (by first | exact Nat.le_of_ble_eq_true rfl | (dsimp only; omega)) (by first | exact Nat.le_of_ble_eq_true rfl | (dsimp only; omega)) (by first | exact Nat.le_of_ble_eq_true rfl | (dsimp only; omega)) (by first | exact Nat.le_of_ble_eq_true rfl | (dsimp only; omega)) (fun q u H locs hq Z => ?_)
  obtain rfl : q = nI (tt f t) := hq
  have Z : sdZ D A s [sdO d ro, sdA ro cA 48 F] H locs := Z.sub [1, 0] (by decide) rfl rfl
  refine sdCall_sv (na := 3) (As := [.ref ro, .int (nI (fr f)), .int (nI (tt f t))]) (rest := []) (wr := [sdO d ro]) (k := 0) (n := 0) X Z (met_radixSort l D (Nat.le_refl 48) hF htt.1 htt.2) q134 q135 q4 q136 (by decide +kernel) rfl (by first | exact Nat.le_of_ble_eq_true rfl | (dsimp only; omega)) (by first | exact Nat.le_of_ble_eq_true rfl | (dsimp only; omega)) [1] [0] [0] (by decide) rfl rfl rfl (by decide) (by decide) rfl hl.1 rfl (Nat.le_of_ble_eq_true rfl) dX1_radix_17 (by first | exact Nat.le_of_ble_eq_true rfl | (dsimp only; omega)) (by first | exact Nat.le_of_ble_eq_true rfl | (dsimp only; omega)) (by first | exact Nat.le_of_ble_eq_true rfl | (dsimp only; omega)) (by first | exact Nat.le_of_ble_eq_true rfl | (dsimp only; omega)) (fun G H locs hu Z => ?_)
  exact sdRet_v X hr hlk Z G hu [0, 1] (by decide) rfl rfl (Nat.le_refl _) (Nat.le_refl _) dX1_radix_20
set_option maxHeartbeats 4000000 in
/-- reverse(f, t) -/
theorem met_dreverse (l : Launch) (D : va_G) {d ro : Nat} {cA : ClassId} {F : Nat → Int32} (hF : Sh F) (f t : Int32) : sdMv l yX1_reverse cX1_reverse 4 ({ frames := 1, cells := 0, slots := 0, locals := 25 } : Room) [.ref d, .int f, .int t] D [sdO d ro, sdA ro cA 48 F] [(cA, .short)] (fun G : Nat → Int32 => G = rvs F (fr f) (tt f t)) (fun G => [sdO d ro, sdA ro cA 48 G]) := by
  refine sdMv.of (by decide +kernel) (Nat.le_of_ble_eq_true rfl) ?_
  intro p e s m args below meth c A ls X hr hlk Z hl
  have X : sdX p s m args c cX1_reverse 4 RX1 D [(cA, .short)] A := X
  have hx := X.1.1
  have hb := X.1.2.1
  have hl : lv_has ls 4 [(0, .ref d), (1, .int f), (2, .int t)] := hl
  have hfr := fr_le f
  have htt := tt_le f t
  refine lv_aload_n hx hb dX1_reverse_0 rfl (lv_at hl 0 rfl) ?_
  refine lv_iload_n hx hb dX1_reverse_1 rfl (lv_at hl 1 rfl) ?_
  refine sdCall_vi (q0 := 0) (na := 1) (As := [.int f]) (rest := []) (wr := [sdA ro cA 48 F]) (k := 0) (n := 0) X Z (met_from l D f) rfl q35 q37 qs0 q3 q38 (by decide +kernel) rfl (by first | exact Nat.le_of_ble_eq_true rfl | (dsimp only; omega)) (by first | exact Nat.le_of_ble_eq_true rfl | (dsimp only; omega)) [0] [1] [] (by decide) rfl rfl rfl (by decide) (by decide) rfl hl.1 rfl (Nat.le_of_ble_eq_true rfl) dX1_reverse_2 (by first | exact Nat.le_of_ble_eq_true rfl | (dsimp only; omega)) (by first | exact Nat.le_of_ble_eq_true rfl | (dsimp only; omega)) (by first | exact Nat.le_of_ble_eq_true rfl | (dsimp only; omega)) (by first | exact Nat.le_of_ble_eq_true rfl | (dsimp only; omega)) (fun q u H locs hq Z => ?_)
  obtain rfl : q = nI (fr f) := hq
  have Z : sdZ D A s [sdO d ro, sdA ro cA 48 F] H locs := Z.sub [1, 0] (by decide) rfl rfl
  refine lv_istore_n (lv' := [(3, .int (nI (fr f))), (0, .ref d), (1, .int f), (2, .int t)]) hx hb dX1_reverse_5 rfl hl (by decide) rfl (fun ls hl => ?_)
  refine lv_aload_n hx hb dX1_reverse_6 rfl (lv_at hl 1 rfl) ?_
  refine sd_row X Z 0 rfl dX1_reverse_7 ?_
  refine lv_iload_n hx hb dX1_reverse_10 rfl (lv_at hl 0 rfl) ?_
  refine lv_aload_n hx hb dX1_reverse_11 rfl (lv_at hl 1 rfl) ?_
  refine lv_iload_n hx hb dX1_reverse_12 rfl (lv_at hl 0 rfl) ?_
  refine lv_iload_n hx hb dX1_reverse_13 rfl (lv_at hl 3 rfl) ?_
  refine sdCall_vi (q0 := 0) (na := 2) (As := [.int (nI (fr f)), .int t]) (rest := [.int (nI (fr f)), .ref ro]) (wr := [sdA ro cA 48 F]) (k := 0) (n := 0) X Z (met_to l D f t) rfl q39 q41 qs1 q3 q42 (by decide +kernel) rfl (by first | exact Nat.le_of_ble_eq_true rfl | (dsimp only; omega)) (by first | exact Nat.le_of_ble_eq_true rfl | (dsimp only; omega)) [0] [1] [] (by decide) rfl rfl rfl (by decide) (by decide) rfl hl.1 rfl (Nat.le_of_ble_eq_true rfl) dX1_reverse_14 (by first | exact Nat.le_of_ble_eq_true rfl | (dsimp only; omega)) (by first | exact Nat.le_of_ble_eq_true rfl | (dsimp only; omega)) (by first | exact Nat.le_of_ble_eq_true rfl | (dsimp only; omega)) (by first | exact Nat.le_of_ble_eq_true rfl | (dsimp only; omega)) (fun q u H locs hq Z => ?_)
  obtain rfl : q = nI (tt f t) := hq
  have Z : sdZ D A s [sdO d ro, sdA ro cA 48 F] H locs := Z.sub [1, 0] (by decide) rfl rfl
  refine sdCall_sr (na := 3) (As := [.ref ro, .int (nI (fr f)), .int (nI (tt f t))]) (rest := []) (wr := [sdO d ro]) (k := 0) (n := 0) X Z (met_reverse l D (Nat.le_refl 48) hF htt.1 htt.2) q43 q44 q4 q45 (by decide +kernel) rfl (by first | exact Nat.le_of_ble_eq_true rfl | (dsimp only; omega)) (by first | exact Nat.le_of_ble_eq_true rfl | (dsimp only; omega)) [1] [0] [0] (by decide) rfl rfl rfl (by decide) (by decide) rfl hl.1 rfl (Nat.le_of_ble_eq_true rfl) dX1_reverse_17 (by first | exact Nat.le_of_ble_eq_true rfl | (dsimp only; omega)) (by first | exact Nat.le_of_ble_eq_true rfl | (dsimp only; omega)) (by first | exact Nat.le_of_ble_eq_true rfl | (dsimp only; omega)) (by first | exact Nat.le_of_ble_eq_true rfl | (dsimp only; omega)) (fun G r H locs hu X Z => ?_)
  refine lv_pop hx hb dX1_reverse_20 rfl ?_
  exact sdRet_v X hr hlk Z G hu [0, 1] (by decide) rfl rfl (Nat.le_refl _) (Nat.le_refl _) dX1_reverse_21
section
variable {p : Program} {l : Launch} {e : Env} {R : Room} {s : State} {m : MethodId} {args : Array Value} {below : List Frame} {meth : Method} {c : Code} {A : Nat → Prop} {Q : State → Prop} {D : va_G} {cells slots : Nat}
set_option maxHeartbeats 4000000 in
/-- find's look at the order -/
theorem lp_dfind {d ro : Nat} {cA : ClassId} {F : Nat → Int32} (hF : Sh F) {a b : Nat} {v : Int32} (hab : a ≤ b) (hb2 : b ≤ 48) (X : sdX p s m args c cX1_find 7 RX1 D [(cA, .short)] A)
    (k1 : ∀ (H : Heap) (locs : List Loc) (ls : Array Slot), ¬ SA F a b → sdZ D A s [sdO d ro, sdA ro cA 48 F] H locs → W p l e R s m args below meth c H locs cells slots Q (F0 m 50 ls [.int (-100)]))
    (k2 : ∀ (H : Heap) (locs : List Loc) (ls : Array Slot), SA F a b → sdZ D A s [sdO d ro, sdA ro cA 48 F] H locs → lv_has ls 7 [(0, .ref d), (3, .int v), (4, .int (nI a)), (5, .int (nI b))] → W p l e R s m args below meth c H locs cells slots Q (F0 m 57 ls [])) :
    ∀ (r i : Nat), a < i → i ≤ b + 1 → b < i + r → (∀ k, a ≤ k → k + 1 < i → (F k).toInt < (F (k + 1)).toInt) → ∀ (H : Heap) (locs : List Loc) (ls : Array Slot), sdZ D A s [sdO d ro, sdA ro cA 48 F] H locs → lv_has ls 7 [(0, .ref d), (3, .int v), (4, .int (nI a)), (5, .int (nI b)), (6, .int (nI i))] → W p l e R s m args below meth c H locs cells slots Q (F0 m 22 ls []) := by
  have hx := X.1.1
  have hb := X.1.2.1
  intro r
  induction r with
  | zero =>
    intro i h0 h1 h2 h3 H locs ls Z hl
    refine lv_iload hx hb dX1_find_22 (lv_at hl 4 rfl) ?_
    refine lv_iload hx hb dX1_find_24 (lv_at hl 3 rfl) ?_
    refine sd_nge (tgt := 57) hx hb dX1_find_26 (by decide) (by omega) (by omega) (fun h4 => ?_) (fun h4 => ?_)
    · exact k2 H locs ls (fun k q1 q2 => h3 k q1 (by omega)) Z (lv_sub hl [0, 1, 2, 3] rfl)
    · exact absurd h4 (by omega)
  | succ r ih =>
    intro i h0 h1 h2 h3 H locs ls Z hl
    refine lv_iload hx hb dX1_find_22 (lv_at hl 4 rfl) ?_
    refine lv_iload hx hb dX1_find_24 (lv_at hl 3 rfl) ?_
    refine sd_nge (tgt := 57) hx hb dX1_find_26 (by decide) (by omega) (by omega) (fun h4 => ?_) (fun h4 => ?_)
    · exact k2 H locs ls (fun k q1 q2 => h3 k q1 (by omega)) Z (lv_sub hl [0, 1, 2, 3] rfl)
    · refine lv_aload_n hx hb dX1_find_29 rfl (lv_at hl 0 rfl) ?_
      refine sd_row X Z 0 rfl dX1_find_30 ?_
      refine lv_iload hx hb dX1_find_33 (lv_at hl 4 rfl) ?_
      refine lv_iconst (v := nI 1) hx hb dX1_find_35 (by decide) ?_
      refine sd_isub (a := i) (b := 1) (k := i - 1) hx hb dX1_find_36 (by omega) rfl ?_
      refine sd_sld (k := i - 1) X Z 1 0 rfl rfl (by omega) (by omega) dX1_find_37 ?_
      refine lv_aload_n hx hb dX1_find_38 rfl (lv_at hl 0 rfl) ?_
      refine sd_row X Z 0 rfl dX1_find_39 ?_
      refine lv_iload hx hb dX1_find_42 (lv_at hl 4 rfl) ?_
      refine sd_sld (k := i) X Z 1 0 rfl rfl (by omega) (by omega) dX1_find_44 ?_
      refine sd_tlt (tgt := 51) hx hb dX1_find_45 (by decide) (fun h5 => ?_) (fun h5 => ?_)
      · refine lv_iinc (v := nI (i + 1)) (lv' := [(6, .int (nI (i + 1))), (0, .ref d), (3, .int v), (4, .int (nI a)), (5, .int (nI b))]) hx hb dX1_find_51 hl (k := 4) rfl (sd_inc _) (by decide) rfl (fun ls hl => ?_)
        refine lv_goto (tgt := 22) hx hb dX1_find_54 (by decide) ?_
        exact ih (i + 1) (by omega) (by omega) (by omega) (fun k q1 q2 => by
          by_cases q : k + 1 < i
          · exact h3 k q1 q
          · have e : k = i - 1 := by omega
            rw [e, show i - 1 + 1 = i by omega]; exact h5) H locs ls Z (lv_sub hl [1, 2, 3, 4, 0] rfl)
      · refine lv_bipush (v := -100) hx hb dX1_find_48 (by decide) ?_
        exact k1 H locs ls (fun q => by
          have := q (i - 1) (by omega) (by omega)
          rw [show i - 1 + 1 = i by omega] at this
          omega) Z
end
set_option maxHeartbeats 4000000 in
/-- find(f, t, v) -/
theorem met_dfind (l : Launch) (D : va_G) {d ro : Nat} {cA : ClassId} {F : Nat → Int32} (hF : Sh F) (f t v : Int32) : sdMi l yX1_find cX1_find 7 .int ({ frames := 1, cells := 0, slots := 0, locals := 25 } : Room) [.ref d, .int f, .int t, .int v] D [sdO d ro, sdA ro cA 48 F] [(cA, .short)] (fun (r : Int32) (_ : Unit) => FD F (fr f) (tt f t) v.toInt16.toInt32 r) (fun _ => [sdO d ro, sdA ro cA 48 F]) := by
  refine sdMi.of (by decide +kernel) (Nat.le_of_ble_eq_true rfl) ?_
  intro p e s m args below meth c A ls X hr hlk Z hl
  have X : sdX p s m args c cX1_find 7 RX1 D [(cA, .short)] A := X
  have hx := X.1.1
  have hb := X.1.2.1
  have hl : lv_has ls 7 [(0, .ref d), (1, .int f), (2, .int t), (3, .int v)] := hl
  have hfr := fr_le f
  have htt := tt_le f t
  refine lv_aload_n hx hb dX1_find_0 rfl (lv_at hl 0 rfl) ?_
  refine lv_iload_n hx hb dX1_find_1 rfl (lv_at hl 1 rfl) ?_
  refine sdCall_vi (q0 := 0) (na := 1) (As := [.int f]) (rest := []) (wr := [sdA ro cA 48 F]) (k := 0) (n := 0) X Z (met_from l D f) rfl q35 q37 qs0 q3 q38 (by decide +kernel) rfl (by first | exact Nat.le_of_ble_eq_true rfl | (dsimp only; omega)) (by first | exact Nat.le_of_ble_eq_true rfl | (dsimp only; omega)) [0] [1] [] (by decide) rfl rfl rfl (by decide) (by decide) rfl hl.1 rfl (Nat.le_of_ble_eq_true rfl) dX1_find_2 (by first | exact Nat.le_of_ble_eq_true rfl | (dsimp only; omega)) (by first | exact Nat.le_of_ble_eq_true rfl | (dsimp only; omega)) (by first | exact Nat.le_of_ble_eq_true rfl | (dsimp only; omega)) (by first | exact Nat.le_of_ble_eq_true rfl | (dsimp only; omega)) (fun q u H locs hq Z => ?_)
  obtain rfl : q = nI (fr f) := hq
  have Z : sdZ D A s [sdO d ro, sdA ro cA 48 F] H locs := Z.sub [1, 0] (by decide) rfl rfl
  refine lv_istore (lv' := [(4, .int (nI (fr f))), (0, .ref d), (1, .int f), (2, .int t), (3, .int v)]) hx hb dX1_find_5 hl (by decide) rfl (fun ls hl => ?_)
  refine lv_aload_n hx hb dX1_find_7 rfl (lv_at hl 1 rfl) ?_
  refine lv_iload hx hb dX1_find_8 (lv_at hl 0 rfl) ?_
  refine lv_iload_n hx hb dX1_find_10 rfl (lv_at hl 3 rfl) ?_
  refine sdCall_vi (q0 := 0) (na := 2) (As := [.int (nI (fr f)), .int t]) (rest := []) (wr := [sdA ro cA 48 F]) (k := 0) (n := 0) X Z (met_to l D f t) rfl q39 q41 qs1 q3 q42 (by decide +kernel) rfl (by first | exact Nat.le_of_ble_eq_true rfl | (dsimp only; omega)) (by first | exact Nat.le_of_ble_eq_true rfl | (dsimp only; omega)) [0] [1] [] (by decide) rfl rfl rfl (by decide) (by decide) rfl hl.1 rfl (Nat.le_of_ble_eq_true rfl) dX1_find_11 (by first | exact Nat.le_of_ble_eq_true rfl | (dsimp only; omega)) (by first | exact Nat.le_of_ble_eq_true rfl | (dsimp only; omega)) (by first | exact Nat.le_of_ble_eq_true rfl | (dsimp only; omega)) (by first | exact Nat.le_of_ble_eq_true rfl | (dsimp only; omega)) (fun q u H locs hq Z => ?_)
  obtain rfl : q = nI (tt f t) := hq
  have Z : sdZ D A s [sdO d ro, sdA ro cA 48 F] H locs := Z.sub [1, 0] (by decide) rfl rfl
  refine lv_istore (lv' := [(5, .int (nI (tt f t))), (4, .int (nI (fr f))), (0, .ref d), (1, .int f), (2, .int t), (3, .int v)]) hx hb dX1_find_14 hl (by decide) rfl (fun ls hl => ?_)
  refine lv_iload hx hb dX1_find_16 (lv_at hl 1 rfl) ?_
  refine lv_iconst (v := nI 1) hx hb dX1_find_18 (by decide) ?_
  refine sd_iadd (a := fr f) (b := 1) (k := (fr f) + 1) hx hb dX1_find_19 rfl ?_
  refine lv_istore (lv' := [(6, .int (nI ((fr f) + 1))), (5, .int (nI (tt f t))), (4, .int (nI (fr f))), (0, .ref d), (1, .int f), (2, .int t), (3, .int v)]) hx hb dX1_find_20 hl (by decide) rfl (fun ls hl => ?_)
  refine lp_dfind (v := v) hF htt.1 htt.2 X (fun H locs ls hs Z => ?_) (fun H locs ls hs Z hl => ?_) 49 (fr f + 1) (by omega) (by omega) (by omega) (fun k q1 q2 => by omega) _ _ ls Z (lv_sub hl [3, 6, 2, 1, 0] rfl)
  · exact sdRet_i X hr hlk rfl Z (()) (Or.inl ⟨hs, rfl⟩) [0, 1] (by decide) rfl rfl (Nat.zero_le _) (Nat.zero_le _) dX1_find_50
  · refine lv_aload_n hx hb dX1_find_57 rfl (lv_at hl 0 rfl) ?_
    refine sd_row X Z 0 rfl dX1_find_58 ?_
    refine lv_iload hx hb dX1_find_61 (lv_at hl 2 rfl) ?_
    refine lv_iload hx hb dX1_find_63 (lv_at hl 3 rfl) ?_
    refine lv_iload_n hx hb dX1_find_65 rfl (lv_at hl 1 rfl) ?_
    refine lv_i2s (v := v.toInt16.toInt32) hx hb dX1_find_66 rfl ?_
    refine sdCall_si (na := 4) (As := [.ref ro, .int (nI (fr f)), .int (nI (tt f t)), .int v.toInt16.toInt32]) (rest := []) (wr := [sdO d ro]) (k := 0) (n := 0) X Z (met_binarySearch l D (Nat.le_refl 48) hF htt.1 htt.2 hs) q50 q51 q4 q52 (by decide +kernel) rfl (by first | exact Nat.le_of_ble_eq_true rfl | (dsimp only; omega)) (by first | exact Nat.le_of_ble_eq_true rfl | (dsimp only; omega)) [1] [0] [0] (by decide) rfl rfl rfl (by decide) (by decide) rfl hl.1 rfl (Nat.le_of_ble_eq_true rfl) dX1_find_67 (by first | exact Nat.le_of_ble_eq_true rfl | (dsimp only; omega)) (by first | exact Nat.le_of_ble_eq_true rfl | (dsimp only; omega)) (by first | exact Nat.le_of_ble_eq_true rfl | (dsimp only; omega)) (by first | exact Nat.le_of_ble_eq_true rfl | (dsimp only; omega)) (fun q u H locs hq Z => ?_)
    exact sdRet_i X hr hlk rfl Z (()) (Or.inr ⟨hs, hq⟩) [0, 1] (by decide) rfl rfl (Nat.zero_le _) (Nat.zero_le _) dX1_find_70
end
section
/-! the law's own methods -/
set_option maxRecDepth 100000
set_option maxHeartbeats 4000000 in
/-- cell(s, k): some int -/
theorem met_cell (l : Launch) (D : va_G) {b L : Nat} {xs : Nat → Int32} (hL : L ≤ 96) (k : Nat) (hk : k < 96) : sdMs l yX0_cell cX0_cell 2 ({ frames := 0, cells := 0, slots := 0, locals := 0 } : Room) [.ref b, .int (nI k)] D b L xs := by
  refine sdMs.of (by decide +kernel) (Nat.le_of_ble_eq_true rfl) ?_
  intro p e s m args below meth c A ls X hr hlk hX hbl hbA Z hl
  have X : sdX p s m args c cX0_cell 2 RX0 D [] A := X
  have hx := X.1.1
  have hb := X.1.2.1
  have hl : lv_has ls 2 [(0, .ref b), (1, .int (nI k))] := hl
  refine lv_iload_n hx hb dX0_cell_0 rfl (lv_at hl 1 rfl) ?_
  refine lv_aload_n hx hb dX0_cell_1 rfl (lv_at hl 0 rfl) ?_
  refine va_slen hx hb hX hbl hbA Z.2.2 dX0_cell_2 ?_
  refine sd_top (y := nI L) rfl ?_
  refine sd_nge (tgt := 18) hx hb dX0_cell_3 (by decide) (by omega) (by omega) (fun h1 => ?_) (fun h1 => ?_)
  · refine lv_iconst (v := nI 0) hx hb dX0_cell_18 (by decide) ?_
    exact sdRet_i X hr hlk rfl Z (()) trivial [] (by decide) rfl rfl (Nat.zero_le _) (Nat.zero_le _) dX0_cell_19
  · refine lv_iload_n hx hb dX0_cell_6 rfl (lv_at hl 1 rfl) ?_
    refine lv_bipush (v := nI 96) hx hb dX0_cell_7 (by decide) ?_
    refine sd_nge (tgt := 18) hx hb dX0_cell_9 (by decide) (by omega) (by omega) (fun h2 => ?_) (fun h2 => ?_)
    · refine lv_iconst (v := nI 0) hx hb dX0_cell_18 (by decide) ?_
      exact sdRet_i X hr hlk rfl Z (()) trivial [] (by decide) rfl rfl (Nat.zero_le _) (Nat.zero_le _) dX0_cell_19
    · refine lv_aload_n hx hb dX0_cell_12 rfl (lv_at hl 0 rfl) ?_
      refine lv_iload_n hx hb dX0_cell_13 rfl (lv_at hl 1 rfl) ?_
      refine va_sld hx hb hX hbl hbA Z.2.2 (vp_in_nI h1 (by omega)) dX0_cell_14 ?_
      refine lv_goto (tgt := 19) hx hb dX0_cell_15 (by decide) ?_
      exact sdRet_i X hr hlk rfl Z (()) trivial [] (by decide) rfl rfl (Nat.zero_le _) (Nat.zero_le _) dX0_cell_19
set_option maxHeartbeats 4000000 in
/-- bare(v) -/
theorem met_bare (l : Launch) (D : va_G) (v : Int32) : sdMi l yX0_bare cX0_bare 1 .int ({ frames := 0, cells := 0, slots := 0, locals := 0 } : Room) [.int v] D [] [] (fun (r : Int32) (_ : Unit) => r = nI (bre v)) (fun _ => []) := by
  refine sdMi.of (by decide +kernel) (Nat.le_of_ble_eq_true rfl) ?_
  intro p e s m args below meth c A ls X hr hlk Z hl
  have X : sdX p s m args c cX0_bare 1 RX0 D [] A := X
  have hx := X.1.1
  have hb := X.1.2.1
  have hl : lv_has ls 1 [(0, .int v)] := hl
  refine lv_iload_n hx hb dX0_bare_0 rfl (lv_at hl 0 rfl) ?_
  refine lv_ldc (own := RX0) (v := 2147483647) hx hb X.1.2.2.2.1 (X.1.2.2.2.2 _ q59) dX0_bare_1 ?_
  refine lv_iand hx hb dX0_bare_3 ?_
  refine sd_top (bre_and _) ?_
  exact sdRet_i X hr hlk rfl Z (()) rfl [] (by decide) rfl rfl (Nat.zero_le _) (Nat.zero_le _) dX0_bare_4
section
variable {p : Program} {l : Launch} {e : Env} {R : Room} {s : State} {m : MethodId} {args : Array Value} {below : List Frame} {meth : Method} {c : Code} {A : Nat → Prop} {Q : State → Prop} {D : va_G} {cells slots : Nat}
set_option maxHeartbeats 4000000 in
/-- alike's loop -/
theorem lp_alike {d ro x : Nat} {cA cB : ClassId} {F : Nat → Int32} (hF : Sh F) {v : Int32} (X : sdX p s m args c cX0_alike 4 RX0 D [(cA, .short), (cB, .short)] A) (hRf : 1 ≤ R.frames) (hRl : 21 ≤ R.locals) (hRc : cells ≤ R.cells) (hRs : slots ≤ R.slots)
    (kk : ∀ (H : Heap) (locs : List Loc) (ls : Array Slot), sdZ D A s [sdO d ro, sdA ro cA 48 F, sdA x cB 48 F] H locs → lv_has ls 4 [(0, .ref d), (1, .ref x), (2, .int v)] → W p l e R s m args below meth c H locs cells slots Q (F0 m 27 ls [])) :
    ∀ (r i : Nat), i ≤ 48 → 48 < i + r → ∀ (H : Heap) (locs : List Loc) (ls : Array Slot), sdZ D A s [sdO d ro, sdA ro cA 48 F, sdA x cB 48 F] H locs → lv_has ls 4 [(0, .ref d), (1, .ref x), (2, .int v), (3, .int (nI i))] → W p l e R s m args below meth c H locs cells slots Q (F0 m 2 ls []) := by
  have hx := X.1.1
  have hb := X.1.2.1
  intro r
  induction r with
  | zero =>
    intro i h0 h1
    exact absurd h1 (by omega)
  | succ r ih =>
    intro i h0 h1 H locs ls Z hl
    refine lv_iload_n hx hb dX0_alike_2 rfl (lv_at hl 3 rfl) ?_
    refine lv_bipush (v := nI 48) hx hb dX0_alike_3 (by decide) ?_
    refine sd_nge (tgt := 27) hx hb dX0_alike_5 (by decide) (by omega) (by omega) (fun h2 => ?_) (fun h2 => ?_)
    · exact kk H locs ls Z (lv_sub hl [0, 1, 2] rfl)
    · refine lv_aload_n hx hb dX0_alike_8 rfl (lv_at hl 0 rfl) ?_
      refine lv_iload_n hx hb dX0_alike_9 rfl (lv_at hl 3 rfl) ?_
      refine sdCall_vi (q0 := 0) (na := 1) (As := [.int (nI i)]) (rest := []) (wr := [sdA x cB 48 F]) (k := cells) (n := slots) X Z (met_get l D hF (nI i)) rfl q27 q28 q29 q3 q30 (by decide +kernel) rfl (by first | exact Nat.le_of_ble_eq_true rfl | (dsimp only; omega)) (by first | exact Nat.le_of_ble_eq_true rfl | (dsimp only; omega)) [0, 1] [2] [0] (by decide) rfl rfl rfl (by decide) (by decide) rfl hl.1 rfl (Nat.le_of_ble_eq_true rfl) dX0_alike_10 (by first | exact Nat.le_of_ble_eq_true rfl | (dsimp only; omega)) (by first | exact Nat.le_of_ble_eq_true rfl | (dsimp only; omega)) (by first | exact Nat.le_of_ble_eq_true rfl | (dsimp only; omega)) (by first | exact Nat.le_of_ble_eq_true rfl | (dsimp only; omega)) (fun q u H locs hq Z => ?_)
      have Z : sdZ D A s [sdO d ro, sdA ro cA 48 F, sdA x cB 48 F] H locs := Z.sub [1, 2, 0] (by decide) rfl rfl
      obtain rfl : q = F i := by rw [hq, bre_nI (by omega), Nat.mod_eq_of_lt (by omega)]
      refine lv_aload_n hx hb dX0_alike_13 rfl (lv_at hl 1 rfl) ?_
      refine lv_iload_n hx hb dX0_alike_14 rfl (lv_at hl 3 rfl) ?_
      refine sd_sld (k := i) X Z 2 1 rfl rfl (by omega) (by omega) dX0_alike_15 ?_
      refine sd_teq (tgt := 21) hx hb dX0_alike_16 (by decide) (fun h3 => ?_) (fun h3 => ?_)
      · refine lv_iinc (v := nI (i + 1)) (lv' := [(3, .int (nI (i + 1))), (0, .ref d), (1, .ref x), (2, .int v)]) hx hb dX0_alike_21 hl (k := 3) rfl (sd_inc _) (by decide) rfl (fun ls hl => ?_)
        refine lv_goto (tgt := 2) hx hb dX0_alike_24 (by decide) ?_
        exact ih (i + 1) (by omega) (by omega) H locs ls Z (lv_sub hl [1, 2, 3, 0] rfl)
      · exact absurd rfl h3
end
set_option maxHeartbeats 4000000 in
/-- alike: the rows are the same -/
theorem met_alike (l : Launch) (D : va_G) {d ro x : Nat} {cA cB : ClassId} {F : Nat → Int32} (hF : Sh F) (v : Int32) : sdMi l yX0_alike cX0_alike 4 .boolean ({ frames := 1, cells := 0, slots := 0, locals := 21 } : Room) [.ref d, .ref x, .int v] D [sdO d ro, sdA ro cA 48 F, sdA x cB 48 F] [(cA, .short), (cB, .short)] (fun (r : Int32) (_ : Unit) => r = 1) (fun _ => [sdO d ro, sdA ro cA 48 F, sdA x cB 48 F]) := by
  refine sdMi.of (by decide +kernel) (Nat.le_of_ble_eq_true rfl) ?_
  intro p e s m args below meth c A ls X hr hlk Z hl
  have X : sdX p s m args c cX0_alike 4 RX0 D [(cA, .short), (cB, .short)] A := X
  have hx := X.1.1
  have hb := X.1.2.1
  have hl : lv_has ls 4 [(0, .ref d), (1, .ref x), (2, .int v)] := hl
  refine lv_iconst (v := nI 0) hx hb dX0_alike_0 (by decide) ?_
  refine lv_istore_n (lv' := [(3, .int (nI 0)), (0, .ref d), (1, .ref x), (2, .int v)]) hx hb dX0_alike_1 rfl hl (by decide) rfl (fun ls hl => ?_)
  refine lp_alike hF X (Nat.le_refl _) (Nat.le_refl _) (Nat.le_refl _) (Nat.le_refl _) (fun H locs ls Z hl => ?_) 49 0 (by omega) (by omega) _ _ ls Z (lv_sub hl [1, 2, 3, 0] rfl)
  refine lv_aload_n hx hb dX0_alike_27 rfl (lv_at hl 0 rfl) ?_
  refine lv_iload_n hx hb dX0_alike_28 rfl (lv_at hl 2 rfl) ?_
  refine sdCall_vi (q0 := 0) (na := 1) (As := [.int v]) (rest := []) (wr := [sdA x cB 48 F]) (k := 0) (n := 0) X Z (met_get l D hF v) rfl q27 q28 q29 q3 q30 (by decide +kernel) rfl (by first | exact Nat.le_of_ble_eq_true rfl | (dsimp only; omega)) (by first | exact Nat.le_of_ble_eq_true rfl | (dsimp only; omega)) [0, 1] [2] [0] (by decide) rfl rfl rfl (by decide) (by decide) rfl hl.1 rfl (Nat.le_of_ble_eq_true rfl) dX0_alike_29 (by first | exact Nat.le_of_ble_eq_true rfl | (dsimp only; omega)) (by first | exact Nat.le_of_ble_eq_true rfl | (dsimp only; omega)) (by first | exact Nat.le_of_ble_eq_true rfl | (dsimp only; omega)) (by first | exact Nat.le_of_ble_eq_true rfl | (dsimp only; omega)) (fun q u H locs hq Z => ?_)
  have Z : sdZ D A s [sdO d ro, sdA ro cA 48 F, sdA x cB 48 F] H locs := Z.sub [1, 2, 0] (by decide) rfl rfl
  refine lv_aload_n hx hb dX0_alike_32 rfl (lv_at hl 1 rfl) ?_
  refine lv_iload_n hx hb dX0_alike_33 rfl (lv_at hl 2 rfl) ?_
  refine sdCall_si (na := 1) (As := [.int v]) (rest := [.ref x, .int q]) (wr := [sdO d ro, sdA ro cA 48 F, sdA x cB 48 F]) (k := 0) (n := 0) X Z (met_bare l D v) q56 q57 q2 q58 (by decide +kernel) rfl (by first | exact Nat.le_of_ble_eq_true rfl | (dsimp only; omega)) (by first | exact Nat.le_of_ble_eq_true rfl | (dsimp only; omega)) [] [0, 1, 2] [] (by decide) rfl rfl rfl (by decide) (by decide) rfl hl.1 rfl (Nat.le_of_ble_eq_true rfl) dX0_alike_34 (by first | exact Nat.le_of_ble_eq_true rfl | (dsimp only; omega)) (by first | exact Nat.le_of_ble_eq_true rfl | (dsimp only; omega)) (by first | exact Nat.le_of_ble_eq_true rfl | (dsimp only; omega)) (by first | exact Nat.le_of_ble_eq_true rfl | (dsimp only; omega)) (fun q2 u H locs hq2 Z => ?_)
  obtain rfl : q2 = nI (bre v) := hq2
  have Z : sdZ D A s [sdO d ro, sdA ro cA 48 F, sdA x cB 48 F] _ _ := Z
  refine lv_bipush (v := nI 48) hx hb dX0_alike_37 (by decide) ?_
  refine sd_irem (a := bre v) (d := 48) (k := (bre v) % 48) hx hb dX0_alike_39 (bre_lt _) (by omega) (by omega) rfl ?_
  refine sd_sld (k := (bre v) % 48) X Z 2 1 rfl rfl (by omega) (by omega) dX0_alike_40 ?_
  refine sd_tne (tgt := 48) hx hb dX0_alike_41 (by decide) (fun h3 => ?_) (fun h3 => ?_)
  · exact absurd (by rw [hq]) h3
  · refine lv_iconst (v := nI 1) hx hb dX0_alike_44 (by decide) ?_
    refine lv_goto (tgt := 49) hx hb dX0_alike_45 (by decide) ?_
    exact sdRet_i X hr hlk rfl Z (()) rfl [0, 1, 2] (by decide) rfl rfl (Nat.zero_le _) (Nat.zero_le _) dX0_alike_49
section
variable {p : Program} {l : Launch} {e : Env} {R : Room} {s : State} {m : MethodId} {args : Array Value} {below : List Frame} {meth : Method} {c : Code} {A : Nat → Prop} {Q : State → Prop} {D : va_G} {cells slots : Nat}
set_option maxHeartbeats 4000000 in
/-- the law's sort: how many go ahead of the number at i -/
theorem lp_sortIn {x n : Nat} {cA : ClassId} {F : Nat → Int32} (hn : n ≤ 48) (hF : Sh F) {a b i z : Nat} {cB : ClassId} {K : Nat → Int32} (hab : a ≤ b) (hb2 : b ≤ n) (hi : i < n) (X : sdX p s m args c cX0_sort 7 RX0 D [(cA, .short), (cB, .short)] A)
    (kk : ∀ (H : Heap) (locs : List Loc) (ls : Array Slot), sdZ D A s [sdA x cA n F, sdA z cB 48 K] H locs → lv_has ls 7 [(0, .ref x), (1, .int (nI a)), (2, .int (nI b)), (3, .ref z), (4, .int (nI i)), (5, .int (nI (ahd F a i (b - a))))] → W p l e R s m args below meth c H locs cells slots Q (F0 m 71 ls [])) :
    ∀ (r k : Nat), a + k ≤ b → b < a + k + r → ∀ (H : Heap) (locs : List Loc) (ls : Array Slot), sdZ D A s [sdA x cA n F, sdA z cB 48 K] H locs → lv_has ls 7 [(0, .ref x), (1, .int (nI a)), (2, .int (nI b)), (3, .ref z), (4, .int (nI i)), (5, .int (nI (ahd F a i k))), (6, .int (nI (a + k)))] → W p l e R s m args below meth c H locs cells slots Q (F0 m 20 ls []) := by
  have hx := X.1.1
  have hb := X.1.2.1
  intro r
  induction r with
  | zero =>
    intro k h0 h1
    exact absurd h1 (by omega)
  | succ r ih =>
    intro k h0 h1 H locs ls Z hl
    have hle := ahd_le F a i k
    have hsu := ahd_succ F a i k
    have go : ∀ (q : Nat) (H : Heap) (locs : List Loc) (ls : Array Slot), a + k < b → ahd F a i (k + 1) = ahd F a i k + q → sdZ D A s [sdA x cA n F, sdA z cB 48 K] H locs → lv_has ls 7 [(0, .ref x), (1, .int (nI a)), (2, .int (nI b)), (3, .ref z), (4, .int (nI i)), (5, .int (nI (ahd F a i k))), (6, .int (nI (a + k)))] → W p l e R s m args below meth c H locs cells slots Q (F0 m 62 ls [.int (nI q), .int (nI (ahd F a i k))]) := by
      intro q H locs ls h2 h3 Z hl
      refine sd_iadd (a := ahd F a i k) (b := q) (k := ahd F a i (k + 1)) hx hb dX0_sort_62 h3.symm ?_
      refine lv_istore (lv' := [(5, .int (nI (ahd F a i (k + 1)))), (0, .ref x), (1, .int (nI a)), (2, .int (nI b)), (3, .ref z), (4, .int (nI i)), (6, .int (nI (a + k)))]) hx hb dX0_sort_63 hl (by decide) rfl (fun ls hl => ?_)
      refine lv_iinc (v := nI (a + k + 1)) (lv' := [(6, .int (nI (a + k + 1))), (5, .int (nI (ahd F a i (k + 1)))), (0, .ref x), (1, .int (nI a)), (2, .int (nI b)), (3, .ref z), (4, .int (nI i))]) hx hb dX0_sort_65 hl (k := 6) rfl (sd_inc _) (by decide) rfl (fun ls hl => ?_)
      refine lv_goto (tgt := 20) hx hb dX0_sort_68 (by decide) ?_
      exact ih (k + 1) (by omega) (by omega) H locs ls Z (lv_sub hl [2, 3, 4, 5, 6, 1, 0] rfl)
    refine lv_iload hx hb dX0_sort_20 (lv_at hl 6 rfl) ?_
    refine lv_iload_n hx hb dX0_sort_22 rfl (lv_at hl 2 rfl) ?_
    refine sd_nge (tgt := 71) hx hb dX0_sort_23 (by decide) (by omega) (by omega) (fun h2 => ?_) (fun h2 => ?_)
    · have e : k = b - a := by omega
      rw [e] at hl
      exact kk H locs ls Z (lv_sub hl [0, 1, 2, 3, 4, 5] rfl)
    · refine lv_iload hx hb dX0_sort_26 (lv_at hl 5 rfl) ?_
      refine lv_aload_n hx hb dX0_sort_28 rfl (lv_at hl 0 rfl) ?_
      refine lv_iload hx hb dX0_sort_29 (lv_at hl 6 rfl) ?_
      refine sd_sld (k := a + k) X Z 0 0 rfl rfl (by omega) (by omega) dX0_sort_31 ?_
      refine lv_aload_n hx hb dX0_sort_32 rfl (lv_at hl 0 rfl) ?_
      refine lv_iload hx hb dX0_sort_33 (lv_at hl 4 rfl) ?_
      refine sd_sld (k := i) X Z 0 0 rfl rfl (by omega) (by omega) dX0_sort_35 ?_
      refine sd_tlt (tgt := 57) hx hb dX0_sort_36 (by decide) (fun h3 => ?_) (fun h3 => ?_)
      · refine lv_iconst (v := nI 1) hx hb dX0_sort_57 (by decide) ?_
        refine lv_goto (tgt := 62) hx hb dX0_sort_58 (by decide) ?_
        exact go 1 H locs ls h2 (by rw [hsu, if_pos (Or.inl h3)]) Z hl
      · refine lv_aload_n hx hb dX0_sort_39 rfl (lv_at hl 0 rfl) ?_
        refine lv_iload hx hb dX0_sort_40 (lv_at hl 6 rfl) ?_
        refine sd_sld (k := a + k) X Z 0 0 rfl rfl (by omega) (by omega) dX0_sort_42 ?_
        refine lv_aload_n hx hb dX0_sort_43 rfl (lv_at hl 0 rfl) ?_
        refine lv_iload hx hb dX0_sort_44 (lv_at hl 4 rfl) ?_
        refine sd_sld (k := i) X Z 0 0 rfl rfl (by omega) (by omega) dX0_sort_46 ?_
        refine sd_tne (tgt := 61) hx hb dX0_sort_47 (by decide) (fun h4 => ?_) (fun h4 => ?_)
        · refine lv_iconst (v := nI 0) hx hb dX0_sort_61 (by decide) ?_
          exact go 0 H locs ls h2 (by rw [hsu, if_neg (by omega)]) Z hl
        · refine lv_iload hx hb dX0_sort_50 (lv_at hl 6 rfl) ?_
          refine lv_iload hx hb dX0_sort_52 (lv_at hl 4 rfl) ?_
          refine sd_nge (tgt := 61) hx hb dX0_sort_54 (by decide) (by omega) (by omega) (fun h5 => ?_) (fun h5 => ?_)
          · refine lv_iconst (v := nI 0) hx hb dX0_sort_61 (by decide) ?_
            exact go 0 H locs ls h2 (by rw [hsu, if_neg (by omega)]) Z hl
          · refine lv_iconst (v := nI 1) hx hb dX0_sort_57 (by decide) ?_
            refine lv_goto (tgt := 62) hx hb dX0_sort_58 (by decide) ?_
            exact go 1 H locs ls h2 (by rw [hsu, if_pos (Or.inr ⟨h4, h5⟩)]) Z hl
set_option maxHeartbeats 4000000 in
/-- the law's sort: each number to its place -/
theorem lp_sort {x n : Nat} {cA : ClassId} {F : Nat → Int32} (hn : n ≤ 48) (hF : Sh F) {G : Nat → Int32} {a b z : Nat} {cB : ClassId} (hab : a ≤ b) (hb2 : b ≤ n) (hG : SO F G a b) (X : sdX p s m args c cX0_sort 7 RX0 D [(cA, .short), (cB, .short)] A)
    (kk : ∀ (K : Nat → Int32) (H : Heap) (locs : List Loc) (ls : Array Slot), Sh K → (∀ k, a ≤ k → k < b → K k = G k) → sdZ D A s [sdA x cA n F, sdA z cB 48 K] H locs → lv_has ls 7 [(0, .ref x), (1, .int (nI a)), (2, .int (nI b)), (3, .ref z)] → W p l e R s m args below meth c H locs cells slots Q (F0 m 87 ls [])) :
    ∀ (r i : Nat) (K : Nat → Int32), a ≤ i → i ≤ b → b < i + r → Sh K → (∀ j, a ≤ j → j < i → K (a + ahd F a j (b - a)) = G (a + ahd F a j (b - a))) → ∀ (H : Heap) (locs : List Loc) (ls : Array Slot), sdZ D A s [sdA x cA n F, sdA z cB 48 K] H locs → lv_has ls 7 [(0, .ref x), (1, .int (nI a)), (2, .int (nI b)), (3, .ref z), (4, .int (nI i))] → W p l e R s m args below meth c H locs cells slots Q (F0 m 8 ls []) := by
  have hx := X.1.1
  have hb := X.1.2.1
  intro r
  induction r with
  | zero =>
    intro i K h0 h1 h2
    exact absurd h2 (by omega)
  | succ r ih =>
    intro i K h0 h1 h2 hK h3 H locs ls Z hl
    refine lv_iload hx hb dX0_sort_8 (lv_at hl 4 rfl) ?_
    refine lv_iload_n hx hb dX0_sort_10 rfl (lv_at hl 2 rfl) ?_
    refine sd_nge (tgt := 87) hx hb dX0_sort_11 (by decide) (by omega) (by omega) (fun h4 => ?_) (fun h4 => ?_)
    · exact kk K H locs ls hK (fun k k1 k2 => by
        obtain ⟨j, j1, j2, j3⟩ := ahd_on hG k1 k2
        have := h3 j j1 (by omega)
        rw [j3] at this
        exact this) Z (lv_sub hl [0, 1, 2, 3] rfl)
    · refine lv_iconst (v := nI 0) hx hb dX0_sort_14 (by decide) ?_
      refine lv_istore (lv' := [(5, .int (nI 0)), (0, .ref x), (1, .int (nI a)), (2, .int (nI b)), (3, .ref z), (4, .int (nI i))]) hx hb dX0_sort_15 hl (by decide) rfl (fun ls hl => ?_)
      refine lv_iload_n hx hb dX0_sort_17 rfl (lv_at hl 2 rfl) ?_
      refine lv_istore (lv' := [(6, .int (nI a)), (5, .int (nI 0)), (0, .ref x), (1, .int (nI a)), (2, .int (nI b)), (3, .ref z), (4, .int (nI i))]) hx hb dX0_sort_18 hl (by decide) rfl (fun ls hl => ?_)
      obtain ⟨p1, p2⟩ := ahd_put hG h0 h4
      refine lp_sortIn (a := a) (b := b) (i := i) (K := K) hn hF hab hb2 (by omega) X (fun H locs ls Z hl => ?_) (b - a + 1) 0 (by omega) (by omega) H locs ls Z (lv_sub hl [2, 3, 4, 5, 6, 1, 0] rfl)
      refine lv_aload_n hx hb dX0_sort_71 rfl (lv_at hl 3 rfl) ?_
      refine lv_iload_n hx hb dX0_sort_72 rfl (lv_at hl 1 rfl) ?_
      refine lv_iload hx hb dX0_sort_73 (lv_at hl 5 rfl) ?_
      refine sd_iadd (a := a) (b := ahd F a i (b - a)) (k := a + (ahd F a i (b - a))) hx hb dX0_sort_75 rfl ?_
      refine lv_aload_n hx hb dX0_sort_76 rfl (lv_at hl 0 rfl) ?_
      refine lv_iload hx hb dX0_sort_77 (lv_at hl 4 rfl) ?_
      refine sd_sld (k := i) X Z 0 0 rfl rfl (by omega) (by omega) dX0_sort_79 ?_
      refine sd_sst (k := a + (ahd F a i (b - a))) (v := F i) X Z 1 1 rfl rfl (by omega) (by omega) (hF i) dX0_sort_80 (fun H locs Z => ?_)
      have Z : sdZ D A s [sdA x cA n F, sdA z cB 48 (upd K (a + (ahd F a i (b - a))) (F i))] _ _ := Z
      refine lv_iinc (v := nI (i + 1)) (lv' := [(4, .int (nI (i + 1))), (0, .ref x), (1, .int (nI a)), (2, .int (nI b)), (3, .ref z), (5, .int (nI (ahd F a i (b - a))))]) hx hb dX0_sort_81 hl (k := 4) rfl (sd_inc _) (by decide) rfl (fun ls hl => ?_)
      refine lv_goto (tgt := 8) hx hb dX0_sort_84 (by decide) ?_
      exact ih (i + 1) _ (by omega) (by omega) (by omega) (hK.up (hF i)) (fun j j1 j2 => by
        rw [upd_at]
        by_cases q : a + ahd F a j (b - a) = a + ahd F a i (b - a)
        · rw [if_pos q, q]; exact p2.symm
        · rw [if_neg q]
          have : j ≠ i := fun e => q (by rw [e])
          exact h3 j j1 (by omega)) H locs ls Z (lv_sub hl [1, 2, 3, 4, 0] rfl)
set_option maxHeartbeats 4000000 in
/-- the law's sort: the sorted numbers back -/
theorem lp_sortBack {x n : Nat} {cA : ClassId} {F : Nat → Int32} (hn : n ≤ 48) (hF : Sh F) {G K : Nat → Int32} {a b z : Nat} {cB : ClassId} (hab : a ≤ b) (hb2 : b ≤ n) (hG : SO F G a b) (hK : Sh K) (hKG : ∀ k, a ≤ k → k < b → K k = G k) (X : sdX p s m args c cX0_sort 7 RX0 D [(cA, .short), (cB, .short)] A)
    (kk : ∀ (H : Heap) (locs : List Loc) (ls : Array Slot), sdZ D A s [sdA x cA n G, sdA z cB 48 K] H locs → W p l e R s m args below meth c H locs cells slots Q (F0 m 110 ls [])) :
    ∀ (r i : Nat) (E : Nat → Int32), a ≤ i → i ≤ b → b < i + r → (∀ k, a ≤ k → k < i → E k = G k) → (∀ k, k < a ∨ i ≤ k → E k = F k) → ∀ (H : Heap) (locs : List Loc) (ls : Array Slot), sdZ D A s [sdA x cA n E, sdA z cB 48 K] H locs → lv_has ls 7 [(0, .ref x), (2, .int (nI b)), (3, .ref z), (4, .int (nI i))] → W p l e R s m args below meth c H locs cells slots Q (F0 m 90 ls []) := by
  have hx := X.1.1
  have hb := X.1.2.1
  intro r
  induction r with
  | zero =>
    intro i E h0 h1 h2
    exact absurd h2 (by omega)
  | succ r ih =>
    intro i E h0 h1 h2 h3 h4 H locs ls Z hl
    refine lv_iload hx hb dX0_sort_90 (lv_at hl 3 rfl) ?_
    refine lv_iload_n hx hb dX0_sort_92 rfl (lv_at hl 1 rfl) ?_
    refine sd_nge (tgt := 110) hx hb dX0_sort_93 (by decide) (by omega) (by omega) (fun h5 => ?_) (fun h5 => ?_)
    · obtain rfl : i = b := by omega
      obtain rfl : E = G := hG.lay h3 h4
      exact kk H locs ls Z
    · refine lv_aload_n hx hb dX0_sort_96 rfl (lv_at hl 0 rfl) ?_
      refine lv_iload hx hb dX0_sort_97 (lv_at hl 3 rfl) ?_
      refine lv_aload_n hx hb dX0_sort_99 rfl (lv_at hl 2 rfl) ?_
      refine lv_iload hx hb dX0_sort_100 (lv_at hl 3 rfl) ?_
      refine sd_sld (k := i) X Z 1 1 rfl rfl (by omega) (by omega) dX0_sort_102 ?_
      refine sd_sst (k := i) (v := K i) X Z 0 0 rfl rfl (by omega) (by omega) (hK i) dX0_sort_103 (fun H locs Z => ?_)
      have Z : sdZ D A s [sdA x cA n (upd E i (K i)), sdA z cB 48 K] _ _ := Z
      refine lv_iinc (v := nI (i + 1)) (lv' := [(4, .int (nI (i + 1))), (0, .ref x), (2, .int (nI b)), (3, .ref z)]) hx hb dX0_sort_104 hl (k := 3) rfl (sd_inc _) (by decide) rfl (fun ls hl => ?_)
      refine lv_goto (tgt := 90) hx hb dX0_sort_107 (by decide) ?_
      exact ih (i + 1) _ (by omega) (by omega) (by omega) (fun k k1 k2 => by
        rw [upd_at]
        by_cases q : k = i
        · rw [if_pos q, hKG i h0 h5, q]
        · rw [if_neg q]; exact h3 k k1 (by omega)) (fun k k1 => by
        rw [upd_at, if_neg (by omega)]; exact h4 k (by omega)) H locs ls Z (lv_sub hl [1, 2, 3, 0] rfl)
end
set_option maxHeartbeats 4000000 in
/-- the law's sort, against a sorted row -/
theorem met_lsort (l : Launch) (D : va_G) {x n : Nat} {cA : ClassId} {F : Nat → Int32} (hn : n ≤ 48) (hF : Sh F) {G : Nat → Int32} {a b : Nat} (h1 : a ≤ b) (h2 : b ≤ n) (hG : SO F G a b) : sdMv l yX0_sort cX0_sort 7 ({ frames := 0, cells := 1, slots := 48, locals := 0 } : Room) [.ref x, .int (nI a), .int (nI b)] D [sdA x cA n F] [(cA, .short)] (fun K : Nat → Int32 => K = G) (fun K => [sdA x cA n K]) := by
  refine sdMv.of (by decide +kernel) (Nat.le_of_ble_eq_true rfl) ?_
  intro p e s m args below meth c A ls X hr hlk Z hl
  have X : sdX p s m args c cX0_sort 7 RX0 D [(cA, .short)] A := X
  have hx := X.1.1
  have hb := X.1.2.1
  have hl : lv_has ls 7 [(0, .ref x), (1, .int (nI a)), (2, .int (nI b))] := hl
  refine lv_bipush (v := nI 48) hx hb dX0_sort_0 (by decide) ?_
  refine sd_new X Z (n := 48) (by omega) (Nat.le_of_ble_eq_true rfl) (Nat.le_of_ble_eq_true rfl) dX0_sort_2 (fun z cB H X Z => ?_)
  have Z : sdZ D A s [sdA x cA n F, sdA z cB 48 (fun _ => 0)] _ _ := Z
  refine lv_astore_n (lv' := [(3, .ref z), (0, .ref x), (1, .int (nI a)), (2, .int (nI b))]) hx hb dX0_sort_4 rfl hl (by decide) rfl (fun ls hl => ?_)
  refine lv_iload_n hx hb dX0_sort_5 rfl (lv_at hl 2 rfl) ?_
  refine lv_istore (lv' := [(4, .int (nI a)), (3, .ref z), (0, .ref x), (1, .int (nI a)), (2, .int (nI b))]) hx hb dX0_sort_6 hl (by decide) rfl (fun ls hl => ?_)
  refine lp_sort (G := G) (a := a) (b := b) hn hF h1 h2 hG X (fun K H locs ls hK hKG Z hl => ?_) (b + 1) a _ (Nat.le_refl _) h1 (by omega) Sh.zero (fun j j1 j2 => by omega) _ _ ls Z (lv_sub hl [2, 3, 4, 1, 0] rfl)
  refine lv_iload_n hx hb dX0_sort_87 rfl (lv_at hl 1 rfl) ?_
  refine lv_istore (lv' := [(4, .int (nI a)), (0, .ref x), (1, .int (nI a)), (2, .int (nI b)), (3, .ref z)]) hx hb dX0_sort_88 hl (by decide) rfl (fun ls hl => ?_)
  refine lp_sortBack (G := G) (a := a) (b := b) hn hF h1 h2 hG hK hKG X (fun H locs ls Z => ?_) (b + 1) a F (Nat.le_refl _) h1 (by omega) (fun k k1 k2 => by omega) (fun k _ => rfl) _ _ ls Z (lv_sub hl [1, 3, 4, 0] rfl)
  exact sdRet_v X hr hlk Z G rfl [0] (by decide) rfl rfl (Nat.le_of_ble_eq_true rfl) (Nat.le_of_ble_eq_true rfl) dX0_sort_110
section
variable {p : Program} {l : Launch} {e : Env} {R : Room} {s : State} {m : MethodId} {args : Array Value} {below : List Frame} {meth : Method} {c : Code} {A : Nat → Prop} {Q : State → Prop} {D : va_G} {cells slots : Nat}
set_option maxHeartbeats 4000000 in
/-- turn's loop, k pairs done -/
theorem lp_turn {x n : Nat} {cA : ClassId} {F : Nat → Int32} (hn : n ≤ 48) (hF : Sh F) {a b : Nat} (hab : a ≤ b) (hb2 : b ≤ n) (X : sdX p s m args c cX0_turn 6 RX0 D [(cA, .short)] A)
    (kk : ∀ (H : Heap) (locs : List Loc) (ls : Array Slot), sdZ D A s [sdA x cA n (rvs F a b)] H locs → W p l e R s m args below meth c H locs cells slots Q (F0 m 40 ls [])) :
    ∀ (r k : Nat) (y : Int32), a + k ≤ b → b < a + k + r → y.toInt = (b : Int) - 1 - k → ∀ (H : Heap) (locs : List Loc) (ls : Array Slot), sdZ D A s [sdA x cA n (tvO F a b k)] H locs → lv_has ls 6 [(0, .ref x), (3, .int (nI (a + k))), (4, .int y)] → W p l e R s m args below meth c H locs cells slots Q (F0 m 7 ls []) := by
  have hx := X.1.1
  have hb := X.1.2.1
  intro r
  induction r with
  | zero =>
    intro k y h0 h1
    exact absurd h1 (by omega)
  | succ r ih =>
    intro k y h0 h1 h2 H locs ls Z hl
    have hT : Sh (tvO F a b k) := tvO_sh hF
    have e1 := nI_toInt (n := a + k) (by omega)
    refine lv_iload_n hx hb dX0_turn_7 rfl (lv_at hl 1 rfl) ?_
    refine lv_iload hx hb dX0_turn_8 (lv_at hl 2 rfl) ?_
    refine sd_tge (tgt := 40) hx hb dX0_turn_10 (by decide) (fun h3 => ?_) (fun h3 => ?_)
    · rw [tvO_end F (by omega) h0] at Z
      exact kk H locs ls Z
    · obtain rfl : y = nI (b - 1 - k) := i32_eq (by rw [h2, nI_toInt (by omega)]; omega)
      refine lv_aload_n hx hb dX0_turn_13 rfl (lv_at hl 0 rfl) ?_
      refine lv_iload_n hx hb dX0_turn_14 rfl (lv_at hl 1 rfl) ?_
      refine sd_sld (k := a + k) X Z 0 0 rfl rfl (by omega) (by omega) dX0_turn_15 ?_
      refine lv_istore (lv' := [(5, .int ((tvO F a b k) (a + k))), (0, .ref x), (3, .int (nI (a + k))), (4, .int (nI (b - 1 - k)))]) hx hb dX0_turn_16 hl (by decide) rfl (fun ls hl => ?_)
      refine lv_aload_n hx hb dX0_turn_18 rfl (lv_at hl 1 rfl) ?_
      refine lv_iload_n hx hb dX0_turn_19 rfl (lv_at hl 2 rfl) ?_
      refine lv_aload_n hx hb dX0_turn_20 rfl (lv_at hl 1 rfl) ?_
      refine lv_iload hx hb dX0_turn_21 (lv_at hl 3 rfl) ?_
      refine sd_sld (k := b - 1 - k) X Z 0 0 rfl rfl (by omega) (by omega) dX0_turn_23 ?_
      refine sd_sst (k := a + k) (v := (tvO F a b k) (b - 1 - k)) X Z 0 0 rfl rfl (by omega) (by omega) (hT _) dX0_turn_24 (fun H locs Z => ?_)
      have Z : sdZ D A s [sdA x cA n (upd (tvO F a b k) (a + k) ((tvO F a b k) (b - 1 - k)))] _ _ := Z
      refine lv_aload_n hx hb dX0_turn_25 rfl (lv_at hl 1 rfl) ?_
      refine lv_iload hx hb dX0_turn_26 (lv_at hl 3 rfl) ?_
      refine lv_iload hx hb dX0_turn_28 (lv_at hl 0 rfl) ?_
      refine sd_sst (k := b - 1 - k) (v := (tvO F a b k) (a + k)) X Z 0 0 rfl rfl (by omega) (by omega) (hT _) dX0_turn_30 (fun H locs Z => ?_)
      have Z : sdZ D A s [sdA x cA n (upd (upd (tvO F a b k) (a + k) ((tvO F a b k) (b - 1 - k))) (b - 1 - k) ((tvO F a b k) (a + k)))] _ _ := Z
      refine lv_iinc (v := nI (a + k + 1)) (lv' := [(3, .int (nI (a + k + 1))), (5, .int ((tvO F a b k) (a + k))), (0, .ref x), (4, .int (nI (b - 1 - k)))]) hx hb dX0_turn_31 hl (k := 2) rfl (sd_inc _) (by decide) rfl (fun ls hl => ?_)
      refine lv_iinc (v := nI (b - 1 - k) + Int32.ofInt (-1)) (lv' := (4, .int (nI (b - 1 - k) + Int32.ofInt (-1))) :: [(3, .int (nI (a + k + 1))), (5, .int ((tvO F a b k) (a + k))), (0, .ref x)]) hx hb dX0_turn_34 hl (k := 3) rfl rfl (by decide) rfl (fun ls hl => ?_)
      refine lv_goto (tgt := 7) hx hb dX0_turn_37 (by decide) ?_
      have Z : sdZ D A s [sdA x cA n (swp (tvO F a b k) (a + k) (b - 1 - k))] H locs := Z
      rw [tvO_step F (by omega)] at Z
      exact ih (k + 1) _ (by omega) (by omega) (by rw [sd_dect (by omega)]; omega) H locs ls Z (lv_sub hl [3, 1, 0] rfl)
end
set_option maxHeartbeats 4000000 in
/-- turn -/
theorem met_turn (l : Launch) (D : va_G) {x n : Nat} {cA : ClassId} {F : Nat → Int32} (hn : n ≤ 48) (hF : Sh F) {a b : Nat} (h1 : a ≤ b) (h2 : b ≤ n) : sdMv l yX0_turn cX0_turn 6 ({ frames := 0, cells := 0, slots := 0, locals := 0 } : Room) [.ref x, .int (nI a), .int (nI b)] D [sdA x cA n F] [(cA, .short)] (fun G : Nat → Int32 => G = rvs F a b) (fun G => [sdA x cA n G]) := by
  refine sdMv.of (by decide +kernel) (Nat.le_of_ble_eq_true rfl) ?_
  intro p e s m args below meth c A ls X hr hlk Z hl
  have X : sdX p s m args c cX0_turn 6 RX0 D [(cA, .short)] A := X
  have hx := X.1.1
  have hb := X.1.2.1
  have hl : lv_has ls 6 [(0, .ref x), (1, .int (nI a)), (2, .int (nI b))] := hl
  refine lv_iload_n hx hb dX0_turn_0 rfl (lv_at hl 1 rfl) ?_
  refine lv_istore_n (lv' := [(3, .int (nI a)), (0, .ref x), (1, .int (nI a)), (2, .int (nI b))]) hx hb dX0_turn_1 rfl hl (by decide) rfl (fun ls hl => ?_)
  refine lv_iload_n hx hb dX0_turn_2 rfl (lv_at hl 3 rfl) ?_
  refine lv_iconst (v := nI 1) hx hb dX0_turn_3 (by decide) ?_
  refine lv_isub hx hb dX0_turn_4 ?_
  refine lv_istore (lv' := [(4, .int ((nI b) - (nI 1))), (3, .int (nI a)), (0, .ref x), (1, .int (nI a)), (2, .int (nI b))]) hx hb dX0_turn_5 hl (by decide) rfl (fun ls hl => ?_)
  have e2 : (nI b - nI 1).toInt = (b : Int) - 1 - (0 : Nat) := by
    have := pk_sub_toInt (a := b) (b := 1) (by omega) (by omega)
    omega
  have Z : sdZ D A s [sdA x cA n (tvO F a b 0)] s.heap [] := by rw [tvO_start]; exact Z
  refine lp_turn hn hF h1 h2 X (fun H locs ls Z => ?_) (b + 1) 0 _ (by omega) (by omega) e2 _ _ ls Z (lv_sub hl [2, 1, 0] rfl)
  exact sdRet_v X hr hlk Z (rvs F a b) rfl [0] (by decide) rfl rfl (Nat.zero_le _) (Nat.zero_le _) dX0_turn_40
/-- the law's find: q numbers less than v, and whether v was met -/
def LF (F : Nat → Int32) (a i : Nat) (v : Int32) (q t : Nat) : Prop := (∀ k, a ≤ k → k + 1 < i → (F k).toInt < (F (k + 1)).toInt) ∧ a + q ≤ i ∧ (∀ k, a ≤ k → k < a + q → (F k).toInt < v.toInt) ∧ (∀ k, a + q ≤ k → k < i → v.toInt ≤ (F k).toInt) ∧ (t ≤ 1 ∧ (t = 1 ↔ ∃ k, a ≤ k ∧ k < i ∧ (F k).toInt = v.toInt))
theorem LF.start {F : Nat → Int32} {a : Nat} {v : Int32} : LF F a a v 0 0 := ⟨fun k _ _ => by omega, by omega, fun k _ _ => by omega, fun k _ _ => by omega, by omega, ⟨fun h => by omega, fun ⟨k, k1, k2, _⟩ => by omega⟩⟩
theorem LF.step {F : Nat → Int32} {a i : Nat} {v : Int32} {q t q2 t2 : Nat} (h : LF F a i v q t) (hi : a ≤ i) (ho : i = a ∨ (F (i - 1)).toInt < (F i).toInt) (hq : ((F i).toInt < v.toInt ∧ q2 = q + 1) ∨ (v.toInt ≤ (F i).toInt ∧ q2 = q)) (ht : t2 ≤ 1 ∧ (t2 = 1 ↔ (t = 1 ∨ (F i).toInt = v.toInt))) : LF F a (i + 1) v q2 t2 := by
  obtain ⟨h1, h2, h3, h4, h5, h6⟩ := h
  have o1 : ∀ k, a ≤ k → k + 1 < i + 1 → (F k).toInt < (F (k + 1)).toInt := by
    intro k k1 k2
    by_cases e : k + 1 < i
    · exact h1 k k1 e
    · rcases ho with w | w
      · omega
      · have e2 : k = i - 1 := by omega
        rw [e2, show i - 1 + 1 = i by omega]; exact w
  refine ⟨o1, ?_, ?_, ?_, ht.1, ?_⟩
  · rcases hq with ⟨_, e⟩ | ⟨_, e⟩ <;> omega
  · intro k k1 k2
    rcases hq with ⟨w, e⟩ | ⟨w, e⟩
    · have hs : SA F a (i + 1) := o1
      by_cases c : k = i
      · rw [c]; exact w
      · have := hs.lt' k1 (show k < i by omega) (by omega)
        omega
    · exact h3 k k1 (by omega)
  · intro k k1 k2
    rcases hq with ⟨w, e⟩ | ⟨w, e⟩
    · by_cases c : k = i
      · exfalso
        by_cases c2 : a + q < i
        · have hs : SA F a (i + 1) := o1
          have g1 := h4 (i - 1) (by omega) (by omega)
          have g2 := hs.lt' (show a ≤ i - 1 by omega) (show i - 1 < i by omega) (by omega)
          omega
        · omega
      · exact h4 k (by omega) (by omega)
    · by_cases c : k = i
      · rw [c]; exact w
      · exact h4 k (by omega) (by omega)
  · rw [ht.2, h6]
    constructor
    · rintro (⟨k, k1, k2, k3⟩ | e)
      · exact ⟨k, k1, by omega, k3⟩
      · exact ⟨i, hi, by omega, e⟩
    · rintro ⟨k, k1, k2, k3⟩
      by_cases c : k = i
      · rw [c] at k3; exact Or.inr k3
      · exact Or.inl ⟨k, k1, by omega, k3⟩
theorem LF.yes {F : Nat → Int32} {a b : Nat} {v : Int32} {q : Nat} (h : LF F a b v q 1) : FD F a b v (nI (a + q)) := by
  obtain ⟨h1, h2, h3, h4, h5, h6⟩ := h
  obtain ⟨k, k1, k2, k3⟩ := h6.mp rfl
  have hs : SA F a b := h1
  refine Or.inr ⟨hs, Or.inl ⟨a + q, by omega, ?_, ?_, rfl⟩⟩
  · rcases Nat.lt_or_ge (a + q) b with c | c
    · exact c
    · have := h3 k k1 (by omega); omega
  · by_cases c : k < a + q
    · have := h3 k k1 c; omega
    · by_cases c2 : k = a + q
      · rw [← c2]; exact k3
      · have g1 := h4 (a + q) (Nat.le_refl _) (by omega)
        have g2 := hs.lt' (show a ≤ a + q by omega) (show a + q < k by omega) k2
        omega
theorem LF.no {F : Nat → Int32} {a b : Nat} {v : Int32} {q t : Nat} (h : LF F a b v q t) (ht : t ≠ 1) : FD F a b v (-(nI (a + q)) - nI 1) := by
  obtain ⟨h1, h2, h3, h4, h5, h6⟩ := h
  have hs : SA F a b := h1
  refine Or.inr ⟨hs, Or.inr ⟨a + q, by omega, h2, h3, fun j j1 j2 => ?_, ?_⟩⟩
  · have g1 := h4 j j1 j2
    rcases Int.lt_or_eq_of_le g1 with w | w
    · exact w
    · exact absurd (h6.mpr ⟨j, by omega, j2, w.symm⟩) ht
  · show -(nI (a + q)) - (1 : Int32) = -(nI (a + q) + 1)
    grind
theorem LF.out {F : Nat → Int32} {a b i : Nat} {v : Int32} (hi : a < i) (hib : i < b) (hge : (F i).toInt ≤ (F (i - 1)).toInt) : FD F a b v (-100) := Or.inl ⟨fun hs => by
  have := hs (i - 1) (by omega) (by omega)
  rw [show i - 1 + 1 = i by omega] at this
  omega, rfl⟩
section
variable {p : Program} {l : Launch} {e : Env} {R : Room} {s : State} {m : MethodId} {args : Array Value} {below : List Frame} {meth : Method} {c : Code} {A : Nat → Prop} {Q : State → Prop} {D : va_G} {cells slots : Nat}
set_option maxHeartbeats 4000000 in
/-- the law's find: its loop -/
theorem lp_lfind {x n : Nat} {cA : ClassId} {F : Nat → Int32} (hn : n ≤ 48) (hF : Sh F) {a b : Nat} {v : Int32} (hab : a ≤ b) (hb2 : b ≤ n) (X : sdX p s m args c cX0_find 7 RX0 D [(cA, .short)] A)
    (kk : ∀ (r : Int32) (pc : Nat) (H : Heap) (locs : List Loc) (ls : Array Slot), decode cX0_find pc = .ok (.ireturn, 1) → FD F a b v.toInt16.toInt32 r → sdZ D A s [sdA x cA n F] H locs → W p l e R s m args below meth c H locs cells slots Q (F0 m pc ls [.int r])) :
    ∀ (r i q t : Nat), a ≤ i → i ≤ b → b < i + r → LF F a i v.toInt16.toInt32 q t → ∀ (H : Heap) (locs : List Loc) (ls : Array Slot), sdZ D A s [sdA x cA n F] H locs → lv_has ls 7 [(0, .ref x), (1, .int (nI a)), (2, .int (nI b)), (3, .int v), (4, .int (nI q)), (5, .int (nI t)), (6, .int (nI i))] → W p l e R s m args below meth c H locs cells slots Q (F0 m 9 ls []) := by
  have hx := X.1.1
  have hb := X.1.2.1
  intro r
  induction r with
  | zero =>
    intro i q t h0 h1 h2
    exact absurd h2 (by omega)
  | succ r ih =>
    intro i q t h0 h1 h2 h3 H locs ls Z hl
    have hq := h3.2.1
    have ht := h3.2.2.2.2.1
    have g3 : ∀ (q2 t2 : Nat) (H : Heap) (locs : List Loc) (ls : Array Slot), i < b → (i = a ∨ (F (i - 1)).toInt < (F i).toInt) → (((F i).toInt < v.toInt16.toInt32.toInt ∧ q2 = q + 1) ∨ (v.toInt16.toInt32.toInt ≤ (F i).toInt ∧ q2 = q)) → (t2 ≤ 1 ∧ (t2 = 1 ↔ (t = 1 ∨ (F i).toInt = v.toInt16.toInt32.toInt))) → sdZ D A s [sdA x cA n F] H locs → lv_has ls 7 [(0, .ref x), (1, .int (nI a)), (2, .int (nI b)), (3, .int v), (4, .int (nI q2)), (5, .int (nI t)), (6, .int (nI i))] → W p l e R s m args below meth c H locs cells slots Q (F0 m 75 ls [.int (nI t2)]) := by
      intro q2 t2 H locs ls u1 u2 u3 u4 Z hl
      refine lv_istore (lv' := [(5, .int (nI t2)), (0, .ref x), (1, .int (nI a)), (2, .int (nI b)), (3, .int v), (4, .int (nI q2)), (6, .int (nI i))]) hx hb dX0_find_75 hl (by decide) rfl (fun ls hl => ?_)
      refine lv_iinc (v := nI (i + 1)) (lv' := [(6, .int (nI (i + 1))), (5, .int (nI t2)), (0, .ref x), (1, .int (nI a)), (2, .int (nI b)), (3, .int v), (4, .int (nI q2))]) hx hb dX0_find_77 hl (k := 6) rfl (sd_inc _) (by decide) rfl (fun ls hl => ?_)
      refine lv_goto (tgt := 9) hx hb dX0_find_80 (by decide) ?_
      exact ih (i + 1) q2 t2 (by omega) (by omega) (by omega) (h3.step h0 u2 u3 u4) H locs ls Z (lv_sub hl [2, 3, 4, 5, 6, 1, 0] rfl)
    have g2 : ∀ (e2 : Nat) (H : Heap) (locs : List Loc) (ls : Array Slot), i < b → (i = a ∨ (F (i - 1)).toInt < (F i).toInt) → (((F i).toInt < v.toInt16.toInt32.toInt ∧ e2 = 1) ∨ (v.toInt16.toInt32.toInt ≤ (F i).toInt ∧ e2 = 0)) → sdZ D A s [sdA x cA n F] H locs → lv_has ls 7 [(0, .ref x), (1, .int (nI a)), (2, .int (nI b)), (3, .int v), (4, .int (nI q)), (5, .int (nI t)), (6, .int (nI i))] → W p l e R s m args below meth c H locs cells slots Q (F0 m 53 ls [.int (nI e2), .int (nI q)]) := by
      intro e2 H locs ls u1 u2 u3 Z hl
      have e1 := nI_toInt (n := t) (by omega)
      refine sd_iadd (a := q) (b := e2) (k := q + e2) hx hb dX0_find_53 rfl ?_
      refine lv_istore (lv' := [(4, .int (nI (q + e2))), (0, .ref x), (1, .int (nI a)), (2, .int (nI b)), (3, .int v), (5, .int (nI t)), (6, .int (nI i))]) hx hb dX0_find_54 hl (by decide) rfl (fun ls hl => ?_)
      refine lv_iload hx hb dX0_find_56 (lv_at hl 5 rfl) ?_
      refine sd_zne (tgt := 70) hx hb dX0_find_58 (by decide) (fun h4 => ?_) (fun h4 => ?_)
      · refine lv_iconst (v := nI 1) hx hb dX0_find_70 (by decide) ?_
        refine lv_goto (tgt := 75) hx hb dX0_find_71 (by decide) ?_
        exact g3 (q + e2) 1 H locs ls u1 u2 (by omega) (by omega) Z (lv_sub hl [1, 2, 3, 4, 0, 5, 6] rfl)
      · refine lv_aload_n hx hb dX0_find_61 rfl (lv_at hl 1 rfl) ?_
        refine lv_iload hx hb dX0_find_62 (lv_at hl 6 rfl) ?_
        refine sd_sld (k := i) X Z 0 0 rfl rfl (by omega) (by omega) dX0_find_64 ?_
        refine lv_iload_n hx hb dX0_find_65 rfl (lv_at hl 4 rfl) ?_
        refine lv_i2s (v := v.toInt16.toInt32) hx hb dX0_find_66 rfl ?_
        refine sd_tne (tgt := 74) hx hb dX0_find_67 (by decide) (fun h5 => ?_) (fun h5 => ?_)
        · refine lv_iconst (v := nI 0) hx hb dX0_find_74 (by decide) ?_
          exact g3 (q + e2) 0 H locs ls u1 u2 (by omega) (by omega) Z (lv_sub hl [1, 2, 3, 4, 0, 5, 6] rfl)
        · refine lv_iconst (v := nI 1) hx hb dX0_find_70 (by decide) ?_
          refine lv_goto (tgt := 75) hx hb dX0_find_71 (by decide) ?_
          exact g3 (q + e2) 1 H locs ls u1 u2 (by omega) (by omega) Z (lv_sub hl [1, 2, 3, 4, 0, 5, 6] rfl)
    have g1 : ∀ (H : Heap) (locs : List Loc) (ls : Array Slot), i < b → (i = a ∨ (F (i - 1)).toInt < (F i).toInt) → sdZ D A s [sdA x cA n F] H locs → lv_has ls 7 [(0, .ref x), (1, .int (nI a)), (2, .int (nI b)), (3, .int v), (4, .int (nI q)), (5, .int (nI t)), (6, .int (nI i))] → W p l e R s m args below meth c H locs cells slots Q (F0 m 37 ls []) := by
      intro H locs ls u1 u2 Z hl
      refine lv_iload hx hb dX0_find_37 (lv_at hl 4 rfl) ?_
      refine lv_aload_n hx hb dX0_find_39 rfl (lv_at hl 0 rfl) ?_
      refine lv_iload hx hb dX0_find_40 (lv_at hl 6 rfl) ?_
      refine sd_sld (k := i) X Z 0 0 rfl rfl (by omega) (by omega) dX0_find_42 ?_
      refine lv_iload_n hx hb dX0_find_43 rfl (lv_at hl 3 rfl) ?_
      refine lv_i2s (v := v.toInt16.toInt32) hx hb dX0_find_44 rfl ?_
      refine sd_tge (tgt := 52) hx hb dX0_find_45 (by decide) (fun h4 => ?_) (fun h4 => ?_)
      · refine lv_iconst (v := nI 0) hx hb dX0_find_52 (by decide) ?_
        exact g2 0 H locs ls u1 u2 (Or.inr ⟨h4, rfl⟩) Z hl
      · refine lv_iconst (v := nI 1) hx hb dX0_find_48 (by decide) ?_
        refine lv_goto (tgt := 53) hx hb dX0_find_49 (by decide) ?_
        exact g2 1 H locs ls u1 u2 (Or.inl ⟨h4, rfl⟩) Z hl
    refine lv_iload hx hb dX0_find_9 (lv_at hl 6 rfl) ?_
    refine lv_iload_n hx hb dX0_find_11 rfl (lv_at hl 2 rfl) ?_
    refine sd_nge (tgt := 83) hx hb dX0_find_12 (by decide) (by omega) (by omega) (fun h4 => ?_) (fun h4 => ?_)
    · obtain rfl : i = b := by omega
      have e1 := nI_toInt (n := t) (by omega)
      refine lv_iload hx hb dX0_find_83 (lv_at hl 5 rfl) ?_
      refine sd_zeq (tgt := 95) hx hb dX0_find_85 (by decide) (fun h5 => ?_) (fun h5 => ?_)
      · refine lv_iload_n hx hb dX0_find_95 rfl (lv_at hl 1 rfl) ?_
        refine lv_iload hx hb dX0_find_96 (lv_at hl 4 rfl) ?_
        refine sd_iadd (a := a) (b := q) (k := a + q) hx hb dX0_find_98 rfl ?_
        refine lv_ineg hx hb dX0_find_99 ?_
        refine lv_iconst (v := nI 1) hx hb dX0_find_100 (by decide) ?_
        refine lv_isub hx hb dX0_find_101 ?_
        exact kk _ _ H locs ls dX0_find_102 (h3.no (by omega)) Z
      · refine lv_iload_n hx hb dX0_find_88 rfl (lv_at hl 1 rfl) ?_
        refine lv_iload hx hb dX0_find_89 (lv_at hl 4 rfl) ?_
        refine sd_iadd (a := a) (b := q) (k := a + q) hx hb dX0_find_91 rfl ?_
        refine lv_goto (tgt := 102) hx hb dX0_find_92 (by decide) ?_
        obtain rfl : t = 1 := by omega
        exact kk _ _ H locs ls dX0_find_102 h3.yes Z
    · refine lv_iload hx hb dX0_find_15 (lv_at hl 6 rfl) ?_
      refine lv_iload_n hx hb dX0_find_17 rfl (lv_at hl 1 rfl) ?_
      refine sd_nle (tgt := 37) hx hb dX0_find_18 (by decide) (by omega) (by omega) (fun h5 => ?_) (fun h5 => ?_)
      · exact g1 H locs ls h4 (Or.inl (by omega)) Z hl
      · refine lv_aload_n hx hb dX0_find_21 rfl (lv_at hl 0 rfl) ?_
        refine lv_iload hx hb dX0_find_22 (lv_at hl 6 rfl) ?_
        refine lv_iconst (v := nI 1) hx hb dX0_find_24 (by decide) ?_
        refine sd_isub (a := i) (b := 1) (k := i - 1) hx hb dX0_find_25 (by omega) rfl ?_
        refine sd_sld (k := i - 1) X Z 0 0 rfl rfl (by omega) (by omega) dX0_find_26 ?_
        refine lv_aload_n hx hb dX0_find_27 rfl (lv_at hl 0 rfl) ?_
        refine lv_iload hx hb dX0_find_28 (lv_at hl 6 rfl) ?_
        refine sd_sld (k := i) X Z 0 0 rfl rfl (by omega) (by omega) dX0_find_30 ?_
        refine sd_tlt (tgt := 37) hx hb dX0_find_31 (by decide) (fun h6 => ?_) (fun h6 => ?_)
        · exact g1 H locs ls h4 (Or.inr h6) Z hl
        · refine lv_bipush (v := -100) hx hb dX0_find_34 (by decide) ?_
          exact kk _ _ H locs ls dX0_find_36 (LF.out h5 h4 h6) Z
end
set_option maxHeartbeats 4000000 in
/-- the law's find -/
theorem met_lfind (l : Launch) (D : va_G) {x n : Nat} {cA : ClassId} {F : Nat → Int32} (hn : n ≤ 48) (hF : Sh F) {a b : Nat} (v : Int32) (h1 : a ≤ b) (h2 : b ≤ n) : sdMi l yX0_find cX0_find 7 .int ({ frames := 0, cells := 0, slots := 0, locals := 0 } : Room) [.ref x, .int (nI a), .int (nI b), .int v] D [sdA x cA n F] [(cA, .short)] (fun (r : Int32) (_ : Unit) => FD F a b v.toInt16.toInt32 r) (fun _ => [sdA x cA n F]) := by
  refine sdMi.of (by decide +kernel) (Nat.le_of_ble_eq_true rfl) ?_
  intro p e s m args below meth c A ls X hr hlk Z hl
  have X : sdX p s m args c cX0_find 7 RX0 D [(cA, .short)] A := X
  have hx := X.1.1
  have hb := X.1.2.1
  have hl : lv_has ls 7 [(0, .ref x), (1, .int (nI a)), (2, .int (nI b)), (3, .int v)] := hl
  refine lv_iconst (v := nI 0) hx hb dX0_find_0 (by decide) ?_
  refine lv_istore (lv' := [(4, .int (nI 0)), (0, .ref x), (1, .int (nI a)), (2, .int (nI b)), (3, .int v)]) hx hb dX0_find_1 hl (by decide) rfl (fun ls hl => ?_)
  refine lv_iconst (v := nI 0) hx hb dX0_find_3 (by decide) ?_
  refine lv_istore (lv' := [(5, .int (nI 0)), (4, .int (nI 0)), (0, .ref x), (1, .int (nI a)), (2, .int (nI b)), (3, .int v)]) hx hb dX0_find_4 hl (by decide) rfl (fun ls hl => ?_)
  refine lv_iload_n hx hb dX0_find_6 rfl (lv_at hl 3 rfl) ?_
  refine lv_istore (lv' := [(6, .int (nI a)), (5, .int (nI 0)), (4, .int (nI 0)), (0, .ref x), (1, .int (nI a)), (2, .int (nI b)), (3, .int v)]) hx hb dX0_find_7 hl (by decide) rfl (fun ls hl => ?_)
  exact lp_lfind hn hF h1 h2 X (fun r pc H locs ls hd hr2 Z => sdRet_i X hr hlk rfl Z () hr2 [0] (by decide) rfl rfl (Nat.zero_le _) (Nat.zero_le _) hd) (b + 1) a 0 0 (Nat.le_refl _) h1 (by omega) LF.start _ _ ls Z (lv_sub hl [3, 4, 5, 6, 2, 1, 0] rfl)
set_option maxHeartbeats 4000000 in
/-- sorts: by one of the three -/
theorem met_sorts (l : Launch) (D : va_G) {d ro : Nat} {cA : ClassId} {F : Nat → Int32} (hF : Sh F) (how f t : Int32) : sdMv l yX0_sorts cX0_sorts 4 ({ frames := 43, cells := 1, slots := 48, locals := 1275 } : Room) [.ref d, .int how, .int f, .int t] D [sdO d ro, sdA ro cA 48 F] [(cA, .short)] (fun G : Nat → Int32 => SO F G (fr f) (tt f t)) (fun G => [sdO d ro, sdA ro cA 48 G]) := by
  refine sdMv.of (by decide +kernel) (Nat.le_of_ble_eq_true rfl) ?_
  intro p e s m args below meth c A ls X hr hlk Z hl
  have X : sdX p s m args c cX0_sorts 4 RX0 D [(cA, .short)] A := X
  have hx := X.1.1
  have hb := X.1.2.1
  have hl : lv_has ls 4 [(0, .ref d), (1, .int how), (2, .int f), (3, .int t)] := hl
  refine lv_iload_n hx hb dX0_sorts_0 rfl (lv_at hl 1 rfl) ?_
  refine sd_zne (tgt := 13) hx hb dX0_sorts_1 (by decide) (fun h1 => ?_) (fun h1 => ?_)
  · refine lv_iload_n hx hb dX0_sorts_13 rfl (lv_at hl 1 rfl) ?_
    refine lv_iconst (v := nI 1) hx hb dX0_sorts_14 (by decide) ?_
    refine sd_tne (tgt := 27) hx hb dX0_sorts_15 (by decide) (fun h2 => ?_) (fun h2 => ?_)
    · refine lv_aload_n hx hb dX0_sorts_27 rfl (lv_at hl 0 rfl) ?_
      refine lv_iload_n hx hb dX0_sorts_28 rfl (lv_at hl 2 rfl) ?_
      refine lv_iload_n hx hb dX0_sorts_29 rfl (lv_at hl 3 rfl) ?_
      refine sdCall_vv (q0 := 0) (na := 2) (As := [.int f, .int t]) (rest := []) (wr := []) (k := 1) (n := 48) X Z (met_dradix l D hF f t) rfl q130 q131 q132 q3 q133 (by decide +kernel) rfl (by first | exact Nat.le_of_ble_eq_true rfl | (dsimp only; omega)) (by first | exact Nat.le_of_ble_eq_true rfl | (dsimp only; omega)) [0, 1] [] [0] (by decide) rfl rfl rfl (by decide) (by decide) rfl hl.1 rfl (Nat.le_of_ble_eq_true rfl) dX0_sorts_30 (by first | exact Nat.le_of_ble_eq_true rfl | (dsimp only; omega)) (by first | exact Nat.le_of_ble_eq_true rfl | (dsimp only; omega)) (by first | exact Nat.le_of_ble_eq_true rfl | (dsimp only; omega)) (by first | exact Nat.le_of_ble_eq_true rfl | (dsimp only; omega)) (fun G H locs hu Z => ?_)
      exact sdRet_v X hr hlk Z G hu [0, 1] (by decide) rfl rfl (Nat.le_refl _) (Nat.le_refl _) dX0_sorts_33
    · refine lv_aload_n hx hb dX0_sorts_18 rfl (lv_at hl 0 rfl) ?_
      refine lv_iload_n hx hb dX0_sorts_19 rfl (lv_at hl 2 rfl) ?_
      refine lv_iload_n hx hb dX0_sorts_20 rfl (lv_at hl 3 rfl) ?_
      refine sdCall_vv (q0 := 0) (na := 2) (As := [.int f, .int t]) (rest := []) (wr := []) (k := 1) (n := 48) X Z (met_dmerge l D hF f t) rfl q101 q102 q103 q3 q104 (by decide +kernel) rfl (by first | exact Nat.le_of_ble_eq_true rfl | (dsimp only; omega)) (by first | exact Nat.le_of_ble_eq_true rfl | (dsimp only; omega)) [0, 1] [] [0] (by decide) rfl rfl rfl (by decide) (by decide) rfl hl.1 rfl (Nat.le_of_ble_eq_true rfl) dX0_sorts_21 (by first | exact Nat.le_of_ble_eq_true rfl | (dsimp only; omega)) (by first | exact Nat.le_of_ble_eq_true rfl | (dsimp only; omega)) (by first | exact Nat.le_of_ble_eq_true rfl | (dsimp only; omega)) (by first | exact Nat.le_of_ble_eq_true rfl | (dsimp only; omega)) (fun G H locs hu Z => ?_)
      refine lv_goto (tgt := 33) hx hb dX0_sorts_24 (by decide) ?_
      exact sdRet_v X hr hlk Z G hu [0, 1] (by decide) rfl rfl (Nat.le_refl _) (Nat.le_refl _) dX0_sorts_33
  · refine lv_aload_n hx hb dX0_sorts_4 rfl (lv_at hl 0 rfl) ?_
    refine lv_iload_n hx hb dX0_sorts_5 rfl (lv_at hl 2 rfl) ?_
    refine lv_iload_n hx hb dX0_sorts_6 rfl (lv_at hl 3 rfl) ?_
    refine sdCall_vv (q0 := 0) (na := 2) (As := [.int f, .int t]) (rest := []) (wr := []) (k := 1) (n := 48) X Z (met_dquick l D hF f t) rfl q75 q76 q77 q3 q78 (by decide +kernel) rfl (by first | exact Nat.le_of_ble_eq_true rfl | (dsimp only; omega)) (by first | exact Nat.le_of_ble_eq_true rfl | (dsimp only; omega)) [0, 1] [] [0] (by decide) rfl rfl rfl (by decide) (by decide) rfl hl.1 rfl (Nat.le_of_ble_eq_true rfl) dX0_sorts_7 (by first | exact Nat.le_of_ble_eq_true rfl | (dsimp only; omega)) (by first | exact Nat.le_of_ble_eq_true rfl | (dsimp only; omega)) (by first | exact Nat.le_of_ble_eq_true rfl | (dsimp only; omega)) (by first | exact Nat.le_of_ble_eq_true rfl | (dsimp only; omega)) (fun G H locs hu Z => ?_)
    refine lv_goto (tgt := 33) hx hb dX0_sorts_10 (by decide) ?_
    exact sdRet_v X hr hlk Z G hu [0, 1] (by decide) rfl rfl (Nat.le_refl _) (Nat.le_refl _) dX0_sorts_33
end
section
/-! THE PLAIN LAW, 3: the multiples of 1000 -/
theorem fr_0 : fr (nI 0) = 0 := by decide +kernel
theorem tt_48 : tt (nI 0) (nI 48) = 48 := by decide +kernel
theorem fr_48 : fr (nI 48) = 48 := by decide +kernel
theorem tt_4 : tt (nI 48) (nI 0) = 48 := by decide +kernel
theorem seven_lt : ∀ i, i < 48 → fb_ct (fun k => decide (7 * k % 48 < i)) 48 = i := by decide +kernel
theorem seven_eq : ∀ i, i < 48 → fb_ct (fun k => decide (7 * k % 48 = i)) 48 = 1 := by decide +kernel
theorem seven_back : ∀ k, k < 48 → 7 * (7 * k % 48) % 48 = k := by decide +kernel
theorem seven_one : ∀ i, i < 48 → ∀ j, j < 48 → 7 * i % 48 = 7 * j % 48 → i = j := by decide +kernel
/-- laid in another order and sorted, each stands at its place -/
theorem mult_sorted {F G : Nat → Int32} (hF : ∀ j, j < 48 → (F (7 * j % 48)).toInt = 1000 * (j : Int) - 23000) (h : SO F G 0 48) : ∀ i, i < 48 → (G i).toInt = 1000 * (i : Int) - 23000 := by
  have hk : ∀ k, k < 48 → (F k).toInt = 1000 * ((7 * k % 48 : Nat) : Int) - 23000 := fun k hk => by
    have h1 := hF (7 * k % 48) (Nat.mod_lt _ (by decide))
    rw [seven_back k hk] at h1
    exact h1
  intro i hi
  have hv := hF i hi
  have e1 : ctR (ltP (F (7 * i % 48))) F 0 48 = fb_ct (fun k => decide (7 * k % 48 < i)) 48 := fb_ct_cong (fun k hk' => by
    show decide ((F (0 + k)).toInt < (F (7 * i % 48)).toInt) = decide (7 * k % 48 < i)
    rw [Nat.zero_add]
    exact decide_eq_decide.mpr (by rw [hk k hk', hv]; omega))
  have e2 : ctR (eqP (F (7 * i % 48))) F 0 48 = fb_ct (fun k => decide (7 * k % 48 = i)) 48 := fb_ct_cong (fun k hk' => by
    show decide ((F (0 + k)).toInt = (F (7 * i % 48)).toInt) = decide (7 * k % 48 = i)
    rw [Nat.zero_add]
    exact decide_eq_decide.mpr (by rw [hk k hk', hv]; omega))
  rw [seven_lt i hi] at e1
  rw [seven_eq i hi] at e2
  have p1 : ctR (ltP (F (7 * i % 48))) G 0 48 = ctR (ltP (F (7 * i % 48))) F 0 48 := h.1.2 (ltP (F (7 * i % 48)))
  have p2 : ctR (eqP (F (7 * i % 48))) G 0 48 = ctR (eqP (F (7 * i % 48))) F 0 48 := h.1.2 (eqP (F (7 * i % 48)))
  have e3 := sd_place (G := G) (a := 0) (b := 48) (r := i) (v := F (7 * i % 48)) h.2 (by omega) (by show ctR _ G 0 48 ≤ _; omega) (by show _ < ctR _ G 0 48 + ctR _ G 0 48; omega)
  rw [Nat.zero_add] at e3
  rw [e3, hv]
theorem mult_SA {G : Nat → Int32} (hG : ∀ i, i < 48 → (G i).toInt = 1000 * (i : Int) - 23000) : SA G 0 48 := fun k _ h => by
  rw [hG k (by omega), hG (k + 1) (by omega)]
  omega
theorem mult_at {G : Nat → Int32} (hG : ∀ i, i < 48 → (G i).toInt = 1000 * (i : Int) - 23000) {i : Nat} (hi : i < 48) {v : Int32} (hv : v.toInt = 1000 * (i : Int) - 23000) : FP G 0 48 v (nI i) := Or.inl ⟨i, Nat.zero_le _, hi, by rw [hG i hi, hv], rfl⟩
theorem mult_mid {G : Nat → Int32} (hG : ∀ i, i < 48 → (G i).toInt = 1000 * (i : Int) - 23000) {k : Nat} (hk : k ≤ 48) {v : Int32} (h1 : 1000 * (k : Int) - 24000 < v.toInt) (h2 : v.toInt < 1000 * (k : Int) - 23000) : FP G 0 48 v (-(nI k + 1)) :=
  Or.inr ⟨k, Nat.zero_le _, hk, fun j _ hj => by rw [hG j (by omega)]; omega, fun j j1 j2 => by rw [hG j j2]; omega, rfl⟩
theorem fd_at {G : Nat → Int32} {v r r0 : Int32} (hs : SA G 0 48) (hv : vp_nar .short v = v) (h : FD G (fr (nI 0)) (tt (nI 0) (nI 48)) v.toInt16.toInt32 r) (h0 : FP G 0 48 v r0) : r = r0 := by
  rw [vp_nar_short] at hv
  rw [fr_0, tt_48, hv] at h
  exact h.one (Or.inr ⟨hs, h0⟩)
theorem fd_end {G : Nat → Int32} {v r : Int32} (h : FD G (fr (nI 48)) (tt (nI 48) (nI 0)) v r) : r = -(nI 48 + 1) := by
  rw [fr_48, tt_4] at h
  have hs : SA G 48 48 := fun k k1 k2 => by omega
  exact h.one (Or.inr ⟨hs, Or.inr ⟨48, Nat.le_refl _, Nat.le_refl _, fun j j1 j2 => by omega, fun j j1 j2 => by omega, rfl⟩⟩)
end
section
/-! THE LAW's loops -/
set_option maxRecDepth 100000
section
variable {p : Program} {l : Launch} {e : Env} {R : Room} {s : State} {m : MethodId} {args : Array Value} {below : List Frame} {meth : Method} {c : Code} {A : Nat → Prop} {Q : State → Prop} {D : va_G} {cells slots : Nat}

set_option maxHeartbeats 4000000 in
/-- the law's first loop: both rows set from the script -/
theorem lp_lset {b L : Nat} {xs : Nat → Int32} (hL : L ≤ 96) (hX : va_X b L xs s s.heap) (hbl : b < s.heap.size) (hbA : ¬ A b) {d ro x : Nat} {cA cB : ClassId} (X : sdX p s m args c cL_law 11 RX0 D [(cA, .short), (cB, .short)] A) (hRc : cells ≤ 1200000) (hRs : slots ≤ 5502250)
    (kk : ∀ (F : Nat → Int32) (H : Heap) (locs : List Loc) (ls : Array Slot), Sh F → sdZ D A s [sdO d ro, sdA ro cA 48 F, sdA x cB 48 F] H locs → lv_has ls 11 [(0, .ref b), (1, .ref d), (2, .ref x)] → W p l e room_1 s m args below meth c H locs cells slots Q (F0 m 104 ls [])) :
    ∀ (r i : Nat) (F : Nat → Int32), i ≤ 48 → 48 < i + r → Sh F → ∀ (H : Heap) (locs : List Loc) (ls : Array Slot), sdZ D A s [sdO d ro, sdA ro cA 48 F, sdA x cB 48 F] H locs → lv_has ls 11 [(0, .ref b), (1, .ref d), (2, .ref x), (3, .int (nI i))] → W p l e room_1 s m args below meth c H locs cells slots Q (F0 m 30 ls []) := by
  have hx := X.1.1
  have hb := X.1.2.1
  intro r
  induction r with
  | zero =>
    intro i F h0 h1
    exact absurd h1 (by omega)
  | succ r ih =>
    intro i F h0 h1 hF H locs ls Z hl
    refine lv_iload_n hx hb dL_law_30 rfl (lv_at hl 3 rfl) ?_
    refine lv_bipush (v := nI 48) hx hb dL_law_31 (by decide) ?_
    refine sd_nge (tgt := 104) hx hb dL_law_33 (by decide) (by omega) (by omega) (fun h2 => ?_) (fun h2 => ?_)
    · exact kk F H locs ls hF Z (lv_sub hl [0, 1, 2] rfl)
    · refine lv_aload_n hx hb dL_law_36 rfl (lv_at hl 0 rfl) ?_
      refine lv_iload_n hx hb dL_law_37 rfl (lv_at hl 3 rfl) ?_
      refine sdCall_s (na := 2) (As := [.ref b, .int (nI i)]) (rest := []) (k := cells) (n := slots) X Z (met_cell l D hL (i) (by omega)) hX hbl hbA q53 q54 q2 q55 (by decide +kernel) rfl (Nat.le_of_ble_eq_true rfl) (Nat.le_of_ble_eq_true rfl) [0, 1, 2] rfl (by decide) hl.1 rfl (Nat.le_of_ble_eq_true rfl) dL_law_38 (by first | exact Nat.le_of_ble_eq_true rfl | (dsimp only [room_1]; omega)) (by first | exact Nat.le_of_ble_eq_true rfl | (dsimp only [room_1]; omega)) (by first | exact Nat.le_of_ble_eq_true rfl | (dsimp only; omega)) (by first | exact Nat.le_of_ble_eq_true rfl | (dsimp only; omega)) (fun v H locs Z => ?_)
      refine lv_istore (lv' := [(4, .int v), (0, .ref b), (1, .ref d), (2, .ref x), (3, .int (nI i))]) hx hb dL_law_41 hl (by decide) rfl (fun ls hl => ?_)
      refine lv_aload_n hx hb dL_law_43 rfl (lv_at hl 2 rfl) ?_
      refine lv_iload_n hx hb dL_law_44 rfl (lv_at hl 4 rfl) ?_
      refine lv_iload hx hb dL_law_45 (lv_at hl 0 rfl) ?_
      refine lv_bipush (v := nI 20) hx hb dL_law_47 (by decide) ?_
      refine lv_ishr hx hb dL_law_49 ?_
      refine lv_iconst (v := nI 1) hx hb dL_law_50 (by decide) ?_
      refine lv_iand hx hb dL_law_51 ?_
      refine sd_zne (tgt := 60) hx hb dL_law_52 (by decide) (fun h3 => ?_) (fun h3 => ?_)
      · refine lv_iload hx hb dL_law_60 (lv_at hl 0 rfl) ?_
        refine lv_bipush (v := nI 16) hx hb dL_law_62 (by decide) ?_
        refine lv_ishr hx hb dL_law_64 ?_
        refine lv_bipush (v := nI 7) hx hb dL_law_65 (by decide) ?_
        refine lv_iand hx hb dL_law_67 ?_
        refine sdCall_vv (q0 := 0) (na := 2) (As := [.int (nI i), .int ((v >>> (nI 16 &&& 31)) &&& (nI 7))]) (rest := []) (wr := [sdA x cB 48 F]) (k := cells) (n := slots) X Z (met_set l D hF (nI i) ((v >>> (nI 16 &&& 31)) &&& (nI 7))) rfl q22 q23 q24 q3 q25 (by decide +kernel) rfl (by first | exact Nat.le_of_ble_eq_true rfl | (dsimp only; omega)) (by first | exact Nat.le_of_ble_eq_true rfl | (dsimp only; omega)) [0, 1] [2] [0] (by decide) rfl rfl rfl (by decide) (by decide) rfl hl.1 rfl (Nat.le_of_ble_eq_true rfl) dL_law_68 (by first | exact Nat.le_of_ble_eq_true rfl | (dsimp only [room_1]; omega)) (by first | exact Nat.le_of_ble_eq_true rfl | (dsimp only [room_1]; omega)) (by first | exact Nat.le_of_ble_eq_true rfl | (dsimp only; omega)) (by first | exact Nat.le_of_ble_eq_true rfl | (dsimp only; omega)) (fun G H locs hu Z => ?_)
        rw [bre_nI (by omega), Nat.mod_eq_of_lt (by omega)] at hu
        subst hu
        have Z : sdZ D A s [sdA x cB 48 F, sdO d ro, sdA ro cA 48 (upd F i ((v >>> (nI 16 &&& 31)) &&& (nI 7)).toInt16.toInt32)] _ _ := Z
        refine lv_aload_n hx hb dL_law_71 rfl (lv_at hl 3 rfl) ?_
        refine lv_iload_n hx hb dL_law_72 rfl (lv_at hl 4 rfl) ?_
        refine lv_iload hx hb dL_law_73 (lv_at hl 0 rfl) ?_
        refine lv_bipush (v := nI 20) hx hb dL_law_75 (by decide) ?_
        refine lv_ishr hx hb dL_law_77 ?_
        refine lv_iconst (v := nI 1) hx hb dL_law_78 (by decide) ?_
        refine lv_iand hx hb dL_law_79 ?_
        refine sd_zne (tgt := 88) hx hb dL_law_80 (by decide) (fun h4 => ?_) (fun h4 => ?_)
        · refine lv_iload hx hb dL_law_88 (lv_at hl 0 rfl) ?_
          refine lv_bipush (v := nI 16) hx hb dL_law_90 (by decide) ?_
          refine lv_ishr hx hb dL_law_92 ?_
          refine lv_bipush (v := nI 7) hx hb dL_law_93 (by decide) ?_
          refine lv_iand hx hb dL_law_95 ?_
          refine lv_i2s (v := ((v >>> (nI 16 &&& 31)) &&& (nI 7)).toInt16.toInt32) hx hb dL_law_96 rfl ?_
          refine sd_sst (k := i) (v := ((v >>> (nI 16 &&& 31)) &&& (nI 7)).toInt16.toInt32) X Z 0 1 rfl rfl (by omega) (by omega) (nar_cut _) dL_law_97 (fun H locs Z => ?_)
          have Z : sdZ D A s [sdA x cB 48 (upd F i (((v >>> (nI 16 &&& 31)) &&& (nI 7)).toInt16.toInt32)), sdO d ro, sdA ro cA 48 (upd F i ((v >>> (nI 16 &&& 31)) &&& (nI 7)).toInt16.toInt32)] _ _ := Z
          refine lv_iinc (v := nI (i + 1)) (lv' := [(3, .int (nI (i + 1))), (4, .int v), (0, .ref b), (1, .ref d), (2, .ref x)]) hx hb dL_law_98 hl (k := 4) rfl (sd_inc _) (by decide) rfl (fun ls hl => ?_)
          refine lv_goto (tgt := 30) hx hb dL_law_101 (by decide) ?_
          have Z : sdZ D A s [sdO d ro, sdA ro cA 48 (upd F i ((v >>> (nI 16 &&& 31)) &&& (nI 7)).toInt16.toInt32), sdA x cB 48 (upd F i ((v >>> (nI 16 &&& 31)) &&& (nI 7)).toInt16.toInt32)] H locs := Z.sub [1, 2, 0] (by decide) rfl rfl
          exact ih (i + 1) _ (by omega) (by omega) (hF.up (nar_cut _)) H locs ls Z (lv_sub hl [2, 3, 4, 0] rfl)
        · exact absurd h4 h3
      · refine lv_iload hx hb dL_law_55 (lv_at hl 0 rfl) ?_
        refine lv_goto (tgt := 68) hx hb dL_law_57 (by decide) ?_
        refine sdCall_vv (q0 := 0) (na := 2) (As := [.int (nI i), .int v]) (rest := []) (wr := [sdA x cB 48 F]) (k := cells) (n := slots) X Z (met_set l D hF (nI i) v) rfl q22 q23 q24 q3 q25 (by decide +kernel) rfl (by first | exact Nat.le_of_ble_eq_true rfl | (dsimp only; omega)) (by first | exact Nat.le_of_ble_eq_true rfl | (dsimp only; omega)) [0, 1] [2] [0] (by decide) rfl rfl rfl (by decide) (by decide) rfl hl.1 rfl (Nat.le_of_ble_eq_true rfl) dL_law_68 (by first | exact Nat.le_of_ble_eq_true rfl | (dsimp only [room_1]; omega)) (by first | exact Nat.le_of_ble_eq_true rfl | (dsimp only [room_1]; omega)) (by first | exact Nat.le_of_ble_eq_true rfl | (dsimp only; omega)) (by first | exact Nat.le_of_ble_eq_true rfl | (dsimp only; omega)) (fun G H locs hu Z => ?_)
        rw [bre_nI (by omega), Nat.mod_eq_of_lt (by omega)] at hu
        subst hu
        have Z : sdZ D A s [sdA x cB 48 F, sdO d ro, sdA ro cA 48 (upd F i v.toInt16.toInt32)] _ _ := Z
        refine lv_aload_n hx hb dL_law_71 rfl (lv_at hl 3 rfl) ?_
        refine lv_iload_n hx hb dL_law_72 rfl (lv_at hl 4 rfl) ?_
        refine lv_iload hx hb dL_law_73 (lv_at hl 0 rfl) ?_
        refine lv_bipush (v := nI 20) hx hb dL_law_75 (by decide) ?_
        refine lv_ishr hx hb dL_law_77 ?_
        refine lv_iconst (v := nI 1) hx hb dL_law_78 (by decide) ?_
        refine lv_iand hx hb dL_law_79 ?_
        refine sd_zne (tgt := 88) hx hb dL_law_80 (by decide) (fun h4 => ?_) (fun h4 => ?_)
        · exact absurd h3 h4
        · refine lv_iload hx hb dL_law_83 (lv_at hl 0 rfl) ?_
          refine lv_goto (tgt := 96) hx hb dL_law_85 (by decide) ?_
          refine lv_i2s (v := v.toInt16.toInt32) hx hb dL_law_96 rfl ?_
          refine sd_sst (k := i) (v := v.toInt16.toInt32) X Z 0 1 rfl rfl (by omega) (by omega) (nar_cut _) dL_law_97 (fun H locs Z => ?_)
          have Z : sdZ D A s [sdA x cB 48 (upd F i v.toInt16.toInt32), sdO d ro, sdA ro cA 48 (upd F i v.toInt16.toInt32)] _ _ := Z
          refine lv_iinc (v := nI (i + 1)) (lv' := [(3, .int (nI (i + 1))), (4, .int v), (0, .ref b), (1, .ref d), (2, .ref x)]) hx hb dL_law_98 hl (k := 4) rfl (sd_inc _) (by decide) rfl (fun ls hl => ?_)
          refine lv_goto (tgt := 30) hx hb dL_law_101 (by decide) ?_
          have Z : sdZ D A s [sdO d ro, sdA ro cA 48 (upd F i v.toInt16.toInt32), sdA x cB 48 (upd F i v.toInt16.toInt32)] H locs := Z.sub [1, 2, 0] (by decide) rfl rfl
          exact ih (i + 1) _ (by omega) (by omega) (hF.up (nar_cut _)) H locs ls Z (lv_sub hl [2, 3, 4, 0] rfl)
set_option maxHeartbeats 4000000 in
/-- the law's inner loop: both find each number of the range -/
theorem lp_lin {b k : Nat} {f t : Int32} {F : Nat → Int32} (hF : Sh F) {d ro x : Nat} {cA cB : ClassId} (X : sdX p s m args c cL_law 11 RX0 D [(cA, .short), (cB, .short)] A) (hRc : cells ≤ 1200000) (hRs : slots ≤ 5502250)
    (kk : ∀ (H : Heap) (locs : List Loc) (ls : Array Slot), sdZ D A s [sdO d ro, sdA ro cA 48 F, sdA x cB 48 F] H locs → lv_has ls 11 [(0, .ref b), (1, .ref d), (2, .ref x), (3, .int (nI k))] → W p l e room_1 s m args below meth c H locs cells slots Q (F0 m 376 ls [])) :
    ∀ (r i : Nat), i ≤ tt f t → tt f t < i + r → ∀ (H : Heap) (locs : List Loc) (ls : Array Slot), sdZ D A s [sdO d ro, sdA ro cA 48 F, sdA x cB 48 F] H locs → lv_has ls 11 [(0, .ref b), (1, .ref d), (2, .ref x), (3, .int (nI k)), (5, .int f), (6, .int t), (7, .int (nI (fr f))), (8, .int (nI (tt f t))), (10, .int (nI i))] → W p l e room_1 s m args below meth c H locs cells slots Q (F0 m 334 ls []) := by
  have hx := X.1.1
  have hb := X.1.2.1
  have htt := tt_le f t
  intro r
  induction r with
  | zero =>
    intro i h0 h1
    exact absurd h1 (by omega)
  | succ r ih =>
    intro i h0 h1 H locs ls Z hl
    refine lv_iload hx hb dL_law_334 (lv_at hl 8 rfl) ?_
    refine lv_iload hx hb dL_law_336 (lv_at hl 7 rfl) ?_
    refine sd_nge (tgt := 376) hx hb dL_law_338 (by decide) (by omega) (by omega) (fun h2 => ?_) (fun h2 => ?_)
    · exact kk H locs ls Z (lv_sub hl [0, 1, 2, 3] rfl)
    · refine lv_aload_n hx hb dL_law_341 rfl (lv_at hl 1 rfl) ?_
      refine lv_iload hx hb dL_law_342 (lv_at hl 4 rfl) ?_
      refine lv_iload hx hb dL_law_344 (lv_at hl 5 rfl) ?_
      refine lv_aload_n hx hb dL_law_346 rfl (lv_at hl 2 rfl) ?_
      refine lv_iload hx hb dL_law_347 (lv_at hl 8 rfl) ?_
      refine sd_sld (k := i) X Z 2 1 rfl rfl (by omega) (by omega) dL_law_349 ?_
      refine sdCall_vi (q0 := 0) (na := 3) (As := [.int f, .int t, .int (F i)]) (rest := []) (wr := [sdA x cB 48 F]) (k := cells) (n := slots) X Z (met_dfind l D hF f t (F i)) rfl q46 q47 q48 q3 q49 (by decide +kernel) rfl (by first | exact Nat.le_of_ble_eq_true rfl | (dsimp only; omega)) (by first | exact Nat.le_of_ble_eq_true rfl | (dsimp only; omega)) [0, 1] [2] [0] (by decide) rfl rfl rfl (by decide) (by decide) rfl hl.1 rfl (Nat.le_of_ble_eq_true rfl) dL_law_350 (by first | exact Nat.le_of_ble_eq_true rfl | (dsimp only [room_1]; omega)) (by first | exact Nat.le_of_ble_eq_true rfl | (dsimp only [room_1]; omega)) (by first | exact Nat.le_of_ble_eq_true rfl | (dsimp only; omega)) (by first | exact Nat.le_of_ble_eq_true rfl | (dsimp only; omega)) (fun r1 u H locs hr1 Z => ?_)
      have Z : sdZ D A s [sdA x cB 48 F, sdO d ro, sdA ro cA 48 F] _ _ := Z
      refine lv_aload_n hx hb dL_law_353 rfl (lv_at hl 2 rfl) ?_
      refine lv_iload hx hb dL_law_354 (lv_at hl 6 rfl) ?_
      refine lv_iload hx hb dL_law_356 (lv_at hl 7 rfl) ?_
      refine lv_aload_n hx hb dL_law_358 rfl (lv_at hl 2 rfl) ?_
      refine lv_iload hx hb dL_law_359 (lv_at hl 8 rfl) ?_
      refine sd_sld (k := i) X Z 0 1 rfl rfl (by omega) (by omega) dL_law_361 ?_
      refine sdCall_si (na := 4) (As := [.ref x, .int (nI (fr f)), .int (nI (tt f t)), .int (F i)]) (rest := [.int r1]) (wr := [sdO d ro, sdA ro cA 48 F]) (k := cells) (n := slots) X Z (met_lfind l D (Nat.le_refl 48) hF (F i) htt.1 htt.2) q69 q70 q2 q71 (by decide +kernel) rfl (by first | exact Nat.le_of_ble_eq_true rfl | (dsimp only; omega)) (by first | exact Nat.le_of_ble_eq_true rfl | (dsimp only; omega)) [0] [1, 2] [1] (by decide) rfl rfl rfl (by decide) (by decide) rfl hl.1 rfl (Nat.le_of_ble_eq_true rfl) dL_law_362 (by first | exact Nat.le_of_ble_eq_true rfl | (dsimp only [room_1]; omega)) (by first | exact Nat.le_of_ble_eq_true rfl | (dsimp only [room_1]; omega)) (by first | exact Nat.le_of_ble_eq_true rfl | (dsimp only; omega)) (by first | exact Nat.le_of_ble_eq_true rfl | (dsimp only; omega)) (fun r2 u H locs hr2 Z => ?_)
      have Z : sdZ D A s [sdO d ro, sdA ro cA 48 F, sdA x cB 48 F] H locs := Z.sub [0, 1, 2] (by decide) rfl rfl
      refine sd_teq (tgt := 370) hx hb dL_law_365 (by decide) (fun h3 => ?_) (fun h3 => ?_)
      · refine lv_iinc (v := nI (i + 1)) (lv' := [(10, .int (nI (i + 1))), (0, .ref b), (1, .ref d), (2, .ref x), (3, .int (nI k)), (5, .int f), (6, .int t), (7, .int (nI (fr f))), (8, .int (nI (tt f t)))]) hx hb dL_law_370 hl (k := 8) rfl (sd_inc _) (by decide) rfl (fun ls hl => ?_)
        refine lv_goto (tgt := 334) hx hb dL_law_373 (by decide) ?_
        exact ih (i + 1) (by omega) (by omega) H locs ls Z (lv_sub hl [1, 2, 3, 4, 5, 6, 7, 8, 0] rfl)
      · exact absurd (by rw [hr1.one hr2]) h3
set_option maxHeartbeats 4000000 in
/-- behind each call: the rows alike, the answers the same -/
theorem lp_lcheck {b k : Nat} {w f t : Int32} {F : Nat → Int32} (hF : Sh F) {d ro x : Nat} {cA cB : ClassId} (X : sdX p s m args c cL_law 11 RX0 D [(cA, .short), (cB, .short)] A) (hRc : cells ≤ 1200000) (hRs : slots ≤ 5502250)
    (kk : ∀ (H : Heap) (locs : List Loc) (ls : Array Slot), sdZ D A s [sdO d ro, sdA ro cA 48 F, sdA x cB 48 F] H locs → lv_has ls 11 [(0, .ref b), (1, .ref d), (2, .ref x), (3, .int (nI k))] → W p l e room_1 s m args below meth c H locs cells slots Q (F0 m 376 ls [])) :
    ∀ (H : Heap) (locs : List Loc) (ls : Array Slot), sdZ D A s [sdO d ro, sdA ro cA 48 F, sdA x cB 48 F] H locs → lv_has ls 11 [(0, .ref b), (1, .ref d), (2, .ref x), (3, .int (nI k)), (4, .int w), (5, .int f), (6, .int t), (7, .int (nI (fr f))), (8, .int (nI (tt f t)))] → W p l e room_1 s m args below meth c H locs cells slots Q (F0 m 268 ls []) := by
  have hx := X.1.1
  have hb := X.1.2.1
  have htt := tt_le f t
  intro H locs ls Z hl
  refine lv_aload_n hx hb dL_law_268 rfl (lv_at hl 1 rfl) ?_
  refine lv_aload_n hx hb dL_law_269 rfl (lv_at hl 2 rfl) ?_
  refine lv_iload hx hb dL_law_270 (lv_at hl 4 rfl) ?_
  refine sdCall_si (na := 3) (As := [.ref d, .ref x, .int w]) (rest := []) (wr := []) (k := cells) (n := slots) X Z (met_alike l D hF w) q60 q61 q2 q62 (by decide +kernel) rfl (by first | exact Nat.le_of_ble_eq_true rfl | (dsimp only; omega)) (by first | exact Nat.le_of_ble_eq_true rfl | (dsimp only; omega)) [0, 1, 2] [] [0, 1] (by decide) rfl rfl rfl (by decide) (by decide) rfl hl.1 rfl (Nat.le_of_ble_eq_true rfl) dL_law_272 (by first | exact Nat.le_of_ble_eq_true rfl | (dsimp only [room_1]; omega)) (by first | exact Nat.le_of_ble_eq_true rfl | (dsimp only [room_1]; omega)) (by first | exact Nat.le_of_ble_eq_true rfl | (dsimp only; omega)) (by first | exact Nat.le_of_ble_eq_true rfl | (dsimp only; omega)) (fun q u H locs hq Z => ?_)
  have Z : sdZ D A s [sdO d ro, sdA ro cA 48 F, sdA x cB 48 F] _ _ := Z
  refine sd_zeq (tgt := 328) hx hb dL_law_275 (by decide) (fun h1 => ?_) (fun h1 => ?_)
  · exact absurd h1 (by rw [hq]; decide)
  · refine lv_aload_n hx hb dL_law_278 rfl (lv_at hl 1 rfl) ?_
    refine lv_iload hx hb dL_law_279 (lv_at hl 5 rfl) ?_
    refine lv_iload hx hb dL_law_281 (lv_at hl 6 rfl) ?_
    refine lv_iload hx hb dL_law_283 (lv_at hl 4 rfl) ?_
    refine lv_bipush (v := nI 8) hx hb dL_law_285 (by decide) ?_
    refine lv_ishr hx hb dL_law_287 ?_
    refine sdCall_vi (q0 := 0) (na := 3) (As := [.int f, .int t, .int (w >>> (nI 8 &&& 31))]) (rest := []) (wr := [sdA x cB 48 F]) (k := cells) (n := slots) X Z (met_dfind l D hF f t (w >>> (nI 8 &&& 31))) rfl q46 q47 q48 q3 q49 (by decide +kernel) rfl (by first | exact Nat.le_of_ble_eq_true rfl | (dsimp only; omega)) (by first | exact Nat.le_of_ble_eq_true rfl | (dsimp only; omega)) [0, 1] [2] [0] (by decide) rfl rfl rfl (by decide) (by decide) rfl hl.1 rfl (Nat.le_of_ble_eq_true rfl) dL_law_288 (by first | exact Nat.le_of_ble_eq_true rfl | (dsimp only [room_1]; omega)) (by first | exact Nat.le_of_ble_eq_true rfl | (dsimp only [room_1]; omega)) (by first | exact Nat.le_of_ble_eq_true rfl | (dsimp only; omega)) (by first | exact Nat.le_of_ble_eq_true rfl | (dsimp only; omega)) (fun r1 u H locs hr1 Z => ?_)
    have Z : sdZ D A s [sdA x cB 48 F, sdO d ro, sdA ro cA 48 F] _ _ := Z
    refine lv_aload_n hx hb dL_law_291 rfl (lv_at hl 2 rfl) ?_
    refine lv_iload hx hb dL_law_292 (lv_at hl 7 rfl) ?_
    refine lv_iload hx hb dL_law_294 (lv_at hl 8 rfl) ?_
    refine lv_iload hx hb dL_law_296 (lv_at hl 4 rfl) ?_
    refine lv_bipush (v := nI 8) hx hb dL_law_298 (by decide) ?_
    refine lv_ishr hx hb dL_law_300 ?_
    refine sdCall_si (na := 4) (As := [.ref x, .int (nI (fr f)), .int (nI (tt f t)), .int (w >>> (nI 8 &&& 31))]) (rest := [.int r1]) (wr := [sdO d ro, sdA ro cA 48 F]) (k := cells) (n := slots) X Z (met_lfind l D (Nat.le_refl 48) hF (w >>> (nI 8 &&& 31)) htt.1 htt.2) q69 q70 q2 q71 (by decide +kernel) rfl (by first | exact Nat.le_of_ble_eq_true rfl | (dsimp only; omega)) (by first | exact Nat.le_of_ble_eq_true rfl | (dsimp only; omega)) [0] [1, 2] [1] (by decide) rfl rfl rfl (by decide) (by decide) rfl hl.1 rfl (Nat.le_of_ble_eq_true rfl) dL_law_301 (by first | exact Nat.le_of_ble_eq_true rfl | (dsimp only [room_1]; omega)) (by first | exact Nat.le_of_ble_eq_true rfl | (dsimp only [room_1]; omega)) (by first | exact Nat.le_of_ble_eq_true rfl | (dsimp only; omega)) (by first | exact Nat.le_of_ble_eq_true rfl | (dsimp only; omega)) (fun r2 u H locs hr2 Z => ?_)
    have Z : sdZ D A s [sdO d ro, sdA ro cA 48 F, sdA x cB 48 F] H locs := Z.sub [0, 1, 2] (by decide) rfl rfl
    refine sd_tne (tgt := 328) hx hb dL_law_304 (by decide) (fun h2 => ?_) (fun h2 => ?_)
    · exact absurd (by rw [hr1.one hr2]) h2
    · refine lv_aload_n hx hb dL_law_307 rfl (lv_at hl 1 rfl) ?_
      refine lv_iconst (v := nI 0) hx hb dL_law_308 (by decide) ?_
      refine lv_bipush (v := nI 48) hx hb dL_law_309 (by decide) ?_
      refine lv_iload hx hb dL_law_311 (lv_at hl 4 rfl) ?_
      refine sdCall_vi (q0 := 0) (na := 3) (As := [.int (nI 0), .int (nI 48), .int w]) (rest := []) (wr := [sdA x cB 48 F]) (k := cells) (n := slots) X Z (met_dfind l D hF (nI 0) (nI 48) w) rfl q46 q47 q48 q3 q49 (by decide +kernel) rfl (by first | exact Nat.le_of_ble_eq_true rfl | (dsimp only; omega)) (by first | exact Nat.le_of_ble_eq_true rfl | (dsimp only; omega)) [0, 1] [2] [0] (by decide) rfl rfl rfl (by decide) (by decide) rfl hl.1 rfl (Nat.le_of_ble_eq_true rfl) dL_law_313 (by first | exact Nat.le_of_ble_eq_true rfl | (dsimp only [room_1]; omega)) (by first | exact Nat.le_of_ble_eq_true rfl | (dsimp only [room_1]; omega)) (by first | exact Nat.le_of_ble_eq_true rfl | (dsimp only; omega)) (by first | exact Nat.le_of_ble_eq_true rfl | (dsimp only; omega)) (fun r3 u H locs hr3 Z => ?_)
      have Z : sdZ D A s [sdA x cB 48 F, sdO d ro, sdA ro cA 48 F] _ _ := Z
      rw [fr_0, tt_48] at hr3
      refine lv_aload_n hx hb dL_law_316 rfl (lv_at hl 2 rfl) ?_
      refine lv_iconst (v := nI 0) hx hb dL_law_317 (by decide) ?_
      refine lv_bipush (v := nI 48) hx hb dL_law_318 (by decide) ?_
      refine lv_iload hx hb dL_law_320 (lv_at hl 4 rfl) ?_
      refine sdCall_si (na := 4) (As := [.ref x, .int (nI 0), .int (nI 48), .int w]) (rest := [.int r3]) (wr := [sdO d ro, sdA ro cA 48 F]) (k := cells) (n := slots) X Z (met_lfind l D (Nat.le_refl 48) hF w (Nat.zero_le 48) (Nat.le_refl 48)) q69 q70 q2 q71 (by decide +kernel) rfl (by first | exact Nat.le_of_ble_eq_true rfl | (dsimp only; omega)) (by first | exact Nat.le_of_ble_eq_true rfl | (dsimp only; omega)) [0] [1, 2] [1] (by decide) rfl rfl rfl (by decide) (by decide) rfl hl.1 rfl (Nat.le_of_ble_eq_true rfl) dL_law_322 (by first | exact Nat.le_of_ble_eq_true rfl | (dsimp only [room_1]; omega)) (by first | exact Nat.le_of_ble_eq_true rfl | (dsimp only [room_1]; omega)) (by first | exact Nat.le_of_ble_eq_true rfl | (dsimp only; omega)) (by first | exact Nat.le_of_ble_eq_true rfl | (dsimp only; omega)) (fun r4 u H locs hr4 Z => ?_)
      have Z : sdZ D A s [sdO d ro, sdA ro cA 48 F, sdA x cB 48 F] H locs := Z.sub [0, 1, 2] (by decide) rfl rfl
      refine sd_teq (tgt := 330) hx hb dL_law_325 (by decide) (fun h3 => ?_) (fun h3 => ?_)
      · refine lv_iload hx hb dL_law_330 (lv_at hl 7 rfl) ?_
        refine lv_istore (lv' := [(10, .int (nI (fr f))), (0, .ref b), (1, .ref d), (2, .ref x), (3, .int (nI k)), (4, .int w), (5, .int f), (6, .int t), (7, .int (nI (fr f))), (8, .int (nI (tt f t)))]) hx hb dL_law_332 hl (by decide) rfl (fun ls hl => ?_)
        exact lp_lin hF X hRc hRs kk (tt f t - fr f + 1) (fr f) htt.1 (by omega) H locs ls Z (lv_sub hl [1, 2, 3, 4, 6, 7, 8, 9, 0] rfl)
      · exact absurd (by rw [hr3.one hr4]) h3
set_option maxHeartbeats 4000000 in
/-- the law's sixteen calls -/
theorem lp_lmain {b L : Nat} {xs : Nat → Int32} (hL : L ≤ 96) (hX : va_X b L xs s s.heap) (hbl : b < s.heap.size) (hbA : ¬ A b) {d ro x : Nat} {cA cB : ClassId} (X : sdX p s m args c cL_law 11 RX0 D [(cA, .short), (cB, .short)] A)
    (kk : ∀ (F : Nat → Int32) (H : Heap) (locs : List Loc) (ls : Array Slot), Sh F → sdZ D A s [sdO d ro, sdA ro cA 48 F, sdA x cB 48 F] H locs → lv_has ls 11 [(0, .ref b), (1, .ref d), (2, .ref x)] → W p l e room_1 s m args below meth c H locs 35 1633 Q (F0 m 382 ls [])) :
    ∀ (r j : Nat) (F : Nat → Int32), j ≤ 16 → 16 < j + r → Sh F → ∀ (H : Heap) (locs : List Loc) (ls : Array Slot), sdZ D A s [sdO d ro, sdA ro cA 48 F, sdA x cB 48 F] H locs → lv_has ls 11 [(0, .ref b), (1, .ref d), (2, .ref x), (3, .int (nI (48 + 3 * j)))] → W p l e room_1 s m args below meth c H locs (3 + 2 * j) (97 + 96 * j) Q (F0 m 122 ls []) := by
  have hx := X.1.1
  have hb := X.1.2.1
  intro r
  induction r with
  | zero =>
    intro j F h0 h1
    exact absurd h1 (by omega)
  | succ r ih =>
    intro j F h0 h1 hF H locs ls Z hl
    have go : ∀ (w f t : Int32) (G : Nat → Int32) (H : Heap) (locs : List Loc) (ls : Array Slot), j < 16 → Sh G → sdZ D A s [sdO d ro, sdA ro cA 48 G, sdA x cB 48 G] H locs → lv_has ls 11 [(0, .ref b), (1, .ref d), (2, .ref x), (3, .int (nI (48 + 3 * j))), (4, .int w), (5, .int f), (6, .int t), (7, .int (nI (fr f))), (8, .int (nI (tt f t)))] → W p l e room_1 s m args below meth c H locs (3 + 2 * (j + 1)) (97 + 96 * (j + 1)) Q (F0 m 268 ls []) := by
      intro w f t G H locs ls hj hG Z hl
      refine lp_lcheck hG X (by omega) (by omega) (fun H locs ls Z hl => ?_) H locs ls Z hl
      refine lv_iinc (v := nI (48 + 3 * (j + 1))) (lv' := [(3, .int (nI (48 + 3 * (j + 1)))), (0, .ref b), (1, .ref d), (2, .ref x)]) hx hb dL_law_376 hl (k := 3) rfl (nI_add (48 + 3 * j) 3) (by decide) rfl (fun ls hl => ?_)
      refine lv_goto (tgt := 122) hx hb dL_law_379 (by decide) ?_
      exact ih (j + 1) G (by omega) (by omega) hG H locs ls Z (lv_sub hl [1, 2, 3, 0] rfl)
    refine lv_iload_n hx hb dL_law_122 rfl (lv_at hl 3 rfl) ?_
    refine lv_iconst (v := nI 2) hx hb dL_law_123 (by decide) ?_
    refine sd_iadd (a := 48 + 3 * j) (b := 2) (k := (48 + 3 * j) + 2) hx hb dL_law_124 rfl ?_
    refine lv_bipush (v := nI 96) hx hb dL_law_125 (by decide) ?_
    refine sd_nge (tgt := 382) hx hb dL_law_127 (by decide) (by omega) (by omega) (fun h2 => ?_) (fun h2 => ?_)
    · obtain rfl : j = 16 := by omega
      exact kk F H locs ls hF Z (lv_sub hl [0, 1, 2] rfl)
    · have hj : j < 16 := by omega
      refine lv_aload_n hx hb dL_law_130 rfl (lv_at hl 0 rfl) ?_
      refine lv_iload_n hx hb dL_law_131 rfl (lv_at hl 3 rfl) ?_
      refine sdCall_s (na := 2) (As := [.ref b, .int (nI (48 + 3 * j))]) (rest := []) (k := 3 + 2 * j) (n := 97 + 96 * j) X Z (met_cell l D hL (48 + 3 * j) (by omega)) hX hbl hbA q53 q54 q2 q55 (by decide +kernel) rfl (Nat.le_of_ble_eq_true rfl) (Nat.le_of_ble_eq_true rfl) [0, 1, 2] rfl (by decide) hl.1 rfl (Nat.le_of_ble_eq_true rfl) dL_law_132 (by first | exact Nat.le_of_ble_eq_true rfl | (dsimp only [room_1]; omega)) (by first | exact Nat.le_of_ble_eq_true rfl | (dsimp only [room_1]; omega)) (by first | exact Nat.le_of_ble_eq_true rfl | (dsimp only; omega)) (by first | exact Nat.le_of_ble_eq_true rfl | (dsimp only; omega)) (fun w H locs Z => ?_)
      refine lv_istore (lv' := [(4, .int w), (0, .ref b), (1, .ref d), (2, .ref x), (3, .int (nI (48 + 3 * j)))]) hx hb dL_law_135 hl (by decide) rfl (fun ls hl => ?_)
      refine lv_aload_n hx hb dL_law_137 rfl (lv_at hl 1 rfl) ?_
      refine lv_iload_n hx hb dL_law_138 rfl (lv_at hl 4 rfl) ?_
      refine lv_iconst (v := nI 1) hx hb dL_law_139 (by decide) ?_
      refine sd_iadd (a := 48 + 3 * j) (b := 1) (k := (48 + 3 * j) + 1) hx hb dL_law_140 rfl ?_
      refine sdCall_s (na := 2) (As := [.ref b, .int (nI ((48 + 3 * j) + 1))]) (rest := []) (k := 3 + 2 * j) (n := 97 + 96 * j) X Z (met_cell l D hL ((48 + 3 * j) + 1) (by omega)) hX hbl hbA q53 q54 q2 q55 (by decide +kernel) rfl (Nat.le_of_ble_eq_true rfl) (Nat.le_of_ble_eq_true rfl) [0, 1, 2] rfl (by decide) hl.1 rfl (Nat.le_of_ble_eq_true rfl) dL_law_141 (by first | exact Nat.le_of_ble_eq_true rfl | (dsimp only [room_1]; omega)) (by first | exact Nat.le_of_ble_eq_true rfl | (dsimp only [room_1]; omega)) (by first | exact Nat.le_of_ble_eq_true rfl | (dsimp only; omega)) (by first | exact Nat.le_of_ble_eq_true rfl | (dsimp only; omega)) (fun f H locs Z => ?_)
      refine lv_istore (lv' := [(5, .int f), (4, .int w), (0, .ref b), (1, .ref d), (2, .ref x), (3, .int (nI (48 + 3 * j)))]) hx hb dL_law_144 hl (by decide) rfl (fun ls hl => ?_)
      refine lv_aload_n hx hb dL_law_146 rfl (lv_at hl 2 rfl) ?_
      refine lv_iload_n hx hb dL_law_147 rfl (lv_at hl 5 rfl) ?_
      refine lv_iconst (v := nI 2) hx hb dL_law_148 (by decide) ?_
      refine sd_iadd (a := 48 + 3 * j) (b := 2) (k := (48 + 3 * j) + 2) hx hb dL_law_149 rfl ?_
      refine sdCall_s (na := 2) (As := [.ref b, .int (nI ((48 + 3 * j) + 2))]) (rest := []) (k := 3 + 2 * j) (n := 97 + 96 * j) X Z (met_cell l D hL ((48 + 3 * j) + 2) (by omega)) hX hbl hbA q53 q54 q2 q55 (by decide +kernel) rfl (Nat.le_of_ble_eq_true rfl) (Nat.le_of_ble_eq_true rfl) [0, 1, 2] rfl (by decide) hl.1 rfl (Nat.le_of_ble_eq_true rfl) dL_law_150 (by first | exact Nat.le_of_ble_eq_true rfl | (dsimp only [room_1]; omega)) (by first | exact Nat.le_of_ble_eq_true rfl | (dsimp only [room_1]; omega)) (by first | exact Nat.le_of_ble_eq_true rfl | (dsimp only; omega)) (by first | exact Nat.le_of_ble_eq_true rfl | (dsimp only; omega)) (fun t H locs Z => ?_)
      have hfr := fr_le f
      have htt := tt_le f t
      refine lv_istore (lv' := [(6, .int t), (5, .int f), (4, .int w), (0, .ref b), (1, .ref d), (2, .ref x), (3, .int (nI (48 + 3 * j)))]) hx hb dL_law_153 hl (by decide) rfl (fun ls hl => ?_)
      refine lv_iload hx hb dL_law_155 (lv_at hl 1 rfl) ?_
      refine sdCall_si (na := 1) (As := [.int f]) (rest := []) (wr := [sdO d ro, sdA ro cA 48 F, sdA x cB 48 F]) (k := 3 + 2 * j) (n := 97 + 96 * j) X Z (met_bare l D f) q56 q57 q2 q58 (by decide +kernel) rfl (by first | exact Nat.le_of_ble_eq_true rfl | (dsimp only; omega)) (by first | exact Nat.le_of_ble_eq_true rfl | (dsimp only; omega)) [] [0, 1, 2] [] (by decide) rfl rfl rfl (by decide) (by decide) rfl hl.1 rfl (Nat.le_of_ble_eq_true rfl) dL_law_157 (by first | exact Nat.le_of_ble_eq_true rfl | (dsimp only [room_1]; omega)) (by first | exact Nat.le_of_ble_eq_true rfl | (dsimp only [room_1]; omega)) (by first | exact Nat.le_of_ble_eq_true rfl | (dsimp only; omega)) (by first | exact Nat.le_of_ble_eq_true rfl | (dsimp only; omega)) (fun q u H locs hq Z => ?_)
      obtain rfl : q = nI (bre f) := hq
      have Z : sdZ D A s [sdO d ro, sdA ro cA 48 F, sdA x cB 48 F] _ _ := Z
      refine lv_bipush (v := nI 49) hx hb dL_law_160 (by decide) ?_
      refine sd_irem (a := bre f) (d := 49) (k := fr f) hx hb dL_law_162 (bre_lt _) (by omega) (by omega) rfl ?_
      refine lv_istore (lv' := [(7, .int (nI (fr f))), (6, .int t), (5, .int f), (4, .int w), (0, .ref b), (1, .ref d), (2, .ref x), (3, .int (nI (48 + 3 * j)))]) hx hb dL_law_163 hl (by decide) rfl (fun ls hl => ?_)
      refine lv_iload hx hb dL_law_165 (lv_at hl 0 rfl) ?_
      refine lv_iload hx hb dL_law_167 (lv_at hl 1 rfl) ?_
      refine sdCall_si (na := 1) (As := [.int t]) (rest := [.int (nI (fr f))]) (wr := [sdO d ro, sdA ro cA 48 F, sdA x cB 48 F]) (k := 3 + 2 * j) (n := 97 + 96 * j) X Z (met_bare l D t) q56 q57 q2 q58 (by decide +kernel) rfl (by first | exact Nat.le_of_ble_eq_true rfl | (dsimp only; omega)) (by first | exact Nat.le_of_ble_eq_true rfl | (dsimp only; omega)) [] [0, 1, 2] [] (by decide) rfl rfl rfl (by decide) (by decide) rfl hl.1 rfl (Nat.le_of_ble_eq_true rfl) dL_law_169 (by first | exact Nat.le_of_ble_eq_true rfl | (dsimp only [room_1]; omega)) (by first | exact Nat.le_of_ble_eq_true rfl | (dsimp only [room_1]; omega)) (by first | exact Nat.le_of_ble_eq_true rfl | (dsimp only; omega)) (by first | exact Nat.le_of_ble_eq_true rfl | (dsimp only; omega)) (fun q u H locs hq Z => ?_)
      obtain rfl : q = nI (bre t) := hq
      have Z : sdZ D A s [sdO d ro, sdA ro cA 48 F, sdA x cB 48 F] _ _ := Z
      refine lv_bipush (v := nI 49) hx hb dL_law_172 (by decide) ?_
      refine lv_iload hx hb dL_law_174 (lv_at hl 0 rfl) ?_
      refine sd_isub (a := 49) (b := fr f) (k := 49 - (fr f)) hx hb dL_law_176 (by omega) rfl ?_
      refine sd_irem (a := bre t) (d := 49 - (fr f)) (k := bre t % (49 - fr f)) hx hb dL_law_177 (bre_lt _) (by omega) (by omega) rfl ?_
      refine sd_iadd (a := fr f) (b := bre t % (49 - fr f)) (k := tt f t) hx hb dL_law_178 rfl ?_
      refine lv_istore (lv' := [(8, .int (nI (tt f t))), (7, .int (nI (fr f))), (6, .int t), (5, .int f), (4, .int w), (0, .ref b), (1, .ref d), (2, .ref x), (3, .int (nI (48 + 3 * j)))]) hx hb dL_law_179 hl (by decide) rfl (fun ls hl => ?_)
      refine lv_iload hx hb dL_law_181 (lv_at hl 4 rfl) ?_
      refine sdCall_si (na := 1) (As := [.int w]) (rest := []) (wr := [sdO d ro, sdA ro cA 48 F, sdA x cB 48 F]) (k := 3 + 2 * j) (n := 97 + 96 * j) X Z (met_bare l D w) q56 q57 q2 q58 (by decide +kernel) rfl (by first | exact Nat.le_of_ble_eq_true rfl | (dsimp only; omega)) (by first | exact Nat.le_of_ble_eq_true rfl | (dsimp only; omega)) [] [0, 1, 2] [] (by decide) rfl rfl rfl (by decide) (by decide) rfl hl.1 rfl (Nat.le_of_ble_eq_true rfl) dL_law_183 (by first | exact Nat.le_of_ble_eq_true rfl | (dsimp only [room_1]; omega)) (by first | exact Nat.le_of_ble_eq_true rfl | (dsimp only [room_1]; omega)) (by first | exact Nat.le_of_ble_eq_true rfl | (dsimp only; omega)) (by first | exact Nat.le_of_ble_eq_true rfl | (dsimp only; omega)) (fun q u H locs hq Z => ?_)
      obtain rfl : q = nI (bre w) := hq
      have Z : sdZ D A s [sdO d ro, sdA ro cA 48 F, sdA x cB 48 F] _ _ := Z
      refine lv_bipush (v := nI 8) hx hb dL_law_186 (by decide) ?_
      refine sd_irem (a := bre w) (d := 8) (k := (bre w) % 8) hx hb dL_law_188 (bre_lt _) (by omega) (by omega) rfl ?_
      refine lv_istore (lv' := [(9, .int (nI ((bre w) % 8))), (8, .int (nI (tt f t))), (7, .int (nI (fr f))), (6, .int t), (5, .int f), (4, .int w), (0, .ref b), (1, .ref d), (2, .ref x), (3, .int (nI (48 + 3 * j)))]) hx hb dL_law_189 hl (by decide) rfl (fun ls hl => ?_)
      refine lv_iload hx hb dL_law_191 (lv_at hl 0 rfl) ?_
      refine lv_bipush (v := nI 6) hx hb dL_law_193 (by decide) ?_
      refine sd_nge (tgt := 221) hx hb dL_law_195 (by decide) (by omega) (by omega) (fun h3 => ?_) (fun h3 => ?_)
      · refine lv_iload hx hb dL_law_221 (lv_at hl 0 rfl) ?_
        refine lv_bipush (v := nI 6) hx hb dL_law_223 (by decide) ?_
        refine sd_nne (tgt := 247) hx hb dL_law_225 (by decide) (by omega) (by omega) (fun h4 => ?_) (fun h4 => ?_)
        · refine lv_aload_n hx hb dL_law_247 rfl (lv_at hl 7 rfl) ?_
          refine lv_iload hx hb dL_law_248 (lv_at hl 4 rfl) ?_
          refine lv_iload hx hb dL_law_250 (lv_at hl 3 rfl) ?_
          refine sdCall_vv (q0 := 0) (na := 2) (As := [.int f, .int t]) (rest := []) (wr := [sdA x cB 48 F]) (k := 3 + 2 * (j + 1)) (n := 97 + 96 * (j + 1)) X Z (met_set l D hF f t) rfl q22 q23 q24 q3 q25 (by decide +kernel) rfl (by first | exact Nat.le_of_ble_eq_true rfl | (dsimp only; omega)) (by first | exact Nat.le_of_ble_eq_true rfl | (dsimp only; omega)) [0, 1] [2] [0] (by decide) rfl rfl rfl (by decide) (by decide) rfl hl.1 rfl (Nat.le_of_ble_eq_true rfl) dL_law_252 (by first | exact Nat.le_of_ble_eq_true rfl | (dsimp only [room_1]; omega)) (by first | exact Nat.le_of_ble_eq_true rfl | (dsimp only [room_1]; omega)) (by first | exact Nat.le_of_ble_eq_true rfl | (dsimp only; omega)) (by first | exact Nat.le_of_ble_eq_true rfl | (dsimp only; omega)) (fun G H locs hu Z => ?_)
          subst hu
          have Z : sdZ D A s [sdA x cB 48 F, sdO d ro, sdA ro cA 48 (upd F (bre f % 48) t.toInt16.toInt32)] _ _ := Z
          refine lv_aload_n hx hb dL_law_255 rfl (lv_at hl 8 rfl) ?_
          refine lv_iload hx hb dL_law_256 (lv_at hl 4 rfl) ?_
          refine sdCall_si (na := 1) (As := [.int f]) (rest := [.ref x]) (wr := [sdA x cB 48 F, sdO d ro, sdA ro cA 48 (upd F (bre f % 48) t.toInt16.toInt32)]) (k := 3 + 2 * (j + 1)) (n := 97 + 96 * (j + 1)) X Z (met_bare l D f) q56 q57 q2 q58 (by decide +kernel) rfl (by first | exact Nat.le_of_ble_eq_true rfl | (dsimp only; omega)) (by first | exact Nat.le_of_ble_eq_true rfl | (dsimp only; omega)) [] [0, 1, 2] [] (by decide) rfl rfl rfl (by decide) (by decide) rfl hl.1 rfl (Nat.le_of_ble_eq_true rfl) dL_law_258 (by first | exact Nat.le_of_ble_eq_true rfl | (dsimp only [room_1]; omega)) (by first | exact Nat.le_of_ble_eq_true rfl | (dsimp only [room_1]; omega)) (by first | exact Nat.le_of_ble_eq_true rfl | (dsimp only; omega)) (by first | exact Nat.le_of_ble_eq_true rfl | (dsimp only; omega)) (fun q u H locs hq Z => ?_)
          obtain rfl : q = nI (bre f) := hq
          have Z : sdZ D A s [sdA x cB 48 F, sdO d ro, sdA ro cA 48 (upd F (bre f % 48) t.toInt16.toInt32)] _ _ := Z
          refine lv_bipush (v := nI 48) hx hb dL_law_261 (by decide) ?_
          refine sd_irem (a := bre f) (d := 48) (k := (bre f) % 48) hx hb dL_law_263 (bre_lt _) (by omega) (by omega) rfl ?_
          refine lv_iload hx hb dL_law_264 (lv_at hl 3 rfl) ?_
          refine lv_i2s (v := t.toInt16.toInt32) hx hb dL_law_266 rfl ?_
          refine sd_sst (k := (bre f) % 48) (v := t.toInt16.toInt32) X Z 0 1 rfl rfl (by omega) (by omega) (nar_cut _) dL_law_267 (fun H locs Z => ?_)
          have Z : sdZ D A s [sdA x cB 48 (upd F ((bre f) % 48) t.toInt16.toInt32), sdO d ro, sdA ro cA 48 (upd F (bre f % 48) t.toInt16.toInt32)] _ _ := Z
          have Z : sdZ D A s [sdO d ro, sdA ro cA 48 (upd F (bre f % 48) t.toInt16.toInt32), sdA x cB 48 (upd F (bre f % 48) t.toInt16.toInt32)] H locs := Z.sub [1, 2, 0] (by decide) rfl rfl
          exact go w f t _ H locs ls hj (hF.up (nar_cut _)) Z (lv_sub hl [6, 7, 8, 9, 5, 4, 3, 2, 1] rfl)
        · refine lv_aload_n hx hb dL_law_228 rfl (lv_at hl 7 rfl) ?_
          refine lv_iload hx hb dL_law_229 (lv_at hl 4 rfl) ?_
          refine lv_iload hx hb dL_law_231 (lv_at hl 3 rfl) ?_
          refine sdCall_vv (q0 := 0) (na := 2) (As := [.int f, .int t]) (rest := []) (wr := [sdA x cB 48 F]) (k := 3 + 2 * (j + 1)) (n := 97 + 96 * (j + 1)) X Z (met_dreverse l D hF f t) rfl q31 q32 q33 q3 q34 (by decide +kernel) rfl (by first | exact Nat.le_of_ble_eq_true rfl | (dsimp only; omega)) (by first | exact Nat.le_of_ble_eq_true rfl | (dsimp only; omega)) [0, 1] [2] [0] (by decide) rfl rfl rfl (by decide) (by decide) rfl hl.1 rfl (Nat.le_of_ble_eq_true rfl) dL_law_233 (by first | exact Nat.le_of_ble_eq_true rfl | (dsimp only [room_1]; omega)) (by first | exact Nat.le_of_ble_eq_true rfl | (dsimp only [room_1]; omega)) (by first | exact Nat.le_of_ble_eq_true rfl | (dsimp only; omega)) (by first | exact Nat.le_of_ble_eq_true rfl | (dsimp only; omega)) (fun G H locs hu Z => ?_)
          subst hu
          have Z : sdZ D A s [sdA x cB 48 F, sdO d ro, sdA ro cA 48 (rvs F (fr f) (tt f t))] _ _ := Z
          refine lv_aload_n hx hb dL_law_236 rfl (lv_at hl 8 rfl) ?_
          refine lv_iload hx hb dL_law_237 (lv_at hl 2 rfl) ?_
          refine lv_iload hx hb dL_law_239 (lv_at hl 1 rfl) ?_
          refine sdCall_sv (na := 3) (As := [.ref x, .int (nI (fr f)), .int (nI (tt f t))]) (rest := []) (wr := [sdO d ro, sdA ro cA 48 (rvs F (fr f) (tt f t))]) (k := 3 + 2 * (j + 1)) (n := 97 + 96 * (j + 1)) X Z (met_turn l D (Nat.le_refl 48) hF htt.1 htt.2) q66 q67 q2 q68 (by decide +kernel) rfl (by first | exact Nat.le_of_ble_eq_true rfl | (dsimp only; omega)) (by first | exact Nat.le_of_ble_eq_true rfl | (dsimp only; omega)) [0] [1, 2] [1] (by decide) rfl rfl rfl (by decide) (by decide) rfl hl.1 rfl (Nat.le_of_ble_eq_true rfl) dL_law_241 (by first | exact Nat.le_of_ble_eq_true rfl | (dsimp only [room_1]; omega)) (by first | exact Nat.le_of_ble_eq_true rfl | (dsimp only [room_1]; omega)) (by first | exact Nat.le_of_ble_eq_true rfl | (dsimp only; omega)) (by first | exact Nat.le_of_ble_eq_true rfl | (dsimp only; omega)) (fun K H locs hu Z => ?_)
          subst hu
          have Z : sdZ D A s [sdO d ro, sdA ro cA 48 (rvs F (fr f) (tt f t)), sdA x cB 48 (rvs F (fr f) (tt f t))] _ _ := Z
          refine lv_goto (tgt := 268) hx hb dL_law_244 (by decide) ?_
          have Z : sdZ D A s [sdO d ro, sdA ro cA 48 (rvs F (fr f) (tt f t)), sdA x cB 48 (rvs F (fr f) (tt f t))] H locs := Z.sub [0, 1, 2] (by decide) rfl rfl
          exact go w f t _ H locs ls hj (rvs_sh hF) Z (lv_sub hl [6, 7, 8, 9, 5, 4, 3, 2, 1] rfl)
      · refine lv_aload_n hx hb dL_law_198 rfl (lv_at hl 7 rfl) ?_
        refine lv_iload hx hb dL_law_199 (lv_at hl 0 rfl) ?_
        refine lv_iconst (v := nI 3) hx hb dL_law_201 (by decide) ?_
        refine sd_irem (a := (bre w) % 8) (d := 3) (k := ((bre w) % 8) % 3) hx hb dL_law_202 (by omega) (by omega) (by omega) rfl ?_
        refine lv_iload hx hb dL_law_203 (lv_at hl 4 rfl) ?_
        refine lv_iload hx hb dL_law_205 (lv_at hl 3 rfl) ?_
        refine sdCall_sv (na := 4) (As := [.ref d, .int (nI (((bre w) % 8) % 3)), .int f, .int t]) (rest := []) (wr := [sdA x cB 48 F]) (k := 3 + 2 * j + 1) (n := 97 + 96 * j + 48) X Z (met_sorts l D hF (nI (((bre w) % 8) % 3)) f t) q72 q73 q2 q74 (by decide +kernel) rfl (by first | exact Nat.le_of_ble_eq_true rfl | (dsimp only; omega)) (by first | exact Nat.le_of_ble_eq_true rfl | (dsimp only; omega)) [0, 1] [2] [0] (by decide) rfl rfl rfl (by decide) (by decide) rfl hl.1 rfl (Nat.le_of_ble_eq_true rfl) dL_law_207 (by first | exact Nat.le_of_ble_eq_true rfl | (dsimp only [room_1]; omega)) (by first | exact Nat.le_of_ble_eq_true rfl | (dsimp only [room_1]; omega)) (by first | exact Nat.le_of_ble_eq_true rfl | (dsimp only; omega)) (by first | exact Nat.le_of_ble_eq_true rfl | (dsimp only; omega)) (fun G H locs hG Z => ?_)
        have Z : sdZ D A s [sdA x cB 48 F, sdO d ro, sdA ro cA 48 G] _ _ := Z
        refine lv_aload_n hx hb dL_law_210 rfl (lv_at hl 8 rfl) ?_
        refine lv_iload hx hb dL_law_211 (lv_at hl 2 rfl) ?_
        refine lv_iload hx hb dL_law_213 (lv_at hl 1 rfl) ?_
        refine sdCall_sv (na := 3) (As := [.ref x, .int (nI (fr f)), .int (nI (tt f t))]) (rest := []) (wr := [sdO d ro, sdA ro cA 48 G]) (k := 3 + 2 * (j + 1)) (n := 97 + 96 * (j + 1)) X Z (met_lsort l D (Nat.le_refl 48) hF htt.1 htt.2 hG) q63 q64 q2 q65 (by decide +kernel) rfl (by first | exact Nat.le_of_ble_eq_true rfl | (dsimp only; omega)) (by first | exact Nat.le_of_ble_eq_true rfl | (dsimp only; omega)) [0] [1, 2] [1] (by decide) rfl rfl rfl (by decide) (by decide) rfl hl.1 rfl (Nat.le_of_ble_eq_true rfl) dL_law_215 (by first | exact Nat.le_of_ble_eq_true rfl | (dsimp only [room_1]; omega)) (by first | exact Nat.le_of_ble_eq_true rfl | (dsimp only [room_1]; omega)) (by first | exact Nat.le_of_ble_eq_true rfl | (dsimp only; omega)) (by first | exact Nat.le_of_ble_eq_true rfl | (dsimp only; omega)) (fun K H locs hu Z => ?_)
        subst hu
        have Z : sdZ D A s [sdO d ro, sdA ro cA 48 K, sdA x cB 48 K] _ _ := Z
        refine lv_goto (tgt := 268) hx hb dL_law_218 (by decide) ?_
        have Z : sdZ D A s [sdO d ro, sdA ro cA 48 K, sdA x cB 48 K] H locs := Z.sub [0, 1, 2] (by decide) rfl rfl
        exact go w f t _ H locs ls hj (hG.1.sh hF) Z (lv_sub hl [6, 7, 8, 9, 5, 4, 3, 2, 1] rfl)
set_option maxHeartbeats 4000000 in
/-- the whole row sorted by each of the three, and turned about -/
theorem lp_lthree {b : Nat} {d ro x : Nat} {cA cB : ClassId} (X : sdX p s m args c cL_law 11 RX0 D [(cA, .short), (cB, .short)] A)
    (kk : ∀ (F : Nat → Int32) (H : Heap) (locs : List Loc) (ls : Array Slot), Sh F → sdZ D A s [sdO d ro, sdA ro cA 48 F, sdA x cB 48 F] H locs → lv_has ls 11 [(0, .ref b), (1, .ref d), (2, .ref x)] → W p l e room_1 s m args below meth c H locs 41 1921 Q (F0 m 446 ls [])) :
    ∀ (r j : Nat) (F : Nat → Int32), j ≤ 3 → 3 < j + r → Sh F → ∀ (H : Heap) (locs : List Loc) (ls : Array Slot), sdZ D A s [sdO d ro, sdA ro cA 48 F, sdA x cB 48 F] H locs → lv_has ls 11 [(0, .ref b), (1, .ref d), (2, .ref x), (3, .int (nI j))] → W p l e room_1 s m args below meth c H locs (35 + 2 * j) (1633 + 96 * j) Q (F0 m 384 ls []) := by
  have hx := X.1.1
  have hb := X.1.2.1
  intro r
  induction r with
  | zero =>
    intro j F h0 h1
    exact absurd h1 (by omega)
  | succ r ih =>
    intro j F h0 h1 hF H locs ls Z hl
    refine lv_iload_n hx hb dL_law_384 rfl (lv_at hl 3 rfl) ?_
    refine lv_iconst (v := nI 3) hx hb dL_law_385 (by decide) ?_
    refine sd_nge (tgt := 446) hx hb dL_law_386 (by decide) (by omega) (by omega) (fun h2 => ?_) (fun h2 => ?_)
    · obtain rfl : j = 3 := by omega
      exact kk F H locs ls hF Z (lv_sub hl [0, 1, 2] rfl)
    · have hj : j < 3 := h2
      refine lv_aload_n hx hb dL_law_389 rfl (lv_at hl 1 rfl) ?_
      refine lv_iload_n hx hb dL_law_390 rfl (lv_at hl 3 rfl) ?_
      refine lv_iconst (v := nI 0) hx hb dL_law_391 (by decide) ?_
      refine lv_bipush (v := nI 48) hx hb dL_law_392 (by decide) ?_
      refine sdCall_sv (na := 4) (As := [.ref d, .int (nI j), .int (nI 0), .int (nI 48)]) (rest := []) (wr := [sdA x cB 48 F]) (k := 35 + 2 * j + 1) (n := 1633 + 96 * j + 48) X Z (met_sorts l D hF (nI j) (nI 0) (nI 48)) q72 q73 q2 q74 (by decide +kernel) rfl (by first | exact Nat.le_of_ble_eq_true rfl | (dsimp only; omega)) (by first | exact Nat.le_of_ble_eq_true rfl | (dsimp only; omega)) [0, 1] [2] [0] (by decide) rfl rfl rfl (by decide) (by decide) rfl hl.1 rfl (Nat.le_of_ble_eq_true rfl) dL_law_394 (by first | exact Nat.le_of_ble_eq_true rfl | (dsimp only [room_1]; omega)) (by first | exact Nat.le_of_ble_eq_true rfl | (dsimp only [room_1]; omega)) (by first | exact Nat.le_of_ble_eq_true rfl | (dsimp only; omega)) (by first | exact Nat.le_of_ble_eq_true rfl | (dsimp only; omega)) (fun G H locs hG Z => ?_)
      have Z : sdZ D A s [sdA x cB 48 F, sdO d ro, sdA ro cA 48 G] _ _ := Z
      rw [fr_0, tt_48] at hG
      refine lv_aload_n hx hb dL_law_397 rfl (lv_at hl 2 rfl) ?_
      refine lv_iconst (v := nI 0) hx hb dL_law_398 (by decide) ?_
      refine lv_bipush (v := nI 48) hx hb dL_law_399 (by decide) ?_
      refine sdCall_sv (na := 3) (As := [.ref x, .int (nI 0), .int (nI 48)]) (rest := []) (wr := [sdO d ro, sdA ro cA 48 G]) (k := 35 + 2 * (j + 1)) (n := 1633 + 96 * (j + 1)) X Z (met_lsort l D (Nat.le_refl 48) hF (Nat.zero_le 48) (Nat.le_refl 48) hG) q63 q64 q2 q65 (by decide +kernel) rfl (by first | exact Nat.le_of_ble_eq_true rfl | (dsimp only; omega)) (by first | exact Nat.le_of_ble_eq_true rfl | (dsimp only; omega)) [0] [1, 2] [1] (by decide) rfl rfl rfl (by decide) (by decide) rfl hl.1 rfl (Nat.le_of_ble_eq_true rfl) dL_law_401 (by first | exact Nat.le_of_ble_eq_true rfl | (dsimp only [room_1]; omega)) (by first | exact Nat.le_of_ble_eq_true rfl | (dsimp only [room_1]; omega)) (by first | exact Nat.le_of_ble_eq_true rfl | (dsimp only; omega)) (by first | exact Nat.le_of_ble_eq_true rfl | (dsimp only; omega)) (fun K H locs hu Z => ?_)
      subst hu
      have Z : sdZ D A s [sdO d ro, sdA ro cA 48 K, sdA x cB 48 K] _ _ := Z
      have hK : Sh K := hG.1.sh hF
      have Z : sdZ D A s [sdO d ro, sdA ro cA 48 K, sdA x cB 48 K] H locs := Z.sub [0, 1, 2] (by decide) rfl rfl
      refine lv_aload_n hx hb dL_law_404 rfl (lv_at hl 1 rfl) ?_
      refine lv_aload_n hx hb dL_law_405 rfl (lv_at hl 2 rfl) ?_
      refine lv_iload_n hx hb dL_law_406 rfl (lv_at hl 3 rfl) ?_
      refine sdCall_si (na := 3) (As := [.ref d, .ref x, .int (nI j)]) (rest := []) (wr := []) (k := 35 + 2 * (j + 1)) (n := 1633 + 96 * (j + 1)) X Z (met_alike l D hK (nI j)) q60 q61 q2 q62 (by decide +kernel) rfl (by first | exact Nat.le_of_ble_eq_true rfl | (dsimp only; omega)) (by first | exact Nat.le_of_ble_eq_true rfl | (dsimp only; omega)) [0, 1, 2] [] [0, 1] (by decide) rfl rfl rfl (by decide) (by decide) rfl hl.1 rfl (Nat.le_of_ble_eq_true rfl) dL_law_407 (by first | exact Nat.le_of_ble_eq_true rfl | (dsimp only [room_1]; omega)) (by first | exact Nat.le_of_ble_eq_true rfl | (dsimp only [room_1]; omega)) (by first | exact Nat.le_of_ble_eq_true rfl | (dsimp only; omega)) (by first | exact Nat.le_of_ble_eq_true rfl | (dsimp only; omega)) (fun q u H locs hq Z => ?_)
      have Z : sdZ D A s [sdO d ro, sdA ro cA 48 K, sdA x cB 48 K] _ _ := Z
      refine sd_zne (tgt := 415) hx hb dL_law_410 (by decide) (fun h3 => ?_) (fun h3 => ?_)
      · refine lv_aload_n hx hb dL_law_415 rfl (lv_at hl 1 rfl) ?_
        refine lv_iconst (v := nI 0) hx hb dL_law_416 (by decide) ?_
        refine lv_bipush (v := nI 48) hx hb dL_law_417 (by decide) ?_
        refine sdCall_vv (q0 := 0) (na := 2) (As := [.int (nI 0), .int (nI 48)]) (rest := []) (wr := [sdA x cB 48 K]) (k := 35 + 2 * (j + 1)) (n := 1633 + 96 * (j + 1)) X Z (met_dreverse l D hK (nI 0) (nI 48)) rfl q31 q32 q33 q3 q34 (by decide +kernel) rfl (by first | exact Nat.le_of_ble_eq_true rfl | (dsimp only; omega)) (by first | exact Nat.le_of_ble_eq_true rfl | (dsimp only; omega)) [0, 1] [2] [0] (by decide) rfl rfl rfl (by decide) (by decide) rfl hl.1 rfl (Nat.le_of_ble_eq_true rfl) dL_law_419 (by first | exact Nat.le_of_ble_eq_true rfl | (dsimp only [room_1]; omega)) (by first | exact Nat.le_of_ble_eq_true rfl | (dsimp only [room_1]; omega)) (by first | exact Nat.le_of_ble_eq_true rfl | (dsimp only; omega)) (by first | exact Nat.le_of_ble_eq_true rfl | (dsimp only; omega)) (fun G H locs hu Z => ?_)
        rw [fr_0, tt_48] at hu
        subst hu
        have Z : sdZ D A s [sdA x cB 48 K, sdO d ro, sdA ro cA 48 (rvs K 0 48)] _ _ := Z
        refine lv_aload_n hx hb dL_law_422 rfl (lv_at hl 2 rfl) ?_
        refine lv_iconst (v := nI 0) hx hb dL_law_423 (by decide) ?_
        refine lv_bipush (v := nI 48) hx hb dL_law_424 (by decide) ?_
        refine sdCall_sv (na := 3) (As := [.ref x, .int (nI 0), .int (nI 48)]) (rest := []) (wr := [sdO d ro, sdA ro cA 48 (rvs K 0 48)]) (k := 35 + 2 * (j + 1)) (n := 1633 + 96 * (j + 1)) X Z (met_turn l D (Nat.le_refl 48) hK (Nat.zero_le 48) (Nat.le_refl 48)) q66 q67 q2 q68 (by decide +kernel) rfl (by first | exact Nat.le_of_ble_eq_true rfl | (dsimp only; omega)) (by first | exact Nat.le_of_ble_eq_true rfl | (dsimp only; omega)) [0] [1, 2] [1] (by decide) rfl rfl rfl (by decide) (by decide) rfl hl.1 rfl (Nat.le_of_ble_eq_true rfl) dL_law_426 (by first | exact Nat.le_of_ble_eq_true rfl | (dsimp only [room_1]; omega)) (by first | exact Nat.le_of_ble_eq_true rfl | (dsimp only [room_1]; omega)) (by first | exact Nat.le_of_ble_eq_true rfl | (dsimp only; omega)) (by first | exact Nat.le_of_ble_eq_true rfl | (dsimp only; omega)) (fun E H locs hu Z => ?_)
        subst hu
        have Z : sdZ D A s [sdO d ro, sdA ro cA 48 (rvs K 0 48), sdA x cB 48 (rvs K 0 48)] _ _ := Z
        have Z : sdZ D A s [sdO d ro, sdA ro cA 48 (rvs K 0 48), sdA x cB 48 (rvs K 0 48)] H locs := Z.sub [0, 1, 2] (by decide) rfl rfl
        have hR : Sh (rvs K 0 48) := rvs_sh hK
        refine lv_aload_n hx hb dL_law_429 rfl (lv_at hl 1 rfl) ?_
        refine lv_aload_n hx hb dL_law_430 rfl (lv_at hl 2 rfl) ?_
        refine lv_iload_n hx hb dL_law_431 rfl (lv_at hl 3 rfl) ?_
        refine sdCall_si (na := 3) (As := [.ref d, .ref x, .int (nI j)]) (rest := []) (wr := []) (k := 35 + 2 * (j + 1)) (n := 1633 + 96 * (j + 1)) X Z (met_alike l D hR (nI j)) q60 q61 q2 q62 (by decide +kernel) rfl (by first | exact Nat.le_of_ble_eq_true rfl | (dsimp only; omega)) (by first | exact Nat.le_of_ble_eq_true rfl | (dsimp only; omega)) [0, 1, 2] [] [0, 1] (by decide) rfl rfl rfl (by decide) (by decide) rfl hl.1 rfl (Nat.le_of_ble_eq_true rfl) dL_law_432 (by first | exact Nat.le_of_ble_eq_true rfl | (dsimp only [room_1]; omega)) (by first | exact Nat.le_of_ble_eq_true rfl | (dsimp only [room_1]; omega)) (by first | exact Nat.le_of_ble_eq_true rfl | (dsimp only; omega)) (by first | exact Nat.le_of_ble_eq_true rfl | (dsimp only; omega)) (fun q u H locs hq Z => ?_)
        have Z : sdZ D A s [sdO d ro, sdA ro cA 48 (rvs K 0 48), sdA x cB 48 (rvs K 0 48)] _ _ := Z
        refine sd_zne (tgt := 440) hx hb dL_law_435 (by decide) (fun h4 => ?_) (fun h4 => ?_)
        · refine lv_iinc (v := nI (j + 1)) (lv' := [(3, .int (nI (j + 1))), (0, .ref b), (1, .ref d), (2, .ref x)]) hx hb dL_law_440 hl (k := 3) rfl (sd_inc _) (by decide) rfl (fun ls hl => ?_)
          refine lv_goto (tgt := 384) hx hb dL_law_443 (by decide) ?_
          exact ih (j + 1) _ (by omega) (by omega) hR H locs ls Z (lv_sub hl [1, 2, 3, 0] rfl)
        · exact absurd h4 (by rw [hq]; decide)
      · exact absurd h3 (by rw [hq]; decide)
set_option maxHeartbeats 4000000 in
/-- the multiples of 1000 laid -/
theorem lp_lput {b : Nat} {d ro x : Nat} {cA cB : ClassId} (X : sdX p s m args c cL_law 11 RX0 D [(cA, .short), (cB, .short)] A) (hRc : cells ≤ 1200000) (hRs : slots ≤ 5502250)
    (kk : ∀ (F : Nat → Int32) (H : Heap) (locs : List Loc) (ls : Array Slot), Sh F → (∀ j, j < 48 → (F (7 * j % 48)).toInt = 1000 * (j : Int) - 23000) → sdZ D A s [sdO d ro, sdA ro cA 48 F] H locs → lv_has ls 11 [(0, .ref b), (1, .ref d), (2, .ref x)] → W p l e room_1 s m args below meth c H locs cells slots Q (F0 m 480 ls [])) :
    ∀ (r i : Nat) (F : Nat → Int32), i ≤ 48 → 48 < i + r → Sh F → (∀ j, j < i → (F (7 * j % 48)).toInt = 1000 * (j : Int) - 23000) → ∀ (H : Heap) (locs : List Loc) (ls : Array Slot), sdZ D A s [sdO d ro, sdA ro cA 48 F] H locs → lv_has ls 11 [(0, .ref b), (1, .ref d), (2, .ref x), (3, .int (nI i))] → W p l e room_1 s m args below meth c H locs cells slots Q (F0 m 448 ls []) := by
  have hx := X.1.1
  have hb := X.1.2.1
  intro r
  induction r with
  | zero =>
    intro i F h0 h1
    exact absurd h1 (by omega)
  | succ r ih =>
    intro i F h0 h1 hF h2 H locs ls Z hl
    refine lv_iload_n hx hb dL_law_448 rfl (lv_at hl 3 rfl) ?_
    refine lv_bipush (v := nI 48) hx hb dL_law_449 (by decide) ?_
    refine sd_nge (tgt := 480) hx hb dL_law_451 (by decide) (by omega) (by omega) (fun h3 => ?_) (fun h3 => ?_)
    · exact kk F H locs ls hF (fun j hj => h2 j (by omega)) Z (lv_sub hl [0, 1, 2] rfl)
    · refine lv_aload_n hx hb dL_law_454 rfl (lv_at hl 1 rfl) ?_
      refine lv_bipush (v := nI 7) hx hb dL_law_455 (by decide) ?_
      refine lv_iload_n hx hb dL_law_457 rfl (lv_at hl 3 rfl) ?_
      refine lv_imul hx hb dL_law_458 ?_
      refine sd_top (pk_mul _ _) ?_
      refine lv_bipush (v := nI 48) hx hb dL_law_459 (by decide) ?_
      refine sd_irem (a := 7 * i) (d := 48) (k := (7 * i) % 48) hx hb dL_law_461 (by omega) (by omega) (by omega) rfl ?_
      refine lv_sipush (v := nI 1000) hx hb dL_law_462 (by decide) ?_
      refine lv_iload_n hx hb dL_law_465 rfl (lv_at hl 3 rfl) ?_
      refine lv_imul hx hb dL_law_466 ?_
      refine sd_top (pk_mul _ _) ?_
      have ev : (nI (1000 * i) - nI 23000).toInt = 1000 * (i : Int) - 23000 := by
        have := pk_sub_toInt (a := 1000 * i) (b := 23000) (by omega) (by omega)
        omega
      refine lv_sipush (v := nI 23000) hx hb dL_law_467 (by decide) ?_
      refine lv_isub hx hb dL_law_470 ?_
      refine sdCall_vv (q0 := 0) (na := 2) (As := [.int (nI ((7 * i) % 48)), .int ((nI (1000 * i)) - (nI 23000))]) (rest := []) (wr := []) (k := cells) (n := slots) X Z (met_set l D hF (nI (7 * i % 48)) (nI (1000 * i) - nI 23000)) rfl q22 q23 q24 q3 q25 (by decide +kernel) rfl (by first | exact Nat.le_of_ble_eq_true rfl | (dsimp only; omega)) (by first | exact Nat.le_of_ble_eq_true rfl | (dsimp only; omega)) [0, 1] [] [0] (by decide) rfl rfl rfl (by decide) (by decide) rfl hl.1 rfl (Nat.le_of_ble_eq_true rfl) dL_law_471 (by first | exact Nat.le_of_ble_eq_true rfl | (dsimp only [room_1]; omega)) (by first | exact Nat.le_of_ble_eq_true rfl | (dsimp only [room_1]; omega)) (by first | exact Nat.le_of_ble_eq_true rfl | (dsimp only; omega)) (by first | exact Nat.le_of_ble_eq_true rfl | (dsimp only; omega)) (fun G H locs hu Z => ?_)
      rw [bre_nI (by omega), Nat.mod_mod, fb_short (by omega) (by omega)] at hu
      subst hu
      have Z : sdZ D A s [sdO d ro, sdA ro cA 48 (upd F (7 * i % 48) (nI (1000 * i) - nI 23000))] _ _ := Z
      refine lv_iinc (v := nI (i + 1)) (lv' := [(3, .int (nI (i + 1))), (0, .ref b), (1, .ref d), (2, .ref x)]) hx hb dL_law_474 hl (k := 3) rfl (sd_inc _) (by decide) rfl (fun ls hl => ?_)
      refine lv_goto (tgt := 448) hx hb dL_law_477 (by decide) ?_
      exact ih (i + 1) _ (by omega) (by omega) (hF.up (nar_of (by omega) (by omega))) (fun j hj => by
        rw [upd_at]
        by_cases q : 7 * j % 48 = 7 * i % 48
        · have e := seven_one j (by omega) i (by omega) q
          rw [if_pos q, ev, e]
        · rw [if_neg q]
          have : j ≠ i := fun e => q (by rw [e])
          exact h2 j (by omega)) H locs ls Z (lv_sub hl [1, 2, 3, 0] rfl)
set_option maxHeartbeats 4000000 in
/-- each multiple found at its place, what is between them told by the next -/
theorem lp_lend {b L : Nat} {xs : Nat → Int32} (hL : L ≤ 96) (hX : va_X b L xs s s.heap) (hbl : b < s.heap.size) (hbA : ¬ A b) {d ro x : Nat} {cA cB : ClassId} {F : Nat → Int32} (hF : Sh F) (hV : ∀ i, i < 48 → (F i).toInt = 1000 * (i : Int) - 23000) (X : sdX p s m args c cL_law 11 RX0 D [(cA, .short), (cB, .short)] A) (hRc : cells ≤ 1200000) (hRs : slots ≤ 5502250)
    (kk : ∀ (H : Heap) (locs : List Loc) (ls : Array Slot), sdZ D A s [sdO d ro, sdA ro cA 48 F] H locs → lv_has ls 11 [(0, .ref b), (1, .ref d), (2, .ref x)] → W p l e room_1 s m args below meth c H locs cells slots Q (F0 m 580 ls [])) :
    ∀ (r i : Nat), i ≤ 48 → 48 < i + r → ∀ (H : Heap) (locs : List Loc) (ls : Array Slot), sdZ D A s [sdO d ro, sdA ro cA 48 F] H locs → lv_has ls 11 [(0, .ref b), (1, .ref d), (2, .ref x), (3, .int (nI i))] → W p l e room_1 s m args below meth c H locs cells slots Q (F0 m 499 ls []) := by
  have hx := X.1.1
  have hb := X.1.2.1
  intro r
  induction r with
  | zero =>
    intro i h0 h1
    exact absurd h1 (by omega)
  | succ r ih =>
    intro i h0 h1 H locs ls Z hl
    refine lv_iload_n hx hb dL_law_499 rfl (lv_at hl 3 rfl) ?_
    refine lv_bipush (v := nI 48) hx hb dL_law_500 (by decide) ?_
    refine sd_nge (tgt := 580) hx hb dL_law_502 (by decide) (by omega) (by omega) (fun h2 => ?_) (fun h2 => ?_)
    · exact kk H locs ls Z (lv_sub hl [0, 1, 2] rfl)
    · refine lv_sipush (v := nI 1000) hx hb dL_law_505 (by decide) ?_
      refine lv_iload_n hx hb dL_law_508 rfl (lv_at hl 3 rfl) ?_
      refine lv_imul hx hb dL_law_509 ?_
      refine sd_top (pk_mul _ _) ?_
      refine lv_sipush (v := nI 23000) hx hb dL_law_510 (by decide) ?_
      refine lv_isub hx hb dL_law_513 ?_
      obtain ⟨v, ev0⟩ : ∃ v, v = nI (1000 * i) - nI 23000 := ⟨_, rfl⟩
      rw [← ev0]
      have ev : v.toInt = 1000 * (i : Int) - 23000 := by
        have := pk_sub_toInt (a := 1000 * i) (b := 23000) (by omega) (by omega)
        rw [ev0]; omega
      have hs := mult_SA hV
      refine lv_istore (lv' := [(4, .int v), (0, .ref b), (1, .ref d), (2, .ref x), (3, .int (nI i))]) hx hb dL_law_514 hl (by decide) rfl (fun ls hl => ?_)
      refine lv_aload_n hx hb dL_law_516 rfl (lv_at hl 2 rfl) ?_
      refine lv_iload_n hx hb dL_law_517 rfl (lv_at hl 4 rfl) ?_
      refine sdCall_vi (q0 := 0) (na := 1) (As := [.int (nI i)]) (rest := []) (wr := []) (k := cells) (n := slots) X Z (met_get l D hF (nI i)) rfl q27 q28 q29 q3 q30 (by decide +kernel) rfl (by first | exact Nat.le_of_ble_eq_true rfl | (dsimp only; omega)) (by first | exact Nat.le_of_ble_eq_true rfl | (dsimp only; omega)) [0, 1] [] [0] (by decide) rfl rfl rfl (by decide) (by decide) rfl hl.1 rfl (Nat.le_of_ble_eq_true rfl) dL_law_518 (by first | exact Nat.le_of_ble_eq_true rfl | (dsimp only [room_1]; omega)) (by first | exact Nat.le_of_ble_eq_true rfl | (dsimp only [room_1]; omega)) (by first | exact Nat.le_of_ble_eq_true rfl | (dsimp only; omega)) (by first | exact Nat.le_of_ble_eq_true rfl | (dsimp only; omega)) (fun q u H locs hq Z => ?_)
      have Z : sdZ D A s [sdO d ro, sdA ro cA 48 F] _ _ := Z
      rw [bre_nI (by omega), Nat.mod_eq_of_lt (by omega)] at hq
      refine lv_iload hx hb dL_law_521 (lv_at hl 0 rfl) ?_
      refine sd_tne (tgt := 572) hx hb dL_law_523 (by decide) (fun h3 => ?_) (fun h3 => ?_)
      · exact absurd (by rw [hq, hV i h2, ev]) h3
      · refine lv_aload_n hx hb dL_law_526 rfl (lv_at hl 2 rfl) ?_
        refine lv_iconst (v := nI 0) hx hb dL_law_527 (by decide) ?_
        refine lv_bipush (v := nI 48) hx hb dL_law_528 (by decide) ?_
        refine lv_iload hx hb dL_law_530 (lv_at hl 0 rfl) ?_
        refine sdCall_vi (q0 := 0) (na := 3) (As := [.int (nI 0), .int (nI 48), .int v]) (rest := []) (wr := []) (k := cells) (n := slots) X Z (met_dfind l D hF (nI 0) (nI 48) v) rfl q46 q47 q48 q3 q49 (by decide +kernel) rfl (by first | exact Nat.le_of_ble_eq_true rfl | (dsimp only; omega)) (by first | exact Nat.le_of_ble_eq_true rfl | (dsimp only; omega)) [0, 1] [] [0] (by decide) rfl rfl rfl (by decide) (by decide) rfl hl.1 rfl (Nat.le_of_ble_eq_true rfl) dL_law_532 (by first | exact Nat.le_of_ble_eq_true rfl | (dsimp only [room_1]; omega)) (by first | exact Nat.le_of_ble_eq_true rfl | (dsimp only [room_1]; omega)) (by first | exact Nat.le_of_ble_eq_true rfl | (dsimp only; omega)) (by first | exact Nat.le_of_ble_eq_true rfl | (dsimp only; omega)) (fun r1 u H locs hr1 Z => ?_)
        have Z : sdZ D A s [sdO d ro, sdA ro cA 48 F] _ _ := Z
        have e1 := fd_at hs (nar_of (by omega) (by omega)) hr1 (mult_at hV h2 ev)
        refine lv_iload_n hx hb dL_law_535 rfl (lv_at hl 4 rfl) ?_
        refine sd_tne (tgt := 572) hx hb dL_law_536 (by decide) (fun h4 => ?_) (fun h4 => ?_)
        · exact absurd (by rw [e1]) h4
        · refine lv_aload_n hx hb dL_law_539 rfl (lv_at hl 2 rfl) ?_
          refine lv_iconst (v := nI 0) hx hb dL_law_540 (by decide) ?_
          refine lv_bipush (v := nI 48) hx hb dL_law_541 (by decide) ?_
          refine lv_iload hx hb dL_law_543 (lv_at hl 0 rfl) ?_
          refine lv_iconst (v := nI 1) hx hb dL_law_545 (by decide) ?_
          refine lv_iadd hx hb dL_law_546 ?_
          refine lv_aload_n hx hb dL_law_547 rfl (lv_at hl 1 rfl) ?_
          refine lv_iload_n hx hb dL_law_548 rfl (lv_at hl 4 rfl) ?_
          refine sdCall_s (na := 2) (As := [.ref b, .int (nI i)]) (rest := [.int (v + (nI 1)), .int (nI 48), .int (nI 0), .ref d]) (k := cells) (n := slots) X Z (met_cell l D hL (i) (by omega)) hX hbl hbA q53 q54 q2 q55 (by decide +kernel) rfl (Nat.le_of_ble_eq_true rfl) (Nat.le_of_ble_eq_true rfl) [0, 1] rfl (by decide) hl.1 rfl (Nat.le_of_ble_eq_true rfl) dL_law_549 (by first | exact Nat.le_of_ble_eq_true rfl | (dsimp only [room_1]; omega)) (by first | exact Nat.le_of_ble_eq_true rfl | (dsimp only [room_1]; omega)) (by first | exact Nat.le_of_ble_eq_true rfl | (dsimp only; omega)) (by first | exact Nat.le_of_ble_eq_true rfl | (dsimp only; omega)) (fun cv H locs Z => ?_)
          refine sdCall_si (na := 1) (As := [.int cv]) (rest := [.int (v + (nI 1)), .int (nI 48), .int (nI 0), .ref d]) (wr := [sdO d ro, sdA ro cA 48 F]) (k := cells) (n := slots) X Z (met_bare l D cv) q56 q57 q2 q58 (by decide +kernel) rfl (by first | exact Nat.le_of_ble_eq_true rfl | (dsimp only; omega)) (by first | exact Nat.le_of_ble_eq_true rfl | (dsimp only; omega)) [] [0, 1] [] (by decide) rfl rfl rfl (by decide) (by decide) rfl hl.1 rfl (Nat.le_of_ble_eq_true rfl) dL_law_552 (by first | exact Nat.le_of_ble_eq_true rfl | (dsimp only [room_1]; omega)) (by first | exact Nat.le_of_ble_eq_true rfl | (dsimp only [room_1]; omega)) (by first | exact Nat.le_of_ble_eq_true rfl | (dsimp only; omega)) (by first | exact Nat.le_of_ble_eq_true rfl | (dsimp only; omega)) (fun q u H locs hq Z => ?_)
          obtain rfl : q = nI (bre cv) := hq
          have Z : sdZ D A s [sdO d ro, sdA ro cA 48 F] _ _ := Z
          refine lv_sipush (v := nI 999) hx hb dL_law_555 (by decide) ?_
          refine sd_irem (a := bre cv) (d := 999) (k := (bre cv) % 999) hx hb dL_law_558 (bre_lt _) (by omega) (by omega) rfl ?_
          refine lv_iadd hx hb dL_law_559 ?_
          obtain ⟨z, ez0⟩ : ∃ z, z = (v + (nI 1)) + (nI ((bre cv) % 999)) := ⟨_, rfl⟩
          rw [← ez0]
          have hm : (bre cv) % 999 < 999 := Nat.mod_lt _ (by decide)
          have ez : z.toInt = 1000 * (i : Int) - 22999 + (((bre cv) % 999 : Nat) : Int) := by
            have g1 : (nI 1).toInt = 1 := by decide
            have g2 := nI_toInt (n := (bre cv) % 999) (by omega)
            have g3 : (v + nI 1).toInt = v.toInt + 1 := by rw [fb_addI (by omega) (by omega), g1]
            rw [ez0, fb_addI (by omega) (by omega), g2, g3, ev]; omega
          refine sdCall_vi (q0 := 0) (na := 3) (As := [.int (nI 0), .int (nI 48), .int z]) (rest := []) (wr := []) (k := cells) (n := slots) X Z (met_dfind l D hF (nI 0) (nI 48) z) rfl q46 q47 q48 q3 q49 (by decide +kernel) rfl (by first | exact Nat.le_of_ble_eq_true rfl | (dsimp only; omega)) (by first | exact Nat.le_of_ble_eq_true rfl | (dsimp only; omega)) [0, 1] [] [0] (by decide) rfl rfl rfl (by decide) (by decide) rfl hl.1 rfl (Nat.le_of_ble_eq_true rfl) dL_law_560 (by first | exact Nat.le_of_ble_eq_true rfl | (dsimp only [room_1]; omega)) (by first | exact Nat.le_of_ble_eq_true rfl | (dsimp only [room_1]; omega)) (by first | exact Nat.le_of_ble_eq_true rfl | (dsimp only; omega)) (by first | exact Nat.le_of_ble_eq_true rfl | (dsimp only; omega)) (fun r2 u H locs hr2 Z => ?_)
          have Z : sdZ D A s [sdO d ro, sdA ro cA 48 F] _ _ := Z
          have e2 := fd_at hs (nar_of (by omega) (by omega)) hr2 (mult_mid hV (k := i + 1) (by omega) (by omega) (by omega))
          refine lv_iload_n hx hb dL_law_563 rfl (lv_at hl 4 rfl) ?_
          refine lv_iconst (v := nI 1) hx hb dL_law_564 (by decide) ?_
          refine sd_iadd (a := i) (b := 1) (k := i + 1) hx hb dL_law_565 rfl ?_
          refine lv_ineg hx hb dL_law_566 ?_
          refine lv_iconst (v := nI 1) hx hb dL_law_567 (by decide) ?_
          refine lv_isub hx hb dL_law_568 ?_
          refine sd_teq (tgt := 574) hx hb dL_law_569 (by decide) (fun h5 => ?_) (fun h5 => ?_)
          · refine lv_iinc (v := nI (i + 1)) (lv' := [(3, .int (nI (i + 1))), (4, .int v), (0, .ref b), (1, .ref d), (2, .ref x)]) hx hb dL_law_574 hl (k := 4) rfl (sd_inc _) (by decide) rfl (fun ls hl => ?_)
            refine lv_goto (tgt := 499) hx hb dL_law_577 (by decide) ?_
            exact ih (i + 1) (by omega) (by omega) H locs ls Z (lv_sub hl [2, 3, 4, 0] rfl)
          · refine absurd ?_ h5
            rw [e2]
            congr 1
            show -(nI (i + 1) + 1) = -(nI (i + 1)) - (1 : Int32)
            grind
end
end
section
/-! THE CLAIM OUT OF ONE WALK OF THE LAW'S BODY. Your part is whole_start (and what it stands on); all else here is the same for every law, but numbers. -/
def R_law : String := "ShortSortDeskLaw"
def lw_P (b : Addr) (xs : List Int32) (args : Array Value) (s : State) : Prop := args = #[.ref b] ∧ s.IntsAt b xs ∧ xs.length ≤ 96 ∧ (Jvm.Cond.and given_1 narrow_1).before args s = true
def lw_Q (_ : Array Value) (s : State) (o : Outcome) (t : State) : Prop := o = .returned (some (.int 1)) ∧ Framed s o t [] 1200000 5502250
def lw_Z (below : List Frame) (a : Array Value) (s : State) : State → Prop := fun t => ∃ o, t.status = .running ∧ Ended t below o ∧ lw_Q a s o t
/-- the law's own end, with 1 on the stack, nothing written that was there before, its room as the claim has it -/
theorem lw_ret {p : Program} {l : Launch} {e : Env} {s : State} {m : MethodId} {below : List Frame} {meth : Method} {c : Code} {b : Nat} (hx : p.tables.exec = Jvm.exec) (hb : c.code = code) (hr : meth.sig.returnType = ret) (hlocks : meth.locks = false) {pc : Nat} {H : Heap} {ls : Array Slot} (hdg : decode code pc = .ok (.ireturn, 1)) : W p l e room_1 s m #[Value.ref b] below meth c H [] 1200000 5502250 (lw_Z below #[Value.ref b] s) (F0 m pc ls [.int 1]) := by
  intro T hT X
  obtain ⟨fs, hret, hrun, hended, hW, hframe⟩ := X.leave (v := some (.int 1)) (hlocks := hlocks) (fun h => by rw [hr] at h; cases h)
  have hmeth' : T.vm.method? m = some meth := X.method'
  refine ⟨T.setFrames fs, ?_, .returned (some (.int 1)), hrun, hended, rfl, ⟨_, rfl⟩, hW, hframe⟩
  jvm_step X.here [X.here.top, hx, hb, hdg, hmeth', hr, ret, narrow_b1]
  (try refine ⟨rfl, ?_⟩); (try refine ⟨rfl, ?_⟩)
  first | (intro acts; rw [hret _ acts rfl rfl rfl]) | rw [hret _ _ rfl rfl rfl]
  exact Steps.refl _
/-- what holds at the law's entry: the machine, the code, the tables' words (any of lw_tbl by 'hts w (by decide +kernel)'), the script of L ints xs at the cell b, what the Statement gives of the start (any of its parts by flat_of_before) -/
def lw_At (p : Program) (s : State) (m : MethodId) (meth : Method) (c : Code) (b L : Nat) (xs : Nat → Int32) : Prop :=
  p.tables.exec = Jvm.exec ∧ c.code = code ∧ meth.sig.returnType = ret ∧ c.maxLocals = 11 ∧ s.vm.findClass R_law = some m.cls ∧ (∀ w ∈ lw_tbl, w.before #[Value.ref b] s = true) ∧ va_X b L xs s s.heap ∧ b < s.heap.size ∧ meth.locks = false ∧ (Jvm.Cond.and given_1 narrow_1).before #[Value.ref b] s = true
set_option maxHeartbeats 4000000 in
/-- from the entry, for every script of at most 96 ints, the law comes to its end with true -/
theorem whole_start {p : Program} {e : Env} {s : State} {m : MethodId} {below : List Frame} {meth : Method} {c : Code} (l : Launch) (hflags : l.flags = flags0) {b L : Nat} {xs : Nat → Int32} (hL : L ≤ 96) (C0 : lw_At p s m meth c b L xs) : W p l e room_1 s m #[Value.ref b] below meth c s.heap [] 0 0 (lw_Z below #[Value.ref b] s) (entryFrame m ([Value.ref b] : List Value).toArray 11) := by
  obtain ⟨hx, hb, hr, hml, hown, hts0, hX, hbl, hlocks, hgv⟩ := C0
  have hts : ∀ w ∈ lw_all, w.before #[Value.ref b] s = true := fun w h => hts0 w (lw_all_tbl h)
  obtain ⟨A, hAd⟩ : ∃ A : Nat → Prop, A = fun q : Nat => s.heap.size ≤ q := ⟨_, rfl⟩
  have hA : ∀ q : Nat, s.heap.size ≤ q → A q := fun q h => by rw [hAd]; exact h
  have hbA : ¬ A b := by rw [hAd]; exact Nat.not_le.mpr hbl
  obtain ⟨c1, iS1, hKn1⟩ := u_known (C := RX1) (T := TX1) (N := 1) (n := 1) hts0 (fun w h => lw_all_tbl (in_X1 w h)) (hts0 _ (lw_all_tbl q10))
  obtain ⟨D, hKc⟩ : ∃ D : va_G, ∀ (k : Nat) (q : vw_C), vwCl[k]? = some q → u_Kn s q.1 q.2.1 q.2.2 (D.1 k) (D.2 k) := by
    refine ⟨(fun _ => c1, fun _ => iS1), ?_⟩
    intro k q hq
    match k, hq with
    | 0, hq => cases hq; exact hKn1
    | k + 1, hq => simp [vwCl] at hq
  have X : sdX p s m #[Value.ref b] c cL_law 11 RX0 D [] A := ⟨⟨hx, hb, hml, hown, hts⟩, ⟨⟨hKc, fun k q h => by simp at h⟩, va_Nw.of rfl (hts0 _ q123)⟩, hA⟩
  have Z : sdZ D A s [] s.heap [] := ⟨fun k q h => by simp at h, ⟨fun i j p q h => by simp at h, fun k q h => by simp at h⟩, va_S.rf⟩
  have hl := lv_entry ([.ref b]) (n := 11) (Nat.le_of_ble_eq_true rfl)
  rw [lg_entry_eq]
  generalize (lg_sl ([.ref b]) ++ List.replicate (11 - (lg_sl ([.ref b])).length) Slot.unset).toArray = ls at hl ⊢
  have hl : lv_has ls 11 [(0, .ref b)] := hl
  refine va_new (D := D) (cl := vwCl) (ci := 0) (fs := [.null]) (C := RX1) (T := TX1) (N := 1) hx hb hts in_X1 tyX1 tyX1_ok hown (hts _ q9) (hts _ q10) (hts _ q3) X.2.1.1 Z.1 Z.2.1 Z.2.2 hA rfl (fun j hj => by rcases (show j = 0 by omega) with rfl; rfl) (Nat.le_of_ble_eq_true rfl) (Nat.le_of_ble_eq_true rfl) dL_law_0 (fun d H hP hD hS => ?_)
  have Z : sdZ D A s [(d, .inr (0, [.null]))] H [] := ⟨hP, hD, hS⟩
  refine lv_dup hx hb dL_law_3 rfl ?_
  refine sdCall_n (na := 0) (b := d) (As := []) (rest := [.ref d]) (wr := []) (k := 2) (n := 49) X Z (met_init l D d) q11 q12 q3 q13 rfl (by decide +kernel) rfl (Nat.le_of_ble_eq_true rfl) (Nat.le_of_ble_eq_true rfl) [0] [] [] (by decide) rfl rfl rfl (by decide) (by decide) rfl hl.1 rfl (Nat.le_of_ble_eq_true rfl) dL_law_4 (Nat.le_of_ble_eq_true rfl) (Nat.le_of_ble_eq_true rfl) (Nat.le_of_ble_eq_true rfl) (Nat.le_of_ble_eq_true rfl) (fun u H locs _ X Z => ?_)
  obtain ⟨ro, cA⟩ := u
  have X : sdX p s m #[Value.ref b] c cL_law 11 RX0 D [(cA, .short)] A := X
  have Z : sdZ D A s [sdO d ro, sdA ro cA 48 (fun _ => 0)] H locs := Z
  refine lv_astore_n (lv' := [(1, .ref d), (0, .ref b)]) hx hb dL_law_7 rfl hl (by decide) rfl (fun ls hl => ?_)
  refine lv_bipush (v := nI 48) hx hb dL_law_8 (by decide) ?_
  refine sd_new X Z (n := 48) (by omega) (Nat.le_of_ble_eq_true rfl) (Nat.le_of_ble_eq_true rfl) dL_law_10 (fun x cB H X Z => ?_)
  have X : sdX p s m #[Value.ref b] c cL_law 11 RX0 D [(cA, .short), (cB, .short)] A := X
  have Z : sdZ D A s [sdO d ro, sdA ro cA 48 (fun _ => 0), sdA x cB 48 (fun _ => 0)] _ _ := Z
  refine lv_astore_n (lv' := [(2, .ref x), (1, .ref d), (0, .ref b)]) hx hb dL_law_12 rfl hl (by decide) rfl (fun ls hl => ?_)
  refine lv_aload_n hx hb dL_law_13 rfl (lv_at hl 1 rfl) ?_
  refine lv_aload_n hx hb dL_law_14 rfl (lv_at hl 0 rfl) ?_
  refine lv_aload_n hx hb dL_law_15 rfl (lv_at hl 2 rfl) ?_
  refine lv_iconst (v := nI 0) hx hb dL_law_16 (by decide) ?_
  refine sdCall_s (na := 2) (As := [.ref b, .int (nI 0)]) (rest := [.ref x, .ref d]) (k := 3) (n := 97) X Z (met_cell l D hL (0) (by omega)) hX hbl hbA q53 q54 q2 q55 (by decide +kernel) rfl (Nat.le_of_ble_eq_true rfl) (Nat.le_of_ble_eq_true rfl) [0, 1, 2] rfl (by decide) hl.1 rfl (Nat.le_of_ble_eq_true rfl) dL_law_17 (by first | exact Nat.le_of_ble_eq_true rfl | (dsimp only [room_1]; omega)) (by first | exact Nat.le_of_ble_eq_true rfl | (dsimp only [room_1]; omega)) (by first | exact Nat.le_of_ble_eq_true rfl | (dsimp only; omega)) (by first | exact Nat.le_of_ble_eq_true rfl | (dsimp only; omega)) (fun v H locs Z => ?_)
  refine sdCall_si (na := 3) (As := [.ref d, .ref x, .int v]) (rest := []) (wr := []) (k := 3) (n := 97) X Z (met_alike l D Sh.zero v) q60 q61 q2 q62 (by decide +kernel) rfl (by first | exact Nat.le_of_ble_eq_true rfl | (dsimp only; omega)) (by first | exact Nat.le_of_ble_eq_true rfl | (dsimp only; omega)) [0, 1, 2] [] [0, 1] (by decide) rfl rfl rfl (by decide) (by decide) rfl hl.1 rfl (Nat.le_of_ble_eq_true rfl) dL_law_20 (by first | exact Nat.le_of_ble_eq_true rfl | (dsimp only [room_1]; omega)) (by first | exact Nat.le_of_ble_eq_true rfl | (dsimp only [room_1]; omega)) (by first | exact Nat.le_of_ble_eq_true rfl | (dsimp only; omega)) (by first | exact Nat.le_of_ble_eq_true rfl | (dsimp only; omega)) (fun q u H locs hq Z => ?_)
  have Z : sdZ D A s [sdO d ro, sdA ro cA 48 (fun _ => 0), sdA x cB 48 (fun _ => 0)] _ _ := Z
  refine sd_zne (tgt := 28) hx hb dL_law_23 (by decide) (fun h1 => ?_) (fun h1 => ?_)
  · refine lv_iconst (v := nI 0) hx hb dL_law_28 (by decide) ?_
    refine lv_istore_n (lv' := [(3, .int (nI 0)), (2, .ref x), (1, .ref d), (0, .ref b)]) hx hb dL_law_29 rfl hl (by decide) rfl (fun ls hl => ?_)
    refine lp_lset hL hX hbl hbA X (Nat.le_of_ble_eq_true rfl) (Nat.le_of_ble_eq_true rfl) (fun F H locs ls hF Z hl => ?_) 49 0 _ (by omega) (by omega) Sh.zero H locs ls Z (lv_sub hl [3, 2, 1, 0] rfl)
    refine lv_aload_n hx hb dL_law_104 rfl (lv_at hl 1 rfl) ?_
    refine lv_aload_n hx hb dL_law_105 rfl (lv_at hl 2 rfl) ?_
    refine lv_aload_n hx hb dL_law_106 rfl (lv_at hl 0 rfl) ?_
    refine lv_iconst (v := nI 1) hx hb dL_law_107 (by decide) ?_
    refine sdCall_s (na := 2) (As := [.ref b, .int (nI 1)]) (rest := [.ref x, .ref d]) (k := 3) (n := 97) X Z (met_cell l D hL (1) (by omega)) hX hbl hbA q53 q54 q2 q55 (by decide +kernel) rfl (Nat.le_of_ble_eq_true rfl) (Nat.le_of_ble_eq_true rfl) [0, 1, 2] rfl (by decide) hl.1 rfl (Nat.le_of_ble_eq_true rfl) dL_law_108 (by first | exact Nat.le_of_ble_eq_true rfl | (dsimp only [room_1]; omega)) (by first | exact Nat.le_of_ble_eq_true rfl | (dsimp only [room_1]; omega)) (by first | exact Nat.le_of_ble_eq_true rfl | (dsimp only; omega)) (by first | exact Nat.le_of_ble_eq_true rfl | (dsimp only; omega)) (fun v H locs Z => ?_)
    refine sdCall_si (na := 3) (As := [.ref d, .ref x, .int v]) (rest := []) (wr := []) (k := 3) (n := 97) X Z (met_alike l D hF v) q60 q61 q2 q62 (by decide +kernel) rfl (by first | exact Nat.le_of_ble_eq_true rfl | (dsimp only; omega)) (by first | exact Nat.le_of_ble_eq_true rfl | (dsimp only; omega)) [0, 1, 2] [] [0, 1] (by decide) rfl rfl rfl (by decide) (by decide) rfl hl.1 rfl (Nat.le_of_ble_eq_true rfl) dL_law_111 (by first | exact Nat.le_of_ble_eq_true rfl | (dsimp only [room_1]; omega)) (by first | exact Nat.le_of_ble_eq_true rfl | (dsimp only [room_1]; omega)) (by first | exact Nat.le_of_ble_eq_true rfl | (dsimp only; omega)) (by first | exact Nat.le_of_ble_eq_true rfl | (dsimp only; omega)) (fun q u H locs hq Z => ?_)
    have Z : sdZ D A s [sdO d ro, sdA ro cA 48 F, sdA x cB 48 F] _ _ := Z
    refine sd_zne (tgt := 119) hx hb dL_law_114 (by decide) (fun h2 => ?_) (fun h2 => ?_)
    · refine lv_bipush (v := nI 48) hx hb dL_law_119 (by decide) ?_
      refine lv_istore_n (lv' := [(3, .int (nI 48)), (0, .ref b), (1, .ref d), (2, .ref x)]) hx hb dL_law_121 rfl hl (by decide) rfl (fun ls hl => ?_)
      refine lp_lmain hL hX hbl hbA X (fun F H locs ls hF Z hl => ?_) 17 0 F (by omega) (by omega) hF H locs ls Z (lv_sub hl [1, 2, 3, 0] rfl)
      refine lv_iconst (v := nI 0) hx hb dL_law_382 (by decide) ?_
      refine lv_istore_n (lv' := [(3, .int (nI 0)), (0, .ref b), (1, .ref d), (2, .ref x)]) hx hb dL_law_383 rfl hl (by decide) rfl (fun ls hl => ?_)
      refine lp_lthree X (fun F H locs ls hF Z hl => ?_) 4 0 F (by omega) (by omega) hF H locs ls Z (lv_sub hl [1, 2, 3, 0] rfl)
      have Z : sdZ D A s [sdO d ro, sdA ro cA 48 F] H locs := Z.sub [0, 1] (by decide) rfl rfl
      refine lv_iconst (v := nI 0) hx hb dL_law_446 (by decide) ?_
      refine lv_istore_n (lv' := [(3, .int (nI 0)), (0, .ref b), (1, .ref d), (2, .ref x)]) hx hb dL_law_447 rfl hl (by decide) rfl (fun ls hl => ?_)
      refine lp_lput X (Nat.le_of_ble_eq_true rfl) (Nat.le_of_ble_eq_true rfl) (fun F H locs ls hF hV0 Z hl => ?_) 49 0 F (by omega) (by omega) hF (fun j hj => by omega) H locs ls Z (lv_sub hl [1, 2, 3, 0] rfl)
      refine lv_aload_n hx hb dL_law_480 rfl (lv_at hl 1 rfl) ?_
      refine lv_aload_n hx hb dL_law_481 rfl (lv_at hl 0 rfl) ?_
      refine lv_iconst (v := nI 2) hx hb dL_law_482 (by decide) ?_
      refine sdCall_s (na := 2) (As := [.ref b, .int (nI 2)]) (rest := [.ref d]) (k := 41) (n := 1921) X Z (met_cell l D hL (2) (by omega)) hX hbl hbA q53 q54 q2 q55 (by decide +kernel) rfl (Nat.le_of_ble_eq_true rfl) (Nat.le_of_ble_eq_true rfl) [0, 1] rfl (by decide) hl.1 rfl (Nat.le_of_ble_eq_true rfl) dL_law_483 (by first | exact Nat.le_of_ble_eq_true rfl | (dsimp only [room_1]; omega)) (by first | exact Nat.le_of_ble_eq_true rfl | (dsimp only [room_1]; omega)) (by first | exact Nat.le_of_ble_eq_true rfl | (dsimp only; omega)) (by first | exact Nat.le_of_ble_eq_true rfl | (dsimp only; omega)) (fun v H locs Z => ?_)
      refine sdCall_si (na := 1) (As := [.int v]) (rest := [.ref d]) (wr := [sdO d ro, sdA ro cA 48 F]) (k := 41) (n := 1921) X Z (met_bare l D v) q56 q57 q2 q58 (by decide +kernel) rfl (by first | exact Nat.le_of_ble_eq_true rfl | (dsimp only; omega)) (by first | exact Nat.le_of_ble_eq_true rfl | (dsimp only; omega)) [] [0, 1] [] (by decide) rfl rfl rfl (by decide) (by decide) rfl hl.1 rfl (Nat.le_of_ble_eq_true rfl) dL_law_486 (by first | exact Nat.le_of_ble_eq_true rfl | (dsimp only [room_1]; omega)) (by first | exact Nat.le_of_ble_eq_true rfl | (dsimp only [room_1]; omega)) (by first | exact Nat.le_of_ble_eq_true rfl | (dsimp only; omega)) (by first | exact Nat.le_of_ble_eq_true rfl | (dsimp only; omega)) (fun q u H locs hq Z => ?_)
      obtain rfl : q = nI (bre v) := hq
      have Z : sdZ D A s [sdO d ro, sdA ro cA 48 F] _ _ := Z
      refine lv_iconst (v := nI 3) hx hb dL_law_489 (by decide) ?_
      refine sd_irem (a := bre v) (d := 3) (k := (bre v) % 3) hx hb dL_law_490 (bre_lt _) (by omega) (by omega) rfl ?_
      refine lv_iconst (v := nI 0) hx hb dL_law_491 (by decide) ?_
      refine lv_bipush (v := nI 48) hx hb dL_law_492 (by decide) ?_
      refine sdCall_sv (na := 4) (As := [.ref d, .int (nI ((bre v) % 3)), .int (nI 0), .int (nI 48)]) (rest := []) (wr := []) (k := 42) (n := 1969) X Z (met_sorts l D hF (nI ((bre v) % 3)) (nI 0) (nI 48)) q72 q73 q2 q74 (by decide +kernel) rfl (by first | exact Nat.le_of_ble_eq_true rfl | (dsimp only; omega)) (by first | exact Nat.le_of_ble_eq_true rfl | (dsimp only; omega)) [0, 1] [] [0] (by decide) rfl rfl rfl (by decide) (by decide) rfl hl.1 rfl (Nat.le_of_ble_eq_true rfl) dL_law_494 (by first | exact Nat.le_of_ble_eq_true rfl | (dsimp only [room_1]; omega)) (by first | exact Nat.le_of_ble_eq_true rfl | (dsimp only [room_1]; omega)) (by first | exact Nat.le_of_ble_eq_true rfl | (dsimp only; omega)) (by first | exact Nat.le_of_ble_eq_true rfl | (dsimp only; omega)) (fun G H locs hG Z => ?_)
      have Z : sdZ D A s [sdO d ro, sdA ro cA 48 G] _ _ := Z
      rw [fr_0, tt_48] at hG
      have hV := mult_sorted hV0 hG
      have hGs : Sh G := hG.1.sh hF
      refine lv_iconst (v := nI 0) hx hb dL_law_497 (by decide) ?_
      refine lv_istore_n (lv' := [(3, .int (nI 0)), (0, .ref b), (1, .ref d), (2, .ref x)]) hx hb dL_law_498 rfl hl (by decide) rfl (fun ls hl => ?_)
      refine lp_lend hL hX hbl hbA hGs hV X (Nat.le_of_ble_eq_true rfl) (Nat.le_of_ble_eq_true rfl) (fun H locs ls Z hl => ?_) 49 0 (by omega) (by omega) H locs ls Z (lv_sub hl [1, 2, 3, 0] rfl)
      refine lv_aload_n hx hb dL_law_580 rfl (lv_at hl 1 rfl) ?_
      refine lv_iconst (v := nI 0) hx hb dL_law_581 (by decide) ?_
      refine lv_bipush (v := nI 48) hx hb dL_law_582 (by decide) ?_
      refine lv_sipush (v := -32768) hx hb dL_law_584 (by decide) ?_
      refine sdCall_vi (q0 := 0) (na := 3) (As := [.int (nI 0), .int (nI 48), .int (-32768)]) (rest := []) (wr := []) (k := 42) (n := 1969) X Z (met_dfind l D hGs (nI 0) (nI 48) (-32768)) rfl q46 q47 q48 q3 q49 (by decide +kernel) rfl (by first | exact Nat.le_of_ble_eq_true rfl | (dsimp only; omega)) (by first | exact Nat.le_of_ble_eq_true rfl | (dsimp only; omega)) [0, 1] [] [0] (by decide) rfl rfl rfl (by decide) (by decide) rfl hl.1 rfl (Nat.le_of_ble_eq_true rfl) dL_law_587 (by first | exact Nat.le_of_ble_eq_true rfl | (dsimp only [room_1]; omega)) (by first | exact Nat.le_of_ble_eq_true rfl | (dsimp only [room_1]; omega)) (by first | exact Nat.le_of_ble_eq_true rfl | (dsimp only; omega)) (by first | exact Nat.le_of_ble_eq_true rfl | (dsimp only; omega)) (fun r1 u H locs hr1 Z => ?_)
      have Z : sdZ D A s [sdO d ro, sdA ro cA 48 G] _ _ := Z
      have e1 := fd_at (mult_SA hV) (nar_of (by decide) (by decide)) hr1 (Or.inr ⟨0, Nat.le_refl _, by omega, fun j j1 j2 => by omega, fun j j1 j2 => by
        have g : (-32768 : Int32).toInt = -32768 := by decide
        rw [hV j j2, g]; omega, rfl⟩)
      refine lv_iconst (v := -1) hx hb dL_law_590 (by decide) ?_
      refine sd_tne (tgt := 611) hx hb dL_law_591 (by decide) (fun h3 => ?_) (fun h3 => ?_)
      · exact absurd (by rw [e1]; decide) h3
      · refine lv_aload_n hx hb dL_law_594 rfl (lv_at hl 1 rfl) ?_
        refine lv_bipush (v := nI 48) hx hb dL_law_595 (by decide) ?_
        refine lv_iconst (v := nI 0) hx hb dL_law_597 (by decide) ?_
        refine lv_iconst (v := nI 5) hx hb dL_law_598 (by decide) ?_
        refine sdCall_vi (q0 := 0) (na := 3) (As := [.int (nI 48), .int (nI 0), .int (nI 5)]) (rest := []) (wr := []) (k := 42) (n := 1969) X Z (met_dfind l D hGs (nI 48) (nI 0) (nI 5)) rfl q46 q47 q48 q3 q49 (by decide +kernel) rfl (by first | exact Nat.le_of_ble_eq_true rfl | (dsimp only; omega)) (by first | exact Nat.le_of_ble_eq_true rfl | (dsimp only; omega)) [0, 1] [] [0] (by decide) rfl rfl rfl (by decide) (by decide) rfl hl.1 rfl (Nat.le_of_ble_eq_true rfl) dL_law_599 (by first | exact Nat.le_of_ble_eq_true rfl | (dsimp only [room_1]; omega)) (by first | exact Nat.le_of_ble_eq_true rfl | (dsimp only [room_1]; omega)) (by first | exact Nat.le_of_ble_eq_true rfl | (dsimp only; omega)) (by first | exact Nat.le_of_ble_eq_true rfl | (dsimp only; omega)) (fun r2 u H locs hr2 Z => ?_)
        have Z : sdZ D A s [sdO d ro, sdA ro cA 48 G] _ _ := Z
        have e2 := fd_end hr2
        refine lv_bipush (v := -49) hx hb dL_law_602 (by decide) ?_
        refine sd_tne (tgt := 611) hx hb dL_law_604 (by decide) (fun h4 => ?_) (fun h4 => ?_)
        · exact absurd (by rw [e2]; decide) h4
        · refine lv_iconst (v := nI 1) hx hb dL_law_607 (by decide) ?_
          refine lv_goto (tgt := 612) hx hb dL_law_608 (by decide) ?_
          refine sd_top (y := 1) rfl ?_
          refine va_forget (fun q hq => by have := Z.2.2.2.2 q hq; rw [hAd] at this; exact this) ?_
          refine W.widen (k := 1200000) (n := 5502250) (Nat.le_of_ble_eq_true rfl) (Nat.le_of_ble_eq_true rfl) ?_
          exact lw_ret hx hb hr hlocks dL_law_612
    · exact absurd h2 (by rw [hq]; decide)
  · exact absurd h1 (by rw [hq]; decide)
end
section
set_option maxHeartbeats 4000000 in
theorem lw_walk (l : Launch) (hflags : l.flags = flags0) (b : Addr) (xs : List Int32) : MetFree l x (headSpec (Jvm.Cond.code x code maxLocals ret :: tables_1) room_1) (lw_P b xs) (fun _ _ _ _ _ => True) lw_Q := by
  refine MetFree.of_bodyS (code := code) (maxLocals := maxLocals) (ret := ret) (by decide) ?_ ?_
  · intro args s m h hn
    obtain ⟨meth, c, h1, h2, h3, h4, h5, h6, -, -⟩ := Cond.code_spec hn (atoms_spec (ws := Jvm.Cond.code x code maxLocals ret :: tables_1) h _ List.mem_cons_self)
    exact ⟨meth, c, h1, h2, h3, h4, h5, h6⟩
  · intro p e s m args below meth c s₁ B hml0 hP _
    obtain ⟨rfl, hx, hbd, hgv⟩ := hP
    obtain ⟨scr, harrAt, hlist, hof, hsmall⟩ := hx
    obtain ⟨hcb, hkn, -, -⟩ := State.arrayAt?_spec harrAt
    have hown : s.vm.findClass R_law = some m.cls := findClass_of_methodNamed B.named
    have hts0 : ∀ c ∈ (Jvm.Cond.code x code maxLocals ret :: tables_1), c.before #[Value.ref b] s = true := atoms_spec (ws := Jvm.Cond.code x code maxLocals ret :: tables_1) B.pre
    have hts : ∀ w ∈ lw_tbl, w.before #[Value.ref b] s = true := k2_hts_sels lw_privs (fun w hw => hts0 w (List.mem_cons_of_mem _ hw)) lw_privs_ok
    have hml : c.maxLocals = 11 := B.maxLocals_eq (hts0 _ List.mem_cons_self)
    have X₀ : Stand p l e room_1 s m #[Value.ref b] below meth c s₁ [] 0 0 := Stand.of_body B
    have hh0 : s₁.heap = s.heap := by rw [B.state]; rfl
    have hsz : scr.slots.size = xs.length := by rw [← Array.length_toList, hlist, List.length_map]
    have hval : ∀ j : Nat, j < xs.length → scr.slots[j]? = some (.int (xs.getD j 0)) := fun j hj => by
      rw [← Array.getElem?_toList, hlist]
      simp [hj]
    have hbl : b < s.heap.size := (Array.getElem?_eq_some_iff.mp hcb).1
    have hX : va_X b xs.length (fun j => xs.getD j 0) s s.heap := ⟨scr, hcb, hof, hkn, hsz, hval⟩
    have K : W p l e room_1 s m #[Value.ref b] below meth c s₁.heap [] 0 0 (lw_Z below #[Value.ref b] s) (entryFrame m ([Value.ref b] : List Value).toArray 11) := by
      rw [hh0]
      exact whole_start l hflags hbd ⟨B.exec, B.bytes, B.returns, hml, hown, hts, hX, hbl, B.notSynchronized, hgv⟩
    obtain ⟨t, a1, o, b1, b2, b3⟩ := K s₁ rfl X₀
    exact ⟨t, o, a1, b1, b2, b3⟩
theorem lw_pre_spec {args : Array Value} {s : State} (h : (Jvm.Cond.and given_1 narrow_1).before args s = true) (hr : rest_1_c.before args s = true) : ∃ (b : Addr) (xs : List Int32), lw_P b xs args s := by
  have hs := flat_of_before _ h
  have hq := flat_of_before _ hr
  have hc : (Cond.count 1).before args s = true := hs _ (by decide +kernel)
  have harr : (Cond.arrayOf (.arg 0) .int).before args s = true := hs _ (by decide +kernel)
  have hle : (Cond.le (.length (.arg 0)) (.int 96)).before args s = true := hs _ (by decide +kernel)
  have hlen : (Cond.isInt (.length (.arg 0))).before args s = true := hq _ (by decide +kernel)
  have hall : (Cond.all (.arg 0) (.isInt (.elem (.arg 0) (.index 0)))).before args s = true := hq _ (by decide +kernel)
  obtain ⟨b, xs, hb, hx⟩ := State.ints_of_pre rfl harr hlen hall
  have hsm : xs.length < 2 ^ 31 := hx.choose_spec.2.2.2
  have hev : (Term.length (.arg 0)).eval args s none [] s = some (.int xs.length.toInt32) := hx.length_eval hb
  have hv := Cond.le_ints hev (show (Term.int 96).eval args s none [] s = some (.int 96) from rfl)
  have hd : xs.length.toInt32 ≤ 96 := by
    simpa [Cond.before, Cond.holds, hv] using hle
  have hN : xs.length ≤ 96 := (Int32.ofNat_le_ofNat hsm (by decide)).mp (show Int32.ofNat xs.length ≤ Int32.ofNat 96 from hd)
  exact ⟨b, xs, Cond.one_arg hc (show args[0]? = some (.ref b) from hb), hx, hN, h⟩
theorem lw_comes (l : Launch) (hflags : l.flags = flags0) : Comes l x (Jvm.Cond.code x code maxLocals ret :: tables_1) room_1 (fun tb e args s => Calls_1 tb e args s ∧ rest_1 tb e args s ∧ Pre_1 tb e args s)
    (fun _ _ args s o t => lw_Q args s o t) := by
  intro p e ha hc hk s m args below hf hfit hheap happ hpre
  obtain ⟨b, xs, hP⟩ := lw_pre_spec hpre.2.2 hpre.2.1
  obtain ⟨k, o, h1, h2, h3, hQ⟩ := lw_walk l hflags b xs p e ha hc hk s m args below hf ((Spec.applies_iff_loose hf).mp happ).1 hP trivial
  exact ⟨k, o, h1, h2, h3, hQ⟩
theorem lw_frame {s t : State} {o : Outcome} {args : Array Value} (h : Framed s o t [] 1200000 5502250) :
    Framed s o t (fieldLocs frame_1_writes args s ++ arrayLocs frame_1_arrays args s ++ staticLocs frame_1_statics s) 1200000 5502250 := h
theorem lw_limb (L : Cond) (hL : ∀ (args : Array Value) (s t : State), L.after args s (.returned (some (.int 1))) t = true) :
    ArmFor flags0 classFile x code maxLocals ret World_1 tables_1 room_1 Calls_1 rest_1 Pre_1
      (fun tb e a s o t => postC L tb e a s o t ∧ Framed s o t (fieldLocs frame_1_writes a s ++ arrayLocs frame_1_arrays a s ++ staticLocs frame_1_statics s) 1200000 5502250) := by
  intro l hflags _ _ p e ha hc hk s m args below hf hfit hheap happ hpre
  obtain ⟨k, o, h1, h2, h3, rfl, hF⟩ := lw_comes l hflags p e ha hc hk s m args below hf hfit hheap happ hpre
  exact ⟨k, _, h1, h2, h3, hL args s _, lw_frame hF⟩
theorem i_vc : Claimed_1_1 ∧ Claimed_1_2 := ⟨lw_limb limb_1_1 (fun args s t => by simp [limb_1_1, Cond.after, Cond.holds, Cond.value]), lw_limb limb_1_2 (fun args s t => Cond.after_iff.mpr (by
  first | (rw [show limb_1_2 = Cond.eq .result (.int 1) from rfl, Cond.eq_ints (x := 1) (y := 1) rfl rfl]; simp; done) | (simp [limb_1_2, Cond.value, Term.eval]; done)))⟩
end
