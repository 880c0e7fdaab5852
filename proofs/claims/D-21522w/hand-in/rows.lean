section
-- ===== PART A: goes FIRST, ahead of the names: the tables' words, and 'selects' of the private methods out of them =====
/-- a private method of a class that the tables say can be made, by its rows of tables_1 -/
def lw_okq (q : MethodName × Nat) : Prop := (q.1.cls ≠ "java/lang/invoke/MethodHandle" ∧ q.1.cls ≠ "java/lang/invoke/VarHandle") ∧ Cond.instantiable q.1.cls q.2 ∈ tables_1 ∧ Cond.privateMethod q.1 ∈ tables_1 ∧ Cond.instanceMethod q.1 ∈ tables_1
set_option maxRecDepth 100000
theorem lw_p0 : lw_okq (⟨"SumJoin", "word", "(II)V"⟩, 2) := ⟨⟨by decide +kernel, by decide +kernel⟩, List.mem_of_getElem? (i := 5) rfl, List.mem_of_getElem? (i := 25) rfl, List.mem_of_getElem? (i := 26) rfl⟩
theorem lw_p1 : lw_okq (⟨"SumJoin", "from", "(I)I"⟩, 2) := ⟨⟨by decide +kernel, by decide +kernel⟩, List.mem_of_getElem? (i := 5) rfl, List.mem_of_getElem? (i := 33) rfl, List.mem_of_getElem? (i := 34) rfl⟩
theorem lw_p2 : lw_okq (⟨"SumJoin", "count", "(II)I"⟩, 2) := ⟨⟨by decide +kernel, by decide +kernel⟩, List.mem_of_getElem? (i := 5) rfl, List.mem_of_getElem? (i := 46) rfl, List.mem_of_getElem? (i := 47) rfl⟩
def lw_privs_1 : List (MethodName × Nat) := [(⟨"SumJoin", "word", "(II)V"⟩, 2), (⟨"SumJoin", "from", "(I)I"⟩, 2), (⟨"SumJoin", "count", "(II)I"⟩, 2)]
theorem lw_r1 : ∀ q ∈ lw_privs_1, lw_okq q := List.forall_mem_cons.mpr ⟨lw_p0, List.forall_mem_cons.mpr ⟨lw_p1, List.forall_mem_cons.mpr ⟨lw_p2, fun _ h => absurd h List.not_mem_nil⟩⟩⟩
def lw_privs : List (MethodName × Nat) := lw_privs_1
def lw_tbl : List Cond := k2_sels lw_privs ++ tables_1
theorem lw_privs_ok : ∀ q ∈ lw_privs, lw_okq q := lw_r1
-- ===== ONE list of words for every method: the tables' words that hold all through a run =====
def lw_all : List Cond := lw_tbl.filter goodWord
/-- a word of the tables by its place: claim/WORDS.tsv -/
theorem lw_w {w : Cond} (i : Nat) (h : lw_tbl[i]? = some w) (g : goodWord w = true) : w ∈ lw_all := List.mem_filter.mpr ⟨List.mem_of_getElem? h, g⟩
theorem lw_all_tbl {w : Cond} (h : w ∈ lw_all) : w ∈ lw_tbl := (List.mem_filter.mp h).1
theorem lw_self : GoodIn lw_all lw_all := fun w h => ⟨h, good_of_word (List.mem_filter.mp h).2⟩
/-- a class's field words, by their places -/
theorem lw_in (ws : List Cond) (ps : List Nat) (hp : ws = ps.filterMap (fun i => lw_tbl[i]?)) (hg : ws.all goodWord = true) : ∀ w ∈ ws, w ∈ lw_all := by
  intro w h
  have h1 := List.all_eq_true.mp hg w h
  rw [hp] at h
  obtain ⟨i, -, hi⟩ := List.mem_filterMap.mp h
  exact lw_w i hi h1
/-- the words of a contract for the method y with code b, L locals, answer r -/
abbrev ws_ (y : MethodName) (b : ByteArray) (L : Nat) (r : Option FieldType) : List Cond := Cond.code y b L r :: lw_all
theorem lw_meth {y : MethodName} {b : ByteArray} {L : Nat} {r : Option FieldType} (h : Cond.code y b L r ∈ lw_all) : GoodIn lw_all (ws_ y b L r) := by
  intro w hw
  rcases List.mem_cons.mp hw with e | e
  · rw [e]
    exact lw_self _ h
  · exact lw_self _ e
theorem lw_app {a c : List Cond} (ha : ∀ w ∈ a, w ∈ lw_all) (hc : GoodIn lw_all c) : GoodIn lw_all (a ++ c) := by
  intro w hw
  rcases List.mem_append.mp hw with e | e
  · exact lw_self w (ha w e)
  · exact hc w e
/-- what a call through an object asks: cwV n hts (lw_V ..) -/
theorem lw_V {own : String} {idx : Nat} {C : String} {y : MethodName} {b : ByteArray} {L : Nat} {r : Option FieldType} (h1 : Cond.methodLink own idx y ∈ lw_all) (h2 : Cond.instanceMethod y ∈ lw_all) (h3 : Cond.selects C y y ∈ lw_all) (h4 : Cond.initialized C ∈ lw_all) (h5 : Cond.code y b L r ∈ lw_all) : GoodIn lw_all (wsV own idx C y (ws_ y b L r)) := by
  refine lw_app ?_ (lw_meth h5)
  intro w hw
  simp only [List.mem_cons, List.not_mem_nil, or_false] at hw
  rcases hw with e | e | e | e
  · rw [e]; exact h1
  · rw [e]; exact h2
  · rw [e]; exact h3
  · rw [e]; exact h4
/-- what a static call asks: va_cwS n hts (lw_S ..) -/
theorem lw_S {own : String} {idx : Nat} {y : MethodName} {b : ByteArray} {L : Nat} {r : Option FieldType} (h1 : Cond.methodLink own idx y ∈ lw_all) (h2 : Cond.static y ∈ lw_all) (h3 : Cond.initialized y.cls ∈ lw_all) (h4 : Cond.code y b L r ∈ lw_all) : GoodIn lw_all (va_wsS own idx y (ws_ y b L r)) := by
  refine lw_app ?_ (lw_meth h4)
  intro w hw
  simp only [List.mem_cons, List.not_mem_nil, or_false] at hw
  rcases hw with e | e | e
  · rw [e]; exact h1
  · rw [e]; exact h2
  · rw [e]; exact h3
/-- the words of a contract for a method WITH HANDLERS (hh: its table) -/
abbrev wsW_ (y : MethodName) (b : ByteArray) (L : Nat) (r : Option FieldType) (hh : List (Nat × Nat × Nat × Nat)) : List Cond := Cond.codeWith y b L r hh :: lw_all
theorem lw_methW {y : MethodName} {b : ByteArray} {L : Nat} {r : Option FieldType} {hh : List (Nat × Nat × Nat × Nat)} (h : Cond.codeWith y b L r hh ∈ lw_all) : GoodIn lw_all (wsW_ y b L r hh) := by
  intro w hw
  rcases List.mem_cons.mp hw with e | e
  · rw [e]
    exact lw_self _ h
  · exact lw_self _ e
/-- any list of words by their places (lw_in), good -/
theorem lw_good {ws : List Cond} (h : ∀ w ∈ ws, w ∈ lw_all) : GoodIn lw_all ws := fun w hw => lw_self w (h w hw)
/-- what a call of a method with handlers asks: vx_cwVW n hts (lw_VW ..), vx_cwSW n hts (lw_SW ..) -/
theorem lw_VW {own : String} {idx : Nat} {C : String} {y : MethodName} {b : ByteArray} {L : Nat} {r : Option FieldType} {hh : List (Nat × Nat × Nat × Nat)} (h1 : Cond.methodLink own idx y ∈ lw_all) (h2 : Cond.instanceMethod y ∈ lw_all) (h3 : Cond.selects C y y ∈ lw_all) (h4 : Cond.initialized C ∈ lw_all) (h5 : Cond.codeWith y b L r hh ∈ lw_all) : GoodIn lw_all (wsV own idx C y (wsW_ y b L r hh)) := by
  refine lw_app ?_ (lw_methW h5)
  intro w hw
  simp only [List.mem_cons, List.not_mem_nil, or_false] at hw
  rcases hw with e | e | e | e
  · rw [e]; exact h1
  · rw [e]; exact h2
  · rw [e]; exact h3
  · rw [e]; exact h4
theorem lw_SW {own : String} {idx : Nat} {y : MethodName} {b : ByteArray} {L : Nat} {r : Option FieldType} {hh : List (Nat × Nat × Nat × Nat)} (h1 : Cond.methodLink own idx y ∈ lw_all) (h2 : Cond.static y ∈ lw_all) (h3 : Cond.initialized y.cls ∈ lw_all) (h4 : Cond.codeWith y b L r hh ∈ lw_all) : GoodIn lw_all (va_wsS own idx y (wsW_ y b L r hh)) := by
  refine lw_app ?_ (lw_methW h4)
  intro w hw
  simp only [List.mem_cons, List.not_mem_nil, or_false] at hw
  rcases hw with e | e | e
  · rw [e]; exact h1
  · rw [e]; exact h2
  · rw [e]; exact h3
/-- a word by its place in its run of the tables -/
theorem lw_at {r : List Cond} (hr : ∀ w ∈ r, w ∈ lw_tbl) {w : Cond} (i : Nat) (h : r[i]? = some w) : w ∈ lw_tbl := hr w (List.mem_of_getElem? h)
theorem lw_g {w : Cond} (h : w ∈ lw_tbl) (g : goodWord w = true) : w ∈ lw_all := List.mem_filter.mpr ⟨h, g⟩
theorem lw_ms : ∀ w ∈ k2_sels lw_privs, w ∈ lw_tbl := fun w h => show w ∈ k2_sels lw_privs ++ tables_1 from List.mem_append_left _ h
theorem lw_m0 : ∀ w ∈ tables_1, w ∈ lw_tbl := fun w h => show w ∈ k2_sels lw_privs ++ tables_1 from List.mem_append_right (k2_sels lw_privs) h
theorem qs0 : (Cond.selects "SumJoin" ⟨"SumJoin", "word", "(II)V"⟩ ⟨"SumJoin", "word", "(II)V"⟩) ∈ lw_all := lw_g (lw_at lw_ms 0 rfl) rfl
theorem qs1 : (Cond.selects "SumJoin" ⟨"SumJoin", "from", "(I)I"⟩ ⟨"SumJoin", "from", "(I)I"⟩) ∈ lw_all := lw_g (lw_at lw_ms 1 rfl) rfl
theorem qs2 : (Cond.selects "SumJoin" ⟨"SumJoin", "count", "(II)I"⟩ ⟨"SumJoin", "count", "(II)I"⟩) ∈ lw_all := lw_g (lw_at lw_ms 2 rfl) rfl
-- ===== end of PART A; then your names; then what follows =====
end
section
/-! DECODE ROWS BY BYTES: one lemma an opcode; a method's code is cut into short pieces once, and a row reads its own piece alone. -/
set_option maxRecDepth 100000
/-- the code has just these bytes from pc on -/
def DkAt (code : ByteArray) (pc : Nat) (bs : List UInt8) : Prop := ∀ (j : Nat) (b : UInt8), bs[j]? = some b → code.data.toList[pc + j]? = some b
/-- the piece W has the bytes bs from its place j on -/
def dkIn (W : List UInt8) (j : Nat) (bs : List UInt8) : Bool := decide ((W.drop j).take bs.length = bs)
theorem dk_seg {l W T : List UInt8} {o o2 : Nat} (h : l.drop o = W ++ T) (n : Nat) (hn : W.length = n) (ho : o + n = o2) : l.drop o2 = T := by
  subst ho
  rw [← List.drop_drop, h, List.drop_left' hn]
theorem dk_at {code : ByteArray} {W T bs : List UInt8} {o pc : Nat} (h : code.data.toList.drop o = W ++ T) (j : Nat) (hp : o + j = pc) (hw : dkIn W j bs = true) : DkAt code pc bs := by
  subst hp
  intro i b e
  have h1 := of_decide_eq_true hw
  have h2 : i < bs.length := (List.getElem?_eq_some_iff.mp e).1
  have h3 : W[j + i]? = some b := by
    rw [← h1, List.getElem?_take, if_pos h2, List.getElem?_drop] at e
    exact e
  have h4 : j + i < W.length := (List.getElem?_eq_some_iff.mp h3).1
  have h5 : (code.data.toList.drop o)[j + i]? = some b := by
    rw [h, List.getElem?_append_left h4]
    exact h3
  rw [List.getElem?_drop, ← Nat.add_assoc] at h5
  exact h5
theorem dk_u1 {A : ByteArray} {p : Nat} {b : UInt8} (h : A.data.toList[p]? = some b) : (Reader.u1 : Reader DecodeError Nat) A p = .ok (b.toNat, p + 1) := by
  obtain ⟨h1, h2⟩ := List.getElem?_eq_some_iff.mp h
  have h3 : p < A.size := by simpa using h1
  have h4 : A[p]'h3 = b := h2
  have e : (Reader.u1 : Reader DecodeError Nat) A p = (if h : p < A.size then .ok (A[p].toNat, p + 1) else .error (HasTruncated.truncated p)) := by
    show (do if h : p < A.size then do set (p + 1); Pure.pure A[p].toNat else MonadExcept.throw (HasTruncated.truncated p) : Reader DecodeError Nat) A p = _
    by_cases hi : p < A.size
    · rw [dif_pos hi, dif_pos hi]; rfl
    · rw [dif_neg hi, dif_neg hi]; rfl
  rw [e, dif_pos h3, h4]
theorem dk_bind {α β : Type} {r : Reader DecodeError α} {f : α → Reader DecodeError β} {A : ByteArray} {p s : Nat} {a : α} (h : r A p = .ok (a, s)) : (r >>= f) A p = f a A s := by
  show (do let (a, s) ← r A p; f a A s : Except DecodeError (β × Nat)) = _
  rw [h]
  rfl
theorem dk_map {α β : Type} {r : Reader DecodeError α} {g : α → β} {A : ByteArray} {p s : Nat} {a : α} (h : r A p = .ok (a, s)) : (g <$> r) A p = .ok (g a, s) := by
  show (do let (a, s) ← r A p; .ok (g a, s) : Except DecodeError (β × Nat)) = _
  rw [h]
  rfl
theorem dk_u2 {A : ByteArray} {p : Nat} {a b : UInt8} (h : A.data.toList[p]? = some a) (h2 : A.data.toList[p + 1]? = some b) : (Reader.u2 : Reader DecodeError Nat) A p = .ok (a.toNat * 256 + b.toNat, p + 2) := by
  show (Reader.u1 >>= fun hi => Reader.u1 >>= fun lo => Pure.pure (hi * 256 + lo) : Reader DecodeError Nat) A p = _
  rw [dk_bind (dk_u1 h), dk_bind (dk_u1 h2)]
  rfl
theorem dk_of {code : ByteArray} {pc n : Nat} {i : Instr} (h : Decoder.instr pc code pc = .ok (i, pc + n)) : decode code pc = .ok (i, n) := by
  have e : decode code pc = (match Decoder.instr pc code pc with | .error x => .error x | .ok (j, s) => .ok (j, s - pc)) := by
    show (do let (j, s) ← Decoder.instr pc code pc; Pure.pure (j, s - pc) : Except DecodeError (Instr × Nat)) = _
    cases Decoder.instr pc code pc <;> rfl
  rw [e, h]
  show Except.ok (i, pc + n - pc) = _
  rw [Nat.add_sub_cancel_left]
theorem dk_2 {code : ByteArray} {pc : Nat} (h : DkAt code pc [2]) : decode code pc = .ok (.iconst (-1), 1) := dk_of ((dk_bind (dk_u1 (h 0 _ rfl))).trans rfl)
theorem dk_3 {code : ByteArray} {pc : Nat} (h : DkAt code pc [3]) : decode code pc = .ok (.iconst 0, 1) := dk_of ((dk_bind (dk_u1 (h 0 _ rfl))).trans rfl)
theorem dk_4 {code : ByteArray} {pc : Nat} (h : DkAt code pc [4]) : decode code pc = .ok (.iconst 1, 1) := dk_of ((dk_bind (dk_u1 (h 0 _ rfl))).trans rfl)
theorem dk_5 {code : ByteArray} {pc : Nat} (h : DkAt code pc [5]) : decode code pc = .ok (.iconst 2, 1) := dk_of ((dk_bind (dk_u1 (h 0 _ rfl))).trans rfl)
theorem dk_6 {code : ByteArray} {pc : Nat} (h : DkAt code pc [6]) : decode code pc = .ok (.iconst 3, 1) := dk_of ((dk_bind (dk_u1 (h 0 _ rfl))).trans rfl)
theorem dk_7 {code : ByteArray} {pc : Nat} (h : DkAt code pc [7]) : decode code pc = .ok (.iconst 4, 1) := dk_of ((dk_bind (dk_u1 (h 0 _ rfl))).trans rfl)
theorem dk_9 {code : ByteArray} {pc : Nat} (h : DkAt code pc [9]) : decode code pc = .ok (.lconst 0, 1) := dk_of ((dk_bind (dk_u1 (h 0 _ rfl))).trans rfl)
theorem dk_10 {code : ByteArray} {pc : Nat} (h : DkAt code pc [10]) : decode code pc = .ok (.lconst 1, 1) := dk_of ((dk_bind (dk_u1 (h 0 _ rfl))).trans rfl)
theorem dk_16 {code : ByteArray} {pc : Nat} (a : UInt8) (h : DkAt code pc [16, a]) : decode code pc = .ok (.bipush (Reader.signed 8 a.toNat), 2) := dk_of ((dk_bind (dk_u1 (h 0 _ rfl))).trans ((dk_bind (dk_map (dk_u1 (h 1 _ rfl)))).trans rfl))
theorem dk_17 {code : ByteArray} {pc : Nat} (a b : UInt8) (h : DkAt code pc [17, a, b]) : decode code pc = .ok (.sipush (Reader.signed 16 (a.toNat * 256 + b.toNat)), 3) := dk_of ((dk_bind (dk_u1 (h 0 _ rfl))).trans ((dk_bind (dk_map (dk_u2 (h 1 _ rfl) (h 2 _ rfl)))).trans rfl))
theorem dk_18 {code : ByteArray} {pc : Nat} (a : UInt8) (h : DkAt code pc [18, a]) : decode code pc = .ok (.ldc a.toNat, 2) := dk_of ((dk_bind (dk_u1 (h 0 _ rfl))).trans ((dk_bind (dk_u1 (h 1 _ rfl))).trans rfl))
theorem dk_20 {code : ByteArray} {pc : Nat} (a b : UInt8) (h : DkAt code pc [20, a, b]) : decode code pc = .ok (.ldc2_w (a.toNat * 256 + b.toNat), 3) := dk_of ((dk_bind (dk_u1 (h 0 _ rfl))).trans ((dk_bind (dk_u2 (h 1 _ rfl) (h 2 _ rfl))).trans rfl))
theorem dk_21 {code : ByteArray} {pc : Nat} (a : UInt8) (h : DkAt code pc [21, a]) : decode code pc = .ok (.iload a.toNat, 2) := dk_of ((dk_bind (dk_u1 (h 0 _ rfl))).trans ((dk_bind (dk_u1 (h 1 _ rfl))).trans rfl))
theorem dk_22 {code : ByteArray} {pc : Nat} (a : UInt8) (h : DkAt code pc [22, a]) : decode code pc = .ok (.lload a.toNat, 2) := dk_of ((dk_bind (dk_u1 (h 0 _ rfl))).trans ((dk_bind (dk_u1 (h 1 _ rfl))).trans rfl))
theorem dk_25 {code : ByteArray} {pc : Nat} (a : UInt8) (h : DkAt code pc [25, a]) : decode code pc = .ok (.aload a.toNat, 2) := dk_of ((dk_bind (dk_u1 (h 0 _ rfl))).trans ((dk_bind (dk_u1 (h 1 _ rfl))).trans rfl))
theorem dk_26 {code : ByteArray} {pc : Nat} (h : DkAt code pc [26]) : decode code pc = .ok (.iload_n 0, 1) := dk_of ((dk_bind (dk_u1 (h 0 _ rfl))).trans rfl)
theorem dk_27 {code : ByteArray} {pc : Nat} (h : DkAt code pc [27]) : decode code pc = .ok (.iload_n 1, 1) := dk_of ((dk_bind (dk_u1 (h 0 _ rfl))).trans rfl)
theorem dk_28 {code : ByteArray} {pc : Nat} (h : DkAt code pc [28]) : decode code pc = .ok (.iload_n 2, 1) := dk_of ((dk_bind (dk_u1 (h 0 _ rfl))).trans rfl)
theorem dk_29 {code : ByteArray} {pc : Nat} (h : DkAt code pc [29]) : decode code pc = .ok (.iload_n 3, 1) := dk_of ((dk_bind (dk_u1 (h 0 _ rfl))).trans rfl)
theorem dk_30 {code : ByteArray} {pc : Nat} (h : DkAt code pc [30]) : decode code pc = .ok (.lload_n 0, 1) := dk_of ((dk_bind (dk_u1 (h 0 _ rfl))).trans rfl)
theorem dk_31 {code : ByteArray} {pc : Nat} (h : DkAt code pc [31]) : decode code pc = .ok (.lload_n 1, 1) := dk_of ((dk_bind (dk_u1 (h 0 _ rfl))).trans rfl)
theorem dk_32 {code : ByteArray} {pc : Nat} (h : DkAt code pc [32]) : decode code pc = .ok (.lload_n 2, 1) := dk_of ((dk_bind (dk_u1 (h 0 _ rfl))).trans rfl)
theorem dk_33 {code : ByteArray} {pc : Nat} (h : DkAt code pc [33]) : decode code pc = .ok (.lload_n 3, 1) := dk_of ((dk_bind (dk_u1 (h 0 _ rfl))).trans rfl)
theorem dk_42 {code : ByteArray} {pc : Nat} (h : DkAt code pc [42]) : decode code pc = .ok (.aload_n 0, 1) := dk_of ((dk_bind (dk_u1 (h 0 _ rfl))).trans rfl)
theorem dk_43 {code : ByteArray} {pc : Nat} (h : DkAt code pc [43]) : decode code pc = .ok (.aload_n 1, 1) := dk_of ((dk_bind (dk_u1 (h 0 _ rfl))).trans rfl)
theorem dk_46 {code : ByteArray} {pc : Nat} (h : DkAt code pc [46]) : decode code pc = .ok (.iaload, 1) := dk_of ((dk_bind (dk_u1 (h 0 _ rfl))).trans rfl)
theorem dk_47 {code : ByteArray} {pc : Nat} (h : DkAt code pc [47]) : decode code pc = .ok (.laload, 1) := dk_of ((dk_bind (dk_u1 (h 0 _ rfl))).trans rfl)
theorem dk_51 {code : ByteArray} {pc : Nat} (h : DkAt code pc [51]) : decode code pc = .ok (.baload, 1) := dk_of ((dk_bind (dk_u1 (h 0 _ rfl))).trans rfl)
theorem dk_54 {code : ByteArray} {pc : Nat} (a : UInt8) (h : DkAt code pc [54, a]) : decode code pc = .ok (.istore a.toNat, 2) := dk_of ((dk_bind (dk_u1 (h 0 _ rfl))).trans ((dk_bind (dk_u1 (h 1 _ rfl))).trans rfl))
theorem dk_55 {code : ByteArray} {pc : Nat} (a : UInt8) (h : DkAt code pc [55, a]) : decode code pc = .ok (.lstore a.toNat, 2) := dk_of ((dk_bind (dk_u1 (h 0 _ rfl))).trans ((dk_bind (dk_u1 (h 1 _ rfl))).trans rfl))
theorem dk_58 {code : ByteArray} {pc : Nat} (a : UInt8) (h : DkAt code pc [58, a]) : decode code pc = .ok (.astore a.toNat, 2) := dk_of ((dk_bind (dk_u1 (h 0 _ rfl))).trans ((dk_bind (dk_u1 (h 1 _ rfl))).trans rfl))
theorem dk_61 {code : ByteArray} {pc : Nat} (h : DkAt code pc [61]) : decode code pc = .ok (.istore_n 2, 1) := dk_of ((dk_bind (dk_u1 (h 0 _ rfl))).trans rfl)
theorem dk_62 {code : ByteArray} {pc : Nat} (h : DkAt code pc [62]) : decode code pc = .ok (.istore_n 3, 1) := dk_of ((dk_bind (dk_u1 (h 0 _ rfl))).trans rfl)
theorem dk_63 {code : ByteArray} {pc : Nat} (h : DkAt code pc [63]) : decode code pc = .ok (.lstore_n 0, 1) := dk_of ((dk_bind (dk_u1 (h 0 _ rfl))).trans rfl)
theorem dk_64 {code : ByteArray} {pc : Nat} (h : DkAt code pc [64]) : decode code pc = .ok (.lstore_n 1, 1) := dk_of ((dk_bind (dk_u1 (h 0 _ rfl))).trans rfl)
theorem dk_66 {code : ByteArray} {pc : Nat} (h : DkAt code pc [66]) : decode code pc = .ok (.lstore_n 3, 1) := dk_of ((dk_bind (dk_u1 (h 0 _ rfl))).trans rfl)
theorem dk_75 {code : ByteArray} {pc : Nat} (h : DkAt code pc [75]) : decode code pc = .ok (.astore_n 0, 1) := dk_of ((dk_bind (dk_u1 (h 0 _ rfl))).trans rfl)
theorem dk_76 {code : ByteArray} {pc : Nat} (h : DkAt code pc [76]) : decode code pc = .ok (.astore_n 1, 1) := dk_of ((dk_bind (dk_u1 (h 0 _ rfl))).trans rfl)
theorem dk_80 {code : ByteArray} {pc : Nat} (h : DkAt code pc [80]) : decode code pc = .ok (.lastore, 1) := dk_of ((dk_bind (dk_u1 (h 0 _ rfl))).trans rfl)
theorem dk_84 {code : ByteArray} {pc : Nat} (h : DkAt code pc [84]) : decode code pc = .ok (.bastore, 1) := dk_of ((dk_bind (dk_u1 (h 0 _ rfl))).trans rfl)
theorem dk_87 {code : ByteArray} {pc : Nat} (h : DkAt code pc [87]) : decode code pc = .ok (.pop, 1) := dk_of ((dk_bind (dk_u1 (h 0 _ rfl))).trans rfl)
theorem dk_89 {code : ByteArray} {pc : Nat} (h : DkAt code pc [89]) : decode code pc = .ok (.dup, 1) := dk_of ((dk_bind (dk_u1 (h 0 _ rfl))).trans rfl)
theorem dk_96 {code : ByteArray} {pc : Nat} (h : DkAt code pc [96]) : decode code pc = .ok (.iadd, 1) := dk_of ((dk_bind (dk_u1 (h 0 _ rfl))).trans rfl)
theorem dk_97 {code : ByteArray} {pc : Nat} (h : DkAt code pc [97]) : decode code pc = .ok (.ladd, 1) := dk_of ((dk_bind (dk_u1 (h 0 _ rfl))).trans rfl)
theorem dk_100 {code : ByteArray} {pc : Nat} (h : DkAt code pc [100]) : decode code pc = .ok (.isub, 1) := dk_of ((dk_bind (dk_u1 (h 0 _ rfl))).trans rfl)
theorem dk_101 {code : ByteArray} {pc : Nat} (h : DkAt code pc [101]) : decode code pc = .ok (.lsub, 1) := dk_of ((dk_bind (dk_u1 (h 0 _ rfl))).trans rfl)
theorem dk_105 {code : ByteArray} {pc : Nat} (h : DkAt code pc [105]) : decode code pc = .ok (.lmul, 1) := dk_of ((dk_bind (dk_u1 (h 0 _ rfl))).trans rfl)
theorem dk_108 {code : ByteArray} {pc : Nat} (h : DkAt code pc [108]) : decode code pc = .ok (.idiv, 1) := dk_of ((dk_bind (dk_u1 (h 0 _ rfl))).trans rfl)
theorem dk_112 {code : ByteArray} {pc : Nat} (h : DkAt code pc [112]) : decode code pc = .ok (.irem, 1) := dk_of ((dk_bind (dk_u1 (h 0 _ rfl))).trans rfl)
theorem dk_113 {code : ByteArray} {pc : Nat} (h : DkAt code pc [113]) : decode code pc = .ok (.lrem, 1) := dk_of ((dk_bind (dk_u1 (h 0 _ rfl))).trans rfl)
theorem dk_121 {code : ByteArray} {pc : Nat} (h : DkAt code pc [121]) : decode code pc = .ok (.lshl, 1) := dk_of ((dk_bind (dk_u1 (h 0 _ rfl))).trans rfl)
theorem dk_122 {code : ByteArray} {pc : Nat} (h : DkAt code pc [122]) : decode code pc = .ok (.ishr, 1) := dk_of ((dk_bind (dk_u1 (h 0 _ rfl))).trans rfl)
theorem dk_123 {code : ByteArray} {pc : Nat} (h : DkAt code pc [123]) : decode code pc = .ok (.lshr, 1) := dk_of ((dk_bind (dk_u1 (h 0 _ rfl))).trans rfl)
theorem dk_124 {code : ByteArray} {pc : Nat} (h : DkAt code pc [124]) : decode code pc = .ok (.iushr, 1) := dk_of ((dk_bind (dk_u1 (h 0 _ rfl))).trans rfl)
theorem dk_126 {code : ByteArray} {pc : Nat} (h : DkAt code pc [126]) : decode code pc = .ok (.iand, 1) := dk_of ((dk_bind (dk_u1 (h 0 _ rfl))).trans rfl)
theorem dk_127 {code : ByteArray} {pc : Nat} (h : DkAt code pc [127]) : decode code pc = .ok (.land, 1) := dk_of ((dk_bind (dk_u1 (h 0 _ rfl))).trans rfl)
theorem dk_129 {code : ByteArray} {pc : Nat} (h : DkAt code pc [129]) : decode code pc = .ok (.lor, 1) := dk_of ((dk_bind (dk_u1 (h 0 _ rfl))).trans rfl)
theorem dk_130 {code : ByteArray} {pc : Nat} (h : DkAt code pc [130]) : decode code pc = .ok (.ixor, 1) := dk_of ((dk_bind (dk_u1 (h 0 _ rfl))).trans rfl)
theorem dk_131 {code : ByteArray} {pc : Nat} (h : DkAt code pc [131]) : decode code pc = .ok (.lxor, 1) := dk_of ((dk_bind (dk_u1 (h 0 _ rfl))).trans rfl)
theorem dk_132 {code : ByteArray} {pc : Nat} (a b : UInt8) (h : DkAt code pc [132, a, b]) : decode code pc = .ok (.iinc a.toNat (Reader.signed 8 b.toNat), 3) := dk_of ((dk_bind (dk_u1 (h 0 _ rfl))).trans ((dk_bind (dk_u1 (h 1 _ rfl))).trans ((dk_bind (dk_map (dk_u1 (h 2 _ rfl)))).trans rfl)))
theorem dk_133 {code : ByteArray} {pc : Nat} (h : DkAt code pc [133]) : decode code pc = .ok (.i2l, 1) := dk_of ((dk_bind (dk_u1 (h 0 _ rfl))).trans rfl)
theorem dk_145 {code : ByteArray} {pc : Nat} (h : DkAt code pc [145]) : decode code pc = .ok (.i2b, 1) := dk_of ((dk_bind (dk_u1 (h 0 _ rfl))).trans rfl)
theorem dk_148 {code : ByteArray} {pc : Nat} (h : DkAt code pc [148]) : decode code pc = .ok (.lcmp, 1) := dk_of ((dk_bind (dk_u1 (h 0 _ rfl))).trans rfl)
theorem dk_153 {code : ByteArray} {pc : Nat} (a b : UInt8) (h : DkAt code pc [153, a, b]) : decode code pc = .ok (.ifCond .eq (Reader.signed 16 (a.toNat * 256 + b.toNat)), 3) := dk_of ((dk_bind (dk_u1 (h 0 _ rfl))).trans ((dk_bind (dk_map (dk_u2 (h 1 _ rfl) (h 2 _ rfl)))).trans rfl))
theorem dk_154 {code : ByteArray} {pc : Nat} (a b : UInt8) (h : DkAt code pc [154, a, b]) : decode code pc = .ok (.ifCond .ne (Reader.signed 16 (a.toNat * 256 + b.toNat)), 3) := dk_of ((dk_bind (dk_u1 (h 0 _ rfl))).trans ((dk_bind (dk_map (dk_u2 (h 1 _ rfl) (h 2 _ rfl)))).trans rfl))
theorem dk_155 {code : ByteArray} {pc : Nat} (a b : UInt8) (h : DkAt code pc [155, a, b]) : decode code pc = .ok (.ifCond .lt (Reader.signed 16 (a.toNat * 256 + b.toNat)), 3) := dk_of ((dk_bind (dk_u1 (h 0 _ rfl))).trans ((dk_bind (dk_map (dk_u2 (h 1 _ rfl) (h 2 _ rfl)))).trans rfl))
theorem dk_157 {code : ByteArray} {pc : Nat} (a b : UInt8) (h : DkAt code pc [157, a, b]) : decode code pc = .ok (.ifCond .gt (Reader.signed 16 (a.toNat * 256 + b.toNat)), 3) := dk_of ((dk_bind (dk_u1 (h 0 _ rfl))).trans ((dk_bind (dk_map (dk_u2 (h 1 _ rfl) (h 2 _ rfl)))).trans rfl))
theorem dk_158 {code : ByteArray} {pc : Nat} (a b : UInt8) (h : DkAt code pc [158, a, b]) : decode code pc = .ok (.ifCond .le (Reader.signed 16 (a.toNat * 256 + b.toNat)), 3) := dk_of ((dk_bind (dk_u1 (h 0 _ rfl))).trans ((dk_bind (dk_map (dk_u2 (h 1 _ rfl) (h 2 _ rfl)))).trans rfl))
theorem dk_160 {code : ByteArray} {pc : Nat} (a b : UInt8) (h : DkAt code pc [160, a, b]) : decode code pc = .ok (.if_icmp .ne (Reader.signed 16 (a.toNat * 256 + b.toNat)), 3) := dk_of ((dk_bind (dk_u1 (h 0 _ rfl))).trans ((dk_bind (dk_map (dk_u2 (h 1 _ rfl) (h 2 _ rfl)))).trans rfl))
theorem dk_162 {code : ByteArray} {pc : Nat} (a b : UInt8) (h : DkAt code pc [162, a, b]) : decode code pc = .ok (.if_icmp .ge (Reader.signed 16 (a.toNat * 256 + b.toNat)), 3) := dk_of ((dk_bind (dk_u1 (h 0 _ rfl))).trans ((dk_bind (dk_map (dk_u2 (h 1 _ rfl) (h 2 _ rfl)))).trans rfl))
theorem dk_164 {code : ByteArray} {pc : Nat} (a b : UInt8) (h : DkAt code pc [164, a, b]) : decode code pc = .ok (.if_icmp .le (Reader.signed 16 (a.toNat * 256 + b.toNat)), 3) := dk_of ((dk_bind (dk_u1 (h 0 _ rfl))).trans ((dk_bind (dk_map (dk_u2 (h 1 _ rfl) (h 2 _ rfl)))).trans rfl))
theorem dk_167 {code : ByteArray} {pc : Nat} (a b : UInt8) (h : DkAt code pc [167, a, b]) : decode code pc = .ok (.goto (Reader.signed 16 (a.toNat * 256 + b.toNat)), 3) := dk_of ((dk_bind (dk_u1 (h 0 _ rfl))).trans ((dk_bind (dk_map (dk_u2 (h 1 _ rfl) (h 2 _ rfl)))).trans rfl))
theorem dk_172 {code : ByteArray} {pc : Nat} (h : DkAt code pc [172]) : decode code pc = .ok (.ireturn, 1) := dk_of ((dk_bind (dk_u1 (h 0 _ rfl))).trans rfl)
theorem dk_173 {code : ByteArray} {pc : Nat} (h : DkAt code pc [173]) : decode code pc = .ok (.lreturn, 1) := dk_of ((dk_bind (dk_u1 (h 0 _ rfl))).trans rfl)
theorem dk_177 {code : ByteArray} {pc : Nat} (h : DkAt code pc [177]) : decode code pc = .ok (.return_, 1) := dk_of ((dk_bind (dk_u1 (h 0 _ rfl))).trans rfl)
theorem dk_178 {code : ByteArray} {pc : Nat} (a b : UInt8) (h : DkAt code pc [178, a, b]) : decode code pc = .ok (.getstatic (a.toNat * 256 + b.toNat), 3) := dk_of ((dk_bind (dk_u1 (h 0 _ rfl))).trans ((dk_bind (dk_u2 (h 1 _ rfl) (h 2 _ rfl))).trans rfl))
theorem dk_180 {code : ByteArray} {pc : Nat} (a b : UInt8) (h : DkAt code pc [180, a, b]) : decode code pc = .ok (.getfield (a.toNat * 256 + b.toNat), 3) := dk_of ((dk_bind (dk_u1 (h 0 _ rfl))).trans ((dk_bind (dk_u2 (h 1 _ rfl) (h 2 _ rfl))).trans rfl))
theorem dk_181 {code : ByteArray} {pc : Nat} (a b : UInt8) (h : DkAt code pc [181, a, b]) : decode code pc = .ok (.putfield (a.toNat * 256 + b.toNat), 3) := dk_of ((dk_bind (dk_u1 (h 0 _ rfl))).trans ((dk_bind (dk_u2 (h 1 _ rfl) (h 2 _ rfl))).trans rfl))
theorem dk_182 {code : ByteArray} {pc : Nat} (a b : UInt8) (h : DkAt code pc [182, a, b]) : decode code pc = .ok (.invokevirtual (a.toNat * 256 + b.toNat), 3) := dk_of ((dk_bind (dk_u1 (h 0 _ rfl))).trans ((dk_bind (dk_u2 (h 1 _ rfl) (h 2 _ rfl))).trans rfl))
theorem dk_183 {code : ByteArray} {pc : Nat} (a b : UInt8) (h : DkAt code pc [183, a, b]) : decode code pc = .ok (.invokespecial (a.toNat * 256 + b.toNat), 3) := dk_of ((dk_bind (dk_u1 (h 0 _ rfl))).trans ((dk_bind (dk_u2 (h 1 _ rfl) (h 2 _ rfl))).trans rfl))
theorem dk_184 {code : ByteArray} {pc : Nat} (a b : UInt8) (h : DkAt code pc [184, a, b]) : decode code pc = .ok (.invokestatic (a.toNat * 256 + b.toNat), 3) := dk_of ((dk_bind (dk_u1 (h 0 _ rfl))).trans ((dk_bind (dk_u2 (h 1 _ rfl) (h 2 _ rfl))).trans rfl))
theorem dk_187 {code : ByteArray} {pc : Nat} (a b : UInt8) (h : DkAt code pc [187, a, b]) : decode code pc = .ok (.new (a.toNat * 256 + b.toNat), 3) := dk_of ((dk_bind (dk_u1 (h 0 _ rfl))).trans ((dk_bind (dk_u2 (h 1 _ rfl) (h 2 _ rfl))).trans rfl))
theorem dk_188_8 {code : ByteArray} {pc : Nat} (h : DkAt code pc [188, 8]) : decode code pc = .ok (.newarray .byte, 2) := dk_of ((dk_bind (dk_u1 (h 0 _ rfl))).trans ((dk_bind (dk_u1 (h 1 _ rfl))).trans rfl))
theorem dk_188_11 {code : ByteArray} {pc : Nat} (h : DkAt code pc [188, 11]) : decode code pc = .ok (.newarray .long, 2) := dk_of ((dk_bind (dk_u1 (h 0 _ rfl))).trans ((dk_bind (dk_u1 (h 1 _ rfl))).trans rfl))
theorem dk_190 {code : ByteArray} {pc : Nat} (h : DkAt code pc [190]) : decode code pc = .ok (.arraylength, 1) := dk_of ((dk_bind (dk_u1 (h 0 _ rfl))).trans rfl)
/-! java/lang/Object -/
set_option maxRecDepth 100000
def RJ0 : String := "java/lang/Object"
abbrev cJ0_init : ByteArray := object_method_1_code
def yJ0_init : MethodName := ⟨RJ0, "<init>", "()V"⟩
theorem dJ0_init_0 : decode cJ0_init 0 = .ok (.return_, 1) := by decide +kernel
theorem q13 : (Jvm.Cond.instanceMethod ({ cls := "java/lang/Object", name := "<init>", desc := "()V" } : Jvm.MethodName)) ∈ lw_all := lw_g (lw_at lw_m0 10 rfl) rfl
theorem q14 : (Jvm.Cond.code ({ cls := "java/lang/Object", name := "<init>", desc := "()V" } : Jvm.MethodName) object_method_1_code (1 : Nat) (Option.none : Option Jvm.ClassFile.FieldType)) ∈ lw_all := lw_g (lw_at lw_m0 11 rfl) rfl
theorem q22 : (Jvm.Cond.arrayClass Jvm.ClassFile.FieldType.byte) ∈ lw_all := lw_g (lw_at lw_m0 19 rfl) rfl
set_option maxRecDepth 100000
theorem q116 : (Jvm.Cond.arrayClass Jvm.ClassFile.FieldType.long) ∈ lw_all := lw_g (lw_at lw_m0 113 rfl) rfl
theorem q139 : (Jvm.Cond.arrayClass Jvm.ClassFile.FieldType.int) ∈ lw_all := lw_g (lw_at lw_m0 136 rfl) rfl
/-! SumJoinLaw -/
set_option maxRecDepth 100000
def RX0 : String := "SumJoinLaw"
abbrev cX0_cell : ByteArray := method_2_code
def yX0_cell : MethodName := ⟨RX0, "cell", "([II)I"⟩
def dkwX0_cell_0 : List UInt8 := [27, 42, 190, 162, 0, 9, 42, 27, 46, 167, 0, 4, 3, 172]
abbrev dktX0_cell_0 : List UInt8 := dkwX0_cell_0 ++ []
theorem dksX0_cell_0 : cX0_cell.data.toList.drop 0 = dktX0_cell_0 := by decide +kernel
theorem dX0_cell_0 : decode cX0_cell 0 = .ok (.iload_n 1, 1) := dk_27 (dk_at dksX0_cell_0 0 rfl rfl)
theorem dX0_cell_1 : decode cX0_cell 1 = .ok (.aload_n 0, 1) := dk_42 (dk_at dksX0_cell_0 1 rfl rfl)
theorem dX0_cell_2 : decode cX0_cell 2 = .ok (.arraylength, 1) := dk_190 (dk_at dksX0_cell_0 2 rfl rfl)
theorem dX0_cell_3 : decode cX0_cell 3 = .ok (.if_icmp .ge 9, 3) := dk_162 0 9 (dk_at dksX0_cell_0 3 rfl rfl)
theorem dX0_cell_6 : decode cX0_cell 6 = .ok (.aload_n 0, 1) := dk_42 (dk_at dksX0_cell_0 6 rfl rfl)
theorem dX0_cell_7 : decode cX0_cell 7 = .ok (.iload_n 1, 1) := dk_27 (dk_at dksX0_cell_0 7 rfl rfl)
theorem dX0_cell_8 : decode cX0_cell 8 = .ok (.iaload, 1) := dk_46 (dk_at dksX0_cell_0 8 rfl rfl)
theorem dX0_cell_9 : decode cX0_cell 9 = .ok (.goto 4, 3) := dk_167 0 4 (dk_at dksX0_cell_0 9 rfl rfl)
theorem dX0_cell_12 : decode cX0_cell 12 = .ok (.iconst 0, 1) := dk_3 (dk_at dksX0_cell_0 12 rfl rfl)
theorem dX0_cell_13 : decode cX0_cell 13 = .ok (.ireturn, 1) := dk_172 (dk_at dksX0_cell_0 13 rfl rfl)
abbrev cX0_known : ByteArray := method_3_code
def yX0_known : MethodName := ⟨RX0, "known", "()Z"⟩
def dkwX0_known_4 : List UInt8 := [182, 0, 14, 20, 0, 33, 148, 153, 0, 5, 3, 172, 4, 172]
abbrev dktX0_known_4 : List UInt8 := dkwX0_known_4 ++ []
def dkwX0_known_3 : List UInt8 := [3, 172, 43, 18, 30, 18, 31, 18, 32, 3, 182, 0, 20, 87, 43, 16, 9, 182, 0, 24, 43, 3, 16, 9]
abbrev dktX0_known_3 : List UInt8 := dkwX0_known_3 ++ dktX0_known_4
def dkwX0_known_2 : List UInt8 := [182, 0, 20, 87, 42, 16, 9, 182, 0, 24, 42, 3, 16, 9, 182, 0, 10, 20, 0, 28, 148, 153, 0, 5]
abbrev dktX0_known_2 : List UInt8 := dkwX0_known_2 ++ dktX0_known_3
def dkwX0_known_1 : List UInt8 := [154, 0, 14, 42, 3, 3, 182, 0, 14, 10, 148, 153, 0, 5, 3, 172, 42, 18, 17, 18, 18, 18, 19, 3]
abbrev dktX0_known_1 : List UInt8 := dkwX0_known_1 ++ dktX0_known_2
def dkwX0_known_0 : List UInt8 := [187, 0, 7, 89, 183, 0, 9, 75, 187, 0, 7, 89, 183, 0, 9, 76, 42, 3, 3, 182, 0, 10, 9, 148]
abbrev dktX0_known_0 : List UInt8 := dkwX0_known_0 ++ dktX0_known_1
theorem dksX0_known_0 : cX0_known.data.toList.drop 0 = dktX0_known_0 := by decide +kernel
theorem dksX0_known_1 : cX0_known.data.toList.drop 24 = dktX0_known_1 := dk_seg dksX0_known_0 24 rfl rfl
theorem dksX0_known_2 : cX0_known.data.toList.drop 48 = dktX0_known_2 := dk_seg dksX0_known_1 24 rfl rfl
theorem dksX0_known_3 : cX0_known.data.toList.drop 72 = dktX0_known_3 := dk_seg dksX0_known_2 24 rfl rfl
theorem dksX0_known_4 : cX0_known.data.toList.drop 96 = dktX0_known_4 := dk_seg dksX0_known_3 24 rfl rfl
theorem dX0_known_0 : decode cX0_known 0 = .ok (.new 7, 3) := dk_187 0 7 (dk_at dksX0_known_0 0 rfl rfl)
theorem dX0_known_3 : decode cX0_known 3 = .ok (.dup, 1) := dk_89 (dk_at dksX0_known_0 3 rfl rfl)
theorem dX0_known_4 : decode cX0_known 4 = .ok (.invokespecial 9, 3) := dk_183 0 9 (dk_at dksX0_known_0 4 rfl rfl)
theorem dX0_known_7 : decode cX0_known 7 = .ok (.astore_n 0, 1) := dk_75 (dk_at dksX0_known_0 7 rfl rfl)
theorem dX0_known_8 : decode cX0_known 8 = .ok (.new 7, 3) := dk_187 0 7 (dk_at dksX0_known_0 8 rfl rfl)
theorem dX0_known_11 : decode cX0_known 11 = .ok (.dup, 1) := dk_89 (dk_at dksX0_known_0 11 rfl rfl)
theorem dX0_known_12 : decode cX0_known 12 = .ok (.invokespecial 9, 3) := dk_183 0 9 (dk_at dksX0_known_0 12 rfl rfl)
theorem dX0_known_15 : decode cX0_known 15 = .ok (.astore_n 1, 1) := dk_76 (dk_at dksX0_known_0 15 rfl rfl)
theorem dX0_known_16 : decode cX0_known 16 = .ok (.aload_n 0, 1) := dk_42 (dk_at dksX0_known_0 16 rfl rfl)
theorem dX0_known_17 : decode cX0_known 17 = .ok (.iconst 0, 1) := dk_3 (dk_at dksX0_known_0 17 rfl rfl)
theorem dX0_known_18 : decode cX0_known 18 = .ok (.iconst 0, 1) := dk_3 (dk_at dksX0_known_0 18 rfl rfl)
theorem dX0_known_19 : decode cX0_known 19 = .ok (.invokevirtual 10, 3) := dk_182 0 10 (dk_at dksX0_known_0 19 rfl rfl)
theorem dX0_known_22 : decode cX0_known 22 = .ok (.lconst 0, 1) := dk_9 (dk_at dksX0_known_0 22 rfl rfl)
theorem dX0_known_23 : decode cX0_known 23 = .ok (.lcmp, 1) := dk_148 (dk_at dksX0_known_0 23 rfl rfl)
theorem dX0_known_24 : decode cX0_known 24 = .ok (.ifCond .ne 14, 3) := dk_154 0 14 (dk_at dksX0_known_1 0 rfl rfl)
theorem dX0_known_27 : decode cX0_known 27 = .ok (.aload_n 0, 1) := dk_42 (dk_at dksX0_known_1 3 rfl rfl)
theorem dX0_known_28 : decode cX0_known 28 = .ok (.iconst 0, 1) := dk_3 (dk_at dksX0_known_1 4 rfl rfl)
theorem dX0_known_29 : decode cX0_known 29 = .ok (.iconst 0, 1) := dk_3 (dk_at dksX0_known_1 5 rfl rfl)
theorem dX0_known_30 : decode cX0_known 30 = .ok (.invokevirtual 14, 3) := dk_182 0 14 (dk_at dksX0_known_1 6 rfl rfl)
theorem dX0_known_33 : decode cX0_known 33 = .ok (.lconst 1, 1) := dk_10 (dk_at dksX0_known_1 9 rfl rfl)
theorem dX0_known_34 : decode cX0_known 34 = .ok (.lcmp, 1) := dk_148 (dk_at dksX0_known_1 10 rfl rfl)
theorem dX0_known_35 : decode cX0_known 35 = .ok (.ifCond .eq 5, 3) := dk_153 0 5 (dk_at dksX0_known_1 11 rfl rfl)
theorem dX0_known_38 : decode cX0_known 38 = .ok (.iconst 0, 1) := dk_3 (dk_at dksX0_known_1 14 rfl rfl)
theorem dX0_known_39 : decode cX0_known 39 = .ok (.ireturn, 1) := dk_172 (dk_at dksX0_known_1 15 rfl rfl)
theorem dX0_known_40 : decode cX0_known 40 = .ok (.aload_n 0, 1) := dk_42 (dk_at dksX0_known_1 16 rfl rfl)
theorem dX0_known_41 : decode cX0_known 41 = .ok (.ldc 17, 2) := dk_18 17 (dk_at dksX0_known_1 17 rfl rfl)
theorem dX0_known_43 : decode cX0_known 43 = .ok (.ldc 18, 2) := dk_18 18 (dk_at dksX0_known_1 19 rfl rfl)
theorem dX0_known_45 : decode cX0_known 45 = .ok (.ldc 19, 2) := dk_18 19 (dk_at dksX0_known_1 21 rfl rfl)
theorem dX0_known_47 : decode cX0_known 47 = .ok (.iconst 0, 1) := dk_3 (dk_at dksX0_known_1 23 rfl rfl)
theorem dX0_known_48 : decode cX0_known 48 = .ok (.invokevirtual 20, 3) := dk_182 0 20 (dk_at dksX0_known_2 0 rfl rfl)
theorem dX0_known_51 : decode cX0_known 51 = .ok (.pop, 1) := dk_87 (dk_at dksX0_known_2 3 rfl rfl)
theorem dX0_known_52 : decode cX0_known 52 = .ok (.aload_n 0, 1) := dk_42 (dk_at dksX0_known_2 4 rfl rfl)
theorem dX0_known_53 : decode cX0_known 53 = .ok (.bipush 9, 2) := dk_16 9 (dk_at dksX0_known_2 5 rfl rfl)
theorem dX0_known_55 : decode cX0_known 55 = .ok (.invokevirtual 24, 3) := dk_182 0 24 (dk_at dksX0_known_2 7 rfl rfl)
theorem dX0_known_58 : decode cX0_known 58 = .ok (.aload_n 0, 1) := dk_42 (dk_at dksX0_known_2 10 rfl rfl)
theorem dX0_known_59 : decode cX0_known 59 = .ok (.iconst 0, 1) := dk_3 (dk_at dksX0_known_2 11 rfl rfl)
theorem dX0_known_60 : decode cX0_known 60 = .ok (.bipush 9, 2) := dk_16 9 (dk_at dksX0_known_2 12 rfl rfl)
theorem dX0_known_62 : decode cX0_known 62 = .ok (.invokevirtual 10, 3) := dk_182 0 10 (dk_at dksX0_known_2 14 rfl rfl)
theorem dX0_known_65 : decode cX0_known 65 = .ok (.ldc2_w 28, 3) := dk_20 0 28 (dk_at dksX0_known_2 17 rfl rfl)
theorem dX0_known_68 : decode cX0_known 68 = .ok (.lcmp, 1) := dk_148 (dk_at dksX0_known_2 20 rfl rfl)
theorem dX0_known_69 : decode cX0_known 69 = .ok (.ifCond .eq 5, 3) := dk_153 0 5 (dk_at dksX0_known_2 21 rfl rfl)
theorem dX0_known_72 : decode cX0_known 72 = .ok (.iconst 0, 1) := dk_3 (dk_at dksX0_known_3 0 rfl rfl)
theorem dX0_known_73 : decode cX0_known 73 = .ok (.ireturn, 1) := dk_172 (dk_at dksX0_known_3 1 rfl rfl)
theorem dX0_known_74 : decode cX0_known 74 = .ok (.aload_n 1, 1) := dk_43 (dk_at dksX0_known_3 2 rfl rfl)
theorem dX0_known_75 : decode cX0_known 75 = .ok (.ldc 30, 2) := dk_18 30 (dk_at dksX0_known_3 3 rfl rfl)
theorem dX0_known_77 : decode cX0_known 77 = .ok (.ldc 31, 2) := dk_18 31 (dk_at dksX0_known_3 5 rfl rfl)
theorem dX0_known_79 : decode cX0_known 79 = .ok (.ldc 32, 2) := dk_18 32 (dk_at dksX0_known_3 7 rfl rfl)
theorem dX0_known_81 : decode cX0_known 81 = .ok (.iconst 0, 1) := dk_3 (dk_at dksX0_known_3 9 rfl rfl)
theorem dX0_known_82 : decode cX0_known 82 = .ok (.invokevirtual 20, 3) := dk_182 0 20 (dk_at dksX0_known_3 10 rfl rfl)
theorem dX0_known_85 : decode cX0_known 85 = .ok (.pop, 1) := dk_87 (dk_at dksX0_known_3 13 rfl rfl)
theorem dX0_known_86 : decode cX0_known 86 = .ok (.aload_n 1, 1) := dk_43 (dk_at dksX0_known_3 14 rfl rfl)
theorem dX0_known_87 : decode cX0_known 87 = .ok (.bipush 9, 2) := dk_16 9 (dk_at dksX0_known_3 15 rfl rfl)
theorem dX0_known_89 : decode cX0_known 89 = .ok (.invokevirtual 24, 3) := dk_182 0 24 (dk_at dksX0_known_3 17 rfl rfl)
theorem dX0_known_92 : decode cX0_known 92 = .ok (.aload_n 1, 1) := dk_43 (dk_at dksX0_known_3 20 rfl rfl)
theorem dX0_known_93 : decode cX0_known 93 = .ok (.iconst 0, 1) := dk_3 (dk_at dksX0_known_3 21 rfl rfl)
theorem dX0_known_94 : decode cX0_known 94 = .ok (.bipush 9, 2) := dk_16 9 (dk_at dksX0_known_3 22 rfl rfl)
theorem dX0_known_96 : decode cX0_known 96 = .ok (.invokevirtual 14, 3) := dk_182 0 14 (dk_at dksX0_known_4 0 rfl rfl)
theorem dX0_known_99 : decode cX0_known 99 = .ok (.ldc2_w 33, 3) := dk_20 0 33 (dk_at dksX0_known_4 3 rfl rfl)
theorem dX0_known_102 : decode cX0_known 102 = .ok (.lcmp, 1) := dk_148 (dk_at dksX0_known_4 6 rfl rfl)
theorem dX0_known_103 : decode cX0_known 103 = .ok (.ifCond .eq 5, 3) := dk_153 0 5 (dk_at dksX0_known_4 7 rfl rfl)
theorem dX0_known_106 : decode cX0_known 106 = .ok (.iconst 0, 1) := dk_3 (dk_at dksX0_known_4 10 rfl rfl)
theorem dX0_known_107 : decode cX0_known 107 = .ok (.ireturn, 1) := dk_172 (dk_at dksX0_known_4 11 rfl rfl)
theorem dX0_known_108 : decode cX0_known 108 = .ok (.iconst 1, 1) := dk_4 (dk_at dksX0_known_4 12 rfl rfl)
theorem dX0_known_109 : decode cX0_known 109 = .ok (.ireturn, 1) := dk_172 (dk_at dksX0_known_4 13 rfl rfl)
theorem q3 : (Jvm.Cond.initialized "SumJoinLaw") ∈ lw_all := lw_g (lw_at lw_m0 0 rfl) rfl
theorem q7 : (Jvm.Cond.classLink "SumJoinLaw" (7 : Nat) "SumJoin") ∈ lw_all := lw_g (lw_at lw_m0 4 rfl) rfl
theorem q9 : (Jvm.Cond.methodLink "SumJoinLaw" (9 : Nat) ({ cls := "SumJoin", name := "<init>", desc := "()V" } : Jvm.MethodName)) ∈ lw_all := lw_g (lw_at lw_m0 6 rfl) rfl
theorem q23 : (Jvm.Cond.methodLink "SumJoinLaw" (20 : Nat) ({ cls := "SumJoin", name := "put", desc := "(IIII)Z" } : Jvm.MethodName)) ∈ lw_all := lw_g (lw_at lw_m0 20 rfl) rfl
theorem q31 : (Jvm.Cond.methodLink "SumJoinLaw" (24 : Nat) ({ cls := "SumJoin", name := "trim", desc := "(I)V" } : Jvm.MethodName)) ∈ lw_all := lw_g (lw_at lw_m0 28 rfl) rfl
theorem q40 : (Jvm.Cond.methodLink "SumJoinLaw" (45 : Nat) ({ cls := "SumJoin", name := "size", desc := "()I" } : Jvm.MethodName)) ∈ lw_all := lw_g (lw_at lw_m0 37 rfl) rfl
theorem q44 : (Jvm.Cond.methodLink "SumJoinLaw" (10 : Nat) ({ cls := "SumJoin", name := "crc", desc := "(II)J" } : Jvm.MethodName)) ∈ lw_all := lw_g (lw_at lw_m0 41 rfl) rfl
theorem q98 : (Jvm.Cond.methodLink "SumJoinLaw" (14 : Nat) ({ cls := "SumJoin", name := "adler", desc := "(II)J" } : Jvm.MethodName)) ∈ lw_all := lw_g (lw_at lw_m0 95 rfl) rfl
theorem q102 : (Jvm.Cond.methodLink "SumJoinLaw" (49 : Nat) ({ cls := "SumJoin", name := "joinCrc", desc := "(III)J" } : Jvm.MethodName)) ∈ lw_all := lw_g (lw_at lw_m0 99 rfl) rfl
theorem q117 : (Jvm.Cond.methodLink "SumJoinLaw" (53 : Nat) ({ cls := "SumJoin", name := "joinAdler", desc := "(III)J" } : Jvm.MethodName)) ∈ lw_all := lw_g (lw_at lw_m0 114 rfl) rfl
theorem q125 : (Jvm.Cond.methodLink "SumJoinLaw" (41 : Nat) ({ cls := "SumJoinLaw", name := "cell", desc := "([II)I" } : Jvm.MethodName)) ∈ lw_all := lw_g (lw_at lw_m0 122 rfl) rfl
theorem q126 : (Jvm.Cond.static ({ cls := "SumJoinLaw", name := "cell", desc := "([II)I" } : Jvm.MethodName)) ∈ lw_all := lw_g (lw_at lw_m0 123 rfl) rfl
theorem q127 : (Jvm.Cond.code ({ cls := "SumJoinLaw", name := "cell", desc := "([II)I" } : Jvm.MethodName) method_2_code (2 : Nat) (Option.some Jvm.ClassFile.FieldType.int)) ∈ lw_all := lw_g (lw_at lw_m0 124 rfl) rfl
theorem q128 : (Jvm.Cond.methodLink "SumJoinLaw" (35 : Nat) ({ cls := "SumJoinLaw", name := "known", desc := "()Z" } : Jvm.MethodName)) ∈ lw_all := lw_g (lw_at lw_m0 125 rfl) rfl
theorem q129 : (Jvm.Cond.static ({ cls := "SumJoinLaw", name := "known", desc := "()Z" } : Jvm.MethodName)) ∈ lw_all := lw_g (lw_at lw_m0 126 rfl) rfl
theorem q130 : (Jvm.Cond.code ({ cls := "SumJoinLaw", name := "known", desc := "()Z" } : Jvm.MethodName) method_3_code (2 : Nat) (Option.some Jvm.ClassFile.FieldType.boolean)) ∈ lw_all := lw_g (lw_at lw_m0 127 rfl) rfl
theorem q131 : (Jvm.Cond.constant "SumJoinLaw" (17 : Nat) (825373492 : Int32)) ∈ lw_all := lw_g (lw_at lw_m0 128 rfl) rfl
theorem q132 : (Jvm.Cond.constant "SumJoinLaw" (18 : Nat) (892745528 : Int32)) ∈ lw_all := lw_g (lw_at lw_m0 129 rfl) rfl
theorem q133 : (Jvm.Cond.constant "SumJoinLaw" (19 : Nat) (956301312 : Int32)) ∈ lw_all := lw_g (lw_at lw_m0 130 rfl) rfl
theorem q134 : (Jvm.Cond.constantLong "SumJoinLaw" (28 : Nat) (3421780262 : Int64)) ∈ lw_all := lw_g (lw_at lw_m0 131 rfl) rfl
theorem q135 : (Jvm.Cond.constant "SumJoinLaw" (30 : Nat) (1466526569 : Int32)) ∈ lw_all := lw_g (lw_at lw_m0 132 rfl) rfl
theorem q136 : (Jvm.Cond.constant "SumJoinLaw" (31 : Nat) (1885693033 : Int32)) ∈ lw_all := lw_g (lw_at lw_m0 133 rfl) rfl
theorem q137 : (Jvm.Cond.constant "SumJoinLaw" (32 : Nat) (1627389952 : Int32)) ∈ lw_all := lw_g (lw_at lw_m0 134 rfl) rfl
theorem q138 : (Jvm.Cond.constantLong "SumJoinLaw" (33 : Nat) (300286872 : Int64)) ∈ lw_all := lw_g (lw_at lw_m0 135 rfl) rfl
/-! SumJoin -/
set_option maxRecDepth 100000
def RX1 : String := "SumJoin"
def TX1 : u_T := fun k => match k with
  | 0 => ("SumJoin", "text", "[B", true)
  | _ => ("SumJoin", "size", "I", false)
def tyX1 : Nat → FieldType := fun k => match k with
  | 0 => .array .byte
  | _ => .int
abbrev wsX10 : List Cond := u_ws RX1 TX1 2
theorem nmX1 : ∀ a, a < 2 → ∀ b, b < 2 → a ≠ b → (TX1 a).2.1 ≠ (TX1 b).2.1 := by decide +kernel
theorem tyX1_ok : ∀ k, k < 2 → parseFieldDescriptor (TX1 k).2.2.1 = some (tyX1 k) := by decide +kernel
abbrev cX1_init : ByteArray := prog_3_method_1_code
def yX1_init : MethodName := ⟨RX1, "<init>", "()V"⟩
def dkwX1_init_0 : List UInt8 := [42, 183, 0, 1, 42, 17, 16, 0, 188, 8, 181, 0, 7, 177]
abbrev dktX1_init_0 : List UInt8 := dkwX1_init_0 ++ []
theorem dksX1_init_0 : cX1_init.data.toList.drop 0 = dktX1_init_0 := by decide +kernel
theorem dX1_init_0 : decode cX1_init 0 = .ok (.aload_n 0, 1) := dk_42 (dk_at dksX1_init_0 0 rfl rfl)
theorem dX1_init_1 : decode cX1_init 1 = .ok (.invokespecial 1, 3) := dk_183 0 1 (dk_at dksX1_init_0 1 rfl rfl)
theorem dX1_init_4 : decode cX1_init 4 = .ok (.aload_n 0, 1) := dk_42 (dk_at dksX1_init_0 4 rfl rfl)
theorem dX1_init_5 : decode cX1_init 5 = .ok (.sipush 4096, 3) := dk_17 16 0 (dk_at dksX1_init_0 5 rfl rfl)
theorem dX1_init_8 : decode cX1_init 8 = .ok (.newarray .byte, 2) := dk_188_8 (dk_at dksX1_init_0 8 rfl rfl)
theorem dX1_init_10 : decode cX1_init 10 = .ok (.putfield 7, 3) := dk_181 0 7 (dk_at dksX1_init_0 10 rfl rfl)
theorem dX1_init_13 : decode cX1_init 13 = .ok (.return_, 1) := dk_177 (dk_at dksX1_init_0 13 rfl rfl)
abbrev cX1_put : ByteArray := prog_3_method_2_code
def yX1_put : MethodName := ⟨RX1, "put", "(IIII)Z"⟩
def dkwX1_put_3 : List UInt8 := [181, 0, 13, 4, 172]
abbrev dktX1_put_3 : List UInt8 := dkwX1_put_3 ++ []
def dkwX1_put_2 : List UInt8 := [182, 0, 17, 42, 42, 180, 0, 13, 16, 12, 96, 21, 4, 182, 0, 17, 42, 89, 180, 0, 13, 16, 16, 96]
abbrev dktX1_put_2 : List UInt8 := dkwX1_put_2 ++ dktX1_put_3
def dkwX1_put_1 : List UInt8 := [182, 0, 17, 42, 42, 180, 0, 13, 7, 96, 28, 182, 0, 17, 42, 42, 180, 0, 13, 16, 8, 96, 29]
abbrev dktX1_put_1 : List UInt8 := dkwX1_put_1 ++ dktX1_put_2
def dkwX1_put_0 : List UInt8 := [42, 180, 0, 13, 42, 180, 0, 7, 190, 16, 16, 100, 164, 0, 5, 3, 172, 42, 42, 180, 0, 13, 27]
abbrev dktX1_put_0 : List UInt8 := dkwX1_put_0 ++ dktX1_put_1
theorem dksX1_put_0 : cX1_put.data.toList.drop 0 = dktX1_put_0 := by decide +kernel
theorem dksX1_put_1 : cX1_put.data.toList.drop 23 = dktX1_put_1 := dk_seg dksX1_put_0 23 rfl rfl
theorem dksX1_put_2 : cX1_put.data.toList.drop 46 = dktX1_put_2 := dk_seg dksX1_put_1 23 rfl rfl
theorem dksX1_put_3 : cX1_put.data.toList.drop 70 = dktX1_put_3 := dk_seg dksX1_put_2 24 rfl rfl
theorem dX1_put_0 : decode cX1_put 0 = .ok (.aload_n 0, 1) := dk_42 (dk_at dksX1_put_0 0 rfl rfl)
theorem dX1_put_1 : decode cX1_put 1 = .ok (.getfield 13, 3) := dk_180 0 13 (dk_at dksX1_put_0 1 rfl rfl)
theorem dX1_put_4 : decode cX1_put 4 = .ok (.aload_n 0, 1) := dk_42 (dk_at dksX1_put_0 4 rfl rfl)
theorem dX1_put_5 : decode cX1_put 5 = .ok (.getfield 7, 3) := dk_180 0 7 (dk_at dksX1_put_0 5 rfl rfl)
theorem dX1_put_8 : decode cX1_put 8 = .ok (.arraylength, 1) := dk_190 (dk_at dksX1_put_0 8 rfl rfl)
theorem dX1_put_9 : decode cX1_put 9 = .ok (.bipush 16, 2) := dk_16 16 (dk_at dksX1_put_0 9 rfl rfl)
theorem dX1_put_11 : decode cX1_put 11 = .ok (.isub, 1) := dk_100 (dk_at dksX1_put_0 11 rfl rfl)
theorem dX1_put_12 : decode cX1_put 12 = .ok (.if_icmp .le 5, 3) := dk_164 0 5 (dk_at dksX1_put_0 12 rfl rfl)
theorem dX1_put_15 : decode cX1_put 15 = .ok (.iconst 0, 1) := dk_3 (dk_at dksX1_put_0 15 rfl rfl)
theorem dX1_put_16 : decode cX1_put 16 = .ok (.ireturn, 1) := dk_172 (dk_at dksX1_put_0 16 rfl rfl)
theorem dX1_put_17 : decode cX1_put 17 = .ok (.aload_n 0, 1) := dk_42 (dk_at dksX1_put_0 17 rfl rfl)
theorem dX1_put_18 : decode cX1_put 18 = .ok (.aload_n 0, 1) := dk_42 (dk_at dksX1_put_0 18 rfl rfl)
theorem dX1_put_19 : decode cX1_put 19 = .ok (.getfield 13, 3) := dk_180 0 13 (dk_at dksX1_put_0 19 rfl rfl)
theorem dX1_put_22 : decode cX1_put 22 = .ok (.iload_n 1, 1) := dk_27 (dk_at dksX1_put_0 22 rfl rfl)
theorem dX1_put_23 : decode cX1_put 23 = .ok (.invokevirtual 17, 3) := dk_182 0 17 (dk_at dksX1_put_1 0 rfl rfl)
theorem dX1_put_26 : decode cX1_put 26 = .ok (.aload_n 0, 1) := dk_42 (dk_at dksX1_put_1 3 rfl rfl)
theorem dX1_put_27 : decode cX1_put 27 = .ok (.aload_n 0, 1) := dk_42 (dk_at dksX1_put_1 4 rfl rfl)
theorem dX1_put_28 : decode cX1_put 28 = .ok (.getfield 13, 3) := dk_180 0 13 (dk_at dksX1_put_1 5 rfl rfl)
theorem dX1_put_31 : decode cX1_put 31 = .ok (.iconst 4, 1) := dk_7 (dk_at dksX1_put_1 8 rfl rfl)
theorem dX1_put_32 : decode cX1_put 32 = .ok (.iadd, 1) := dk_96 (dk_at dksX1_put_1 9 rfl rfl)
theorem dX1_put_33 : decode cX1_put 33 = .ok (.iload_n 2, 1) := dk_28 (dk_at dksX1_put_1 10 rfl rfl)
theorem dX1_put_34 : decode cX1_put 34 = .ok (.invokevirtual 17, 3) := dk_182 0 17 (dk_at dksX1_put_1 11 rfl rfl)
theorem dX1_put_37 : decode cX1_put 37 = .ok (.aload_n 0, 1) := dk_42 (dk_at dksX1_put_1 14 rfl rfl)
theorem dX1_put_38 : decode cX1_put 38 = .ok (.aload_n 0, 1) := dk_42 (dk_at dksX1_put_1 15 rfl rfl)
theorem dX1_put_39 : decode cX1_put 39 = .ok (.getfield 13, 3) := dk_180 0 13 (dk_at dksX1_put_1 16 rfl rfl)
theorem dX1_put_42 : decode cX1_put 42 = .ok (.bipush 8, 2) := dk_16 8 (dk_at dksX1_put_1 19 rfl rfl)
theorem dX1_put_44 : decode cX1_put 44 = .ok (.iadd, 1) := dk_96 (dk_at dksX1_put_1 21 rfl rfl)
theorem dX1_put_45 : decode cX1_put 45 = .ok (.iload_n 3, 1) := dk_29 (dk_at dksX1_put_1 22 rfl rfl)
theorem dX1_put_46 : decode cX1_put 46 = .ok (.invokevirtual 17, 3) := dk_182 0 17 (dk_at dksX1_put_2 0 rfl rfl)
theorem dX1_put_49 : decode cX1_put 49 = .ok (.aload_n 0, 1) := dk_42 (dk_at dksX1_put_2 3 rfl rfl)
theorem dX1_put_50 : decode cX1_put 50 = .ok (.aload_n 0, 1) := dk_42 (dk_at dksX1_put_2 4 rfl rfl)
theorem dX1_put_51 : decode cX1_put 51 = .ok (.getfield 13, 3) := dk_180 0 13 (dk_at dksX1_put_2 5 rfl rfl)
theorem dX1_put_54 : decode cX1_put 54 = .ok (.bipush 12, 2) := dk_16 12 (dk_at dksX1_put_2 8 rfl rfl)
theorem dX1_put_56 : decode cX1_put 56 = .ok (.iadd, 1) := dk_96 (dk_at dksX1_put_2 10 rfl rfl)
theorem dX1_put_57 : decode cX1_put 57 = .ok (.iload 4, 2) := dk_21 4 (dk_at dksX1_put_2 11 rfl rfl)
theorem dX1_put_59 : decode cX1_put 59 = .ok (.invokevirtual 17, 3) := dk_182 0 17 (dk_at dksX1_put_2 13 rfl rfl)
theorem dX1_put_62 : decode cX1_put 62 = .ok (.aload_n 0, 1) := dk_42 (dk_at dksX1_put_2 16 rfl rfl)
theorem dX1_put_63 : decode cX1_put 63 = .ok (.dup, 1) := dk_89 (dk_at dksX1_put_2 17 rfl rfl)
theorem dX1_put_64 : decode cX1_put 64 = .ok (.getfield 13, 3) := dk_180 0 13 (dk_at dksX1_put_2 18 rfl rfl)
theorem dX1_put_67 : decode cX1_put 67 = .ok (.bipush 16, 2) := dk_16 16 (dk_at dksX1_put_2 21 rfl rfl)
theorem dX1_put_69 : decode cX1_put 69 = .ok (.iadd, 1) := dk_96 (dk_at dksX1_put_2 23 rfl rfl)
theorem dX1_put_70 : decode cX1_put 70 = .ok (.putfield 13, 3) := dk_181 0 13 (dk_at dksX1_put_3 0 rfl rfl)
theorem dX1_put_73 : decode cX1_put 73 = .ok (.iconst 1, 1) := dk_4 (dk_at dksX1_put_3 3 rfl rfl)
theorem dX1_put_74 : decode cX1_put 74 = .ok (.ireturn, 1) := dk_172 (dk_at dksX1_put_3 4 rfl rfl)
abbrev cX1_word : ByteArray := prog_3_method_3_code
def yX1_word : MethodName := ⟨RX1, "word", "(II)V"⟩
def dkwX1_word_1 : List UInt8 := [42, 180, 0, 7, 27, 5, 96, 28, 16, 8, 122, 145, 84, 42, 180, 0, 7, 27, 6, 96, 28, 145, 84, 177]
abbrev dktX1_word_1 : List UInt8 := dkwX1_word_1 ++ []
def dkwX1_word_0 : List UInt8 := [42, 180, 0, 7, 27, 28, 16, 24, 122, 145, 84, 42, 180, 0, 7, 27, 4, 96, 28, 16, 16, 122, 145, 84]
abbrev dktX1_word_0 : List UInt8 := dkwX1_word_0 ++ dktX1_word_1
theorem dksX1_word_0 : cX1_word.data.toList.drop 0 = dktX1_word_0 := by decide +kernel
theorem dksX1_word_1 : cX1_word.data.toList.drop 24 = dktX1_word_1 := dk_seg dksX1_word_0 24 rfl rfl
theorem dX1_word_0 : decode cX1_word 0 = .ok (.aload_n 0, 1) := dk_42 (dk_at dksX1_word_0 0 rfl rfl)
theorem dX1_word_1 : decode cX1_word 1 = .ok (.getfield 7, 3) := dk_180 0 7 (dk_at dksX1_word_0 1 rfl rfl)
theorem dX1_word_4 : decode cX1_word 4 = .ok (.iload_n 1, 1) := dk_27 (dk_at dksX1_word_0 4 rfl rfl)
theorem dX1_word_5 : decode cX1_word 5 = .ok (.iload_n 2, 1) := dk_28 (dk_at dksX1_word_0 5 rfl rfl)
theorem dX1_word_6 : decode cX1_word 6 = .ok (.bipush 24, 2) := dk_16 24 (dk_at dksX1_word_0 6 rfl rfl)
theorem dX1_word_8 : decode cX1_word 8 = .ok (.ishr, 1) := dk_122 (dk_at dksX1_word_0 8 rfl rfl)
theorem dX1_word_9 : decode cX1_word 9 = .ok (.i2b, 1) := dk_145 (dk_at dksX1_word_0 9 rfl rfl)
theorem dX1_word_10 : decode cX1_word 10 = .ok (.bastore, 1) := dk_84 (dk_at dksX1_word_0 10 rfl rfl)
theorem dX1_word_11 : decode cX1_word 11 = .ok (.aload_n 0, 1) := dk_42 (dk_at dksX1_word_0 11 rfl rfl)
theorem dX1_word_12 : decode cX1_word 12 = .ok (.getfield 7, 3) := dk_180 0 7 (dk_at dksX1_word_0 12 rfl rfl)
theorem dX1_word_15 : decode cX1_word 15 = .ok (.iload_n 1, 1) := dk_27 (dk_at dksX1_word_0 15 rfl rfl)
theorem dX1_word_16 : decode cX1_word 16 = .ok (.iconst 1, 1) := dk_4 (dk_at dksX1_word_0 16 rfl rfl)
theorem dX1_word_17 : decode cX1_word 17 = .ok (.iadd, 1) := dk_96 (dk_at dksX1_word_0 17 rfl rfl)
theorem dX1_word_18 : decode cX1_word 18 = .ok (.iload_n 2, 1) := dk_28 (dk_at dksX1_word_0 18 rfl rfl)
theorem dX1_word_19 : decode cX1_word 19 = .ok (.bipush 16, 2) := dk_16 16 (dk_at dksX1_word_0 19 rfl rfl)
theorem dX1_word_21 : decode cX1_word 21 = .ok (.ishr, 1) := dk_122 (dk_at dksX1_word_0 21 rfl rfl)
theorem dX1_word_22 : decode cX1_word 22 = .ok (.i2b, 1) := dk_145 (dk_at dksX1_word_0 22 rfl rfl)
theorem dX1_word_23 : decode cX1_word 23 = .ok (.bastore, 1) := dk_84 (dk_at dksX1_word_0 23 rfl rfl)
theorem dX1_word_24 : decode cX1_word 24 = .ok (.aload_n 0, 1) := dk_42 (dk_at dksX1_word_1 0 rfl rfl)
theorem dX1_word_25 : decode cX1_word 25 = .ok (.getfield 7, 3) := dk_180 0 7 (dk_at dksX1_word_1 1 rfl rfl)
theorem dX1_word_28 : decode cX1_word 28 = .ok (.iload_n 1, 1) := dk_27 (dk_at dksX1_word_1 4 rfl rfl)
theorem dX1_word_29 : decode cX1_word 29 = .ok (.iconst 2, 1) := dk_5 (dk_at dksX1_word_1 5 rfl rfl)
theorem dX1_word_30 : decode cX1_word 30 = .ok (.iadd, 1) := dk_96 (dk_at dksX1_word_1 6 rfl rfl)
theorem dX1_word_31 : decode cX1_word 31 = .ok (.iload_n 2, 1) := dk_28 (dk_at dksX1_word_1 7 rfl rfl)
theorem dX1_word_32 : decode cX1_word 32 = .ok (.bipush 8, 2) := dk_16 8 (dk_at dksX1_word_1 8 rfl rfl)
theorem dX1_word_34 : decode cX1_word 34 = .ok (.ishr, 1) := dk_122 (dk_at dksX1_word_1 10 rfl rfl)
theorem dX1_word_35 : decode cX1_word 35 = .ok (.i2b, 1) := dk_145 (dk_at dksX1_word_1 11 rfl rfl)
theorem dX1_word_36 : decode cX1_word 36 = .ok (.bastore, 1) := dk_84 (dk_at dksX1_word_1 12 rfl rfl)
theorem dX1_word_37 : decode cX1_word 37 = .ok (.aload_n 0, 1) := dk_42 (dk_at dksX1_word_1 13 rfl rfl)
theorem dX1_word_38 : decode cX1_word 38 = .ok (.getfield 7, 3) := dk_180 0 7 (dk_at dksX1_word_1 14 rfl rfl)
theorem dX1_word_41 : decode cX1_word 41 = .ok (.iload_n 1, 1) := dk_27 (dk_at dksX1_word_1 17 rfl rfl)
theorem dX1_word_42 : decode cX1_word 42 = .ok (.iconst 3, 1) := dk_6 (dk_at dksX1_word_1 18 rfl rfl)
theorem dX1_word_43 : decode cX1_word 43 = .ok (.iadd, 1) := dk_96 (dk_at dksX1_word_1 19 rfl rfl)
theorem dX1_word_44 : decode cX1_word 44 = .ok (.iload_n 2, 1) := dk_28 (dk_at dksX1_word_1 20 rfl rfl)
theorem dX1_word_45 : decode cX1_word 45 = .ok (.i2b, 1) := dk_145 (dk_at dksX1_word_1 21 rfl rfl)
theorem dX1_word_46 : decode cX1_word 46 = .ok (.bastore, 1) := dk_84 (dk_at dksX1_word_1 22 rfl rfl)
theorem dX1_word_47 : decode cX1_word 47 = .ok (.return_, 1) := dk_177 (dk_at dksX1_word_1 23 rfl rfl)
abbrev cX1_trim : ByteArray := prog_3_method_4_code
def yX1_trim : MethodName := ⟨RX1, "trim", "(I)V"⟩
def dkwX1_trim_0 : List UInt8 := [42, 42, 27, 182, 0, 21, 181, 0, 13, 177]
abbrev dktX1_trim_0 : List UInt8 := dkwX1_trim_0 ++ []
theorem dksX1_trim_0 : cX1_trim.data.toList.drop 0 = dktX1_trim_0 := by decide +kernel
theorem dX1_trim_0 : decode cX1_trim 0 = .ok (.aload_n 0, 1) := dk_42 (dk_at dksX1_trim_0 0 rfl rfl)
theorem dX1_trim_1 : decode cX1_trim 1 = .ok (.aload_n 0, 1) := dk_42 (dk_at dksX1_trim_0 1 rfl rfl)
theorem dX1_trim_2 : decode cX1_trim 2 = .ok (.iload_n 1, 1) := dk_27 (dk_at dksX1_trim_0 2 rfl rfl)
theorem dX1_trim_3 : decode cX1_trim 3 = .ok (.invokevirtual 21, 3) := dk_182 0 21 (dk_at dksX1_trim_0 3 rfl rfl)
theorem dX1_trim_6 : decode cX1_trim 6 = .ok (.putfield 13, 3) := dk_181 0 13 (dk_at dksX1_trim_0 6 rfl rfl)
theorem dX1_trim_9 : decode cX1_trim 9 = .ok (.return_, 1) := dk_177 (dk_at dksX1_trim_0 9 rfl rfl)
abbrev cX1_from : ByteArray := prog_3_method_6_code
def yX1_from : MethodName := ⟨RX1, "from", "(I)I"⟩
def dkwX1_from_0 : List UInt8 := [27, 18, 25, 126, 42, 180, 0, 13, 4, 96, 112, 172]
abbrev dktX1_from_0 : List UInt8 := dkwX1_from_0 ++ []
theorem dksX1_from_0 : cX1_from.data.toList.drop 0 = dktX1_from_0 := by decide +kernel
theorem dX1_from_0 : decode cX1_from 0 = .ok (.iload_n 1, 1) := dk_27 (dk_at dksX1_from_0 0 rfl rfl)
theorem dX1_from_1 : decode cX1_from 1 = .ok (.ldc 25, 2) := dk_18 25 (dk_at dksX1_from_0 1 rfl rfl)
theorem dX1_from_3 : decode cX1_from 3 = .ok (.iand, 1) := dk_126 (dk_at dksX1_from_0 3 rfl rfl)
theorem dX1_from_4 : decode cX1_from 4 = .ok (.aload_n 0, 1) := dk_42 (dk_at dksX1_from_0 4 rfl rfl)
theorem dX1_from_5 : decode cX1_from 5 = .ok (.getfield 13, 3) := dk_180 0 13 (dk_at dksX1_from_0 5 rfl rfl)
theorem dX1_from_8 : decode cX1_from 8 = .ok (.iconst 1, 1) := dk_4 (dk_at dksX1_from_0 8 rfl rfl)
theorem dX1_from_9 : decode cX1_from 9 = .ok (.iadd, 1) := dk_96 (dk_at dksX1_from_0 9 rfl rfl)
theorem dX1_from_10 : decode cX1_from 10 = .ok (.irem, 1) := dk_112 (dk_at dksX1_from_0 10 rfl rfl)
theorem dX1_from_11 : decode cX1_from 11 = .ok (.ireturn, 1) := dk_172 (dk_at dksX1_from_0 11 rfl rfl)
abbrev cX1_size : ByteArray := prog_3_method_5_code
def yX1_size : MethodName := ⟨RX1, "size", "()I"⟩
theorem dX1_size_0 : decode cX1_size 0 = .ok (.aload_n 0, 1) := by decide +kernel
theorem dX1_size_1 : decode cX1_size 1 = .ok (.getfield 13, 3) := by decide +kernel
theorem dX1_size_4 : decode cX1_size 4 = .ok (.ireturn, 1) := by decide +kernel
abbrev cX1_crc : ByteArray := prog_3_method_9_code
def yX1_crc : MethodName := ⟨RX1, "crc", "(II)J"⟩
def dkwX1_crc_0 : List UInt8 := [42, 27, 182, 0, 21, 62, 4, 42, 180, 0, 7, 29, 42, 29, 28, 182, 0, 42, 184, 0, 46, 173]
abbrev dktX1_crc_0 : List UInt8 := dkwX1_crc_0 ++ []
theorem dksX1_crc_0 : cX1_crc.data.toList.drop 0 = dktX1_crc_0 := by decide +kernel
theorem dX1_crc_0 : decode cX1_crc 0 = .ok (.aload_n 0, 1) := dk_42 (dk_at dksX1_crc_0 0 rfl rfl)
theorem dX1_crc_1 : decode cX1_crc 1 = .ok (.iload_n 1, 1) := dk_27 (dk_at dksX1_crc_0 1 rfl rfl)
theorem dX1_crc_2 : decode cX1_crc 2 = .ok (.invokevirtual 21, 3) := dk_182 0 21 (dk_at dksX1_crc_0 2 rfl rfl)
theorem dX1_crc_5 : decode cX1_crc 5 = .ok (.istore_n 3, 1) := dk_62 (dk_at dksX1_crc_0 5 rfl rfl)
theorem dX1_crc_6 : decode cX1_crc 6 = .ok (.iconst 1, 1) := dk_4 (dk_at dksX1_crc_0 6 rfl rfl)
theorem dX1_crc_7 : decode cX1_crc 7 = .ok (.aload_n 0, 1) := dk_42 (dk_at dksX1_crc_0 7 rfl rfl)
theorem dX1_crc_8 : decode cX1_crc 8 = .ok (.getfield 7, 3) := dk_180 0 7 (dk_at dksX1_crc_0 8 rfl rfl)
theorem dX1_crc_11 : decode cX1_crc 11 = .ok (.iload_n 3, 1) := dk_29 (dk_at dksX1_crc_0 11 rfl rfl)
theorem dX1_crc_12 : decode cX1_crc 12 = .ok (.aload_n 0, 1) := dk_42 (dk_at dksX1_crc_0 12 rfl rfl)
theorem dX1_crc_13 : decode cX1_crc 13 = .ok (.iload_n 3, 1) := dk_29 (dk_at dksX1_crc_0 13 rfl rfl)
theorem dX1_crc_14 : decode cX1_crc 14 = .ok (.iload_n 2, 1) := dk_28 (dk_at dksX1_crc_0 14 rfl rfl)
theorem dX1_crc_15 : decode cX1_crc 15 = .ok (.invokevirtual 42, 3) := dk_182 0 42 (dk_at dksX1_crc_0 15 rfl rfl)
theorem dX1_crc_18 : decode cX1_crc 18 = .ok (.invokestatic 46, 3) := dk_184 0 46 (dk_at dksX1_crc_0 18 rfl rfl)
theorem dX1_crc_21 : decode cX1_crc 21 = .ok (.lreturn, 1) := dk_173 (dk_at dksX1_crc_0 21 rfl rfl)
abbrev cX1_count : ByteArray := prog_3_method_7_code
def yX1_count : MethodName := ⟨RX1, "count", "(II)I"⟩
def dkwX1_count_0 : List UInt8 := [28, 18, 25, 126, 42, 180, 0, 13, 27, 100, 4, 96, 112, 172]
abbrev dktX1_count_0 : List UInt8 := dkwX1_count_0 ++ []
theorem dksX1_count_0 : cX1_count.data.toList.drop 0 = dktX1_count_0 := by decide +kernel
theorem dX1_count_0 : decode cX1_count 0 = .ok (.iload_n 2, 1) := dk_28 (dk_at dksX1_count_0 0 rfl rfl)
theorem dX1_count_1 : decode cX1_count 1 = .ok (.ldc 25, 2) := dk_18 25 (dk_at dksX1_count_0 1 rfl rfl)
theorem dX1_count_3 : decode cX1_count 3 = .ok (.iand, 1) := dk_126 (dk_at dksX1_count_0 3 rfl rfl)
theorem dX1_count_4 : decode cX1_count 4 = .ok (.aload_n 0, 1) := dk_42 (dk_at dksX1_count_0 4 rfl rfl)
theorem dX1_count_5 : decode cX1_count 5 = .ok (.getfield 13, 3) := dk_180 0 13 (dk_at dksX1_count_0 5 rfl rfl)
theorem dX1_count_8 : decode cX1_count 8 = .ok (.iload_n 1, 1) := dk_27 (dk_at dksX1_count_0 8 rfl rfl)
theorem dX1_count_9 : decode cX1_count 9 = .ok (.isub, 1) := dk_100 (dk_at dksX1_count_0 9 rfl rfl)
theorem dX1_count_10 : decode cX1_count 10 = .ok (.iconst 1, 1) := dk_4 (dk_at dksX1_count_0 10 rfl rfl)
theorem dX1_count_11 : decode cX1_count 11 = .ok (.iadd, 1) := dk_96 (dk_at dksX1_count_0 11 rfl rfl)
theorem dX1_count_12 : decode cX1_count 12 = .ok (.irem, 1) := dk_112 (dk_at dksX1_count_0 12 rfl rfl)
theorem dX1_count_13 : decode cX1_count 13 = .ok (.ireturn, 1) := dk_172 (dk_at dksX1_count_0 13 rfl rfl)
abbrev cX1_sum : ByteArray := prog_3_method_8_code
def yX1_sum : MethodName := ⟨RX1, "sum", "(Z[BII)J"⟩
def dkwX1_sum_2 : List UInt8 := [182, 0, 41, 173]
abbrev dktX1_sum_2 : List UInt8 := dkwX1_sum_2 ++ []
def dkwX1_sum_1 : List UInt8 := [182, 0, 33, 173, 187, 0, 37, 89, 183, 0, 39, 58, 4, 25, 4, 43, 28, 29, 182, 0, 40, 25, 4]
abbrev dktX1_sum_1 : List UInt8 := dkwX1_sum_1 ++ dktX1_sum_2
def dkwX1_sum_0 : List UInt8 := [26, 153, 0, 26, 187, 0, 26, 89, 183, 0, 28, 58, 4, 25, 4, 43, 28, 29, 182, 0, 29, 25, 4]
abbrev dktX1_sum_0 : List UInt8 := dkwX1_sum_0 ++ dktX1_sum_1
theorem dksX1_sum_0 : cX1_sum.data.toList.drop 0 = dktX1_sum_0 := by decide +kernel
theorem dksX1_sum_1 : cX1_sum.data.toList.drop 23 = dktX1_sum_1 := dk_seg dksX1_sum_0 23 rfl rfl
theorem dksX1_sum_2 : cX1_sum.data.toList.drop 46 = dktX1_sum_2 := dk_seg dksX1_sum_1 23 rfl rfl
theorem dX1_sum_0 : decode cX1_sum 0 = .ok (.iload_n 0, 1) := dk_26 (dk_at dksX1_sum_0 0 rfl rfl)
theorem dX1_sum_1 : decode cX1_sum 1 = .ok (.ifCond .eq 26, 3) := dk_153 0 26 (dk_at dksX1_sum_0 1 rfl rfl)
theorem dX1_sum_4 : decode cX1_sum 4 = .ok (.new 26, 3) := dk_187 0 26 (dk_at dksX1_sum_0 4 rfl rfl)
theorem dX1_sum_7 : decode cX1_sum 7 = .ok (.dup, 1) := dk_89 (dk_at dksX1_sum_0 7 rfl rfl)
theorem dX1_sum_8 : decode cX1_sum 8 = .ok (.invokespecial 28, 3) := dk_183 0 28 (dk_at dksX1_sum_0 8 rfl rfl)
theorem dX1_sum_11 : decode cX1_sum 11 = .ok (.astore 4, 2) := dk_58 4 (dk_at dksX1_sum_0 11 rfl rfl)
theorem dX1_sum_13 : decode cX1_sum 13 = .ok (.aload 4, 2) := dk_25 4 (dk_at dksX1_sum_0 13 rfl rfl)
theorem dX1_sum_15 : decode cX1_sum 15 = .ok (.aload_n 1, 1) := dk_43 (dk_at dksX1_sum_0 15 rfl rfl)
theorem dX1_sum_16 : decode cX1_sum 16 = .ok (.iload_n 2, 1) := dk_28 (dk_at dksX1_sum_0 16 rfl rfl)
theorem dX1_sum_17 : decode cX1_sum 17 = .ok (.iload_n 3, 1) := dk_29 (dk_at dksX1_sum_0 17 rfl rfl)
theorem dX1_sum_18 : decode cX1_sum 18 = .ok (.invokevirtual 29, 3) := dk_182 0 29 (dk_at dksX1_sum_0 18 rfl rfl)
theorem dX1_sum_21 : decode cX1_sum 21 = .ok (.aload 4, 2) := dk_25 4 (dk_at dksX1_sum_0 21 rfl rfl)
theorem dX1_sum_23 : decode cX1_sum 23 = .ok (.invokevirtual 33, 3) := dk_182 0 33 (dk_at dksX1_sum_1 0 rfl rfl)
theorem dX1_sum_26 : decode cX1_sum 26 = .ok (.lreturn, 1) := dk_173 (dk_at dksX1_sum_1 3 rfl rfl)
theorem dX1_sum_27 : decode cX1_sum 27 = .ok (.new 37, 3) := dk_187 0 37 (dk_at dksX1_sum_1 4 rfl rfl)
theorem dX1_sum_30 : decode cX1_sum 30 = .ok (.dup, 1) := dk_89 (dk_at dksX1_sum_1 7 rfl rfl)
theorem dX1_sum_31 : decode cX1_sum 31 = .ok (.invokespecial 39, 3) := dk_183 0 39 (dk_at dksX1_sum_1 8 rfl rfl)
theorem dX1_sum_34 : decode cX1_sum 34 = .ok (.astore 4, 2) := dk_58 4 (dk_at dksX1_sum_1 11 rfl rfl)
theorem dX1_sum_36 : decode cX1_sum 36 = .ok (.aload 4, 2) := dk_25 4 (dk_at dksX1_sum_1 13 rfl rfl)
theorem dX1_sum_38 : decode cX1_sum 38 = .ok (.aload_n 1, 1) := dk_43 (dk_at dksX1_sum_1 15 rfl rfl)
theorem dX1_sum_39 : decode cX1_sum 39 = .ok (.iload_n 2, 1) := dk_28 (dk_at dksX1_sum_1 16 rfl rfl)
theorem dX1_sum_40 : decode cX1_sum 40 = .ok (.iload_n 3, 1) := dk_29 (dk_at dksX1_sum_1 17 rfl rfl)
theorem dX1_sum_41 : decode cX1_sum 41 = .ok (.invokevirtual 40, 3) := dk_182 0 40 (dk_at dksX1_sum_1 18 rfl rfl)
theorem dX1_sum_44 : decode cX1_sum 44 = .ok (.aload 4, 2) := dk_25 4 (dk_at dksX1_sum_1 21 rfl rfl)
theorem dX1_sum_46 : decode cX1_sum 46 = .ok (.invokevirtual 41, 3) := dk_182 0 41 (dk_at dksX1_sum_2 0 rfl rfl)
theorem dX1_sum_49 : decode cX1_sum 49 = .ok (.lreturn, 1) := dk_173 (dk_at dksX1_sum_2 3 rfl rfl)
abbrev cX1_adler : ByteArray := prog_3_method_10_code
def yX1_adler : MethodName := ⟨RX1, "adler", "(II)J"⟩
def dkwX1_adler_0 : List UInt8 := [42, 27, 182, 0, 21, 62, 3, 42, 180, 0, 7, 29, 42, 29, 28, 182, 0, 42, 184, 0, 46, 173]
abbrev dktX1_adler_0 : List UInt8 := dkwX1_adler_0 ++ []
theorem dksX1_adler_0 : cX1_adler.data.toList.drop 0 = dktX1_adler_0 := by decide +kernel
theorem dX1_adler_0 : decode cX1_adler 0 = .ok (.aload_n 0, 1) := dk_42 (dk_at dksX1_adler_0 0 rfl rfl)
theorem dX1_adler_1 : decode cX1_adler 1 = .ok (.iload_n 1, 1) := dk_27 (dk_at dksX1_adler_0 1 rfl rfl)
theorem dX1_adler_2 : decode cX1_adler 2 = .ok (.invokevirtual 21, 3) := dk_182 0 21 (dk_at dksX1_adler_0 2 rfl rfl)
theorem dX1_adler_5 : decode cX1_adler 5 = .ok (.istore_n 3, 1) := dk_62 (dk_at dksX1_adler_0 5 rfl rfl)
theorem dX1_adler_6 : decode cX1_adler 6 = .ok (.iconst 0, 1) := dk_3 (dk_at dksX1_adler_0 6 rfl rfl)
theorem dX1_adler_7 : decode cX1_adler 7 = .ok (.aload_n 0, 1) := dk_42 (dk_at dksX1_adler_0 7 rfl rfl)
theorem dX1_adler_8 : decode cX1_adler 8 = .ok (.getfield 7, 3) := dk_180 0 7 (dk_at dksX1_adler_0 8 rfl rfl)
theorem dX1_adler_11 : decode cX1_adler 11 = .ok (.iload_n 3, 1) := dk_29 (dk_at dksX1_adler_0 11 rfl rfl)
theorem dX1_adler_12 : decode cX1_adler 12 = .ok (.aload_n 0, 1) := dk_42 (dk_at dksX1_adler_0 12 rfl rfl)
theorem dX1_adler_13 : decode cX1_adler 13 = .ok (.iload_n 3, 1) := dk_29 (dk_at dksX1_adler_0 13 rfl rfl)
theorem dX1_adler_14 : decode cX1_adler 14 = .ok (.iload_n 2, 1) := dk_28 (dk_at dksX1_adler_0 14 rfl rfl)
theorem dX1_adler_15 : decode cX1_adler 15 = .ok (.invokevirtual 42, 3) := dk_182 0 42 (dk_at dksX1_adler_0 15 rfl rfl)
theorem dX1_adler_18 : decode cX1_adler 18 = .ok (.invokestatic 46, 3) := dk_184 0 46 (dk_at dksX1_adler_0 18 rfl rfl)
theorem dX1_adler_21 : decode cX1_adler 21 = .ok (.lreturn, 1) := dk_173 (dk_at dksX1_adler_0 21 rfl rfl)
abbrev cX1_joinCrc : ByteArray := prog_3_method_11_code
def yX1_joinCrc : MethodName := ⟨RX1, "joinCrc", "(III)J"⟩
def dkwX1_joinCrc_2 : List UInt8 := [96, 21, 5, 21, 6, 100, 184, 0, 46, 21, 5, 21, 6, 100, 133, 184, 0, 50, 173]
abbrev dktX1_joinCrc_2 : List UInt8 := dkwX1_joinCrc_2 ++ []
def dkwX1_joinCrc_1 : List UInt8 := [112, 54, 6, 4, 42, 180, 0, 7, 21, 4, 21, 6, 184, 0, 46, 4, 42, 180, 0, 7, 21, 4, 21, 6]
abbrev dktX1_joinCrc_1 : List UInt8 := dkwX1_joinCrc_1 ++ dktX1_joinCrc_2
def dkwX1_joinCrc_0 : List UInt8 := [42, 27, 182, 0, 21, 54, 4, 42, 21, 4, 28, 182, 0, 42, 54, 5, 29, 18, 25, 126, 21, 5, 4, 96]
abbrev dktX1_joinCrc_0 : List UInt8 := dkwX1_joinCrc_0 ++ dktX1_joinCrc_1
theorem dksX1_joinCrc_0 : cX1_joinCrc.data.toList.drop 0 = dktX1_joinCrc_0 := by decide +kernel
theorem dksX1_joinCrc_1 : cX1_joinCrc.data.toList.drop 24 = dktX1_joinCrc_1 := dk_seg dksX1_joinCrc_0 24 rfl rfl
theorem dksX1_joinCrc_2 : cX1_joinCrc.data.toList.drop 48 = dktX1_joinCrc_2 := dk_seg dksX1_joinCrc_1 24 rfl rfl
theorem dX1_joinCrc_0 : decode cX1_joinCrc 0 = .ok (.aload_n 0, 1) := dk_42 (dk_at dksX1_joinCrc_0 0 rfl rfl)
theorem dX1_joinCrc_1 : decode cX1_joinCrc 1 = .ok (.iload_n 1, 1) := dk_27 (dk_at dksX1_joinCrc_0 1 rfl rfl)
theorem dX1_joinCrc_2 : decode cX1_joinCrc 2 = .ok (.invokevirtual 21, 3) := dk_182 0 21 (dk_at dksX1_joinCrc_0 2 rfl rfl)
theorem dX1_joinCrc_5 : decode cX1_joinCrc 5 = .ok (.istore 4, 2) := dk_54 4 (dk_at dksX1_joinCrc_0 5 rfl rfl)
theorem dX1_joinCrc_7 : decode cX1_joinCrc 7 = .ok (.aload_n 0, 1) := dk_42 (dk_at dksX1_joinCrc_0 7 rfl rfl)
theorem dX1_joinCrc_8 : decode cX1_joinCrc 8 = .ok (.iload 4, 2) := dk_21 4 (dk_at dksX1_joinCrc_0 8 rfl rfl)
theorem dX1_joinCrc_10 : decode cX1_joinCrc 10 = .ok (.iload_n 2, 1) := dk_28 (dk_at dksX1_joinCrc_0 10 rfl rfl)
theorem dX1_joinCrc_11 : decode cX1_joinCrc 11 = .ok (.invokevirtual 42, 3) := dk_182 0 42 (dk_at dksX1_joinCrc_0 11 rfl rfl)
theorem dX1_joinCrc_14 : decode cX1_joinCrc 14 = .ok (.istore 5, 2) := dk_54 5 (dk_at dksX1_joinCrc_0 14 rfl rfl)
theorem dX1_joinCrc_16 : decode cX1_joinCrc 16 = .ok (.iload_n 3, 1) := dk_29 (dk_at dksX1_joinCrc_0 16 rfl rfl)
theorem dX1_joinCrc_17 : decode cX1_joinCrc 17 = .ok (.ldc 25, 2) := dk_18 25 (dk_at dksX1_joinCrc_0 17 rfl rfl)
theorem dX1_joinCrc_19 : decode cX1_joinCrc 19 = .ok (.iand, 1) := dk_126 (dk_at dksX1_joinCrc_0 19 rfl rfl)
theorem dX1_joinCrc_20 : decode cX1_joinCrc 20 = .ok (.iload 5, 2) := dk_21 5 (dk_at dksX1_joinCrc_0 20 rfl rfl)
theorem dX1_joinCrc_22 : decode cX1_joinCrc 22 = .ok (.iconst 1, 1) := dk_4 (dk_at dksX1_joinCrc_0 22 rfl rfl)
theorem dX1_joinCrc_23 : decode cX1_joinCrc 23 = .ok (.iadd, 1) := dk_96 (dk_at dksX1_joinCrc_0 23 rfl rfl)
theorem dX1_joinCrc_24 : decode cX1_joinCrc 24 = .ok (.irem, 1) := dk_112 (dk_at dksX1_joinCrc_1 0 rfl rfl)
theorem dX1_joinCrc_25 : decode cX1_joinCrc 25 = .ok (.istore 6, 2) := dk_54 6 (dk_at dksX1_joinCrc_1 1 rfl rfl)
theorem dX1_joinCrc_27 : decode cX1_joinCrc 27 = .ok (.iconst 1, 1) := dk_4 (dk_at dksX1_joinCrc_1 3 rfl rfl)
theorem dX1_joinCrc_28 : decode cX1_joinCrc 28 = .ok (.aload_n 0, 1) := dk_42 (dk_at dksX1_joinCrc_1 4 rfl rfl)
theorem dX1_joinCrc_29 : decode cX1_joinCrc 29 = .ok (.getfield 7, 3) := dk_180 0 7 (dk_at dksX1_joinCrc_1 5 rfl rfl)
theorem dX1_joinCrc_32 : decode cX1_joinCrc 32 = .ok (.iload 4, 2) := dk_21 4 (dk_at dksX1_joinCrc_1 8 rfl rfl)
theorem dX1_joinCrc_34 : decode cX1_joinCrc 34 = .ok (.iload 6, 2) := dk_21 6 (dk_at dksX1_joinCrc_1 10 rfl rfl)
theorem dX1_joinCrc_36 : decode cX1_joinCrc 36 = .ok (.invokestatic 46, 3) := dk_184 0 46 (dk_at dksX1_joinCrc_1 12 rfl rfl)
theorem dX1_joinCrc_39 : decode cX1_joinCrc 39 = .ok (.iconst 1, 1) := dk_4 (dk_at dksX1_joinCrc_1 15 rfl rfl)
theorem dX1_joinCrc_40 : decode cX1_joinCrc 40 = .ok (.aload_n 0, 1) := dk_42 (dk_at dksX1_joinCrc_1 16 rfl rfl)
theorem dX1_joinCrc_41 : decode cX1_joinCrc 41 = .ok (.getfield 7, 3) := dk_180 0 7 (dk_at dksX1_joinCrc_1 17 rfl rfl)
theorem dX1_joinCrc_44 : decode cX1_joinCrc 44 = .ok (.iload 4, 2) := dk_21 4 (dk_at dksX1_joinCrc_1 20 rfl rfl)
theorem dX1_joinCrc_46 : decode cX1_joinCrc 46 = .ok (.iload 6, 2) := dk_21 6 (dk_at dksX1_joinCrc_1 22 rfl rfl)
theorem dX1_joinCrc_48 : decode cX1_joinCrc 48 = .ok (.iadd, 1) := dk_96 (dk_at dksX1_joinCrc_2 0 rfl rfl)
theorem dX1_joinCrc_49 : decode cX1_joinCrc 49 = .ok (.iload 5, 2) := dk_21 5 (dk_at dksX1_joinCrc_2 1 rfl rfl)
theorem dX1_joinCrc_51 : decode cX1_joinCrc 51 = .ok (.iload 6, 2) := dk_21 6 (dk_at dksX1_joinCrc_2 3 rfl rfl)
theorem dX1_joinCrc_53 : decode cX1_joinCrc 53 = .ok (.isub, 1) := dk_100 (dk_at dksX1_joinCrc_2 5 rfl rfl)
theorem dX1_joinCrc_54 : decode cX1_joinCrc 54 = .ok (.invokestatic 46, 3) := dk_184 0 46 (dk_at dksX1_joinCrc_2 6 rfl rfl)
theorem dX1_joinCrc_57 : decode cX1_joinCrc 57 = .ok (.iload 5, 2) := dk_21 5 (dk_at dksX1_joinCrc_2 9 rfl rfl)
theorem dX1_joinCrc_59 : decode cX1_joinCrc 59 = .ok (.iload 6, 2) := dk_21 6 (dk_at dksX1_joinCrc_2 11 rfl rfl)
theorem dX1_joinCrc_61 : decode cX1_joinCrc 61 = .ok (.isub, 1) := dk_100 (dk_at dksX1_joinCrc_2 13 rfl rfl)
theorem dX1_joinCrc_62 : decode cX1_joinCrc 62 = .ok (.i2l, 1) := dk_133 (dk_at dksX1_joinCrc_2 14 rfl rfl)
theorem dX1_joinCrc_63 : decode cX1_joinCrc 63 = .ok (.invokestatic 50, 3) := dk_184 0 50 (dk_at dksX1_joinCrc_2 15 rfl rfl)
theorem dX1_joinCrc_66 : decode cX1_joinCrc 66 = .ok (.lreturn, 1) := dk_173 (dk_at dksX1_joinCrc_2 18 rfl rfl)
abbrev cX1_joinAdler : ByteArray := prog_3_method_12_code
def yX1_joinAdler : MethodName := ⟨RX1, "joinAdler", "(III)J"⟩
def dkwX1_joinAdler_2 : List UInt8 := [96, 21, 5, 21, 6, 100, 184, 0, 46, 21, 5, 21, 6, 100, 133, 184, 0, 54, 173]
abbrev dktX1_joinAdler_2 : List UInt8 := dkwX1_joinAdler_2 ++ []
def dkwX1_joinAdler_1 : List UInt8 := [112, 54, 6, 3, 42, 180, 0, 7, 21, 4, 21, 6, 184, 0, 46, 3, 42, 180, 0, 7, 21, 4, 21, 6]
abbrev dktX1_joinAdler_1 : List UInt8 := dkwX1_joinAdler_1 ++ dktX1_joinAdler_2
def dkwX1_joinAdler_0 : List UInt8 := [42, 27, 182, 0, 21, 54, 4, 42, 21, 4, 28, 182, 0, 42, 54, 5, 29, 18, 25, 126, 21, 5, 4, 96]
abbrev dktX1_joinAdler_0 : List UInt8 := dkwX1_joinAdler_0 ++ dktX1_joinAdler_1
theorem dksX1_joinAdler_0 : cX1_joinAdler.data.toList.drop 0 = dktX1_joinAdler_0 := by decide +kernel
theorem dksX1_joinAdler_1 : cX1_joinAdler.data.toList.drop 24 = dktX1_joinAdler_1 := dk_seg dksX1_joinAdler_0 24 rfl rfl
theorem dksX1_joinAdler_2 : cX1_joinAdler.data.toList.drop 48 = dktX1_joinAdler_2 := dk_seg dksX1_joinAdler_1 24 rfl rfl
theorem dX1_joinAdler_0 : decode cX1_joinAdler 0 = .ok (.aload_n 0, 1) := dk_42 (dk_at dksX1_joinAdler_0 0 rfl rfl)
theorem dX1_joinAdler_1 : decode cX1_joinAdler 1 = .ok (.iload_n 1, 1) := dk_27 (dk_at dksX1_joinAdler_0 1 rfl rfl)
theorem dX1_joinAdler_2 : decode cX1_joinAdler 2 = .ok (.invokevirtual 21, 3) := dk_182 0 21 (dk_at dksX1_joinAdler_0 2 rfl rfl)
theorem dX1_joinAdler_5 : decode cX1_joinAdler 5 = .ok (.istore 4, 2) := dk_54 4 (dk_at dksX1_joinAdler_0 5 rfl rfl)
theorem dX1_joinAdler_7 : decode cX1_joinAdler 7 = .ok (.aload_n 0, 1) := dk_42 (dk_at dksX1_joinAdler_0 7 rfl rfl)
theorem dX1_joinAdler_8 : decode cX1_joinAdler 8 = .ok (.iload 4, 2) := dk_21 4 (dk_at dksX1_joinAdler_0 8 rfl rfl)
theorem dX1_joinAdler_10 : decode cX1_joinAdler 10 = .ok (.iload_n 2, 1) := dk_28 (dk_at dksX1_joinAdler_0 10 rfl rfl)
theorem dX1_joinAdler_11 : decode cX1_joinAdler 11 = .ok (.invokevirtual 42, 3) := dk_182 0 42 (dk_at dksX1_joinAdler_0 11 rfl rfl)
theorem dX1_joinAdler_14 : decode cX1_joinAdler 14 = .ok (.istore 5, 2) := dk_54 5 (dk_at dksX1_joinAdler_0 14 rfl rfl)
theorem dX1_joinAdler_16 : decode cX1_joinAdler 16 = .ok (.iload_n 3, 1) := dk_29 (dk_at dksX1_joinAdler_0 16 rfl rfl)
theorem dX1_joinAdler_17 : decode cX1_joinAdler 17 = .ok (.ldc 25, 2) := dk_18 25 (dk_at dksX1_joinAdler_0 17 rfl rfl)
theorem dX1_joinAdler_19 : decode cX1_joinAdler 19 = .ok (.iand, 1) := dk_126 (dk_at dksX1_joinAdler_0 19 rfl rfl)
theorem dX1_joinAdler_20 : decode cX1_joinAdler 20 = .ok (.iload 5, 2) := dk_21 5 (dk_at dksX1_joinAdler_0 20 rfl rfl)
theorem dX1_joinAdler_22 : decode cX1_joinAdler 22 = .ok (.iconst 1, 1) := dk_4 (dk_at dksX1_joinAdler_0 22 rfl rfl)
theorem dX1_joinAdler_23 : decode cX1_joinAdler 23 = .ok (.iadd, 1) := dk_96 (dk_at dksX1_joinAdler_0 23 rfl rfl)
theorem dX1_joinAdler_24 : decode cX1_joinAdler 24 = .ok (.irem, 1) := dk_112 (dk_at dksX1_joinAdler_1 0 rfl rfl)
theorem dX1_joinAdler_25 : decode cX1_joinAdler 25 = .ok (.istore 6, 2) := dk_54 6 (dk_at dksX1_joinAdler_1 1 rfl rfl)
theorem dX1_joinAdler_27 : decode cX1_joinAdler 27 = .ok (.iconst 0, 1) := dk_3 (dk_at dksX1_joinAdler_1 3 rfl rfl)
theorem dX1_joinAdler_28 : decode cX1_joinAdler 28 = .ok (.aload_n 0, 1) := dk_42 (dk_at dksX1_joinAdler_1 4 rfl rfl)
theorem dX1_joinAdler_29 : decode cX1_joinAdler 29 = .ok (.getfield 7, 3) := dk_180 0 7 (dk_at dksX1_joinAdler_1 5 rfl rfl)
theorem dX1_joinAdler_32 : decode cX1_joinAdler 32 = .ok (.iload 4, 2) := dk_21 4 (dk_at dksX1_joinAdler_1 8 rfl rfl)
theorem dX1_joinAdler_34 : decode cX1_joinAdler 34 = .ok (.iload 6, 2) := dk_21 6 (dk_at dksX1_joinAdler_1 10 rfl rfl)
theorem dX1_joinAdler_36 : decode cX1_joinAdler 36 = .ok (.invokestatic 46, 3) := dk_184 0 46 (dk_at dksX1_joinAdler_1 12 rfl rfl)
theorem dX1_joinAdler_39 : decode cX1_joinAdler 39 = .ok (.iconst 0, 1) := dk_3 (dk_at dksX1_joinAdler_1 15 rfl rfl)
theorem dX1_joinAdler_40 : decode cX1_joinAdler 40 = .ok (.aload_n 0, 1) := dk_42 (dk_at dksX1_joinAdler_1 16 rfl rfl)
theorem dX1_joinAdler_41 : decode cX1_joinAdler 41 = .ok (.getfield 7, 3) := dk_180 0 7 (dk_at dksX1_joinAdler_1 17 rfl rfl)
theorem dX1_joinAdler_44 : decode cX1_joinAdler 44 = .ok (.iload 4, 2) := dk_21 4 (dk_at dksX1_joinAdler_1 20 rfl rfl)
theorem dX1_joinAdler_46 : decode cX1_joinAdler 46 = .ok (.iload 6, 2) := dk_21 6 (dk_at dksX1_joinAdler_1 22 rfl rfl)
theorem dX1_joinAdler_48 : decode cX1_joinAdler 48 = .ok (.iadd, 1) := dk_96 (dk_at dksX1_joinAdler_2 0 rfl rfl)
theorem dX1_joinAdler_49 : decode cX1_joinAdler 49 = .ok (.iload 5, 2) := dk_21 5 (dk_at dksX1_joinAdler_2 1 rfl rfl)
theorem dX1_joinAdler_51 : decode cX1_joinAdler 51 = .ok (.iload 6, 2) := dk_21 6 (dk_at dksX1_joinAdler_2 3 rfl rfl)
theorem dX1_joinAdler_53 : decode cX1_joinAdler 53 = .ok (.isub, 1) := dk_100 (dk_at dksX1_joinAdler_2 5 rfl rfl)
theorem dX1_joinAdler_54 : decode cX1_joinAdler 54 = .ok (.invokestatic 46, 3) := dk_184 0 46 (dk_at dksX1_joinAdler_2 6 rfl rfl)
theorem dX1_joinAdler_57 : decode cX1_joinAdler 57 = .ok (.iload 5, 2) := dk_21 5 (dk_at dksX1_joinAdler_2 9 rfl rfl)
theorem dX1_joinAdler_59 : decode cX1_joinAdler 59 = .ok (.iload 6, 2) := dk_21 6 (dk_at dksX1_joinAdler_2 11 rfl rfl)
theorem dX1_joinAdler_61 : decode cX1_joinAdler 61 = .ok (.isub, 1) := dk_100 (dk_at dksX1_joinAdler_2 13 rfl rfl)
theorem dX1_joinAdler_62 : decode cX1_joinAdler 62 = .ok (.i2l, 1) := dk_133 (dk_at dksX1_joinAdler_2 14 rfl rfl)
theorem dX1_joinAdler_63 : decode cX1_joinAdler 63 = .ok (.invokestatic 54, 3) := dk_184 0 54 (dk_at dksX1_joinAdler_2 15 rfl rfl)
theorem dX1_joinAdler_66 : decode cX1_joinAdler 66 = .ok (.lreturn, 1) := dk_173 (dk_at dksX1_joinAdler_2 18 rfl rfl)
theorem q4 : (Jvm.Cond.initialized "SumJoin") ∈ lw_all := lw_g (lw_at lw_m0 1 rfl) rfl
theorem q8 : (Jvm.Cond.instantiable "SumJoin" (2 : Nat)) ∈ lw_all := lw_g (lw_at lw_m0 5 rfl) rfl
theorem q10 : (Jvm.Cond.instanceMethod ({ cls := "SumJoin", name := "<init>", desc := "()V" } : Jvm.MethodName)) ∈ lw_all := lw_g (lw_at lw_m0 7 rfl) rfl
theorem q11 : (Jvm.Cond.code ({ cls := "SumJoin", name := "<init>", desc := "()V" } : Jvm.MethodName) prog_3_method_1_code (1 : Nat) (Option.none : Option Jvm.ClassFile.FieldType)) ∈ lw_all := lw_g (lw_at lw_m0 8 rfl) rfl
theorem q12 : (Jvm.Cond.methodLink "SumJoin" (1 : Nat) ({ cls := "java/lang/Object", name := "<init>", desc := "()V" } : Jvm.MethodName)) ∈ lw_all := lw_g (lw_at lw_m0 9 rfl) rfl
theorem q15 : (Jvm.Cond.fieldLink "SumJoin" (7 : Nat) "SumJoin" "text" "[B") ∈ lw_all := lw_g (lw_at lw_m0 12 rfl) rfl
theorem q16 : (Jvm.Cond.fieldLink "SumJoin" (13 : Nat) "SumJoin" "size" "I") ∈ lw_all := lw_g (lw_at lw_m0 13 rfl) rfl
theorem q17 : (Jvm.Cond.laysFinal "SumJoin" "SumJoin" "text" "[B") ∈ lw_all := lw_g (lw_at lw_m0 14 rfl) rfl
theorem q18 : (Jvm.Cond.soleField "SumJoin" "text") ∈ lw_all := lw_g (lw_at lw_m0 15 rfl) rfl
theorem q19 : (Jvm.Cond.lays "SumJoin" "SumJoin" "size" "I") ∈ lw_all := lw_g (lw_at lw_m0 16 rfl) rfl
theorem q20 : (Jvm.Cond.soleField "SumJoin" "size") ∈ lw_all := lw_g (lw_at lw_m0 17 rfl) rfl
theorem q21 : (Jvm.Cond.superclass "SumJoin" "java/lang/Object") ∈ lw_all := lw_g (lw_at lw_m0 18 rfl) rfl
theorem q24 : (Jvm.Cond.instanceMethod ({ cls := "SumJoin", name := "put", desc := "(IIII)Z" } : Jvm.MethodName)) ∈ lw_all := lw_g (lw_at lw_m0 21 rfl) rfl
theorem q25 : (Jvm.Cond.selects "SumJoin" ({ cls := "SumJoin", name := "put", desc := "(IIII)Z" } : Jvm.MethodName) ({ cls := "SumJoin", name := "put", desc := "(IIII)Z" } : Jvm.MethodName)) ∈ lw_all := lw_g (lw_at lw_m0 22 rfl) rfl
theorem q26 : (Jvm.Cond.code ({ cls := "SumJoin", name := "put", desc := "(IIII)Z" } : Jvm.MethodName) prog_3_method_2_code (5 : Nat) (Option.some Jvm.ClassFile.FieldType.boolean)) ∈ lw_all := lw_g (lw_at lw_m0 23 rfl) rfl
theorem q27 : (Jvm.Cond.methodLink "SumJoin" (17 : Nat) ({ cls := "SumJoin", name := "word", desc := "(II)V" } : Jvm.MethodName)) ∈ lw_all := lw_g (lw_at lw_m0 24 rfl) rfl
theorem q28 : (Jvm.Cond.privateMethod ({ cls := "SumJoin", name := "word", desc := "(II)V" } : Jvm.MethodName)) ∈ lw_tbl := lw_at lw_m0 25 rfl
theorem q29 : (Jvm.Cond.instanceMethod ({ cls := "SumJoin", name := "word", desc := "(II)V" } : Jvm.MethodName)) ∈ lw_all := lw_g (lw_at lw_m0 26 rfl) rfl
theorem q30 : (Jvm.Cond.code ({ cls := "SumJoin", name := "word", desc := "(II)V" } : Jvm.MethodName) prog_3_method_3_code (3 : Nat) (Option.none : Option Jvm.ClassFile.FieldType)) ∈ lw_all := lw_g (lw_at lw_m0 27 rfl) rfl
theorem q32 : (Jvm.Cond.instanceMethod ({ cls := "SumJoin", name := "trim", desc := "(I)V" } : Jvm.MethodName)) ∈ lw_all := lw_g (lw_at lw_m0 29 rfl) rfl
theorem q33 : (Jvm.Cond.selects "SumJoin" ({ cls := "SumJoin", name := "trim", desc := "(I)V" } : Jvm.MethodName) ({ cls := "SumJoin", name := "trim", desc := "(I)V" } : Jvm.MethodName)) ∈ lw_all := lw_g (lw_at lw_m0 30 rfl) rfl
theorem q34 : (Jvm.Cond.code ({ cls := "SumJoin", name := "trim", desc := "(I)V" } : Jvm.MethodName) prog_3_method_4_code (2 : Nat) (Option.none : Option Jvm.ClassFile.FieldType)) ∈ lw_all := lw_g (lw_at lw_m0 31 rfl) rfl
theorem q35 : (Jvm.Cond.methodLink "SumJoin" (21 : Nat) ({ cls := "SumJoin", name := "from", desc := "(I)I" } : Jvm.MethodName)) ∈ lw_all := lw_g (lw_at lw_m0 32 rfl) rfl
theorem q36 : (Jvm.Cond.privateMethod ({ cls := "SumJoin", name := "from", desc := "(I)I" } : Jvm.MethodName)) ∈ lw_tbl := lw_at lw_m0 33 rfl
theorem q37 : (Jvm.Cond.instanceMethod ({ cls := "SumJoin", name := "from", desc := "(I)I" } : Jvm.MethodName)) ∈ lw_all := lw_g (lw_at lw_m0 34 rfl) rfl
theorem q38 : (Jvm.Cond.code ({ cls := "SumJoin", name := "from", desc := "(I)I" } : Jvm.MethodName) prog_3_method_6_code (2 : Nat) (Option.some Jvm.ClassFile.FieldType.int)) ∈ lw_all := lw_g (lw_at lw_m0 35 rfl) rfl
theorem q39 : (Jvm.Cond.constant "SumJoin" (25 : Nat) (2147483647 : Int32)) ∈ lw_all := lw_g (lw_at lw_m0 36 rfl) rfl
theorem q41 : (Jvm.Cond.instanceMethod ({ cls := "SumJoin", name := "size", desc := "()I" } : Jvm.MethodName)) ∈ lw_all := lw_g (lw_at lw_m0 38 rfl) rfl
theorem q42 : (Jvm.Cond.selects "SumJoin" ({ cls := "SumJoin", name := "size", desc := "()I" } : Jvm.MethodName) ({ cls := "SumJoin", name := "size", desc := "()I" } : Jvm.MethodName)) ∈ lw_all := lw_g (lw_at lw_m0 39 rfl) rfl
theorem q43 : (Jvm.Cond.code ({ cls := "SumJoin", name := "size", desc := "()I" } : Jvm.MethodName) prog_3_method_5_code (1 : Nat) (Option.some Jvm.ClassFile.FieldType.int)) ∈ lw_all := lw_g (lw_at lw_m0 40 rfl) rfl
theorem q45 : (Jvm.Cond.instanceMethod ({ cls := "SumJoin", name := "crc", desc := "(II)J" } : Jvm.MethodName)) ∈ lw_all := lw_g (lw_at lw_m0 42 rfl) rfl
theorem q46 : (Jvm.Cond.selects "SumJoin" ({ cls := "SumJoin", name := "crc", desc := "(II)J" } : Jvm.MethodName) ({ cls := "SumJoin", name := "crc", desc := "(II)J" } : Jvm.MethodName)) ∈ lw_all := lw_g (lw_at lw_m0 43 rfl) rfl
theorem q47 : (Jvm.Cond.code ({ cls := "SumJoin", name := "crc", desc := "(II)J" } : Jvm.MethodName) prog_3_method_9_code (4 : Nat) (Option.some Jvm.ClassFile.FieldType.long)) ∈ lw_all := lw_g (lw_at lw_m0 44 rfl) rfl
theorem q48 : (Jvm.Cond.methodLink "SumJoin" (42 : Nat) ({ cls := "SumJoin", name := "count", desc := "(II)I" } : Jvm.MethodName)) ∈ lw_all := lw_g (lw_at lw_m0 45 rfl) rfl
theorem q49 : (Jvm.Cond.privateMethod ({ cls := "SumJoin", name := "count", desc := "(II)I" } : Jvm.MethodName)) ∈ lw_tbl := lw_at lw_m0 46 rfl
theorem q50 : (Jvm.Cond.instanceMethod ({ cls := "SumJoin", name := "count", desc := "(II)I" } : Jvm.MethodName)) ∈ lw_all := lw_g (lw_at lw_m0 47 rfl) rfl
theorem q51 : (Jvm.Cond.code ({ cls := "SumJoin", name := "count", desc := "(II)I" } : Jvm.MethodName) prog_3_method_7_code (3 : Nat) (Option.some Jvm.ClassFile.FieldType.int)) ∈ lw_all := lw_g (lw_at lw_m0 48 rfl) rfl
theorem q52 : (Jvm.Cond.methodLink "SumJoin" (46 : Nat) ({ cls := "SumJoin", name := "sum", desc := "(Z[BII)J" } : Jvm.MethodName)) ∈ lw_all := lw_g (lw_at lw_m0 49 rfl) rfl
theorem q53 : (Jvm.Cond.static ({ cls := "SumJoin", name := "sum", desc := "(Z[BII)J" } : Jvm.MethodName)) ∈ lw_all := lw_g (lw_at lw_m0 50 rfl) rfl
theorem q54 : (Jvm.Cond.code ({ cls := "SumJoin", name := "sum", desc := "(Z[BII)J" } : Jvm.MethodName) prog_3_method_8_code (5 : Nat) (Option.some Jvm.ClassFile.FieldType.long)) ∈ lw_all := lw_g (lw_at lw_m0 51 rfl) rfl
theorem q55 : (Jvm.Cond.classLink "SumJoin" (26 : Nat) "CRC32") ∈ lw_all := lw_g (lw_at lw_m0 52 rfl) rfl
theorem q57 : (Jvm.Cond.methodLink "SumJoin" (28 : Nat) ({ cls := "CRC32", name := "<init>", desc := "()V" } : Jvm.MethodName)) ∈ lw_all := lw_g (lw_at lw_m0 54 rfl) rfl
theorem q65 : (Jvm.Cond.methodLink "SumJoin" (29 : Nat) ({ cls := "CRC32", name := "update", desc := "([BII)V" } : Jvm.MethodName)) ∈ lw_all := lw_g (lw_at lw_m0 62 rfl) rfl
theorem q71 : (Jvm.Cond.methodLink "SumJoin" (33 : Nat) ({ cls := "CRC32", name := "getValue", desc := "()J" } : Jvm.MethodName)) ∈ lw_all := lw_g (lw_at lw_m0 68 rfl) rfl
theorem q76 : (Jvm.Cond.classLink "SumJoin" (37 : Nat) "Adler32") ∈ lw_all := lw_g (lw_at lw_m0 73 rfl) rfl
theorem q78 : (Jvm.Cond.methodLink "SumJoin" (39 : Nat) ({ cls := "Adler32", name := "<init>", desc := "()V" } : Jvm.MethodName)) ∈ lw_all := lw_g (lw_at lw_m0 75 rfl) rfl
theorem q89 : (Jvm.Cond.methodLink "SumJoin" (40 : Nat) ({ cls := "Adler32", name := "update", desc := "([BII)V" } : Jvm.MethodName)) ∈ lw_all := lw_g (lw_at lw_m0 86 rfl) rfl
theorem q94 : (Jvm.Cond.methodLink "SumJoin" (41 : Nat) ({ cls := "Adler32", name := "getValue", desc := "()J" } : Jvm.MethodName)) ∈ lw_all := lw_g (lw_at lw_m0 91 rfl) rfl
theorem q99 : (Jvm.Cond.instanceMethod ({ cls := "SumJoin", name := "adler", desc := "(II)J" } : Jvm.MethodName)) ∈ lw_all := lw_g (lw_at lw_m0 96 rfl) rfl
theorem q100 : (Jvm.Cond.selects "SumJoin" ({ cls := "SumJoin", name := "adler", desc := "(II)J" } : Jvm.MethodName) ({ cls := "SumJoin", name := "adler", desc := "(II)J" } : Jvm.MethodName)) ∈ lw_all := lw_g (lw_at lw_m0 97 rfl) rfl
theorem q101 : (Jvm.Cond.code ({ cls := "SumJoin", name := "adler", desc := "(II)J" } : Jvm.MethodName) prog_3_method_10_code (4 : Nat) (Option.some Jvm.ClassFile.FieldType.long)) ∈ lw_all := lw_g (lw_at lw_m0 98 rfl) rfl
theorem q103 : (Jvm.Cond.instanceMethod ({ cls := "SumJoin", name := "joinCrc", desc := "(III)J" } : Jvm.MethodName)) ∈ lw_all := lw_g (lw_at lw_m0 100 rfl) rfl
theorem q104 : (Jvm.Cond.selects "SumJoin" ({ cls := "SumJoin", name := "joinCrc", desc := "(III)J" } : Jvm.MethodName) ({ cls := "SumJoin", name := "joinCrc", desc := "(III)J" } : Jvm.MethodName)) ∈ lw_all := lw_g (lw_at lw_m0 101 rfl) rfl
theorem q105 : (Jvm.Cond.code ({ cls := "SumJoin", name := "joinCrc", desc := "(III)J" } : Jvm.MethodName) prog_3_method_11_code (7 : Nat) (Option.some Jvm.ClassFile.FieldType.long)) ∈ lw_all := lw_g (lw_at lw_m0 102 rfl) rfl
theorem q106 : (Jvm.Cond.methodLink "SumJoin" (50 : Nat) ({ cls := "CRC32", name := "combine", desc := "(JJJ)J" } : Jvm.MethodName)) ∈ lw_all := lw_g (lw_at lw_m0 103 rfl) rfl
theorem q118 : (Jvm.Cond.instanceMethod ({ cls := "SumJoin", name := "joinAdler", desc := "(III)J" } : Jvm.MethodName)) ∈ lw_all := lw_g (lw_at lw_m0 115 rfl) rfl
theorem q119 : (Jvm.Cond.selects "SumJoin" ({ cls := "SumJoin", name := "joinAdler", desc := "(III)J" } : Jvm.MethodName) ({ cls := "SumJoin", name := "joinAdler", desc := "(III)J" } : Jvm.MethodName)) ∈ lw_all := lw_g (lw_at lw_m0 116 rfl) rfl
theorem q120 : (Jvm.Cond.code ({ cls := "SumJoin", name := "joinAdler", desc := "(III)J" } : Jvm.MethodName) prog_3_method_12_code (7 : Nat) (Option.some Jvm.ClassFile.FieldType.long)) ∈ lw_all := lw_g (lw_at lw_m0 117 rfl) rfl
theorem q121 : (Jvm.Cond.methodLink "SumJoin" (54 : Nat) ({ cls := "Adler32", name := "combine", desc := "(JJJ)J" } : Jvm.MethodName)) ∈ lw_all := lw_g (lw_at lw_m0 118 rfl) rfl
theorem in_X1 : ∀ w ∈ wsX10, w ∈ lw_all := lw_in wsX10 [17, 19] (by decide +kernel) (by decide +kernel)
end
section
/-! CRC32 -/
set_option maxRecDepth 100000
def RX2 : String := "CRC32"
def TX2 : u_T := fun k => match k with
  | _ => ("CRC32", "v", "I", false)
def tyX2 : Nat → FieldType := fun k => match k with
  | _ => .int
abbrev wsX20 : List Cond := u_ws RX2 TX2 1
theorem nmX2 : ∀ a, a < 1 → ∀ b, b < 1 → a ≠ b → (TX2 a).2.1 ≠ (TX2 b).2.1 := by decide +kernel
theorem tyX2_ok : ∀ k, k < 1 → parseFieldDescriptor (TX2 k).2.2.1 = some (tyX2 k) := by decide +kernel
abbrev cX2_init : ByteArray := prog_2_method_1_code
def yX2_init : MethodName := ⟨RX2, "<init>", "()V"⟩
def dkwX2_init_0 : List UInt8 := [42, 183, 0, 1, 42, 3, 181, 0, 7, 177]
abbrev dktX2_init_0 : List UInt8 := dkwX2_init_0 ++ []
theorem dksX2_init_0 : cX2_init.data.toList.drop 0 = dktX2_init_0 := by decide +kernel
theorem dX2_init_0 : decode cX2_init 0 = .ok (.aload_n 0, 1) := dk_42 (dk_at dksX2_init_0 0 rfl rfl)
theorem dX2_init_1 : decode cX2_init 1 = .ok (.invokespecial 1, 3) := dk_183 0 1 (dk_at dksX2_init_0 1 rfl rfl)
theorem dX2_init_4 : decode cX2_init 4 = .ok (.aload_n 0, 1) := dk_42 (dk_at dksX2_init_0 4 rfl rfl)
theorem dX2_init_5 : decode cX2_init 5 = .ok (.iconst 0, 1) := dk_3 (dk_at dksX2_init_0 5 rfl rfl)
theorem dX2_init_6 : decode cX2_init 6 = .ok (.putfield 7, 3) := dk_181 0 7 (dk_at dksX2_init_0 6 rfl rfl)
theorem dX2_init_9 : decode cX2_init 9 = .ok (.return_, 1) := dk_177 (dk_at dksX2_init_0 9 rfl rfl)
abbrev cX2_update : ByteArray := prog_2_method_2_code
def yX2_update : MethodName := ⟨RX2, "update", "([BII)V"⟩
def dkwX2_update_2 : List UInt8 := [2, 130, 181, 0, 7, 177]
abbrev dktX2_update_2 : List UInt8 := dkwX2_update_2 ++ []
def dkwX2_update_1 : List UInt8 := [132, 2, 1, 51, 130, 17, 0, 255, 126, 46, 21, 4, 16, 8, 124, 130, 54, 4, 167, 255, 224, 42, 21, 4]
abbrev dktX2_update_1 : List UInt8 := dkwX2_update_1 ++ dktX2_update_2
def dkwX2_update_0 : List UInt8 := [42, 180, 0, 7, 2, 130, 54, 4, 132, 3, 255, 29, 155, 0, 31, 178, 0, 13, 21, 4, 43, 28]
abbrev dktX2_update_0 : List UInt8 := dkwX2_update_0 ++ dktX2_update_1
theorem dksX2_update_0 : cX2_update.data.toList.drop 0 = dktX2_update_0 := by decide +kernel
theorem dksX2_update_1 : cX2_update.data.toList.drop 22 = dktX2_update_1 := dk_seg dksX2_update_0 22 rfl rfl
theorem dksX2_update_2 : cX2_update.data.toList.drop 46 = dktX2_update_2 := dk_seg dksX2_update_1 24 rfl rfl
theorem dX2_update_0 : decode cX2_update 0 = .ok (.aload_n 0, 1) := dk_42 (dk_at dksX2_update_0 0 rfl rfl)
theorem dX2_update_1 : decode cX2_update 1 = .ok (.getfield 7, 3) := dk_180 0 7 (dk_at dksX2_update_0 1 rfl rfl)
theorem dX2_update_4 : decode cX2_update 4 = .ok (.iconst (-1), 1) := dk_2 (dk_at dksX2_update_0 4 rfl rfl)
theorem dX2_update_5 : decode cX2_update 5 = .ok (.ixor, 1) := dk_130 (dk_at dksX2_update_0 5 rfl rfl)
theorem dX2_update_6 : decode cX2_update 6 = .ok (.istore 4, 2) := dk_54 4 (dk_at dksX2_update_0 6 rfl rfl)
theorem dX2_update_8 : decode cX2_update 8 = .ok (.iinc 3 (-1), 3) := dk_132 3 255 (dk_at dksX2_update_0 8 rfl rfl)
theorem dX2_update_11 : decode cX2_update 11 = .ok (.iload_n 3, 1) := dk_29 (dk_at dksX2_update_0 11 rfl rfl)
theorem dX2_update_12 : decode cX2_update 12 = .ok (.ifCond .lt 31, 3) := dk_155 0 31 (dk_at dksX2_update_0 12 rfl rfl)
theorem dX2_update_15 : decode cX2_update 15 = .ok (.getstatic 13, 3) := dk_178 0 13 (dk_at dksX2_update_0 15 rfl rfl)
theorem dX2_update_18 : decode cX2_update 18 = .ok (.iload 4, 2) := dk_21 4 (dk_at dksX2_update_0 18 rfl rfl)
theorem dX2_update_20 : decode cX2_update 20 = .ok (.aload_n 1, 1) := dk_43 (dk_at dksX2_update_0 20 rfl rfl)
theorem dX2_update_21 : decode cX2_update 21 = .ok (.iload_n 2, 1) := dk_28 (dk_at dksX2_update_0 21 rfl rfl)
theorem dX2_update_22 : decode cX2_update 22 = .ok (.iinc 2 1, 3) := dk_132 2 1 (dk_at dksX2_update_1 0 rfl rfl)
theorem dX2_update_25 : decode cX2_update 25 = .ok (.baload, 1) := dk_51 (dk_at dksX2_update_1 3 rfl rfl)
theorem dX2_update_26 : decode cX2_update 26 = .ok (.ixor, 1) := dk_130 (dk_at dksX2_update_1 4 rfl rfl)
theorem dX2_update_27 : decode cX2_update 27 = .ok (.sipush 255, 3) := dk_17 0 255 (dk_at dksX2_update_1 5 rfl rfl)
theorem dX2_update_30 : decode cX2_update 30 = .ok (.iand, 1) := dk_126 (dk_at dksX2_update_1 8 rfl rfl)
theorem dX2_update_31 : decode cX2_update 31 = .ok (.iaload, 1) := dk_46 (dk_at dksX2_update_1 9 rfl rfl)
theorem dX2_update_32 : decode cX2_update 32 = .ok (.iload 4, 2) := dk_21 4 (dk_at dksX2_update_1 10 rfl rfl)
theorem dX2_update_34 : decode cX2_update 34 = .ok (.bipush 8, 2) := dk_16 8 (dk_at dksX2_update_1 12 rfl rfl)
theorem dX2_update_36 : decode cX2_update 36 = .ok (.iushr, 1) := dk_124 (dk_at dksX2_update_1 14 rfl rfl)
theorem dX2_update_37 : decode cX2_update 37 = .ok (.ixor, 1) := dk_130 (dk_at dksX2_update_1 15 rfl rfl)
theorem dX2_update_38 : decode cX2_update 38 = .ok (.istore 4, 2) := dk_54 4 (dk_at dksX2_update_1 16 rfl rfl)
theorem dX2_update_40 : decode cX2_update 40 = .ok (.goto (-32), 3) := dk_167 255 224 (dk_at dksX2_update_1 18 rfl rfl)
theorem dX2_update_43 : decode cX2_update 43 = .ok (.aload_n 0, 1) := dk_42 (dk_at dksX2_update_1 21 rfl rfl)
theorem dX2_update_44 : decode cX2_update 44 = .ok (.iload 4, 2) := dk_21 4 (dk_at dksX2_update_1 22 rfl rfl)
theorem dX2_update_46 : decode cX2_update 46 = .ok (.iconst (-1), 1) := dk_2 (dk_at dksX2_update_2 0 rfl rfl)
theorem dX2_update_47 : decode cX2_update 47 = .ok (.ixor, 1) := dk_130 (dk_at dksX2_update_2 1 rfl rfl)
theorem dX2_update_48 : decode cX2_update 48 = .ok (.putfield 7, 3) := dk_181 0 7 (dk_at dksX2_update_2 2 rfl rfl)
theorem dX2_update_51 : decode cX2_update 51 = .ok (.return_, 1) := dk_177 (dk_at dksX2_update_2 5 rfl rfl)
abbrev cX2_getValue : ByteArray := prog_2_method_3_code
def yX2_getValue : MethodName := ⟨RX2, "getValue", "()J"⟩
def dkwX2_getValue_0 : List UInt8 := [42, 180, 0, 7, 133, 20, 0, 17, 127, 173]
abbrev dktX2_getValue_0 : List UInt8 := dkwX2_getValue_0 ++ []
theorem dksX2_getValue_0 : cX2_getValue.data.toList.drop 0 = dktX2_getValue_0 := by decide +kernel
theorem dX2_getValue_0 : decode cX2_getValue 0 = .ok (.aload_n 0, 1) := dk_42 (dk_at dksX2_getValue_0 0 rfl rfl)
theorem dX2_getValue_1 : decode cX2_getValue 1 = .ok (.getfield 7, 3) := dk_180 0 7 (dk_at dksX2_getValue_0 1 rfl rfl)
theorem dX2_getValue_4 : decode cX2_getValue 4 = .ok (.i2l, 1) := dk_133 (dk_at dksX2_getValue_0 4 rfl rfl)
theorem dX2_getValue_5 : decode cX2_getValue 5 = .ok (.ldc2_w 17, 3) := dk_20 0 17 (dk_at dksX2_getValue_0 5 rfl rfl)
theorem dX2_getValue_8 : decode cX2_getValue 8 = .ok (.land, 1) := dk_127 (dk_at dksX2_getValue_0 8 rfl rfl)
theorem dX2_getValue_9 : decode cX2_getValue 9 = .ok (.lreturn, 1) := dk_173 (dk_at dksX2_getValue_0 9 rfl rfl)
abbrev cX2_combine : ByteArray := prog_2_method_4_code
def yX2_combine : MethodName := ⟨RX2, "combine", "(JJJ)J"⟩
def dkwX2_combine_6 : List UInt8 := [55, 4, 22, 4, 9, 148, 154, 255, 184, 30, 32, 131, 63, 30, 173]
abbrev dktX2_combine_6 : List UInt8 := dkwX2_combine_6 ++ []
def dkwX2_combine_5 : List UInt8 := [184, 0, 21, 22, 4, 10, 127, 9, 148, 153, 0, 10, 25, 9, 30, 184, 0, 25, 63, 22, 4, 4, 123]
abbrev dktX2_combine_5 : List UInt8 := dkwX2_combine_5 ++ dktX2_combine_6
def dkwX2_combine_4 : List UInt8 := [184, 0, 25, 63, 22, 4, 4, 123, 55, 4, 22, 4, 9, 148, 154, 0, 6, 167, 0, 39, 25, 9, 25, 8]
abbrev dktX2_combine_4 : List UInt8 := dkwX2_combine_4 ++ dktX2_combine_5
def dkwX2_combine_3 : List UInt8 := [184, 0, 21, 25, 8, 25, 9, 184, 0, 21, 22, 4, 10, 127, 9, 148, 153, 0, 10, 25, 8, 30]
abbrev dktX2_combine_3 : List UInt8 := dkwX2_combine_3 ++ dktX2_combine_4
def dkwX2_combine_2 : List UInt8 := [22, 6, 4, 121, 55, 6, 132, 10, 1, 167, 255, 233, 25, 8, 25, 9, 184, 0, 21, 25, 9, 25, 8]
abbrev dktX2_combine_2 : List UInt8 := dkwX2_combine_2 ++ dktX2_combine_3
def dkwX2_combine_1 : List UInt8 := [20, 0, 19, 80, 10, 55, 6, 4, 54, 10, 21, 10, 16, 32, 162, 0, 22, 25, 9, 21, 10, 22, 6, 80]
abbrev dktX2_combine_1 : List UInt8 := dkwX2_combine_1 ++ dktX2_combine_2
def dkwX2_combine_0 : List UInt8 := [16, 32, 188, 11, 58, 8, 16, 32, 188, 11, 58, 9, 22, 4, 9, 148, 157, 0, 5, 30, 173, 25, 9, 3]
abbrev dktX2_combine_0 : List UInt8 := dkwX2_combine_0 ++ dktX2_combine_1
theorem dksX2_combine_0 : cX2_combine.data.toList.drop 0 = dktX2_combine_0 := by decide +kernel
theorem dksX2_combine_1 : cX2_combine.data.toList.drop 24 = dktX2_combine_1 := dk_seg dksX2_combine_0 24 rfl rfl
theorem dksX2_combine_2 : cX2_combine.data.toList.drop 48 = dktX2_combine_2 := dk_seg dksX2_combine_1 24 rfl rfl
theorem dksX2_combine_3 : cX2_combine.data.toList.drop 71 = dktX2_combine_3 := dk_seg dksX2_combine_2 23 rfl rfl
theorem dksX2_combine_4 : cX2_combine.data.toList.drop 93 = dktX2_combine_4 := dk_seg dksX2_combine_3 22 rfl rfl
theorem dksX2_combine_5 : cX2_combine.data.toList.drop 117 = dktX2_combine_5 := dk_seg dksX2_combine_4 24 rfl rfl
theorem dksX2_combine_6 : cX2_combine.data.toList.drop 140 = dktX2_combine_6 := dk_seg dksX2_combine_5 23 rfl rfl
theorem dX2_combine_0 : decode cX2_combine 0 = .ok (.bipush 32, 2) := dk_16 32 (dk_at dksX2_combine_0 0 rfl rfl)
theorem dX2_combine_2 : decode cX2_combine 2 = .ok (.newarray .long, 2) := dk_188_11 (dk_at dksX2_combine_0 2 rfl rfl)
theorem dX2_combine_4 : decode cX2_combine 4 = .ok (.astore 8, 2) := dk_58 8 (dk_at dksX2_combine_0 4 rfl rfl)
theorem dX2_combine_6 : decode cX2_combine 6 = .ok (.bipush 32, 2) := dk_16 32 (dk_at dksX2_combine_0 6 rfl rfl)
theorem dX2_combine_8 : decode cX2_combine 8 = .ok (.newarray .long, 2) := dk_188_11 (dk_at dksX2_combine_0 8 rfl rfl)
theorem dX2_combine_10 : decode cX2_combine 10 = .ok (.astore 9, 2) := dk_58 9 (dk_at dksX2_combine_0 10 rfl rfl)
theorem dX2_combine_12 : decode cX2_combine 12 = .ok (.lload 4, 2) := dk_22 4 (dk_at dksX2_combine_0 12 rfl rfl)
theorem dX2_combine_14 : decode cX2_combine 14 = .ok (.lconst 0, 1) := dk_9 (dk_at dksX2_combine_0 14 rfl rfl)
theorem dX2_combine_15 : decode cX2_combine 15 = .ok (.lcmp, 1) := dk_148 (dk_at dksX2_combine_0 15 rfl rfl)
theorem dX2_combine_16 : decode cX2_combine 16 = .ok (.ifCond .gt 5, 3) := dk_157 0 5 (dk_at dksX2_combine_0 16 rfl rfl)
theorem dX2_combine_19 : decode cX2_combine 19 = .ok (.lload_n 0, 1) := dk_30 (dk_at dksX2_combine_0 19 rfl rfl)
theorem dX2_combine_20 : decode cX2_combine 20 = .ok (.lreturn, 1) := dk_173 (dk_at dksX2_combine_0 20 rfl rfl)
theorem dX2_combine_21 : decode cX2_combine 21 = .ok (.aload 9, 2) := dk_25 9 (dk_at dksX2_combine_0 21 rfl rfl)
theorem dX2_combine_23 : decode cX2_combine 23 = .ok (.iconst 0, 1) := dk_3 (dk_at dksX2_combine_0 23 rfl rfl)
theorem dX2_combine_24 : decode cX2_combine 24 = .ok (.ldc2_w 19, 3) := dk_20 0 19 (dk_at dksX2_combine_1 0 rfl rfl)
theorem dX2_combine_27 : decode cX2_combine 27 = .ok (.lastore, 1) := dk_80 (dk_at dksX2_combine_1 3 rfl rfl)
theorem dX2_combine_28 : decode cX2_combine 28 = .ok (.lconst 1, 1) := dk_10 (dk_at dksX2_combine_1 4 rfl rfl)
theorem dX2_combine_29 : decode cX2_combine 29 = .ok (.lstore 6, 2) := dk_55 6 (dk_at dksX2_combine_1 5 rfl rfl)
theorem dX2_combine_31 : decode cX2_combine 31 = .ok (.iconst 1, 1) := dk_4 (dk_at dksX2_combine_1 7 rfl rfl)
theorem dX2_combine_32 : decode cX2_combine 32 = .ok (.istore 10, 2) := dk_54 10 (dk_at dksX2_combine_1 8 rfl rfl)
theorem dX2_combine_34 : decode cX2_combine 34 = .ok (.iload 10, 2) := dk_21 10 (dk_at dksX2_combine_1 10 rfl rfl)
theorem dX2_combine_36 : decode cX2_combine 36 = .ok (.bipush 32, 2) := dk_16 32 (dk_at dksX2_combine_1 12 rfl rfl)
theorem dX2_combine_38 : decode cX2_combine 38 = .ok (.if_icmp .ge 22, 3) := dk_162 0 22 (dk_at dksX2_combine_1 14 rfl rfl)
theorem dX2_combine_41 : decode cX2_combine 41 = .ok (.aload 9, 2) := dk_25 9 (dk_at dksX2_combine_1 17 rfl rfl)
theorem dX2_combine_43 : decode cX2_combine 43 = .ok (.iload 10, 2) := dk_21 10 (dk_at dksX2_combine_1 19 rfl rfl)
theorem dX2_combine_45 : decode cX2_combine 45 = .ok (.lload 6, 2) := dk_22 6 (dk_at dksX2_combine_1 21 rfl rfl)
theorem dX2_combine_47 : decode cX2_combine 47 = .ok (.lastore, 1) := dk_80 (dk_at dksX2_combine_1 23 rfl rfl)
theorem dX2_combine_48 : decode cX2_combine 48 = .ok (.lload 6, 2) := dk_22 6 (dk_at dksX2_combine_2 0 rfl rfl)
theorem dX2_combine_50 : decode cX2_combine 50 = .ok (.iconst 1, 1) := dk_4 (dk_at dksX2_combine_2 2 rfl rfl)
theorem dX2_combine_51 : decode cX2_combine 51 = .ok (.lshl, 1) := dk_121 (dk_at dksX2_combine_2 3 rfl rfl)
theorem dX2_combine_52 : decode cX2_combine 52 = .ok (.lstore 6, 2) := dk_55 6 (dk_at dksX2_combine_2 4 rfl rfl)
theorem dX2_combine_54 : decode cX2_combine 54 = .ok (.iinc 10 1, 3) := dk_132 10 1 (dk_at dksX2_combine_2 6 rfl rfl)
theorem dX2_combine_57 : decode cX2_combine 57 = .ok (.goto (-23), 3) := dk_167 255 233 (dk_at dksX2_combine_2 9 rfl rfl)
theorem dX2_combine_60 : decode cX2_combine 60 = .ok (.aload 8, 2) := dk_25 8 (dk_at dksX2_combine_2 12 rfl rfl)
theorem dX2_combine_62 : decode cX2_combine 62 = .ok (.aload 9, 2) := dk_25 9 (dk_at dksX2_combine_2 14 rfl rfl)
theorem dX2_combine_64 : decode cX2_combine 64 = .ok (.invokestatic 21, 3) := dk_184 0 21 (dk_at dksX2_combine_2 16 rfl rfl)
theorem dX2_combine_67 : decode cX2_combine 67 = .ok (.aload 9, 2) := dk_25 9 (dk_at dksX2_combine_2 19 rfl rfl)
theorem dX2_combine_69 : decode cX2_combine 69 = .ok (.aload 8, 2) := dk_25 8 (dk_at dksX2_combine_2 21 rfl rfl)
theorem dX2_combine_71 : decode cX2_combine 71 = .ok (.invokestatic 21, 3) := dk_184 0 21 (dk_at dksX2_combine_3 0 rfl rfl)
theorem dX2_combine_74 : decode cX2_combine 74 = .ok (.aload 8, 2) := dk_25 8 (dk_at dksX2_combine_3 3 rfl rfl)
theorem dX2_combine_76 : decode cX2_combine 76 = .ok (.aload 9, 2) := dk_25 9 (dk_at dksX2_combine_3 5 rfl rfl)
theorem dX2_combine_78 : decode cX2_combine 78 = .ok (.invokestatic 21, 3) := dk_184 0 21 (dk_at dksX2_combine_3 7 rfl rfl)
theorem dX2_combine_81 : decode cX2_combine 81 = .ok (.lload 4, 2) := dk_22 4 (dk_at dksX2_combine_3 10 rfl rfl)
theorem dX2_combine_83 : decode cX2_combine 83 = .ok (.lconst 1, 1) := dk_10 (dk_at dksX2_combine_3 12 rfl rfl)
theorem dX2_combine_84 : decode cX2_combine 84 = .ok (.land, 1) := dk_127 (dk_at dksX2_combine_3 13 rfl rfl)
theorem dX2_combine_85 : decode cX2_combine 85 = .ok (.lconst 0, 1) := dk_9 (dk_at dksX2_combine_3 14 rfl rfl)
theorem dX2_combine_86 : decode cX2_combine 86 = .ok (.lcmp, 1) := dk_148 (dk_at dksX2_combine_3 15 rfl rfl)
theorem dX2_combine_87 : decode cX2_combine 87 = .ok (.ifCond .eq 10, 3) := dk_153 0 10 (dk_at dksX2_combine_3 16 rfl rfl)
theorem dX2_combine_90 : decode cX2_combine 90 = .ok (.aload 8, 2) := dk_25 8 (dk_at dksX2_combine_3 19 rfl rfl)
theorem dX2_combine_92 : decode cX2_combine 92 = .ok (.lload_n 0, 1) := dk_30 (dk_at dksX2_combine_3 21 rfl rfl)
theorem dX2_combine_93 : decode cX2_combine 93 = .ok (.invokestatic 25, 3) := dk_184 0 25 (dk_at dksX2_combine_4 0 rfl rfl)
theorem dX2_combine_96 : decode cX2_combine 96 = .ok (.lstore_n 0, 1) := dk_63 (dk_at dksX2_combine_4 3 rfl rfl)
theorem dX2_combine_97 : decode cX2_combine 97 = .ok (.lload 4, 2) := dk_22 4 (dk_at dksX2_combine_4 4 rfl rfl)
theorem dX2_combine_99 : decode cX2_combine 99 = .ok (.iconst 1, 1) := dk_4 (dk_at dksX2_combine_4 6 rfl rfl)
theorem dX2_combine_100 : decode cX2_combine 100 = .ok (.lshr, 1) := dk_123 (dk_at dksX2_combine_4 7 rfl rfl)
theorem dX2_combine_101 : decode cX2_combine 101 = .ok (.lstore 4, 2) := dk_55 4 (dk_at dksX2_combine_4 8 rfl rfl)
theorem dX2_combine_103 : decode cX2_combine 103 = .ok (.lload 4, 2) := dk_22 4 (dk_at dksX2_combine_4 10 rfl rfl)
theorem dX2_combine_105 : decode cX2_combine 105 = .ok (.lconst 0, 1) := dk_9 (dk_at dksX2_combine_4 12 rfl rfl)
theorem dX2_combine_106 : decode cX2_combine 106 = .ok (.lcmp, 1) := dk_148 (dk_at dksX2_combine_4 13 rfl rfl)
theorem dX2_combine_107 : decode cX2_combine 107 = .ok (.ifCond .ne 6, 3) := dk_154 0 6 (dk_at dksX2_combine_4 14 rfl rfl)
theorem dX2_combine_110 : decode cX2_combine 110 = .ok (.goto 39, 3) := dk_167 0 39 (dk_at dksX2_combine_4 17 rfl rfl)
theorem dX2_combine_113 : decode cX2_combine 113 = .ok (.aload 9, 2) := dk_25 9 (dk_at dksX2_combine_4 20 rfl rfl)
theorem dX2_combine_115 : decode cX2_combine 115 = .ok (.aload 8, 2) := dk_25 8 (dk_at dksX2_combine_4 22 rfl rfl)
theorem dX2_combine_117 : decode cX2_combine 117 = .ok (.invokestatic 21, 3) := dk_184 0 21 (dk_at dksX2_combine_5 0 rfl rfl)
theorem dX2_combine_120 : decode cX2_combine 120 = .ok (.lload 4, 2) := dk_22 4 (dk_at dksX2_combine_5 3 rfl rfl)
theorem dX2_combine_122 : decode cX2_combine 122 = .ok (.lconst 1, 1) := dk_10 (dk_at dksX2_combine_5 5 rfl rfl)
theorem dX2_combine_123 : decode cX2_combine 123 = .ok (.land, 1) := dk_127 (dk_at dksX2_combine_5 6 rfl rfl)
theorem dX2_combine_124 : decode cX2_combine 124 = .ok (.lconst 0, 1) := dk_9 (dk_at dksX2_combine_5 7 rfl rfl)
theorem dX2_combine_125 : decode cX2_combine 125 = .ok (.lcmp, 1) := dk_148 (dk_at dksX2_combine_5 8 rfl rfl)
theorem dX2_combine_126 : decode cX2_combine 126 = .ok (.ifCond .eq 10, 3) := dk_153 0 10 (dk_at dksX2_combine_5 9 rfl rfl)
theorem dX2_combine_129 : decode cX2_combine 129 = .ok (.aload 9, 2) := dk_25 9 (dk_at dksX2_combine_5 12 rfl rfl)
theorem dX2_combine_131 : decode cX2_combine 131 = .ok (.lload_n 0, 1) := dk_30 (dk_at dksX2_combine_5 14 rfl rfl)
theorem dX2_combine_132 : decode cX2_combine 132 = .ok (.invokestatic 25, 3) := dk_184 0 25 (dk_at dksX2_combine_5 15 rfl rfl)
theorem dX2_combine_135 : decode cX2_combine 135 = .ok (.lstore_n 0, 1) := dk_63 (dk_at dksX2_combine_5 18 rfl rfl)
theorem dX2_combine_136 : decode cX2_combine 136 = .ok (.lload 4, 2) := dk_22 4 (dk_at dksX2_combine_5 19 rfl rfl)
theorem dX2_combine_138 : decode cX2_combine 138 = .ok (.iconst 1, 1) := dk_4 (dk_at dksX2_combine_5 21 rfl rfl)
theorem dX2_combine_139 : decode cX2_combine 139 = .ok (.lshr, 1) := dk_123 (dk_at dksX2_combine_5 22 rfl rfl)
theorem dX2_combine_140 : decode cX2_combine 140 = .ok (.lstore 4, 2) := dk_55 4 (dk_at dksX2_combine_6 0 rfl rfl)
theorem dX2_combine_142 : decode cX2_combine 142 = .ok (.lload 4, 2) := dk_22 4 (dk_at dksX2_combine_6 2 rfl rfl)
theorem dX2_combine_144 : decode cX2_combine 144 = .ok (.lconst 0, 1) := dk_9 (dk_at dksX2_combine_6 4 rfl rfl)
theorem dX2_combine_145 : decode cX2_combine 145 = .ok (.lcmp, 1) := dk_148 (dk_at dksX2_combine_6 5 rfl rfl)
theorem dX2_combine_146 : decode cX2_combine 146 = .ok (.ifCond .ne (-72), 3) := dk_154 255 184 (dk_at dksX2_combine_6 6 rfl rfl)
theorem dX2_combine_149 : decode cX2_combine 149 = .ok (.lload_n 0, 1) := dk_30 (dk_at dksX2_combine_6 9 rfl rfl)
theorem dX2_combine_150 : decode cX2_combine 150 = .ok (.lload_n 2, 1) := dk_32 (dk_at dksX2_combine_6 10 rfl rfl)
theorem dX2_combine_151 : decode cX2_combine 151 = .ok (.lxor, 1) := dk_131 (dk_at dksX2_combine_6 11 rfl rfl)
theorem dX2_combine_152 : decode cX2_combine 152 = .ok (.lstore_n 0, 1) := dk_63 (dk_at dksX2_combine_6 12 rfl rfl)
theorem dX2_combine_153 : decode cX2_combine 153 = .ok (.lload_n 0, 1) := dk_30 (dk_at dksX2_combine_6 13 rfl rfl)
theorem dX2_combine_154 : decode cX2_combine 154 = .ok (.lreturn, 1) := dk_173 (dk_at dksX2_combine_6 14 rfl rfl)
abbrev cX2_gf2_matrix_square : ByteArray := prog_2_method_6_code
def yX2_gf2_matrix_square : MethodName := ⟨RX2, "gf2_matrix_square", "([J[J)V"⟩
def dkwX2_gf2_matrix_square_1 : List UInt8 := [177]
abbrev dktX2_gf2_matrix_square_1 : List UInt8 := dkwX2_gf2_matrix_square_1 ++ []
def dkwX2_gf2_matrix_square_0 : List UInt8 := [3, 61, 28, 16, 32, 162, 0, 19, 42, 28, 43, 43, 28, 47, 184, 0, 25, 80, 132, 2, 1, 167, 255, 237]
abbrev dktX2_gf2_matrix_square_0 : List UInt8 := dkwX2_gf2_matrix_square_0 ++ dktX2_gf2_matrix_square_1
theorem dksX2_gf2_matrix_square_0 : cX2_gf2_matrix_square.data.toList.drop 0 = dktX2_gf2_matrix_square_0 := by decide +kernel
theorem dksX2_gf2_matrix_square_1 : cX2_gf2_matrix_square.data.toList.drop 24 = dktX2_gf2_matrix_square_1 := dk_seg dksX2_gf2_matrix_square_0 24 rfl rfl
theorem dX2_gf2_matrix_square_0 : decode cX2_gf2_matrix_square 0 = .ok (.iconst 0, 1) := dk_3 (dk_at dksX2_gf2_matrix_square_0 0 rfl rfl)
theorem dX2_gf2_matrix_square_1 : decode cX2_gf2_matrix_square 1 = .ok (.istore_n 2, 1) := dk_61 (dk_at dksX2_gf2_matrix_square_0 1 rfl rfl)
theorem dX2_gf2_matrix_square_2 : decode cX2_gf2_matrix_square 2 = .ok (.iload_n 2, 1) := dk_28 (dk_at dksX2_gf2_matrix_square_0 2 rfl rfl)
theorem dX2_gf2_matrix_square_3 : decode cX2_gf2_matrix_square 3 = .ok (.bipush 32, 2) := dk_16 32 (dk_at dksX2_gf2_matrix_square_0 3 rfl rfl)
theorem dX2_gf2_matrix_square_5 : decode cX2_gf2_matrix_square 5 = .ok (.if_icmp .ge 19, 3) := dk_162 0 19 (dk_at dksX2_gf2_matrix_square_0 5 rfl rfl)
theorem dX2_gf2_matrix_square_8 : decode cX2_gf2_matrix_square 8 = .ok (.aload_n 0, 1) := dk_42 (dk_at dksX2_gf2_matrix_square_0 8 rfl rfl)
theorem dX2_gf2_matrix_square_9 : decode cX2_gf2_matrix_square 9 = .ok (.iload_n 2, 1) := dk_28 (dk_at dksX2_gf2_matrix_square_0 9 rfl rfl)
theorem dX2_gf2_matrix_square_10 : decode cX2_gf2_matrix_square 10 = .ok (.aload_n 1, 1) := dk_43 (dk_at dksX2_gf2_matrix_square_0 10 rfl rfl)
theorem dX2_gf2_matrix_square_11 : decode cX2_gf2_matrix_square 11 = .ok (.aload_n 1, 1) := dk_43 (dk_at dksX2_gf2_matrix_square_0 11 rfl rfl)
theorem dX2_gf2_matrix_square_12 : decode cX2_gf2_matrix_square 12 = .ok (.iload_n 2, 1) := dk_28 (dk_at dksX2_gf2_matrix_square_0 12 rfl rfl)
theorem dX2_gf2_matrix_square_13 : decode cX2_gf2_matrix_square 13 = .ok (.laload, 1) := dk_47 (dk_at dksX2_gf2_matrix_square_0 13 rfl rfl)
theorem dX2_gf2_matrix_square_14 : decode cX2_gf2_matrix_square 14 = .ok (.invokestatic 25, 3) := dk_184 0 25 (dk_at dksX2_gf2_matrix_square_0 14 rfl rfl)
theorem dX2_gf2_matrix_square_17 : decode cX2_gf2_matrix_square 17 = .ok (.lastore, 1) := dk_80 (dk_at dksX2_gf2_matrix_square_0 17 rfl rfl)
theorem dX2_gf2_matrix_square_18 : decode cX2_gf2_matrix_square 18 = .ok (.iinc 2 1, 3) := dk_132 2 1 (dk_at dksX2_gf2_matrix_square_0 18 rfl rfl)
theorem dX2_gf2_matrix_square_21 : decode cX2_gf2_matrix_square 21 = .ok (.goto (-19), 3) := dk_167 255 237 (dk_at dksX2_gf2_matrix_square_0 21 rfl rfl)
theorem dX2_gf2_matrix_square_24 : decode cX2_gf2_matrix_square 24 = .ok (.return_, 1) := dk_177 (dk_at dksX2_gf2_matrix_square_1 0 rfl rfl)
abbrev cX2_gf2_matrix_times : ByteArray := prog_2_method_5_code
def yX2_gf2_matrix_times : MethodName := ⟨RX2, "gf2_matrix_times", "([JJ)J"⟩
def dkwX2_gf2_matrix_times_1 : List UInt8 := [131, 66, 31, 4, 123, 64, 132, 5, 1, 167, 255, 228, 33, 173]
abbrev dktX2_gf2_matrix_times_1 : List UInt8 := dkwX2_gf2_matrix_times_1 ++ []
def dkwX2_gf2_matrix_times_0 : List UInt8 := [9, 66, 3, 54, 5, 31, 9, 148, 153, 0, 28, 31, 10, 127, 9, 148, 153, 0, 10, 33, 42, 21, 5, 47]
abbrev dktX2_gf2_matrix_times_0 : List UInt8 := dkwX2_gf2_matrix_times_0 ++ dktX2_gf2_matrix_times_1
theorem dksX2_gf2_matrix_times_0 : cX2_gf2_matrix_times.data.toList.drop 0 = dktX2_gf2_matrix_times_0 := by decide +kernel
theorem dksX2_gf2_matrix_times_1 : cX2_gf2_matrix_times.data.toList.drop 24 = dktX2_gf2_matrix_times_1 := dk_seg dksX2_gf2_matrix_times_0 24 rfl rfl
theorem dX2_gf2_matrix_times_0 : decode cX2_gf2_matrix_times 0 = .ok (.lconst 0, 1) := dk_9 (dk_at dksX2_gf2_matrix_times_0 0 rfl rfl)
theorem dX2_gf2_matrix_times_1 : decode cX2_gf2_matrix_times 1 = .ok (.lstore_n 3, 1) := dk_66 (dk_at dksX2_gf2_matrix_times_0 1 rfl rfl)
theorem dX2_gf2_matrix_times_2 : decode cX2_gf2_matrix_times 2 = .ok (.iconst 0, 1) := dk_3 (dk_at dksX2_gf2_matrix_times_0 2 rfl rfl)
theorem dX2_gf2_matrix_times_3 : decode cX2_gf2_matrix_times 3 = .ok (.istore 5, 2) := dk_54 5 (dk_at dksX2_gf2_matrix_times_0 3 rfl rfl)
theorem dX2_gf2_matrix_times_5 : decode cX2_gf2_matrix_times 5 = .ok (.lload_n 1, 1) := dk_31 (dk_at dksX2_gf2_matrix_times_0 5 rfl rfl)
theorem dX2_gf2_matrix_times_6 : decode cX2_gf2_matrix_times 6 = .ok (.lconst 0, 1) := dk_9 (dk_at dksX2_gf2_matrix_times_0 6 rfl rfl)
theorem dX2_gf2_matrix_times_7 : decode cX2_gf2_matrix_times 7 = .ok (.lcmp, 1) := dk_148 (dk_at dksX2_gf2_matrix_times_0 7 rfl rfl)
theorem dX2_gf2_matrix_times_8 : decode cX2_gf2_matrix_times 8 = .ok (.ifCond .eq 28, 3) := dk_153 0 28 (dk_at dksX2_gf2_matrix_times_0 8 rfl rfl)
theorem dX2_gf2_matrix_times_11 : decode cX2_gf2_matrix_times 11 = .ok (.lload_n 1, 1) := dk_31 (dk_at dksX2_gf2_matrix_times_0 11 rfl rfl)
theorem dX2_gf2_matrix_times_12 : decode cX2_gf2_matrix_times 12 = .ok (.lconst 1, 1) := dk_10 (dk_at dksX2_gf2_matrix_times_0 12 rfl rfl)
theorem dX2_gf2_matrix_times_13 : decode cX2_gf2_matrix_times 13 = .ok (.land, 1) := dk_127 (dk_at dksX2_gf2_matrix_times_0 13 rfl rfl)
theorem dX2_gf2_matrix_times_14 : decode cX2_gf2_matrix_times 14 = .ok (.lconst 0, 1) := dk_9 (dk_at dksX2_gf2_matrix_times_0 14 rfl rfl)
theorem dX2_gf2_matrix_times_15 : decode cX2_gf2_matrix_times 15 = .ok (.lcmp, 1) := dk_148 (dk_at dksX2_gf2_matrix_times_0 15 rfl rfl)
theorem dX2_gf2_matrix_times_16 : decode cX2_gf2_matrix_times 16 = .ok (.ifCond .eq 10, 3) := dk_153 0 10 (dk_at dksX2_gf2_matrix_times_0 16 rfl rfl)
theorem dX2_gf2_matrix_times_19 : decode cX2_gf2_matrix_times 19 = .ok (.lload_n 3, 1) := dk_33 (dk_at dksX2_gf2_matrix_times_0 19 rfl rfl)
theorem dX2_gf2_matrix_times_20 : decode cX2_gf2_matrix_times 20 = .ok (.aload_n 0, 1) := dk_42 (dk_at dksX2_gf2_matrix_times_0 20 rfl rfl)
theorem dX2_gf2_matrix_times_21 : decode cX2_gf2_matrix_times 21 = .ok (.iload 5, 2) := dk_21 5 (dk_at dksX2_gf2_matrix_times_0 21 rfl rfl)
theorem dX2_gf2_matrix_times_23 : decode cX2_gf2_matrix_times 23 = .ok (.laload, 1) := dk_47 (dk_at dksX2_gf2_matrix_times_0 23 rfl rfl)
theorem dX2_gf2_matrix_times_24 : decode cX2_gf2_matrix_times 24 = .ok (.lxor, 1) := dk_131 (dk_at dksX2_gf2_matrix_times_1 0 rfl rfl)
theorem dX2_gf2_matrix_times_25 : decode cX2_gf2_matrix_times 25 = .ok (.lstore_n 3, 1) := dk_66 (dk_at dksX2_gf2_matrix_times_1 1 rfl rfl)
theorem dX2_gf2_matrix_times_26 : decode cX2_gf2_matrix_times 26 = .ok (.lload_n 1, 1) := dk_31 (dk_at dksX2_gf2_matrix_times_1 2 rfl rfl)
theorem dX2_gf2_matrix_times_27 : decode cX2_gf2_matrix_times 27 = .ok (.iconst 1, 1) := dk_4 (dk_at dksX2_gf2_matrix_times_1 3 rfl rfl)
theorem dX2_gf2_matrix_times_28 : decode cX2_gf2_matrix_times 28 = .ok (.lshr, 1) := dk_123 (dk_at dksX2_gf2_matrix_times_1 4 rfl rfl)
theorem dX2_gf2_matrix_times_29 : decode cX2_gf2_matrix_times 29 = .ok (.lstore_n 1, 1) := dk_64 (dk_at dksX2_gf2_matrix_times_1 5 rfl rfl)
theorem dX2_gf2_matrix_times_30 : decode cX2_gf2_matrix_times 30 = .ok (.iinc 5 1, 3) := dk_132 5 1 (dk_at dksX2_gf2_matrix_times_1 6 rfl rfl)
theorem dX2_gf2_matrix_times_33 : decode cX2_gf2_matrix_times 33 = .ok (.goto (-28), 3) := dk_167 255 228 (dk_at dksX2_gf2_matrix_times_1 9 rfl rfl)
theorem dX2_gf2_matrix_times_36 : decode cX2_gf2_matrix_times 36 = .ok (.lload_n 3, 1) := dk_33 (dk_at dksX2_gf2_matrix_times_1 12 rfl rfl)
theorem dX2_gf2_matrix_times_37 : decode cX2_gf2_matrix_times 37 = .ok (.lreturn, 1) := dk_173 (dk_at dksX2_gf2_matrix_times_1 13 rfl rfl)
theorem q5 : (Jvm.Cond.initialized "CRC32") ∈ lw_all := lw_g (lw_at lw_m0 2 rfl) rfl
theorem q56 : (Jvm.Cond.instantiable "CRC32" (1 : Nat)) ∈ lw_all := lw_g (lw_at lw_m0 53 rfl) rfl
theorem q58 : (Jvm.Cond.instanceMethod ({ cls := "CRC32", name := "<init>", desc := "()V" } : Jvm.MethodName)) ∈ lw_all := lw_g (lw_at lw_m0 55 rfl) rfl
theorem q59 : (Jvm.Cond.code ({ cls := "CRC32", name := "<init>", desc := "()V" } : Jvm.MethodName) prog_2_method_1_code (1 : Nat) (Option.none : Option Jvm.ClassFile.FieldType)) ∈ lw_all := lw_g (lw_at lw_m0 56 rfl) rfl
theorem q60 : (Jvm.Cond.methodLink "CRC32" (1 : Nat) ({ cls := "java/lang/Object", name := "<init>", desc := "()V" } : Jvm.MethodName)) ∈ lw_all := lw_g (lw_at lw_m0 57 rfl) rfl
theorem q61 : (Jvm.Cond.fieldLink "CRC32" (7 : Nat) "CRC32" "v" "I") ∈ lw_all := lw_g (lw_at lw_m0 58 rfl) rfl
theorem q62 : (Jvm.Cond.lays "CRC32" "CRC32" "v" "I") ∈ lw_all := lw_g (lw_at lw_m0 59 rfl) rfl
theorem q63 : (Jvm.Cond.soleField "CRC32" "v") ∈ lw_all := lw_g (lw_at lw_m0 60 rfl) rfl
theorem q64 : (Jvm.Cond.superclass "CRC32" "java/lang/Object") ∈ lw_all := lw_g (lw_at lw_m0 61 rfl) rfl
theorem q66 : (Jvm.Cond.instanceMethod ({ cls := "CRC32", name := "update", desc := "([BII)V" } : Jvm.MethodName)) ∈ lw_all := lw_g (lw_at lw_m0 63 rfl) rfl
theorem q67 : (Jvm.Cond.selects "CRC32" ({ cls := "CRC32", name := "update", desc := "([BII)V" } : Jvm.MethodName) ({ cls := "CRC32", name := "update", desc := "([BII)V" } : Jvm.MethodName)) ∈ lw_all := lw_g (lw_at lw_m0 64 rfl) rfl
theorem q68 : (Jvm.Cond.code ({ cls := "CRC32", name := "update", desc := "([BII)V" } : Jvm.MethodName) prog_2_method_2_code (5 : Nat) (Option.none : Option Jvm.ClassFile.FieldType)) ∈ lw_all := lw_g (lw_at lw_m0 65 rfl) rfl
theorem q69 : (Jvm.Cond.fieldLink "CRC32" (13 : Nat) "CRC32" "crc_table" "[I") ∈ lw_all := lw_g (lw_at lw_m0 66 rfl) rfl
theorem q70 : (Jvm.Cond.laysStatic "CRC32" "crc_table" "[I") ∈ lw_tbl := lw_at lw_m0 67 rfl
theorem q72 : (Jvm.Cond.instanceMethod ({ cls := "CRC32", name := "getValue", desc := "()J" } : Jvm.MethodName)) ∈ lw_all := lw_g (lw_at lw_m0 69 rfl) rfl
theorem q73 : (Jvm.Cond.selects "CRC32" ({ cls := "CRC32", name := "getValue", desc := "()J" } : Jvm.MethodName) ({ cls := "CRC32", name := "getValue", desc := "()J" } : Jvm.MethodName)) ∈ lw_all := lw_g (lw_at lw_m0 70 rfl) rfl
theorem q74 : (Jvm.Cond.code ({ cls := "CRC32", name := "getValue", desc := "()J" } : Jvm.MethodName) prog_2_method_3_code (1 : Nat) (Option.some Jvm.ClassFile.FieldType.long)) ∈ lw_all := lw_g (lw_at lw_m0 71 rfl) rfl
theorem q75 : (Jvm.Cond.constantLong "CRC32" (17 : Nat) (4294967295 : Int64)) ∈ lw_all := lw_g (lw_at lw_m0 72 rfl) rfl
theorem q107 : (Jvm.Cond.static ({ cls := "CRC32", name := "combine", desc := "(JJJ)J" } : Jvm.MethodName)) ∈ lw_all := lw_g (lw_at lw_m0 104 rfl) rfl
theorem q108 : (Jvm.Cond.code ({ cls := "CRC32", name := "combine", desc := "(JJJ)J" } : Jvm.MethodName) prog_2_method_4_code (11 : Nat) (Option.some Jvm.ClassFile.FieldType.long)) ∈ lw_all := lw_g (lw_at lw_m0 105 rfl) rfl
theorem q109 : (Jvm.Cond.constantLong "CRC32" (19 : Nat) (3988292384 : Int64)) ∈ lw_all := lw_g (lw_at lw_m0 106 rfl) rfl
theorem q110 : (Jvm.Cond.methodLink "CRC32" (21 : Nat) ({ cls := "CRC32", name := "gf2_matrix_square", desc := "([J[J)V" } : Jvm.MethodName)) ∈ lw_all := lw_g (lw_at lw_m0 107 rfl) rfl
theorem q111 : (Jvm.Cond.static ({ cls := "CRC32", name := "gf2_matrix_square", desc := "([J[J)V" } : Jvm.MethodName)) ∈ lw_all := lw_g (lw_at lw_m0 108 rfl) rfl
theorem q112 : (Jvm.Cond.code ({ cls := "CRC32", name := "gf2_matrix_square", desc := "([J[J)V" } : Jvm.MethodName) prog_2_method_6_code (3 : Nat) (Option.none : Option Jvm.ClassFile.FieldType)) ∈ lw_all := lw_g (lw_at lw_m0 109 rfl) rfl
theorem q113 : (Jvm.Cond.methodLink "CRC32" (25 : Nat) ({ cls := "CRC32", name := "gf2_matrix_times", desc := "([JJ)J" } : Jvm.MethodName)) ∈ lw_all := lw_g (lw_at lw_m0 110 rfl) rfl
theorem q114 : (Jvm.Cond.static ({ cls := "CRC32", name := "gf2_matrix_times", desc := "([JJ)J" } : Jvm.MethodName)) ∈ lw_all := lw_g (lw_at lw_m0 111 rfl) rfl
theorem q115 : (Jvm.Cond.code ({ cls := "CRC32", name := "gf2_matrix_times", desc := "([JJ)J" } : Jvm.MethodName) prog_2_method_5_code (6 : Nat) (Option.some Jvm.ClassFile.FieldType.long)) ∈ lw_all := lw_g (lw_at lw_m0 112 rfl) rfl
theorem in_X2 : ∀ w ∈ wsX20, w ∈ lw_all := lw_in wsX20 [62] (by decide +kernel) (by decide +kernel)
/-! Adler32 -/
set_option maxRecDepth 100000
def RX3 : String := "Adler32"
def TX3 : u_T := fun k => match k with
  | 0 => ("Adler32", "s1", "J", false)
  | _ => ("Adler32", "s2", "J", false)
def tyX3 : Nat → FieldType := fun k => match k with
  | 0 => .long
  | _ => .long
abbrev wsX30 : List Cond := u_ws RX3 TX3 2
theorem nmX3 : ∀ a, a < 2 → ∀ b, b < 2 → a ≠ b → (TX3 a).2.1 ≠ (TX3 b).2.1 := by decide +kernel
theorem tyX3_ok : ∀ k, k < 2 → parseFieldDescriptor (TX3 k).2.2.1 = some (tyX3 k) := by decide +kernel
abbrev cX3_init : ByteArray := prog_1_method_1_code
def yX3_init : MethodName := ⟨RX3, "<init>", "()V"⟩
def dkwX3_init_0 : List UInt8 := [42, 183, 0, 1, 42, 10, 181, 0, 7, 42, 9, 181, 0, 13, 177]
abbrev dktX3_init_0 : List UInt8 := dkwX3_init_0 ++ []
theorem dksX3_init_0 : cX3_init.data.toList.drop 0 = dktX3_init_0 := by decide +kernel
theorem dX3_init_0 : decode cX3_init 0 = .ok (.aload_n 0, 1) := dk_42 (dk_at dksX3_init_0 0 rfl rfl)
theorem dX3_init_1 : decode cX3_init 1 = .ok (.invokespecial 1, 3) := dk_183 0 1 (dk_at dksX3_init_0 1 rfl rfl)
theorem dX3_init_4 : decode cX3_init 4 = .ok (.aload_n 0, 1) := dk_42 (dk_at dksX3_init_0 4 rfl rfl)
theorem dX3_init_5 : decode cX3_init 5 = .ok (.lconst 1, 1) := dk_10 (dk_at dksX3_init_0 5 rfl rfl)
theorem dX3_init_6 : decode cX3_init 6 = .ok (.putfield 7, 3) := dk_181 0 7 (dk_at dksX3_init_0 6 rfl rfl)
theorem dX3_init_9 : decode cX3_init 9 = .ok (.aload_n 0, 1) := dk_42 (dk_at dksX3_init_0 9 rfl rfl)
theorem dX3_init_10 : decode cX3_init 10 = .ok (.lconst 0, 1) := dk_9 (dk_at dksX3_init_0 10 rfl rfl)
theorem dX3_init_11 : decode cX3_init 11 = .ok (.putfield 13, 3) := dk_181 0 13 (dk_at dksX3_init_0 11 rfl rfl)
theorem dX3_init_14 : decode cX3_init 14 = .ok (.return_, 1) := dk_177 (dk_at dksX3_init_0 14 rfl rfl)
abbrev cX3_update : ByteArray := prog_1_method_3_code
def yX3_update : MethodName := ⟨RX3, "update", "([BII)V"⟩
def dkwX3_update_10 : List UInt8 := [180, 0, 13, 20, 0, 16, 113, 181, 0, 13, 177]
abbrev dktX3_update_10 : List UInt8 := dkwX3_update_10 ++ []
def dkwX3_update_9 : List UInt8 := [180, 0, 7, 97, 181, 0, 13, 167, 255, 215, 42, 89, 180, 0, 7, 20, 0, 16, 113, 181, 0, 7, 42, 89]
abbrev dktX3_update_9 : List UInt8 := dkwX3_update_9 ++ dktX3_update_10
def dkwX3_update_8 : List UInt8 := [180, 0, 7, 43, 28, 132, 2, 1, 51, 17, 0, 255, 126, 133, 97, 181, 0, 7, 42, 89, 180, 0, 13, 42]
abbrev dktX3_update_8 : List UInt8 := dkwX3_update_8 ++ dktX3_update_9
def dkwX3_update_7 : List UInt8 := [167, 255, 170, 21, 5, 54, 6, 29, 21, 6, 100, 62, 21, 6, 132, 6, 255, 158, 0, 39, 42, 89]
abbrev dktX3_update_7 : List UInt8 := dkwX3_update_7 ++ dktX3_update_8
def dkwX3_update_6 : List UInt8 := [180, 0, 7, 20, 0, 16, 113, 181, 0, 7, 42, 89, 180, 0, 13, 20, 0, 16, 113, 181, 0, 13]
abbrev dktX3_update_6 : List UInt8 := dkwX3_update_6 ++ dktX3_update_7
def dkwX3_update_5 : List UInt8 := [133, 97, 181, 0, 7, 42, 89, 180, 0, 13, 42, 180, 0, 7, 97, 181, 0, 13, 167, 255, 215, 42, 89]
abbrev dktX3_update_5 : List UInt8 := dkwX3_update_5 ++ dktX3_update_6
def dkwX3_update_4 : List UInt8 := [62, 21, 6, 132, 6, 255, 158, 0, 39, 42, 89, 180, 0, 7, 43, 28, 132, 2, 1, 51, 17, 0, 255, 126]
abbrev dktX3_update_4 : List UInt8 := dkwX3_update_4 ++ dktX3_update_5
def dkwX3_update_3 : List UInt8 := [29, 17, 21, 176, 112, 54, 5, 21, 4, 132, 4, 255, 158, 0, 84, 17, 21, 176, 54, 6, 29, 21, 6, 100]
abbrev dktX3_update_3 : List UInt8 := dkwX3_update_3 ++ dktX3_update_4
def dkwX3_update_2 : List UInt8 := [113, 181, 0, 7, 42, 89, 180, 0, 13, 20, 0, 16, 113, 181, 0, 13, 177, 29, 17, 21, 176, 108, 54, 4]
abbrev dktX3_update_2 : List UInt8 := dkwX3_update_2 ++ dktX3_update_3
def dkwX3_update_1 : List UInt8 := [181, 0, 7, 42, 89, 180, 0, 13, 42, 180, 0, 7, 97, 181, 0, 13, 42, 89, 180, 0, 7, 20, 0, 16]
abbrev dktX3_update_1 : List UInt8 := dkwX3_update_1 ++ dktX3_update_2
def dkwX3_update_0 : List UInt8 := [29, 4, 160, 0, 61, 42, 89, 180, 0, 7, 43, 28, 132, 2, 1, 51, 17, 0, 255, 126, 133, 97]
abbrev dktX3_update_0 : List UInt8 := dkwX3_update_0 ++ dktX3_update_1
theorem dksX3_update_0 : cX3_update.data.toList.drop 0 = dktX3_update_0 := by decide +kernel
theorem dksX3_update_1 : cX3_update.data.toList.drop 22 = dktX3_update_1 := dk_seg dksX3_update_0 22 rfl rfl
theorem dksX3_update_2 : cX3_update.data.toList.drop 46 = dktX3_update_2 := dk_seg dksX3_update_1 24 rfl rfl
theorem dksX3_update_3 : cX3_update.data.toList.drop 70 = dktX3_update_3 := dk_seg dksX3_update_2 24 rfl rfl
theorem dksX3_update_4 : cX3_update.data.toList.drop 94 = dktX3_update_4 := dk_seg dksX3_update_3 24 rfl rfl
theorem dksX3_update_5 : cX3_update.data.toList.drop 118 = dktX3_update_5 := dk_seg dksX3_update_4 24 rfl rfl
theorem dksX3_update_6 : cX3_update.data.toList.drop 141 = dktX3_update_6 := dk_seg dksX3_update_5 23 rfl rfl
theorem dksX3_update_7 : cX3_update.data.toList.drop 163 = dktX3_update_7 := dk_seg dksX3_update_6 22 rfl rfl
theorem dksX3_update_8 : cX3_update.data.toList.drop 185 = dktX3_update_8 := dk_seg dksX3_update_7 22 rfl rfl
theorem dksX3_update_9 : cX3_update.data.toList.drop 209 = dktX3_update_9 := dk_seg dksX3_update_8 24 rfl rfl
theorem dksX3_update_10 : cX3_update.data.toList.drop 233 = dktX3_update_10 := dk_seg dksX3_update_9 24 rfl rfl
theorem dX3_update_0 : decode cX3_update 0 = .ok (.iload_n 3, 1) := dk_29 (dk_at dksX3_update_0 0 rfl rfl)
theorem dX3_update_1 : decode cX3_update 1 = .ok (.iconst 1, 1) := dk_4 (dk_at dksX3_update_0 1 rfl rfl)
theorem dX3_update_2 : decode cX3_update 2 = .ok (.if_icmp .ne 61, 3) := dk_160 0 61 (dk_at dksX3_update_0 2 rfl rfl)
theorem dX3_update_5 : decode cX3_update 5 = .ok (.aload_n 0, 1) := dk_42 (dk_at dksX3_update_0 5 rfl rfl)
theorem dX3_update_6 : decode cX3_update 6 = .ok (.dup, 1) := dk_89 (dk_at dksX3_update_0 6 rfl rfl)
theorem dX3_update_7 : decode cX3_update 7 = .ok (.getfield 7, 3) := dk_180 0 7 (dk_at dksX3_update_0 7 rfl rfl)
theorem dX3_update_10 : decode cX3_update 10 = .ok (.aload_n 1, 1) := dk_43 (dk_at dksX3_update_0 10 rfl rfl)
theorem dX3_update_11 : decode cX3_update 11 = .ok (.iload_n 2, 1) := dk_28 (dk_at dksX3_update_0 11 rfl rfl)
theorem dX3_update_12 : decode cX3_update 12 = .ok (.iinc 2 1, 3) := dk_132 2 1 (dk_at dksX3_update_0 12 rfl rfl)
theorem dX3_update_15 : decode cX3_update 15 = .ok (.baload, 1) := dk_51 (dk_at dksX3_update_0 15 rfl rfl)
theorem dX3_update_16 : decode cX3_update 16 = .ok (.sipush 255, 3) := dk_17 0 255 (dk_at dksX3_update_0 16 rfl rfl)
theorem dX3_update_19 : decode cX3_update 19 = .ok (.iand, 1) := dk_126 (dk_at dksX3_update_0 19 rfl rfl)
theorem dX3_update_20 : decode cX3_update 20 = .ok (.i2l, 1) := dk_133 (dk_at dksX3_update_0 20 rfl rfl)
theorem dX3_update_21 : decode cX3_update 21 = .ok (.ladd, 1) := dk_97 (dk_at dksX3_update_0 21 rfl rfl)
theorem dX3_update_22 : decode cX3_update 22 = .ok (.putfield 7, 3) := dk_181 0 7 (dk_at dksX3_update_1 0 rfl rfl)
theorem dX3_update_25 : decode cX3_update 25 = .ok (.aload_n 0, 1) := dk_42 (dk_at dksX3_update_1 3 rfl rfl)
theorem dX3_update_26 : decode cX3_update 26 = .ok (.dup, 1) := dk_89 (dk_at dksX3_update_1 4 rfl rfl)
theorem dX3_update_27 : decode cX3_update 27 = .ok (.getfield 13, 3) := dk_180 0 13 (dk_at dksX3_update_1 5 rfl rfl)
theorem dX3_update_30 : decode cX3_update 30 = .ok (.aload_n 0, 1) := dk_42 (dk_at dksX3_update_1 8 rfl rfl)
theorem dX3_update_31 : decode cX3_update 31 = .ok (.getfield 7, 3) := dk_180 0 7 (dk_at dksX3_update_1 9 rfl rfl)
theorem dX3_update_34 : decode cX3_update 34 = .ok (.ladd, 1) := dk_97 (dk_at dksX3_update_1 12 rfl rfl)
theorem dX3_update_35 : decode cX3_update 35 = .ok (.putfield 13, 3) := dk_181 0 13 (dk_at dksX3_update_1 13 rfl rfl)
theorem dX3_update_38 : decode cX3_update 38 = .ok (.aload_n 0, 1) := dk_42 (dk_at dksX3_update_1 16 rfl rfl)
theorem dX3_update_39 : decode cX3_update 39 = .ok (.dup, 1) := dk_89 (dk_at dksX3_update_1 17 rfl rfl)
theorem dX3_update_40 : decode cX3_update 40 = .ok (.getfield 7, 3) := dk_180 0 7 (dk_at dksX3_update_1 18 rfl rfl)
theorem dX3_update_43 : decode cX3_update 43 = .ok (.ldc2_w 16, 3) := dk_20 0 16 (dk_at dksX3_update_1 21 rfl rfl)
theorem dX3_update_46 : decode cX3_update 46 = .ok (.lrem, 1) := dk_113 (dk_at dksX3_update_2 0 rfl rfl)
theorem dX3_update_47 : decode cX3_update 47 = .ok (.putfield 7, 3) := dk_181 0 7 (dk_at dksX3_update_2 1 rfl rfl)
theorem dX3_update_50 : decode cX3_update 50 = .ok (.aload_n 0, 1) := dk_42 (dk_at dksX3_update_2 4 rfl rfl)
theorem dX3_update_51 : decode cX3_update 51 = .ok (.dup, 1) := dk_89 (dk_at dksX3_update_2 5 rfl rfl)
theorem dX3_update_52 : decode cX3_update 52 = .ok (.getfield 13, 3) := dk_180 0 13 (dk_at dksX3_update_2 6 rfl rfl)
theorem dX3_update_55 : decode cX3_update 55 = .ok (.ldc2_w 16, 3) := dk_20 0 16 (dk_at dksX3_update_2 9 rfl rfl)
theorem dX3_update_58 : decode cX3_update 58 = .ok (.lrem, 1) := dk_113 (dk_at dksX3_update_2 12 rfl rfl)
theorem dX3_update_59 : decode cX3_update 59 = .ok (.putfield 13, 3) := dk_181 0 13 (dk_at dksX3_update_2 13 rfl rfl)
theorem dX3_update_62 : decode cX3_update 62 = .ok (.return_, 1) := dk_177 (dk_at dksX3_update_2 16 rfl rfl)
theorem dX3_update_63 : decode cX3_update 63 = .ok (.iload_n 3, 1) := dk_29 (dk_at dksX3_update_2 17 rfl rfl)
theorem dX3_update_64 : decode cX3_update 64 = .ok (.sipush 5552, 3) := dk_17 21 176 (dk_at dksX3_update_2 18 rfl rfl)
theorem dX3_update_67 : decode cX3_update 67 = .ok (.idiv, 1) := dk_108 (dk_at dksX3_update_2 21 rfl rfl)
theorem dX3_update_68 : decode cX3_update 68 = .ok (.istore 4, 2) := dk_54 4 (dk_at dksX3_update_2 22 rfl rfl)
theorem dX3_update_70 : decode cX3_update 70 = .ok (.iload_n 3, 1) := dk_29 (dk_at dksX3_update_3 0 rfl rfl)
theorem dX3_update_71 : decode cX3_update 71 = .ok (.sipush 5552, 3) := dk_17 21 176 (dk_at dksX3_update_3 1 rfl rfl)
theorem dX3_update_74 : decode cX3_update 74 = .ok (.irem, 1) := dk_112 (dk_at dksX3_update_3 4 rfl rfl)
theorem dX3_update_75 : decode cX3_update 75 = .ok (.istore 5, 2) := dk_54 5 (dk_at dksX3_update_3 5 rfl rfl)
theorem dX3_update_77 : decode cX3_update 77 = .ok (.iload 4, 2) := dk_21 4 (dk_at dksX3_update_3 7 rfl rfl)
theorem dX3_update_79 : decode cX3_update 79 = .ok (.iinc 4 (-1), 3) := dk_132 4 255 (dk_at dksX3_update_3 9 rfl rfl)
theorem dX3_update_82 : decode cX3_update 82 = .ok (.ifCond .le 84, 3) := dk_158 0 84 (dk_at dksX3_update_3 12 rfl rfl)
theorem dX3_update_85 : decode cX3_update 85 = .ok (.sipush 5552, 3) := dk_17 21 176 (dk_at dksX3_update_3 15 rfl rfl)
theorem dX3_update_88 : decode cX3_update 88 = .ok (.istore 6, 2) := dk_54 6 (dk_at dksX3_update_3 18 rfl rfl)
theorem dX3_update_90 : decode cX3_update 90 = .ok (.iload_n 3, 1) := dk_29 (dk_at dksX3_update_3 20 rfl rfl)
theorem dX3_update_91 : decode cX3_update 91 = .ok (.iload 6, 2) := dk_21 6 (dk_at dksX3_update_3 21 rfl rfl)
theorem dX3_update_93 : decode cX3_update 93 = .ok (.isub, 1) := dk_100 (dk_at dksX3_update_3 23 rfl rfl)
theorem dX3_update_94 : decode cX3_update 94 = .ok (.istore_n 3, 1) := dk_62 (dk_at dksX3_update_4 0 rfl rfl)
theorem dX3_update_95 : decode cX3_update 95 = .ok (.iload 6, 2) := dk_21 6 (dk_at dksX3_update_4 1 rfl rfl)
theorem dX3_update_97 : decode cX3_update 97 = .ok (.iinc 6 (-1), 3) := dk_132 6 255 (dk_at dksX3_update_4 3 rfl rfl)
theorem dX3_update_100 : decode cX3_update 100 = .ok (.ifCond .le 39, 3) := dk_158 0 39 (dk_at dksX3_update_4 6 rfl rfl)
theorem dX3_update_103 : decode cX3_update 103 = .ok (.aload_n 0, 1) := dk_42 (dk_at dksX3_update_4 9 rfl rfl)
theorem dX3_update_104 : decode cX3_update 104 = .ok (.dup, 1) := dk_89 (dk_at dksX3_update_4 10 rfl rfl)
theorem dX3_update_105 : decode cX3_update 105 = .ok (.getfield 7, 3) := dk_180 0 7 (dk_at dksX3_update_4 11 rfl rfl)
theorem dX3_update_108 : decode cX3_update 108 = .ok (.aload_n 1, 1) := dk_43 (dk_at dksX3_update_4 14 rfl rfl)
theorem dX3_update_109 : decode cX3_update 109 = .ok (.iload_n 2, 1) := dk_28 (dk_at dksX3_update_4 15 rfl rfl)
theorem dX3_update_110 : decode cX3_update 110 = .ok (.iinc 2 1, 3) := dk_132 2 1 (dk_at dksX3_update_4 16 rfl rfl)
theorem dX3_update_113 : decode cX3_update 113 = .ok (.baload, 1) := dk_51 (dk_at dksX3_update_4 19 rfl rfl)
theorem dX3_update_114 : decode cX3_update 114 = .ok (.sipush 255, 3) := dk_17 0 255 (dk_at dksX3_update_4 20 rfl rfl)
theorem dX3_update_117 : decode cX3_update 117 = .ok (.iand, 1) := dk_126 (dk_at dksX3_update_4 23 rfl rfl)
theorem dX3_update_118 : decode cX3_update 118 = .ok (.i2l, 1) := dk_133 (dk_at dksX3_update_5 0 rfl rfl)
theorem dX3_update_119 : decode cX3_update 119 = .ok (.ladd, 1) := dk_97 (dk_at dksX3_update_5 1 rfl rfl)
theorem dX3_update_120 : decode cX3_update 120 = .ok (.putfield 7, 3) := dk_181 0 7 (dk_at dksX3_update_5 2 rfl rfl)
theorem dX3_update_123 : decode cX3_update 123 = .ok (.aload_n 0, 1) := dk_42 (dk_at dksX3_update_5 5 rfl rfl)
theorem dX3_update_124 : decode cX3_update 124 = .ok (.dup, 1) := dk_89 (dk_at dksX3_update_5 6 rfl rfl)
theorem dX3_update_125 : decode cX3_update 125 = .ok (.getfield 13, 3) := dk_180 0 13 (dk_at dksX3_update_5 7 rfl rfl)
theorem dX3_update_128 : decode cX3_update 128 = .ok (.aload_n 0, 1) := dk_42 (dk_at dksX3_update_5 10 rfl rfl)
theorem dX3_update_129 : decode cX3_update 129 = .ok (.getfield 7, 3) := dk_180 0 7 (dk_at dksX3_update_5 11 rfl rfl)
theorem dX3_update_132 : decode cX3_update 132 = .ok (.ladd, 1) := dk_97 (dk_at dksX3_update_5 14 rfl rfl)
theorem dX3_update_133 : decode cX3_update 133 = .ok (.putfield 13, 3) := dk_181 0 13 (dk_at dksX3_update_5 15 rfl rfl)
theorem dX3_update_136 : decode cX3_update 136 = .ok (.goto (-41), 3) := dk_167 255 215 (dk_at dksX3_update_5 18 rfl rfl)
theorem dX3_update_139 : decode cX3_update 139 = .ok (.aload_n 0, 1) := dk_42 (dk_at dksX3_update_5 21 rfl rfl)
theorem dX3_update_140 : decode cX3_update 140 = .ok (.dup, 1) := dk_89 (dk_at dksX3_update_5 22 rfl rfl)
theorem dX3_update_141 : decode cX3_update 141 = .ok (.getfield 7, 3) := dk_180 0 7 (dk_at dksX3_update_6 0 rfl rfl)
theorem dX3_update_144 : decode cX3_update 144 = .ok (.ldc2_w 16, 3) := dk_20 0 16 (dk_at dksX3_update_6 3 rfl rfl)
theorem dX3_update_147 : decode cX3_update 147 = .ok (.lrem, 1) := dk_113 (dk_at dksX3_update_6 6 rfl rfl)
theorem dX3_update_148 : decode cX3_update 148 = .ok (.putfield 7, 3) := dk_181 0 7 (dk_at dksX3_update_6 7 rfl rfl)
theorem dX3_update_151 : decode cX3_update 151 = .ok (.aload_n 0, 1) := dk_42 (dk_at dksX3_update_6 10 rfl rfl)
theorem dX3_update_152 : decode cX3_update 152 = .ok (.dup, 1) := dk_89 (dk_at dksX3_update_6 11 rfl rfl)
theorem dX3_update_153 : decode cX3_update 153 = .ok (.getfield 13, 3) := dk_180 0 13 (dk_at dksX3_update_6 12 rfl rfl)
theorem dX3_update_156 : decode cX3_update 156 = .ok (.ldc2_w 16, 3) := dk_20 0 16 (dk_at dksX3_update_6 15 rfl rfl)
theorem dX3_update_159 : decode cX3_update 159 = .ok (.lrem, 1) := dk_113 (dk_at dksX3_update_6 18 rfl rfl)
theorem dX3_update_160 : decode cX3_update 160 = .ok (.putfield 13, 3) := dk_181 0 13 (dk_at dksX3_update_6 19 rfl rfl)
theorem dX3_update_163 : decode cX3_update 163 = .ok (.goto (-86), 3) := dk_167 255 170 (dk_at dksX3_update_7 0 rfl rfl)
theorem dX3_update_166 : decode cX3_update 166 = .ok (.iload 5, 2) := dk_21 5 (dk_at dksX3_update_7 3 rfl rfl)
theorem dX3_update_168 : decode cX3_update 168 = .ok (.istore 6, 2) := dk_54 6 (dk_at dksX3_update_7 5 rfl rfl)
theorem dX3_update_170 : decode cX3_update 170 = .ok (.iload_n 3, 1) := dk_29 (dk_at dksX3_update_7 7 rfl rfl)
theorem dX3_update_171 : decode cX3_update 171 = .ok (.iload 6, 2) := dk_21 6 (dk_at dksX3_update_7 8 rfl rfl)
theorem dX3_update_173 : decode cX3_update 173 = .ok (.isub, 1) := dk_100 (dk_at dksX3_update_7 10 rfl rfl)
theorem dX3_update_174 : decode cX3_update 174 = .ok (.istore_n 3, 1) := dk_62 (dk_at dksX3_update_7 11 rfl rfl)
theorem dX3_update_175 : decode cX3_update 175 = .ok (.iload 6, 2) := dk_21 6 (dk_at dksX3_update_7 12 rfl rfl)
theorem dX3_update_177 : decode cX3_update 177 = .ok (.iinc 6 (-1), 3) := dk_132 6 255 (dk_at dksX3_update_7 14 rfl rfl)
theorem dX3_update_180 : decode cX3_update 180 = .ok (.ifCond .le 39, 3) := dk_158 0 39 (dk_at dksX3_update_7 17 rfl rfl)
theorem dX3_update_183 : decode cX3_update 183 = .ok (.aload_n 0, 1) := dk_42 (dk_at dksX3_update_7 20 rfl rfl)
theorem dX3_update_184 : decode cX3_update 184 = .ok (.dup, 1) := dk_89 (dk_at dksX3_update_7 21 rfl rfl)
theorem dX3_update_185 : decode cX3_update 185 = .ok (.getfield 7, 3) := dk_180 0 7 (dk_at dksX3_update_8 0 rfl rfl)
theorem dX3_update_188 : decode cX3_update 188 = .ok (.aload_n 1, 1) := dk_43 (dk_at dksX3_update_8 3 rfl rfl)
theorem dX3_update_189 : decode cX3_update 189 = .ok (.iload_n 2, 1) := dk_28 (dk_at dksX3_update_8 4 rfl rfl)
theorem dX3_update_190 : decode cX3_update 190 = .ok (.iinc 2 1, 3) := dk_132 2 1 (dk_at dksX3_update_8 5 rfl rfl)
theorem dX3_update_193 : decode cX3_update 193 = .ok (.baload, 1) := dk_51 (dk_at dksX3_update_8 8 rfl rfl)
theorem dX3_update_194 : decode cX3_update 194 = .ok (.sipush 255, 3) := dk_17 0 255 (dk_at dksX3_update_8 9 rfl rfl)
theorem dX3_update_197 : decode cX3_update 197 = .ok (.iand, 1) := dk_126 (dk_at dksX3_update_8 12 rfl rfl)
theorem dX3_update_198 : decode cX3_update 198 = .ok (.i2l, 1) := dk_133 (dk_at dksX3_update_8 13 rfl rfl)
theorem dX3_update_199 : decode cX3_update 199 = .ok (.ladd, 1) := dk_97 (dk_at dksX3_update_8 14 rfl rfl)
theorem dX3_update_200 : decode cX3_update 200 = .ok (.putfield 7, 3) := dk_181 0 7 (dk_at dksX3_update_8 15 rfl rfl)
theorem dX3_update_203 : decode cX3_update 203 = .ok (.aload_n 0, 1) := dk_42 (dk_at dksX3_update_8 18 rfl rfl)
theorem dX3_update_204 : decode cX3_update 204 = .ok (.dup, 1) := dk_89 (dk_at dksX3_update_8 19 rfl rfl)
theorem dX3_update_205 : decode cX3_update 205 = .ok (.getfield 13, 3) := dk_180 0 13 (dk_at dksX3_update_8 20 rfl rfl)
theorem dX3_update_208 : decode cX3_update 208 = .ok (.aload_n 0, 1) := dk_42 (dk_at dksX3_update_8 23 rfl rfl)
theorem dX3_update_209 : decode cX3_update 209 = .ok (.getfield 7, 3) := dk_180 0 7 (dk_at dksX3_update_9 0 rfl rfl)
theorem dX3_update_212 : decode cX3_update 212 = .ok (.ladd, 1) := dk_97 (dk_at dksX3_update_9 3 rfl rfl)
theorem dX3_update_213 : decode cX3_update 213 = .ok (.putfield 13, 3) := dk_181 0 13 (dk_at dksX3_update_9 4 rfl rfl)
theorem dX3_update_216 : decode cX3_update 216 = .ok (.goto (-41), 3) := dk_167 255 215 (dk_at dksX3_update_9 7 rfl rfl)
theorem dX3_update_219 : decode cX3_update 219 = .ok (.aload_n 0, 1) := dk_42 (dk_at dksX3_update_9 10 rfl rfl)
theorem dX3_update_220 : decode cX3_update 220 = .ok (.dup, 1) := dk_89 (dk_at dksX3_update_9 11 rfl rfl)
theorem dX3_update_221 : decode cX3_update 221 = .ok (.getfield 7, 3) := dk_180 0 7 (dk_at dksX3_update_9 12 rfl rfl)
theorem dX3_update_224 : decode cX3_update 224 = .ok (.ldc2_w 16, 3) := dk_20 0 16 (dk_at dksX3_update_9 15 rfl rfl)
theorem dX3_update_227 : decode cX3_update 227 = .ok (.lrem, 1) := dk_113 (dk_at dksX3_update_9 18 rfl rfl)
theorem dX3_update_228 : decode cX3_update 228 = .ok (.putfield 7, 3) := dk_181 0 7 (dk_at dksX3_update_9 19 rfl rfl)
theorem dX3_update_231 : decode cX3_update 231 = .ok (.aload_n 0, 1) := dk_42 (dk_at dksX3_update_9 22 rfl rfl)
theorem dX3_update_232 : decode cX3_update 232 = .ok (.dup, 1) := dk_89 (dk_at dksX3_update_9 23 rfl rfl)
theorem dX3_update_233 : decode cX3_update 233 = .ok (.getfield 13, 3) := dk_180 0 13 (dk_at dksX3_update_10 0 rfl rfl)
theorem dX3_update_236 : decode cX3_update 236 = .ok (.ldc2_w 16, 3) := dk_20 0 16 (dk_at dksX3_update_10 3 rfl rfl)
theorem dX3_update_239 : decode cX3_update 239 = .ok (.lrem, 1) := dk_113 (dk_at dksX3_update_10 6 rfl rfl)
theorem dX3_update_240 : decode cX3_update 240 = .ok (.putfield 13, 3) := dk_181 0 13 (dk_at dksX3_update_10 7 rfl rfl)
theorem dX3_update_243 : decode cX3_update 243 = .ok (.return_, 1) := dk_177 (dk_at dksX3_update_10 10 rfl rfl)
abbrev cX3_getValue : ByteArray := prog_1_method_2_code
def yX3_getValue : MethodName := ⟨RX3, "getValue", "()J"⟩
def dkwX3_getValue_0 : List UInt8 := [42, 180, 0, 13, 16, 16, 121, 42, 180, 0, 7, 129, 173]
abbrev dktX3_getValue_0 : List UInt8 := dkwX3_getValue_0 ++ []
theorem dksX3_getValue_0 : cX3_getValue.data.toList.drop 0 = dktX3_getValue_0 := by decide +kernel
theorem dX3_getValue_0 : decode cX3_getValue 0 = .ok (.aload_n 0, 1) := dk_42 (dk_at dksX3_getValue_0 0 rfl rfl)
theorem dX3_getValue_1 : decode cX3_getValue 1 = .ok (.getfield 13, 3) := dk_180 0 13 (dk_at dksX3_getValue_0 1 rfl rfl)
theorem dX3_getValue_4 : decode cX3_getValue 4 = .ok (.bipush 16, 2) := dk_16 16 (dk_at dksX3_getValue_0 4 rfl rfl)
theorem dX3_getValue_6 : decode cX3_getValue 6 = .ok (.lshl, 1) := dk_121 (dk_at dksX3_getValue_0 6 rfl rfl)
theorem dX3_getValue_7 : decode cX3_getValue 7 = .ok (.aload_n 0, 1) := dk_42 (dk_at dksX3_getValue_0 7 rfl rfl)
theorem dX3_getValue_8 : decode cX3_getValue 8 = .ok (.getfield 7, 3) := dk_180 0 7 (dk_at dksX3_getValue_0 8 rfl rfl)
theorem dX3_getValue_11 : decode cX3_getValue 11 = .ok (.lor, 1) := dk_129 (dk_at dksX3_getValue_0 11 rfl rfl)
theorem dX3_getValue_12 : decode cX3_getValue 12 = .ok (.lreturn, 1) := dk_173 (dk_at dksX3_getValue_0 12 rfl rfl)
abbrev cX3_combine : ByteArray := prog_1_method_4_code
def yX3_combine : MethodName := ⟨RX3, "combine", "(JJJ)J"⟩
def dkwX3_combine_6 : List UInt8 := [16, 16, 121, 129, 173]
abbrev dktX3_combine_6 : List UInt8 := dkwX3_combine_6 ++ []
def dkwX3_combine_5 : List UInt8 := [4, 121, 101, 55, 10, 22, 10, 22, 6, 148, 155, 0, 10, 22, 10, 22, 6, 101, 55, 10, 22, 8, 22, 10]
abbrev dktX3_combine_5 : List UInt8 := dkwX3_combine_5 ++ dktX3_combine_6
def dkwX3_combine_4 : List UInt8 := [155, 0, 10, 22, 8, 22, 6, 101, 55, 8, 22, 10, 22, 6, 4, 121, 148, 155, 0, 12, 22, 10, 22, 6]
abbrev dktX3_combine_4 : List UInt8 := dkwX3_combine_4 ++ dktX3_combine_5
def dkwX3_combine_3 : List UInt8 := [101, 97, 55, 10, 22, 8, 22, 6, 148, 155, 0, 10, 22, 8, 22, 6, 101, 55, 8, 22, 8, 22, 6, 148]
abbrev dktX3_combine_3 : List UInt8 := dkwX3_combine_3 ++ dktX3_combine_4
def dkwX3_combine_2 : List UInt8 := [22, 10, 30, 16, 16, 123, 20, 0, 18, 127, 32, 16, 16, 123, 20, 0, 18, 127, 97, 22, 6, 97, 22, 12]
abbrev dktX3_combine_2 : List UInt8 := dkwX3_combine_2 ++ dktX3_combine_3
def dkwX3_combine_1 : List UInt8 := [55, 10, 22, 10, 22, 6, 113, 55, 10, 22, 8, 32, 20, 0, 18, 127, 22, 6, 97, 10, 101, 97, 55, 8]
abbrev dktX3_combine_1 : List UInt8 := dkwX3_combine_1 ++ dktX3_combine_2
def dkwX3_combine_0 : List UInt8 := [20, 0, 16, 55, 6, 22, 4, 22, 6, 113, 55, 12, 30, 20, 0, 18, 127, 55, 8, 22, 12, 22, 8, 105]
abbrev dktX3_combine_0 : List UInt8 := dkwX3_combine_0 ++ dktX3_combine_1
theorem dksX3_combine_0 : cX3_combine.data.toList.drop 0 = dktX3_combine_0 := by decide +kernel
theorem dksX3_combine_1 : cX3_combine.data.toList.drop 24 = dktX3_combine_1 := dk_seg dksX3_combine_0 24 rfl rfl
theorem dksX3_combine_2 : cX3_combine.data.toList.drop 48 = dktX3_combine_2 := dk_seg dksX3_combine_1 24 rfl rfl
theorem dksX3_combine_3 : cX3_combine.data.toList.drop 72 = dktX3_combine_3 := dk_seg dksX3_combine_2 24 rfl rfl
theorem dksX3_combine_4 : cX3_combine.data.toList.drop 96 = dktX3_combine_4 := dk_seg dksX3_combine_3 24 rfl rfl
theorem dksX3_combine_5 : cX3_combine.data.toList.drop 120 = dktX3_combine_5 := dk_seg dksX3_combine_4 24 rfl rfl
theorem dksX3_combine_6 : cX3_combine.data.toList.drop 144 = dktX3_combine_6 := dk_seg dksX3_combine_5 24 rfl rfl
theorem dX3_combine_0 : decode cX3_combine 0 = .ok (.ldc2_w 16, 3) := dk_20 0 16 (dk_at dksX3_combine_0 0 rfl rfl)
theorem dX3_combine_3 : decode cX3_combine 3 = .ok (.lstore 6, 2) := dk_55 6 (dk_at dksX3_combine_0 3 rfl rfl)
theorem dX3_combine_5 : decode cX3_combine 5 = .ok (.lload 4, 2) := dk_22 4 (dk_at dksX3_combine_0 5 rfl rfl)
theorem dX3_combine_7 : decode cX3_combine 7 = .ok (.lload 6, 2) := dk_22 6 (dk_at dksX3_combine_0 7 rfl rfl)
theorem dX3_combine_9 : decode cX3_combine 9 = .ok (.lrem, 1) := dk_113 (dk_at dksX3_combine_0 9 rfl rfl)
theorem dX3_combine_10 : decode cX3_combine 10 = .ok (.lstore 12, 2) := dk_55 12 (dk_at dksX3_combine_0 10 rfl rfl)
theorem dX3_combine_12 : decode cX3_combine 12 = .ok (.lload_n 0, 1) := dk_30 (dk_at dksX3_combine_0 12 rfl rfl)
theorem dX3_combine_13 : decode cX3_combine 13 = .ok (.ldc2_w 18, 3) := dk_20 0 18 (dk_at dksX3_combine_0 13 rfl rfl)
theorem dX3_combine_16 : decode cX3_combine 16 = .ok (.land, 1) := dk_127 (dk_at dksX3_combine_0 16 rfl rfl)
theorem dX3_combine_17 : decode cX3_combine 17 = .ok (.lstore 8, 2) := dk_55 8 (dk_at dksX3_combine_0 17 rfl rfl)
theorem dX3_combine_19 : decode cX3_combine 19 = .ok (.lload 12, 2) := dk_22 12 (dk_at dksX3_combine_0 19 rfl rfl)
theorem dX3_combine_21 : decode cX3_combine 21 = .ok (.lload 8, 2) := dk_22 8 (dk_at dksX3_combine_0 21 rfl rfl)
theorem dX3_combine_23 : decode cX3_combine 23 = .ok (.lmul, 1) := dk_105 (dk_at dksX3_combine_0 23 rfl rfl)
theorem dX3_combine_24 : decode cX3_combine 24 = .ok (.lstore 10, 2) := dk_55 10 (dk_at dksX3_combine_1 0 rfl rfl)
theorem dX3_combine_26 : decode cX3_combine 26 = .ok (.lload 10, 2) := dk_22 10 (dk_at dksX3_combine_1 2 rfl rfl)
theorem dX3_combine_28 : decode cX3_combine 28 = .ok (.lload 6, 2) := dk_22 6 (dk_at dksX3_combine_1 4 rfl rfl)
theorem dX3_combine_30 : decode cX3_combine 30 = .ok (.lrem, 1) := dk_113 (dk_at dksX3_combine_1 6 rfl rfl)
theorem dX3_combine_31 : decode cX3_combine 31 = .ok (.lstore 10, 2) := dk_55 10 (dk_at dksX3_combine_1 7 rfl rfl)
theorem dX3_combine_33 : decode cX3_combine 33 = .ok (.lload 8, 2) := dk_22 8 (dk_at dksX3_combine_1 9 rfl rfl)
theorem dX3_combine_35 : decode cX3_combine 35 = .ok (.lload_n 2, 1) := dk_32 (dk_at dksX3_combine_1 11 rfl rfl)
theorem dX3_combine_36 : decode cX3_combine 36 = .ok (.ldc2_w 18, 3) := dk_20 0 18 (dk_at dksX3_combine_1 12 rfl rfl)
theorem dX3_combine_39 : decode cX3_combine 39 = .ok (.land, 1) := dk_127 (dk_at dksX3_combine_1 15 rfl rfl)
theorem dX3_combine_40 : decode cX3_combine 40 = .ok (.lload 6, 2) := dk_22 6 (dk_at dksX3_combine_1 16 rfl rfl)
theorem dX3_combine_42 : decode cX3_combine 42 = .ok (.ladd, 1) := dk_97 (dk_at dksX3_combine_1 18 rfl rfl)
theorem dX3_combine_43 : decode cX3_combine 43 = .ok (.lconst 1, 1) := dk_10 (dk_at dksX3_combine_1 19 rfl rfl)
theorem dX3_combine_44 : decode cX3_combine 44 = .ok (.lsub, 1) := dk_101 (dk_at dksX3_combine_1 20 rfl rfl)
theorem dX3_combine_45 : decode cX3_combine 45 = .ok (.ladd, 1) := dk_97 (dk_at dksX3_combine_1 21 rfl rfl)
theorem dX3_combine_46 : decode cX3_combine 46 = .ok (.lstore 8, 2) := dk_55 8 (dk_at dksX3_combine_1 22 rfl rfl)
theorem dX3_combine_48 : decode cX3_combine 48 = .ok (.lload 10, 2) := dk_22 10 (dk_at dksX3_combine_2 0 rfl rfl)
theorem dX3_combine_50 : decode cX3_combine 50 = .ok (.lload_n 0, 1) := dk_30 (dk_at dksX3_combine_2 2 rfl rfl)
theorem dX3_combine_51 : decode cX3_combine 51 = .ok (.bipush 16, 2) := dk_16 16 (dk_at dksX3_combine_2 3 rfl rfl)
theorem dX3_combine_53 : decode cX3_combine 53 = .ok (.lshr, 1) := dk_123 (dk_at dksX3_combine_2 5 rfl rfl)
theorem dX3_combine_54 : decode cX3_combine 54 = .ok (.ldc2_w 18, 3) := dk_20 0 18 (dk_at dksX3_combine_2 6 rfl rfl)
theorem dX3_combine_57 : decode cX3_combine 57 = .ok (.land, 1) := dk_127 (dk_at dksX3_combine_2 9 rfl rfl)
theorem dX3_combine_58 : decode cX3_combine 58 = .ok (.lload_n 2, 1) := dk_32 (dk_at dksX3_combine_2 10 rfl rfl)
theorem dX3_combine_59 : decode cX3_combine 59 = .ok (.bipush 16, 2) := dk_16 16 (dk_at dksX3_combine_2 11 rfl rfl)
theorem dX3_combine_61 : decode cX3_combine 61 = .ok (.lshr, 1) := dk_123 (dk_at dksX3_combine_2 13 rfl rfl)
theorem dX3_combine_62 : decode cX3_combine 62 = .ok (.ldc2_w 18, 3) := dk_20 0 18 (dk_at dksX3_combine_2 14 rfl rfl)
theorem dX3_combine_65 : decode cX3_combine 65 = .ok (.land, 1) := dk_127 (dk_at dksX3_combine_2 17 rfl rfl)
theorem dX3_combine_66 : decode cX3_combine 66 = .ok (.ladd, 1) := dk_97 (dk_at dksX3_combine_2 18 rfl rfl)
theorem dX3_combine_67 : decode cX3_combine 67 = .ok (.lload 6, 2) := dk_22 6 (dk_at dksX3_combine_2 19 rfl rfl)
theorem dX3_combine_69 : decode cX3_combine 69 = .ok (.ladd, 1) := dk_97 (dk_at dksX3_combine_2 21 rfl rfl)
theorem dX3_combine_70 : decode cX3_combine 70 = .ok (.lload 12, 2) := dk_22 12 (dk_at dksX3_combine_2 22 rfl rfl)
theorem dX3_combine_72 : decode cX3_combine 72 = .ok (.lsub, 1) := dk_101 (dk_at dksX3_combine_3 0 rfl rfl)
theorem dX3_combine_73 : decode cX3_combine 73 = .ok (.ladd, 1) := dk_97 (dk_at dksX3_combine_3 1 rfl rfl)
theorem dX3_combine_74 : decode cX3_combine 74 = .ok (.lstore 10, 2) := dk_55 10 (dk_at dksX3_combine_3 2 rfl rfl)
theorem dX3_combine_76 : decode cX3_combine 76 = .ok (.lload 8, 2) := dk_22 8 (dk_at dksX3_combine_3 4 rfl rfl)
theorem dX3_combine_78 : decode cX3_combine 78 = .ok (.lload 6, 2) := dk_22 6 (dk_at dksX3_combine_3 6 rfl rfl)
theorem dX3_combine_80 : decode cX3_combine 80 = .ok (.lcmp, 1) := dk_148 (dk_at dksX3_combine_3 8 rfl rfl)
theorem dX3_combine_81 : decode cX3_combine 81 = .ok (.ifCond .lt 10, 3) := dk_155 0 10 (dk_at dksX3_combine_3 9 rfl rfl)
theorem dX3_combine_84 : decode cX3_combine 84 = .ok (.lload 8, 2) := dk_22 8 (dk_at dksX3_combine_3 12 rfl rfl)
theorem dX3_combine_86 : decode cX3_combine 86 = .ok (.lload 6, 2) := dk_22 6 (dk_at dksX3_combine_3 14 rfl rfl)
theorem dX3_combine_88 : decode cX3_combine 88 = .ok (.lsub, 1) := dk_101 (dk_at dksX3_combine_3 16 rfl rfl)
theorem dX3_combine_89 : decode cX3_combine 89 = .ok (.lstore 8, 2) := dk_55 8 (dk_at dksX3_combine_3 17 rfl rfl)
theorem dX3_combine_91 : decode cX3_combine 91 = .ok (.lload 8, 2) := dk_22 8 (dk_at dksX3_combine_3 19 rfl rfl)
theorem dX3_combine_93 : decode cX3_combine 93 = .ok (.lload 6, 2) := dk_22 6 (dk_at dksX3_combine_3 21 rfl rfl)
theorem dX3_combine_95 : decode cX3_combine 95 = .ok (.lcmp, 1) := dk_148 (dk_at dksX3_combine_3 23 rfl rfl)
theorem dX3_combine_96 : decode cX3_combine 96 = .ok (.ifCond .lt 10, 3) := dk_155 0 10 (dk_at dksX3_combine_4 0 rfl rfl)
theorem dX3_combine_99 : decode cX3_combine 99 = .ok (.lload 8, 2) := dk_22 8 (dk_at dksX3_combine_4 3 rfl rfl)
theorem dX3_combine_101 : decode cX3_combine 101 = .ok (.lload 6, 2) := dk_22 6 (dk_at dksX3_combine_4 5 rfl rfl)
theorem dX3_combine_103 : decode cX3_combine 103 = .ok (.lsub, 1) := dk_101 (dk_at dksX3_combine_4 7 rfl rfl)
theorem dX3_combine_104 : decode cX3_combine 104 = .ok (.lstore 8, 2) := dk_55 8 (dk_at dksX3_combine_4 8 rfl rfl)
theorem dX3_combine_106 : decode cX3_combine 106 = .ok (.lload 10, 2) := dk_22 10 (dk_at dksX3_combine_4 10 rfl rfl)
theorem dX3_combine_108 : decode cX3_combine 108 = .ok (.lload 6, 2) := dk_22 6 (dk_at dksX3_combine_4 12 rfl rfl)
theorem dX3_combine_110 : decode cX3_combine 110 = .ok (.iconst 1, 1) := dk_4 (dk_at dksX3_combine_4 14 rfl rfl)
theorem dX3_combine_111 : decode cX3_combine 111 = .ok (.lshl, 1) := dk_121 (dk_at dksX3_combine_4 15 rfl rfl)
theorem dX3_combine_112 : decode cX3_combine 112 = .ok (.lcmp, 1) := dk_148 (dk_at dksX3_combine_4 16 rfl rfl)
theorem dX3_combine_113 : decode cX3_combine 113 = .ok (.ifCond .lt 12, 3) := dk_155 0 12 (dk_at dksX3_combine_4 17 rfl rfl)
theorem dX3_combine_116 : decode cX3_combine 116 = .ok (.lload 10, 2) := dk_22 10 (dk_at dksX3_combine_4 20 rfl rfl)
theorem dX3_combine_118 : decode cX3_combine 118 = .ok (.lload 6, 2) := dk_22 6 (dk_at dksX3_combine_4 22 rfl rfl)
theorem dX3_combine_120 : decode cX3_combine 120 = .ok (.iconst 1, 1) := dk_4 (dk_at dksX3_combine_5 0 rfl rfl)
theorem dX3_combine_121 : decode cX3_combine 121 = .ok (.lshl, 1) := dk_121 (dk_at dksX3_combine_5 1 rfl rfl)
theorem dX3_combine_122 : decode cX3_combine 122 = .ok (.lsub, 1) := dk_101 (dk_at dksX3_combine_5 2 rfl rfl)
theorem dX3_combine_123 : decode cX3_combine 123 = .ok (.lstore 10, 2) := dk_55 10 (dk_at dksX3_combine_5 3 rfl rfl)
theorem dX3_combine_125 : decode cX3_combine 125 = .ok (.lload 10, 2) := dk_22 10 (dk_at dksX3_combine_5 5 rfl rfl)
theorem dX3_combine_127 : decode cX3_combine 127 = .ok (.lload 6, 2) := dk_22 6 (dk_at dksX3_combine_5 7 rfl rfl)
theorem dX3_combine_129 : decode cX3_combine 129 = .ok (.lcmp, 1) := dk_148 (dk_at dksX3_combine_5 9 rfl rfl)
theorem dX3_combine_130 : decode cX3_combine 130 = .ok (.ifCond .lt 10, 3) := dk_155 0 10 (dk_at dksX3_combine_5 10 rfl rfl)
theorem dX3_combine_133 : decode cX3_combine 133 = .ok (.lload 10, 2) := dk_22 10 (dk_at dksX3_combine_5 13 rfl rfl)
theorem dX3_combine_135 : decode cX3_combine 135 = .ok (.lload 6, 2) := dk_22 6 (dk_at dksX3_combine_5 15 rfl rfl)
theorem dX3_combine_137 : decode cX3_combine 137 = .ok (.lsub, 1) := dk_101 (dk_at dksX3_combine_5 17 rfl rfl)
theorem dX3_combine_138 : decode cX3_combine 138 = .ok (.lstore 10, 2) := dk_55 10 (dk_at dksX3_combine_5 18 rfl rfl)
theorem dX3_combine_140 : decode cX3_combine 140 = .ok (.lload 8, 2) := dk_22 8 (dk_at dksX3_combine_5 20 rfl rfl)
theorem dX3_combine_142 : decode cX3_combine 142 = .ok (.lload 10, 2) := dk_22 10 (dk_at dksX3_combine_5 22 rfl rfl)
theorem dX3_combine_144 : decode cX3_combine 144 = .ok (.bipush 16, 2) := dk_16 16 (dk_at dksX3_combine_6 0 rfl rfl)
theorem dX3_combine_146 : decode cX3_combine 146 = .ok (.lshl, 1) := dk_121 (dk_at dksX3_combine_6 2 rfl rfl)
theorem dX3_combine_147 : decode cX3_combine 147 = .ok (.lor, 1) := dk_129 (dk_at dksX3_combine_6 3 rfl rfl)
theorem dX3_combine_148 : decode cX3_combine 148 = .ok (.lreturn, 1) := dk_173 (dk_at dksX3_combine_6 4 rfl rfl)
theorem q6 : (Jvm.Cond.initialized "Adler32") ∈ lw_all := lw_g (lw_at lw_m0 3 rfl) rfl
theorem q77 : (Jvm.Cond.instantiable "Adler32" (2 : Nat)) ∈ lw_all := lw_g (lw_at lw_m0 74 rfl) rfl
theorem q79 : (Jvm.Cond.instanceMethod ({ cls := "Adler32", name := "<init>", desc := "()V" } : Jvm.MethodName)) ∈ lw_all := lw_g (lw_at lw_m0 76 rfl) rfl
theorem q80 : (Jvm.Cond.code ({ cls := "Adler32", name := "<init>", desc := "()V" } : Jvm.MethodName) prog_1_method_1_code (1 : Nat) (Option.none : Option Jvm.ClassFile.FieldType)) ∈ lw_all := lw_g (lw_at lw_m0 77 rfl) rfl
theorem q81 : (Jvm.Cond.methodLink "Adler32" (1 : Nat) ({ cls := "java/lang/Object", name := "<init>", desc := "()V" } : Jvm.MethodName)) ∈ lw_all := lw_g (lw_at lw_m0 78 rfl) rfl
theorem q82 : (Jvm.Cond.fieldLink "Adler32" (7 : Nat) "Adler32" "s1" "J") ∈ lw_all := lw_g (lw_at lw_m0 79 rfl) rfl
theorem q83 : (Jvm.Cond.fieldLink "Adler32" (13 : Nat) "Adler32" "s2" "J") ∈ lw_all := lw_g (lw_at lw_m0 80 rfl) rfl
theorem q84 : (Jvm.Cond.lays "Adler32" "Adler32" "s1" "J") ∈ lw_all := lw_g (lw_at lw_m0 81 rfl) rfl
theorem q85 : (Jvm.Cond.soleField "Adler32" "s1") ∈ lw_all := lw_g (lw_at lw_m0 82 rfl) rfl
theorem q86 : (Jvm.Cond.lays "Adler32" "Adler32" "s2" "J") ∈ lw_all := lw_g (lw_at lw_m0 83 rfl) rfl
theorem q87 : (Jvm.Cond.soleField "Adler32" "s2") ∈ lw_all := lw_g (lw_at lw_m0 84 rfl) rfl
theorem q88 : (Jvm.Cond.superclass "Adler32" "java/lang/Object") ∈ lw_all := lw_g (lw_at lw_m0 85 rfl) rfl
theorem q90 : (Jvm.Cond.instanceMethod ({ cls := "Adler32", name := "update", desc := "([BII)V" } : Jvm.MethodName)) ∈ lw_all := lw_g (lw_at lw_m0 87 rfl) rfl
theorem q91 : (Jvm.Cond.selects "Adler32" ({ cls := "Adler32", name := "update", desc := "([BII)V" } : Jvm.MethodName) ({ cls := "Adler32", name := "update", desc := "([BII)V" } : Jvm.MethodName)) ∈ lw_all := lw_g (lw_at lw_m0 88 rfl) rfl
theorem q92 : (Jvm.Cond.code ({ cls := "Adler32", name := "update", desc := "([BII)V" } : Jvm.MethodName) prog_1_method_3_code (7 : Nat) (Option.none : Option Jvm.ClassFile.FieldType)) ∈ lw_all := lw_g (lw_at lw_m0 89 rfl) rfl
theorem q93 : (Jvm.Cond.constantLong "Adler32" (16 : Nat) (65521 : Int64)) ∈ lw_all := lw_g (lw_at lw_m0 90 rfl) rfl
theorem q95 : (Jvm.Cond.instanceMethod ({ cls := "Adler32", name := "getValue", desc := "()J" } : Jvm.MethodName)) ∈ lw_all := lw_g (lw_at lw_m0 92 rfl) rfl
theorem q96 : (Jvm.Cond.selects "Adler32" ({ cls := "Adler32", name := "getValue", desc := "()J" } : Jvm.MethodName) ({ cls := "Adler32", name := "getValue", desc := "()J" } : Jvm.MethodName)) ∈ lw_all := lw_g (lw_at lw_m0 93 rfl) rfl
theorem q97 : (Jvm.Cond.code ({ cls := "Adler32", name := "getValue", desc := "()J" } : Jvm.MethodName) prog_1_method_2_code (1 : Nat) (Option.some Jvm.ClassFile.FieldType.long)) ∈ lw_all := lw_g (lw_at lw_m0 94 rfl) rfl
theorem q122 : (Jvm.Cond.static ({ cls := "Adler32", name := "combine", desc := "(JJJ)J" } : Jvm.MethodName)) ∈ lw_all := lw_g (lw_at lw_m0 119 rfl) rfl
theorem q123 : (Jvm.Cond.code ({ cls := "Adler32", name := "combine", desc := "(JJJ)J" } : Jvm.MethodName) prog_1_method_4_code (14 : Nat) (Option.some Jvm.ClassFile.FieldType.long)) ∈ lw_all := lw_g (lw_at lw_m0 120 rfl) rfl
theorem q124 : (Jvm.Cond.constantLong "Adler32" (18 : Nat) (65535 : Int64)) ∈ lw_all := lw_g (lw_at lw_m0 121 rfl) rfl
theorem in_X3 : ∀ w ∈ wsX30, w ∈ lw_all := lw_in wsX30 [84, 86] (by decide +kernel) (by decide +kernel)
/-! the law's own entry -/
set_option maxRecDepth 100000
abbrev cL_law : ByteArray := code
def dkwL_law_7 : List UInt8 := [3, 21, 5, 182, 0, 14, 148, 154, 0, 7, 4, 167, 0, 4, 3, 172]
abbrev dktL_law_7 : List UInt8 := dkwL_law_7 ++ []
def dkwL_law_6 : List UInt8 := [182, 0, 49, 43, 3, 21, 5, 182, 0, 10, 148, 154, 0, 27, 43, 3, 21, 5, 21, 4, 182, 0, 53, 43]
abbrev dktL_law_6 : List UInt8 := dkwL_law_6 ++ dktL_law_7
def dkwL_law_5 : List UInt8 := [28, 29, 21, 4, 182, 0, 53, 43, 28, 29, 182, 0, 14, 148, 154, 0, 47, 43, 3, 21, 5, 21, 4]
abbrev dktL_law_5 : List UInt8 := dkwL_law_5 ++ dktL_law_6
def dkwL_law_4 : List UInt8 := [182, 0, 45, 54, 5, 43, 28, 29, 21, 4, 182, 0, 49, 43, 28, 29, 182, 0, 10, 148, 154, 0, 65, 43]
abbrev dktL_law_4 : List UInt8 := dkwL_law_4 ++ dktL_law_5
def dkwL_law_3 : List UInt8 := [182, 0, 24, 42, 3, 184, 0, 41, 61, 42, 4, 184, 0, 41, 62, 42, 5, 184, 0, 41, 54, 4, 43]
abbrev dktL_law_3 : List UInt8 := dkwL_law_3 ++ dktL_law_4
def dkwL_law_2 : List UInt8 := [184, 0, 41, 182, 0, 20, 154, 0, 5, 3, 172, 132, 2, 4, 167, 255, 212, 43, 42, 6, 184, 0, 41]
abbrev dktL_law_2 : List UInt8 := dkwL_law_2 ++ dktL_law_3
def dkwL_law_1 : List UInt8 := [43, 42, 28, 184, 0, 41, 42, 28, 4, 96, 184, 0, 41, 42, 28, 5, 96, 184, 0, 41, 42, 28, 6, 96]
abbrev dktL_law_1 : List UInt8 := dkwL_law_1 ++ dktL_law_2
def dkwL_law_0 : List UInt8 := [184, 0, 35, 154, 0, 5, 3, 172, 187, 0, 7, 89, 183, 0, 9, 76, 7, 61, 28, 16, 48, 162, 0, 44]
abbrev dktL_law_0 : List UInt8 := dkwL_law_0 ++ dktL_law_1
theorem dksL_law_0 : cL_law.data.toList.drop 0 = dktL_law_0 := by decide +kernel
theorem dksL_law_1 : cL_law.data.toList.drop 24 = dktL_law_1 := dk_seg dksL_law_0 24 rfl rfl
theorem dksL_law_2 : cL_law.data.toList.drop 48 = dktL_law_2 := dk_seg dksL_law_1 24 rfl rfl
theorem dksL_law_3 : cL_law.data.toList.drop 71 = dktL_law_3 := dk_seg dksL_law_2 23 rfl rfl
theorem dksL_law_4 : cL_law.data.toList.drop 94 = dktL_law_4 := dk_seg dksL_law_3 23 rfl rfl
theorem dksL_law_5 : cL_law.data.toList.drop 118 = dktL_law_5 := dk_seg dksL_law_4 24 rfl rfl
theorem dksL_law_6 : cL_law.data.toList.drop 141 = dktL_law_6 := dk_seg dksL_law_5 23 rfl rfl
theorem dksL_law_7 : cL_law.data.toList.drop 165 = dktL_law_7 := dk_seg dksL_law_6 24 rfl rfl
theorem dL_law_0 : decode cL_law 0 = .ok (.invokestatic 35, 3) := dk_184 0 35 (dk_at dksL_law_0 0 rfl rfl)
theorem dL_law_3 : decode cL_law 3 = .ok (.ifCond .ne 5, 3) := dk_154 0 5 (dk_at dksL_law_0 3 rfl rfl)
theorem dL_law_6 : decode cL_law 6 = .ok (.iconst 0, 1) := dk_3 (dk_at dksL_law_0 6 rfl rfl)
theorem dL_law_7 : decode cL_law 7 = .ok (.ireturn, 1) := dk_172 (dk_at dksL_law_0 7 rfl rfl)
theorem dL_law_8 : decode cL_law 8 = .ok (.new 7, 3) := dk_187 0 7 (dk_at dksL_law_0 8 rfl rfl)
theorem dL_law_11 : decode cL_law 11 = .ok (.dup, 1) := dk_89 (dk_at dksL_law_0 11 rfl rfl)
theorem dL_law_12 : decode cL_law 12 = .ok (.invokespecial 9, 3) := dk_183 0 9 (dk_at dksL_law_0 12 rfl rfl)
theorem dL_law_15 : decode cL_law 15 = .ok (.astore_n 1, 1) := dk_76 (dk_at dksL_law_0 15 rfl rfl)
theorem dL_law_16 : decode cL_law 16 = .ok (.iconst 4, 1) := dk_7 (dk_at dksL_law_0 16 rfl rfl)
theorem dL_law_17 : decode cL_law 17 = .ok (.istore_n 2, 1) := dk_61 (dk_at dksL_law_0 17 rfl rfl)
theorem dL_law_18 : decode cL_law 18 = .ok (.iload_n 2, 1) := dk_28 (dk_at dksL_law_0 18 rfl rfl)
theorem dL_law_19 : decode cL_law 19 = .ok (.bipush 48, 2) := dk_16 48 (dk_at dksL_law_0 19 rfl rfl)
theorem dL_law_21 : decode cL_law 21 = .ok (.if_icmp .ge 44, 3) := dk_162 0 44 (dk_at dksL_law_0 21 rfl rfl)
theorem dL_law_24 : decode cL_law 24 = .ok (.aload_n 1, 1) := dk_43 (dk_at dksL_law_1 0 rfl rfl)
theorem dL_law_25 : decode cL_law 25 = .ok (.aload_n 0, 1) := dk_42 (dk_at dksL_law_1 1 rfl rfl)
theorem dL_law_26 : decode cL_law 26 = .ok (.iload_n 2, 1) := dk_28 (dk_at dksL_law_1 2 rfl rfl)
theorem dL_law_27 : decode cL_law 27 = .ok (.invokestatic 41, 3) := dk_184 0 41 (dk_at dksL_law_1 3 rfl rfl)
theorem dL_law_30 : decode cL_law 30 = .ok (.aload_n 0, 1) := dk_42 (dk_at dksL_law_1 6 rfl rfl)
theorem dL_law_31 : decode cL_law 31 = .ok (.iload_n 2, 1) := dk_28 (dk_at dksL_law_1 7 rfl rfl)
theorem dL_law_32 : decode cL_law 32 = .ok (.iconst 1, 1) := dk_4 (dk_at dksL_law_1 8 rfl rfl)
theorem dL_law_33 : decode cL_law 33 = .ok (.iadd, 1) := dk_96 (dk_at dksL_law_1 9 rfl rfl)
theorem dL_law_34 : decode cL_law 34 = .ok (.invokestatic 41, 3) := dk_184 0 41 (dk_at dksL_law_1 10 rfl rfl)
theorem dL_law_37 : decode cL_law 37 = .ok (.aload_n 0, 1) := dk_42 (dk_at dksL_law_1 13 rfl rfl)
theorem dL_law_38 : decode cL_law 38 = .ok (.iload_n 2, 1) := dk_28 (dk_at dksL_law_1 14 rfl rfl)
theorem dL_law_39 : decode cL_law 39 = .ok (.iconst 2, 1) := dk_5 (dk_at dksL_law_1 15 rfl rfl)
theorem dL_law_40 : decode cL_law 40 = .ok (.iadd, 1) := dk_96 (dk_at dksL_law_1 16 rfl rfl)
theorem dL_law_41 : decode cL_law 41 = .ok (.invokestatic 41, 3) := dk_184 0 41 (dk_at dksL_law_1 17 rfl rfl)
theorem dL_law_44 : decode cL_law 44 = .ok (.aload_n 0, 1) := dk_42 (dk_at dksL_law_1 20 rfl rfl)
theorem dL_law_45 : decode cL_law 45 = .ok (.iload_n 2, 1) := dk_28 (dk_at dksL_law_1 21 rfl rfl)
theorem dL_law_46 : decode cL_law 46 = .ok (.iconst 3, 1) := dk_6 (dk_at dksL_law_1 22 rfl rfl)
theorem dL_law_47 : decode cL_law 47 = .ok (.iadd, 1) := dk_96 (dk_at dksL_law_1 23 rfl rfl)
theorem dL_law_48 : decode cL_law 48 = .ok (.invokestatic 41, 3) := dk_184 0 41 (dk_at dksL_law_2 0 rfl rfl)
theorem dL_law_51 : decode cL_law 51 = .ok (.invokevirtual 20, 3) := dk_182 0 20 (dk_at dksL_law_2 3 rfl rfl)
theorem dL_law_54 : decode cL_law 54 = .ok (.ifCond .ne 5, 3) := dk_154 0 5 (dk_at dksL_law_2 6 rfl rfl)
theorem dL_law_57 : decode cL_law 57 = .ok (.iconst 0, 1) := dk_3 (dk_at dksL_law_2 9 rfl rfl)
theorem dL_law_58 : decode cL_law 58 = .ok (.ireturn, 1) := dk_172 (dk_at dksL_law_2 10 rfl rfl)
theorem dL_law_59 : decode cL_law 59 = .ok (.iinc 2 4, 3) := dk_132 2 4 (dk_at dksL_law_2 11 rfl rfl)
theorem dL_law_62 : decode cL_law 62 = .ok (.goto (-44), 3) := dk_167 255 212 (dk_at dksL_law_2 14 rfl rfl)
theorem dL_law_65 : decode cL_law 65 = .ok (.aload_n 1, 1) := dk_43 (dk_at dksL_law_2 17 rfl rfl)
theorem dL_law_66 : decode cL_law 66 = .ok (.aload_n 0, 1) := dk_42 (dk_at dksL_law_2 18 rfl rfl)
theorem dL_law_67 : decode cL_law 67 = .ok (.iconst 3, 1) := dk_6 (dk_at dksL_law_2 19 rfl rfl)
theorem dL_law_68 : decode cL_law 68 = .ok (.invokestatic 41, 3) := dk_184 0 41 (dk_at dksL_law_2 20 rfl rfl)
theorem dL_law_71 : decode cL_law 71 = .ok (.invokevirtual 24, 3) := dk_182 0 24 (dk_at dksL_law_3 0 rfl rfl)
theorem dL_law_74 : decode cL_law 74 = .ok (.aload_n 0, 1) := dk_42 (dk_at dksL_law_3 3 rfl rfl)
theorem dL_law_75 : decode cL_law 75 = .ok (.iconst 0, 1) := dk_3 (dk_at dksL_law_3 4 rfl rfl)
theorem dL_law_76 : decode cL_law 76 = .ok (.invokestatic 41, 3) := dk_184 0 41 (dk_at dksL_law_3 5 rfl rfl)
theorem dL_law_79 : decode cL_law 79 = .ok (.istore_n 2, 1) := dk_61 (dk_at dksL_law_3 8 rfl rfl)
theorem dL_law_80 : decode cL_law 80 = .ok (.aload_n 0, 1) := dk_42 (dk_at dksL_law_3 9 rfl rfl)
theorem dL_law_81 : decode cL_law 81 = .ok (.iconst 1, 1) := dk_4 (dk_at dksL_law_3 10 rfl rfl)
theorem dL_law_82 : decode cL_law 82 = .ok (.invokestatic 41, 3) := dk_184 0 41 (dk_at dksL_law_3 11 rfl rfl)
theorem dL_law_85 : decode cL_law 85 = .ok (.istore_n 3, 1) := dk_62 (dk_at dksL_law_3 14 rfl rfl)
theorem dL_law_86 : decode cL_law 86 = .ok (.aload_n 0, 1) := dk_42 (dk_at dksL_law_3 15 rfl rfl)
theorem dL_law_87 : decode cL_law 87 = .ok (.iconst 2, 1) := dk_5 (dk_at dksL_law_3 16 rfl rfl)
theorem dL_law_88 : decode cL_law 88 = .ok (.invokestatic 41, 3) := dk_184 0 41 (dk_at dksL_law_3 17 rfl rfl)
theorem dL_law_91 : decode cL_law 91 = .ok (.istore 4, 2) := dk_54 4 (dk_at dksL_law_3 20 rfl rfl)
theorem dL_law_93 : decode cL_law 93 = .ok (.aload_n 1, 1) := dk_43 (dk_at dksL_law_3 22 rfl rfl)
theorem dL_law_94 : decode cL_law 94 = .ok (.invokevirtual 45, 3) := dk_182 0 45 (dk_at dksL_law_4 0 rfl rfl)
theorem dL_law_97 : decode cL_law 97 = .ok (.istore 5, 2) := dk_54 5 (dk_at dksL_law_4 3 rfl rfl)
theorem dL_law_99 : decode cL_law 99 = .ok (.aload_n 1, 1) := dk_43 (dk_at dksL_law_4 5 rfl rfl)
theorem dL_law_100 : decode cL_law 100 = .ok (.iload_n 2, 1) := dk_28 (dk_at dksL_law_4 6 rfl rfl)
theorem dL_law_101 : decode cL_law 101 = .ok (.iload_n 3, 1) := dk_29 (dk_at dksL_law_4 7 rfl rfl)
theorem dL_law_102 : decode cL_law 102 = .ok (.iload 4, 2) := dk_21 4 (dk_at dksL_law_4 8 rfl rfl)
theorem dL_law_104 : decode cL_law 104 = .ok (.invokevirtual 49, 3) := dk_182 0 49 (dk_at dksL_law_4 10 rfl rfl)
theorem dL_law_107 : decode cL_law 107 = .ok (.aload_n 1, 1) := dk_43 (dk_at dksL_law_4 13 rfl rfl)
theorem dL_law_108 : decode cL_law 108 = .ok (.iload_n 2, 1) := dk_28 (dk_at dksL_law_4 14 rfl rfl)
theorem dL_law_109 : decode cL_law 109 = .ok (.iload_n 3, 1) := dk_29 (dk_at dksL_law_4 15 rfl rfl)
theorem dL_law_110 : decode cL_law 110 = .ok (.invokevirtual 10, 3) := dk_182 0 10 (dk_at dksL_law_4 16 rfl rfl)
theorem dL_law_113 : decode cL_law 113 = .ok (.lcmp, 1) := dk_148 (dk_at dksL_law_4 19 rfl rfl)
theorem dL_law_114 : decode cL_law 114 = .ok (.ifCond .ne 65, 3) := dk_154 0 65 (dk_at dksL_law_4 20 rfl rfl)
theorem dL_law_117 : decode cL_law 117 = .ok (.aload_n 1, 1) := dk_43 (dk_at dksL_law_4 23 rfl rfl)
theorem dL_law_118 : decode cL_law 118 = .ok (.iload_n 2, 1) := dk_28 (dk_at dksL_law_5 0 rfl rfl)
theorem dL_law_119 : decode cL_law 119 = .ok (.iload_n 3, 1) := dk_29 (dk_at dksL_law_5 1 rfl rfl)
theorem dL_law_120 : decode cL_law 120 = .ok (.iload 4, 2) := dk_21 4 (dk_at dksL_law_5 2 rfl rfl)
theorem dL_law_122 : decode cL_law 122 = .ok (.invokevirtual 53, 3) := dk_182 0 53 (dk_at dksL_law_5 4 rfl rfl)
theorem dL_law_125 : decode cL_law 125 = .ok (.aload_n 1, 1) := dk_43 (dk_at dksL_law_5 7 rfl rfl)
theorem dL_law_126 : decode cL_law 126 = .ok (.iload_n 2, 1) := dk_28 (dk_at dksL_law_5 8 rfl rfl)
theorem dL_law_127 : decode cL_law 127 = .ok (.iload_n 3, 1) := dk_29 (dk_at dksL_law_5 9 rfl rfl)
theorem dL_law_128 : decode cL_law 128 = .ok (.invokevirtual 14, 3) := dk_182 0 14 (dk_at dksL_law_5 10 rfl rfl)
theorem dL_law_131 : decode cL_law 131 = .ok (.lcmp, 1) := dk_148 (dk_at dksL_law_5 13 rfl rfl)
theorem dL_law_132 : decode cL_law 132 = .ok (.ifCond .ne 47, 3) := dk_154 0 47 (dk_at dksL_law_5 14 rfl rfl)
theorem dL_law_135 : decode cL_law 135 = .ok (.aload_n 1, 1) := dk_43 (dk_at dksL_law_5 17 rfl rfl)
theorem dL_law_136 : decode cL_law 136 = .ok (.iconst 0, 1) := dk_3 (dk_at dksL_law_5 18 rfl rfl)
theorem dL_law_137 : decode cL_law 137 = .ok (.iload 5, 2) := dk_21 5 (dk_at dksL_law_5 19 rfl rfl)
theorem dL_law_139 : decode cL_law 139 = .ok (.iload 4, 2) := dk_21 4 (dk_at dksL_law_5 21 rfl rfl)
theorem dL_law_141 : decode cL_law 141 = .ok (.invokevirtual 49, 3) := dk_182 0 49 (dk_at dksL_law_6 0 rfl rfl)
theorem dL_law_144 : decode cL_law 144 = .ok (.aload_n 1, 1) := dk_43 (dk_at dksL_law_6 3 rfl rfl)
theorem dL_law_145 : decode cL_law 145 = .ok (.iconst 0, 1) := dk_3 (dk_at dksL_law_6 4 rfl rfl)
theorem dL_law_146 : decode cL_law 146 = .ok (.iload 5, 2) := dk_21 5 (dk_at dksL_law_6 5 rfl rfl)
theorem dL_law_148 : decode cL_law 148 = .ok (.invokevirtual 10, 3) := dk_182 0 10 (dk_at dksL_law_6 7 rfl rfl)
theorem dL_law_151 : decode cL_law 151 = .ok (.lcmp, 1) := dk_148 (dk_at dksL_law_6 10 rfl rfl)
theorem dL_law_152 : decode cL_law 152 = .ok (.ifCond .ne 27, 3) := dk_154 0 27 (dk_at dksL_law_6 11 rfl rfl)
theorem dL_law_155 : decode cL_law 155 = .ok (.aload_n 1, 1) := dk_43 (dk_at dksL_law_6 14 rfl rfl)
theorem dL_law_156 : decode cL_law 156 = .ok (.iconst 0, 1) := dk_3 (dk_at dksL_law_6 15 rfl rfl)
theorem dL_law_157 : decode cL_law 157 = .ok (.iload 5, 2) := dk_21 5 (dk_at dksL_law_6 16 rfl rfl)
theorem dL_law_159 : decode cL_law 159 = .ok (.iload 4, 2) := dk_21 4 (dk_at dksL_law_6 18 rfl rfl)
theorem dL_law_161 : decode cL_law 161 = .ok (.invokevirtual 53, 3) := dk_182 0 53 (dk_at dksL_law_6 20 rfl rfl)
theorem dL_law_164 : decode cL_law 164 = .ok (.aload_n 1, 1) := dk_43 (dk_at dksL_law_6 23 rfl rfl)
theorem dL_law_165 : decode cL_law 165 = .ok (.iconst 0, 1) := dk_3 (dk_at dksL_law_7 0 rfl rfl)
theorem dL_law_166 : decode cL_law 166 = .ok (.iload 5, 2) := dk_21 5 (dk_at dksL_law_7 1 rfl rfl)
theorem dL_law_168 : decode cL_law 168 = .ok (.invokevirtual 14, 3) := dk_182 0 14 (dk_at dksL_law_7 3 rfl rfl)
theorem dL_law_171 : decode cL_law 171 = .ok (.lcmp, 1) := dk_148 (dk_at dksL_law_7 6 rfl rfl)
theorem dL_law_172 : decode cL_law 172 = .ok (.ifCond .ne 7, 3) := dk_154 0 7 (dk_at dksL_law_7 7 rfl rfl)
theorem dL_law_175 : decode cL_law 175 = .ok (.iconst 1, 1) := dk_4 (dk_at dksL_law_7 10 rfl rfl)
theorem dL_law_176 : decode cL_law 176 = .ok (.goto 4, 3) := dk_167 0 4 (dk_at dksL_law_7 11 rfl rfl)
theorem dL_law_179 : decode cL_law 179 = .ok (.iconst 0, 1) := dk_3 (dk_at dksL_law_7 14 rfl rfl)
theorem dL_law_180 : decode cL_law 180 = .ok (.ireturn, 1) := dk_172 (dk_at dksL_law_7 15 rfl rfl)
end
section
set_option maxRecDepth 100000
/-! rows of BITS.to-paste -/
theorem nx_xor (a b : Nat) : nI a ^^^ nI b = nI (a ^^^ b) := by
  apply Int32.toBitVec_inj.1
  show BitVec.ofNat 32 a ^^^ BitVec.ofNat 32 b = BitVec.ofNat 32 (a ^^^ b)
  apply BitVec.eq_of_getLsbD_eq
  intro i hi
  simp [hi]
theorem wb_tb (n : Nat) : (lN n).toBitVec = BitVec.ofNat 64 n := rfl
theorem wb_inj {a b : Int64} (h : a.toBitVec = b.toBitVec) : a = b := Int64.toBitVec_inj.mp h
theorem wb_tn {n : Nat} (h : n < 2 ^ 64) : (lN n).toBitVec.toNat = n := by rw [wb_tb, BitVec.toNat_ofNat, Nat.mod_eq_of_lt h]
theorem wb_of32 (x : Int32) : ∃ n, n < 2 ^ 32 ∧ x = nI n := ⟨x.toBitVec.toNat, x.toBitVec.isLt, Int32.toBitVec_inj.mp (by show _ = BitVec.ofNat 32 _; simp)⟩
theorem wb_c : ∀ k, k < 64 → ((nI k).toInt64 &&& 63) = lN k := by decide +kernel
theorem wb_sm : ∀ k, k < 64 → (BitVec.ofNat 64 k).smod 64 = BitVec.ofNat 64 k := by decide +kernel
theorem wb_lt2 {a b : Nat} (h : a < b) : 2 ^ a < 2 ^ b := Nat.pow_lt_pow_right (by decide) h
theorem wb_shl (n : Nat) {k : Nat} (hk : k < 64) : lN n <<< ((nI k).toInt64 &&& 63) = lN (n * 2 ^ k) := by
  rw [wb_c k hk]
  apply wb_inj
  rw [Int64.toBitVec_shiftLeft, wb_tb, wb_tb, wb_tb, wb_sm k hk]
  apply BitVec.eq_of_toNat_eq
  rw [BitVec.shiftLeft_eq', BitVec.toNat_shiftLeft, BitVec.toNat_ofNat, BitVec.toNat_ofNat, BitVec.toNat_ofNat, Nat.mod_eq_of_lt (show k < 2 ^ 64 by omega), Nat.shiftLeft_eq, Nat.mul_mod, Nat.mod_mod, ← Nat.mul_mod]
theorem wb_and {a b : Nat} (ha : a < 2 ^ 64) (hb : b < 2 ^ 64) : lN a &&& lN b = lN (a &&& b) := by
  apply wb_inj
  rw [Int64.toBitVec_and, wb_tb, wb_tb, wb_tb]
  apply BitVec.eq_of_toNat_eq
  rw [BitVec.toNat_and, BitVec.toNat_ofNat, BitVec.toNat_ofNat, BitVec.toNat_ofNat, Nat.mod_eq_of_lt ha, Nat.mod_eq_of_lt hb, Nat.mod_eq_of_lt (Nat.and_lt_two_pow _ hb)]
theorem wb_or {a b : Nat} (ha : a < 2 ^ 64) (hb : b < 2 ^ 64) : lN a ||| lN b = lN (a ||| b) := by
  apply wb_inj
  rw [Int64.toBitVec_or, wb_tb, wb_tb, wb_tb]
  apply BitVec.eq_of_toNat_eq
  rw [BitVec.toNat_or, BitVec.toNat_ofNat, BitVec.toNat_ofNat, BitVec.toNat_ofNat, Nat.mod_eq_of_lt ha, Nat.mod_eq_of_lt hb, Nat.mod_eq_of_lt (Nat.or_lt_two_pow ha hb)]
theorem wb_mask {n k : Nat} (hn : n < 2 ^ 64) (hk : k < 64) : lN n &&& lN (2 ^ k - 1) = lN (n % 2 ^ k) := by
  rw [wb_and hn (by have := wb_lt2 hk; omega), Nat.and_two_pow_sub_one_eq_mod]
theorem wb_a1 {n : Nat} (hn : n < 2 ^ 64) : lN n &&& 1 = lN (n % 2) := wb_mask (k := 1) hn (by decide)
theorem u_tn {n : Nat} (h : n < 2 ^ 64) : (UInt64.ofNat n).toNat = n := Nat.mod_eq_of_lt h
theorem g_or {k p a b : Nat} (hp : 2 ^ k = p) (ha : a < p) (h : b * p + a < 2 ^ 64) : lN (b * p) ||| lN a = lN (b * p + a) := by
  subst hp
  have h1 : b * 2 ^ k ||| a = b * 2 ^ k + a := by rw [← Nat.shiftLeft_eq, Nat.shiftLeft_add_eq_or_of_lt ha]
  have h3 : UInt64.ofNat (b * 2 ^ k) ||| UInt64.ofNat a = UInt64.ofNat (b * 2 ^ k + a) := UInt64.toNat_inj.mp (by rw [UInt64.toNat_or, u_tn (by omega), u_tn (by omega), u_tn h, h1])
  have h2 := congrArg UInt64.toInt64 h3
  exact h2
theorem g_or' {k p a b : Nat} (hp : 2 ^ k = p) (ha : a < p) (h : a + b * p < 2 ^ 64) : lN a ||| lN (b * p) = lN (a + b * p) := by
  rw [Int64.or_comm, g_or hp ha (by omega), Nat.add_comm]
theorem pf_lI {a : Nat} (h : a < 2 ^ 63) : (lN a).toInt = (a : Int) := lg_ofNat_toInt h
theorem pf_shr {a d : Nat} {D : Int64} (hD : (D.toBitVec.smod 64).toNat = d) (h : a < 2 ^ 62) : lN a >>> D = lN (a / 2 ^ d) := by
  have hd : a / 2 ^ d ≤ a := Nat.div_le_self _ _
  apply Int64.toInt_inj.mp
  have e : (lN a >>> D).toInt = (lN a).toInt >>> d := by
    rw [← hD]
    exact BitVec.toInt_sshiftRight ..
  rw [e, Int.shiftRight_eq_div_pow, pf_lI (by omega), pf_lI (by omega)]
  rfl
theorem lN_bv (n : Nat) : (lN n).toBitVec = BitVec.ofNat 64 n := rfl
theorem lN_xor (a b : Nat) : lN a ^^^ lN b = lN (a ^^^ b) := by
  apply Int64.toBitVec_inj.mp; rw [Int64.toBitVec_xor, lN_bv, lN_bv, lN_bv]; apply BitVec.eq_of_getLsbD_eq; intro i hi; simp [BitVec.getLsbD_ofNat, Nat.testBit_xor, hi]
/-! ===== CRC-32 over Nat ===== -/
/-- one bit of the division -/
def cr_S (c : Nat) : Nat := (c / 2) ^^^ (if c % 2 = 1 then 3988292384 else 0)
def cr_it : Nat → Nat → Nat
  | 0, c => c
  | n + 1, c => cr_it n (cr_S c)
theorem cr_xcancel (a b p : Nat) : (a ^^^ p) ^^^ (b ^^^ p) = a ^^^ b := by
  rw [Nat.xor_assoc, Nat.xor_comm b p, ← Nat.xor_assoc p p b, Nat.xor_self, Nat.zero_xor]
theorem cr_xswap (a b p : Nat) : (a ^^^ b) ^^^ p = (a ^^^ p) ^^^ b := by
  rw [Nat.xor_assoc, Nat.xor_comm b p, ← Nat.xor_assoc]
theorem cr_S_lin (a b : Nat) : cr_S (a ^^^ b) = cr_S a ^^^ cr_S b := by
  unfold cr_S
  have h1 : (a ^^^ b) / 2 = a / 2 ^^^ b / 2 := Nat.xor_div_two
  have h2 : (a ^^^ b) % 2 = (a % 2) ^^^ (b % 2) := Nat.xor_mod_two_pow (n := 1)
  rw [h1, h2]
  rcases Nat.mod_two_eq_zero_or_one a with ha | ha <;> rcases Nat.mod_two_eq_zero_or_one b with hb | hb <;> rw [ha, hb]
  · show (a / 2 ^^^ b / 2) ^^^ 0 = (a / 2 ^^^ 0) ^^^ (b / 2 ^^^ 0)
    simp
  · show (a / 2 ^^^ b / 2) ^^^ 3988292384 = (a / 2 ^^^ 0) ^^^ (b / 2 ^^^ 3988292384)
    rw [Nat.xor_zero, Nat.xor_assoc]
  · show (a / 2 ^^^ b / 2) ^^^ 3988292384 = (a / 2 ^^^ 3988292384) ^^^ (b / 2 ^^^ 0)
    rw [Nat.xor_zero]
    exact cr_xswap _ _ _
  · show (a / 2 ^^^ b / 2) ^^^ 0 = (a / 2 ^^^ 3988292384) ^^^ (b / 2 ^^^ 3988292384)
    rw [Nat.xor_zero]
    exact (cr_xcancel _ _ _).symm
theorem cr_it_lin : ∀ (n a b : Nat), cr_it n (a ^^^ b) = cr_it n a ^^^ cr_it n b
  | 0, _, _ => rfl
  | n + 1, a, b => by
    show cr_it n (cr_S (a ^^^ b)) = cr_it n (cr_S a) ^^^ cr_it n (cr_S b)
    rw [cr_S_lin, cr_it_lin n]
theorem cr_it_zero (n : Nat) : cr_it n 0 = 0 := by
  have h := cr_it_lin n 0 0
  rw [Nat.xor_self, Nat.xor_self] at h
  exact h
theorem cr_it_add : ∀ (n m c : Nat), cr_it (n + m) c = cr_it n (cr_it m c)
  | n, 0, _ => rfl
  | n, m + 1, c => by
    show cr_it (n + m) (cr_S c) = cr_it n (cr_it m (cr_S c))
    exact cr_it_add n m (cr_S c)
theorem cr_S_lt {c : Nat} (h : c < 2 ^ 32) : cr_S c < 2 ^ 32 := by
  unfold cr_S
  refine Nat.xor_lt_two_pow (by omega) ?_
  split <;> omega
theorem cr_it_lt : ∀ (n : Nat) {c : Nat}, c < 2 ^ 32 → cr_it n c < 2 ^ 32
  | 0, _, h => h
  | n + 1, _, h => cr_it_lt n (cr_S_lt h)
theorem cr_S_dbl (q : Nat) : cr_S (2 * q) = q := by
  unfold cr_S
  rw [if_neg (by omega), Nat.xor_zero]
  omega
theorem cr_it8_shift (q : Nat) : cr_it 8 (256 * q) = q := by
  have e : 256 * q = 2 * (2 * (2 * (2 * (2 * (2 * (2 * (2 * q))))))) := by omega
  rw [e]
  show cr_S (cr_S (cr_S (cr_S (cr_S (cr_S (cr_S (cr_S _))))))) = q
  simp only [cr_S_dbl]
/-- a number is its high part and its low part -/
theorem cr_split (m k : Nat) : m = (m % 2 ^ k) ^^^ (2 ^ k * (m / 2 ^ k)) := by
  apply Nat.eq_of_testBit_eq
  intro i
  rw [Nat.testBit_xor, Nat.testBit_mod_two_pow, Nat.testBit_two_pow_mul, Nat.testBit_div_two_pow]
  by_cases h : i < k
  · have h2 : ¬ k ≤ i := by omega
    simp [h, h2]
  · have h2 : k ≤ i := by omega
    have h3 : i - k + k = i := by omega
    have h4 : k + (i - k) = i := by omega
    simp [h, h2, h3, h4]
theorem cr_step (n b : Nat) (hb : b < 256) : cr_it 8 (n ^^^ b) = cr_it 8 ((n ^^^ b) % 256) ^^^ (n / 256) := by
  have e := cr_split (n ^^^ b) 8
  have e2 : (n ^^^ b) / 2 ^ 8 = n / 256 := by
    apply Nat.eq_of_testBit_eq
    intro i
    rw [show (256 : Nat) = 2 ^ 8 from rfl, Nat.testBit_div_two_pow, Nat.testBit_div_two_pow, Nat.testBit_xor]
    have h0 : b < 2 ^ (i + 8) := Nat.lt_of_lt_of_le hb (by rw [show (256 : Nat) = 2 ^ 8 from rfl]; exact Nat.pow_le_pow_right (by decide) (by omega))
    have h1 : b.testBit (i + 8) = false := Nat.testBit_lt_two_pow h0
    have h2 : b.testBit (8 + i) = false := by rw [Nat.add_comm]; exact h1
    simp [h1, h2]
  rw [e2] at e
  have e3 : cr_it 8 (n ^^^ b) = cr_it 8 ((n ^^^ b) % 2 ^ 8 ^^^ 2 ^ 8 * (n / 256)) := congrArg (cr_it 8) e
  rw [e3, cr_it_lin]
  congr 1
  exact cr_it8_shift _
/-- the register behind n bytes from f on -/
def cr_F (b : Nat → Nat) (f : Nat) : Nat → Nat
  | 0 => 4294967295
  | n + 1 => cr_it 8 (cr_F b f n ^^^ b (f + n))
def cr_V (b : Nat → Nat) (f n : Nat) : Nat := cr_F b f n ^^^ 4294967295
theorem cr_F_lt {b : Nat → Nat} (hb : ∀ j, b j < 256) (f : Nat) : ∀ n, cr_F b f n < 2 ^ 32
  | 0 => by show 4294967295 < 2 ^ 32; decide
  | n + 1 => cr_it_lt 8 (Nat.xor_lt_two_pow (cr_F_lt hb f n) (Nat.lt_trans (hb _) (by decide)))
theorem cr_V_lt {b : Nat → Nat} (hb : ∀ j, b j < 256) (f n : Nat) : cr_V b f n < 2 ^ 32 := Nat.xor_lt_two_pow (cr_F_lt hb f n) (by decide)
theorem cr_V_0 (b : Nat → Nat) (f : Nat) : cr_V b f 0 = 0 := Nat.xor_self _
theorem cr_F_cat (b : Nat → Nat) (f k : Nat) : ∀ m, cr_F b f (k + m) = cr_it (8 * m) (cr_V b f k) ^^^ cr_F b (f + k) m
  | 0 => by
    show cr_F b f k = (cr_F b f k ^^^ 4294967295) ^^^ 4294967295
    rw [Nat.xor_assoc, Nat.xor_self, Nat.xor_zero]
  | m + 1 => by
    show cr_it 8 (cr_F b f (k + m) ^^^ b (f + (k + m))) = cr_it (8 * (m + 1)) (cr_V b f k) ^^^ cr_it 8 (cr_F b (f + k) m ^^^ b (f + k + m))
    rw [cr_F_cat b f k m, Nat.xor_assoc, cr_it_lin, Nat.add_assoc f k m, show 8 * (m + 1) = 8 + 8 * m by omega, cr_it_add]
/-- THE LAW of joining: CRC-32 -/
theorem cr_cat (b : Nat → Nat) (f k m : Nat) : cr_V b f (k + m) = cr_it (8 * m) (cr_V b f k) ^^^ cr_V b (f + k) m := by
  show cr_F b f (k + m) ^^^ 4294967295 = _ ^^^ (cr_F b (f + k) m ^^^ 4294967295)
  rw [cr_F_cat, Nat.xor_assoc]
/-- one bit of a vector, and the rest -/
theorem cr_bits (w i : Nat) : w * 2 ^ i = ((w % 2) * 2 ^ i) ^^^ ((w / 2) * 2 ^ (i + 1)) := by
  apply Nat.eq_of_testBit_eq
  intro j
  rw [Nat.testBit_xor, Nat.mul_comm w, Nat.mul_comm (w % 2), Nat.mul_comm (w / 2), Nat.testBit_two_pow_mul, Nat.testBit_two_pow_mul, Nat.testBit_two_pow_mul]
  have hd : (w / 2).testBit (j - (i + 1)) = w.testBit (j - (i + 1) + 1) := by rw [Nat.testBit_succ]
  have hm : (w % 2).testBit (j - i) = (decide (j - i < 1) && w.testBit (j - i)) := Nat.testBit_mod_two_pow w 1 (j - i)
  rw [hd, hm]
  by_cases h : i + 1 ≤ j
  · have e : j - (i + 1) + 1 = j - i := by omega
    have h2 : i ≤ j := by omega
    have h3 : ¬ (j - i < 1) := by omega
    simp [h, h2, h3, e]
  · by_cases h2 : i ≤ j
    · have h3 : j - i < 1 := by omega
      simp [h, h2, h3]
    · simp [h, h2]
theorem cr_it1_0 : cr_it 1 (2 ^ 0) = 3988292384 := by decide +kernel
theorem cr_it1_s (n : Nat) : cr_it 1 (2 ^ (n + 1)) = 2 ^ n := by
  show cr_S (2 ^ (n + 1)) = 2 ^ n
  rw [Nat.pow_succ, Nat.mul_comm]
  exact cr_S_dbl _
/-! ===== Adler-32 over Nat ===== -/
def ad_A (b : Nat → Nat) (f : Nat) : Nat → Nat
  | 0 => 1
  | n + 1 => ad_A b f n + b (f + n)
def ad_S (b : Nat → Nat) (f : Nat) : Nat → Nat
  | 0 => 0
  | n + 1 => ad_S b f n + ad_A b f (n + 1)
def ad_V (b : Nat → Nat) (f n : Nat) : Nat := ad_A b f n % 65521 + ad_S b f n % 65521 * 65536
theorem ad_A_le {b : Nat → Nat} (hb : ∀ j, b j < 256) (f : Nat) : ∀ n, ad_A b f n ≤ 1 + 255 * n
  | 0 => by show 1 ≤ _; omega
  | n + 1 => by
    have h1 := ad_A_le hb f n
    have h2 := hb (f + n)
    show ad_A b f n + b (f + n) ≤ _
    omega
theorem ad_S_le {b : Nat → Nat} (hb : ∀ j, b j < 256) (f : Nat) {N : Nat} : ∀ n, n ≤ N → ad_S b f n ≤ n * (1 + 255 * N)
  | 0, _ => by show 0 ≤ _; omega
  | n + 1, h => by
    have h1 := ad_S_le hb f (N := N) n (by omega)
    have h2 := ad_A_le hb f (n + 1)
    show ad_S b f n + ad_A b f (n + 1) ≤ _
    rw [Nat.add_mul, Nat.one_mul]
    omega
theorem ad_A_cat (b : Nat → Nat) (f k : Nat) : ∀ m, ad_A b f (k + m) + 1 = ad_A b f k + ad_A b (f + k) m
  | 0 => rfl
  | m + 1 => by
    have h := ad_A_cat b f k m
    show ad_A b f (k + m) + b (f + (k + m)) + 1 = ad_A b f k + (ad_A b (f + k) m + b (f + k + m))
    rw [Nat.add_assoc f k m]
    omega
theorem ad_S_cat (b : Nat → Nat) (f k : Nat) : ∀ m, ad_S b f (k + m) + m = ad_S b f k + ad_S b (f + k) m + m * ad_A b f k
  | 0 => by
    show ad_S b f k + 0 = ad_S b f k + 0 + 0 * ad_A b f k
    rw [Nat.zero_mul]
  | m + 1 => by
    have h := ad_S_cat b f k m
    have h2 := ad_A_cat b f k (m + 1)
    show ad_S b f (k + m) + ad_A b f (k + (m + 1)) + (m + 1) = ad_S b f k + (ad_S b (f + k) m + ad_A b (f + k) (m + 1)) + (m + 1) * ad_A b f k
    rw [Nat.add_mul, Nat.one_mul]
    omega
theorem ad_mod {x q r : Nat} (h : x = 65521 * q + r) (hr : r < 65521) : x % 65521 = r := by
  rw [h, Nat.mul_add_mod]
  exact Nat.mod_eq_of_lt hr
/-- the first sum of the joining: two falls -/
def ad_c1 (a1 a2 : Nat) : Nat := if a1 + (a2 + 65521 - 1) ≥ 65521 then (if a1 + (a2 + 65521 - 1) - 65521 ≥ 65521 then a1 + (a2 + 65521 - 1) - 65521 - 65521 else a1 + (a2 + 65521 - 1) - 65521) else a1 + (a2 + 65521 - 1)
/-- THE LAW of joining: Adler-32, its two halves -/
theorem ad_j1 {A A1 A2 : Nat} (h : A + 1 = A1 + A2) (x : Nat) (hx : x = A1 % 65521 + (A2 % 65521 + 65521 - 1)) : (x < 65521 → A % 65521 = x) ∧ (65521 ≤ x → x < 2 * 65521 → A % 65521 = x - 65521) ∧ (2 * 65521 ≤ x → A % 65521 = x - 65521 - 65521) ∧ x < 3 * 65521 := by
  have h1 := Nat.mod_lt A1 (show 0 < 65521 by decide)
  have h2 := Nat.mod_lt A2 (show 0 < 65521 by decide)
  omega
theorem ad_j2 {S S1 S2 m A1 : Nat} (h : S + m = S1 + S2 + m * A1) (hm : m < 65521) (x : Nat) (hx : x = m * (A1 % 65521) % 65521 + (S1 % 65521 + S2 % 65521 + 65521 - m)) : (x < 65521 → S % 65521 = x) ∧ (65521 ≤ x → x < 2 * 65521 → S % 65521 = x - 65521) ∧ (2 * 65521 ≤ x → x < 3 * 65521 → S % 65521 = x - 2 * 65521) ∧ (3 * 65521 ≤ x → S % 65521 = x - 2 * 65521 - 65521) ∧ x < 4 * 65521 := by
  have h1 := Nat.mod_lt S1 (show 0 < 65521 by decide)
  have h2 := Nat.mod_lt S2 (show 0 < 65521 by decide)
  have h3 := Nat.mod_lt (m * (A1 % 65521)) (show 0 < 65521 by decide)
  have h4 : m * (A1 % 65521) % 65521 = m * A1 % 65521 := Nat.mul_mod_mod m A1 65521
  rw [h4] at hx h3
  generalize m * A1 = q at *
  omega
/-! ===== the text's bytes ===== -/
def tx_ (f : Nat → Int32) (j : Nat) : Nat := (f j).toBitVec.toNat % 256
theorem tx_lt (f : Nat → Int32) : ∀ j, tx_ f j < 256 := fun _ => Nat.mod_lt _ (by decide)
/-- where a stretch begins, how long it is -/
def fr_ (z : Nat) (a : Int32) : Nat := a.toBitVec.toNat % 2147483648 % (z + 1)
def cn_ (z i : Nat) (a : Int32) : Nat := a.toBitVec.toNat % 2147483648 % (z - i + 1)
theorem fr_le (z : Nat) (a : Int32) : fr_ z a ≤ z := Nat.le_of_lt_succ (Nat.mod_lt _ (Nat.succ_pos z))
theorem cn_le (z i : Nat) (a : Int32) : cn_ z i a ≤ z - i := Nat.le_of_lt_succ (Nat.mod_lt _ (Nat.succ_pos _))
/-! ===== words of the machine ===== -/
theorem nI_of_self (x : Int32) : x = nI x.toBitVec.toNat := Int32.toBitVec_inj.mp (by show _ = BitVec.ofNat 32 _; simp)
theorem nI_m1 : (-1 : Int32) = nI 4294967295 := by decide +kernel
theorem mw_pos (x : Int32) : x &&& 2147483647 = nI (x.toBitVec.toNat % 2147483648) := pk_and x 31 (by decide +kernel)
theorem mw_255 (x : Int32) : x &&& 255 = nI (x.toBitVec.toNat % 256) := pk_and x 8 (by decide +kernel)
theorem mw_xor255 (n : Nat) (x : Int32) : (nI n ^^^ x) &&& 255 = nI ((n ^^^ (x.toBitVec.toNat % 256)) % 256) := by
  rw [mw_255]
  congr 1
  rw [Int32.toBitVec_xor, BitVec.toNat_xor]
  show ((BitVec.ofNat 32 n).toNat ^^^ x.toBitVec.toNat) % 256 = _
  rw [BitVec.toNat_ofNat]
  apply Nat.eq_of_testBit_eq
  intro i
  rw [show (256 : Nat) = 2 ^ 8 from rfl]
  simp only [Nat.testBit_mod_two_pow, Nat.testBit_xor]
  by_cases h : i < 8
  · have h2 : i < 32 := by omega
    simp [h, h2]
  · simp [h]
theorem mw_ushr8 {n : Nat} (hn : n < 2 ^ 32) : ((nI n).toUInt32 >>> ((8 : Int32).toUInt32 &&& Int32.toUInt32 31)).toInt32 = nI (n / 256) := pk_ushrN hn 8 8 (by decide +kernel)
theorem mw_u32 {n : Nat} (hn : n < 2 ^ 32) : (nI n).toInt64 &&& 4294967295 = lN n := by
  apply wb_inj
  rw [Int64.toBitVec_and, wb_tb]
  apply BitVec.eq_of_getLsbD_eq
  intro i hi
  have h0 : (nI n).toInt64.toBitVec = (BitVec.ofNat 32 n).signExtend 64 := rfl
  have hm : (4294967295 : Int64).toBitVec = BitVec.ofNat 64 (2 ^ 32 - 1) := by decide +kernel
  rw [h0, hm, BitVec.getLsbD_and, BitVec.getLsbD_ofNat, BitVec.getLsbD_ofNat, Nat.testBit_two_pow_sub_one]
  by_cases h : i < 32
  · simp [BitVec.getLsbD_signExtend, BitVec.getElem_signExtend, h, hi]
    rw [← BitVec.getLsbD_eq_getElem h, BitVec.getLsbD_ofNat]
    simp [h]
  · have h1 : n.testBit i = false := Nat.testBit_lt_two_pow (Nat.lt_of_lt_of_le hn (Nat.pow_le_pow_right (by decide) (by omega)))
    simp [h, h1]
end
section
set_option maxRecDepth 100000
/-! ===== the worlds: classes, crc_table, one start and one end for every contract ===== -/
abbrev vwCl : List vw_C := [(RX1, TX1, 2), (RX2, TX2, 1), (RX3, TX3, 2)]
/-- the classes, known at the claim's start -/
theorem classes_all {s0 : State} {av : Array Value} (ht0 : ∀ w ∈ lw_tbl, w.before av s0 = true) : ∃ (dC : Nat → ClassId) (dI : Nat → Nat → Nat), ∀ (k : Nat) (q : vw_C), vwCl[k]? = some q → u_Kn s0 q.1 q.2.1 q.2.2 (dC k) (dI k) := by
  obtain ⟨c0_, iS0, hKn0⟩ := u_known (C := RX1) (T := TX1) (N := 2) (n := 2) ht0 (fun w h => lw_all_tbl (in_X1 w h)) (ht0 _ (lw_all_tbl q8))
  obtain ⟨c1_, iS1, hKn1⟩ := u_known (C := RX2) (T := TX2) (N := 1) (n := 1) ht0 (fun w h => lw_all_tbl (in_X2 w h)) (ht0 _ (lw_all_tbl q56))
  obtain ⟨c2_, iS2, hKn2⟩ := u_known (C := RX3) (T := TX3) (N := 2) (n := 2) ht0 (fun w h => lw_all_tbl (in_X3 w h)) (ht0 _ (lw_all_tbl q77))
  refine ⟨fun k => if k = 0 then c0_ else if k = 1 then c1_ else c2_, fun k => if k = 0 then iS0 else if k = 1 then iS1 else iS2, ?_⟩
  intro k q hq
  match k, hq with
  | 0, hq => cases hq; exact hKn0
  | 1, hq => cases hq; exact hKn1
  | 2, hq => cases hq; exact hKn2
  | k + 3, hq => simp [vwCl] at hq
/-- crc_table -/
def ct_ : Nat → Value := fun j => .int (nI (cr_it 8 j))
abbrev zs_ (tt : Nat) (A : Nat → Prop) (U : State) (H : Heap) : Prop := va_Z "CRC32" "crc_table" "[I" (.ref tt) A U H ∧ va_T .int tt 256 ct_ A U H
/-- a contract's start -/
abbrev st_ (dC : Nat → ClassId) (dI : Nat → Nat → Nat) (tt : Nat) (ws : va_W) (tys : List (ClassId × FieldType)) (sz : Nat) (U : State) : Prop := U.heap.size = sz ∧ va_P (dC, dI) vwCl ws U.heap ∧ va_K (dC, dI) vwCl tys U ∧ va_D (fun _ => True) ws ∧ zs_ tt (va_A ws sz) U U.heap
/-- a contract's end -/
abbrev en_ (dC : Nat → ClassId) (dI : Nat → Nat → Nat) (ws : va_W) (tys : List (ClassId × FieldType)) (A : Nat → Prop) (t : State) : Prop := va_P (dC, dI) vwCl ws t.heap ∧ va_K (dC, dI) vwCl tys t ∧ va_D A ws
/-- what holds inside a method -/
abbrev Wd_ (dC : Nat → ClassId) (dI : Nat → Nat → Nat) (tt : Nat) (ws : va_W) (tys : List (ClassId × FieldType)) (A : Nat → Prop) (s : State) (H : Heap) (locs : List Loc) : Prop := va_P (dC, dI) vwCl ws H ∧ va_D A ws ∧ va_K (dC, dI) vwCl tys s ∧ va_S A s.heap H locs ∧ (∀ q : Nat, s.heap.size ≤ q → A q) ∧ zs_ tt A s s.heap
abbrev Qv_ {S : Type} (post : S → Prop) (w1 : S → va_W) (t1 : S → List (ClassId × FieldType)) (dC : Nat → ClassId) (dI : Nat → Nat → Nat) (A : Nat → Prop) : Array Value → State → Outcome → State → Prop := va_Qv post (fun u t => en_ dC dI (w1 u) (t1 u) A t) A
abbrev Ql_ (v : Int64) (w1 : va_W) (t1 : List (ClassId × FieldType)) (dC : Nat → ClassId) (dI : Nat → Nat → Nat) (A : Nat → Prop) : Array Value → State → Outcome → State → Prop := va_Ql (fun (r : Int64) (_ : Unit) => r = v) (fun _ t => en_ dC dI w1 t1 A t) A
abbrev Qi_ (v : Int32) (w1 : va_W) (t1 : List (ClassId × FieldType)) (dC : Nat → ClassId) (dI : Nat → Nat → Nat) (A : Nat → Prop) : Array Value → State → Outcome → State → Prop := va_Qi (fun (r : Int32) (_ : Unit) => r = v) (fun _ t => en_ dC dI w1 t1 A t) A
theorem st_blind {dC : Nat → ClassId} {dI : Nat → Nat → Nat} {tt : Nat} {ws : va_W} {tys : List (ClassId × FieldType)} {sz : Nat} (av : List Value) : FrameBlind (va_Pc av (st_ dC dI tt ws tys sz)) := by
  intro a U g mk q
  obtain ⟨q0, q1, qP, qK, qD, qZ, qT⟩ := q
  exact ⟨q0, q1, qP, va_K.moved (u := U) (U := U.calling g mk a) (Vm.Alike.refl U.vm) qK, qD, va_Z.moved (u := U) (U := U.calling g mk a) (Vm.Alike.refl U.vm) qZ, va_T.moved (u := U) (U := U.calling g mk a) (Vm.Alike.refl U.vm) qT⟩
theorem pick_P {D : va_G} {cl : List vw_C} {ws wc : va_W} {H : Heap} (h : va_P D cl ws H) (is : List Nat) (hs : is.map (fun i => ws[i]?) = wc.map some) : va_P D cl wc H := by
  intro k q hq
  have h1 : (is.map (fun i => ws[i]?))[k]? = some (some q) := by rw [hs, List.getElem?_map, hq]; rfl
  rw [List.getElem?_map] at h1
  cases hi : is[k]? with
  | none => rw [hi] at h1; cases h1
  | some i => rw [hi] at h1; exact h i q (Option.some.inj h1)
theorem st_give {dC : Nat → ClassId} {dI : Nat → Nat → Nat} {tt : Nat} {ws wc : va_W} {tys tc : List (ClassId × FieldType)} {A : Nat → Prop} {s : State} {H : Heap} {locs : List Loc} (hw : Wd_ dC dI tt ws tys A s H locs) (isC : List Nat) (hC : isC.map (fun i => ws[i]?) = wc.map some) (hn : va_nd isC = true) (isT : List Nat) (hT : isT.filterMap (fun i => tys[i]?) = tc) : (∀ q, va_A wc H.size q → A q) ∧ ∀ U : State, U.heap = H → s.WarmedH U.vm → st_ dC dI tt wc tc H.size U := by
  obtain ⟨hP, hD, hK, hS, hA, hZ, hTt⟩ := hw
  have hF := va_free hD hS hA isC hC
  have hPc := pick_P hP isC hC
  have hDc := hD.sub isC hn hC
  have hKc := hK.sub isT hT
  have hZ1 := (hZ.kept hS.2.1).narrow hF
  have hT1 := (hTt.kept hS.2.1).narrow hF
  refine ⟨hF, fun U hU hW => ⟨by rw [hU], by rw [hU]; exact hPc, va_K.moved hW.alike hKc, hDc.weaken (fun _ _ _ _ => trivial), ?_, ?_⟩⟩
  · rw [hU]; exact va_Z.moved hW.alike hZ1
  · rw [hU]; exact va_T.moved hW.alike hT1
theorem en_back {dC : Nat → ClassId} {dI : Nat → Nat → Nat} {tt : Nat} {ws wc wr w1 wn : va_W} {tys t1 tn : List (ClassId × FieldType)} {A : Nat → Prop} {s t : State} {H H1 : Heap} {locs locs1 : List Loc} (hw : Wd_ dC dI tt ws tys A s H locs) (isC isR isF isG : List Nat) (hC : isC.map (fun i => ws[i]?) = wc.map some) (hR : isR.map (fun i => ws[i]?) = wr.map some) (hnR : va_nd isR = true) (hdis : ∀ i ∈ isR, i ∉ isC) (hFn : isF.map (fun i => (wr ++ w1)[i]?) = wn.map some) (hnF : va_nd isF = true) (hG : isG.filterMap (fun i => (tys ++ t1)[i]?) = tn)
    (hB : en_ dC dI w1 t1 (va_A wc H.size) t) (ht : t.heap = H1) (hvm : s.vm.Alike t.vm) (hk : ∀ q : Nat, q < H.size → ¬ va_A wc H.size q → H1[q]? = H[q]?) (hF : ∀ q, va_A wc H.size q → A q) (hS1 : va_S A s.heap H1 locs1) : Wd_ dC dI tt wn tn A s H1 locs1 := by
  obtain ⟨hP, hD, hK, hS, hA, hZ⟩ := hw
  obtain ⟨hP1, hK1, hD1⟩ := hB
  rw [ht] at hP1
  have hK1 := va_K.moved hvm.symm hK1
  obtain ⟨hP2, hD2⟩ := va_join hP hD isC isR hC hR hnR hdis hk hF hP1 hD1
  exact ⟨pick_P hP2 isF hFn, hD2.sub isF hnF hFn, (hK.app hK1).sub isG hG, hS1, hA, hZ⟩
theorem en_ret {dC : Nat → ClassId} {dI : Nat → Nat → Nat} {tt : Nat} {ws wc : va_W} {tys tc : List (ClassId × FieldType)} {A : Nat → Prop} {s : State} {H : Heap} {locs : List Loc} (hw : Wd_ dC dI tt ws tys A s H locs) (isC : List Nat) (hC : isC.map (fun i => ws[i]?) = wc.map some) (hn : va_nd isC = true) (isT : List Nat) (hT : isT.filterMap (fun i => tys[i]?) = tc) {t : State} (ht : t.heap = H) (hW : s.WarmedH t.vm) : en_ dC dI wc tc A t :=
  ⟨by rw [ht]; exact pick_P hw.1 isC hC, va_K.moved hW.alike (hw.2.2.1.sub isT hT), hw.2.1.sub isC hn hC⟩
/-- a contract, from the method's entry -/
theorem met_pro {l : Launch} {y : MethodName} {cc : ByteArray} {maxL : Nat} {ret : Option FieldType} {av : List Value} {dC : Nat → ClassId} {dI : Nat → Nat → Nat} {tt : Nat} {ws : va_W} {tys : List (ClassId × FieldType)} {sz : Nat} {rm : Room} (QA : (Nat → Prop) → Array Value → State → Outcome → State → Prop) {mc ms : Nat} (hy : plainName y.cls = true) (hav : (lg_sl av).length ≤ maxL)
    (body : ∀ (p : Program) (e : Env) (s : State) (m : MethodId) (below : List Frame) (meth : Method) (c : Code) (A : Nat → Prop) (ls : Array Slot), p.tables.exec = Jvm.exec → c.code = cc → meth.sig.returnType = ret → c.maxLocals = maxL → (∀ w ∈ lw_all, w.before av.toArray s = true) → s.vm.findClass y.cls = some m.cls → meth.locks = false → meth.name = y.name → Wd_ dC dI tt ws tys A s s.heap [] → lv_has ls maxL (lv_args 0 av) → W p l e rm s m av.toArray below meth c s.heap [] 0 0 (MQ below (QA A) av.toArray s mc ms A) (F0 m 0 ls [])) :
    Met l y (ws_ y cc maxL ret) rm (va_Pc av (st_ dC dI tt ws tys sz)) (QA (va_A ws sz)) mc ms (va_A ws sz) := by
  refine Met.ofW (cc := cc) (maxL := maxL) (ret := ret) hy rfl ?_
  intro p e s m args below meth c s₁ B hml hv
  obtain ⟨rfl, hsz, hP, hK, hD0, hZ, hT⟩ := hv
  have hts := atoms_spec (ws := ws_ y cc maxL ret) B.pre
  have hts : ∀ w ∈ lw_all, w.before _ s = true := fun w h => hts w (List.mem_cons_of_mem _ h)
  have hown : s.vm.findClass y.cls = some m.cls := findClass_of_methodNamed B.named
  subst hsz
  have hD := hD0.self (sz := s.heap.size)
  have hl := lv_entry av (n := maxL) hav
  rw [lg_entry_eq]
  exact body p e s m below meth c _ _ B.exec B.bytes B.returns hml hts hown B.notSynchronized (name_of_methodNamed B.named B.method).1 ⟨hP, hD, hK, va_S.rf, fun q h => Or.inr h, hZ, hT⟩ hl
section GO
variable {p : Program} {l : Launch} {e : Env} {R : Room} {s : State} {m : MethodId} {args : Array Value} {below : List Frame} {meth : Method} {c : Code} {H : Heap} {locs : List Loc} {cells slots : Nat} {Q : State → Prop}
variable {cc : ByteArray} {pc : Nat} {ls : Array Slot} {rest st0 : List Value}
variable {y : MethodName} {bytes : ByteArray} {maxL nL mc ms n index k1 n1 : Nat} {ret : Option FieldType} {rm : Room} {own C : String} {b : Nat} {As : List Value}
variable {dC : Nat → ClassId} {dI : Nat → Nat → Nat} {tt : Nat} {ws wc wr w1 wn : va_W} {tys tc t1 tn : List (ClassId × FieldType)} {A : Nat → Prop} {ci q0 N : Nat} {T : u_T} {fs : List Value}
/-- the top of the stack by another name -/
theorem wv_i {x y : Int32} (h : x = y) (k : W p l e R s m args below meth c H locs cells slots Q (F0 m pc ls (.int y :: rest))) : W p l e R s m args below meth c H locs cells slots Q (F0 m pc ls (.int x :: rest)) := by subst h; exact k
theorem wv_l {x y : Int64} (h : x = y) (k : W p l e R s m args below meth c H locs cells slots Q (F0 m pc ls (.long y :: rest))) : W p l e R s m args below meth c H locs cells slots Q (F0 m pc ls (.long x :: rest)) := by subst h; exact k
/-- a loop: by what is left -/
theorem w_ind (I : Nat → Heap → List Loc → Array Slot → Prop) (hs : ∀ n, (∀ k, k < n → ∀ H locs ls, I k H locs ls → W p l e R s m args below meth c H locs cells slots Q (F0 m pc ls rest)) → ∀ H locs ls, I n H locs ls → W p l e R s m args below meth c H locs cells slots Q (F0 m pc ls rest)) (n : Nat) (h : I n H locs ls) : W p l e R s m args below meth c H locs cells slots Q (F0 m pc ls rest) := by
  have key : ∀ n, ∀ H locs ls, I n H locs ls → W p l e R s m args below meth c H locs cells slots Q (F0 m pc ls rest) := by
    intro n
    induction n using Nat.strongRecOn with
    | ind n ih => exact hs n ih
  exact key n H locs ls h
/-- what follows is proved once -/
theorem w_cut {g : JFrame} (pc2 : Nat) (I : Heap → List Loc → Array Slot → Prop) (tail : ∀ H locs ls, I H locs ls → W p l e R s m args below meth c H locs cells slots Q (F0 m pc2 ls [])) (main : (∀ H locs ls, I H locs ls → W p l e R s m args below meth c H locs cells slots Q (F0 m pc2 ls [])) → W p l e R s m args below meth c H locs cells slots Q g) : W p l e R s m args below meth c H locs cells slots Q g := main tail
abbrev Pk_ (isC isR isF isG isT : List Nat) (ws wc wr w1 wn : va_W) (tys tc t1 tn : List (ClassId × FieldType)) : Prop := isC.map (fun i => ws[i]?) = wc.map some ∧ va_nd isC = true ∧ isT.filterMap (fun i => tys[i]?) = tc ∧ isR.map (fun i => ws[i]?) = wr.map some ∧ va_nd isR = true ∧ (∀ i ∈ isR, i ∉ isC) ∧ isF.map (fun i => (wr ++ w1)[i]?) = wn.map some ∧ va_nd isF = true ∧ isG.filterMap (fun i => (tys ++ t1)[i]?) = tn
theorem go_Vl {v : Int64} (hfix : CallFix p m c cc nL s args lw_all own) (hM : Met l y (ws_ y bytes maxL ret) rm (va_Pc (Value.ref b :: As) (st_ dC dI tt wc tc H.size)) (Ql_ v w1 t1 dC dI (va_A wc H.size)) mc ms (va_A wc H.size)) (cw : CallW R s args own C index y bytes maxL ret (ws_ y bytes maxL ret) rm mc ms n) (hw : Wd_ dC dI tt ws tys A s H locs) (isC isR isF isG isT : List Nat) (hp : Pk_ isC isR isF isG isT ws wc wr w1 wn tys tc t1 tn) (hrc : vwCl[ci]? = some (C, T, N)) (hre : wc[q0]? = some (b, .inr (ci, fs)))
    (hl : ls.size = nL) (hn : As.length = n) (hst : st0 = As.reverse ++ .ref b :: rest) (hW : (rest.map fun v => v.category).sum ≤ 8) (hdg : decode cc pc = .ok (.invokevirtual index, 3)) (hf : cells + mc ≤ R.cells ∧ slots + ms ≤ R.slots) (hcs : cells + mc = k1 ∧ slots + ms = n1)
    (kk : ∀ (H1 : Heap) (locs1 : List Loc), Wd_ dC dI tt wn tn A s H1 locs1 → W p l e R s m args below meth c H1 locs1 k1 n1 Q (F0 m (pc + 3) ls (.long v :: rest))) : W p l e R s m args below meth c H locs cells slots Q (F0 m pc ls st0) := by
  obtain ⟨hC, hnC, hT, hR, hnR, hdis, hFn, hnF, hG⟩ := hp
  obtain ⟨hF, hg⟩ := st_give hw isC hC hnC isT hT
  obtain ⟨rfl, rfl⟩ := hcs
  refine va_calll (va_runV (As := As) (rest := rest) hfix hM cw ⟨st_blind _, va_recv hw.2.2.1 (pick_P hw.1 isC hC) hrc hre, fun U hU hW => ⟨rfl, hg U hU hW⟩⟩ rfl hn hl hst (lv_room hW) hdg hf) hw.2.2.2.1 (fun q _ h => hF q h) hF (fun r u t H1 locs1 ht hvm hr hB hz hk hS => ?_)
  subst hr
  exact kk H1 locs1 (en_back hw isC isR isF isG hC hR hnR hdis hFn hnF hG hB ht hvm hk hF hS)
theorem go_Vi {v : Int32} (hfix : CallFix p m c cc nL s args lw_all own) (hM : Met l y (ws_ y bytes maxL ret) rm (va_Pc (Value.ref b :: As) (st_ dC dI tt wc tc H.size)) (Qi_ v w1 t1 dC dI (va_A wc H.size)) mc ms (va_A wc H.size)) (cw : CallW R s args own C index y bytes maxL ret (ws_ y bytes maxL ret) rm mc ms n) (hw : Wd_ dC dI tt ws tys A s H locs) (isC isR isF isG isT : List Nat) (hp : Pk_ isC isR isF isG isT ws wc wr w1 wn tys tc t1 tn) (hrc : vwCl[ci]? = some (C, T, N)) (hre : wc[q0]? = some (b, .inr (ci, fs)))
    (hl : ls.size = nL) (hn : As.length = n) (hst : st0 = As.reverse ++ .ref b :: rest) (hW : (rest.map fun v => v.category).sum ≤ 8) (hdg : decode cc pc = .ok (.invokevirtual index, 3)) (hf : cells + mc ≤ R.cells ∧ slots + ms ≤ R.slots) (hcs : cells + mc = k1 ∧ slots + ms = n1)
    (kk : ∀ (H1 : Heap) (locs1 : List Loc), Wd_ dC dI tt wn tn A s H1 locs1 → W p l e R s m args below meth c H1 locs1 k1 n1 Q (F0 m (pc + 3) ls (.int v :: rest))) : W p l e R s m args below meth c H locs cells slots Q (F0 m pc ls st0) := by
  obtain ⟨hC, hnC, hT, hR, hnR, hdis, hFn, hnF, hG⟩ := hp
  obtain ⟨hF, hg⟩ := st_give hw isC hC hnC isT hT
  obtain ⟨rfl, rfl⟩ := hcs
  refine va_calli (va_runV (As := As) (rest := rest) hfix hM cw ⟨st_blind _, va_recv hw.2.2.1 (pick_P hw.1 isC hC) hrc hre, fun U hU hW => ⟨rfl, hg U hU hW⟩⟩ rfl hn hl hst (lv_room hW) hdg hf) hw.2.2.2.1 (fun q _ h => hF q h) hF (fun r u t H1 locs1 ht hvm hr hB hz hk hS => ?_)
  subst hr
  exact kk H1 locs1 (en_back hw isC isR isF isG hC hR hnR hdis hFn hnF hG hB ht hvm hk hF hS)
theorem go_Vv {S : Type} {post : S → Prop} {u1 : S → va_W} {x1 : S → List (ClassId × FieldType)} {un : S → va_W} {xn : S → List (ClassId × FieldType)} (hfix : CallFix p m c cc nL s args lw_all own) (hM : Met l y (ws_ y bytes maxL ret) rm (va_Pc (Value.ref b :: As) (st_ dC dI tt wc tc H.size)) (Qv_ post u1 x1 dC dI (va_A wc H.size)) mc ms (va_A wc H.size)) (cw : CallW R s args own C index y bytes maxL ret (ws_ y bytes maxL ret) rm mc ms n) (hw : Wd_ dC dI tt ws tys A s H locs) (isC isR isF isG isT : List Nat) (hp : ∀ u, Pk_ isC isR isF isG isT ws wc wr (u1 u) (un u) tys tc (x1 u) (xn u)) (hrc : vwCl[ci]? = some (C, T, N)) (hre : wc[q0]? = some (b, .inr (ci, fs)))
    (hl : ls.size = nL) (hn : As.length = n) (hst : st0 = As.reverse ++ .ref b :: rest) (hW : (rest.map fun v => v.category).sum ≤ 8) (hdg : decode cc pc = .ok (.invokevirtual index, 3)) (hf : cells + mc ≤ R.cells ∧ slots + ms ≤ R.slots) (hcs : cells + mc = k1 ∧ slots + ms = n1) (h0 : S)
    (kk : ∀ (u : S) (H1 : Heap) (locs1 : List Loc), post u → Wd_ dC dI tt (un u) (xn u) A s H1 locs1 → W p l e R s m args below meth c H1 locs1 k1 n1 Q (F0 m (pc + 3) ls rest)) : W p l e R s m args below meth c H locs cells slots Q (F0 m pc ls st0) := by
  obtain ⟨hC, hnC, hT, -⟩ := hp h0
  obtain ⟨hF, hg⟩ := st_give hw isC hC hnC isT hT
  obtain ⟨rfl, rfl⟩ := hcs
  refine va_callv (va_runV (As := As) (rest := rest) hfix hM cw ⟨st_blind _, va_recv hw.2.2.1 (pick_P hw.1 isC hC) hrc hre, fun U hU hW => ⟨rfl, hg U hU hW⟩⟩ rfl hn hl hst (lv_room hW) hdg hf) hw.2.2.2.1 (fun q _ h => hF q h) hF (fun u t H1 locs1 ht hvm hr hB hz hk hS => ?_)
  obtain ⟨_, _, _, hR, hnR, hdis, hFn, hnF, hG⟩ := hp u
  exact kk u H1 locs1 hr (en_back hw isC isR isF isG hC hR hnR hdis hFn hnF hG hB ht hvm hk hF hS)
theorem go_I {S : Type} {post : S → Prop} {u1 : S → va_W} {x1 : S → List (ClassId × FieldType)} {un : S → va_W} {xn : S → List (ClassId × FieldType)} (hfix : CallFix p m c cc nL s args lw_all own) (hM : Met l y (ws_ y bytes maxL none) rm (va_Pc (Value.ref b :: As) (st_ dC dI tt wc tc H.size)) (Qv_ post u1 x1 dC dI (va_A wc H.size)) mc ms (va_A wc H.size)) (cw : CallB R s args own index y bytes maxL none (ws_ y bytes maxL none) rm mc ms n ∧ y.name = "<init>" ∧ (Cond.instanceMethod y).before args s = true) (hw : Wd_ dC dI tt ws tys A s H locs) (isC isR isF isG isT : List Nat) (hp : ∀ u, Pk_ isC isR isF isG isT ws wc wr (u1 u) (un u) tys tc (x1 u) (xn u))
    (hl : ls.size = nL) (hn : As.length = n) (hst : st0 = As.reverse ++ .ref b :: rest) (hW : (rest.map fun v => v.category).sum ≤ 8) (hdg : decode cc pc = .ok (.invokespecial index, 3)) (hf : cells + mc ≤ R.cells ∧ slots + ms ≤ R.slots) (hcs : cells + mc = k1 ∧ slots + ms = n1) (h0 : S)
    (kk : ∀ (u : S) (H1 : Heap) (locs1 : List Loc), post u → Wd_ dC dI tt (un u) (xn u) A s H1 locs1 → W p l e R s m args below meth c H1 locs1 k1 n1 Q (F0 m (pc + 3) ls rest)) : W p l e R s m args below meth c H locs cells slots Q (F0 m pc ls st0) := by
  obtain ⟨hC, hnC, hT, -⟩ := hp h0
  obtain ⟨hF, hg⟩ := st_give hw isC hC hnC isT hT
  obtain ⟨rfl, rfl⟩ := hcs
  refine va_callv (va_runI (As := As) (rest := rest) hfix hM cw ⟨st_blind _, fun U hU hW => ⟨rfl, hg U hU hW⟩⟩ rfl hn hl hst (lv_room hW) hdg hf) hw.2.2.2.1 (fun q _ h => hF q h) hF (fun u t H1 locs1 ht hvm hr hB hz hk hS => ?_)
  obtain ⟨_, _, _, hR, hnR, hdis, hFn, hnF, hG⟩ := hp u
  exact kk u H1 locs1 hr (en_back hw isC isR isF isG hC hR hnR hdis hFn hnF hG hB ht hvm hk hF hS)
theorem go_Sl {v : Int64} (hfix : CallFix p m c cc nL s args lw_all own) (hM : Met l y (ws_ y bytes maxL ret) rm (va_Pc As (st_ dC dI tt wc tc H.size)) (Ql_ v w1 t1 dC dI (va_A wc H.size)) mc ms (va_A wc H.size)) (cw : CallB R s args own index y bytes maxL ret (ws_ y bytes maxL ret) rm mc ms n ∧ (Cond.static y).before args s = true) (hw : Wd_ dC dI tt ws tys A s H locs) (isC isR isF isG isT : List Nat) (hp : Pk_ isC isR isF isG isT ws wc wr w1 wn tys tc t1 tn)
    (hl : ls.size = nL) (hn : As.length = n) (hst : st0 = As.reverse ++ rest) (hW : (rest.map fun v => v.category).sum ≤ 8) (hdg : decode cc pc = .ok (.invokestatic index, 3)) (hf : cells + mc ≤ R.cells ∧ slots + ms ≤ R.slots) (hcs : cells + mc = k1 ∧ slots + ms = n1)
    (kk : ∀ (H1 : Heap) (locs1 : List Loc), Wd_ dC dI tt wn tn A s H1 locs1 → W p l e R s m args below meth c H1 locs1 k1 n1 Q (F0 m (pc + 3) ls (.long v :: rest))) : W p l e R s m args below meth c H locs cells slots Q (F0 m pc ls st0) := by
  obtain ⟨hC, hnC, hT, hR, hnR, hdis, hFn, hnF, hG⟩ := hp
  obtain ⟨hF, hg⟩ := st_give hw isC hC hnC isT hT
  obtain ⟨rfl, rfl⟩ := hcs
  refine va_calll (va_runS (As := As) (rest := rest) hfix hM cw ⟨st_blind _, fun U hU hW => ⟨rfl, hg U hU hW⟩⟩ rfl hn hl hst (lv_room hW) hdg hf) hw.2.2.2.1 (fun q _ h => hF q h) hF (fun r u t H1 locs1 ht hvm hr hB hz hk hS => ?_)
  subst hr
  exact kk H1 locs1 (en_back hw isC isR isF isG hC hR hnR hdis hFn hnF hG hB ht hvm hk hF hS)
theorem go_Si {v : Int32} (hfix : CallFix p m c cc nL s args lw_all own) (hM : Met l y (ws_ y bytes maxL ret) rm (va_Pc As (st_ dC dI tt wc tc H.size)) (Qi_ v w1 t1 dC dI (va_A wc H.size)) mc ms (va_A wc H.size)) (cw : CallB R s args own index y bytes maxL ret (ws_ y bytes maxL ret) rm mc ms n ∧ (Cond.static y).before args s = true) (hw : Wd_ dC dI tt ws tys A s H locs) (isC isR isF isG isT : List Nat) (hp : Pk_ isC isR isF isG isT ws wc wr w1 wn tys tc t1 tn)
    (hl : ls.size = nL) (hn : As.length = n) (hst : st0 = As.reverse ++ rest) (hW : (rest.map fun v => v.category).sum ≤ 8) (hdg : decode cc pc = .ok (.invokestatic index, 3)) (hf : cells + mc ≤ R.cells ∧ slots + ms ≤ R.slots) (hcs : cells + mc = k1 ∧ slots + ms = n1)
    (kk : ∀ (H1 : Heap) (locs1 : List Loc), Wd_ dC dI tt wn tn A s H1 locs1 → W p l e R s m args below meth c H1 locs1 k1 n1 Q (F0 m (pc + 3) ls (.int v :: rest))) : W p l e R s m args below meth c H locs cells slots Q (F0 m pc ls st0) := by
  obtain ⟨hC, hnC, hT, hR, hnR, hdis, hFn, hnF, hG⟩ := hp
  obtain ⟨hF, hg⟩ := st_give hw isC hC hnC isT hT
  obtain ⟨rfl, rfl⟩ := hcs
  refine va_calli (va_runS (As := As) (rest := rest) hfix hM cw ⟨st_blind _, fun U hU hW => ⟨rfl, hg U hU hW⟩⟩ rfl hn hl hst (lv_room hW) hdg hf) hw.2.2.2.1 (fun q _ h => hF q h) hF (fun r u t H1 locs1 ht hvm hr hB hz hk hS => ?_)
  subst hr
  exact kk H1 locs1 (en_back hw isC isR isF isG hC hR hnR hdis hFn hnF hG hB ht hvm hk hF hS)
theorem go_Sv {S : Type} {post : S → Prop} {u1 : S → va_W} {x1 : S → List (ClassId × FieldType)} {un : S → va_W} {xn : S → List (ClassId × FieldType)} (hfix : CallFix p m c cc nL s args lw_all own) (hM : Met l y (ws_ y bytes maxL ret) rm (va_Pc As (st_ dC dI tt wc tc H.size)) (Qv_ post u1 x1 dC dI (va_A wc H.size)) mc ms (va_A wc H.size)) (cw : CallB R s args own index y bytes maxL ret (ws_ y bytes maxL ret) rm mc ms n ∧ (Cond.static y).before args s = true) (hw : Wd_ dC dI tt ws tys A s H locs) (isC isR isF isG isT : List Nat) (hp : ∀ u, Pk_ isC isR isF isG isT ws wc wr (u1 u) (un u) tys tc (x1 u) (xn u))
    (hl : ls.size = nL) (hn : As.length = n) (hst : st0 = As.reverse ++ rest) (hW : (rest.map fun v => v.category).sum ≤ 8) (hdg : decode cc pc = .ok (.invokestatic index, 3)) (hf : cells + mc ≤ R.cells ∧ slots + ms ≤ R.slots) (hcs : cells + mc = k1 ∧ slots + ms = n1) (h0 : S)
    (kk : ∀ (u : S) (H1 : Heap) (locs1 : List Loc), post u → Wd_ dC dI tt (un u) (xn u) A s H1 locs1 → W p l e R s m args below meth c H1 locs1 k1 n1 Q (F0 m (pc + 3) ls rest)) : W p l e R s m args below meth c H locs cells slots Q (F0 m pc ls st0) := by
  obtain ⟨hC, hnC, hT, -⟩ := hp h0
  obtain ⟨hF, hg⟩ := st_give hw isC hC hnC isT hT
  obtain ⟨rfl, rfl⟩ := hcs
  refine va_callv (va_runS (As := As) (rest := rest) hfix hM cw ⟨st_blind _, fun U hU hW => ⟨rfl, hg U hU hW⟩⟩ rfl hn hl hst (lv_room hW) hdg hf) hw.2.2.2.1 (fun q _ h => hF q h) hF (fun u t H1 locs1 ht hvm hr hB hz hk hS => ?_)
  obtain ⟨_, _, _, hR, hnR, hdis, hFn, hnF, hG⟩ := hp u
  exact kk u H1 locs1 hr (en_back hw isC isR isF isG hC hR hnR hdis hFn hnF hG hB ht hvm hk hF hS)
end GO
/-! ===== numbers of the walks ===== -/
theorem ii_p1 (n : Nat) : nI n + Int32.ofInt 1 = nI (n + 1) := nI_1 n
theorem ii_p4 (n : Nat) : nI n + Int32.ofInt 4 = nI (n + 4) := nI_add n 4
theorem ii_m1 (n : Nat) : nI (n + 1) + Int32.ofInt (-1) = nI n := pk_m1 n
theorem ii_m0 : nI 0 + Int32.ofInt (-1) = -1 := by decide +kernel
theorem la_1 {v : Nat} (h : v < 2 ^ 64) : lN v &&& lN 1 = lN (v % 2) := wb_a1 h
theorem ls_1 {v : Nat} (h : v < 2 ^ 62) : lN v >>> ((nI 1).toInt64 &&& 63) = lN (v / 2) := pf_shr (d := 1) (by decide +kernel) h
theorem ls_16 {v : Nat} (h : v < 2 ^ 62) : lN v >>> ((nI 16).toInt64 &&& 63) = lN (v / 65536) := pf_shr (d := 16) (by decide +kernel) h
theorem lx_65535 {v : Nat} (h : v < 2 ^ 64) : lN v &&& lN 65535 = lN (v % 65536) := wb_mask (k := 16) h (by decide)
theorem lc_eq {a b : Nat} (ha : a < 2 ^ 63) (hb : b < 2 ^ 63) : lg_cmp (lN a) (lN b) = 0 ↔ a = b := (lg_cmp_eq _ _).trans (pk_lEQ ha hb)
theorem lc_lt {a b : Nat} (ha : a < 2 ^ 63) (hb : b < 2 ^ 63) : lg_cmp (lN a) (lN b) < 0 ↔ a < b := (lg_cmp_lt _ _).trans (pk_lLT ha hb)
theorem lc_gt {a b : Nat} (ha : a < 2 ^ 63) (hb : b < 2 ^ 63) : 0 < lg_cmp (lN a) (lN b) ↔ b < a := (lg_cmp_gt _ _).trans (pk_lLT hb ha)
theorem cr_start (b : Nat → Nat) (f : Nat) : nI 0 ^^^ (-1) = nI (cr_F b f 0) := by
  show nI 0 ^^^ (-1) = nI 4294967295
  decide +kernel
theorem cr_fin (n : Nat) : nI n ^^^ (-1) = nI (n ^^^ 4294967295) := by
  rw [nI_m1]
  exact nx_xor _ _
end
section
set_option maxRecDepth 100000
set_option maxHeartbeats 4000000 in
/-- CRC32() -/
theorem k_crc_init (l : Launch) (dC : Nat → ClassId) (dI : Nat → Nat → Nat) (tt : Nat) (h0 : Nat) (v : Int32) (sz : Nat) : Met l yX2_init (ws_ yX2_init cX2_init 1 none) ({ frames := 1, cells := 0, slots := 0, locals := 12 }) (va_Pc [.ref h0] (st_ dC dI tt [(h0, .inr (1, [.int (v)]))] [] sz)) (Qv_ (fun _ : Unit => True) (fun _ => [(h0, .inr (1, [.int (nI 0)]))]) (fun _ => []) dC dI (va_A [(h0, .inr (1, [.int (v)]))] sz)) 0 0 (va_A [(h0, .inr (1, [.int (v)]))] sz) := by
  refine met_pro (QA := Qv_ (fun _ : Unit => True) (fun _ => [(h0, .inr (1, [.int (nI 0)]))]) (fun _ => []) dC dI) (by decide +kernel) (Nat.le_of_ble_eq_true rfl) ?_
  intro p e s m below meth c A ls hx hb hr hml hts hown hlocks hname hw hl
  have hown : s.vm.findClass RX2 = some m.cls := hown
  have hl : lv_has ls 1 [(0, .ref h0)] := hl
  refine lv_aload_n hx hb dX2_init_0 rfl (lv_at hl 0 rfl) ?_
  refine W.objInit hx hb hown (hts _ q60) (hts _ q13) (hts _ q14) rfl (by rw [hml]; exact hl.1) rfl dX2_init_1 (Nat.le_of_ble_eq_true rfl) (Nat.le_of_ble_eq_true rfl) ?_
  refine W.eq (g2 := F0 m 4 ls []) rfl ?_
  refine lv_aload_n hx hb dX2_init_4 rfl (lv_at hl 0 rfl) ?_
  refine lv_iconst (v := nI 0) hx hb dX2_init_5 (by decide +kernel) ?_
  refine va_put (D := (dC, dI)) (ci := 1) (v := .int (nI 0)) (ty := .int) (C := RX2) (T := TX2) (N := 1) hx hb hts in_X2 tyX2 tyX2_ok nmX2 hown hw.2.2.1 hw.1 hw.2.1 hw.2.2.2.1 0 rfl rfl 0 (by decide) (hts _ q61) (fun _ h9 => h9) rfl (by decide +kernel) rfl rfl (Nat.le_of_ble_eq_true rfl) dX2_init_6 (fun H locs hP hD hS => ?_)
  have hw : Wd_ dC dI tt [(h0, .inr (1, [.int (nI 0)]))] [] A s _ _ := ⟨hP, hD, hw.2.2.1, hS, hw.2.2.2.2⟩
  exact W.vret hx hb hr (fun t ht hW => ⟨⟨(), rfl, trivial, en_ret hw [0] rfl rfl [] rfl ht hW⟩, hw.2.2.2.1.F ht⟩) hw.2.2.2.1.2.2 dX2_init_9
set_option maxHeartbeats 4000000 in
/-- CRC32.getValue() -/
theorem k_crc_value (l : Launch) (dC : Nat → ClassId) (dI : Nat → Nat → Nat) (tt : Nat) (h0 x : Nat) (sz : Nat) (hx0 : x < 2 ^ 32) : Met l yX2_getValue (ws_ yX2_getValue cX2_getValue 1 (some .long)) ({ frames := 0, cells := 0, slots := 0, locals := 0 }) (va_Pc [.ref h0] (st_ dC dI tt [(h0, .inr (1, [.int (nI x)]))] [] sz)) (Ql_ (lN x) [(h0, .inr (1, [.int (nI x)]))] [] dC dI (va_A [(h0, .inr (1, [.int (nI x)]))] sz)) 0 0 (va_A [(h0, .inr (1, [.int (nI x)]))] sz) := by
  refine met_pro (QA := Ql_ (lN x) [(h0, .inr (1, [.int (nI x)]))] [] dC dI) (by decide +kernel) (Nat.le_of_ble_eq_true rfl) ?_
  intro p e s m below meth c A ls hx hb hr hml hts hown hlocks hname hw hl
  have hown : s.vm.findClass RX2 = some m.cls := hown
  have hl : lv_has ls 1 [(0, .ref h0)] := hl
  refine lv_aload_n hx hb dX2_getValue_0 rfl (lv_at hl 0 rfl) ?_
  refine va_get (D := (dC, dI)) (ci := 1) (v := .int (nI x)) (C := RX2) (T := TX2) (N := 1) hx hb hts in_X2 hown hw.2.2.1 hw.1 0 rfl rfl 0 (by decide) (hts _ q61) (fun _ h9 => h9) rfl dX2_getValue_1 ?_
  refine lv_i2l (v := (nI x).toInt64) hx hb dX2_getValue_4 (rfl) ?_
  refine lv_ldc2 (v := (4294967295 : Int64)) hx hb hown (hts _ q75) dX2_getValue_5 ?_
  refine lv_land hx hb dX2_getValue_8 ?_
  refine wv_l (y := lN x) (mw_u32 hx0) ?_
  exact W.lret hx hb hr (fun t ht hW => ⟨⟨_, (), rfl, rfl, en_ret hw [0] rfl rfl [] rfl ht hW⟩, hw.2.2.2.1.F ht⟩) hw.2.2.2.1.2.2 dX2_getValue_9
set_option maxHeartbeats 4000000 in
/-- CRC32.update(byte[], int, int), of a new one -/
theorem k_crc_update (l : Launch) (dC : Nat → ClassId) (dI : Nat → Nat → Nat) (tt : Nat) (h0 bt : Nat) (dB : ClassId) (N : Nat) (f : Nat → Int32) (i n : Nat) (sz : Nat) (hN : N < 2 ^ 30) (hin : i + n ≤ N) : Met l yX2_update (ws_ yX2_update cX2_update 5 none) ({ frames := 0, cells := 0, slots := 0, locals := 0 }) (va_Pc [.ref h0, .ref bt, .int (nI i), .int (nI n)] (st_ dC dI tt [(h0, .inr (1, [.int (nI 0)])), (bt, .inl (dB, N, .inl f))] [(dB, .byte)] sz)) (Qv_ (fun _ : Unit => True) (fun _ => [(h0, .inr (1, [.int (nI (cr_V (tx_ f) i n))])), (bt, .inl (dB, N, .inl f))]) (fun _ => [(dB, .byte)]) dC dI (va_A [(h0, .inr (1, [.int (nI 0)])), (bt, .inl (dB, N, .inl f))] sz)) 0 0 (va_A [(h0, .inr (1, [.int (nI 0)])), (bt, .inl (dB, N, .inl f))] sz) := by
  refine met_pro (QA := Qv_ (fun _ : Unit => True) (fun _ => [(h0, .inr (1, [.int (nI (cr_V (tx_ f) i n))])), (bt, .inl (dB, N, .inl f))]) (fun _ => [(dB, .byte)]) dC dI) (by decide +kernel) (Nat.le_of_ble_eq_true rfl) ?_
  intro p e s m below meth c A ls hx hb hr hml hts hown hlocks hname hw hl
  have hown : s.vm.findClass RX2 = some m.cls := hown
  have hl : lv_has ls 5 [(0, .ref h0), (1, .ref bt), (2, .int (nI i)), (3, .int (nI n))] := hl
  refine lv_aload_n hx hb dX2_update_0 rfl (lv_at hl 0 rfl) ?_
  refine va_get (D := (dC, dI)) (ci := 1) (v := .int (nI 0)) (C := RX2) (T := TX2) (N := 1) hx hb hts in_X2 hown hw.2.2.1 hw.1 0 rfl rfl 0 (by decide) (hts _ q61) (fun _ h9 => h9) rfl dX2_update_1 ?_
  refine lv_iconst (v := (-1)) hx hb dX2_update_4 (by decide +kernel) ?_
  refine lv_ixor hx hb dX2_update_5 ?_
  refine wv_i (y := nI (cr_F (tx_ f) i 0)) (cr_start _ _) ?_
  refine lv_istore (lv' := [(4, .int (nI (cr_F (tx_ f) i 0))), (0, .ref h0), (1, .ref bt), (2, .int (nI i)), (3, .int (nI n))]) hx hb dX2_update_6 hl (by decide) rfl (fun ls hl => ?_)
  refine w_ind (I := fun r H locs ls => ∃ j, j + r = n ∧ Wd_ dC dI tt [(h0, .inr (1, [.int (nI 0)])), (bt, .inl (dB, N, .inl f))] [(dB, .byte)] A s H locs ∧ lv_has ls 5 [(4, .int (nI (cr_F (tx_ f) i j))), (0, .ref h0), (1, .ref bt), (2, .int (nI (i + j))), (3, .int (nI r))]) ?_ n ⟨0, by omega, hw, hl⟩
  intro r ih H locs ls ⟨j, hj, hw1, hl1⟩
  rcases r with _ | r
  · obtain rfl : j = n := by omega
    have hw := hw1
    have hl := hl1
    refine lv_iinc (v := (-1)) (lv' := [(3, .int ((-1))), (4, .int (nI (cr_F (tx_ f) i j))), (0, .ref h0), (1, .ref bt), (2, .int (nI (i + j)))]) hx hb dX2_update_8 hl (k := 4) rfl (ii_m0) (by decide) rfl (fun ls hl => ?_)
    refine lv_iload_n hx hb dX2_update_11 rfl (lv_at hl 0 rfl) ?_
    refine lv_if_lt (tgt := 43) hx hb dX2_update_12 (by decide) (fun _ => ?_) (fun hne => absurd (by decide) hne)
    refine lv_aload_n hx hb dX2_update_43 rfl (lv_at hl 2 rfl) ?_
    refine lv_iload hx hb dX2_update_44 (lv_at hl 1 rfl) ?_
    refine lv_iconst (v := (-1)) hx hb dX2_update_46 (by decide +kernel) ?_
    refine lv_ixor hx hb dX2_update_47 ?_
    refine wv_i (y := nI (cr_V (tx_ f) i j)) (cr_fin _) ?_
    refine va_put (D := (dC, dI)) (ci := 1) (v := .int (nI (cr_V (tx_ f) i j))) (ty := .int) (C := RX2) (T := TX2) (N := 1) hx hb hts in_X2 tyX2 tyX2_ok nmX2 hown hw.2.2.1 hw.1 hw.2.1 hw.2.2.2.1 0 rfl rfl 0 (by decide) (hts _ q61) (fun _ h9 => h9) rfl (by decide +kernel) rfl rfl (Nat.le_of_ble_eq_true rfl) dX2_update_48 (fun H locs hP hD hS => ?_)
    have hw : Wd_ dC dI tt [(h0, .inr (1, [.int (nI (cr_V (tx_ f) i j))])), (bt, .inl (dB, N, .inl f))] [(dB, .byte)] A s _ _ := ⟨hP, hD, hw.2.2.1, hS, hw.2.2.2.2⟩
    exact W.vret hx hb hr (fun t ht hW => ⟨⟨(), rfl, trivial, en_ret hw [0, 1] rfl rfl [0] rfl ht hW⟩, hw.2.2.2.1.F ht⟩) hw.2.2.2.1.2.2 dX2_update_51
  · have hF := cr_F_lt (tx_lt f) i j
    have hw := hw1
    have hl := hl1
    have hk : (cr_F (tx_ f) i j ^^^ tx_ f (i + j)) % 256 < 256 := Nat.mod_lt _ (by decide)
    refine lv_iinc (v := nI r) (lv' := [(3, .int (nI r)), (4, .int (nI (cr_F (tx_ f) i j))), (0, .ref h0), (1, .ref bt), (2, .int (nI (i + j)))]) hx hb dX2_update_8 hl (k := 4) rfl (ii_m1 r) (by decide) rfl (fun ls hl => ?_)
    refine lv_iload_n hx hb dX2_update_11 rfl (lv_at hl 0 rfl) ?_
    refine lv_if_lt (tgt := 43) hx hb dX2_update_12 (by decide) (fun hye => absurd hye (nI_pos (by omega))) (fun _ => ?_)
    refine va_gets (C := "CRC32") (n := "crc_table") (d := "[I") hx hb hw.2.2.2.2.2.1 hw.2.2.2.1 hown (hts _ q69) (fun _ h9 => h9) dX2_update_15 ?_
    refine lv_iload hx hb dX2_update_18 (lv_at hl 1 rfl) ?_
    refine lv_aload_n hx hb dX2_update_20 rfl (lv_at hl 3 rfl) ?_
    refine lv_iload_n hx hb dX2_update_21 rfl (lv_at hl 4 rfl) ?_
    refine lv_iinc (v := nI (i + (j + 1))) (lv' := [(2, .int (nI (i + (j + 1)))), (3, .int (nI r)), (4, .int (nI (cr_F (tx_ f) i j))), (0, .ref h0), (1, .ref bt)]) hx hb dX2_update_22 hl (k := 4) rfl (ii_p1 (i + j)) (by decide) rfl (fun ls hl => ?_)
    refine va_bald (D := (dC, dI)) hx hb hw.2.2.1 hw.1 1 0 rfl rfl (vp_in_nI (show i + j < N by omega) (by omega)) dX2_update_25 ?_
    refine wv_i (y := f (i + j)) (congrArg f (nI_clamp (show i + j < 2 ^ 31 by omega))) ?_
    refine lv_ixor hx hb dX2_update_26 ?_
    refine lv_sipush (v := 255) hx hb dX2_update_27 (by decide +kernel) ?_
    refine lv_iand hx hb dX2_update_30 ?_
    refine wv_i (y := nI ((cr_F (tx_ f) i j ^^^ tx_ f (i + j)) % 256)) (mw_xor255 _ _) ?_
    refine va_ti hx hb hw.2.2.2.2.2.2 hw.2.2.2.1 (vp_in_nI hk (by decide)) (v := .int (nI (cr_it 8 ((cr_F (tx_ f) i j ^^^ tx_ f (i + j)) % 256)))) (congrArg ct_ (nI_clamp (Nat.lt_trans hk (by decide)))) dX2_update_31 ?_
    refine lv_iload hx hb dX2_update_32 (lv_at hl 2 rfl) ?_
    refine lv_bipush (v := 8) hx hb dX2_update_34 (by decide +kernel) ?_
    refine lv_iushr (v := nI (cr_F (tx_ f) i j / 256)) hx hb dX2_update_36 (mw_ushr8 hF) ?_
    refine lv_ixor hx hb dX2_update_37 ?_
    refine wv_i (y := nI (cr_F (tx_ f) i (j + 1))) ((nx_xor _ _).trans (congrArg nI (cr_step (cr_F (tx_ f) i j) (tx_ f (i + j)) (tx_lt f _)).symm)) ?_
    refine lv_istore (lv' := [(4, .int (nI (cr_F (tx_ f) i (j + 1)))), (2, .int (nI (i + (j + 1)))), (3, .int (nI r)), (0, .ref h0), (1, .ref bt)]) hx hb dX2_update_38 hl (by decide) rfl (fun ls hl => ?_)
    refine lv_goto (tgt := 8) hx hb dX2_update_40 (by decide) ?_
    exact ih r (Nat.lt_succ_self r) _ _ _ ⟨j + 1, by omega, hw, lv_sub hl [0, 3, 4, 1, 2] rfl⟩
set_option maxHeartbeats 4000000 in
/-- CRC32.gf2_matrix_times(long[], long) -/
theorem k_times (l : Launch) (dC : Nat → ClassId) (dI : Nat → Nat → Nat) (tt : Nat) (ma : Nat) (dL : ClassId) (g : Nat → Int64) (k w : Nat) (sz : Nat) (hg : ∀ j, j < 32 → g j = lN (cr_it k (2 ^ j))) (hw0 : w < 2 ^ 32) : Met l yX2_gf2_matrix_times (ws_ yX2_gf2_matrix_times cX2_gf2_matrix_times 6 (some .long)) ({ frames := 0, cells := 0, slots := 0, locals := 0 }) (va_Pc [.ref ma, .long (lN w)] (st_ dC dI tt [(ma, .inl (dL, 32, .inr (.inl g)))] [(dL, .long)] sz)) (Ql_ (lN (cr_it k w)) [(ma, .inl (dL, 32, .inr (.inl g)))] [(dL, .long)] dC dI (va_A [(ma, .inl (dL, 32, .inr (.inl g)))] sz)) 0 0 (va_A [(ma, .inl (dL, 32, .inr (.inl g)))] sz) := by
  refine met_pro (QA := Ql_ (lN (cr_it k w)) [(ma, .inl (dL, 32, .inr (.inl g)))] [(dL, .long)] dC dI) (by decide +kernel) (Nat.le_of_ble_eq_true rfl) ?_
  intro p e s m below meth c A ls hx hb hr hml hts hown hlocks hname hw hl
  have hown : s.vm.findClass RX2 = some m.cls := hown
  have hl : lv_has ls 6 [(0, .ref ma), (1, .long (lN w))] := hl
  refine lv_lconst (v := lN 0) hx hb dX2_gf2_matrix_times_0 (by decide +kernel) ?_
  refine lv_lstore_n (lv' := [(3, .long (lN 0)), (0, .ref ma), (1, .long (lN w))]) hx hb dX2_gf2_matrix_times_1 rfl hl (by decide) rfl (fun ls hl => ?_)
  refine lv_iconst (v := nI 0) hx hb dX2_gf2_matrix_times_2 (by decide +kernel) ?_
  refine lv_istore (lv' := [(5, .int (nI 0)), (3, .long (lN 0)), (0, .ref ma), (1, .long (lN w))]) hx hb dX2_gf2_matrix_times_3 hl (by decide) rfl (fun ls hl => ?_)
  refine w_ind (I := fun r H locs ls => ∃ i v S, i + r = 32 ∧ v < 2 ^ r ∧ S ^^^ cr_it k (v * 2 ^ i) = cr_it k w ∧ Wd_ dC dI tt [(ma, .inl (dL, 32, .inr (.inl g)))] [(dL, .long)] A s H locs ∧ lv_has ls 6 [(5, .int (nI i)), (3, .long (lN S)), (0, .ref ma), (1, .long (lN v))]) ?_ 32 ⟨0, w, 0, by omega, hw0, by rw [Nat.pow_zero, Nat.mul_one, Nat.zero_xor], hw, hl⟩
  intro r ih H locs ls ⟨i, v, S, hi, hv, hS, hw2, hl2⟩
  have hw := hw2
  have hl := hl2
  have hv32 : v < 2 ^ 32 := Nat.lt_of_lt_of_le hv (Nat.pow_le_pow_right (by decide) (by omega))
  refine lv_lload_n hx hb dX2_gf2_matrix_times_5 rfl (lv_at hl 3 rfl) ?_
  refine lv_lconst (v := lN 0) hx hb dX2_gf2_matrix_times_6 (by decide +kernel) ?_
  refine W.lcmp hx hb dX2_gf2_matrix_times_7 ?_
  rcases Nat.eq_zero_or_pos v with hv0 | hv0
  · subst hv0
    refine lv_if_eq (tgt := 36) hx hb dX2_gf2_matrix_times_8 (by decide) (fun _ => ?_) (fun hne => absurd ((lc_eq (by decide) (by decide)).mpr rfl) hne)
    refine lv_lload_n hx hb dX2_gf2_matrix_times_36 rfl (lv_at hl 1 rfl) ?_
    rw [Nat.zero_mul, cr_it_zero, Nat.xor_zero] at hS
    subst hS
    exact W.lret hx hb hr (fun t ht hW => ⟨⟨_, (), rfl, rfl, en_ret hw [0] rfl rfl [0] rfl ht hW⟩, hw.2.2.2.1.F ht⟩) hw.2.2.2.1.2.2 dX2_gf2_matrix_times_37
  · rcases r with _ | r
    · rw [Nat.pow_zero] at hv; omega
    refine lv_if_eq (tgt := 36) hx hb dX2_gf2_matrix_times_8 (by decide) (fun hye => absurd hye (fun h => by have := (lc_eq (show v < 2 ^ 63 by omega) (by decide)).mp h; omega)) (fun _ => ?_)
    refine w_cut 26 (fun H locs ls => ∃ S2, S2 ^^^ cr_it k (v / 2 * 2 ^ (i + 1)) = cr_it k w ∧ Wd_ dC dI tt [(ma, .inl (dL, 32, .inr (.inl g)))] [(dL, .long)] A s H locs ∧ lv_has ls 6 [(5, .int (nI i)), (3, .long (lN S2)), (0, .ref ma), (1, .long (lN v))]) ?_ ?_
    · intro H locs ls ⟨S2, hS2, hw3, hl3⟩
      have hw := hw3
      have hl := hl3
      refine lv_lload_n hx hb dX2_gf2_matrix_times_26 rfl (lv_at hl 3 rfl) ?_
      refine lv_iconst (v := nI 1) hx hb dX2_gf2_matrix_times_27 (by decide +kernel) ?_
      refine lv_lshr (v := lN (v / 2)) hx hb dX2_gf2_matrix_times_28 (ls_1 (by omega)) ?_
      refine lv_lstore_n (lv' := [(1, .long (lN (v / 2))), (5, .int (nI i)), (3, .long (lN S2)), (0, .ref ma)]) hx hb dX2_gf2_matrix_times_29 rfl hl (by decide) rfl (fun ls hl => ?_)
      refine lv_iinc (v := nI (i + 1)) (lv' := [(5, .int (nI (i + 1))), (1, .long (lN (v / 2))), (3, .long (lN S2)), (0, .ref ma)]) hx hb dX2_gf2_matrix_times_30 hl (k := 1) rfl (ii_p1 i) (by decide) rfl (fun ls hl => ?_)
      refine lv_goto (tgt := 5) hx hb dX2_gf2_matrix_times_33 (by decide) ?_
      exact ih r (Nat.lt_succ_self r) _ _ _ ⟨i + 1, v / 2, S2, by omega, by rw [Nat.pow_succ] at hv; omega, hS2, hw, lv_sub hl [0, 2, 3, 1] rfl⟩
    · intro tail
      refine lv_lload_n hx hb dX2_gf2_matrix_times_11 rfl (lv_at hl 3 rfl) ?_
      refine lv_lconst (v := lN 1) hx hb dX2_gf2_matrix_times_12 (by decide +kernel) ?_
      refine lv_land hx hb dX2_gf2_matrix_times_13 ?_
      refine wv_l (y := lN (v % 2)) (la_1 (by omega)) ?_
      refine lv_lconst (v := lN 0) hx hb dX2_gf2_matrix_times_14 (by decide +kernel) ?_
      refine W.lcmp hx hb dX2_gf2_matrix_times_15 ?_
      have hb1 := cr_bits v i
      rcases Nat.mod_two_eq_zero_or_one v with h2 | h2
      · skip
        refine lv_if_eq (tgt := 26) hx hb dX2_gf2_matrix_times_16 (by decide) (fun _ => ?_) (fun hne => absurd ((lc_eq (show v % 2 < 2 ^ 63 by omega) (by decide)).mpr h2) hne)
        refine tail _ _ _ ⟨S, ?_, hw, hl⟩
        rw [h2, Nat.zero_mul, Nat.zero_xor] at hb1
        rw [← hb1]; exact hS
      · skip
        refine lv_if_eq (tgt := 26) hx hb dX2_gf2_matrix_times_16 (by decide) (fun hye => absurd hye (fun h => by have := (lc_eq (show v % 2 < 2 ^ 63 by omega) (by decide)).mp h; omega)) (fun _ => ?_)
        refine lv_lload_n hx hb dX2_gf2_matrix_times_19 rfl (lv_at hl 1 rfl) ?_
        refine lv_aload_n hx hb dX2_gf2_matrix_times_20 rfl (lv_at hl 2 rfl) ?_
        refine lv_iload hx hb dX2_gf2_matrix_times_21 (lv_at hl 0 rfl) ?_
        refine va_lald (D := (dC, dI)) hx hb hw.2.2.1 hw.1 0 0 rfl rfl (vp_in_nI (show i < 32 by omega) (by decide)) dX2_gf2_matrix_times_23 ?_
        refine wv_l (y := lN (cr_it k (2 ^ i))) (by rw [nI_clamp (show i < 2 ^ 31 by omega)]; exact hg i (by omega)) ?_
        refine lv_lxor hx hb dX2_gf2_matrix_times_24 ?_
        refine wv_l (y := lN (S ^^^ cr_it k (2 ^ i))) (lN_xor _ _) ?_
        refine lv_lstore_n (lv' := [(3, .long (lN (S ^^^ cr_it k (2 ^ i)))), (5, .int (nI i)), (0, .ref ma), (1, .long (lN v))]) hx hb dX2_gf2_matrix_times_25 rfl hl (by decide) rfl (fun ls hl => ?_)
        refine tail _ _ _ ⟨S ^^^ cr_it k (2 ^ i), ?_, hw, lv_sub hl [1, 0, 2, 3] rfl⟩
        rw [h2, Nat.one_mul] at hb1
        rw [Nat.xor_assoc, ← cr_it_lin, ← hb1]; exact hS
set_option maxHeartbeats 4000000 in
/-- CRC32.gf2_matrix_square(long[], long[]) -/
theorem k_square (l : Launch) (dC : Nat → ClassId) (dI : Nat → Nat → Nat) (tt : Nat) (sq ma : Nat) (dQ dL : ClassId) (g0 g : Nat → Int64) (k : Nat) (sz : Nat) (hg : ∀ j, j < 32 → g j = lN (cr_it k (2 ^ j))) : Met l yX2_gf2_matrix_square (ws_ yX2_gf2_matrix_square cX2_gf2_matrix_square 3 none) ({ frames := 1, cells := 0, slots := 0, locals := 25 }) (va_Pc [.ref sq, .ref ma] (st_ dC dI tt [(sq, .inl (dQ, 32, .inr (.inl g0))), (ma, .inl (dL, 32, .inr (.inl g)))] [(dQ, .long), (dL, .long)] sz)) (Qv_ (fun u : Nat → Int64 => ∀ j, j < 32 → u j = lN (cr_it (2 * k) (2 ^ j))) (fun u => [(sq, .inl (dQ, 32, .inr (.inl u))), (ma, .inl (dL, 32, .inr (.inl g)))]) (fun _ => [(dQ, .long), (dL, .long)]) dC dI (va_A [(sq, .inl (dQ, 32, .inr (.inl g0))), (ma, .inl (dL, 32, .inr (.inl g)))] sz)) 0 0 (va_A [(sq, .inl (dQ, 32, .inr (.inl g0))), (ma, .inl (dL, 32, .inr (.inl g)))] sz) := by
  refine met_pro (QA := Qv_ (fun u : Nat → Int64 => ∀ j, j < 32 → u j = lN (cr_it (2 * k) (2 ^ j))) (fun u => [(sq, .inl (dQ, 32, .inr (.inl u))), (ma, .inl (dL, 32, .inr (.inl g)))]) (fun _ => [(dQ, .long), (dL, .long)]) dC dI) (by decide +kernel) (Nat.le_of_ble_eq_true rfl) ?_
  intro p e s m below meth c A ls hx hb hr hml hts hown hlocks hname hw hl
  have hown : s.vm.findClass RX2 = some m.cls := hown
  have hl : lv_has ls 3 [(0, .ref sq), (1, .ref ma)] := hl
  refine lv_iconst (v := nI 0) hx hb dX2_gf2_matrix_square_0 (by decide +kernel) ?_
  refine lv_istore_n (lv' := [(2, .int (nI 0)), (0, .ref sq), (1, .ref ma)]) hx hb dX2_gf2_matrix_square_1 rfl hl (by decide) rfl (fun ls hl => ?_)
  refine w_ind (I := fun r H locs ls => ∃ (i : Nat) (u : Nat → Int64), i + r = 32 ∧ (∀ j, j < i → u j = lN (cr_it (2 * k) (2 ^ j))) ∧ Wd_ dC dI tt [(sq, .inl (dQ, 32, .inr (.inl u))), (ma, .inl (dL, 32, .inr (.inl g)))] [(dQ, .long), (dL, .long)] A s H locs ∧ lv_has ls 3 [(2, .int (nI i)), (0, .ref sq), (1, .ref ma)]) ?_ 32 ⟨0, g0, by omega, fun j h => absurd h (Nat.not_lt_zero j), hw, hl⟩
  intro r ih H locs ls ⟨i, u, hi, hu, hw4, hl4⟩
  have hw := hw4
  have hl := hl4
  refine lv_iload_n hx hb dX2_gf2_matrix_square_2 rfl (lv_at hl 0 rfl) ?_
  refine lv_bipush (v := nI 32) hx hb dX2_gf2_matrix_square_3 (by decide +kernel) ?_
  rcases r with _ | r
  · obtain rfl : i = 32 := by omega
    refine lv_icmp_ge (tgt := 24) hx hb dX2_gf2_matrix_square_5 (by decide) (fun _ => ?_) (fun hne => absurd (by decide +kernel) hne)
    exact W.vret hx hb hr (fun t ht hW => ⟨⟨u, rfl, hu, en_ret hw [0, 1] rfl rfl [0, 1] rfl ht hW⟩, hw.2.2.2.1.F ht⟩) hw.2.2.2.1.2.2 dX2_gf2_matrix_square_24
  · skip
    refine lv_icmp_ge (tgt := 24) hx hb dX2_gf2_matrix_square_5 (by decide) (fun hye => absurd hye (nI_ge (show i < 32 by omega) (by decide))) (fun _ => ?_)
    refine lv_aload_n hx hb dX2_gf2_matrix_square_8 rfl (lv_at hl 1 rfl) ?_
    refine lv_iload_n hx hb dX2_gf2_matrix_square_9 rfl (lv_at hl 0 rfl) ?_
    refine lv_aload_n hx hb dX2_gf2_matrix_square_10 rfl (lv_at hl 2 rfl) ?_
    refine lv_aload_n hx hb dX2_gf2_matrix_square_11 rfl (lv_at hl 2 rfl) ?_
    refine lv_iload_n hx hb dX2_gf2_matrix_square_12 rfl (lv_at hl 0 rfl) ?_
    refine va_lald (D := (dC, dI)) hx hb hw.2.2.1 hw.1 1 1 rfl rfl (vp_in_nI (show i < 32 by omega) (by decide)) dX2_gf2_matrix_square_13 ?_
    refine wv_l (y := lN (cr_it k (2 ^ i))) (by rw [nI_clamp (show i < 2 ^ 31 by omega)]; exact hg i (by omega)) ?_
    refine go_Sl (As := [.ref ma, .long (lN (cr_it k (2 ^ i)))]) (rest := [.int (nI i), .ref sq]) (wr := [(sq, .inl (dQ, 32, .inr (.inl u)))]) (wn := [(sq, .inl (dQ, 32, .inr (.inl u))), (ma, .inl (dL, 32, .inr (.inl g)))]) (tn := [(dQ, .long), (dL, .long)]) ⟨hx, hb, hml, hown, hts⟩ (k_times l dC dI tt ma dL g k (cr_it k (2 ^ i)) _ hg (cr_it_lt k (Nat.pow_lt_pow_right (by decide) (by omega)))) (va_cwS 2 hts (lw_S q113 q114 q5 q115) rfl rfl rfl (by decide +kernel) ⟨(Nat.le_of_ble_eq_true rfl), (Nat.le_of_ble_eq_true rfl)⟩) hw [1] [0] [0, 1] [0, 1] [1] ⟨rfl, rfl, rfl, rfl, rfl, by decide, rfl, rfl, rfl⟩ hl.1 rfl rfl (Nat.le_of_ble_eq_true rfl) dX2_gf2_matrix_square_14 ⟨(Nat.le_of_ble_eq_true rfl), (Nat.le_of_ble_eq_true rfl)⟩ (k1 := 0) (n1 := 0) ⟨rfl, rfl⟩ (fun H locs hw => ?_)
    refine wv_l (y := lN (cr_it (2 * k) (2 ^ i))) (by rw [Nat.two_mul, cr_it_add]) ?_
    refine va_last (D := (dC, dI)) hx hb hw.2.2.1 hw.1 hw.2.1 hw.2.2.2.1 0 0 rfl rfl (vp_in_nI (show i < 32 by omega) (by decide)) dX2_gf2_matrix_square_17 (fun H locs hP hD hS => ?_)
    rw [nI_clamp (show i < 2 ^ 31 by omega)] at hP hD
    have hw : Wd_ dC dI tt [(sq, .inl (dQ, 32, .inr (.inl (vp_updL u i (lN (cr_it (2 * k) (2 ^ i))))))), (ma, .inl (dL, 32, .inr (.inl g)))] [(dQ, .long), (dL, .long)] A s _ _ := ⟨hP, hD, hw.2.2.1, hS, hw.2.2.2.2⟩
    refine lv_iinc (v := nI (i + 1)) (lv' := [(2, .int (nI (i + 1))), (0, .ref sq), (1, .ref ma)]) hx hb dX2_gf2_matrix_square_18 hl (k := 0) rfl (ii_p1 i) (by decide) rfl (fun ls hl => ?_)
    refine lv_goto (tgt := 2) hx hb dX2_gf2_matrix_square_21 (by decide) ?_
    refine ih r (Nat.lt_succ_self r) _ _ _ ⟨i + 1, vp_updL u i (lN (cr_it (2 * k) (2 ^ i))), by omega, fun j hj => ?_, hw, lv_sub hl [0, 1, 2] rfl⟩
    by_cases e : j = i
    · subst e; exact pk_uLs
    · exact (pk_uLn e).trans (hu j (by omega))
end
section
set_option maxRecDepth 100000
/-- a stretch of zero bits, halved -/
theorem cr_half (a L c : Nat) : cr_it (a * L) c = cr_it (2 * a * (L / 2)) (cr_it (a * (L % 2)) c) := by
  rw [← cr_it_add]
  congr 1
  rw [Nat.mul_comm 2 a, Nat.mul_assoc, ← Nat.mul_add]
  congr 1
  omega
set_option maxHeartbeats 4000000 in
/-- CRC32.combine(long, long, long) -/
theorem k_crc_combine (l : Launch) (dC : Nat → ClassId) (dI : Nat → Nat → Nat) (tt : Nat) (x y k : Nat) (sz : Nat) (hx0 : x < 2 ^ 32) (hk0 : k < 2 ^ 31) (hy0 : k = 0 → y = 0) : Met l yX2_combine (ws_ yX2_combine cX2_combine 11 (some .long)) ({ frames := 2, cells := 2, slots := 64, locals := 47 }) (va_Pc [.long (lN x), .long (lN y), .long (lN k)] (st_ dC dI tt [] [] sz)) (Ql_ (lN (cr_it (8 * k) x ^^^ y)) [] [] dC dI (va_A [] sz)) 2 64 (va_A [] sz) := by
  refine met_pro (QA := Ql_ (lN (cr_it (8 * k) x ^^^ y)) [] [] dC dI) (by decide +kernel) (Nat.le_of_ble_eq_true rfl) ?_
  intro p e s m below meth c A ls hx hb hr hml hts hown hlocks hname hw hl
  have hown : s.vm.findClass RX2 = some m.cls := hown
  have hl : lv_has ls 11 [(0, .long (lN x)), (2, .long (lN y)), (4, .long (lN k))] := hl
  refine lv_bipush (v := nI 32) hx hb dX2_combine_0 (by decide +kernel) ?_
  refine va_newa (D := (dC, dI)) (atype := .long) hx hb (hts _ q116) (ty := .long) rfl hw.2.2.1 hw.1 hw.2.1 hw.2.2.2.1 hw.2.2.2.2.1 (N' := 32) (a0 := (32, .inr (.inl (fun _ => 0)))) (fun _ => rfl) (by decide +kernel) (by decide +kernel) (Nat.le_of_ble_eq_true rfl) (Nat.le_of_ble_eq_true rfl) (Nat.le_of_ble_eq_true rfl) dX2_combine_2 (fun ev dE H hK hP hD hS => ?_)
  have hw : Wd_ dC dI tt [(ev, .inl (dE, 32, .inr (.inl (fun _ => 0))))] [(dE, .long)] A s _ _ := ⟨hP, hD, hK, hS, hw.2.2.2.2⟩
  refine W.widen (k := 1) (n := 32) (Nat.le_of_ble_eq_true rfl) (Nat.le_of_ble_eq_true rfl) ?_
  refine lv_astore (lv' := [(8, .ref ev), (0, .long (lN x)), (2, .long (lN y)), (4, .long (lN k))]) hx hb dX2_combine_4 hl (by decide) rfl (fun ls hl => ?_)
  refine lv_bipush (v := nI 32) hx hb dX2_combine_6 (by decide +kernel) ?_
  refine va_newa (D := (dC, dI)) (atype := .long) hx hb (hts _ q116) (ty := .long) rfl hw.2.2.1 hw.1 hw.2.1 hw.2.2.2.1 hw.2.2.2.2.1 (N' := 32) (a0 := (32, .inr (.inl (fun _ => 0)))) (fun _ => rfl) (by decide +kernel) (by decide +kernel) (Nat.le_of_ble_eq_true rfl) (Nat.le_of_ble_eq_true rfl) (Nat.le_of_ble_eq_true rfl) dX2_combine_8 (fun od dO H hK hP hD hS => ?_)
  have hw : Wd_ dC dI tt [(ev, .inl (dE, 32, .inr (.inl (fun _ => 0)))), (od, .inl (dO, 32, .inr (.inl (fun _ => 0))))] [(dE, .long), (dO, .long)] A s _ _ := ⟨hP, hD, hK, hS, hw.2.2.2.2⟩
  refine W.widen (k := 2) (n := 64) (Nat.le_of_ble_eq_true rfl) (Nat.le_of_ble_eq_true rfl) ?_
  refine lv_astore (lv' := [(9, .ref od), (8, .ref ev), (0, .long (lN x)), (2, .long (lN y)), (4, .long (lN k))]) hx hb dX2_combine_10 hl (by decide) rfl (fun ls hl => ?_)
  refine lv_lload hx hb dX2_combine_12 (lv_at hl 4 rfl) ?_
  refine lv_lconst (v := lN 0) hx hb dX2_combine_14 (by decide +kernel) ?_
  refine W.lcmp hx hb dX2_combine_15 ?_
  rcases Nat.eq_zero_or_pos k with h0 | h0
  · obtain rfl := hy0 h0
    subst h0
    refine lv_if_gt (tgt := 21) hx hb dX2_combine_16 (by decide) (fun hye => absurd hye (fun h => absurd ((lc_gt (by decide) (by decide)).mp h) (Nat.lt_irrefl 0))) (fun _ => ?_)
    refine lv_lload_n hx hb dX2_combine_19 rfl (lv_at hl 2 rfl) ?_
    refine wv_l (y := lN (cr_it (8 * 0) x ^^^ 0)) (by rw [Nat.xor_zero]; rfl) ?_
    exact W.lret hx hb hr (fun t ht hW => ⟨⟨_, (), rfl, rfl, en_ret hw [] rfl rfl [] rfl ht hW⟩, hw.2.2.2.1.F ht⟩) hw.2.2.2.1.2.2 dX2_combine_20
  · skip
    refine lv_if_gt (tgt := 21) hx hb dX2_combine_16 (by decide) (fun _ => ?_) (fun hne => absurd ((lc_gt (show k < 2 ^ 63 by omega) (by decide)).mpr h0) hne)
    refine lv_aload hx hb dX2_combine_21 (lv_at hl 0 rfl) ?_
    refine lv_iconst (v := nI 0) hx hb dX2_combine_23 (by decide +kernel) ?_
    refine lv_ldc2 (v := (3988292384 : Int64)) hx hb hown (hts _ q109) dX2_combine_24 ?_
    refine wv_l (y := lN 3988292384) (by decide +kernel) ?_
    refine va_last (D := (dC, dI)) hx hb hw.2.2.1 hw.1 hw.2.1 hw.2.2.2.1 1 1 rfl rfl (vp_in_nI (show 0 < 32 by decide) (by decide)) dX2_combine_27 (fun H locs hP hD hS => ?_)
    rw [nI_clamp (show 0 < 2 ^ 31 by decide)] at hP hD
    have hw : Wd_ dC dI tt [(ev, .inl (dE, 32, .inr (.inl (fun _ => 0)))), (od, .inl (dO, 32, .inr (.inl (vp_updL (fun _ => 0) 0 (lN 3988292384)))))] [(dE, .long), (dO, .long)] A s _ _ := ⟨hP, hD, hw.2.2.1, hS, hw.2.2.2.2⟩
    refine lv_lconst (v := lN 1) hx hb dX2_combine_28 (by decide +kernel) ?_
    refine lv_lstore (lv' := [(6, .long (lN 1)), (9, .ref od), (8, .ref ev), (0, .long (lN x)), (2, .long (lN y)), (4, .long (lN k))]) hx hb dX2_combine_29 hl (by decide) rfl (fun ls hl => ?_)
    refine lv_iconst (v := nI 1) hx hb dX2_combine_31 (by decide +kernel) ?_
    refine lv_istore (lv' := [(10, .int (nI 1)), (6, .long (lN 1)), (9, .ref od), (8, .ref ev), (0, .long (lN x)), (2, .long (lN y)), (4, .long (lN k))]) hx hb dX2_combine_32 hl (by decide) rfl (fun ls hl => ?_)
    have hu0 : ∀ j, j < 0 + 1 → vp_updL (fun _ => 0) 0 (lN 3988292384) j = lN (cr_it 1 (2 ^ j)) := fun j hj => by
      obtain rfl : j = 0 := by omega
      exact pk_uLs.trans (congrArg lN cr_it1_0.symm)
    refine w_ind (I := fun r H locs ls => ∃ (q : Nat) (u : Nat → Int64), q + 1 + r = 32 ∧ (∀ j, j < q + 1 → u j = lN (cr_it 1 (2 ^ j))) ∧ Wd_ dC dI tt [(ev, .inl (dE, 32, .inr (.inl (fun _ => 0)))), (od, .inl (dO, 32, .inr (.inl u)))] [(dE, .long), (dO, .long)] A s H locs ∧ lv_has ls 11 [(10, .int (nI (q + 1))), (6, .long (lN (2 ^ q))), (9, .ref od), (8, .ref ev), (0, .long (lN x)), (2, .long (lN y)), (4, .long (lN k))]) ?_ 31 ⟨0, vp_updL (fun _ => 0) 0 (lN 3988292384), rfl, hu0, hw, lv_sub hl [0, 1, 2, 3, 4, 5, 6] rfl⟩
    intro r ih H locs ls ⟨q, u, hq, hu, hw5, hl5⟩
    have hw := hw5
    have hl := hl5
    refine lv_iload hx hb dX2_combine_34 (lv_at hl 0 rfl) ?_
    refine lv_bipush (v := nI 32) hx hb dX2_combine_36 (by decide +kernel) ?_
    rcases r with _ | r
    · obtain rfl : q = 31 := by omega
      refine lv_icmp_ge (tgt := 60) hx hb dX2_combine_38 (by decide) (fun _ => ?_) (fun hne => absurd (by decide +kernel) hne)
      refine lv_aload hx hb dX2_combine_60 (lv_at hl 3 rfl) ?_
      refine lv_aload hx hb dX2_combine_62 (lv_at hl 2 rfl) ?_
      refine go_Sv (As := [.ref ev, .ref od]) (rest := []) (wr := []) (un := fun u1 => [(ev, .inl (dE, 32, .inr (.inl u1))), (od, .inl (dO, 32, .inr (.inl u)))]) (xn := fun u1 => [(dE, .long), (dO, .long)]) ⟨hx, hb, hml, hown, hts⟩ (k_square l dC dI tt ev od dE dO (fun _ => 0) u 1 _ hu) (va_cwS 2 hts (lw_S q110 q111 q5 q112) rfl rfl rfl (by decide +kernel) ⟨(Nat.le_of_ble_eq_true rfl), (Nat.le_of_ble_eq_true rfl)⟩) hw [0, 1] [] [0, 1] [0, 1] [0, 1] (fun _ => ⟨rfl, rfl, rfl, rfl, rfl, by decide, rfl, rfl, rfl⟩) hl.1 rfl rfl (Nat.le_of_ble_eq_true rfl) dX2_combine_64 ⟨(Nat.le_of_ble_eq_true rfl), (Nat.le_of_ble_eq_true rfl)⟩ (k1 := 2) (n1 := 64) ⟨rfl, rfl⟩ (fun _ => 0) (fun u1 H locs hu1 hw => ?_)
      have hw : Wd_ dC dI tt [(ev, .inl (dE, 32, .inr (.inl u1))), (od, .inl (dO, 32, .inr (.inl u)))] [(dE, .long), (dO, .long)] A s _ _ := hw
      refine lv_aload hx hb dX2_combine_67 (lv_at hl 2 rfl) ?_
      refine lv_aload hx hb dX2_combine_69 (lv_at hl 3 rfl) ?_
      refine go_Sv (As := [.ref od, .ref ev]) (rest := []) (wr := []) (un := fun u2 => [(ev, .inl (dE, 32, .inr (.inl u1))), (od, .inl (dO, 32, .inr (.inl u2)))]) (xn := fun u2 => [(dE, .long), (dO, .long)]) ⟨hx, hb, hml, hown, hts⟩ (k_square l dC dI tt od ev dO dE u u1 2 _ hu1) (va_cwS 2 hts (lw_S q110 q111 q5 q112) rfl rfl rfl (by decide +kernel) ⟨(Nat.le_of_ble_eq_true rfl), (Nat.le_of_ble_eq_true rfl)⟩) hw [1, 0] [] [1, 0] [0, 1] [1, 0] (fun _ => ⟨rfl, rfl, rfl, rfl, rfl, by decide, rfl, rfl, rfl⟩) hl.1 rfl rfl (Nat.le_of_ble_eq_true rfl) dX2_combine_71 ⟨(Nat.le_of_ble_eq_true rfl), (Nat.le_of_ble_eq_true rfl)⟩ (k1 := 2) (n1 := 64) ⟨rfl, rfl⟩ (fun _ => 0) (fun u2 H locs hu2 hw => ?_)
      have hw : Wd_ dC dI tt [(ev, .inl (dE, 32, .inr (.inl u1))), (od, .inl (dO, 32, .inr (.inl u2)))] [(dE, .long), (dO, .long)] A s _ _ := hw
      refine w_cut 149 (fun H locs ls => ∃ (cc : Nat) (W1 : va_W) (T1 : List (ClassId × FieldType)), cc = cr_it (8 * k) x ∧ Wd_ dC dI tt W1 T1 A s H locs ∧ lv_has ls 11 [(0, .long (lN cc)), (2, .long (lN y))]) ?_ ?_
      · intro H locs ls ⟨cc, W1, T1, hcc, hw6, hl6⟩
        have hw := hw6
        have hl := hl6
        refine lv_lload_n hx hb dX2_combine_149 rfl (lv_at hl 0 rfl) ?_
        refine lv_lload_n hx hb dX2_combine_150 rfl (lv_at hl 1 rfl) ?_
        refine lv_lxor hx hb dX2_combine_151 ?_
        refine wv_l (y := lN (cc ^^^ y)) (lN_xor _ _) ?_
        refine lv_lstore_n (lv' := [(0, .long (lN (cc ^^^ y))), (2, .long (lN y))]) hx hb dX2_combine_152 rfl hl (by decide) rfl (fun ls hl => ?_)
        refine lv_lload_n hx hb dX2_combine_153 rfl (lv_at hl 0 rfl) ?_
        subst hcc
        exact W.lret hx hb hr (fun t ht hW => ⟨⟨_, (), rfl, rfl, en_ret hw [] rfl rfl [] rfl ht hW⟩, hw.2.2.2.1.F ht⟩) hw.2.2.2.1.2.2 dX2_combine_154
      · intro fin
        refine w_ind (I := fun L H locs ls => ∃ (kk cr : Nat) (ge go : Nat → Int64), 0 < L ∧ L < 2 ^ 31 ∧ cr < 2 ^ 32 ∧ (∀ j, j < 32 → go j = lN (cr_it kk (2 ^ j))) ∧ cr_it (2 * kk * L) cr = cr_it (8 * k) x ∧ Wd_ dC dI tt [(ev, .inl (dE, 32, .inr (.inl ge))), (od, .inl (dO, 32, .inr (.inl go)))] [(dE, .long), (dO, .long)] A s H locs ∧ lv_has ls 11 [(4, .long (lN L)), (0, .long (lN cr)), (2, .long (lN y)), (8, .ref ev), (9, .ref od)]) ?_ k ⟨4, x, _, _, h0, hk0, hx0, hu2, rfl, hw, lv_sub hl [6, 4, 5, 3, 2] rfl⟩
        intro L ih H locs ls ⟨kk, cr, ge, go, hL0, hL, hcr, hgo, htg, hw7, hl7⟩
        have hw := hw7
        have hl := hl7
        refine lv_aload hx hb dX2_combine_74 (lv_at hl 3 rfl) ?_
        refine lv_aload hx hb dX2_combine_76 (lv_at hl 4 rfl) ?_
        refine go_Sv (As := [.ref ev, .ref od]) (rest := []) (wr := []) (un := fun ge1 => [(ev, .inl (dE, 32, .inr (.inl ge1))), (od, .inl (dO, 32, .inr (.inl go)))]) (xn := fun ge1 => [(dE, .long), (dO, .long)]) ⟨hx, hb, hml, hown, hts⟩ (k_square l dC dI tt ev od dE dO ge go kk _ hgo) (va_cwS 2 hts (lw_S q110 q111 q5 q112) rfl rfl rfl (by decide +kernel) ⟨(Nat.le_of_ble_eq_true rfl), (Nat.le_of_ble_eq_true rfl)⟩) hw [0, 1] [] [0, 1] [0, 1] [0, 1] (fun _ => ⟨rfl, rfl, rfl, rfl, rfl, by decide, rfl, rfl, rfl⟩) hl.1 rfl rfl (Nat.le_of_ble_eq_true rfl) dX2_combine_78 ⟨(Nat.le_of_ble_eq_true rfl), (Nat.le_of_ble_eq_true rfl)⟩ (k1 := 2) (n1 := 64) ⟨rfl, rfl⟩ (fun _ => 0) (fun ge1 H locs hge1 hw => ?_)
        have hw : Wd_ dC dI tt [(ev, .inl (dE, 32, .inr (.inl ge1))), (od, .inl (dO, 32, .inr (.inl go)))] [(dE, .long), (dO, .long)] A s _ _ := hw
        refine w_cut 97 (fun H locs ls => ∃ c1, c1 < 2 ^ 32 ∧ cr_it (4 * kk * (L / 2)) c1 = cr_it (8 * k) x ∧ Wd_ dC dI tt [(ev, .inl (dE, 32, .inr (.inl ge1))), (od, .inl (dO, 32, .inr (.inl go)))] [(dE, .long), (dO, .long)] A s H locs ∧ lv_has ls 11 [(4, .long (lN L)), (0, .long (lN c1)), (2, .long (lN y)), (8, .ref ev), (9, .ref od)]) ?_ ?_
        · intro H locs ls ⟨c1, hc1, htg1, hw8, hl8⟩
          have hw := hw8
          have hl := hl8
          refine lv_lload hx hb dX2_combine_97 (lv_at hl 0 rfl) ?_
          refine lv_iconst (v := nI 1) hx hb dX2_combine_99 (by decide +kernel) ?_
          refine lv_lshr (v := lN (L / 2)) hx hb dX2_combine_100 (ls_1 (by omega)) ?_
          refine lv_lstore (lv' := [(4, .long (lN (L / 2))), (0, .long (lN c1)), (2, .long (lN y)), (8, .ref ev), (9, .ref od)]) hx hb dX2_combine_101 hl (by decide) rfl (fun ls hl => ?_)
          refine lv_lload hx hb dX2_combine_103 (lv_at hl 0 rfl) ?_
          refine lv_lconst (v := lN 0) hx hb dX2_combine_105 (by decide +kernel) ?_
          refine W.lcmp hx hb dX2_combine_106 ?_
          rcases Nat.eq_zero_or_pos (L / 2) with hq0 | hq0
          · skip
            refine lv_if_ne (tgt := 113) hx hb dX2_combine_107 (by decide) (fun hye => absurd ((lc_eq (show L / 2 < 2 ^ 63 by omega) (by decide)).mpr hq0) hye) (fun _ => ?_)
            refine lv_goto (tgt := 149) hx hb dX2_combine_110 (by decide) ?_
            refine fin _ _ _ ⟨c1, _, _, ?_, hw, lv_sub hl [1, 2] rfl⟩
            rw [hq0, Nat.mul_zero] at htg1
            exact htg1
          · skip
            refine lv_if_ne (tgt := 113) hx hb dX2_combine_107 (by decide) (fun _ => ?_) (fun hne => absurd hne (fun h => by have := (lc_eq (show L / 2 < 2 ^ 63 by omega) (by decide)).mp h; omega))
            refine lv_aload hx hb dX2_combine_113 (lv_at hl 4 rfl) ?_
            refine lv_aload hx hb dX2_combine_115 (lv_at hl 3 rfl) ?_
            refine go_Sv (As := [.ref od, .ref ev]) (rest := []) (wr := []) (un := fun go1 => [(ev, .inl (dE, 32, .inr (.inl ge1))), (od, .inl (dO, 32, .inr (.inl go1)))]) (xn := fun go1 => [(dE, .long), (dO, .long)]) ⟨hx, hb, hml, hown, hts⟩ (k_square l dC dI tt od ev dO dE go ge1 (2 * kk) _ hge1) (va_cwS 2 hts (lw_S q110 q111 q5 q112) rfl rfl rfl (by decide +kernel) ⟨(Nat.le_of_ble_eq_true rfl), (Nat.le_of_ble_eq_true rfl)⟩) hw [1, 0] [] [1, 0] [0, 1] [1, 0] (fun _ => ⟨rfl, rfl, rfl, rfl, rfl, by decide, rfl, rfl, rfl⟩) hl.1 rfl rfl (Nat.le_of_ble_eq_true rfl) dX2_combine_117 ⟨(Nat.le_of_ble_eq_true rfl), (Nat.le_of_ble_eq_true rfl)⟩ (k1 := 2) (n1 := 64) ⟨rfl, rfl⟩ (fun _ => 0) (fun go1 H locs hgo1 hw => ?_)
            have hw : Wd_ dC dI tt [(ev, .inl (dE, 32, .inr (.inl ge1))), (od, .inl (dO, 32, .inr (.inl go1)))] [(dE, .long), (dO, .long)] A s _ _ := hw
            refine w_cut 136 (fun H locs ls => ∃ c2, c2 < 2 ^ 32 ∧ cr_it (8 * kk * (L / 2 / 2)) c2 = cr_it (8 * k) x ∧ Wd_ dC dI tt [(ev, .inl (dE, 32, .inr (.inl ge1))), (od, .inl (dO, 32, .inr (.inl go1)))] [(dE, .long), (dO, .long)] A s H locs ∧ lv_has ls 11 [(4, .long (lN (L / 2))), (0, .long (lN c2)), (2, .long (lN y)), (8, .ref ev), (9, .ref od)]) ?_ ?_
            · intro H locs ls ⟨c2, hc2, htg2, hw9, hl9⟩
              have hw := hw9
              have hl := hl9
              refine lv_lload hx hb dX2_combine_136 (lv_at hl 0 rfl) ?_
              refine lv_iconst (v := nI 1) hx hb dX2_combine_138 (by decide +kernel) ?_
              refine lv_lshr (v := lN (L / 2 / 2)) hx hb dX2_combine_139 (ls_1 (by omega)) ?_
              refine lv_lstore (lv' := [(4, .long (lN (L / 2 / 2))), (0, .long (lN c2)), (2, .long (lN y)), (8, .ref ev), (9, .ref od)]) hx hb dX2_combine_140 hl (by decide) rfl (fun ls hl => ?_)
              refine lv_lload hx hb dX2_combine_142 (lv_at hl 0 rfl) ?_
              refine lv_lconst (v := lN 0) hx hb dX2_combine_144 (by decide +kernel) ?_
              refine W.lcmp hx hb dX2_combine_145 ?_
              rcases Nat.eq_zero_or_pos (L / 2 / 2) with hr0 | hr0
              · skip
                refine lv_if_ne (tgt := 74) hx hb dX2_combine_146 (by decide) (fun hye => absurd ((lc_eq (show L / 2 / 2 < 2 ^ 63 by omega) (by decide)).mpr hr0) hye) (fun _ => ?_)
                refine fin _ _ _ ⟨c2, _, _, ?_, hw, lv_sub hl [1, 2] rfl⟩
                rw [hr0, Nat.mul_zero] at htg2
                exact htg2
              · skip
                refine lv_if_ne (tgt := 74) hx hb dX2_combine_146 (by decide) (fun _ => ?_) (fun hne => absurd hne (fun h => by have := (lc_eq (show L / 2 / 2 < 2 ^ 63 by omega) (by decide)).mp h; omega))
                refine ih (L / 2 / 2) (by omega) _ _ _ ⟨2 * (2 * kk), c2, ge1, go1, hr0, by omega, hc2, hgo1, ?_, hw, lv_sub hl [0, 1, 2, 3, 4] rfl⟩
                rw [show 2 * (2 * (2 * kk)) = 8 * kk by omega]; exact htg2
            · intro tl2
              refine lv_lload hx hb dX2_combine_120 (lv_at hl 0 rfl) ?_
              refine lv_lconst (v := lN 1) hx hb dX2_combine_122 (by decide +kernel) ?_
              refine lv_land hx hb dX2_combine_123 ?_
              refine wv_l (y := lN (L / 2 % 2)) (la_1 (by omega)) ?_
              refine lv_lconst (v := lN 0) hx hb dX2_combine_124 (by decide +kernel) ?_
              refine W.lcmp hx hb dX2_combine_125 ?_
              have hsp := cr_half (4 * kk) (L / 2) c1
              rw [htg1, show 2 * (4 * kk) = 8 * kk by omega] at hsp
              rcases Nat.mod_two_eq_zero_or_one (L / 2) with h2 | h2
              · skip
                refine lv_if_eq (tgt := 136) hx hb dX2_combine_126 (by decide) (fun _ => ?_) (fun hne => absurd ((lc_eq (show L / 2 % 2 < 2 ^ 63 by omega) (by decide)).mpr h2) hne)
                refine tl2 _ _ _ ⟨c1, hc1, ?_, hw, lv_sub hl [0, 1, 2, 3, 4] rfl⟩
                rw [h2, Nat.mul_zero] at hsp; exact hsp.symm
              · skip
                refine lv_if_eq (tgt := 136) hx hb dX2_combine_126 (by decide) (fun hye => absurd hye (fun h => by have := (lc_eq (show L / 2 % 2 < 2 ^ 63 by omega) (by decide)).mp h; omega)) (fun _ => ?_)
                refine lv_aload hx hb dX2_combine_129 (lv_at hl 4 rfl) ?_
                refine lv_lload_n hx hb dX2_combine_131 rfl (lv_at hl 1 rfl) ?_
                refine go_Sl (As := [.ref od, .long (lN c1)]) (rest := []) (wr := [(ev, .inl (dE, 32, .inr (.inl ge1)))]) (wn := [(ev, .inl (dE, 32, .inr (.inl ge1))), (od, .inl (dO, 32, .inr (.inl go1)))]) (tn := [(dE, .long), (dO, .long)]) ⟨hx, hb, hml, hown, hts⟩ (k_times l dC dI tt od dO go1 (2 * (2 * kk)) c1 _ hgo1 hc1) (va_cwS 2 hts (lw_S q113 q114 q5 q115) rfl rfl rfl (by decide +kernel) ⟨(Nat.le_of_ble_eq_true rfl), (Nat.le_of_ble_eq_true rfl)⟩) hw [1] [0] [0, 1] [0, 1] [1] ⟨rfl, rfl, rfl, rfl, rfl, by decide, rfl, rfl, rfl⟩ hl.1 rfl rfl (Nat.le_of_ble_eq_true rfl) dX2_combine_132 ⟨(Nat.le_of_ble_eq_true rfl), (Nat.le_of_ble_eq_true rfl)⟩ (k1 := 2) (n1 := 64) ⟨rfl, rfl⟩ (fun H locs hw => ?_)
                refine lv_lstore_n (lv' := [(0, .long (lN (cr_it (2 * (2 * kk)) c1))), (4, .long (lN (L / 2))), (2, .long (lN y)), (8, .ref ev), (9, .ref od)]) hx hb dX2_combine_135 rfl hl (by decide) rfl (fun ls hl => ?_)
                refine tl2 _ _ _ ⟨cr_it (2 * (2 * kk)) c1, cr_it_lt _ hc1, ?_, hw, lv_sub hl [1, 0, 2, 3, 4] rfl⟩
                rw [h2, Nat.mul_one] at hsp; rw [show 2 * (2 * kk) = 4 * kk by omega]; exact hsp.symm
        · intro tl1
          refine lv_lload hx hb dX2_combine_81 (lv_at hl 0 rfl) ?_
          refine lv_lconst (v := lN 1) hx hb dX2_combine_83 (by decide +kernel) ?_
          refine lv_land hx hb dX2_combine_84 ?_
          refine wv_l (y := lN (L % 2)) (la_1 (by omega)) ?_
          refine lv_lconst (v := lN 0) hx hb dX2_combine_85 (by decide +kernel) ?_
          refine W.lcmp hx hb dX2_combine_86 ?_
          have hsp := cr_half (2 * kk) L cr
          rw [htg, show 2 * (2 * kk) = 4 * kk by omega] at hsp
          rcases Nat.mod_two_eq_zero_or_one L with h2 | h2
          · skip
            refine lv_if_eq (tgt := 97) hx hb dX2_combine_87 (by decide) (fun _ => ?_) (fun hne => absurd ((lc_eq (show L % 2 < 2 ^ 63 by omega) (by decide)).mpr h2) hne)
            refine tl1 _ _ _ ⟨cr, hcr, ?_, hw, lv_sub hl [0, 1, 2, 3, 4] rfl⟩
            rw [h2, Nat.mul_zero] at hsp; exact hsp.symm
          · skip
            refine lv_if_eq (tgt := 97) hx hb dX2_combine_87 (by decide) (fun hye => absurd hye (fun h => by have := (lc_eq (show L % 2 < 2 ^ 63 by omega) (by decide)).mp h; omega)) (fun _ => ?_)
            refine lv_aload hx hb dX2_combine_90 (lv_at hl 3 rfl) ?_
            refine lv_lload_n hx hb dX2_combine_92 rfl (lv_at hl 1 rfl) ?_
            refine go_Sl (As := [.ref ev, .long (lN cr)]) (rest := []) (wr := [(od, .inl (dO, 32, .inr (.inl go)))]) (wn := [(ev, .inl (dE, 32, .inr (.inl ge1))), (od, .inl (dO, 32, .inr (.inl go)))]) (tn := [(dE, .long), (dO, .long)]) ⟨hx, hb, hml, hown, hts⟩ (k_times l dC dI tt ev dE ge1 (2 * kk) cr _ hge1 hcr) (va_cwS 2 hts (lw_S q113 q114 q5 q115) rfl rfl rfl (by decide +kernel) ⟨(Nat.le_of_ble_eq_true rfl), (Nat.le_of_ble_eq_true rfl)⟩) hw [0] [1] [1, 0] [0, 1] [0] ⟨rfl, rfl, rfl, rfl, rfl, by decide, rfl, rfl, rfl⟩ hl.1 rfl rfl (Nat.le_of_ble_eq_true rfl) dX2_combine_93 ⟨(Nat.le_of_ble_eq_true rfl), (Nat.le_of_ble_eq_true rfl)⟩ (k1 := 2) (n1 := 64) ⟨rfl, rfl⟩ (fun H locs hw => ?_)
            refine lv_lstore_n (lv' := [(0, .long (lN (cr_it (2 * kk) cr))), (4, .long (lN L)), (2, .long (lN y)), (8, .ref ev), (9, .ref od)]) hx hb dX2_combine_96 rfl hl (by decide) rfl (fun ls hl => ?_)
            refine tl1 _ _ _ ⟨cr_it (2 * kk) cr, cr_it_lt _ hcr, ?_, hw, lv_sub hl [1, 0, 2, 3, 4] rfl⟩
            rw [h2, Nat.mul_one] at hsp; exact hsp.symm
    · skip
      refine lv_icmp_ge (tgt := 60) hx hb dX2_combine_38 (by decide) (fun hye => absurd hye (nI_ge (show q + 1 < 32 by omega) (by decide))) (fun _ => ?_)
      refine lv_aload hx hb dX2_combine_41 (lv_at hl 2 rfl) ?_
      refine lv_iload hx hb dX2_combine_43 (lv_at hl 0 rfl) ?_
      refine lv_lload hx hb dX2_combine_45 (lv_at hl 1 rfl) ?_
      refine va_last (D := (dC, dI)) hx hb hw.2.2.1 hw.1 hw.2.1 hw.2.2.2.1 1 1 rfl rfl (vp_in_nI (show q + 1 < 32 by omega) (by decide)) dX2_combine_47 (fun H locs hP hD hS => ?_)
      rw [nI_clamp (show q + 1 < 2 ^ 31 by omega)] at hP hD
      have hw : Wd_ dC dI tt [(ev, .inl (dE, 32, .inr (.inl (fun _ => 0)))), (od, .inl (dO, 32, .inr (.inl (vp_updL u (q + 1) (lN (2 ^ q))))))] [(dE, .long), (dO, .long)] A s _ _ := ⟨hP, hD, hw.2.2.1, hS, hw.2.2.2.2⟩
      refine lv_lload hx hb dX2_combine_48 (lv_at hl 1 rfl) ?_
      refine lv_iconst (v := nI 1) hx hb dX2_combine_50 (by decide +kernel) ?_
      refine lv_lshl (v := lN (2 ^ (q + 1))) hx hb dX2_combine_51 (by rw [Nat.pow_succ]; exact wb_shl (2 ^ q) (k := 1) (by decide)) ?_
      refine lv_lstore (lv' := [(6, .long (lN (2 ^ (q + 1)))), (10, .int (nI (q + 1))), (9, .ref od), (8, .ref ev), (0, .long (lN x)), (2, .long (lN y)), (4, .long (lN k))]) hx hb dX2_combine_52 hl (by decide) rfl (fun ls hl => ?_)
      refine lv_iinc (v := nI (q + 1 + 1)) (lv' := [(10, .int (nI (q + 1 + 1))), (6, .long (lN (2 ^ (q + 1)))), (9, .ref od), (8, .ref ev), (0, .long (lN x)), (2, .long (lN y)), (4, .long (lN k))]) hx hb dX2_combine_54 hl (k := 1) rfl (ii_p1 (q + 1)) (by decide) rfl (fun ls hl => ?_)
      refine lv_goto (tgt := 34) hx hb dX2_combine_57 (by decide) ?_
      refine ih r (Nat.lt_succ_self r) _ _ _ ⟨q + 1, vp_updL u (q + 1) (lN (2 ^ q)), by omega, fun j hj => ?_, hw, lv_sub hl [0, 1, 2, 3, 4, 5, 6] rfl⟩
      by_cases e : j = q + 1
      · subst e; exact pk_uLs.trans (congrArg lN (cr_it1_s q).symm)
      · exact (pk_uLn e).trans (hu j (by omega))
end
section
set_option maxRecDepth 100000
/-- a fall by d -/
def ad_r (d x : Nat) : Nat := if x < d then x else x - d
theorem ad_r_lt {d x : Nat} (h : x < d) : ad_r d x = x := if_pos h
theorem ad_r_ge {d x : Nat} (h : d ≤ x) : ad_r d x = x - d := if_neg (Nat.not_lt.mpr h)
theorem ad_r_le {d x : Nat} : ad_r d x ≤ x := by
  unfold ad_r
  split
  · exact Nat.le_refl x
  · exact Nat.sub_le x d
theorem ad_r2 {x : Nat} (h : x < 3 * 65521) : ad_r 65521 (ad_r 65521 x) < 65521 := by
  unfold ad_r
  repeat' split
  all_goals omega
/-- what Adler32.combine answers -/
def ad_C (a1 b1 a2 b2 k : Nat) : Nat := ad_r 65521 (ad_r 65521 (a1 + (a2 + 65521 - 1))) + ad_r 65521 (ad_r 131042 (k * a1 % 65521 + (b1 + b2 + 65521 - k))) * 65536
theorem ad_lo {a b : Nat} (h : a < 65536) : (a + b * 65536) % 65536 = a := by omega
theorem ad_hi {a b : Nat} (h : a < 65536) : (a + b * 65536) / 65536 = b := by omega
/-- THE LAW of joining: Adler-32 -/
theorem ad_cat {b : Nat → Nat} (f k m : Nat) (hm : m < 65521) : ad_C (ad_A b f k % 65521) (ad_S b f k % 65521) (ad_A b (f + k) m % 65521) (ad_S b (f + k) m % 65521) m = ad_V b f (k + m) := by
  have h1 := ad_j1 (ad_A_cat b f k m) _ rfl
  have h2 := ad_j2 (ad_S_cat b f k m) hm _ rfl
  unfold ad_C ad_V
  generalize ad_A b f k % 65521 + (ad_A b (f + k) m % 65521 + 65521 - 1) = x at h1 ⊢
  generalize m * (ad_A b f k % 65521) % 65521 + (ad_S b f k % 65521 + ad_S b (f + k) m % 65521 + 65521 - m) = y at h2 ⊢
  obtain ⟨p1, p2, p3, p4⟩ := h1
  obtain ⟨r1, r2, r3, r4, r5⟩ := h2
  have e1 : ad_r 65521 (ad_r 65521 x) = ad_A b f (k + m) % 65521 := by
    unfold ad_r
    repeat' split
    all_goals omega
  have e2 : ad_r 65521 (ad_r 131042 y) = ad_S b f (k + m) % 65521 := by
    unfold ad_r
    repeat' split
    all_goals omega
  rw [e1, e2]
theorem ad_V_0 (b : Nat → Nat) (f : Nat) : ad_V b f 0 = 1 := by
  show 1 % 65521 + 0 % 65521 * 65536 = 1
  decide
set_option maxHeartbeats 4000000 in
/-- Adler32() -/
theorem k_ad_init (l : Launch) (dC : Nat → ClassId) (dI : Nat → Nat → Nat) (tt : Nat) (h0 : Nat) (a b : Int64) (sz : Nat) : Met l yX3_init (ws_ yX3_init cX3_init 1 none) ({ frames := 1, cells := 0, slots := 0, locals := 12 }) (va_Pc [.ref h0] (st_ dC dI tt [(h0, .inr (2, [.long (a), .long (b)]))] [] sz)) (Qv_ (fun _ : Unit => True) (fun _ => [(h0, .inr (2, [.long (lN 1), .long (lN 0)]))]) (fun _ => []) dC dI (va_A [(h0, .inr (2, [.long (a), .long (b)]))] sz)) 0 0 (va_A [(h0, .inr (2, [.long (a), .long (b)]))] sz) := by
  refine met_pro (QA := Qv_ (fun _ : Unit => True) (fun _ => [(h0, .inr (2, [.long (lN 1), .long (lN 0)]))]) (fun _ => []) dC dI) (by decide +kernel) (Nat.le_of_ble_eq_true rfl) ?_
  intro p e s m below meth c A ls hx hb hr hml hts hown hlocks hname hw hl
  have hown : s.vm.findClass RX3 = some m.cls := hown
  have hl : lv_has ls 1 [(0, .ref h0)] := hl
  refine lv_aload_n hx hb dX3_init_0 rfl (lv_at hl 0 rfl) ?_
  refine W.objInit hx hb hown (hts _ q81) (hts _ q13) (hts _ q14) rfl (by rw [hml]; exact hl.1) rfl dX3_init_1 (Nat.le_of_ble_eq_true rfl) (Nat.le_of_ble_eq_true rfl) ?_
  refine W.eq (g2 := F0 m 4 ls []) rfl ?_
  refine lv_aload_n hx hb dX3_init_4 rfl (lv_at hl 0 rfl) ?_
  refine lv_lconst (v := lN 1) hx hb dX3_init_5 (by decide +kernel) ?_
  refine va_put (D := (dC, dI)) (ci := 2) (v := .long (lN 1)) (ty := .long) (C := RX3) (T := TX3) (N := 2) hx hb hts in_X3 tyX3 tyX3_ok nmX3 hown hw.2.2.1 hw.1 hw.2.1 hw.2.2.2.1 0 rfl rfl 0 (by decide) (hts _ q82) (fun _ h9 => h9) rfl (by decide +kernel) rfl rfl (Nat.le_of_ble_eq_true rfl) dX3_init_6 (fun H locs hP hD hS => ?_)
  have hw : Wd_ dC dI tt [(h0, .inr (2, [.long (lN 1), .long (b)]))] [] A s _ _ := ⟨hP, hD, hw.2.2.1, hS, hw.2.2.2.2⟩
  refine lv_aload_n hx hb dX3_init_9 rfl (lv_at hl 0 rfl) ?_
  refine lv_lconst (v := lN 0) hx hb dX3_init_10 (by decide +kernel) ?_
  refine va_put (D := (dC, dI)) (ci := 2) (v := .long (lN 0)) (ty := .long) (C := RX3) (T := TX3) (N := 2) hx hb hts in_X3 tyX3 tyX3_ok nmX3 hown hw.2.2.1 hw.1 hw.2.1 hw.2.2.2.1 0 rfl rfl 1 (by decide) (hts _ q83) (fun _ h9 => h9) rfl (by decide +kernel) rfl rfl (Nat.le_of_ble_eq_true rfl) dX3_init_11 (fun H locs hP hD hS => ?_)
  have hw : Wd_ dC dI tt [(h0, .inr (2, [.long (lN 1), .long (lN 0)]))] [] A s _ _ := ⟨hP, hD, hw.2.2.1, hS, hw.2.2.2.2⟩
  exact W.vret hx hb hr (fun t ht hW => ⟨⟨(), rfl, trivial, en_ret hw [0] rfl rfl [] rfl ht hW⟩, hw.2.2.2.1.F ht⟩) hw.2.2.2.1.2.2 dX3_init_14
set_option maxHeartbeats 4000000 in
/-- Adler32.getValue() -/
theorem k_ad_value (l : Launch) (dC : Nat → ClassId) (dI : Nat → Nat → Nat) (tt : Nat) (h0 a b : Nat) (sz : Nat) (ha : a < 65536) (hb0 : b < 65536) : Met l yX3_getValue (ws_ yX3_getValue cX3_getValue 1 (some .long)) ({ frames := 0, cells := 0, slots := 0, locals := 0 }) (va_Pc [.ref h0] (st_ dC dI tt [(h0, .inr (2, [.long (lN a), .long (lN b)]))] [] sz)) (Ql_ (lN (a + b * 65536)) [(h0, .inr (2, [.long (lN a), .long (lN b)]))] [] dC dI (va_A [(h0, .inr (2, [.long (lN a), .long (lN b)]))] sz)) 0 0 (va_A [(h0, .inr (2, [.long (lN a), .long (lN b)]))] sz) := by
  refine met_pro (QA := Ql_ (lN (a + b * 65536)) [(h0, .inr (2, [.long (lN a), .long (lN b)]))] [] dC dI) (by decide +kernel) (Nat.le_of_ble_eq_true rfl) ?_
  intro p e s m below meth c A ls hx hb hr hml hts hown hlocks hname hw hl
  have hown : s.vm.findClass RX3 = some m.cls := hown
  have hl : lv_has ls 1 [(0, .ref h0)] := hl
  refine lv_aload_n hx hb dX3_getValue_0 rfl (lv_at hl 0 rfl) ?_
  refine va_get (D := (dC, dI)) (ci := 2) (v := .long (lN b)) (C := RX3) (T := TX3) (N := 2) hx hb hts in_X3 hown hw.2.2.1 hw.1 0 rfl rfl 1 (by decide) (hts _ q83) (fun _ h9 => h9) rfl dX3_getValue_1 ?_
  refine lv_bipush (v := nI 16) hx hb dX3_getValue_4 (by decide +kernel) ?_
  refine lv_lshl (v := lN (b * 65536)) hx hb dX3_getValue_6 (wb_shl b (k := 16) (by decide)) ?_
  refine lv_aload_n hx hb dX3_getValue_7 rfl (lv_at hl 0 rfl) ?_
  refine va_get (D := (dC, dI)) (ci := 2) (v := .long (lN a)) (C := RX3) (T := TX3) (N := 2) hx hb hts in_X3 hown hw.2.2.1 hw.1 0 rfl rfl 0 (by decide) (hts _ q82) (fun _ h9 => h9) rfl dX3_getValue_8 ?_
  refine lv_lor hx hb dX3_getValue_11 ?_
  refine wv_l (y := lN (a + b * 65536)) ((g_or (k := 16) (p := 65536) rfl ha (by omega)).trans (congrArg lN (Nat.add_comm _ _))) ?_
  exact W.lret hx hb hr (fun t ht hW => ⟨⟨_, (), rfl, rfl, en_ret hw [0] rfl rfl [] rfl ht hW⟩, hw.2.2.2.1.F ht⟩) hw.2.2.2.1.2.2 dX3_getValue_12
set_option maxHeartbeats 4000000 in
/-- Adler32.update(byte[], int, int), of a new one -/
theorem k_ad_update (l : Launch) (dC : Nat → ClassId) (dI : Nat → Nat → Nat) (tt : Nat) (h0 bt : Nat) (dB : ClassId) (N : Nat) (f : Nat → Int32) (i n : Nat) (sz : Nat) (hN : N ≤ 4096) (hin : i + n ≤ N) : Met l yX3_update (ws_ yX3_update cX3_update 7 none) ({ frames := 0, cells := 0, slots := 0, locals := 0 }) (va_Pc [.ref h0, .ref bt, .int (nI i), .int (nI n)] (st_ dC dI tt [(h0, .inr (2, [.long (lN 1), .long (lN 0)])), (bt, .inl (dB, N, .inl f))] [(dB, .byte)] sz)) (Qv_ (fun _ : Unit => True) (fun _ => [(h0, .inr (2, [.long (lN (ad_A (tx_ f) i n % 65521)), .long (lN (ad_S (tx_ f) i n % 65521))])), (bt, .inl (dB, N, .inl f))]) (fun _ => [(dB, .byte)]) dC dI (va_A [(h0, .inr (2, [.long (lN 1), .long (lN 0)])), (bt, .inl (dB, N, .inl f))] sz)) 0 0 (va_A [(h0, .inr (2, [.long (lN 1), .long (lN 0)])), (bt, .inl (dB, N, .inl f))] sz) := by
  refine met_pro (QA := Qv_ (fun _ : Unit => True) (fun _ => [(h0, .inr (2, [.long (lN (ad_A (tx_ f) i n % 65521)), .long (lN (ad_S (tx_ f) i n % 65521))])), (bt, .inl (dB, N, .inl f))]) (fun _ => [(dB, .byte)]) dC dI) (by decide +kernel) (Nat.le_of_ble_eq_true rfl) ?_
  intro p e s m below meth c A ls hx hb hr hml hts hown hlocks hname hw hl
  have hown : s.vm.findClass RX3 = some m.cls := hown
  have hl : lv_has ls 7 [(0, .ref h0), (1, .ref bt), (2, .int (nI i)), (3, .int (nI n))] := hl
  refine lv_iload_n hx hb dX3_update_0 rfl (lv_at hl 3 rfl) ?_
  refine lv_iconst (v := nI 1) hx hb dX3_update_1 (by decide +kernel) ?_
  by_cases h1 : n = 1
  · subst h1
    refine lv_icmp_ne (tgt := 63) hx hb dX3_update_2 (by decide) (fun hye => absurd (rfl) hye) (fun _ => ?_)
    refine lv_aload_n hx hb dX3_update_5 rfl (lv_at hl 0 rfl) ?_
    refine lv_dup hx hb dX3_update_6 rfl ?_
    refine va_get (D := (dC, dI)) (ci := 2) (v := .long (lN 1)) (C := RX3) (T := TX3) (N := 2) hx hb hts in_X3 hown hw.2.2.1 hw.1 0 rfl rfl 0 (by decide) (hts _ q82) (fun _ h9 => h9) rfl dX3_update_7 ?_
    refine lv_aload_n hx hb dX3_update_10 rfl (lv_at hl 1 rfl) ?_
    refine lv_iload_n hx hb dX3_update_11 rfl (lv_at hl 2 rfl) ?_
    refine lv_iinc (v := nI (i + (0 + 1))) (lv' := [(2, .int (nI (i + (0 + 1)))), (0, .ref h0), (1, .ref bt), (3, .int (nI 1))]) hx hb dX3_update_12 hl (k := 2) rfl (ii_p1 (i + 0)) (by decide) rfl (fun ls hl => ?_)
    refine va_bald (D := (dC, dI)) hx hb hw.2.2.1 hw.1 1 0 rfl rfl (vp_in_nI (show i + 0 < N by omega) (by omega)) dX3_update_15 ?_
    refine wv_i (y := f (i + 0)) (congrArg f (nI_clamp (show i + 0 < 2 ^ 31 by omega))) ?_
    refine lv_sipush (v := 255) hx hb dX3_update_16 (by decide +kernel) ?_
    refine lv_iand hx hb dX3_update_19 ?_
    refine wv_i (y := nI (tx_ f (i + 0))) (mw_255 _) ?_
    refine lv_i2l (v := lN (tx_ f (i + 0))) hx hb dX3_update_20 (nI_l (Nat.lt_trans (tx_lt f _) (by decide))) ?_
    refine lv_ladd hx hb dX3_update_21 ?_
    refine wv_l (y := lN (ad_A (tx_ f) i (0 + 1))) (lN_add _ _) ?_
    refine va_put (D := (dC, dI)) (ci := 2) (v := .long (lN (ad_A (tx_ f) i (0 + 1)))) (ty := .long) (C := RX3) (T := TX3) (N := 2) hx hb hts in_X3 tyX3 tyX3_ok nmX3 hown hw.2.2.1 hw.1 hw.2.1 hw.2.2.2.1 0 rfl rfl 0 (by decide) (hts _ q82) (fun _ h9 => h9) rfl (by decide +kernel) rfl rfl (Nat.le_of_ble_eq_true rfl) dX3_update_22 (fun H locs hP hD hS => ?_)
    have hw : Wd_ dC dI tt [(h0, .inr (2, [.long (lN (ad_A (tx_ f) i (0 + 1))), .long (lN 0)])), (bt, .inl (dB, N, .inl f))] [(dB, .byte)] A s _ _ := ⟨hP, hD, hw.2.2.1, hS, hw.2.2.2.2⟩
    refine lv_aload_n hx hb dX3_update_25 rfl (lv_at hl 1 rfl) ?_
    refine lv_dup hx hb dX3_update_26 rfl ?_
    refine va_get (D := (dC, dI)) (ci := 2) (v := .long (lN 0)) (C := RX3) (T := TX3) (N := 2) hx hb hts in_X3 hown hw.2.2.1 hw.1 0 rfl rfl 1 (by decide) (hts _ q83) (fun _ h9 => h9) rfl dX3_update_27 ?_
    refine lv_aload_n hx hb dX3_update_30 rfl (lv_at hl 1 rfl) ?_
    refine va_get (D := (dC, dI)) (ci := 2) (v := .long (lN (ad_A (tx_ f) i (0 + 1)))) (C := RX3) (T := TX3) (N := 2) hx hb hts in_X3 hown hw.2.2.1 hw.1 0 rfl rfl 0 (by decide) (hts _ q82) (fun _ h9 => h9) rfl dX3_update_31 ?_
    refine lv_ladd hx hb dX3_update_34 ?_
    refine wv_l (y := lN (ad_S (tx_ f) i (0 + 1))) (lN_add _ _) ?_
    refine va_put (D := (dC, dI)) (ci := 2) (v := .long (lN (ad_S (tx_ f) i (0 + 1)))) (ty := .long) (C := RX3) (T := TX3) (N := 2) hx hb hts in_X3 tyX3 tyX3_ok nmX3 hown hw.2.2.1 hw.1 hw.2.1 hw.2.2.2.1 0 rfl rfl 1 (by decide) (hts _ q83) (fun _ h9 => h9) rfl (by decide +kernel) rfl rfl (Nat.le_of_ble_eq_true rfl) dX3_update_35 (fun H locs hP hD hS => ?_)
    have hw : Wd_ dC dI tt [(h0, .inr (2, [.long (lN (ad_A (tx_ f) i (0 + 1))), .long (lN (ad_S (tx_ f) i (0 + 1)))])), (bt, .inl (dB, N, .inl f))] [(dB, .byte)] A s _ _ := ⟨hP, hD, hw.2.2.1, hS, hw.2.2.2.2⟩
    refine lv_aload_n hx hb dX3_update_38 rfl (lv_at hl 1 rfl) ?_
    refine lv_dup hx hb dX3_update_39 rfl ?_
    refine va_get (D := (dC, dI)) (ci := 2) (v := .long (lN (ad_A (tx_ f) i (0 + 1)))) (C := RX3) (T := TX3) (N := 2) hx hb hts in_X3 hown hw.2.2.1 hw.1 0 rfl rfl 0 (by decide) (hts _ q82) (fun _ h9 => h9) rfl dX3_update_40 ?_
    refine lv_ldc2 (v := (65521 : Int64)) hx hb hown (hts _ q93) dX3_update_43 ?_
    refine wv_l (y := lN 65521) (by decide +kernel) ?_
    refine lv_lrem hx hb dX3_update_46 (by decide +kernel) ?_
    refine wv_l (y := lN (ad_A (tx_ f) i (0 + 1) % 65521)) (pk_lRem (by have := ad_A_le (tx_lt f) i (0 + 1); omega) (by decide) (by decide)) ?_
    refine va_put (D := (dC, dI)) (ci := 2) (v := .long (lN (ad_A (tx_ f) i (0 + 1) % 65521))) (ty := .long) (C := RX3) (T := TX3) (N := 2) hx hb hts in_X3 tyX3 tyX3_ok nmX3 hown hw.2.2.1 hw.1 hw.2.1 hw.2.2.2.1 0 rfl rfl 0 (by decide) (hts _ q82) (fun _ h9 => h9) rfl (by decide +kernel) rfl rfl (Nat.le_of_ble_eq_true rfl) dX3_update_47 (fun H locs hP hD hS => ?_)
    have hw : Wd_ dC dI tt [(h0, .inr (2, [.long (lN (ad_A (tx_ f) i (0 + 1) % 65521)), .long (lN (ad_S (tx_ f) i (0 + 1)))])), (bt, .inl (dB, N, .inl f))] [(dB, .byte)] A s _ _ := ⟨hP, hD, hw.2.2.1, hS, hw.2.2.2.2⟩
    refine lv_aload_n hx hb dX3_update_50 rfl (lv_at hl 1 rfl) ?_
    refine lv_dup hx hb dX3_update_51 rfl ?_
    refine va_get (D := (dC, dI)) (ci := 2) (v := .long (lN (ad_S (tx_ f) i (0 + 1)))) (C := RX3) (T := TX3) (N := 2) hx hb hts in_X3 hown hw.2.2.1 hw.1 0 rfl rfl 1 (by decide) (hts _ q83) (fun _ h9 => h9) rfl dX3_update_52 ?_
    refine lv_ldc2 (v := (65521 : Int64)) hx hb hown (hts _ q93) dX3_update_55 ?_
    refine wv_l (y := lN 65521) (by decide +kernel) ?_
    refine lv_lrem hx hb dX3_update_58 (by decide +kernel) ?_
    refine wv_l (y := lN (ad_S (tx_ f) i (0 + 1) % 65521)) (pk_lRem (by have := ad_S_le (tx_lt f) i (N := 4096) (0 + 1) (by omega); have : (0 + 1) * (1 + 255 * 4096) ≤ 4096 * (1 + 255 * 4096) := Nat.mul_le_mul_right _ (by omega); omega) (by decide) (by decide)) ?_
    refine va_put (D := (dC, dI)) (ci := 2) (v := .long (lN (ad_S (tx_ f) i (0 + 1) % 65521))) (ty := .long) (C := RX3) (T := TX3) (N := 2) hx hb hts in_X3 tyX3 tyX3_ok nmX3 hown hw.2.2.1 hw.1 hw.2.1 hw.2.2.2.1 0 rfl rfl 1 (by decide) (hts _ q83) (fun _ h9 => h9) rfl (by decide +kernel) rfl rfl (Nat.le_of_ble_eq_true rfl) dX3_update_59 (fun H locs hP hD hS => ?_)
    have hw : Wd_ dC dI tt [(h0, .inr (2, [.long (lN (ad_A (tx_ f) i (0 + 1) % 65521)), .long (lN (ad_S (tx_ f) i (0 + 1) % 65521))])), (bt, .inl (dB, N, .inl f))] [(dB, .byte)] A s _ _ := ⟨hP, hD, hw.2.2.1, hS, hw.2.2.2.2⟩
    exact W.vret hx hb hr (fun t ht hW => ⟨⟨(), rfl, trivial, en_ret hw [0, 1] rfl rfl [0] rfl ht hW⟩, hw.2.2.2.1.F ht⟩) hw.2.2.2.1.2.2 dX3_update_62
  · skip
    refine lv_icmp_ne (tgt := 63) hx hb dX3_update_2 (by decide) (fun _ => ?_) (fun hne => absurd hne (fun h => h1 ((nI_eq (by omega) (by decide)).mp h)))
    refine lv_iload_n hx hb dX3_update_63 rfl (lv_at hl 3 rfl) ?_
    refine lv_sipush (v := nI 5552) hx hb dX3_update_64 (by decide +kernel) ?_
    refine lv_idiv hx hb dX3_update_67 (by decide +kernel) ?_
    refine wv_i (y := nI 0) ((pk_div (by omega) (by decide) (by decide)).trans (congrArg nI (Nat.div_eq_of_lt (by omega)))) ?_
    refine lv_istore (lv' := [(4, .int (nI 0)), (0, .ref h0), (1, .ref bt), (2, .int (nI i)), (3, .int (nI n))]) hx hb dX3_update_68 hl (by decide) rfl (fun ls hl => ?_)
    refine lv_iload_n hx hb dX3_update_70 rfl (lv_at hl 4 rfl) ?_
    refine lv_sipush (v := nI 5552) hx hb dX3_update_71 (by decide +kernel) ?_
    refine lv_irem hx hb dX3_update_74 (by decide +kernel) ?_
    refine wv_i (y := nI n) ((pk_rem (by omega) (by decide) (by decide)).trans (congrArg nI (Nat.mod_eq_of_lt (by omega)))) ?_
    refine lv_istore (lv' := [(5, .int (nI n)), (4, .int (nI 0)), (0, .ref h0), (1, .ref bt), (2, .int (nI i)), (3, .int (nI n))]) hx hb dX3_update_75 hl (by decide) rfl (fun ls hl => ?_)
    refine lv_iload hx hb dX3_update_77 (lv_at hl 1 rfl) ?_
    refine lv_iinc (v := (-1)) (lv' := [(4, .int ((-1))), (5, .int (nI n)), (0, .ref h0), (1, .ref bt), (2, .int (nI i)), (3, .int (nI n))]) hx hb dX3_update_79 hl (k := 1) rfl (ii_m0) (by decide) rfl (fun ls hl => ?_)
    refine lv_if_le (tgt := 166) hx hb dX3_update_82 (by decide) (fun _ => ?_) (fun hne => absurd (by decide +kernel) hne)
    refine lv_iload hx hb dX3_update_166 (lv_at hl 1 rfl) ?_
    refine lv_istore (lv' := [(6, .int (nI n)), (4, .int ((-1))), (5, .int (nI n)), (0, .ref h0), (1, .ref bt), (2, .int (nI i)), (3, .int (nI n))]) hx hb dX3_update_168 hl (by decide) rfl (fun ls hl => ?_)
    refine lv_iload_n hx hb dX3_update_170 rfl (lv_at hl 6 rfl) ?_
    refine lv_iload hx hb dX3_update_171 (lv_at hl 0 rfl) ?_
    refine lv_isub hx hb dX3_update_173 ?_
    refine lv_istore_n (lv' := [(3, .int ((nI n) - (nI n))), (6, .int (nI n)), (4, .int ((-1))), (5, .int (nI n)), (0, .ref h0), (1, .ref bt), (2, .int (nI i))]) hx hb dX3_update_174 rfl hl (by decide) rfl (fun ls hl => ?_)
    refine w_ind (I := fun r H locs ls => ∃ j, j + r = n ∧ Wd_ dC dI tt [(h0, .inr (2, [.long (lN (ad_A (tx_ f) i j)), .long (lN (ad_S (tx_ f) i j))])), (bt, .inl (dB, N, .inl f))] [(dB, .byte)] A s H locs ∧ lv_has ls 7 [(6, .int (nI r)), (2, .int (nI (i + j))), (0, .ref h0), (1, .ref bt)]) ?_ n ⟨0, by omega, hw, lv_sub hl [1, 6, 4, 5] rfl⟩
    intro r ih H locs ls ⟨j, hj, hw1, hl1⟩
    rcases r with _ | r
    · obtain rfl : j = n := by omega
      have hw := hw1
      have hl := hl1
      refine lv_iload hx hb dX3_update_175 (lv_at hl 0 rfl) ?_
      refine lv_iinc (v := (-1)) (lv' := [(6, .int ((-1))), (2, .int (nI (i + j))), (0, .ref h0), (1, .ref bt)]) hx hb dX3_update_177 hl (k := 0) rfl (ii_m0) (by decide) rfl (fun ls hl => ?_)
      refine lv_if_le (tgt := 219) hx hb dX3_update_180 (by decide) (fun _ => ?_) (fun hne => absurd (by decide +kernel) hne)
      refine lv_aload_n hx hb dX3_update_219 rfl (lv_at hl 2 rfl) ?_
      refine lv_dup hx hb dX3_update_220 rfl ?_
      refine va_get (D := (dC, dI)) (ci := 2) (v := .long (lN (ad_A (tx_ f) i j))) (C := RX3) (T := TX3) (N := 2) hx hb hts in_X3 hown hw.2.2.1 hw.1 0 rfl rfl 0 (by decide) (hts _ q82) (fun _ h9 => h9) rfl dX3_update_221 ?_
      refine lv_ldc2 (v := (65521 : Int64)) hx hb hown (hts _ q93) dX3_update_224 ?_
      refine wv_l (y := lN 65521) (by decide +kernel) ?_
      refine lv_lrem hx hb dX3_update_227 (by decide +kernel) ?_
      refine wv_l (y := lN (ad_A (tx_ f) i (j) % 65521)) (pk_lRem (by have := ad_A_le (tx_lt f) i (j); omega) (by decide) (by decide)) ?_
      refine va_put (D := (dC, dI)) (ci := 2) (v := .long (lN (ad_A (tx_ f) i (j) % 65521))) (ty := .long) (C := RX3) (T := TX3) (N := 2) hx hb hts in_X3 tyX3 tyX3_ok nmX3 hown hw.2.2.1 hw.1 hw.2.1 hw.2.2.2.1 0 rfl rfl 0 (by decide) (hts _ q82) (fun _ h9 => h9) rfl (by decide +kernel) rfl rfl (Nat.le_of_ble_eq_true rfl) dX3_update_228 (fun H locs hP hD hS => ?_)
      have hw : Wd_ dC dI tt [(h0, .inr (2, [.long (lN (ad_A (tx_ f) i (j) % 65521)), .long (lN (ad_S (tx_ f) i j))])), (bt, .inl (dB, N, .inl f))] [(dB, .byte)] A s _ _ := ⟨hP, hD, hw.2.2.1, hS, hw.2.2.2.2⟩
      refine lv_aload_n hx hb dX3_update_231 rfl (lv_at hl 2 rfl) ?_
      refine lv_dup hx hb dX3_update_232 rfl ?_
      refine va_get (D := (dC, dI)) (ci := 2) (v := .long (lN (ad_S (tx_ f) i j))) (C := RX3) (T := TX3) (N := 2) hx hb hts in_X3 hown hw.2.2.1 hw.1 0 rfl rfl 1 (by decide) (hts _ q83) (fun _ h9 => h9) rfl dX3_update_233 ?_
      refine lv_ldc2 (v := (65521 : Int64)) hx hb hown (hts _ q93) dX3_update_236 ?_
      refine wv_l (y := lN 65521) (by decide +kernel) ?_
      refine lv_lrem hx hb dX3_update_239 (by decide +kernel) ?_
      refine wv_l (y := lN (ad_S (tx_ f) i (j) % 65521)) (pk_lRem (by have := ad_S_le (tx_lt f) i (N := 4096) (j) (by omega); have : (j) * (1 + 255 * 4096) ≤ 4096 * (1 + 255 * 4096) := Nat.mul_le_mul_right _ (by omega); omega) (by decide) (by decide)) ?_
      refine va_put (D := (dC, dI)) (ci := 2) (v := .long (lN (ad_S (tx_ f) i (j) % 65521))) (ty := .long) (C := RX3) (T := TX3) (N := 2) hx hb hts in_X3 tyX3 tyX3_ok nmX3 hown hw.2.2.1 hw.1 hw.2.1 hw.2.2.2.1 0 rfl rfl 1 (by decide) (hts _ q83) (fun _ h9 => h9) rfl (by decide +kernel) rfl rfl (Nat.le_of_ble_eq_true rfl) dX3_update_240 (fun H locs hP hD hS => ?_)
      have hw : Wd_ dC dI tt [(h0, .inr (2, [.long (lN (ad_A (tx_ f) i (j) % 65521)), .long (lN (ad_S (tx_ f) i (j) % 65521))])), (bt, .inl (dB, N, .inl f))] [(dB, .byte)] A s _ _ := ⟨hP, hD, hw.2.2.1, hS, hw.2.2.2.2⟩
      exact W.vret hx hb hr (fun t ht hW => ⟨⟨(), rfl, trivial, en_ret hw [0, 1] rfl rfl [0] rfl ht hW⟩, hw.2.2.2.1.F ht⟩) hw.2.2.2.1.2.2 dX3_update_243
    · skip
      have hw := hw1
      have hl := hl1
      refine lv_iload hx hb dX3_update_175 (lv_at hl 0 rfl) ?_
      refine lv_iinc (v := nI r) (lv' := [(6, .int (nI r)), (2, .int (nI (i + j))), (0, .ref h0), (1, .ref bt)]) hx hb dX3_update_177 hl (k := 0) rfl (ii_m1 r) (by decide) rfl (fun ls hl => ?_)
      refine lv_if_le (tgt := 219) hx hb dX3_update_180 (by decide) (fun hye => absurd hye (nI_nle (Nat.succ_pos r) (by omega))) (fun _ => ?_)
      refine lv_aload_n hx hb dX3_update_183 rfl (lv_at hl 2 rfl) ?_
      refine lv_dup hx hb dX3_update_184 rfl ?_
      refine va_get (D := (dC, dI)) (ci := 2) (v := .long (lN (ad_A (tx_ f) i j))) (C := RX3) (T := TX3) (N := 2) hx hb hts in_X3 hown hw.2.2.1 hw.1 0 rfl rfl 0 (by decide) (hts _ q82) (fun _ h9 => h9) rfl dX3_update_185 ?_
      refine lv_aload_n hx hb dX3_update_188 rfl (lv_at hl 3 rfl) ?_
      refine lv_iload_n hx hb dX3_update_189 rfl (lv_at hl 1 rfl) ?_
      refine lv_iinc (v := nI (i + (j + 1))) (lv' := [(2, .int (nI (i + (j + 1)))), (6, .int (nI r)), (0, .ref h0), (1, .ref bt)]) hx hb dX3_update_190 hl (k := 1) rfl (ii_p1 (i + j)) (by decide) rfl (fun ls hl => ?_)
      refine va_bald (D := (dC, dI)) hx hb hw.2.2.1 hw.1 1 0 rfl rfl (vp_in_nI (show i + j < N by omega) (by omega)) dX3_update_193 ?_
      refine wv_i (y := f (i + j)) (congrArg f (nI_clamp (show i + j < 2 ^ 31 by omega))) ?_
      refine lv_sipush (v := 255) hx hb dX3_update_194 (by decide +kernel) ?_
      refine lv_iand hx hb dX3_update_197 ?_
      refine wv_i (y := nI (tx_ f (i + j))) (mw_255 _) ?_
      refine lv_i2l (v := lN (tx_ f (i + j))) hx hb dX3_update_198 (nI_l (Nat.lt_trans (tx_lt f _) (by decide))) ?_
      refine lv_ladd hx hb dX3_update_199 ?_
      refine wv_l (y := lN (ad_A (tx_ f) i (j + 1))) (lN_add _ _) ?_
      refine va_put (D := (dC, dI)) (ci := 2) (v := .long (lN (ad_A (tx_ f) i (j + 1)))) (ty := .long) (C := RX3) (T := TX3) (N := 2) hx hb hts in_X3 tyX3 tyX3_ok nmX3 hown hw.2.2.1 hw.1 hw.2.1 hw.2.2.2.1 0 rfl rfl 0 (by decide) (hts _ q82) (fun _ h9 => h9) rfl (by decide +kernel) rfl rfl (Nat.le_of_ble_eq_true rfl) dX3_update_200 (fun H locs hP hD hS => ?_)
      have hw : Wd_ dC dI tt [(h0, .inr (2, [.long (lN (ad_A (tx_ f) i (j + 1))), .long (lN (ad_S (tx_ f) i j))])), (bt, .inl (dB, N, .inl f))] [(dB, .byte)] A s _ _ := ⟨hP, hD, hw.2.2.1, hS, hw.2.2.2.2⟩
      refine lv_aload_n hx hb dX3_update_203 rfl (lv_at hl 2 rfl) ?_
      refine lv_dup hx hb dX3_update_204 rfl ?_
      refine va_get (D := (dC, dI)) (ci := 2) (v := .long (lN (ad_S (tx_ f) i j))) (C := RX3) (T := TX3) (N := 2) hx hb hts in_X3 hown hw.2.2.1 hw.1 0 rfl rfl 1 (by decide) (hts _ q83) (fun _ h9 => h9) rfl dX3_update_205 ?_
      refine lv_aload_n hx hb dX3_update_208 rfl (lv_at hl 2 rfl) ?_
      refine va_get (D := (dC, dI)) (ci := 2) (v := .long (lN (ad_A (tx_ f) i (j + 1)))) (C := RX3) (T := TX3) (N := 2) hx hb hts in_X3 hown hw.2.2.1 hw.1 0 rfl rfl 0 (by decide) (hts _ q82) (fun _ h9 => h9) rfl dX3_update_209 ?_
      refine lv_ladd hx hb dX3_update_212 ?_
      refine wv_l (y := lN (ad_S (tx_ f) i (j + 1))) (lN_add _ _) ?_
      refine va_put (D := (dC, dI)) (ci := 2) (v := .long (lN (ad_S (tx_ f) i (j + 1)))) (ty := .long) (C := RX3) (T := TX3) (N := 2) hx hb hts in_X3 tyX3 tyX3_ok nmX3 hown hw.2.2.1 hw.1 hw.2.1 hw.2.2.2.1 0 rfl rfl 1 (by decide) (hts _ q83) (fun _ h9 => h9) rfl (by decide +kernel) rfl rfl (Nat.le_of_ble_eq_true rfl) dX3_update_213 (fun H locs hP hD hS => ?_)
      have hw : Wd_ dC dI tt [(h0, .inr (2, [.long (lN (ad_A (tx_ f) i (j + 1))), .long (lN (ad_S (tx_ f) i (j + 1)))])), (bt, .inl (dB, N, .inl f))] [(dB, .byte)] A s _ _ := ⟨hP, hD, hw.2.2.1, hS, hw.2.2.2.2⟩
      refine lv_goto (tgt := 175) hx hb dX3_update_216 (by decide) ?_
      exact ih r (Nat.lt_succ_self r) _ _ _ ⟨j + 1, by omega, hw, lv_sub hl [1, 0, 2, 3] rfl⟩
set_option maxHeartbeats 4000000 in
/-- Adler32.combine(long, long, long) -/
theorem k_ad_combine (l : Launch) (dC : Nat → ClassId) (dI : Nat → Nat → Nat) (tt : Nat) (a1 b1 a2 b2 k : Nat) (sz : Nat) (ha1 : a1 < 65521) (hb1 : b1 < 65521) (ha2 : a2 < 65521) (hb2 : b2 < 65521) (hk : k < 65521) : Met l yX3_combine (ws_ yX3_combine cX3_combine 14 (some .long)) ({ frames := 0, cells := 0, slots := 0, locals := 0 }) (va_Pc [.long (lN (a1 + b1 * 65536)), .long (lN (a2 + b2 * 65536)), .long (lN k)] (st_ dC dI tt [] [] sz)) (Ql_ (lN (ad_C a1 b1 a2 b2 k)) [] [] dC dI (va_A [] sz)) 0 0 (va_A [] sz) := by
  refine met_pro (QA := Ql_ (lN (ad_C a1 b1 a2 b2 k)) [] [] dC dI) (by decide +kernel) (Nat.le_of_ble_eq_true rfl) ?_
  intro p e s m below meth c A ls hx hb hr hml hts hown hlocks hname hw hl
  have hown : s.vm.findClass RX3 = some m.cls := hown
  have hl : lv_has ls 14 [(0, .long (lN (a1 + b1 * 65536))), (2, .long (lN (a2 + b2 * 65536))), (4, .long (lN k))] := hl
  have hka : k * a1 ≤ 65521 * 65521 := Nat.mul_le_mul (Nat.le_of_lt hk) (Nat.le_of_lt ha1)
  have hq : k * a1 % 65521 < 65521 := Nat.mod_lt _ (by decide)
  refine lv_ldc2 (v := (65521 : Int64)) hx hb hown (hts _ q93) dX3_combine_0 ?_
  refine wv_l (y := lN 65521) (by decide +kernel) ?_
  refine lv_lstore (lv' := [(6, .long (lN 65521)), (0, .long (lN (a1 + b1 * 65536))), (2, .long (lN (a2 + b2 * 65536))), (4, .long (lN k))]) hx hb dX3_combine_3 hl (by decide) rfl (fun ls hl => ?_)
  refine lv_lload hx hb dX3_combine_5 (lv_at hl 3 rfl) ?_
  refine lv_lload hx hb dX3_combine_7 (lv_at hl 0 rfl) ?_
  refine lv_lrem hx hb dX3_combine_9 (by decide +kernel) ?_
  refine wv_l (y := lN k) ((pk_lRem (by omega) (by decide) (by decide)).trans (congrArg lN (Nat.mod_eq_of_lt hk))) ?_
  refine lv_lstore (lv' := [(12, .long (lN k)), (6, .long (lN 65521)), (0, .long (lN (a1 + b1 * 65536))), (2, .long (lN (a2 + b2 * 65536))), (4, .long (lN k))]) hx hb dX3_combine_10 hl (by decide) rfl (fun ls hl => ?_)
  refine lv_lload_n hx hb dX3_combine_12 rfl (lv_at hl 2 rfl) ?_
  refine lv_ldc2 (v := (65535 : Int64)) hx hb hown (hts _ q124) dX3_combine_13 ?_
  refine wv_l (y := lN 65535) (by decide +kernel) ?_
  refine lv_land hx hb dX3_combine_16 ?_
  refine wv_l (y := lN a1) ((lx_65535 (by omega)).trans (congrArg lN (ad_lo (by omega)))) ?_
  refine lv_lstore (lv' := [(8, .long (lN a1)), (12, .long (lN k)), (6, .long (lN 65521)), (0, .long (lN (a1 + b1 * 65536))), (2, .long (lN (a2 + b2 * 65536))), (4, .long (lN k))]) hx hb dX3_combine_17 hl (by decide) rfl (fun ls hl => ?_)
  refine lv_lload hx hb dX3_combine_19 (lv_at hl 1 rfl) ?_
  refine lv_lload hx hb dX3_combine_21 (lv_at hl 0 rfl) ?_
  refine lv_lmul hx hb dX3_combine_23 ?_
  refine wv_l (y := lN (k * a1)) (lN_mul _ _) ?_
  refine lv_lstore (lv' := [(10, .long (lN (k * a1))), (8, .long (lN a1)), (12, .long (lN k)), (6, .long (lN 65521)), (0, .long (lN (a1 + b1 * 65536))), (2, .long (lN (a2 + b2 * 65536))), (4, .long (lN k))]) hx hb dX3_combine_24 hl (by decide) rfl (fun ls hl => ?_)
  refine lv_lload hx hb dX3_combine_26 (lv_at hl 0 rfl) ?_
  refine lv_lload hx hb dX3_combine_28 (lv_at hl 3 rfl) ?_
  refine lv_lrem hx hb dX3_combine_30 (by decide +kernel) ?_
  refine wv_l (y := lN (k * a1 % 65521)) (pk_lRem (by omega) (by decide) (by decide)) ?_
  refine lv_lstore (lv' := [(10, .long (lN (k * a1 % 65521))), (8, .long (lN a1)), (12, .long (lN k)), (6, .long (lN 65521)), (0, .long (lN (a1 + b1 * 65536))), (2, .long (lN (a2 + b2 * 65536))), (4, .long (lN k))]) hx hb dX3_combine_31 hl (by decide) rfl (fun ls hl => ?_)
  refine lv_lload hx hb dX3_combine_33 (lv_at hl 1 rfl) ?_
  refine lv_lload_n hx hb dX3_combine_35 rfl (lv_at hl 5 rfl) ?_
  refine lv_ldc2 (v := (65535 : Int64)) hx hb hown (hts _ q124) dX3_combine_36 ?_
  refine wv_l (y := lN 65535) (by decide +kernel) ?_
  refine lv_land hx hb dX3_combine_39 ?_
  refine wv_l (y := lN a2) ((lx_65535 (by omega)).trans (congrArg lN (ad_lo (by omega)))) ?_
  refine lv_lload hx hb dX3_combine_40 (lv_at hl 3 rfl) ?_
  refine lv_ladd hx hb dX3_combine_42 ?_
  refine wv_l (y := lN (a2 + 65521)) (lN_add _ _) ?_
  refine lv_lconst (v := lN 1) hx hb dX3_combine_43 (by decide +kernel) ?_
  refine lv_lsub hx hb dX3_combine_44 ?_
  refine wv_l (y := lN (a2 + 65521 - 1)) (lN_sub (by omega)) ?_
  refine lv_ladd hx hb dX3_combine_45 ?_
  refine wv_l (y := lN (a1 + (a2 + 65521 - 1))) (lN_add _ _) ?_
  refine lv_lstore (lv' := [(8, .long (lN (a1 + (a2 + 65521 - 1)))), (10, .long (lN (k * a1 % 65521))), (12, .long (lN k)), (6, .long (lN 65521)), (0, .long (lN (a1 + b1 * 65536))), (2, .long (lN (a2 + b2 * 65536))), (4, .long (lN k))]) hx hb dX3_combine_46 hl (by decide) rfl (fun ls hl => ?_)
  refine lv_lload hx hb dX3_combine_48 (lv_at hl 1 rfl) ?_
  refine lv_lload_n hx hb dX3_combine_50 rfl (lv_at hl 4 rfl) ?_
  refine lv_bipush (v := nI 16) hx hb dX3_combine_51 (by decide +kernel) ?_
  refine lv_lshr (v := lN b1) hx hb dX3_combine_53 ((ls_16 (by omega)).trans (congrArg lN (ad_hi (by omega)))) ?_
  refine lv_ldc2 (v := (65535 : Int64)) hx hb hown (hts _ q124) dX3_combine_54 ?_
  refine wv_l (y := lN 65535) (by decide +kernel) ?_
  refine lv_land hx hb dX3_combine_57 ?_
  refine wv_l (y := lN b1) ((lx_65535 (by omega)).trans (congrArg lN (Nat.mod_eq_of_lt (by omega)))) ?_
  refine lv_lload_n hx hb dX3_combine_58 rfl (lv_at hl 5 rfl) ?_
  refine lv_bipush (v := nI 16) hx hb dX3_combine_59 (by decide +kernel) ?_
  refine lv_lshr (v := lN b2) hx hb dX3_combine_61 ((ls_16 (by omega)).trans (congrArg lN (ad_hi (by omega)))) ?_
  refine lv_ldc2 (v := (65535 : Int64)) hx hb hown (hts _ q124) dX3_combine_62 ?_
  refine wv_l (y := lN 65535) (by decide +kernel) ?_
  refine lv_land hx hb dX3_combine_65 ?_
  refine wv_l (y := lN b2) ((lx_65535 (by omega)).trans (congrArg lN (Nat.mod_eq_of_lt (by omega)))) ?_
  refine lv_ladd hx hb dX3_combine_66 ?_
  refine wv_l (y := lN (b1 + b2)) (lN_add _ _) ?_
  refine lv_lload hx hb dX3_combine_67 (lv_at hl 3 rfl) ?_
  refine lv_ladd hx hb dX3_combine_69 ?_
  refine wv_l (y := lN (b1 + b2 + 65521)) (lN_add _ _) ?_
  refine lv_lload hx hb dX3_combine_70 (lv_at hl 2 rfl) ?_
  refine lv_lsub hx hb dX3_combine_72 ?_
  refine wv_l (y := lN (b1 + b2 + 65521 - k)) (lN_sub (by omega)) ?_
  refine lv_ladd hx hb dX3_combine_73 ?_
  refine wv_l (y := lN (k * a1 % 65521 + (b1 + b2 + 65521 - k))) (lN_add _ _) ?_
  refine lv_lstore (lv' := [(10, .long (lN (k * a1 % 65521 + (b1 + b2 + 65521 - k)))), (8, .long (lN (a1 + (a2 + 65521 - 1)))), (12, .long (lN k)), (6, .long (lN 65521)), (0, .long (lN (a1 + b1 * 65536))), (2, .long (lN (a2 + b2 * 65536))), (4, .long (lN k))]) hx hb dX3_combine_74 hl (by decide) rfl (fun ls hl => ?_)
  obtain ⟨x8, e8⟩ : ∃ x, x = a1 + (a2 + 65521 - 1) := ⟨_, rfl⟩
  obtain ⟨x10, e10⟩ : ∃ x, x = k * a1 % 65521 + (b1 + b2 + 65521 - k) := ⟨_, rfl⟩
  have hx8 : x8 < 3 * 65521 := by omega
  have hx10 : x10 < 4 * 65521 := by omega
  unfold ad_C
  rw [← e8, ← e10]
  rw [← e8, ← e10] at hl
  have hl : lv_has ls 14 [(6, .long (lN 65521)), (8, .long (lN x8)), (10, .long (lN x10))] := lv_sub hl [3, 1, 0] rfl
  refine w_cut 91 (fun H locs ls => ∃ y8, y8 = ad_r 65521 x8 ∧ Wd_ dC dI tt [] [] A s H locs ∧ lv_has ls 14 [(6, .long (lN 65521)), (8, .long (lN y8)), (10, .long (lN x10))]) ?_ ?_
  rotate_left
  · intro tail
    refine lv_lload hx hb dX3_combine_76 (lv_at hl 1 rfl) ?_
    refine lv_lload hx hb dX3_combine_78 (lv_at hl 0 rfl) ?_
    refine W.lcmp hx hb dX3_combine_80 ?_
    by_cases h : x8 < 65521
    · skip
      refine lv_if_lt (tgt := 91) hx hb dX3_combine_81 (by decide) (fun _ => ?_) (fun hne => absurd ((lc_lt (show x8 < 2 ^ 63 by omega) (by decide)).mpr h) hne)
      exact tail _ _ _ ⟨x8, (ad_r_lt h).symm, hw, lv_sub hl [0, 1, 2] rfl⟩
    · skip
      refine lv_if_lt (tgt := 91) hx hb dX3_combine_81 (by decide) (fun hye => absurd hye (fun q => h ((lc_lt (show x8 < 2 ^ 63 by omega) (by decide)).mp q))) (fun _ => ?_)
      refine lv_lload hx hb dX3_combine_84 (lv_at hl 1 rfl) ?_
      refine lv_lload hx hb dX3_combine_86 (lv_at hl 0 rfl) ?_
      refine lv_lsub hx hb dX3_combine_88 ?_
      refine wv_l (y := lN (x8 - 65521)) (lN_sub (by omega)) ?_
      refine lv_lstore (lv' := [(8, .long (lN (x8 - 65521))), (6, .long (lN 65521)), (10, .long (lN x10))]) hx hb dX3_combine_89 hl (by decide) rfl (fun ls hl => ?_)
      exact tail _ _ _ ⟨x8 - 65521, (ad_r_ge (by omega)).symm, hw, lv_sub hl [1, 0, 2] rfl⟩
  intro H locs ls ⟨y8, ey8, hwq1, hlq1⟩
  have hw := hwq1
  have hl := hlq1
  have ly8 : y8 ≤ x8 := by rw [ey8]; exact ad_r_le
  refine w_cut 106 (fun H locs ls => ∃ z8, z8 = ad_r 65521 y8 ∧ Wd_ dC dI tt [] [] A s H locs ∧ lv_has ls 14 [(6, .long (lN 65521)), (8, .long (lN z8)), (10, .long (lN x10))]) ?_ ?_
  rotate_left
  · intro tail
    refine lv_lload hx hb dX3_combine_91 (lv_at hl 1 rfl) ?_
    refine lv_lload hx hb dX3_combine_93 (lv_at hl 0 rfl) ?_
    refine W.lcmp hx hb dX3_combine_95 ?_
    by_cases h : y8 < 65521
    · skip
      refine lv_if_lt (tgt := 106) hx hb dX3_combine_96 (by decide) (fun _ => ?_) (fun hne => absurd ((lc_lt (show y8 < 2 ^ 63 by omega) (by decide)).mpr h) hne)
      exact tail _ _ _ ⟨y8, (ad_r_lt h).symm, hw, lv_sub hl [0, 1, 2] rfl⟩
    · skip
      refine lv_if_lt (tgt := 106) hx hb dX3_combine_96 (by decide) (fun hye => absurd hye (fun q => h ((lc_lt (show y8 < 2 ^ 63 by omega) (by decide)).mp q))) (fun _ => ?_)
      refine lv_lload hx hb dX3_combine_99 (lv_at hl 1 rfl) ?_
      refine lv_lload hx hb dX3_combine_101 (lv_at hl 0 rfl) ?_
      refine lv_lsub hx hb dX3_combine_103 ?_
      refine wv_l (y := lN (y8 - 65521)) (lN_sub (by omega)) ?_
      refine lv_lstore (lv' := [(8, .long (lN (y8 - 65521))), (6, .long (lN 65521)), (10, .long (lN x10))]) hx hb dX3_combine_104 hl (by decide) rfl (fun ls hl => ?_)
      exact tail _ _ _ ⟨y8 - 65521, (ad_r_ge (by omega)).symm, hw, lv_sub hl [1, 0, 2] rfl⟩
  intro H locs ls ⟨z8, ez8, hwq2, hlq2⟩
  have hw := hwq2
  have hl := hlq2
  have lz8 : z8 ≤ y8 := by rw [ez8]; exact ad_r_le
  refine w_cut 125 (fun H locs ls => ∃ y10, y10 = ad_r 131042 x10 ∧ Wd_ dC dI tt [] [] A s H locs ∧ lv_has ls 14 [(6, .long (lN 65521)), (8, .long (lN z8)), (10, .long (lN y10))]) ?_ ?_
  rotate_left
  · intro tail
    refine lv_lload hx hb dX3_combine_106 (lv_at hl 2 rfl) ?_
    refine lv_lload hx hb dX3_combine_108 (lv_at hl 0 rfl) ?_
    refine lv_iconst (v := nI 1) hx hb dX3_combine_110 (by decide +kernel) ?_
    refine lv_lshl (v := lN 131042) hx hb dX3_combine_111 (wb_shl 65521 (k := 1) (by decide)) ?_
    refine W.lcmp hx hb dX3_combine_112 ?_
    by_cases h : x10 < 131042
    · skip
      refine lv_if_lt (tgt := 125) hx hb dX3_combine_113 (by decide) (fun _ => ?_) (fun hne => absurd ((lc_lt (show x10 < 2 ^ 63 by omega) (by decide)).mpr h) hne)
      exact tail _ _ _ ⟨x10, (ad_r_lt h).symm, hw, lv_sub hl [0, 1, 2] rfl⟩
    · skip
      refine lv_if_lt (tgt := 125) hx hb dX3_combine_113 (by decide) (fun hye => absurd hye (fun q => h ((lc_lt (show x10 < 2 ^ 63 by omega) (by decide)).mp q))) (fun _ => ?_)
      refine lv_lload hx hb dX3_combine_116 (lv_at hl 2 rfl) ?_
      refine lv_lload hx hb dX3_combine_118 (lv_at hl 0 rfl) ?_
      refine lv_iconst (v := nI 1) hx hb dX3_combine_120 (by decide +kernel) ?_
      refine lv_lshl (v := lN 131042) hx hb dX3_combine_121 (wb_shl 65521 (k := 1) (by decide)) ?_
      refine lv_lsub hx hb dX3_combine_122 ?_
      refine wv_l (y := lN (x10 - 131042)) (lN_sub (by omega)) ?_
      refine lv_lstore (lv' := [(10, .long (lN (x10 - 131042))), (6, .long (lN 65521)), (8, .long (lN z8))]) hx hb dX3_combine_123 hl (by decide) rfl (fun ls hl => ?_)
      exact tail _ _ _ ⟨x10 - 131042, (ad_r_ge (by omega)).symm, hw, lv_sub hl [1, 2, 0] rfl⟩
  intro H locs ls ⟨y10, ey10, hwq3, hlq3⟩
  have hw := hwq3
  have hl := hlq3
  have ly10 : y10 ≤ x10 := by rw [ey10]; exact ad_r_le
  refine w_cut 140 (fun H locs ls => ∃ z10, z10 = ad_r 65521 y10 ∧ Wd_ dC dI tt [] [] A s H locs ∧ lv_has ls 14 [(6, .long (lN 65521)), (8, .long (lN z8)), (10, .long (lN z10))]) ?_ ?_
  rotate_left
  · intro tail
    refine lv_lload hx hb dX3_combine_125 (lv_at hl 2 rfl) ?_
    refine lv_lload hx hb dX3_combine_127 (lv_at hl 0 rfl) ?_
    refine W.lcmp hx hb dX3_combine_129 ?_
    by_cases h : y10 < 65521
    · skip
      refine lv_if_lt (tgt := 140) hx hb dX3_combine_130 (by decide) (fun _ => ?_) (fun hne => absurd ((lc_lt (show y10 < 2 ^ 63 by omega) (by decide)).mpr h) hne)
      exact tail _ _ _ ⟨y10, (ad_r_lt h).symm, hw, lv_sub hl [0, 1, 2] rfl⟩
    · skip
      refine lv_if_lt (tgt := 140) hx hb dX3_combine_130 (by decide) (fun hye => absurd hye (fun q => h ((lc_lt (show y10 < 2 ^ 63 by omega) (by decide)).mp q))) (fun _ => ?_)
      refine lv_lload hx hb dX3_combine_133 (lv_at hl 2 rfl) ?_
      refine lv_lload hx hb dX3_combine_135 (lv_at hl 0 rfl) ?_
      refine lv_lsub hx hb dX3_combine_137 ?_
      refine wv_l (y := lN (y10 - 65521)) (lN_sub (by omega)) ?_
      refine lv_lstore (lv' := [(10, .long (lN (y10 - 65521))), (6, .long (lN 65521)), (8, .long (lN z8))]) hx hb dX3_combine_138 hl (by decide) rfl (fun ls hl => ?_)
      exact tail _ _ _ ⟨y10 - 65521, (ad_r_ge (by omega)).symm, hw, lv_sub hl [1, 2, 0] rfl⟩
  intro H locs ls ⟨z10, ez10, hwq4, hlq4⟩
  have hw := hwq4
  have hl := hlq4
  have lz10 : z10 ≤ y10 := by rw [ez10]; exact ad_r_le
  have hz8 : z8 < 65536 := by rw [ez8, ey8]; have := ad_r2 hx8; omega
  refine lv_lload hx hb dX3_combine_140 (lv_at hl 1 rfl) ?_
  refine lv_lload hx hb dX3_combine_142 (lv_at hl 2 rfl) ?_
  refine lv_bipush (v := nI 16) hx hb dX3_combine_144 (by decide +kernel) ?_
  refine lv_lshl (v := lN (z10 * 65536)) hx hb dX3_combine_146 (wb_shl z10 (k := 16) (by decide)) ?_
  refine lv_lor hx hb dX3_combine_147 ?_
  refine wv_l (y := lN (z8 + z10 * 65536)) (g_or' (k := 16) (p := 65536) rfl hz8 (by omega)) ?_
  subst ez8 ey8 ez10 ey10
  exact W.lret hx hb hr (fun t ht hW => ⟨⟨_, (), rfl, rfl, en_ret hw [] rfl rfl [] rfl ht hW⟩, hw.2.2.2.1.F ht⟩) hw.2.2.2.1.2.2 dX3_combine_148
end
section
set_option maxRecDepth 100000
/-- a word, laid into the text; a row of four -/
def wd_ (f : Nat → Int32) (a : Nat) (w : Int32) : Nat → Int32 := upd (upd (upd (upd f a (w >>> (nI 24 &&& 31)).toInt8.toInt32) (a + 1) (w >>> (nI 16 &&& 31)).toInt8.toInt32) (a + 2) (w >>> (nI 8 &&& 31)).toInt8.toInt32) (a + 3) w.toInt8.toInt32
def pt_ (f : Nat → Int32) (z : Nat) (a b u v : Int32) : Nat → Int32 := wd_ (wd_ (wd_ (wd_ f z a) (z + 4) b) (z + 8) u) (z + 12) v
set_option maxHeartbeats 4000000 in
/-- SumJoin() -/
theorem k_sj_init (l : Launch) (dC : Nat → ClassId) (dI : Nat → Nat → Nat) (tt : Nat) (h0 : Nat) (z : Int32) (sz : Nat) : Met l yX1_init (ws_ yX1_init cX1_init 1 none) ({ frames := 1, cells := 1, slots := 4096, locals := 12 }) (va_Pc [.ref h0] (st_ dC dI tt [(h0, .inr (0, [.null, .int (z)]))] [] sz)) (Qv_ (fun _ : Nat × ClassId => True) (fun u => [(h0, .inr (0, [.ref u.1, .int (z)])), (u.1, .inl (u.2, 4096, .inl (fun _ => 0)))]) (fun u => [(u.2, .byte)]) dC dI (va_A [(h0, .inr (0, [.null, .int (z)]))] sz)) 1 4096 (va_A [(h0, .inr (0, [.null, .int (z)]))] sz) := by
  refine met_pro (QA := Qv_ (fun _ : Nat × ClassId => True) (fun u => [(h0, .inr (0, [.ref u.1, .int (z)])), (u.1, .inl (u.2, 4096, .inl (fun _ => 0)))]) (fun u => [(u.2, .byte)]) dC dI) (by decide +kernel) (Nat.le_of_ble_eq_true rfl) ?_
  intro p e s m below meth c A ls hx hb hr hml hts hown hlocks hname hw hl
  have hown : s.vm.findClass RX1 = some m.cls := hown
  have hl : lv_has ls 1 [(0, .ref h0)] := hl
  refine lv_aload_n hx hb dX1_init_0 rfl (lv_at hl 0 rfl) ?_
  refine W.objInit hx hb hown (hts _ q12) (hts _ q13) (hts _ q14) rfl (by rw [hml]; exact hl.1) rfl dX1_init_1 (Nat.le_of_ble_eq_true rfl) (Nat.le_of_ble_eq_true rfl) ?_
  refine W.eq (g2 := F0 m 4 ls []) rfl ?_
  refine lv_aload_n hx hb dX1_init_4 rfl (lv_at hl 0 rfl) ?_
  refine lv_sipush (v := nI 4096) hx hb dX1_init_5 (by decide +kernel) ?_
  refine va_newa (D := (dC, dI)) (atype := .byte) hx hb (hts _ q22) (ty := .byte) rfl hw.2.2.1 hw.1 hw.2.1 hw.2.2.2.1 hw.2.2.2.2.1 (N' := 4096) (a0 := (4096, .inl (fun _ => 0))) (fun _ => rfl) (by decide +kernel) (by decide +kernel) (Nat.le_of_ble_eq_true rfl) (Nat.le_of_ble_eq_true rfl) (Nat.le_of_ble_eq_true rfl) dX1_init_8 (fun bt dB H hK hP hD hS => ?_)
  have hw : Wd_ dC dI tt [(h0, .inr (0, [.null, .int (z)])), (bt, .inl (dB, 4096, .inl (fun _ => 0)))] [(dB, .byte)] A s _ _ := ⟨hP, hD, hK, hS, hw.2.2.2.2⟩
  refine W.widen (k := 1) (n := 4096) (Nat.le_of_ble_eq_true rfl) (Nat.le_of_ble_eq_true rfl) ?_
  refine va_putF (D := (dC, dI)) (ci := 0) (v := .ref bt) (ty := .array .byte) (C := RX1) (T := TX1) (N := 2) hx hb hts in_X1 tyX1 tyX1_ok nmX1 hown hw.2.2.1 hw.1 hw.2.1 hw.2.2.2.1 0 rfl rfl 0 (by decide) (hts _ q15) (fun _ h9 => h9) rfl hname rfl (by decide +kernel) rfl rfl (Nat.le_of_ble_eq_true rfl) dX1_init_10 (fun H locs hP hD hS => ?_)
  have hw : Wd_ dC dI tt [(h0, .inr (0, [.ref bt, .int (z)])), (bt, .inl (dB, 4096, .inl (fun _ => 0)))] [(dB, .byte)] A s _ _ := ⟨hP, hD, hw.2.2.1, hS, hw.2.2.2.2⟩
  exact W.vret hx hb hr (fun t ht hW => ⟨⟨(bt, dB), rfl, trivial, en_ret hw [0, 1] rfl rfl [0] rfl ht hW⟩, hw.2.2.2.1.F ht⟩) hw.2.2.2.1.2.2 dX1_init_13
set_option maxHeartbeats 4000000 in
/-- SumJoin.word(int, int) -/
theorem k_word (l : Launch) (dC : Nat → ClassId) (dI : Nat → Nat → Nat) (tt : Nat) (h0 bt : Nat) (dB : ClassId) (f : Nat → Int32) (z : Nat) (a : Nat) (w : Int32) (sz : Nat) (ha : a + 4 ≤ 4096) : Met l yX1_word (ws_ yX1_word cX1_word 3 none) ({ frames := 0, cells := 0, slots := 0, locals := 0 }) (va_Pc [.ref h0, .int (nI a), .int (w)] (st_ dC dI tt [(h0, .inr (0, [.ref bt, .int (nI z)])), (bt, .inl (dB, 4096, .inl f))] [(dB, .byte)] sz)) (Qv_ (fun _ : Unit => True) (fun _ => [(h0, .inr (0, [.ref bt, .int (nI z)])), (bt, .inl (dB, 4096, .inl (wd_ f a w)))]) (fun _ => [(dB, .byte)]) dC dI (va_A [(h0, .inr (0, [.ref bt, .int (nI z)])), (bt, .inl (dB, 4096, .inl f))] sz)) 0 0 (va_A [(h0, .inr (0, [.ref bt, .int (nI z)])), (bt, .inl (dB, 4096, .inl f))] sz) := by
  refine met_pro (QA := Qv_ (fun _ : Unit => True) (fun _ => [(h0, .inr (0, [.ref bt, .int (nI z)])), (bt, .inl (dB, 4096, .inl (wd_ f a w)))]) (fun _ => [(dB, .byte)]) dC dI) (by decide +kernel) (Nat.le_of_ble_eq_true rfl) ?_
  intro p e s m below meth c A ls hx hb hr hml hts hown hlocks hname hw hl
  have hown : s.vm.findClass RX1 = some m.cls := hown
  have hl : lv_has ls 3 [(0, .ref h0), (1, .int (nI a)), (2, .int (w))] := hl
  refine lv_aload_n hx hb dX1_word_0 rfl (lv_at hl 0 rfl) ?_
  refine va_get (D := (dC, dI)) (ci := 0) (v := .ref bt) (C := RX1) (T := TX1) (N := 2) hx hb hts in_X1 hown hw.2.2.1 hw.1 0 rfl rfl 0 (by decide) (hts _ q15) (fun _ h9 => h9) rfl dX1_word_1 ?_
  refine lv_iload_n hx hb dX1_word_4 rfl (lv_at hl 1 rfl) ?_
  refine lv_iload_n hx hb dX1_word_5 rfl (lv_at hl 2 rfl) ?_
  refine lv_bipush (v := nI 24) hx hb dX1_word_6 (by decide +kernel) ?_
  refine lv_ishr hx hb dX1_word_8 ?_
  refine lv_i2b (v := ((w >>> (nI 24 &&& 31)).toInt8.toInt32)) hx hb dX1_word_9 (rfl) ?_
  refine va_bast (D := (dC, dI)) hx hb hw.2.2.1 hw.1 hw.2.1 hw.2.2.2.1 1 0 rfl rfl (vp_in_nI (show a < 4096 by omega) (by decide)) dX1_word_10 (fun H locs hP hD hS => ?_)
  rw [nI_clamp (show a < 2 ^ 31 by omega), pk_vb] at hP hD
  have hw : Wd_ dC dI tt [(h0, .inr (0, [.ref bt, .int (nI z)])), (bt, .inl (dB, 4096, .inl (upd f (a) ((w >>> (nI 24 &&& 31)).toInt8.toInt32))))] [(dB, .byte)] A s _ _ := ⟨hP, hD, hw.2.2.1, hS, hw.2.2.2.2⟩
  refine lv_aload_n hx hb dX1_word_11 rfl (lv_at hl 0 rfl) ?_
  refine va_get (D := (dC, dI)) (ci := 0) (v := .ref bt) (C := RX1) (T := TX1) (N := 2) hx hb hts in_X1 hown hw.2.2.1 hw.1 0 rfl rfl 0 (by decide) (hts _ q15) (fun _ h9 => h9) rfl dX1_word_12 ?_
  refine lv_iload_n hx hb dX1_word_15 rfl (lv_at hl 1 rfl) ?_
  refine lv_iconst (v := nI 1) hx hb dX1_word_16 (by decide +kernel) ?_
  refine lv_iadd hx hb dX1_word_17 ?_
  refine wv_i (y := nI (a + 1)) (nI_add a 1) ?_
  refine lv_iload_n hx hb dX1_word_18 rfl (lv_at hl 2 rfl) ?_
  refine lv_bipush (v := nI 16) hx hb dX1_word_19 (by decide +kernel) ?_
  refine lv_ishr hx hb dX1_word_21 ?_
  refine lv_i2b (v := ((w >>> (nI 16 &&& 31)).toInt8.toInt32)) hx hb dX1_word_22 (rfl) ?_
  refine va_bast (D := (dC, dI)) hx hb hw.2.2.1 hw.1 hw.2.1 hw.2.2.2.1 1 0 rfl rfl (vp_in_nI (show a + 1 < 4096 by omega) (by decide)) dX1_word_23 (fun H locs hP hD hS => ?_)
  rw [nI_clamp (show a + 1 < 2 ^ 31 by omega), pk_vb] at hP hD
  have hw : Wd_ dC dI tt [(h0, .inr (0, [.ref bt, .int (nI z)])), (bt, .inl (dB, 4096, .inl (upd (upd f (a) ((w >>> (nI 24 &&& 31)).toInt8.toInt32)) (a + 1) ((w >>> (nI 16 &&& 31)).toInt8.toInt32))))] [(dB, .byte)] A s _ _ := ⟨hP, hD, hw.2.2.1, hS, hw.2.2.2.2⟩
  refine lv_aload_n hx hb dX1_word_24 rfl (lv_at hl 0 rfl) ?_
  refine va_get (D := (dC, dI)) (ci := 0) (v := .ref bt) (C := RX1) (T := TX1) (N := 2) hx hb hts in_X1 hown hw.2.2.1 hw.1 0 rfl rfl 0 (by decide) (hts _ q15) (fun _ h9 => h9) rfl dX1_word_25 ?_
  refine lv_iload_n hx hb dX1_word_28 rfl (lv_at hl 1 rfl) ?_
  refine lv_iconst (v := nI 2) hx hb dX1_word_29 (by decide +kernel) ?_
  refine lv_iadd hx hb dX1_word_30 ?_
  refine wv_i (y := nI (a + 2)) (nI_add a 2) ?_
  refine lv_iload_n hx hb dX1_word_31 rfl (lv_at hl 2 rfl) ?_
  refine lv_bipush (v := nI 8) hx hb dX1_word_32 (by decide +kernel) ?_
  refine lv_ishr hx hb dX1_word_34 ?_
  refine lv_i2b (v := ((w >>> (nI 8 &&& 31)).toInt8.toInt32)) hx hb dX1_word_35 (rfl) ?_
  refine va_bast (D := (dC, dI)) hx hb hw.2.2.1 hw.1 hw.2.1 hw.2.2.2.1 1 0 rfl rfl (vp_in_nI (show a + 2 < 4096 by omega) (by decide)) dX1_word_36 (fun H locs hP hD hS => ?_)
  rw [nI_clamp (show a + 2 < 2 ^ 31 by omega), pk_vb] at hP hD
  have hw : Wd_ dC dI tt [(h0, .inr (0, [.ref bt, .int (nI z)])), (bt, .inl (dB, 4096, .inl (upd (upd (upd f (a) ((w >>> (nI 24 &&& 31)).toInt8.toInt32)) (a + 1) ((w >>> (nI 16 &&& 31)).toInt8.toInt32)) (a + 2) ((w >>> (nI 8 &&& 31)).toInt8.toInt32))))] [(dB, .byte)] A s _ _ := ⟨hP, hD, hw.2.2.1, hS, hw.2.2.2.2⟩
  refine lv_aload_n hx hb dX1_word_37 rfl (lv_at hl 0 rfl) ?_
  refine va_get (D := (dC, dI)) (ci := 0) (v := .ref bt) (C := RX1) (T := TX1) (N := 2) hx hb hts in_X1 hown hw.2.2.1 hw.1 0 rfl rfl 0 (by decide) (hts _ q15) (fun _ h9 => h9) rfl dX1_word_38 ?_
  refine lv_iload_n hx hb dX1_word_41 rfl (lv_at hl 1 rfl) ?_
  refine lv_iconst (v := nI 3) hx hb dX1_word_42 (by decide +kernel) ?_
  refine lv_iadd hx hb dX1_word_43 ?_
  refine wv_i (y := nI (a + 3)) (nI_add a 3) ?_
  refine lv_iload_n hx hb dX1_word_44 rfl (lv_at hl 2 rfl) ?_
  refine lv_i2b (v := (w.toInt8.toInt32)) hx hb dX1_word_45 (rfl) ?_
  refine va_bast (D := (dC, dI)) hx hb hw.2.2.1 hw.1 hw.2.1 hw.2.2.2.1 1 0 rfl rfl (vp_in_nI (show a + 3 < 4096 by omega) (by decide)) dX1_word_46 (fun H locs hP hD hS => ?_)
  rw [nI_clamp (show a + 3 < 2 ^ 31 by omega), pk_vb] at hP hD
  have hw : Wd_ dC dI tt [(h0, .inr (0, [.ref bt, .int (nI z)])), (bt, .inl (dB, 4096, .inl (upd (upd (upd (upd f (a) ((w >>> (nI 24 &&& 31)).toInt8.toInt32)) (a + 1) ((w >>> (nI 16 &&& 31)).toInt8.toInt32)) (a + 2) ((w >>> (nI 8 &&& 31)).toInt8.toInt32)) (a + 3) (w.toInt8.toInt32))))] [(dB, .byte)] A s _ _ := ⟨hP, hD, hw.2.2.1, hS, hw.2.2.2.2⟩
  exact W.vret hx hb hr (fun t ht hW => ⟨⟨(), rfl, trivial, en_ret hw [0, 1] rfl rfl [0] rfl ht hW⟩, hw.2.2.2.1.F ht⟩) hw.2.2.2.1.2.2 dX1_word_47
set_option maxHeartbeats 4000000 in
/-- SumJoin.from(int) -/
theorem k_from (l : Launch) (dC : Nat → ClassId) (dI : Nat → Nat → Nat) (tt : Nat) (h0 bt : Nat) (dB : ClassId) (f : Nat → Int32) (z : Nat) (a : Int32) (sz : Nat) (hz : z ≤ 4096) : Met l yX1_from (ws_ yX1_from cX1_from 2 (some .int)) ({ frames := 0, cells := 0, slots := 0, locals := 0 }) (va_Pc [.ref h0, .int (a)] (st_ dC dI tt [(h0, .inr (0, [.ref bt, .int (nI z)])), (bt, .inl (dB, 4096, .inl f))] [(dB, .byte)] sz)) (Qi_ (nI (fr_ z a)) [(h0, .inr (0, [.ref bt, .int (nI z)])), (bt, .inl (dB, 4096, .inl f))] [(dB, .byte)] dC dI (va_A [(h0, .inr (0, [.ref bt, .int (nI z)])), (bt, .inl (dB, 4096, .inl f))] sz)) 0 0 (va_A [(h0, .inr (0, [.ref bt, .int (nI z)])), (bt, .inl (dB, 4096, .inl f))] sz) := by
  refine met_pro (QA := Qi_ (nI (fr_ z a)) [(h0, .inr (0, [.ref bt, .int (nI z)])), (bt, .inl (dB, 4096, .inl f))] [(dB, .byte)] dC dI) (by decide +kernel) (Nat.le_of_ble_eq_true rfl) ?_
  intro p e s m below meth c A ls hx hb hr hml hts hown hlocks hname hw hl
  have hown : s.vm.findClass RX1 = some m.cls := hown
  have hl : lv_has ls 2 [(0, .ref h0), (1, .int (a))] := hl
  refine lv_iload_n hx hb dX1_from_0 rfl (lv_at hl 1 rfl) ?_
  refine lv_ldc (v := (2147483647 : Int32)) hx hb hown (hts _ q39) dX1_from_1 ?_
  refine lv_iand hx hb dX1_from_3 ?_
  refine wv_i (y := nI (a.toBitVec.toNat % 2147483648)) (mw_pos a) ?_
  refine lv_aload_n hx hb dX1_from_4 rfl (lv_at hl 0 rfl) ?_
  refine va_get (D := (dC, dI)) (ci := 0) (v := .int (nI z)) (C := RX1) (T := TX1) (N := 2) hx hb hts in_X1 hown hw.2.2.1 hw.1 0 rfl rfl 1 (by decide) (hts _ q16) (fun _ h9 => h9) rfl dX1_from_5 ?_
  refine lv_iconst (v := nI 1) hx hb dX1_from_8 (by decide +kernel) ?_
  refine lv_iadd hx hb dX1_from_9 ?_
  refine wv_i (y := nI (z + 1)) (nI_1 z) ?_
  refine lv_irem hx hb dX1_from_10 (nI_ne0 (Nat.succ_pos z) (by omega)) ?_
  refine wv_i (y := nI (fr_ z a)) (pk_rem (Nat.mod_lt _ (by decide)) (Nat.succ_pos z) (by omega)) ?_
  exact W.iret hx hb hr (fun t ht hW => ⟨⟨_, (), rfl, rfl, en_ret hw [0, 1] rfl rfl [0] rfl ht hW⟩, hw.2.2.2.1.F ht⟩) hw.2.2.2.1.2.2 dX1_from_11
set_option maxHeartbeats 4000000 in
/-- SumJoin.count(int, int) -/
theorem k_count (l : Launch) (dC : Nat → ClassId) (dI : Nat → Nat → Nat) (tt : Nat) (h0 bt : Nat) (dB : ClassId) (f : Nat → Int32) (z : Nat) (i : Nat) (a : Int32) (sz : Nat) (hz : z ≤ 4096) (hi : i ≤ z) : Met l yX1_count (ws_ yX1_count cX1_count 3 (some .int)) ({ frames := 0, cells := 0, slots := 0, locals := 0 }) (va_Pc [.ref h0, .int (nI i), .int (a)] (st_ dC dI tt [(h0, .inr (0, [.ref bt, .int (nI z)])), (bt, .inl (dB, 4096, .inl f))] [(dB, .byte)] sz)) (Qi_ (nI (cn_ z i a)) [(h0, .inr (0, [.ref bt, .int (nI z)])), (bt, .inl (dB, 4096, .inl f))] [(dB, .byte)] dC dI (va_A [(h0, .inr (0, [.ref bt, .int (nI z)])), (bt, .inl (dB, 4096, .inl f))] sz)) 0 0 (va_A [(h0, .inr (0, [.ref bt, .int (nI z)])), (bt, .inl (dB, 4096, .inl f))] sz) := by
  refine met_pro (QA := Qi_ (nI (cn_ z i a)) [(h0, .inr (0, [.ref bt, .int (nI z)])), (bt, .inl (dB, 4096, .inl f))] [(dB, .byte)] dC dI) (by decide +kernel) (Nat.le_of_ble_eq_true rfl) ?_
  intro p e s m below meth c A ls hx hb hr hml hts hown hlocks hname hw hl
  have hown : s.vm.findClass RX1 = some m.cls := hown
  have hl : lv_has ls 3 [(0, .ref h0), (1, .int (nI i)), (2, .int (a))] := hl
  refine lv_iload_n hx hb dX1_count_0 rfl (lv_at hl 2 rfl) ?_
  refine lv_ldc (v := (2147483647 : Int32)) hx hb hown (hts _ q39) dX1_count_1 ?_
  refine lv_iand hx hb dX1_count_3 ?_
  refine wv_i (y := nI (a.toBitVec.toNat % 2147483648)) (mw_pos a) ?_
  refine lv_aload_n hx hb dX1_count_4 rfl (lv_at hl 0 rfl) ?_
  refine va_get (D := (dC, dI)) (ci := 0) (v := .int (nI z)) (C := RX1) (T := TX1) (N := 2) hx hb hts in_X1 hown hw.2.2.1 hw.1 0 rfl rfl 1 (by decide) (hts _ q16) (fun _ h9 => h9) rfl dX1_count_5 ?_
  refine lv_iload_n hx hb dX1_count_8 rfl (lv_at hl 1 rfl) ?_
  refine lv_isub hx hb dX1_count_9 ?_
  refine wv_i (y := nI (z - i)) (pk_sub hi) ?_
  refine lv_iconst (v := nI 1) hx hb dX1_count_10 (by decide +kernel) ?_
  refine lv_iadd hx hb dX1_count_11 ?_
  refine wv_i (y := nI (z - i + 1)) (nI_1 _) ?_
  refine lv_irem hx hb dX1_count_12 (nI_ne0 (Nat.succ_pos _) (by omega)) ?_
  refine wv_i (y := nI (cn_ z i a)) (pk_rem (Nat.mod_lt _ (by decide)) (Nat.succ_pos _) (by omega)) ?_
  exact W.iret hx hb hr (fun t ht hW => ⟨⟨_, (), rfl, rfl, en_ret hw [0, 1] rfl rfl [0] rfl ht hW⟩, hw.2.2.2.1.F ht⟩) hw.2.2.2.1.2.2 dX1_count_13
set_option maxHeartbeats 4000000 in
/-- SumJoin.size() -/
theorem k_size (l : Launch) (dC : Nat → ClassId) (dI : Nat → Nat → Nat) (tt : Nat) (h0 bt : Nat) (dB : ClassId) (f : Nat → Int32) (z : Nat) (sz : Nat) : Met l yX1_size (ws_ yX1_size cX1_size 1 (some .int)) ({ frames := 0, cells := 0, slots := 0, locals := 0 }) (va_Pc [.ref h0] (st_ dC dI tt [(h0, .inr (0, [.ref bt, .int (nI z)])), (bt, .inl (dB, 4096, .inl f))] [(dB, .byte)] sz)) (Qi_ (nI z) [(h0, .inr (0, [.ref bt, .int (nI z)])), (bt, .inl (dB, 4096, .inl f))] [(dB, .byte)] dC dI (va_A [(h0, .inr (0, [.ref bt, .int (nI z)])), (bt, .inl (dB, 4096, .inl f))] sz)) 0 0 (va_A [(h0, .inr (0, [.ref bt, .int (nI z)])), (bt, .inl (dB, 4096, .inl f))] sz) := by
  refine met_pro (QA := Qi_ (nI z) [(h0, .inr (0, [.ref bt, .int (nI z)])), (bt, .inl (dB, 4096, .inl f))] [(dB, .byte)] dC dI) (by decide +kernel) (Nat.le_of_ble_eq_true rfl) ?_
  intro p e s m below meth c A ls hx hb hr hml hts hown hlocks hname hw hl
  have hown : s.vm.findClass RX1 = some m.cls := hown
  have hl : lv_has ls 1 [(0, .ref h0)] := hl
  refine lv_aload_n hx hb dX1_size_0 rfl (lv_at hl 0 rfl) ?_
  refine va_get (D := (dC, dI)) (ci := 0) (v := .int (nI z)) (C := RX1) (T := TX1) (N := 2) hx hb hts in_X1 hown hw.2.2.1 hw.1 0 rfl rfl 1 (by decide) (hts _ q16) (fun _ h9 => h9) rfl dX1_size_1 ?_
  exact W.iret hx hb hr (fun t ht hW => ⟨⟨_, (), rfl, rfl, en_ret hw [0, 1] rfl rfl [0] rfl ht hW⟩, hw.2.2.2.1.F ht⟩) hw.2.2.2.1.2.2 dX1_size_4
set_option maxHeartbeats 4000000 in
/-- SumJoin.put(int, int, int, int) -/
theorem k_put (l : Launch) (dC : Nat → ClassId) (dI : Nat → Nat → Nat) (tt : Nat) (h0 bt : Nat) (dB : ClassId) (f : Nat → Int32) (z : Nat) (a b u v : Int32) (sz : Nat) (hz : z + 16 ≤ 4096) : Met l yX1_put (ws_ yX1_put cX1_put 5 (some .boolean)) ({ frames := 1, cells := 0, slots := 0, locals := 22 }) (va_Pc [.ref h0, .int (a), .int (b), .int (u), .int (v)] (st_ dC dI tt [(h0, .inr (0, [.ref bt, .int (nI z)])), (bt, .inl (dB, 4096, .inl f))] [(dB, .byte)] sz)) (Qi_ 1 [(h0, .inr (0, [.ref bt, .int (nI (z + 16))])), (bt, .inl (dB, 4096, .inl (pt_ f z a b u v)))] [(dB, .byte)] dC dI (va_A [(h0, .inr (0, [.ref bt, .int (nI z)])), (bt, .inl (dB, 4096, .inl f))] sz)) 0 0 (va_A [(h0, .inr (0, [.ref bt, .int (nI z)])), (bt, .inl (dB, 4096, .inl f))] sz) := by
  refine met_pro (QA := Qi_ 1 [(h0, .inr (0, [.ref bt, .int (nI (z + 16))])), (bt, .inl (dB, 4096, .inl (pt_ f z a b u v)))] [(dB, .byte)] dC dI) (by decide +kernel) (Nat.le_of_ble_eq_true rfl) ?_
  intro p e s m below meth c A ls hx hb hr hml hts hown hlocks hname hw hl
  have hown : s.vm.findClass RX1 = some m.cls := hown
  have hl : lv_has ls 5 [(0, .ref h0), (1, .int (a)), (2, .int (b)), (3, .int (u)), (4, .int (v))] := hl
  refine lv_aload_n hx hb dX1_put_0 rfl (lv_at hl 0 rfl) ?_
  refine va_get (D := (dC, dI)) (ci := 0) (v := .int (nI z)) (C := RX1) (T := TX1) (N := 2) hx hb hts in_X1 hown hw.2.2.1 hw.1 0 rfl rfl 1 (by decide) (hts _ q16) (fun _ h9 => h9) rfl dX1_put_1 ?_
  refine lv_aload_n hx hb dX1_put_4 rfl (lv_at hl 0 rfl) ?_
  refine va_get (D := (dC, dI)) (ci := 0) (v := .ref bt) (C := RX1) (T := TX1) (N := 2) hx hb hts in_X1 hown hw.2.2.1 hw.1 0 rfl rfl 0 (by decide) (hts _ q15) (fun _ h9 => h9) rfl dX1_put_5 ?_
  refine va_alen (D := (dC, dI)) (v := nI 4096) hx hb hw.2.2.1 hw.1 1 0 rfl rfl rfl dX1_put_8 ?_
  refine lv_bipush (v := nI 16) hx hb dX1_put_9 (by decide +kernel) ?_
  refine lv_isub hx hb dX1_put_11 ?_
  refine wv_i (y := nI 4080) (by decide +kernel) ?_
  refine lv_icmp_le (tgt := 17) hx hb dX1_put_12 (by decide) (fun _ => ?_) (fun hne => absurd (nI_le (show z ≤ 4080 by omega) (by decide)) hne)
  refine lv_aload_n hx hb dX1_put_17 rfl (lv_at hl 0 rfl) ?_
  refine lv_aload_n hx hb dX1_put_18 rfl (lv_at hl 0 rfl) ?_
  refine va_get (D := (dC, dI)) (ci := 0) (v := .int (nI z)) (C := RX1) (T := TX1) (N := 2) hx hb hts in_X1 hown hw.2.2.1 hw.1 0 rfl rfl 1 (by decide) (hts _ q16) (fun _ h9 => h9) rfl dX1_put_19 ?_
  refine lv_iload_n hx hb dX1_put_22 rfl (lv_at hl 1 rfl) ?_
  refine go_Vv (As := [.int (nI z), .int (a)]) (rest := []) (wr := []) (un := fun _ => [(h0, .inr (0, [.ref bt, .int (nI z)])), (bt, .inl (dB, 4096, .inl (wd_ f z a)))]) (xn := fun _ => [(dB, .byte)]) ⟨hx, hb, hml, hown, hts⟩ (k_word l dC dI tt h0 bt dB f z z a _ (by omega)) (cwV 2 hts (lw_V q27 q29 qs0 q4 q30) rfl rfl rfl (by decide +kernel) ⟨(Nat.le_of_ble_eq_true rfl), (Nat.le_of_ble_eq_true rfl)⟩) hw [0, 1] [] [0, 1] [0] [0] (fun _ => ⟨rfl, rfl, rfl, rfl, rfl, by decide, rfl, rfl, rfl⟩) (ci := 0) (q0 := 0) rfl rfl hl.1 rfl rfl (Nat.le_of_ble_eq_true rfl) dX1_put_23 ⟨(Nat.le_of_ble_eq_true rfl), (Nat.le_of_ble_eq_true rfl)⟩ (k1 := 0) (n1 := 0) ⟨rfl, rfl⟩ () (fun _ H locs _ hw => ?_)
  have hw : Wd_ dC dI tt [(h0, .inr (0, [.ref bt, .int (nI z)])), (bt, .inl (dB, 4096, .inl (wd_ f z a)))] [(dB, .byte)] A s _ _ := hw
  refine lv_aload_n hx hb dX1_put_26 rfl (lv_at hl 0 rfl) ?_
  refine lv_aload_n hx hb dX1_put_27 rfl (lv_at hl 0 rfl) ?_
  refine va_get (D := (dC, dI)) (ci := 0) (v := .int (nI z)) (C := RX1) (T := TX1) (N := 2) hx hb hts in_X1 hown hw.2.2.1 hw.1 0 rfl rfl 1 (by decide) (hts _ q16) (fun _ h9 => h9) rfl dX1_put_28 ?_
  refine lv_iconst (v := nI 4) hx hb dX1_put_31 (by decide +kernel) ?_
  refine lv_iadd hx hb dX1_put_32 ?_
  refine wv_i (y := nI (z + 4)) (nI_add z 4) ?_
  refine lv_iload_n hx hb dX1_put_33 rfl (lv_at hl 2 rfl) ?_
  refine go_Vv (As := [.int (nI (z + 4)), .int (b)]) (rest := []) (wr := []) (un := fun _ => [(h0, .inr (0, [.ref bt, .int (nI z)])), (bt, .inl (dB, 4096, .inl (wd_ (wd_ f z a) (z + 4) b)))]) (xn := fun _ => [(dB, .byte)]) ⟨hx, hb, hml, hown, hts⟩ (k_word l dC dI tt h0 bt dB (wd_ f z a) z (z + 4) b _ (by omega)) (cwV 2 hts (lw_V q27 q29 qs0 q4 q30) rfl rfl rfl (by decide +kernel) ⟨(Nat.le_of_ble_eq_true rfl), (Nat.le_of_ble_eq_true rfl)⟩) hw [0, 1] [] [0, 1] [0] [0] (fun _ => ⟨rfl, rfl, rfl, rfl, rfl, by decide, rfl, rfl, rfl⟩) (ci := 0) (q0 := 0) rfl rfl hl.1 rfl rfl (Nat.le_of_ble_eq_true rfl) dX1_put_34 ⟨(Nat.le_of_ble_eq_true rfl), (Nat.le_of_ble_eq_true rfl)⟩ (k1 := 0) (n1 := 0) ⟨rfl, rfl⟩ () (fun _ H locs _ hw => ?_)
  have hw : Wd_ dC dI tt [(h0, .inr (0, [.ref bt, .int (nI z)])), (bt, .inl (dB, 4096, .inl (wd_ (wd_ f z a) (z + 4) b)))] [(dB, .byte)] A s _ _ := hw
  refine lv_aload_n hx hb dX1_put_37 rfl (lv_at hl 0 rfl) ?_
  refine lv_aload_n hx hb dX1_put_38 rfl (lv_at hl 0 rfl) ?_
  refine va_get (D := (dC, dI)) (ci := 0) (v := .int (nI z)) (C := RX1) (T := TX1) (N := 2) hx hb hts in_X1 hown hw.2.2.1 hw.1 0 rfl rfl 1 (by decide) (hts _ q16) (fun _ h9 => h9) rfl dX1_put_39 ?_
  refine lv_bipush (v := nI 8) hx hb dX1_put_42 (by decide +kernel) ?_
  refine lv_iadd hx hb dX1_put_44 ?_
  refine wv_i (y := nI (z + 8)) (nI_add z 8) ?_
  refine lv_iload_n hx hb dX1_put_45 rfl (lv_at hl 3 rfl) ?_
  refine go_Vv (As := [.int (nI (z + 8)), .int (u)]) (rest := []) (wr := []) (un := fun _ => [(h0, .inr (0, [.ref bt, .int (nI z)])), (bt, .inl (dB, 4096, .inl (wd_ (wd_ (wd_ f z a) (z + 4) b) (z + 8) u)))]) (xn := fun _ => [(dB, .byte)]) ⟨hx, hb, hml, hown, hts⟩ (k_word l dC dI tt h0 bt dB (wd_ (wd_ f z a) (z + 4) b) z (z + 8) u _ (by omega)) (cwV 2 hts (lw_V q27 q29 qs0 q4 q30) rfl rfl rfl (by decide +kernel) ⟨(Nat.le_of_ble_eq_true rfl), (Nat.le_of_ble_eq_true rfl)⟩) hw [0, 1] [] [0, 1] [0] [0] (fun _ => ⟨rfl, rfl, rfl, rfl, rfl, by decide, rfl, rfl, rfl⟩) (ci := 0) (q0 := 0) rfl rfl hl.1 rfl rfl (Nat.le_of_ble_eq_true rfl) dX1_put_46 ⟨(Nat.le_of_ble_eq_true rfl), (Nat.le_of_ble_eq_true rfl)⟩ (k1 := 0) (n1 := 0) ⟨rfl, rfl⟩ () (fun _ H locs _ hw => ?_)
  have hw : Wd_ dC dI tt [(h0, .inr (0, [.ref bt, .int (nI z)])), (bt, .inl (dB, 4096, .inl (wd_ (wd_ (wd_ f z a) (z + 4) b) (z + 8) u)))] [(dB, .byte)] A s _ _ := hw
  refine lv_aload_n hx hb dX1_put_49 rfl (lv_at hl 0 rfl) ?_
  refine lv_aload_n hx hb dX1_put_50 rfl (lv_at hl 0 rfl) ?_
  refine va_get (D := (dC, dI)) (ci := 0) (v := .int (nI z)) (C := RX1) (T := TX1) (N := 2) hx hb hts in_X1 hown hw.2.2.1 hw.1 0 rfl rfl 1 (by decide) (hts _ q16) (fun _ h9 => h9) rfl dX1_put_51 ?_
  refine lv_bipush (v := nI 12) hx hb dX1_put_54 (by decide +kernel) ?_
  refine lv_iadd hx hb dX1_put_56 ?_
  refine wv_i (y := nI (z + 12)) (nI_add z 12) ?_
  refine lv_iload hx hb dX1_put_57 (lv_at hl 4 rfl) ?_
  refine go_Vv (As := [.int (nI (z + 12)), .int (v)]) (rest := []) (wr := []) (un := fun _ => [(h0, .inr (0, [.ref bt, .int (nI z)])), (bt, .inl (dB, 4096, .inl (wd_ (wd_ (wd_ (wd_ f z a) (z + 4) b) (z + 8) u) (z + 12) v)))]) (xn := fun _ => [(dB, .byte)]) ⟨hx, hb, hml, hown, hts⟩ (k_word l dC dI tt h0 bt dB (wd_ (wd_ (wd_ f z a) (z + 4) b) (z + 8) u) z (z + 12) v _ (by omega)) (cwV 2 hts (lw_V q27 q29 qs0 q4 q30) rfl rfl rfl (by decide +kernel) ⟨(Nat.le_of_ble_eq_true rfl), (Nat.le_of_ble_eq_true rfl)⟩) hw [0, 1] [] [0, 1] [0] [0] (fun _ => ⟨rfl, rfl, rfl, rfl, rfl, by decide, rfl, rfl, rfl⟩) (ci := 0) (q0 := 0) rfl rfl hl.1 rfl rfl (Nat.le_of_ble_eq_true rfl) dX1_put_59 ⟨(Nat.le_of_ble_eq_true rfl), (Nat.le_of_ble_eq_true rfl)⟩ (k1 := 0) (n1 := 0) ⟨rfl, rfl⟩ () (fun _ H locs _ hw => ?_)
  have hw : Wd_ dC dI tt [(h0, .inr (0, [.ref bt, .int (nI z)])), (bt, .inl (dB, 4096, .inl (wd_ (wd_ (wd_ (wd_ f z a) (z + 4) b) (z + 8) u) (z + 12) v)))] [(dB, .byte)] A s _ _ := hw
  refine lv_aload_n hx hb dX1_put_62 rfl (lv_at hl 0 rfl) ?_
  refine lv_dup hx hb dX1_put_63 rfl ?_
  refine va_get (D := (dC, dI)) (ci := 0) (v := .int (nI z)) (C := RX1) (T := TX1) (N := 2) hx hb hts in_X1 hown hw.2.2.1 hw.1 0 rfl rfl 1 (by decide) (hts _ q16) (fun _ h9 => h9) rfl dX1_put_64 ?_
  refine lv_bipush (v := nI 16) hx hb dX1_put_67 (by decide +kernel) ?_
  refine lv_iadd hx hb dX1_put_69 ?_
  refine wv_i (y := nI (z + 16)) (nI_add z 16) ?_
  refine va_put (D := (dC, dI)) (ci := 0) (v := .int (nI (z + 16))) (ty := .int) (C := RX1) (T := TX1) (N := 2) hx hb hts in_X1 tyX1 tyX1_ok nmX1 hown hw.2.2.1 hw.1 hw.2.1 hw.2.2.2.1 0 rfl rfl 1 (by decide) (hts _ q16) (fun _ h9 => h9) rfl (by decide +kernel) rfl rfl (Nat.le_of_ble_eq_true rfl) dX1_put_70 (fun H locs hP hD hS => ?_)
  have hw : Wd_ dC dI tt [(h0, .inr (0, [.ref bt, .int (nI (z + 16))])), (bt, .inl (dB, 4096, .inl (wd_ (wd_ (wd_ (wd_ f z a) (z + 4) b) (z + 8) u) (z + 12) v)))] [(dB, .byte)] A s _ _ := ⟨hP, hD, hw.2.2.1, hS, hw.2.2.2.2⟩
  refine lv_iconst (v := 1) hx hb dX1_put_73 (by decide +kernel) ?_
  exact W.zret hx hb hr rfl (fun t ht hW => ⟨⟨_, (), rfl, rfl, en_ret hw [0, 1] rfl rfl [0] rfl ht hW⟩, hw.2.2.2.1.F ht⟩) hw.2.2.2.1.2.2 dX1_put_74
set_option maxHeartbeats 4000000 in
/-- SumJoin.trim(int) -/
theorem k_trim (l : Launch) (dC : Nat → ClassId) (dI : Nat → Nat → Nat) (tt : Nat) (h0 bt : Nat) (dB : ClassId) (f : Nat → Int32) (z : Nat) (a : Int32) (sz : Nat) (hz : z ≤ 4096) : Met l yX1_trim (ws_ yX1_trim cX1_trim 2 none) ({ frames := 1, cells := 0, slots := 0, locals := 21 }) (va_Pc [.ref h0, .int (a)] (st_ dC dI tt [(h0, .inr (0, [.ref bt, .int (nI z)])), (bt, .inl (dB, 4096, .inl f))] [(dB, .byte)] sz)) (Qv_ (fun _ : Unit => True) (fun _ => [(h0, .inr (0, [.ref bt, .int (nI (fr_ z a))])), (bt, .inl (dB, 4096, .inl f))]) (fun _ => [(dB, .byte)]) dC dI (va_A [(h0, .inr (0, [.ref bt, .int (nI z)])), (bt, .inl (dB, 4096, .inl f))] sz)) 0 0 (va_A [(h0, .inr (0, [.ref bt, .int (nI z)])), (bt, .inl (dB, 4096, .inl f))] sz) := by
  refine met_pro (QA := Qv_ (fun _ : Unit => True) (fun _ => [(h0, .inr (0, [.ref bt, .int (nI (fr_ z a))])), (bt, .inl (dB, 4096, .inl f))]) (fun _ => [(dB, .byte)]) dC dI) (by decide +kernel) (Nat.le_of_ble_eq_true rfl) ?_
  intro p e s m below meth c A ls hx hb hr hml hts hown hlocks hname hw hl
  have hown : s.vm.findClass RX1 = some m.cls := hown
  have hl : lv_has ls 2 [(0, .ref h0), (1, .int (a))] := hl
  refine lv_aload_n hx hb dX1_trim_0 rfl (lv_at hl 0 rfl) ?_
  refine lv_aload_n hx hb dX1_trim_1 rfl (lv_at hl 0 rfl) ?_
  refine lv_iload_n hx hb dX1_trim_2 rfl (lv_at hl 1 rfl) ?_
  refine go_Vi (As := [.int (a)]) (rest := [.ref h0]) (wr := []) (wn := [(h0, .inr (0, [.ref bt, .int (nI z)])), (bt, .inl (dB, 4096, .inl f))]) (tn := [(dB, .byte)]) ⟨hx, hb, hml, hown, hts⟩ (k_from l dC dI tt h0 bt dB f z a _ hz) (cwV 1 hts (lw_V q35 q37 qs1 q4 q38) rfl rfl rfl (by decide +kernel) ⟨(Nat.le_of_ble_eq_true rfl), (Nat.le_of_ble_eq_true rfl)⟩) hw [0, 1] [] [0, 1] [0] [0] ⟨rfl, rfl, rfl, rfl, rfl, by decide, rfl, rfl, rfl⟩ (ci := 0) (q0 := 0) rfl rfl hl.1 rfl rfl (Nat.le_of_ble_eq_true rfl) dX1_trim_3 ⟨(Nat.le_of_ble_eq_true rfl), (Nat.le_of_ble_eq_true rfl)⟩ (k1 := 0) (n1 := 0) ⟨rfl, rfl⟩ (fun H locs hw => ?_)
  refine va_put (D := (dC, dI)) (ci := 0) (v := .int (nI (fr_ z a))) (ty := .int) (C := RX1) (T := TX1) (N := 2) hx hb hts in_X1 tyX1 tyX1_ok nmX1 hown hw.2.2.1 hw.1 hw.2.1 hw.2.2.2.1 0 rfl rfl 1 (by decide) (hts _ q16) (fun _ h9 => h9) rfl (by decide +kernel) rfl rfl (Nat.le_of_ble_eq_true rfl) dX1_trim_6 (fun H locs hP hD hS => ?_)
  have hw : Wd_ dC dI tt [(h0, .inr (0, [.ref bt, .int (nI (fr_ z a))])), (bt, .inl (dB, 4096, .inl f))] [(dB, .byte)] A s _ _ := ⟨hP, hD, hw.2.2.1, hS, hw.2.2.2.2⟩
  exact W.vret hx hb hr (fun t ht hW => ⟨⟨(), rfl, trivial, en_ret hw [0, 1] rfl rfl [0] rfl ht hW⟩, hw.2.2.2.1.F ht⟩) hw.2.2.2.1.2.2 dX1_trim_9
set_option maxHeartbeats 4000000 in
/-- SumJoin.sum(true, ..) -/
theorem k_sum_crc (l : Launch) (dC : Nat → ClassId) (dI : Nat → Nat → Nat) (tt : Nat) (bt : Nat) (dB : ClassId) (f : Nat → Int32) (i n : Nat) (sz : Nat) (hin : i + n ≤ 4096) : Met l yX1_sum (ws_ yX1_sum cX1_sum 5 (some .long)) ({ frames := 2, cells := 1, slots := 1, locals := 32 }) (va_Pc [.int (nI 1), .ref bt, .int (nI i), .int (nI n)] (st_ dC dI tt [(bt, .inl (dB, 4096, .inl f))] [(dB, .byte)] sz)) (Ql_ (lN (cr_V (tx_ f) i n)) [(bt, .inl (dB, 4096, .inl f))] [(dB, .byte)] dC dI (va_A [(bt, .inl (dB, 4096, .inl f))] sz)) 1 1 (va_A [(bt, .inl (dB, 4096, .inl f))] sz) := by
  refine met_pro (QA := Ql_ (lN (cr_V (tx_ f) i n)) [(bt, .inl (dB, 4096, .inl f))] [(dB, .byte)] dC dI) (by decide +kernel) (Nat.le_of_ble_eq_true rfl) ?_
  intro p e s m below meth c A ls hx hb hr hml hts hown hlocks hname hw hl
  have hown : s.vm.findClass RX1 = some m.cls := hown
  have hl : lv_has ls 5 [(0, .int (nI 1)), (1, .ref bt), (2, .int (nI i)), (3, .int (nI n))] := hl
  refine lv_iload_n hx hb dX1_sum_0 rfl (lv_at hl 0 rfl) ?_
  refine lv_if_eq (tgt := 27) hx hb dX1_sum_1 (by decide) (fun hye => absurd hye (by decide +kernel)) (fun _ => ?_)
  refine va_new (D := (dC, dI)) (ci := 1) (fs := [.int (nI 0)]) (C := RX2) (T := TX2) (N := 1) hx hb hts in_X2 tyX2 tyX2_ok hown (hts _ q55) (hts _ q56) (hts _ q5) hw.2.2.1 hw.1 hw.2.1 hw.2.2.2.1 hw.2.2.2.2.1 rfl (fun j hj => by rcases (show j = 0 by omega) with rfl <;> rfl) (Nat.le_of_ble_eq_true rfl) (Nat.le_of_ble_eq_true rfl) dX1_sum_4 (fun o H hP hD hS => ?_)
  have hw : Wd_ dC dI tt [(bt, .inl (dB, 4096, .inl f)), (o, .inr (1, [.int (nI 0)]))] [(dB, .byte)] A s _ _ := ⟨hP, hD, hw.2.2.1, hS, hw.2.2.2.2⟩
  refine W.widen (k := 1) (n := 1) (Nat.le_of_ble_eq_true rfl) (Nat.le_of_ble_eq_true rfl) ?_
  refine lv_dup hx hb dX1_sum_7 rfl ?_
  refine go_I (As := []) (rest := [.ref o]) (wr := [(bt, .inl (dB, 4096, .inl f))]) (un := fun _ => [(bt, .inl (dB, 4096, .inl f)), (o, .inr (1, [.int (nI 0)]))]) (xn := fun _ => [(dB, .byte)]) ⟨hx, hb, hml, hown, hts⟩ (k_crc_init l dC dI tt o (nI 0) _) (cwI 0 hts (lw_meth q59) rfl rfl rfl (hts _ q5) (hts _ q57) (hts _ q58) rfl (by decide +kernel) ⟨(Nat.le_of_ble_eq_true rfl), (Nat.le_of_ble_eq_true rfl)⟩) hw [1] [0] [0, 1] [0] [] (fun _ => ⟨rfl, rfl, rfl, rfl, rfl, by decide, rfl, rfl, rfl⟩) hl.1 rfl rfl (Nat.le_of_ble_eq_true rfl) dX1_sum_8 ⟨(Nat.le_of_ble_eq_true rfl), (Nat.le_of_ble_eq_true rfl)⟩ (k1 := 1) (n1 := 1) ⟨rfl, rfl⟩ () (fun _ H locs _ hw => ?_)
  have hw : Wd_ dC dI tt [(bt, .inl (dB, 4096, .inl f)), (o, .inr (1, [.int (nI 0)]))] [(dB, .byte)] A s _ _ := hw
  refine lv_astore (lv' := [(4, .ref o), (0, .int (nI 1)), (1, .ref bt), (2, .int (nI i)), (3, .int (nI n))]) hx hb dX1_sum_11 hl (by decide) rfl (fun ls hl => ?_)
  refine lv_aload hx hb dX1_sum_13 (lv_at hl 0 rfl) ?_
  refine lv_aload_n hx hb dX1_sum_15 rfl (lv_at hl 2 rfl) ?_
  refine lv_iload_n hx hb dX1_sum_16 rfl (lv_at hl 3 rfl) ?_
  refine lv_iload_n hx hb dX1_sum_17 rfl (lv_at hl 4 rfl) ?_
  refine go_Vv (As := [.ref bt, .int (nI i), .int (nI n)]) (rest := []) (wr := []) (un := fun _ => [(bt, .inl (dB, 4096, .inl f)), (o, .inr (1, [.int (nI (cr_V (tx_ f) i n))]))]) (xn := fun _ => [(dB, .byte)]) ⟨hx, hb, hml, hown, hts⟩ (k_crc_update l dC dI tt o bt dB 4096 f i n _ (by decide) hin) (cwV 3 hts (lw_V q65 q66 q67 q5 q68) rfl rfl rfl (by decide +kernel) ⟨(Nat.le_of_ble_eq_true rfl), (Nat.le_of_ble_eq_true rfl)⟩) hw [1, 0] [] [1, 0] [0] [0] (fun _ => ⟨rfl, rfl, rfl, rfl, rfl, by decide, rfl, rfl, rfl⟩) (ci := 1) (q0 := 0) rfl rfl hl.1 rfl rfl (Nat.le_of_ble_eq_true rfl) dX1_sum_18 ⟨(Nat.le_of_ble_eq_true rfl), (Nat.le_of_ble_eq_true rfl)⟩ (k1 := 1) (n1 := 1) ⟨rfl, rfl⟩ () (fun _ H locs _ hw => ?_)
  have hw : Wd_ dC dI tt [(bt, .inl (dB, 4096, .inl f)), (o, .inr (1, [.int (nI (cr_V (tx_ f) i n))]))] [(dB, .byte)] A s _ _ := hw
  refine lv_aload hx hb dX1_sum_21 (lv_at hl 0 rfl) ?_
  refine go_Vl (As := []) (rest := []) (wr := [(bt, .inl (dB, 4096, .inl f))]) (wn := [(bt, .inl (dB, 4096, .inl f)), (o, .inr (1, [.int (nI (cr_V (tx_ f) i n))]))]) (tn := [(dB, .byte)]) ⟨hx, hb, hml, hown, hts⟩ (k_crc_value l dC dI tt o (cr_V (tx_ f) i n) _ (cr_V_lt (tx_lt f) i n)) (cwV 0 hts (lw_V q71 q72 q73 q5 q74) rfl rfl rfl (by decide +kernel) ⟨(Nat.le_of_ble_eq_true rfl), (Nat.le_of_ble_eq_true rfl)⟩) hw [1] [0] [0, 1] [0] [] ⟨rfl, rfl, rfl, rfl, rfl, by decide, rfl, rfl, rfl⟩ (ci := 1) (q0 := 0) rfl rfl hl.1 rfl rfl (Nat.le_of_ble_eq_true rfl) dX1_sum_23 ⟨(Nat.le_of_ble_eq_true rfl), (Nat.le_of_ble_eq_true rfl)⟩ (k1 := 1) (n1 := 1) ⟨rfl, rfl⟩ (fun H locs hw => ?_)
  exact W.lret hx hb hr (fun t ht hW => ⟨⟨_, (), rfl, rfl, en_ret hw [0] rfl rfl [0] rfl ht hW⟩, hw.2.2.2.1.F ht⟩) hw.2.2.2.1.2.2 dX1_sum_26
set_option maxHeartbeats 4000000 in
/-- SumJoin.sum(false, ..) -/
theorem k_sum_ad (l : Launch) (dC : Nat → ClassId) (dI : Nat → Nat → Nat) (tt : Nat) (bt : Nat) (dB : ClassId) (f : Nat → Int32) (i n : Nat) (sz : Nat) (hin : i + n ≤ 4096) : Met l yX1_sum (ws_ yX1_sum cX1_sum 5 (some .long)) ({ frames := 2, cells := 1, slots := 2, locals := 32 }) (va_Pc [.int (nI 0), .ref bt, .int (nI i), .int (nI n)] (st_ dC dI tt [(bt, .inl (dB, 4096, .inl f))] [(dB, .byte)] sz)) (Ql_ (lN (ad_V (tx_ f) i n)) [(bt, .inl (dB, 4096, .inl f))] [(dB, .byte)] dC dI (va_A [(bt, .inl (dB, 4096, .inl f))] sz)) 1 2 (va_A [(bt, .inl (dB, 4096, .inl f))] sz) := by
  refine met_pro (QA := Ql_ (lN (ad_V (tx_ f) i n)) [(bt, .inl (dB, 4096, .inl f))] [(dB, .byte)] dC dI) (by decide +kernel) (Nat.le_of_ble_eq_true rfl) ?_
  intro p e s m below meth c A ls hx hb hr hml hts hown hlocks hname hw hl
  have hown : s.vm.findClass RX1 = some m.cls := hown
  have hl : lv_has ls 5 [(0, .int (nI 0)), (1, .ref bt), (2, .int (nI i)), (3, .int (nI n))] := hl
  refine lv_iload_n hx hb dX1_sum_0 rfl (lv_at hl 0 rfl) ?_
  refine lv_if_eq (tgt := 27) hx hb dX1_sum_1 (by decide) (fun _ => ?_) (fun hne => absurd (by decide +kernel) hne)
  refine va_new (D := (dC, dI)) (ci := 2) (fs := [.long (lN 0), .long (lN 0)]) (C := RX3) (T := TX3) (N := 2) hx hb hts in_X3 tyX3 tyX3_ok hown (hts _ q76) (hts _ q77) (hts _ q6) hw.2.2.1 hw.1 hw.2.1 hw.2.2.2.1 hw.2.2.2.2.1 rfl (fun j hj => by rcases (show j = 0 ∨ j = 1 by omega) with rfl | rfl <;> rfl) (Nat.le_of_ble_eq_true rfl) (Nat.le_of_ble_eq_true rfl) dX1_sum_27 (fun o H hP hD hS => ?_)
  have hw : Wd_ dC dI tt [(bt, .inl (dB, 4096, .inl f)), (o, .inr (2, [.long (lN 0), .long (lN 0)]))] [(dB, .byte)] A s _ _ := ⟨hP, hD, hw.2.2.1, hS, hw.2.2.2.2⟩
  refine W.widen (k := 1) (n := 2) (Nat.le_of_ble_eq_true rfl) (Nat.le_of_ble_eq_true rfl) ?_
  refine lv_dup hx hb dX1_sum_30 rfl ?_
  refine go_I (As := []) (rest := [.ref o]) (wr := [(bt, .inl (dB, 4096, .inl f))]) (un := fun _ => [(bt, .inl (dB, 4096, .inl f)), (o, .inr (2, [.long (lN 1), .long (lN 0)]))]) (xn := fun _ => [(dB, .byte)]) ⟨hx, hb, hml, hown, hts⟩ (k_ad_init l dC dI tt o (lN 0) (lN 0) _) (cwI 0 hts (lw_meth q80) rfl rfl rfl (hts _ q6) (hts _ q78) (hts _ q79) rfl (by decide +kernel) ⟨(Nat.le_of_ble_eq_true rfl), (Nat.le_of_ble_eq_true rfl)⟩) hw [1] [0] [0, 1] [0] [] (fun _ => ⟨rfl, rfl, rfl, rfl, rfl, by decide, rfl, rfl, rfl⟩) hl.1 rfl rfl (Nat.le_of_ble_eq_true rfl) dX1_sum_31 ⟨(Nat.le_of_ble_eq_true rfl), (Nat.le_of_ble_eq_true rfl)⟩ (k1 := 1) (n1 := 2) ⟨rfl, rfl⟩ () (fun _ H locs _ hw => ?_)
  have hw : Wd_ dC dI tt [(bt, .inl (dB, 4096, .inl f)), (o, .inr (2, [.long (lN 1), .long (lN 0)]))] [(dB, .byte)] A s _ _ := hw
  refine lv_astore (lv' := [(4, .ref o), (0, .int (nI 0)), (1, .ref bt), (2, .int (nI i)), (3, .int (nI n))]) hx hb dX1_sum_34 hl (by decide) rfl (fun ls hl => ?_)
  refine lv_aload hx hb dX1_sum_36 (lv_at hl 0 rfl) ?_
  refine lv_aload_n hx hb dX1_sum_38 rfl (lv_at hl 2 rfl) ?_
  refine lv_iload_n hx hb dX1_sum_39 rfl (lv_at hl 3 rfl) ?_
  refine lv_iload_n hx hb dX1_sum_40 rfl (lv_at hl 4 rfl) ?_
  refine go_Vv (As := [.ref bt, .int (nI i), .int (nI n)]) (rest := []) (wr := []) (un := fun _ => [(bt, .inl (dB, 4096, .inl f)), (o, .inr (2, [.long (lN (ad_A (tx_ f) i n % 65521)), .long (lN (ad_S (tx_ f) i n % 65521))]))]) (xn := fun _ => [(dB, .byte)]) ⟨hx, hb, hml, hown, hts⟩ (k_ad_update l dC dI tt o bt dB 4096 f i n _ (Nat.le_refl _) hin) (cwV 3 hts (lw_V q89 q90 q91 q6 q92) rfl rfl rfl (by decide +kernel) ⟨(Nat.le_of_ble_eq_true rfl), (Nat.le_of_ble_eq_true rfl)⟩) hw [1, 0] [] [1, 0] [0] [0] (fun _ => ⟨rfl, rfl, rfl, rfl, rfl, by decide, rfl, rfl, rfl⟩) (ci := 2) (q0 := 0) rfl rfl hl.1 rfl rfl (Nat.le_of_ble_eq_true rfl) dX1_sum_41 ⟨(Nat.le_of_ble_eq_true rfl), (Nat.le_of_ble_eq_true rfl)⟩ (k1 := 1) (n1 := 2) ⟨rfl, rfl⟩ () (fun _ H locs _ hw => ?_)
  have hw : Wd_ dC dI tt [(bt, .inl (dB, 4096, .inl f)), (o, .inr (2, [.long (lN (ad_A (tx_ f) i n % 65521)), .long (lN (ad_S (tx_ f) i n % 65521))]))] [(dB, .byte)] A s _ _ := hw
  refine lv_aload hx hb dX1_sum_44 (lv_at hl 0 rfl) ?_
  refine go_Vl (As := []) (rest := []) (wr := [(bt, .inl (dB, 4096, .inl f))]) (wn := [(bt, .inl (dB, 4096, .inl f)), (o, .inr (2, [.long (lN (ad_A (tx_ f) i n % 65521)), .long (lN (ad_S (tx_ f) i n % 65521))]))]) (tn := [(dB, .byte)]) ⟨hx, hb, hml, hown, hts⟩ (k_ad_value l dC dI tt o (ad_A (tx_ f) i n % 65521) (ad_S (tx_ f) i n % 65521) _ (Nat.lt_trans (Nat.mod_lt _ (by decide)) (by decide)) (Nat.lt_trans (Nat.mod_lt _ (by decide)) (by decide))) (cwV 0 hts (lw_V q94 q95 q96 q6 q97) rfl rfl rfl (by decide +kernel) ⟨(Nat.le_of_ble_eq_true rfl), (Nat.le_of_ble_eq_true rfl)⟩) hw [1] [0] [0, 1] [0] [] ⟨rfl, rfl, rfl, rfl, rfl, by decide, rfl, rfl, rfl⟩ (ci := 2) (q0 := 0) rfl rfl hl.1 rfl rfl (Nat.le_of_ble_eq_true rfl) dX1_sum_46 ⟨(Nat.le_of_ble_eq_true rfl), (Nat.le_of_ble_eq_true rfl)⟩ (k1 := 1) (n1 := 2) ⟨rfl, rfl⟩ (fun H locs hw => ?_)
  exact W.lret hx hb hr (fun t ht hW => ⟨⟨_, (), rfl, rfl, en_ret hw [0] rfl rfl [0] rfl ht hW⟩, hw.2.2.2.1.F ht⟩) hw.2.2.2.1.2.2 dX1_sum_49
end
section
set_option maxRecDepth 100000
set_option maxHeartbeats 4000000 in
/-- SumJoin.crc(int, int) -/
theorem k_crc (l : Launch) (dC : Nat → ClassId) (dI : Nat → Nat → Nat) (tt : Nat) (h0 bt : Nat) (dB : ClassId) (f : Nat → Int32) (z : Nat) (a b : Int32) (sz : Nat) (hz : z ≤ 4096) : Met l yX1_crc (ws_ yX1_crc cX1_crc 4 (some .long)) ({ frames := 3, cells := 1, slots := 1, locals := 56 }) (va_Pc [.ref h0, .int (a), .int (b)] (st_ dC dI tt [(h0, .inr (0, [.ref bt, .int (nI z)])), (bt, .inl (dB, 4096, .inl f))] [(dB, .byte)] sz)) (Ql_ (lN (cr_V (tx_ f) (fr_ z a) (cn_ z (fr_ z a) b))) [(h0, .inr (0, [.ref bt, .int (nI z)])), (bt, .inl (dB, 4096, .inl f))] [(dB, .byte)] dC dI (va_A [(h0, .inr (0, [.ref bt, .int (nI z)])), (bt, .inl (dB, 4096, .inl f))] sz)) 1 1 (va_A [(h0, .inr (0, [.ref bt, .int (nI z)])), (bt, .inl (dB, 4096, .inl f))] sz) := by
  refine met_pro (QA := Ql_ (lN (cr_V (tx_ f) (fr_ z a) (cn_ z (fr_ z a) b))) [(h0, .inr (0, [.ref bt, .int (nI z)])), (bt, .inl (dB, 4096, .inl f))] [(dB, .byte)] dC dI) (by decide +kernel) (Nat.le_of_ble_eq_true rfl) ?_
  intro p e s m below meth c A ls hx hb hr hml hts hown hlocks hname hw hl
  have hown : s.vm.findClass RX1 = some m.cls := hown
  have hl : lv_has ls 4 [(0, .ref h0), (1, .int (a)), (2, .int (b))] := hl
  have hi := fr_le z a
  have hc := cn_le z (fr_ z a) b
  refine lv_aload_n hx hb dX1_crc_0 rfl (lv_at hl 0 rfl) ?_
  refine lv_iload_n hx hb dX1_crc_1 rfl (lv_at hl 1 rfl) ?_
  refine go_Vi (As := [.int (a)]) (rest := []) (wr := []) (wn := [(h0, .inr (0, [.ref bt, .int (nI z)])), (bt, .inl (dB, 4096, .inl f))]) (tn := [(dB, .byte)]) ⟨hx, hb, hml, hown, hts⟩ (k_from l dC dI tt h0 bt dB f z a _ hz) (cwV 1 hts (lw_V q35 q37 qs1 q4 q38) rfl rfl rfl (by decide +kernel) ⟨(Nat.le_of_ble_eq_true rfl), (Nat.le_of_ble_eq_true rfl)⟩) hw [0, 1] [] [0, 1] [0] [0] ⟨rfl, rfl, rfl, rfl, rfl, by decide, rfl, rfl, rfl⟩ (ci := 0) (q0 := 0) rfl rfl hl.1 rfl rfl (Nat.le_of_ble_eq_true rfl) dX1_crc_2 ⟨(Nat.le_of_ble_eq_true rfl), (Nat.le_of_ble_eq_true rfl)⟩ (k1 := 0) (n1 := 0) ⟨rfl, rfl⟩ (fun H locs hw => ?_)
  refine lv_istore_n (lv' := [(3, .int (nI (fr_ z a))), (0, .ref h0), (1, .int (a)), (2, .int (b))]) hx hb dX1_crc_5 rfl hl (by decide) rfl (fun ls hl => ?_)
  refine lv_iconst (v := nI 1) hx hb dX1_crc_6 (by decide +kernel) ?_
  refine lv_aload_n hx hb dX1_crc_7 rfl (lv_at hl 1 rfl) ?_
  refine va_get (D := (dC, dI)) (ci := 0) (v := .ref bt) (C := RX1) (T := TX1) (N := 2) hx hb hts in_X1 hown hw.2.2.1 hw.1 0 rfl rfl 0 (by decide) (hts _ q15) (fun _ h9 => h9) rfl dX1_crc_8 ?_
  refine lv_iload_n hx hb dX1_crc_11 rfl (lv_at hl 0 rfl) ?_
  refine lv_aload_n hx hb dX1_crc_12 rfl (lv_at hl 1 rfl) ?_
  refine lv_iload_n hx hb dX1_crc_13 rfl (lv_at hl 0 rfl) ?_
  refine lv_iload_n hx hb dX1_crc_14 rfl (lv_at hl 3 rfl) ?_
  refine go_Vi (As := [.int (nI (fr_ z a)), .int (b)]) (rest := [.int (nI (fr_ z a)), .ref bt, .int (nI 1)]) (wr := []) (wn := [(h0, .inr (0, [.ref bt, .int (nI z)])), (bt, .inl (dB, 4096, .inl f))]) (tn := [(dB, .byte)]) ⟨hx, hb, hml, hown, hts⟩ (k_count l dC dI tt h0 bt dB f z (fr_ z a) b _ hz hi) (cwV 2 hts (lw_V q48 q50 qs2 q4 q51) rfl rfl rfl (by decide +kernel) ⟨(Nat.le_of_ble_eq_true rfl), (Nat.le_of_ble_eq_true rfl)⟩) hw [0, 1] [] [0, 1] [0] [0] ⟨rfl, rfl, rfl, rfl, rfl, by decide, rfl, rfl, rfl⟩ (ci := 0) (q0 := 0) rfl rfl hl.1 rfl rfl (Nat.le_of_ble_eq_true rfl) dX1_crc_15 ⟨(Nat.le_of_ble_eq_true rfl), (Nat.le_of_ble_eq_true rfl)⟩ (k1 := 0) (n1 := 0) ⟨rfl, rfl⟩ (fun H locs hw => ?_)
  refine go_Sl (As := [.int (nI 1), .ref bt, .int (nI (fr_ z a)), .int (nI (cn_ z (fr_ z a) b))]) (rest := []) (wr := [(h0, .inr (0, [.ref bt, .int (nI z)]))]) (wn := [(h0, .inr (0, [.ref bt, .int (nI z)])), (bt, .inl (dB, 4096, .inl f))]) (tn := [(dB, .byte)]) ⟨hx, hb, hml, hown, hts⟩ (k_sum_crc l dC dI tt bt dB f (fr_ z a) (cn_ z (fr_ z a) b) _ (by omega)) (va_cwS 4 hts (lw_S q52 q53 q4 q54) rfl rfl rfl (by decide +kernel) ⟨(Nat.le_of_ble_eq_true rfl), (Nat.le_of_ble_eq_true rfl)⟩) hw [1] [0] [0, 1] [0] [0] ⟨rfl, rfl, rfl, rfl, rfl, by decide, rfl, rfl, rfl⟩ hl.1 rfl rfl (Nat.le_of_ble_eq_true rfl) dX1_crc_18 ⟨(Nat.le_of_ble_eq_true rfl), (Nat.le_of_ble_eq_true rfl)⟩ (k1 := 1) (n1 := 1) ⟨rfl, rfl⟩ (fun H locs hw => ?_)
  exact W.lret hx hb hr (fun t ht hW => ⟨⟨_, (), rfl, rfl, en_ret hw [0, 1] rfl rfl [0] rfl ht hW⟩, hw.2.2.2.1.F ht⟩) hw.2.2.2.1.2.2 dX1_crc_21
set_option maxHeartbeats 4000000 in
/-- SumJoin.adler(int, int) -/
theorem k_adler (l : Launch) (dC : Nat → ClassId) (dI : Nat → Nat → Nat) (tt : Nat) (h0 bt : Nat) (dB : ClassId) (f : Nat → Int32) (z : Nat) (a b : Int32) (sz : Nat) (hz : z ≤ 4096) : Met l yX1_adler (ws_ yX1_adler cX1_adler 4 (some .long)) ({ frames := 3, cells := 1, slots := 2, locals := 56 }) (va_Pc [.ref h0, .int (a), .int (b)] (st_ dC dI tt [(h0, .inr (0, [.ref bt, .int (nI z)])), (bt, .inl (dB, 4096, .inl f))] [(dB, .byte)] sz)) (Ql_ (lN (ad_V (tx_ f) (fr_ z a) (cn_ z (fr_ z a) b))) [(h0, .inr (0, [.ref bt, .int (nI z)])), (bt, .inl (dB, 4096, .inl f))] [(dB, .byte)] dC dI (va_A [(h0, .inr (0, [.ref bt, .int (nI z)])), (bt, .inl (dB, 4096, .inl f))] sz)) 1 2 (va_A [(h0, .inr (0, [.ref bt, .int (nI z)])), (bt, .inl (dB, 4096, .inl f))] sz) := by
  refine met_pro (QA := Ql_ (lN (ad_V (tx_ f) (fr_ z a) (cn_ z (fr_ z a) b))) [(h0, .inr (0, [.ref bt, .int (nI z)])), (bt, .inl (dB, 4096, .inl f))] [(dB, .byte)] dC dI) (by decide +kernel) (Nat.le_of_ble_eq_true rfl) ?_
  intro p e s m below meth c A ls hx hb hr hml hts hown hlocks hname hw hl
  have hown : s.vm.findClass RX1 = some m.cls := hown
  have hl : lv_has ls 4 [(0, .ref h0), (1, .int (a)), (2, .int (b))] := hl
  have hi := fr_le z a
  have hc := cn_le z (fr_ z a) b
  refine lv_aload_n hx hb dX1_adler_0 rfl (lv_at hl 0 rfl) ?_
  refine lv_iload_n hx hb dX1_adler_1 rfl (lv_at hl 1 rfl) ?_
  refine go_Vi (As := [.int (a)]) (rest := []) (wr := []) (wn := [(h0, .inr (0, [.ref bt, .int (nI z)])), (bt, .inl (dB, 4096, .inl f))]) (tn := [(dB, .byte)]) ⟨hx, hb, hml, hown, hts⟩ (k_from l dC dI tt h0 bt dB f z a _ hz) (cwV 1 hts (lw_V q35 q37 qs1 q4 q38) rfl rfl rfl (by decide +kernel) ⟨(Nat.le_of_ble_eq_true rfl), (Nat.le_of_ble_eq_true rfl)⟩) hw [0, 1] [] [0, 1] [0] [0] ⟨rfl, rfl, rfl, rfl, rfl, by decide, rfl, rfl, rfl⟩ (ci := 0) (q0 := 0) rfl rfl hl.1 rfl rfl (Nat.le_of_ble_eq_true rfl) dX1_adler_2 ⟨(Nat.le_of_ble_eq_true rfl), (Nat.le_of_ble_eq_true rfl)⟩ (k1 := 0) (n1 := 0) ⟨rfl, rfl⟩ (fun H locs hw => ?_)
  refine lv_istore_n (lv' := [(3, .int (nI (fr_ z a))), (0, .ref h0), (1, .int (a)), (2, .int (b))]) hx hb dX1_adler_5 rfl hl (by decide) rfl (fun ls hl => ?_)
  refine lv_iconst (v := nI 0) hx hb dX1_adler_6 (by decide +kernel) ?_
  refine lv_aload_n hx hb dX1_adler_7 rfl (lv_at hl 1 rfl) ?_
  refine va_get (D := (dC, dI)) (ci := 0) (v := .ref bt) (C := RX1) (T := TX1) (N := 2) hx hb hts in_X1 hown hw.2.2.1 hw.1 0 rfl rfl 0 (by decide) (hts _ q15) (fun _ h9 => h9) rfl dX1_adler_8 ?_
  refine lv_iload_n hx hb dX1_adler_11 rfl (lv_at hl 0 rfl) ?_
  refine lv_aload_n hx hb dX1_adler_12 rfl (lv_at hl 1 rfl) ?_
  refine lv_iload_n hx hb dX1_adler_13 rfl (lv_at hl 0 rfl) ?_
  refine lv_iload_n hx hb dX1_adler_14 rfl (lv_at hl 3 rfl) ?_
  refine go_Vi (As := [.int (nI (fr_ z a)), .int (b)]) (rest := [.int (nI (fr_ z a)), .ref bt, .int (nI 0)]) (wr := []) (wn := [(h0, .inr (0, [.ref bt, .int (nI z)])), (bt, .inl (dB, 4096, .inl f))]) (tn := [(dB, .byte)]) ⟨hx, hb, hml, hown, hts⟩ (k_count l dC dI tt h0 bt dB f z (fr_ z a) b _ hz hi) (cwV 2 hts (lw_V q48 q50 qs2 q4 q51) rfl rfl rfl (by decide +kernel) ⟨(Nat.le_of_ble_eq_true rfl), (Nat.le_of_ble_eq_true rfl)⟩) hw [0, 1] [] [0, 1] [0] [0] ⟨rfl, rfl, rfl, rfl, rfl, by decide, rfl, rfl, rfl⟩ (ci := 0) (q0 := 0) rfl rfl hl.1 rfl rfl (Nat.le_of_ble_eq_true rfl) dX1_adler_15 ⟨(Nat.le_of_ble_eq_true rfl), (Nat.le_of_ble_eq_true rfl)⟩ (k1 := 0) (n1 := 0) ⟨rfl, rfl⟩ (fun H locs hw => ?_)
  refine go_Sl (As := [.int (nI 0), .ref bt, .int (nI (fr_ z a)), .int (nI (cn_ z (fr_ z a) b))]) (rest := []) (wr := [(h0, .inr (0, [.ref bt, .int (nI z)]))]) (wn := [(h0, .inr (0, [.ref bt, .int (nI z)])), (bt, .inl (dB, 4096, .inl f))]) (tn := [(dB, .byte)]) ⟨hx, hb, hml, hown, hts⟩ (k_sum_ad l dC dI tt bt dB f (fr_ z a) (cn_ z (fr_ z a) b) _ (by omega)) (va_cwS 4 hts (lw_S q52 q53 q4 q54) rfl rfl rfl (by decide +kernel) ⟨(Nat.le_of_ble_eq_true rfl), (Nat.le_of_ble_eq_true rfl)⟩) hw [1] [0] [0, 1] [0] [0] ⟨rfl, rfl, rfl, rfl, rfl, by decide, rfl, rfl, rfl⟩ hl.1 rfl rfl (Nat.le_of_ble_eq_true rfl) dX1_adler_18 ⟨(Nat.le_of_ble_eq_true rfl), (Nat.le_of_ble_eq_true rfl)⟩ (k1 := 1) (n1 := 2) ⟨rfl, rfl⟩ (fun H locs hw => ?_)
  exact W.lret hx hb hr (fun t ht hW => ⟨⟨_, (), rfl, rfl, en_ret hw [0, 1] rfl rfl [0] rfl ht hW⟩, hw.2.2.2.1.F ht⟩) hw.2.2.2.1.2.2 dX1_adler_21
set_option maxHeartbeats 4000000 in
/-- SumJoin.joinCrc(int, int, int) -/
theorem k_joinCrc (l : Launch) (dC : Nat → ClassId) (dI : Nat → Nat → Nat) (tt : Nat) (h0 bt : Nat) (dB : ClassId) (f : Nat → Int32) (z : Nat) (a b u : Int32) (sz : Nat) (hz : z ≤ 4096) : Met l yX1_joinCrc (ws_ yX1_joinCrc cX1_joinCrc 7 (some .long)) ({ frames := 3, cells := 4, slots := 66, locals := 77 }) (va_Pc [.ref h0, .int (a), .int (b), .int (u)] (st_ dC dI tt [(h0, .inr (0, [.ref bt, .int (nI z)])), (bt, .inl (dB, 4096, .inl f))] [(dB, .byte)] sz)) (Ql_ (lN (cr_V (tx_ f) (fr_ z a) (cn_ z (fr_ z a) b))) [(h0, .inr (0, [.ref bt, .int (nI z)])), (bt, .inl (dB, 4096, .inl f))] [(dB, .byte)] dC dI (va_A [(h0, .inr (0, [.ref bt, .int (nI z)])), (bt, .inl (dB, 4096, .inl f))] sz)) 4 66 (va_A [(h0, .inr (0, [.ref bt, .int (nI z)])), (bt, .inl (dB, 4096, .inl f))] sz) := by
  refine met_pro (QA := Ql_ (lN (cr_V (tx_ f) (fr_ z a) (cn_ z (fr_ z a) b))) [(h0, .inr (0, [.ref bt, .int (nI z)])), (bt, .inl (dB, 4096, .inl f))] [(dB, .byte)] dC dI) (by decide +kernel) (Nat.le_of_ble_eq_true rfl) ?_
  intro p e s m below meth c A ls hx hb hr hml hts hown hlocks hname hw hl
  have hown : s.vm.findClass RX1 = some m.cls := hown
  have hl : lv_has ls 7 [(0, .ref h0), (1, .int (a)), (2, .int (b)), (3, .int (u))] := hl
  obtain ⟨i, ei⟩ : ∃ i, i = fr_ z a := ⟨_, rfl⟩
  obtain ⟨n, en⟩ : ∃ n, n = cn_ z i b := ⟨_, rfl⟩
  obtain ⟨k, ek⟩ : ∃ k, k = fr_ n u := ⟨_, rfl⟩
  rw [← ei, ← en]
  have hi : i ≤ z := by rw [ei]; exact fr_le z a
  have hn : n ≤ z - i := by rw [en]; exact cn_le z i b
  have hk : k ≤ n := by rw [ek]; exact fr_le n u
  refine lv_aload_n hx hb dX1_joinCrc_0 rfl (lv_at hl 0 rfl) ?_
  refine lv_iload_n hx hb dX1_joinCrc_1 rfl (lv_at hl 1 rfl) ?_
  refine go_Vi (As := [.int (a)]) (rest := []) (wr := []) (wn := [(h0, .inr (0, [.ref bt, .int (nI z)])), (bt, .inl (dB, 4096, .inl f))]) (tn := [(dB, .byte)]) ⟨hx, hb, hml, hown, hts⟩ (k_from l dC dI tt h0 bt dB f z a _ hz) (cwV 1 hts (lw_V q35 q37 qs1 q4 q38) rfl rfl rfl (by decide +kernel) ⟨(Nat.le_of_ble_eq_true rfl), (Nat.le_of_ble_eq_true rfl)⟩) hw [0, 1] [] [0, 1] [0] [0] ⟨rfl, rfl, rfl, rfl, rfl, by decide, rfl, rfl, rfl⟩ (ci := 0) (q0 := 0) rfl rfl hl.1 rfl rfl (Nat.le_of_ble_eq_true rfl) dX1_joinCrc_2 ⟨(Nat.le_of_ble_eq_true rfl), (Nat.le_of_ble_eq_true rfl)⟩ (k1 := 0) (n1 := 0) ⟨rfl, rfl⟩ (fun H locs hw => ?_)
  refine wv_i (y := nI i) (by rw [ei]) ?_
  refine lv_istore (lv' := [(4, .int (nI i)), (0, .ref h0), (1, .int (a)), (2, .int (b)), (3, .int (u))]) hx hb dX1_joinCrc_5 hl (by decide) rfl (fun ls hl => ?_)
  refine lv_aload_n hx hb dX1_joinCrc_7 rfl (lv_at hl 1 rfl) ?_
  refine lv_iload hx hb dX1_joinCrc_8 (lv_at hl 0 rfl) ?_
  refine lv_iload_n hx hb dX1_joinCrc_10 rfl (lv_at hl 3 rfl) ?_
  refine go_Vi (As := [.int (nI i), .int (b)]) (rest := []) (wr := []) (wn := [(h0, .inr (0, [.ref bt, .int (nI z)])), (bt, .inl (dB, 4096, .inl f))]) (tn := [(dB, .byte)]) ⟨hx, hb, hml, hown, hts⟩ (k_count l dC dI tt h0 bt dB f z i b _ hz hi) (cwV 2 hts (lw_V q48 q50 qs2 q4 q51) rfl rfl rfl (by decide +kernel) ⟨(Nat.le_of_ble_eq_true rfl), (Nat.le_of_ble_eq_true rfl)⟩) hw [0, 1] [] [0, 1] [0] [0] ⟨rfl, rfl, rfl, rfl, rfl, by decide, rfl, rfl, rfl⟩ (ci := 0) (q0 := 0) rfl rfl hl.1 rfl rfl (Nat.le_of_ble_eq_true rfl) dX1_joinCrc_11 ⟨(Nat.le_of_ble_eq_true rfl), (Nat.le_of_ble_eq_true rfl)⟩ (k1 := 0) (n1 := 0) ⟨rfl, rfl⟩ (fun H locs hw => ?_)
  refine wv_i (y := nI n) (by rw [en]) ?_
  refine lv_istore (lv' := [(5, .int (nI n)), (4, .int (nI i)), (0, .ref h0), (1, .int (a)), (2, .int (b)), (3, .int (u))]) hx hb dX1_joinCrc_14 hl (by decide) rfl (fun ls hl => ?_)
  refine lv_iload_n hx hb dX1_joinCrc_16 rfl (lv_at hl 5 rfl) ?_
  refine lv_ldc (v := (2147483647 : Int32)) hx hb hown (hts _ q39) dX1_joinCrc_17 ?_
  refine lv_iand hx hb dX1_joinCrc_19 ?_
  refine wv_i (y := nI (u.toBitVec.toNat % 2147483648)) (mw_pos u) ?_
  refine lv_iload hx hb dX1_joinCrc_20 (lv_at hl 0 rfl) ?_
  refine lv_iconst (v := nI 1) hx hb dX1_joinCrc_22 (by decide +kernel) ?_
  refine lv_iadd hx hb dX1_joinCrc_23 ?_
  refine wv_i (y := nI (n + 1)) (nI_1 n) ?_
  refine lv_irem hx hb dX1_joinCrc_24 (nI_ne0 (Nat.succ_pos n) (by omega)) ?_
  refine wv_i (y := nI k) ((pk_rem (Nat.mod_lt _ (by decide)) (Nat.succ_pos n) (by omega)).trans (congrArg nI ek.symm)) ?_
  refine lv_istore (lv' := [(6, .int (nI k)), (5, .int (nI n)), (4, .int (nI i)), (0, .ref h0), (1, .int (a)), (2, .int (b)), (3, .int (u))]) hx hb dX1_joinCrc_25 hl (by decide) rfl (fun ls hl => ?_)
  refine lv_iconst (v := nI 1) hx hb dX1_joinCrc_27 (by decide +kernel) ?_
  refine lv_aload_n hx hb dX1_joinCrc_28 rfl (lv_at hl 3 rfl) ?_
  refine va_get (D := (dC, dI)) (ci := 0) (v := .ref bt) (C := RX1) (T := TX1) (N := 2) hx hb hts in_X1 hown hw.2.2.1 hw.1 0 rfl rfl 0 (by decide) (hts _ q15) (fun _ h9 => h9) rfl dX1_joinCrc_29 ?_
  refine lv_iload hx hb dX1_joinCrc_32 (lv_at hl 2 rfl) ?_
  refine lv_iload hx hb dX1_joinCrc_34 (lv_at hl 0 rfl) ?_
  refine go_Sl (As := [.int (nI 1), .ref bt, .int (nI i), .int (nI k)]) (rest := []) (wr := [(h0, .inr (0, [.ref bt, .int (nI z)]))]) (wn := [(h0, .inr (0, [.ref bt, .int (nI z)])), (bt, .inl (dB, 4096, .inl f))]) (tn := [(dB, .byte)]) ⟨hx, hb, hml, hown, hts⟩ (k_sum_crc l dC dI tt bt dB f i k _ (by omega)) (va_cwS 4 hts (lw_S q52 q53 q4 q54) rfl rfl rfl (by decide +kernel) ⟨(Nat.le_of_ble_eq_true rfl), (Nat.le_of_ble_eq_true rfl)⟩) hw [1] [0] [0, 1] [0] [0] ⟨rfl, rfl, rfl, rfl, rfl, by decide, rfl, rfl, rfl⟩ hl.1 rfl rfl (Nat.le_of_ble_eq_true rfl) dX1_joinCrc_36 ⟨(Nat.le_of_ble_eq_true rfl), (Nat.le_of_ble_eq_true rfl)⟩ (k1 := 1) (n1 := 1) ⟨rfl, rfl⟩ (fun H locs hw => ?_)
  refine lv_iconst (v := nI 1) hx hb dX1_joinCrc_39 (by decide +kernel) ?_
  refine lv_aload_n hx hb dX1_joinCrc_40 rfl (lv_at hl 3 rfl) ?_
  refine va_get (D := (dC, dI)) (ci := 0) (v := .ref bt) (C := RX1) (T := TX1) (N := 2) hx hb hts in_X1 hown hw.2.2.1 hw.1 0 rfl rfl 0 (by decide) (hts _ q15) (fun _ h9 => h9) rfl dX1_joinCrc_41 ?_
  refine lv_iload hx hb dX1_joinCrc_44 (lv_at hl 2 rfl) ?_
  refine lv_iload hx hb dX1_joinCrc_46 (lv_at hl 0 rfl) ?_
  refine lv_iadd hx hb dX1_joinCrc_48 ?_
  refine wv_i (y := nI (i + k)) (nI_add i k) ?_
  refine lv_iload hx hb dX1_joinCrc_49 (lv_at hl 1 rfl) ?_
  refine lv_iload hx hb dX1_joinCrc_51 (lv_at hl 0 rfl) ?_
  refine lv_isub hx hb dX1_joinCrc_53 ?_
  refine wv_i (y := nI (n - k)) (pk_sub hk) ?_
  refine go_Sl (As := [.int (nI 1), .ref bt, .int (nI (i + k)), .int (nI (n - k))]) (rest := [.long (lN (cr_V (tx_ f) i k))]) (wr := [(h0, .inr (0, [.ref bt, .int (nI z)]))]) (wn := [(h0, .inr (0, [.ref bt, .int (nI z)])), (bt, .inl (dB, 4096, .inl f))]) (tn := [(dB, .byte)]) ⟨hx, hb, hml, hown, hts⟩ (k_sum_crc l dC dI tt bt dB f (i + k) (n - k) _ (by omega)) (va_cwS 4 hts (lw_S q52 q53 q4 q54) rfl rfl rfl (by decide +kernel) ⟨(Nat.le_of_ble_eq_true rfl), (Nat.le_of_ble_eq_true rfl)⟩) hw [1] [0] [0, 1] [0] [0] ⟨rfl, rfl, rfl, rfl, rfl, by decide, rfl, rfl, rfl⟩ hl.1 rfl rfl (Nat.le_of_ble_eq_true rfl) dX1_joinCrc_54 ⟨(Nat.le_of_ble_eq_true rfl), (Nat.le_of_ble_eq_true rfl)⟩ (k1 := 2) (n1 := 2) ⟨rfl, rfl⟩ (fun H locs hw => ?_)
  refine lv_iload hx hb dX1_joinCrc_57 (lv_at hl 1 rfl) ?_
  refine lv_iload hx hb dX1_joinCrc_59 (lv_at hl 0 rfl) ?_
  refine lv_isub hx hb dX1_joinCrc_61 ?_
  refine wv_i (y := nI (n - k)) (pk_sub hk) ?_
  refine lv_i2l (v := lN (n - k)) hx hb dX1_joinCrc_62 (nI_l (by omega)) ?_
  refine go_Sl (As := [.long (lN (cr_V (tx_ f) i k)), .long (lN (cr_V (tx_ f) (i + k) (n - k))), .long (lN (n - k))]) (rest := []) (wr := [(h0, .inr (0, [.ref bt, .int (nI z)])), (bt, .inl (dB, 4096, .inl f))]) (wn := [(h0, .inr (0, [.ref bt, .int (nI z)])), (bt, .inl (dB, 4096, .inl f))]) (tn := [(dB, .byte)]) ⟨hx, hb, hml, hown, hts⟩ (k_crc_combine l dC dI tt (cr_V (tx_ f) i k) (cr_V (tx_ f) (i + k) (n - k)) (n - k) _ (cr_V_lt (tx_lt f) _ _) (by omega) (fun h => by rw [h]; exact cr_V_0 _ _)) (va_cwS 3 hts (lw_S q106 q107 q5 q108) rfl rfl rfl (by decide +kernel) ⟨(Nat.le_of_ble_eq_true rfl), (Nat.le_of_ble_eq_true rfl)⟩) hw [] [0, 1] [0, 1] [0] [] ⟨rfl, rfl, rfl, rfl, rfl, by decide, rfl, rfl, rfl⟩ hl.1 rfl rfl (Nat.le_of_ble_eq_true rfl) dX1_joinCrc_63 ⟨(Nat.le_of_ble_eq_true rfl), (Nat.le_of_ble_eq_true rfl)⟩ (k1 := 4) (n1 := 66) ⟨rfl, rfl⟩ (fun H locs hw => ?_)
  refine wv_l (y := lN (cr_V (tx_ f) i n)) (by rw [← cr_cat, Nat.add_sub_cancel' hk]) ?_
  exact W.lret hx hb hr (fun t ht hW => ⟨⟨_, (), rfl, rfl, en_ret hw [0, 1] rfl rfl [0] rfl ht hW⟩, hw.2.2.2.1.F ht⟩) hw.2.2.2.1.2.2 dX1_joinCrc_66
set_option maxHeartbeats 4000000 in
/-- SumJoin.joinAdler(int, int, int) -/
theorem k_joinAdler (l : Launch) (dC : Nat → ClassId) (dI : Nat → Nat → Nat) (tt : Nat) (h0 bt : Nat) (dB : ClassId) (f : Nat → Int32) (z : Nat) (a b u : Int32) (sz : Nat) (hz : z ≤ 4096) : Met l yX1_joinAdler (ws_ yX1_joinAdler cX1_joinAdler 7 (some .long)) ({ frames := 3, cells := 2, slots := 4, locals := 56 }) (va_Pc [.ref h0, .int (a), .int (b), .int (u)] (st_ dC dI tt [(h0, .inr (0, [.ref bt, .int (nI z)])), (bt, .inl (dB, 4096, .inl f))] [(dB, .byte)] sz)) (Ql_ (lN (ad_V (tx_ f) (fr_ z a) (cn_ z (fr_ z a) b))) [(h0, .inr (0, [.ref bt, .int (nI z)])), (bt, .inl (dB, 4096, .inl f))] [(dB, .byte)] dC dI (va_A [(h0, .inr (0, [.ref bt, .int (nI z)])), (bt, .inl (dB, 4096, .inl f))] sz)) 2 4 (va_A [(h0, .inr (0, [.ref bt, .int (nI z)])), (bt, .inl (dB, 4096, .inl f))] sz) := by
  refine met_pro (QA := Ql_ (lN (ad_V (tx_ f) (fr_ z a) (cn_ z (fr_ z a) b))) [(h0, .inr (0, [.ref bt, .int (nI z)])), (bt, .inl (dB, 4096, .inl f))] [(dB, .byte)] dC dI) (by decide +kernel) (Nat.le_of_ble_eq_true rfl) ?_
  intro p e s m below meth c A ls hx hb hr hml hts hown hlocks hname hw hl
  have hown : s.vm.findClass RX1 = some m.cls := hown
  have hl : lv_has ls 7 [(0, .ref h0), (1, .int (a)), (2, .int (b)), (3, .int (u))] := hl
  obtain ⟨i, ei⟩ : ∃ i, i = fr_ z a := ⟨_, rfl⟩
  obtain ⟨n, en⟩ : ∃ n, n = cn_ z i b := ⟨_, rfl⟩
  obtain ⟨k, ek⟩ : ∃ k, k = fr_ n u := ⟨_, rfl⟩
  rw [← ei, ← en]
  have hi : i ≤ z := by rw [ei]; exact fr_le z a
  have hn : n ≤ z - i := by rw [en]; exact cn_le z i b
  have hk : k ≤ n := by rw [ek]; exact fr_le n u
  refine lv_aload_n hx hb dX1_joinAdler_0 rfl (lv_at hl 0 rfl) ?_
  refine lv_iload_n hx hb dX1_joinAdler_1 rfl (lv_at hl 1 rfl) ?_
  refine go_Vi (As := [.int (a)]) (rest := []) (wr := []) (wn := [(h0, .inr (0, [.ref bt, .int (nI z)])), (bt, .inl (dB, 4096, .inl f))]) (tn := [(dB, .byte)]) ⟨hx, hb, hml, hown, hts⟩ (k_from l dC dI tt h0 bt dB f z a _ hz) (cwV 1 hts (lw_V q35 q37 qs1 q4 q38) rfl rfl rfl (by decide +kernel) ⟨(Nat.le_of_ble_eq_true rfl), (Nat.le_of_ble_eq_true rfl)⟩) hw [0, 1] [] [0, 1] [0] [0] ⟨rfl, rfl, rfl, rfl, rfl, by decide, rfl, rfl, rfl⟩ (ci := 0) (q0 := 0) rfl rfl hl.1 rfl rfl (Nat.le_of_ble_eq_true rfl) dX1_joinAdler_2 ⟨(Nat.le_of_ble_eq_true rfl), (Nat.le_of_ble_eq_true rfl)⟩ (k1 := 0) (n1 := 0) ⟨rfl, rfl⟩ (fun H locs hw => ?_)
  refine wv_i (y := nI i) (by rw [ei]) ?_
  refine lv_istore (lv' := [(4, .int (nI i)), (0, .ref h0), (1, .int (a)), (2, .int (b)), (3, .int (u))]) hx hb dX1_joinAdler_5 hl (by decide) rfl (fun ls hl => ?_)
  refine lv_aload_n hx hb dX1_joinAdler_7 rfl (lv_at hl 1 rfl) ?_
  refine lv_iload hx hb dX1_joinAdler_8 (lv_at hl 0 rfl) ?_
  refine lv_iload_n hx hb dX1_joinAdler_10 rfl (lv_at hl 3 rfl) ?_
  refine go_Vi (As := [.int (nI i), .int (b)]) (rest := []) (wr := []) (wn := [(h0, .inr (0, [.ref bt, .int (nI z)])), (bt, .inl (dB, 4096, .inl f))]) (tn := [(dB, .byte)]) ⟨hx, hb, hml, hown, hts⟩ (k_count l dC dI tt h0 bt dB f z i b _ hz hi) (cwV 2 hts (lw_V q48 q50 qs2 q4 q51) rfl rfl rfl (by decide +kernel) ⟨(Nat.le_of_ble_eq_true rfl), (Nat.le_of_ble_eq_true rfl)⟩) hw [0, 1] [] [0, 1] [0] [0] ⟨rfl, rfl, rfl, rfl, rfl, by decide, rfl, rfl, rfl⟩ (ci := 0) (q0 := 0) rfl rfl hl.1 rfl rfl (Nat.le_of_ble_eq_true rfl) dX1_joinAdler_11 ⟨(Nat.le_of_ble_eq_true rfl), (Nat.le_of_ble_eq_true rfl)⟩ (k1 := 0) (n1 := 0) ⟨rfl, rfl⟩ (fun H locs hw => ?_)
  refine wv_i (y := nI n) (by rw [en]) ?_
  refine lv_istore (lv' := [(5, .int (nI n)), (4, .int (nI i)), (0, .ref h0), (1, .int (a)), (2, .int (b)), (3, .int (u))]) hx hb dX1_joinAdler_14 hl (by decide) rfl (fun ls hl => ?_)
  refine lv_iload_n hx hb dX1_joinAdler_16 rfl (lv_at hl 5 rfl) ?_
  refine lv_ldc (v := (2147483647 : Int32)) hx hb hown (hts _ q39) dX1_joinAdler_17 ?_
  refine lv_iand hx hb dX1_joinAdler_19 ?_
  refine wv_i (y := nI (u.toBitVec.toNat % 2147483648)) (mw_pos u) ?_
  refine lv_iload hx hb dX1_joinAdler_20 (lv_at hl 0 rfl) ?_
  refine lv_iconst (v := nI 1) hx hb dX1_joinAdler_22 (by decide +kernel) ?_
  refine lv_iadd hx hb dX1_joinAdler_23 ?_
  refine wv_i (y := nI (n + 1)) (nI_1 n) ?_
  refine lv_irem hx hb dX1_joinAdler_24 (nI_ne0 (Nat.succ_pos n) (by omega)) ?_
  refine wv_i (y := nI k) ((pk_rem (Nat.mod_lt _ (by decide)) (Nat.succ_pos n) (by omega)).trans (congrArg nI ek.symm)) ?_
  refine lv_istore (lv' := [(6, .int (nI k)), (5, .int (nI n)), (4, .int (nI i)), (0, .ref h0), (1, .int (a)), (2, .int (b)), (3, .int (u))]) hx hb dX1_joinAdler_25 hl (by decide) rfl (fun ls hl => ?_)
  refine lv_iconst (v := nI 0) hx hb dX1_joinAdler_27 (by decide +kernel) ?_
  refine lv_aload_n hx hb dX1_joinAdler_28 rfl (lv_at hl 3 rfl) ?_
  refine va_get (D := (dC, dI)) (ci := 0) (v := .ref bt) (C := RX1) (T := TX1) (N := 2) hx hb hts in_X1 hown hw.2.2.1 hw.1 0 rfl rfl 0 (by decide) (hts _ q15) (fun _ h9 => h9) rfl dX1_joinAdler_29 ?_
  refine lv_iload hx hb dX1_joinAdler_32 (lv_at hl 2 rfl) ?_
  refine lv_iload hx hb dX1_joinAdler_34 (lv_at hl 0 rfl) ?_
  refine go_Sl (As := [.int (nI 0), .ref bt, .int (nI i), .int (nI k)]) (rest := []) (wr := [(h0, .inr (0, [.ref bt, .int (nI z)]))]) (wn := [(h0, .inr (0, [.ref bt, .int (nI z)])), (bt, .inl (dB, 4096, .inl f))]) (tn := [(dB, .byte)]) ⟨hx, hb, hml, hown, hts⟩ (k_sum_ad l dC dI tt bt dB f i k _ (by omega)) (va_cwS 4 hts (lw_S q52 q53 q4 q54) rfl rfl rfl (by decide +kernel) ⟨(Nat.le_of_ble_eq_true rfl), (Nat.le_of_ble_eq_true rfl)⟩) hw [1] [0] [0, 1] [0] [0] ⟨rfl, rfl, rfl, rfl, rfl, by decide, rfl, rfl, rfl⟩ hl.1 rfl rfl (Nat.le_of_ble_eq_true rfl) dX1_joinAdler_36 ⟨(Nat.le_of_ble_eq_true rfl), (Nat.le_of_ble_eq_true rfl)⟩ (k1 := 1) (n1 := 2) ⟨rfl, rfl⟩ (fun H locs hw => ?_)
  refine lv_iconst (v := nI 0) hx hb dX1_joinAdler_39 (by decide +kernel) ?_
  refine lv_aload_n hx hb dX1_joinAdler_40 rfl (lv_at hl 3 rfl) ?_
  refine va_get (D := (dC, dI)) (ci := 0) (v := .ref bt) (C := RX1) (T := TX1) (N := 2) hx hb hts in_X1 hown hw.2.2.1 hw.1 0 rfl rfl 0 (by decide) (hts _ q15) (fun _ h9 => h9) rfl dX1_joinAdler_41 ?_
  refine lv_iload hx hb dX1_joinAdler_44 (lv_at hl 2 rfl) ?_
  refine lv_iload hx hb dX1_joinAdler_46 (lv_at hl 0 rfl) ?_
  refine lv_iadd hx hb dX1_joinAdler_48 ?_
  refine wv_i (y := nI (i + k)) (nI_add i k) ?_
  refine lv_iload hx hb dX1_joinAdler_49 (lv_at hl 1 rfl) ?_
  refine lv_iload hx hb dX1_joinAdler_51 (lv_at hl 0 rfl) ?_
  refine lv_isub hx hb dX1_joinAdler_53 ?_
  refine wv_i (y := nI (n - k)) (pk_sub hk) ?_
  refine go_Sl (As := [.int (nI 0), .ref bt, .int (nI (i + k)), .int (nI (n - k))]) (rest := [.long (lN (ad_V (tx_ f) i k))]) (wr := [(h0, .inr (0, [.ref bt, .int (nI z)]))]) (wn := [(h0, .inr (0, [.ref bt, .int (nI z)])), (bt, .inl (dB, 4096, .inl f))]) (tn := [(dB, .byte)]) ⟨hx, hb, hml, hown, hts⟩ (k_sum_ad l dC dI tt bt dB f (i + k) (n - k) _ (by omega)) (va_cwS 4 hts (lw_S q52 q53 q4 q54) rfl rfl rfl (by decide +kernel) ⟨(Nat.le_of_ble_eq_true rfl), (Nat.le_of_ble_eq_true rfl)⟩) hw [1] [0] [0, 1] [0] [0] ⟨rfl, rfl, rfl, rfl, rfl, by decide, rfl, rfl, rfl⟩ hl.1 rfl rfl (Nat.le_of_ble_eq_true rfl) dX1_joinAdler_54 ⟨(Nat.le_of_ble_eq_true rfl), (Nat.le_of_ble_eq_true rfl)⟩ (k1 := 2) (n1 := 4) ⟨rfl, rfl⟩ (fun H locs hw => ?_)
  refine lv_iload hx hb dX1_joinAdler_57 (lv_at hl 1 rfl) ?_
  refine lv_iload hx hb dX1_joinAdler_59 (lv_at hl 0 rfl) ?_
  refine lv_isub hx hb dX1_joinAdler_61 ?_
  refine wv_i (y := nI (n - k)) (pk_sub hk) ?_
  refine lv_i2l (v := lN (n - k)) hx hb dX1_joinAdler_62 (nI_l (by omega)) ?_
  refine go_Sl (As := [.long (lN (ad_V (tx_ f) i k)), .long (lN (ad_V (tx_ f) (i + k) (n - k))), .long (lN (n - k))]) (rest := []) (wr := [(h0, .inr (0, [.ref bt, .int (nI z)])), (bt, .inl (dB, 4096, .inl f))]) (wn := [(h0, .inr (0, [.ref bt, .int (nI z)])), (bt, .inl (dB, 4096, .inl f))]) (tn := [(dB, .byte)]) ⟨hx, hb, hml, hown, hts⟩ (k_ad_combine l dC dI tt (ad_A (tx_ f) i k % 65521) (ad_S (tx_ f) i k % 65521) (ad_A (tx_ f) (i + k) (n - k) % 65521) (ad_S (tx_ f) (i + k) (n - k) % 65521) (n - k) _ (Nat.mod_lt _ (by decide)) (Nat.mod_lt _ (by decide)) (Nat.mod_lt _ (by decide)) (Nat.mod_lt _ (by decide)) (by omega)) (va_cwS 3 hts (lw_S q121 q122 q6 q123) rfl rfl rfl (by decide +kernel) ⟨(Nat.le_of_ble_eq_true rfl), (Nat.le_of_ble_eq_true rfl)⟩) hw [] [0, 1] [0, 1] [0] [] ⟨rfl, rfl, rfl, rfl, rfl, by decide, rfl, rfl, rfl⟩ hl.1 rfl rfl (Nat.le_of_ble_eq_true rfl) dX1_joinAdler_63 ⟨(Nat.le_of_ble_eq_true rfl), (Nat.le_of_ble_eq_true rfl)⟩ (k1 := 2) (n1 := 4) ⟨rfl, rfl⟩ (fun H locs hw => ?_)
  refine wv_l (y := lN (ad_V (tx_ f) i n)) (by rw [ad_cat i k (n - k) (by omega), Nat.add_sub_cancel' hk]) ?_
  exact W.lret hx hb hr (fun t ht hW => ⟨⟨_, (), rfl, rfl, en_ret hw [0, 1] rfl rfl [0] rfl ht hW⟩, hw.2.2.2.1.F ht⟩) hw.2.2.2.1.2.2 dX1_joinAdler_66
end
section
set_option maxRecDepth 100000
/-- an int of the script, 0 behind its end -/
def ce_ (xs : Nat → Int32) (L k : Nat) : Int32 := if k < L then xs k else 0
theorem lc_self (x : Int64) : lg_cmp x x = 0 := (lg_cmp_eq x x).mpr rfl
set_option maxHeartbeats 4000000 in
/-- SumJoinLaw.cell(int[], int) -/
theorem k_cell (l : Launch) (b L : Nat) (xs : Nat → Int32) (k sz : Nat) (hL : L ≤ 48) (hk : k ≤ 48) : Met l yX0_cell (ws_ yX0_cell cX0_cell 2 (some .int)) ({ frames := 0, cells := 0, slots := 0, locals := 0 }) (va_Pc [.ref b, .int (nI k)] (fun U => U.heap.size = sz ∧ b < sz ∧ va_X b L xs U U.heap)) (va_Qi (fun (r : Int32) (_ : Unit) => r = ce_ xs L k) (fun _ _ => True) (va_A [] sz)) 0 0 (va_A [] sz) := by
  refine Met.ofW (cc := cX0_cell) (maxL := 2) (ret := some .int) (by decide +kernel) rfl ?_
  intro p e s m args below meth c s₁ B hml hv
  obtain ⟨rfl, hsz, hbl, hX⟩ := hv
  have hx := B.exec
  have hb := B.bytes
  have hr := B.returns
  have hlocks := B.notSynchronized
  subst hsz
  have hbA : ¬ va_A [] s.heap.size b := by
    rintro (⟨k, e, h⟩ | h)
    · simp at h
    · omega
  generalize va_A [] s.heap.size = A at hbA ⊢
  have hS : va_S A s.heap s.heap [] := va_S.rf
  have hl := lv_entry ([.ref b, .int (nI k)]) (n := 2) (Nat.le_of_ble_eq_true rfl)
  rw [lg_entry_eq]
  generalize (lg_sl ([.ref b, .int (nI k)]) ++ List.replicate (2 - (lg_sl ([.ref b, .int (nI k)])).length) Slot.unset).toArray = ls at hl ⊢
  have hl : lv_has ls 2 [(0, .ref b), (1, .int (nI k))] := hl
  refine lv_iload_n hx hb dX0_cell_0 rfl (lv_at hl 1 rfl) ?_
  refine lv_aload_n hx hb dX0_cell_1 rfl (lv_at hl 0 rfl) ?_
  refine va_slen hx hb hX hbl hbA hS dX0_cell_2 ?_
  refine wv_i (y := nI L) rfl ?_
  by_cases h : k < L
  · refine lv_icmp_ge (tgt := 12) hx hb dX0_cell_3 (by decide) (fun hye => absurd hye (nI_ge h (by omega))) (fun _ => ?_)
    refine lv_aload_n hx hb dX0_cell_6 rfl (lv_at hl 0 rfl) ?_
    refine lv_iload_n hx hb dX0_cell_7 rfl (lv_at hl 1 rfl) ?_
    refine va_sld hx hb hX hbl hbA hS (vp_in_nI h (by omega)) dX0_cell_8 ?_
    refine wv_i (y := ce_ xs L k) ((congrArg xs (nI_clamp (by omega))).trans (if_pos h).symm) ?_
    refine lv_goto (tgt := 13) hx hb dX0_cell_9 (by decide) ?_
    exact W.iret (v := ce_ xs L k) hx hb hr (fun t ht hW => ⟨⟨_, (), rfl, rfl, trivial⟩, hS.F ht⟩) hS.2.2 dX0_cell_13
  · refine lv_icmp_ge (tgt := 12) hx hb dX0_cell_3 (by decide) (fun _ => ?_) (fun hne => absurd (nI_le (Nat.not_lt.mp h) (by omega)) hne)
    refine lv_iconst (v := 0) hx hb dX0_cell_12 (by decide +kernel) ?_
    refine wv_i (y := ce_ xs L k) (if_neg h).symm ?_
    exact W.iret (v := ce_ xs L k) hx hb hr (fun t ht hW => ⟨⟨_, (), rfl, rfl, trivial⟩, hS.F ht⟩) hS.2.2 dX0_cell_13
section GC
variable {p : Program} {l : Launch} {e : Env} {R : Room} {s : State} {m : MethodId} {args : Array Value} {below : List Frame} {meth : Method} {c : Code} {H : Heap} {locs : List Loc} {cells slots : Nat} {Q : State → Prop}
variable {cc : ByteArray} {pc nL : Nat} {ls : Array Slot} {rest st0 : List Value}
variable {dC : Nat → ClassId} {dI : Nat → Nat → Nat} {tt : Nat} {ws : va_W} {tys : List (ClassId × FieldType)} {A : Nat → Prop}
theorem go_cell {b L k : Nat} {xs : Nat → Int32} (hL : L ≤ 48) (hk : k ≤ 48) (hfix : CallFix p m c cc nL s args lw_all "SumJoinLaw") (hw : Wd_ dC dI tt ws tys A s H locs) (hX : va_X b L xs s s.heap) (hbl : b < s.heap.size) (hbA : ¬ A b) (hR : 0 + 1 ≤ R.frames ∧ 8 + (2 + 11) + 0 ≤ R.locals) (hl : ls.size = nL) (hst : st0 = .int (nI k) :: .ref b :: rest) (hW : (rest.map fun v => v.category).sum ≤ 8) (hdg : decode cc pc = .ok (.invokestatic 41, 3)) (hf : cells + 0 ≤ R.cells ∧ slots + 0 ≤ R.slots)
    (kk : ∀ (H1 : Heap) (locs1 : List Loc), Wd_ dC dI tt ws tys A s H1 locs1 → W p l e R s m args below meth c H1 locs1 cells slots Q (F0 m (pc + 3) ls (.int (ce_ xs L k) :: rest))) : W p l e R s m args below meth c H locs cells slots Q (F0 m pc ls st0) := by
  obtain ⟨hP, hD, hK, hS, hA, hZ⟩ := hw
  have hX1 : va_X b L xs s H := hX.kept (hS.2.1 b hbl hbA)
  have hF : ∀ q, va_A [] H.size q → A q := by
    rintro q (⟨k, e, h⟩ | h)
    · simp at h
    · exact hA q (Nat.le_trans hS.1 h)
  refine va_calli (va_runS (As := [.ref b, .int (nI k)]) (rest := rest) hfix (k_cell l b L xs k H.size hL hk) (va_cwS 2 hfix.2.2.2.2 (lw_S q125 q126 q3 q127) rfl rfl rfl (by decide +kernel) hR) ⟨fun a U g mk q => ⟨q.1, q.2.1, q.2.2.1, va_X.moved (u := U) (U := U.calling g mk a) (Vm.Alike.refl U.vm) q.2.2.2⟩, fun U hU hW => ⟨rfl, by rw [hU], Nat.lt_of_lt_of_le hbl hS.1, by rw [hU]; exact va_X.moved hW.alike hX1⟩⟩ rfl rfl hl hst (lv_room hW) hdg hf) hS (fun q _ h => hF q h) hF (fun r u t H1 locs1 ht hvm hr hB hz hk hS1 => ?_)
  subst hr
  refine kk H1 locs1 ⟨hP.kept (fun k q hq => hk q.1 ((hP k q hq).lt) ?_), hD, hK, hS1, hA, hZ⟩
  rintro (⟨k2, e2, h⟩ | h)
  · simp at h
  · exact absurd ((hP k q hq).lt) (Nat.not_lt.mpr h)
end GC
/-- crc_table, as the Statement gives it -/
theorem tab_at : ∀ j : Nat, j < 256 → (flatC (Jvm.Cond.and given_1 narrow_1))[7 + j]? = some (Cond.eq (.elem (.static "CRC32" "crc_table" "[I") (.int (Int32.ofNat j))) (.int (nI (cr_it 8 j)))) := by decide +kernel
theorem table_at {s : State} {b : Nat} (hts0 : ∀ w ∈ lw_tbl, w.before #[Value.ref b] s = true) (hgv : (Jvm.Cond.and given_1 narrow_1).before #[Value.ref b] s = true) {A : Nat → Prop} (hA : ∀ a, a < s.heap.size → ¬ A a) : ∃ tt, zs_ tt A s s.heap := by
  have hs := flat_of_before _ hgv
  have hlen : (Cond.eq (.length (.static "CRC32" "crc_table" "[I")) (.int 256)).before #[Value.ref b] s = true := hs _ (by decide +kernel)
  have harr : (Cond.arrayOf (.static "CRC32" "crc_table" "[I") .int).before #[Value.ref b] s = true := hs _ (by decide +kernel)
  obtain ⟨t, ht, hT⟩ := va_Tof (N := 256) (f := ct_) (A := A) (by decide) harr (va_eqt hlen) (fun j hj => va_eqt (hs _ (List.mem_of_getElem? (tab_at j hj)))) hA
  exact ⟨t, va_Zref (hts0 _ q70) (hts0 _ (lw_all_tbl q5)) ht hA, hT⟩
set_option maxHeartbeats 4000000 in
/-- SumJoinLaw.known() -/
theorem k_known (l : Launch) (dC : Nat → ClassId) (dI : Nat → Nat → Nat) (tt : Nat)  (sz : Nat) : Met l yX0_known (ws_ yX0_known cX0_known 2 (some .boolean)) ({ frames := 4, cells := 8, slots := 8202, locals := 79 }) (va_Pc [] (st_ dC dI tt [] [] sz)) (Qi_ 1 [] [] dC dI (va_A [] sz)) 8 8202 (va_A [] sz) := by
  refine met_pro (QA := Qi_ 1 [] [] dC dI) (by decide +kernel) (Nat.le_of_ble_eq_true rfl) ?_
  intro p e s m below meth c A ls hx hb hr hml hts hown hlocks hname hw hl
  have hown : s.vm.findClass RX0 = some m.cls := hown
  have hl : lv_has ls 2 [] := hl
  refine va_new (D := (dC, dI)) (ci := 0) (fs := [.null, .int (nI 0)]) (C := RX1) (T := TX1) (N := 2) hx hb hts in_X1 tyX1 tyX1_ok hown (hts _ q7) (hts _ q8) (hts _ q4) hw.2.2.1 hw.1 hw.2.1 hw.2.2.2.1 hw.2.2.2.2.1 rfl (fun j hj => by rcases (show j = 0 ∨ j = 1 by omega) with rfl | rfl <;> rfl) (Nat.le_of_ble_eq_true rfl) (Nat.le_of_ble_eq_true rfl) dX0_known_0 (fun x H hP hD hS => ?_)
  have hw : Wd_ dC dI tt [(x, .inr (0, [.null, .int (nI 0)]))] [] A s _ _ := ⟨hP, hD, hw.2.2.1, hS, hw.2.2.2.2⟩
  refine W.widen (k := 1) (n := 2) (Nat.le_of_ble_eq_true rfl) (Nat.le_of_ble_eq_true rfl) ?_
  refine lv_dup hx hb dX0_known_3 rfl ?_
  refine go_I (As := []) (rest := [.ref x]) (wr := []) (un := fun u0 => [(x, .inr (0, [.ref u0.1, .int (nI 0)])), (u0.1, .inl (u0.2, 4096, .inl (fun _ => 0)))]) (xn := fun u0 => [(u0.2, .byte)]) ⟨hx, hb, hml, hown, hts⟩ (k_sj_init l dC dI tt x (nI 0) _) (cwI 0 hts (lw_meth q11) rfl rfl rfl (hts _ q4) (hts _ q9) (hts _ q10) rfl (by decide +kernel) ⟨(Nat.le_of_ble_eq_true rfl), (Nat.le_of_ble_eq_true rfl)⟩) hw [0] [] [0, 1] [0] [] (fun _ => ⟨rfl, rfl, rfl, rfl, rfl, by decide, rfl, rfl, rfl⟩) hl.1 rfl rfl (Nat.le_of_ble_eq_true rfl) dX0_known_4 ⟨(Nat.le_of_ble_eq_true rfl), (Nat.le_of_ble_eq_true rfl)⟩ (k1 := 2) (n1 := 4098) ⟨rfl, rfl⟩ (0, 0) (fun u0 H locs _ hw => ?_)
  have hw : Wd_ dC dI tt [(x, .inr (0, [.ref u0.1, .int (nI 0)])), (u0.1, .inl (u0.2, 4096, .inl (fun _ => 0)))] [(u0.2, .byte)] A s _ _ := hw
  refine lv_astore_n (lv' := [(0, .ref x)]) hx hb dX0_known_7 rfl hl (by decide) rfl (fun ls hl => ?_)
  refine va_new (D := (dC, dI)) (ci := 0) (fs := [.null, .int (nI 0)]) (C := RX1) (T := TX1) (N := 2) hx hb hts in_X1 tyX1 tyX1_ok hown (hts _ q7) (hts _ q8) (hts _ q4) hw.2.2.1 hw.1 hw.2.1 hw.2.2.2.1 hw.2.2.2.2.1 rfl (fun j hj => by rcases (show j = 0 ∨ j = 1 by omega) with rfl | rfl <;> rfl) (Nat.le_of_ble_eq_true rfl) (Nat.le_of_ble_eq_true rfl) dX0_known_8 (fun y H hP hD hS => ?_)
  have hw : Wd_ dC dI tt [(x, .inr (0, [.ref u0.1, .int (nI 0)])), (u0.1, .inl (u0.2, 4096, .inl (fun _ => 0))), (y, .inr (0, [.null, .int (nI 0)]))] [(u0.2, .byte)] A s _ _ := ⟨hP, hD, hw.2.2.1, hS, hw.2.2.2.2⟩
  refine W.widen (k := 3) (n := 4100) (Nat.le_of_ble_eq_true rfl) (Nat.le_of_ble_eq_true rfl) ?_
  refine lv_dup hx hb dX0_known_11 rfl ?_
  refine go_I (As := []) (rest := [.ref y]) (wr := [(x, .inr (0, [.ref u0.1, .int (nI 0)])), (u0.1, .inl (u0.2, 4096, .inl (fun _ => 0)))]) (un := fun u1 => [(x, .inr (0, [.ref u0.1, .int (nI 0)])), (u0.1, .inl (u0.2, 4096, .inl (fun _ => 0))), (y, .inr (0, [.ref u1.1, .int (nI 0)])), (u1.1, .inl (u1.2, 4096, .inl (fun _ => 0)))]) (xn := fun u1 => [(u0.2, .byte), (u1.2, .byte)]) ⟨hx, hb, hml, hown, hts⟩ (k_sj_init l dC dI tt y (nI 0) _) (cwI 0 hts (lw_meth q11) rfl rfl rfl (hts _ q4) (hts _ q9) (hts _ q10) rfl (by decide +kernel) ⟨(Nat.le_of_ble_eq_true rfl), (Nat.le_of_ble_eq_true rfl)⟩) hw [2] [0, 1] [0, 1, 2, 3] [0, 1] [] (fun _ => ⟨rfl, rfl, rfl, rfl, rfl, by decide, rfl, rfl, rfl⟩) hl.1 rfl rfl (Nat.le_of_ble_eq_true rfl) dX0_known_12 ⟨(Nat.le_of_ble_eq_true rfl), (Nat.le_of_ble_eq_true rfl)⟩ (k1 := 4) (n1 := 8196) ⟨rfl, rfl⟩ (0, 0) (fun u1 H locs _ hw => ?_)
  have hw : Wd_ dC dI tt [(x, .inr (0, [.ref u0.1, .int (nI 0)])), (u0.1, .inl (u0.2, 4096, .inl (fun _ => 0))), (y, .inr (0, [.ref u1.1, .int (nI 0)])), (u1.1, .inl (u1.2, 4096, .inl (fun _ => 0)))] [(u0.2, .byte), (u1.2, .byte)] A s _ _ := hw
  refine lv_astore_n (lv' := [(1, .ref y), (0, .ref x)]) hx hb dX0_known_15 rfl hl (by decide) rfl (fun ls hl => ?_)
  refine lv_aload_n hx hb dX0_known_16 rfl (lv_at hl 1 rfl) ?_
  refine lv_iconst (v := nI 0) hx hb dX0_known_17 (by decide +kernel) ?_
  refine lv_iconst (v := nI 0) hx hb dX0_known_18 (by decide +kernel) ?_
  refine go_Vl (As := [.int (nI 0), .int (nI 0)]) (rest := []) (wr := [(y, .inr (0, [.ref u1.1, .int (nI 0)])), (u1.1, .inl (u1.2, 4096, .inl (fun _ => 0)))]) (wn := [(x, .inr (0, [.ref u0.1, .int (nI 0)])), (u0.1, .inl (u0.2, 4096, .inl (fun _ => 0))), (y, .inr (0, [.ref u1.1, .int (nI 0)])), (u1.1, .inl (u1.2, 4096, .inl (fun _ => 0)))]) (tn := [(u0.2, .byte), (u1.2, .byte)]) ⟨hx, hb, hml, hown, hts⟩ (k_crc l dC dI tt x u0.1 u0.2 (fun _ => 0) 0 (nI 0) (nI 0) _ (by decide)) (cwV 2 hts (lw_V q44 q45 q46 q4 q47) rfl rfl rfl (by decide +kernel) ⟨(Nat.le_of_ble_eq_true rfl), (Nat.le_of_ble_eq_true rfl)⟩) hw [0, 1] [2, 3] [2, 3, 0, 1] [0, 1] [0] ⟨rfl, rfl, rfl, rfl, rfl, by decide, rfl, rfl, rfl⟩ (ci := 0) (q0 := 0) rfl rfl hl.1 rfl rfl (Nat.le_of_ble_eq_true rfl) dX0_known_19 ⟨(Nat.le_of_ble_eq_true rfl), (Nat.le_of_ble_eq_true rfl)⟩ (k1 := 5) (n1 := 8197) ⟨rfl, rfl⟩ (fun H locs hw => ?_)
  refine wv_l (y := lN 0) (by decide +kernel) ?_
  refine lv_lconst (v := lN 0) hx hb dX0_known_22 (by decide +kernel) ?_
  refine W.lcmp hx hb dX0_known_23 ?_
  refine lv_if_ne (tgt := 38) hx hb dX0_known_24 (by decide) (fun hye => absurd (lc_self _) hye) (fun _ => ?_)
  refine lv_aload_n hx hb dX0_known_27 rfl (lv_at hl 1 rfl) ?_
  refine lv_iconst (v := nI 0) hx hb dX0_known_28 (by decide +kernel) ?_
  refine lv_iconst (v := nI 0) hx hb dX0_known_29 (by decide +kernel) ?_
  refine go_Vl (As := [.int (nI 0), .int (nI 0)]) (rest := []) (wr := [(y, .inr (0, [.ref u1.1, .int (nI 0)])), (u1.1, .inl (u1.2, 4096, .inl (fun _ => 0)))]) (wn := [(x, .inr (0, [.ref u0.1, .int (nI 0)])), (u0.1, .inl (u0.2, 4096, .inl (fun _ => 0))), (y, .inr (0, [.ref u1.1, .int (nI 0)])), (u1.1, .inl (u1.2, 4096, .inl (fun _ => 0)))]) (tn := [(u0.2, .byte), (u1.2, .byte)]) ⟨hx, hb, hml, hown, hts⟩ (k_adler l dC dI tt x u0.1 u0.2 (fun _ => 0) 0 (nI 0) (nI 0) _ (by decide)) (cwV 2 hts (lw_V q98 q99 q100 q4 q101) rfl rfl rfl (by decide +kernel) ⟨(Nat.le_of_ble_eq_true rfl), (Nat.le_of_ble_eq_true rfl)⟩) hw [0, 1] [2, 3] [2, 3, 0, 1] [0, 1] [0] ⟨rfl, rfl, rfl, rfl, rfl, by decide, rfl, rfl, rfl⟩ (ci := 0) (q0 := 0) rfl rfl hl.1 rfl rfl (Nat.le_of_ble_eq_true rfl) dX0_known_30 ⟨(Nat.le_of_ble_eq_true rfl), (Nat.le_of_ble_eq_true rfl)⟩ (k1 := 6) (n1 := 8199) ⟨rfl, rfl⟩ (fun H locs hw => ?_)
  refine wv_l (y := lN 1) (by decide +kernel) ?_
  refine lv_lconst (v := lN 1) hx hb dX0_known_33 (by decide +kernel) ?_
  refine W.lcmp hx hb dX0_known_34 ?_
  refine lv_if_eq (tgt := 40) hx hb dX0_known_35 (by decide) (fun _ => ?_) (fun hne => absurd (lc_self _) hne)
  refine lv_aload_n hx hb dX0_known_40 rfl (lv_at hl 1 rfl) ?_
  refine lv_ldc (v := (825373492 : Int32)) hx hb hown (hts _ q131) dX0_known_41 ?_
  refine lv_ldc (v := (892745528 : Int32)) hx hb hown (hts _ q132) dX0_known_43 ?_
  refine lv_ldc (v := (956301312 : Int32)) hx hb hown (hts _ q133) dX0_known_45 ?_
  refine lv_iconst (v := nI 0) hx hb dX0_known_47 (by decide +kernel) ?_
  refine go_Vi (As := [.int ((825373492 : Int32)), .int ((892745528 : Int32)), .int ((956301312 : Int32)), .int (nI 0)]) (rest := []) (wr := [(y, .inr (0, [.ref u1.1, .int (nI 0)])), (u1.1, .inl (u1.2, 4096, .inl (fun _ => 0)))]) (wn := [(x, .inr (0, [.ref u0.1, .int (nI 16)])), (u0.1, .inl (u0.2, 4096, .inl (pt_ (fun _ => 0) 0 (825373492 : Int32) (892745528 : Int32) (956301312 : Int32) (nI 0)))), (y, .inr (0, [.ref u1.1, .int (nI 0)])), (u1.1, .inl (u1.2, 4096, .inl (fun _ => 0)))]) (tn := [(u0.2, .byte), (u1.2, .byte)]) ⟨hx, hb, hml, hown, hts⟩ (k_put l dC dI tt x u0.1 u0.2 (fun _ => 0) 0 (825373492 : Int32) (892745528 : Int32) (956301312 : Int32) (nI 0) _ (by decide)) (cwV 4 hts (lw_V q23 q24 q25 q4 q26) rfl rfl rfl (by decide +kernel) ⟨(Nat.le_of_ble_eq_true rfl), (Nat.le_of_ble_eq_true rfl)⟩) hw [0, 1] [2, 3] [2, 3, 0, 1] [0, 1] [0] ⟨rfl, rfl, rfl, rfl, rfl, by decide, rfl, rfl, rfl⟩ (ci := 0) (q0 := 0) rfl rfl hl.1 rfl rfl (Nat.le_of_ble_eq_true rfl) dX0_known_48 ⟨(Nat.le_of_ble_eq_true rfl), (Nat.le_of_ble_eq_true rfl)⟩ (k1 := 6) (n1 := 8199) ⟨rfl, rfl⟩ (fun H locs hw => ?_)
  refine lv_pop hx hb dX0_known_51 rfl ?_
  refine lv_aload_n hx hb dX0_known_52 rfl (lv_at hl 1 rfl) ?_
  refine lv_bipush (v := nI 9) hx hb dX0_known_53 (by decide +kernel) ?_
  refine go_Vv (As := [.int (nI 9)]) (rest := []) (wr := [(y, .inr (0, [.ref u1.1, .int (nI 0)])), (u1.1, .inl (u1.2, 4096, .inl (fun _ => 0)))]) (un := fun _ => [(x, .inr (0, [.ref u0.1, .int (nI (fr_ 16 (nI 9)))])), (u0.1, .inl (u0.2, 4096, .inl (pt_ (fun _ => 0) 0 (825373492 : Int32) (892745528 : Int32) (956301312 : Int32) (nI 0)))), (y, .inr (0, [.ref u1.1, .int (nI 0)])), (u1.1, .inl (u1.2, 4096, .inl (fun _ => 0)))]) (xn := fun _ => [(u0.2, .byte), (u1.2, .byte)]) ⟨hx, hb, hml, hown, hts⟩ (k_trim l dC dI tt x u0.1 u0.2 (pt_ (fun _ => 0) 0 (825373492 : Int32) (892745528 : Int32) (956301312 : Int32) (nI 0)) 16 (nI 9) _ (by decide)) (cwV 1 hts (lw_V q31 q32 q33 q4 q34) rfl rfl rfl (by decide +kernel) ⟨(Nat.le_of_ble_eq_true rfl), (Nat.le_of_ble_eq_true rfl)⟩) hw [0, 1] [2, 3] [2, 3, 0, 1] [0, 1] [0] (fun _ => ⟨rfl, rfl, rfl, rfl, rfl, by decide, rfl, rfl, rfl⟩) (ci := 0) (q0 := 0) rfl rfl hl.1 rfl rfl (Nat.le_of_ble_eq_true rfl) dX0_known_55 ⟨(Nat.le_of_ble_eq_true rfl), (Nat.le_of_ble_eq_true rfl)⟩ (k1 := 6) (n1 := 8199) ⟨rfl, rfl⟩ () (fun _ H locs _ hw => ?_)
  have hw : Wd_ dC dI tt [(x, .inr (0, [.ref u0.1, .int (nI (fr_ 16 (nI 9)))])), (u0.1, .inl (u0.2, 4096, .inl (pt_ (fun _ => 0) 0 (825373492 : Int32) (892745528 : Int32) (956301312 : Int32) (nI 0)))), (y, .inr (0, [.ref u1.1, .int (nI 0)])), (u1.1, .inl (u1.2, 4096, .inl (fun _ => 0)))] [(u0.2, .byte), (u1.2, .byte)] A s _ _ := hw
  rw [show fr_ 16 (nI 9) = 9 by decide +kernel] at hw
  refine lv_aload_n hx hb dX0_known_58 rfl (lv_at hl 1 rfl) ?_
  refine lv_iconst (v := nI 0) hx hb dX0_known_59 (by decide +kernel) ?_
  refine lv_bipush (v := nI 9) hx hb dX0_known_60 (by decide +kernel) ?_
  refine go_Vl (As := [.int (nI 0), .int (nI 9)]) (rest := []) (wr := [(y, .inr (0, [.ref u1.1, .int (nI 0)])), (u1.1, .inl (u1.2, 4096, .inl (fun _ => 0)))]) (wn := [(x, .inr (0, [.ref u0.1, .int (nI 9)])), (u0.1, .inl (u0.2, 4096, .inl (pt_ (fun _ => 0) 0 (825373492 : Int32) (892745528 : Int32) (956301312 : Int32) (nI 0)))), (y, .inr (0, [.ref u1.1, .int (nI 0)])), (u1.1, .inl (u1.2, 4096, .inl (fun _ => 0)))]) (tn := [(u0.2, .byte), (u1.2, .byte)]) ⟨hx, hb, hml, hown, hts⟩ (k_crc l dC dI tt x u0.1 u0.2 (pt_ (fun _ => 0) 0 (825373492 : Int32) (892745528 : Int32) (956301312 : Int32) (nI 0)) 9 (nI 0) (nI 9) _ (by decide)) (cwV 2 hts (lw_V q44 q45 q46 q4 q47) rfl rfl rfl (by decide +kernel) ⟨(Nat.le_of_ble_eq_true rfl), (Nat.le_of_ble_eq_true rfl)⟩) hw [0, 1] [2, 3] [2, 3, 0, 1] [0, 1] [0] ⟨rfl, rfl, rfl, rfl, rfl, by decide, rfl, rfl, rfl⟩ (ci := 0) (q0 := 0) rfl rfl hl.1 rfl rfl (Nat.le_of_ble_eq_true rfl) dX0_known_62 ⟨(Nat.le_of_ble_eq_true rfl), (Nat.le_of_ble_eq_true rfl)⟩ (k1 := 7) (n1 := 8200) ⟨rfl, rfl⟩ (fun H locs hw => ?_)
  refine wv_l (y := lN 3421780262) (by decide +kernel) ?_
  refine lv_ldc2 (v := (3421780262 : Int64)) hx hb hown (hts _ q134) dX0_known_65 ?_
  refine wv_l (y := lN 3421780262) (by decide +kernel) ?_
  refine W.lcmp hx hb dX0_known_68 ?_
  refine lv_if_eq (tgt := 74) hx hb dX0_known_69 (by decide) (fun _ => ?_) (fun hne => absurd (lc_self _) hne)
  refine lv_aload_n hx hb dX0_known_74 rfl (lv_at hl 0 rfl) ?_
  refine lv_ldc (v := (1466526569 : Int32)) hx hb hown (hts _ q135) dX0_known_75 ?_
  refine lv_ldc (v := (1885693033 : Int32)) hx hb hown (hts _ q136) dX0_known_77 ?_
  refine lv_ldc (v := (1627389952 : Int32)) hx hb hown (hts _ q137) dX0_known_79 ?_
  refine lv_iconst (v := nI 0) hx hb dX0_known_81 (by decide +kernel) ?_
  refine go_Vi (As := [.int ((1466526569 : Int32)), .int ((1885693033 : Int32)), .int ((1627389952 : Int32)), .int (nI 0)]) (rest := []) (wr := [(x, .inr (0, [.ref u0.1, .int (nI 9)])), (u0.1, .inl (u0.2, 4096, .inl (pt_ (fun _ => 0) 0 (825373492 : Int32) (892745528 : Int32) (956301312 : Int32) (nI 0))))]) (wn := [(x, .inr (0, [.ref u0.1, .int (nI 9)])), (u0.1, .inl (u0.2, 4096, .inl (pt_ (fun _ => 0) 0 (825373492 : Int32) (892745528 : Int32) (956301312 : Int32) (nI 0)))), (y, .inr (0, [.ref u1.1, .int (nI 16)])), (u1.1, .inl (u1.2, 4096, .inl (pt_ (fun _ => 0) 0 (1466526569 : Int32) (1885693033 : Int32) (1627389952 : Int32) (nI 0))))]) (tn := [(u0.2, .byte), (u1.2, .byte)]) ⟨hx, hb, hml, hown, hts⟩ (k_put l dC dI tt y u1.1 u1.2 (fun _ => 0) 0 (1466526569 : Int32) (1885693033 : Int32) (1627389952 : Int32) (nI 0) _ (by decide)) (cwV 4 hts (lw_V q23 q24 q25 q4 q26) rfl rfl rfl (by decide +kernel) ⟨(Nat.le_of_ble_eq_true rfl), (Nat.le_of_ble_eq_true rfl)⟩) hw [2, 3] [0, 1] [0, 1, 2, 3] [0, 1] [1] ⟨rfl, rfl, rfl, rfl, rfl, by decide, rfl, rfl, rfl⟩ (ci := 0) (q0 := 0) rfl rfl hl.1 rfl rfl (Nat.le_of_ble_eq_true rfl) dX0_known_82 ⟨(Nat.le_of_ble_eq_true rfl), (Nat.le_of_ble_eq_true rfl)⟩ (k1 := 7) (n1 := 8200) ⟨rfl, rfl⟩ (fun H locs hw => ?_)
  refine lv_pop hx hb dX0_known_85 rfl ?_
  refine lv_aload_n hx hb dX0_known_86 rfl (lv_at hl 0 rfl) ?_
  refine lv_bipush (v := nI 9) hx hb dX0_known_87 (by decide +kernel) ?_
  refine go_Vv (As := [.int (nI 9)]) (rest := []) (wr := [(x, .inr (0, [.ref u0.1, .int (nI 9)])), (u0.1, .inl (u0.2, 4096, .inl (pt_ (fun _ => 0) 0 (825373492 : Int32) (892745528 : Int32) (956301312 : Int32) (nI 0))))]) (un := fun _ => [(x, .inr (0, [.ref u0.1, .int (nI 9)])), (u0.1, .inl (u0.2, 4096, .inl (pt_ (fun _ => 0) 0 (825373492 : Int32) (892745528 : Int32) (956301312 : Int32) (nI 0)))), (y, .inr (0, [.ref u1.1, .int (nI (fr_ 16 (nI 9)))])), (u1.1, .inl (u1.2, 4096, .inl (pt_ (fun _ => 0) 0 (1466526569 : Int32) (1885693033 : Int32) (1627389952 : Int32) (nI 0))))]) (xn := fun _ => [(u0.2, .byte), (u1.2, .byte)]) ⟨hx, hb, hml, hown, hts⟩ (k_trim l dC dI tt y u1.1 u1.2 (pt_ (fun _ => 0) 0 (1466526569 : Int32) (1885693033 : Int32) (1627389952 : Int32) (nI 0)) 16 (nI 9) _ (by decide)) (cwV 1 hts (lw_V q31 q32 q33 q4 q34) rfl rfl rfl (by decide +kernel) ⟨(Nat.le_of_ble_eq_true rfl), (Nat.le_of_ble_eq_true rfl)⟩) hw [2, 3] [0, 1] [0, 1, 2, 3] [0, 1] [1] (fun _ => ⟨rfl, rfl, rfl, rfl, rfl, by decide, rfl, rfl, rfl⟩) (ci := 0) (q0 := 0) rfl rfl hl.1 rfl rfl (Nat.le_of_ble_eq_true rfl) dX0_known_89 ⟨(Nat.le_of_ble_eq_true rfl), (Nat.le_of_ble_eq_true rfl)⟩ (k1 := 7) (n1 := 8200) ⟨rfl, rfl⟩ () (fun _ H locs _ hw => ?_)
  have hw : Wd_ dC dI tt [(x, .inr (0, [.ref u0.1, .int (nI 9)])), (u0.1, .inl (u0.2, 4096, .inl (pt_ (fun _ => 0) 0 (825373492 : Int32) (892745528 : Int32) (956301312 : Int32) (nI 0)))), (y, .inr (0, [.ref u1.1, .int (nI (fr_ 16 (nI 9)))])), (u1.1, .inl (u1.2, 4096, .inl (pt_ (fun _ => 0) 0 (1466526569 : Int32) (1885693033 : Int32) (1627389952 : Int32) (nI 0))))] [(u0.2, .byte), (u1.2, .byte)] A s _ _ := hw
  rw [show fr_ 16 (nI 9) = 9 by decide +kernel] at hw
  refine lv_aload_n hx hb dX0_known_92 rfl (lv_at hl 0 rfl) ?_
  refine lv_iconst (v := nI 0) hx hb dX0_known_93 (by decide +kernel) ?_
  refine lv_bipush (v := nI 9) hx hb dX0_known_94 (by decide +kernel) ?_
  refine go_Vl (As := [.int (nI 0), .int (nI 9)]) (rest := []) (wr := [(x, .inr (0, [.ref u0.1, .int (nI 9)])), (u0.1, .inl (u0.2, 4096, .inl (pt_ (fun _ => 0) 0 (825373492 : Int32) (892745528 : Int32) (956301312 : Int32) (nI 0))))]) (wn := [(x, .inr (0, [.ref u0.1, .int (nI 9)])), (u0.1, .inl (u0.2, 4096, .inl (pt_ (fun _ => 0) 0 (825373492 : Int32) (892745528 : Int32) (956301312 : Int32) (nI 0)))), (y, .inr (0, [.ref u1.1, .int (nI 9)])), (u1.1, .inl (u1.2, 4096, .inl (pt_ (fun _ => 0) 0 (1466526569 : Int32) (1885693033 : Int32) (1627389952 : Int32) (nI 0))))]) (tn := [(u0.2, .byte), (u1.2, .byte)]) ⟨hx, hb, hml, hown, hts⟩ (k_adler l dC dI tt y u1.1 u1.2 (pt_ (fun _ => 0) 0 (1466526569 : Int32) (1885693033 : Int32) (1627389952 : Int32) (nI 0)) 9 (nI 0) (nI 9) _ (by decide)) (cwV 2 hts (lw_V q98 q99 q100 q4 q101) rfl rfl rfl (by decide +kernel) ⟨(Nat.le_of_ble_eq_true rfl), (Nat.le_of_ble_eq_true rfl)⟩) hw [2, 3] [0, 1] [0, 1, 2, 3] [0, 1] [1] ⟨rfl, rfl, rfl, rfl, rfl, by decide, rfl, rfl, rfl⟩ (ci := 0) (q0 := 0) rfl rfl hl.1 rfl rfl (Nat.le_of_ble_eq_true rfl) dX0_known_96 ⟨(Nat.le_of_ble_eq_true rfl), (Nat.le_of_ble_eq_true rfl)⟩ (k1 := 8) (n1 := 8202) ⟨rfl, rfl⟩ (fun H locs hw => ?_)
  refine wv_l (y := lN 300286872) (by decide +kernel) ?_
  refine lv_ldc2 (v := (300286872 : Int64)) hx hb hown (hts _ q138) dX0_known_99 ?_
  refine wv_l (y := lN 300286872) (by decide +kernel) ?_
  refine W.lcmp hx hb dX0_known_102 ?_
  refine lv_if_eq (tgt := 108) hx hb dX0_known_103 (by decide) (fun _ => ?_) (fun hne => absurd (lc_self _) hne)
  refine lv_iconst (v := 1) hx hb dX0_known_108 (by decide +kernel) ?_
  exact W.zret hx hb hr rfl (fun t ht hW => ⟨⟨_, (), rfl, rfl, en_ret hw [] rfl rfl [] rfl ht hW⟩, hw.2.2.2.1.F ht⟩) hw.2.2.2.1.2.2 dX0_known_109
end
section
set_option maxRecDepth 100000
/-! THE CLAIM OUT OF ONE WALK OF THE LAW'S BODY. Your part is whole_start (and what it stands on); all else here is the same for every law, but numbers. -/
def R_law : String := "SumJoinLaw"
def lw_P (b : Addr) (xs : List Int32) (args : Array Value) (s : State) : Prop := args = #[.ref b] ∧ s.IntsAt b xs ∧ xs.length ≤ 48 ∧ (Jvm.Cond.and given_1 narrow_1).before args s = true
def lw_Q (_ : Array Value) (s : State) (o : Outcome) (t : State) : Prop := o = .returned (some (.int 1)) ∧ Framed s o t [] 600000 7302250
def lw_Z (below : List Frame) (a : Array Value) (s : State) : State → Prop := fun t => ∃ o, t.status = .running ∧ Ended t below o ∧ lw_Q a s o t
/-- the law's own end, with 1 on the stack, nothing written that was there before, its room as the claim has it -/
theorem lw_ret {p : Program} {l : Launch} {e : Env} {s : State} {m : MethodId} {below : List Frame} {meth : Method} {c : Code} {b : Nat} (hx : p.tables.exec = Jvm.exec) (hb : c.code = code) (hr : meth.sig.returnType = ret) (hlocks : meth.locks = false) {pc : Nat} {H : Heap} {ls : Array Slot} (hdg : decode code pc = .ok (.ireturn, 1)) : W p l e room_1 s m #[Value.ref b] below meth c H [] 600000 7302250 (lw_Z below #[Value.ref b] s) (F0 m pc ls [.int 1]) := by
  intro T hT X
  obtain ⟨fs, hret, hrun, hended, hW, hframe⟩ := X.leave (v := some (.int 1)) (hlocks := hlocks) (fun h => by rw [hr] at h; cases h)
  have hmeth' : T.vm.method? m = some meth := X.method'
  refine ⟨T.setFrames fs, ?_, .returned (some (.int 1)), hrun, hended, rfl, ⟨_, rfl⟩, hW, hframe⟩
  jvm_step X.here [X.here.top, hx, hb, hdg, hmeth', hr, ret, narrow_b1]
  (try refine ⟨rfl, ?_⟩); (try refine ⟨rfl, ?_⟩)
  first | (intro acts; rw [hret _ acts rfl rfl rfl]) | rw [hret _ _ rfl rfl rfl]
  exact Steps.refl _
/-- what holds at the law's entry: the machine, the code, the tables' words (any of lw_tbl by 'hts w (by decide +kernel)'), the script of L ints xs at the cell b, what the Statement gives of the start (any of its parts by flat_of_before) -/
def lw_At (p : Program) (s : State) (m : MethodId) (meth : Method) (c : Code) (b L : Nat) (xs : Nat → Int32) : Prop :=
  p.tables.exec = Jvm.exec ∧ c.code = code ∧ meth.sig.returnType = ret ∧ c.maxLocals = 6 ∧ s.vm.findClass R_law = some m.cls ∧ (∀ w ∈ lw_tbl, w.before #[Value.ref b] s = true) ∧ va_X b L xs s s.heap ∧ b < s.heap.size ∧ meth.locks = false ∧ (Jvm.Cond.and given_1 narrow_1).before #[Value.ref b] s = true
set_option maxHeartbeats 4000000 in
/-- from the entry, for every script of at most 48 ints, the law comes to its end with true -/
theorem whole_start {p : Program} {e : Env} {s : State} {m : MethodId} {below : List Frame} {meth : Method} {c : Code} (l : Launch) (hflags : l.flags = flags0) {b L : Nat} {xs : Nat → Int32} (hL : L ≤ 48) (C0 : lw_At p s m meth c b L xs) : W p l e room_1 s m #[Value.ref b] below meth c s.heap [] 0 0 (lw_Z below #[Value.ref b] s) (entryFrame m ([Value.ref b] : List Value).toArray 6) := by
  obtain ⟨hx, hb, hr, hml, hown, hts0, hX, hbl, hlocks, hgv⟩ := C0
  have hts : ∀ w ∈ lw_all, w.before #[Value.ref b] s = true := fun w h => hts0 w (lw_all_tbl h)
  have hown : s.vm.findClass "SumJoinLaw" = some m.cls := hown
  obtain ⟨dC, dI, hKn⟩ := classes_all hts0
  obtain ⟨A, hAe⟩ : ∃ A : Nat → Prop, A = fun q => s.heap.size ≤ q := ⟨_, rfl⟩
  obtain ⟨tt, hz⟩ := table_at hts0 hgv (A := A) (fun a h => by rw [hAe]; exact Nat.not_le.mpr h)
  have hw : Wd_ dC dI tt [] [] A s s.heap [] := ⟨fun k q h => by simp at h, ⟨fun i j p q h => by simp at h, fun k q h => by simp at h⟩, ⟨fun c q hq => hKn c q hq, fun k q h => by simp at h⟩, va_S.rf, fun q h => by rw [hAe]; exact h, hz⟩
  have hbA : ¬ A b := by rw [hAe]; exact Nat.not_le.mpr hbl
  have hl := lv_entry ([.ref b]) (n := 6) (Nat.le_of_ble_eq_true rfl)
  rw [lg_entry_eq]
  generalize (lg_sl ([.ref b]) ++ List.replicate (6 - (lg_sl ([.ref b])).length) Slot.unset).toArray = ls at hl ⊢
  have hl : lv_has ls 6 [(0, .ref b)] := hl
  refine go_Si (As := []) (rest := []) (wr := []) (wn := []) (tn := []) ⟨hx, hb, hml, hown, hts⟩ (k_known l dC dI tt  _) (va_cwS 0 hts (lw_S q128 q129 q3 q130) rfl rfl rfl (by decide +kernel) ⟨(Nat.le_of_ble_eq_true rfl), (Nat.le_of_ble_eq_true rfl)⟩) hw [] [] [] [] [] ⟨rfl, rfl, rfl, rfl, rfl, by decide, rfl, rfl, rfl⟩ hl.1 rfl rfl (Nat.le_of_ble_eq_true rfl) dL_law_0 ⟨(Nat.le_of_ble_eq_true rfl), (Nat.le_of_ble_eq_true rfl)⟩ (k1 := 8) (n1 := 8202) ⟨rfl, rfl⟩ (fun H locs hw => ?_)
  refine lv_if_ne (tgt := 8) hx hb dL_law_3 (by decide) (fun _ => ?_) (fun hne => absurd hne (by decide))
  refine va_new (D := (dC, dI)) (ci := 0) (fs := [.null, .int (nI 0)]) (C := RX1) (T := TX1) (N := 2) hx hb hts in_X1 tyX1 tyX1_ok hown (hts _ q7) (hts _ q8) (hts _ q4) hw.2.2.1 hw.1 hw.2.1 hw.2.2.2.1 hw.2.2.2.2.1 rfl (fun j hj => by rcases (show j = 0 ∨ j = 1 by omega) with rfl | rfl <;> rfl) (Nat.le_of_ble_eq_true rfl) (Nat.le_of_ble_eq_true rfl) dL_law_8 (fun o H hP hD hS => ?_)
  have hw : Wd_ dC dI tt [(o, .inr (0, [.null, .int (nI 0)]))] [] A s _ _ := ⟨hP, hD, hw.2.2.1, hS, hw.2.2.2.2⟩
  refine W.widen (k := 9) (n := 8204) (Nat.le_of_ble_eq_true rfl) (Nat.le_of_ble_eq_true rfl) ?_
  refine lv_dup hx hb dL_law_11 rfl ?_
  refine go_I (As := []) (rest := [.ref o]) (wr := []) (un := fun u => [(o, .inr (0, [.ref u.1, .int (nI 0)])), (u.1, .inl (u.2, 4096, .inl (fun _ => 0)))]) (xn := fun u => [(u.2, .byte)]) ⟨hx, hb, hml, hown, hts⟩ (k_sj_init l dC dI tt o (nI 0) _) (cwI 0 hts (lw_meth q11) rfl rfl rfl (hts _ q4) (hts _ q9) (hts _ q10) rfl (by decide +kernel) ⟨(Nat.le_of_ble_eq_true rfl), (Nat.le_of_ble_eq_true rfl)⟩) hw [0] [] [0, 1] [0] [] (fun _ => ⟨rfl, rfl, rfl, rfl, rfl, by decide, rfl, rfl, rfl⟩) hl.1 rfl rfl (Nat.le_of_ble_eq_true rfl) dL_law_12 ⟨(Nat.le_of_ble_eq_true rfl), (Nat.le_of_ble_eq_true rfl)⟩ (k1 := 10) (n1 := 12300) ⟨rfl, rfl⟩ (0, 0) (fun u H locs _ hw => ?_)
  have hw : Wd_ dC dI tt [(o, .inr (0, [.ref u.1, .int (nI 0)])), (u.1, .inl (u.2, 4096, .inl (fun _ => 0)))] [(u.2, .byte)] A s _ _ := hw
  refine lv_astore_n (lv' := [(1, .ref o), (0, .ref b)]) hx hb dL_law_15 rfl hl (by decide) rfl (fun ls hl => ?_)
  refine lv_iconst (v := nI 4) hx hb dL_law_16 (by decide +kernel) ?_
  refine lv_istore_n (lv' := [(2, .int (nI 4)), (1, .ref o), (0, .ref b)]) hx hb dL_law_17 rfl hl (by decide) rfl (fun ls hl => ?_)
  refine w_ind (I := fun r H locs ls => ∃ (j : Nat) (f : Nat → Int32), j + r = 11 ∧ Wd_ dC dI tt [(o, .inr (0, [.ref u.1, .int (nI (16 * j))])), (u.1, .inl (u.2, 4096, .inl f))] [(u.2, .byte)] A s H locs ∧ lv_has ls 6 [(2, .int (nI (4 + 4 * j))), (1, .ref o), (0, .ref b)]) ?_ 11 ⟨0, fun _ => 0, by omega, hw, lv_sub hl [0, 1, 2] rfl⟩
  intro r ih H locs ls ⟨j, f, hj, hw1, hl1⟩
  have hw := hw1
  have hl := hl1
  refine lv_iload_n hx hb dL_law_18 rfl (lv_at hl 0 rfl) ?_
  refine lv_bipush (v := nI 48) hx hb dL_law_19 (by decide +kernel) ?_
  rcases r with _ | r
  · obtain rfl : j = 11 := by omega
    refine lv_icmp_ge (tgt := 65) hx hb dL_law_21 (by decide) (fun _ => ?_) (fun hne => absurd (by decide +kernel) hne)
    have hw : Wd_ dC dI tt [(o, .inr (0, [.ref u.1, .int (nI 176)])), (u.1, .inl (u.2, 4096, .inl f))] [(u.2, .byte)] A s _ _ := hw
    refine lv_aload_n hx hb dL_law_65 rfl (lv_at hl 1 rfl) ?_
    refine lv_aload_n hx hb dL_law_66 rfl (lv_at hl 2 rfl) ?_
    refine lv_iconst (v := nI 3) hx hb dL_law_67 (by decide +kernel) ?_
    refine go_cell (b := b) (L := L) (k := 3) (xs := xs) (rest := [.ref o]) hL (by decide) ⟨hx, hb, hml, hown, hts⟩ hw hX hbl hbA ⟨(Nat.le_of_ble_eq_true rfl), (Nat.le_of_ble_eq_true rfl)⟩ hl.1 rfl (Nat.le_of_ble_eq_true rfl) dL_law_68 ⟨(Nat.le_of_ble_eq_true rfl), (Nat.le_of_ble_eq_true rfl)⟩ (fun H locs hw => ?_)
    refine go_Vv (As := [.int (ce_ xs L 3)]) (rest := []) (wr := []) (un := fun _ => [(o, .inr (0, [.ref u.1, .int (nI (fr_ 176 (ce_ xs L 3)))])), (u.1, .inl (u.2, 4096, .inl f))]) (xn := fun _ => [(u.2, .byte)]) ⟨hx, hb, hml, hown, hts⟩ (k_trim l dC dI tt o u.1 u.2 f 176 (ce_ xs L 3) _ (by decide)) (cwV 1 hts (lw_V q31 q32 q33 q4 q34) rfl rfl rfl (by decide +kernel) ⟨(Nat.le_of_ble_eq_true rfl), (Nat.le_of_ble_eq_true rfl)⟩) hw [0, 1] [] [0, 1] [0] [0] (fun _ => ⟨rfl, rfl, rfl, rfl, rfl, by decide, rfl, rfl, rfl⟩) (ci := 0) (q0 := 0) rfl rfl hl.1 rfl rfl (Nat.le_of_ble_eq_true rfl) dL_law_71 ⟨(Nat.le_of_ble_eq_true rfl), (Nat.le_of_ble_eq_true rfl)⟩ (k1 := 10) (n1 := 12300) ⟨rfl, rfl⟩ () (fun _ H locs _ hw => ?_)
    have hw : Wd_ dC dI tt [(o, .inr (0, [.ref u.1, .int (nI (fr_ 176 (ce_ xs L 3)))])), (u.1, .inl (u.2, 4096, .inl f))] [(u.2, .byte)] A s _ _ := hw
    have hz : fr_ 176 (ce_ xs L 3) ≤ 4096 := Nat.le_trans (fr_le _ _) (by decide)
    generalize fr_ 176 (ce_ xs L 3) = z at hw hz
    refine lv_aload_n hx hb dL_law_74 rfl (lv_at hl 2 rfl) ?_
    refine lv_iconst (v := nI 0) hx hb dL_law_75 (by decide +kernel) ?_
    refine go_cell (b := b) (L := L) (k := 0) (xs := xs) (rest := []) hL (by decide) ⟨hx, hb, hml, hown, hts⟩ hw hX hbl hbA ⟨(Nat.le_of_ble_eq_true rfl), (Nat.le_of_ble_eq_true rfl)⟩ hl.1 rfl (Nat.le_of_ble_eq_true rfl) dL_law_76 ⟨(Nat.le_of_ble_eq_true rfl), (Nat.le_of_ble_eq_true rfl)⟩ (fun H locs hw => ?_)
    refine lv_istore_n (lv' := [(2, .int (ce_ xs L 0)), (1, .ref o), (0, .ref b)]) hx hb dL_law_79 rfl hl (by decide) rfl (fun ls hl => ?_)
    refine lv_aload_n hx hb dL_law_80 rfl (lv_at hl 2 rfl) ?_
    refine lv_iconst (v := nI 1) hx hb dL_law_81 (by decide +kernel) ?_
    refine go_cell (b := b) (L := L) (k := 1) (xs := xs) (rest := []) hL (by decide) ⟨hx, hb, hml, hown, hts⟩ hw hX hbl hbA ⟨(Nat.le_of_ble_eq_true rfl), (Nat.le_of_ble_eq_true rfl)⟩ hl.1 rfl (Nat.le_of_ble_eq_true rfl) dL_law_82 ⟨(Nat.le_of_ble_eq_true rfl), (Nat.le_of_ble_eq_true rfl)⟩ (fun H locs hw => ?_)
    refine lv_istore_n (lv' := [(3, .int (ce_ xs L 1)), (2, .int (ce_ xs L 0)), (1, .ref o), (0, .ref b)]) hx hb dL_law_85 rfl hl (by decide) rfl (fun ls hl => ?_)
    refine lv_aload_n hx hb dL_law_86 rfl (lv_at hl 3 rfl) ?_
    refine lv_iconst (v := nI 2) hx hb dL_law_87 (by decide +kernel) ?_
    refine go_cell (b := b) (L := L) (k := 2) (xs := xs) (rest := []) hL (by decide) ⟨hx, hb, hml, hown, hts⟩ hw hX hbl hbA ⟨(Nat.le_of_ble_eq_true rfl), (Nat.le_of_ble_eq_true rfl)⟩ hl.1 rfl (Nat.le_of_ble_eq_true rfl) dL_law_88 ⟨(Nat.le_of_ble_eq_true rfl), (Nat.le_of_ble_eq_true rfl)⟩ (fun H locs hw => ?_)
    refine lv_istore (lv' := [(4, .int (ce_ xs L 2)), (3, .int (ce_ xs L 1)), (2, .int (ce_ xs L 0)), (1, .ref o), (0, .ref b)]) hx hb dL_law_91 hl (by decide) rfl (fun ls hl => ?_)
    refine lv_aload_n hx hb dL_law_93 rfl (lv_at hl 3 rfl) ?_
    refine go_Vi (As := []) (rest := []) (wr := []) (wn := [(o, .inr (0, [.ref u.1, .int (nI z)])), (u.1, .inl (u.2, 4096, .inl f))]) (tn := [(u.2, .byte)]) ⟨hx, hb, hml, hown, hts⟩ (k_size l dC dI tt o u.1 u.2 f z  _) (cwV 0 hts (lw_V q40 q41 q42 q4 q43) rfl rfl rfl (by decide +kernel) ⟨(Nat.le_of_ble_eq_true rfl), (Nat.le_of_ble_eq_true rfl)⟩) hw [0, 1] [] [0, 1] [0] [0] ⟨rfl, rfl, rfl, rfl, rfl, by decide, rfl, rfl, rfl⟩ (ci := 0) (q0 := 0) rfl rfl hl.1 rfl rfl (Nat.le_of_ble_eq_true rfl) dL_law_94 ⟨(Nat.le_of_ble_eq_true rfl), (Nat.le_of_ble_eq_true rfl)⟩ (k1 := 10) (n1 := 12300) ⟨rfl, rfl⟩ (fun H locs hw => ?_)
    refine lv_istore (lv' := [(5, .int (nI z)), (4, .int (ce_ xs L 2)), (3, .int (ce_ xs L 1)), (2, .int (ce_ xs L 0)), (1, .ref o), (0, .ref b)]) hx hb dL_law_97 hl (by decide) rfl (fun ls hl => ?_)
    refine lv_aload_n hx hb dL_law_99 rfl (lv_at hl 4 rfl) ?_
    refine lv_iload_n hx hb dL_law_100 rfl (lv_at hl 3 rfl) ?_
    refine lv_iload_n hx hb dL_law_101 rfl (lv_at hl 2 rfl) ?_
    refine lv_iload hx hb dL_law_102 (lv_at hl 1 rfl) ?_
    refine go_Vl (As := [.int (ce_ xs L 0), .int (ce_ xs L 1), .int (ce_ xs L 2)]) (rest := []) (wr := []) (wn := [(o, .inr (0, [.ref u.1, .int (nI z)])), (u.1, .inl (u.2, 4096, .inl f))]) (tn := [(u.2, .byte)]) ⟨hx, hb, hml, hown, hts⟩ (k_joinCrc l dC dI tt o u.1 u.2 f z (ce_ xs L 0) (ce_ xs L 1) (ce_ xs L 2) _ hz) (cwV 3 hts (lw_V q102 q103 q104 q4 q105) rfl rfl rfl (by decide +kernel) ⟨(Nat.le_of_ble_eq_true rfl), (Nat.le_of_ble_eq_true rfl)⟩) hw [0, 1] [] [0, 1] [0] [0] ⟨rfl, rfl, rfl, rfl, rfl, by decide, rfl, rfl, rfl⟩ (ci := 0) (q0 := 0) rfl rfl hl.1 rfl rfl (Nat.le_of_ble_eq_true rfl) dL_law_104 ⟨(Nat.le_of_ble_eq_true rfl), (Nat.le_of_ble_eq_true rfl)⟩ (k1 := 14) (n1 := 12366) ⟨rfl, rfl⟩ (fun H locs hw => ?_)
    refine lv_aload_n hx hb dL_law_107 rfl (lv_at hl 4 rfl) ?_
    refine lv_iload_n hx hb dL_law_108 rfl (lv_at hl 3 rfl) ?_
    refine lv_iload_n hx hb dL_law_109 rfl (lv_at hl 2 rfl) ?_
    refine go_Vl (As := [.int (ce_ xs L 0), .int (ce_ xs L 1)]) (rest := [.long (lN (cr_V (tx_ f) (fr_ z (ce_ xs L 0)) (cn_ z (fr_ z (ce_ xs L 0)) (ce_ xs L 1))))]) (wr := []) (wn := [(o, .inr (0, [.ref u.1, .int (nI z)])), (u.1, .inl (u.2, 4096, .inl f))]) (tn := [(u.2, .byte)]) ⟨hx, hb, hml, hown, hts⟩ (k_crc l dC dI tt o u.1 u.2 f z (ce_ xs L 0) (ce_ xs L 1) _ hz) (cwV 2 hts (lw_V q44 q45 q46 q4 q47) rfl rfl rfl (by decide +kernel) ⟨(Nat.le_of_ble_eq_true rfl), (Nat.le_of_ble_eq_true rfl)⟩) hw [0, 1] [] [0, 1] [0] [0] ⟨rfl, rfl, rfl, rfl, rfl, by decide, rfl, rfl, rfl⟩ (ci := 0) (q0 := 0) rfl rfl hl.1 rfl rfl (Nat.le_of_ble_eq_true rfl) dL_law_110 ⟨(Nat.le_of_ble_eq_true rfl), (Nat.le_of_ble_eq_true rfl)⟩ (k1 := 15) (n1 := 12367) ⟨rfl, rfl⟩ (fun H locs hw => ?_)
    refine W.lcmp hx hb dL_law_113 ?_
    refine lv_if_ne (tgt := 179) hx hb dL_law_114 (by decide) (fun hye => absurd (lc_self _) hye) (fun _ => ?_)
    refine lv_aload_n hx hb dL_law_117 rfl (lv_at hl 4 rfl) ?_
    refine lv_iload_n hx hb dL_law_118 rfl (lv_at hl 3 rfl) ?_
    refine lv_iload_n hx hb dL_law_119 rfl (lv_at hl 2 rfl) ?_
    refine lv_iload hx hb dL_law_120 (lv_at hl 1 rfl) ?_
    refine go_Vl (As := [.int (ce_ xs L 0), .int (ce_ xs L 1), .int (ce_ xs L 2)]) (rest := []) (wr := []) (wn := [(o, .inr (0, [.ref u.1, .int (nI z)])), (u.1, .inl (u.2, 4096, .inl f))]) (tn := [(u.2, .byte)]) ⟨hx, hb, hml, hown, hts⟩ (k_joinAdler l dC dI tt o u.1 u.2 f z (ce_ xs L 0) (ce_ xs L 1) (ce_ xs L 2) _ hz) (cwV 3 hts (lw_V q117 q118 q119 q4 q120) rfl rfl rfl (by decide +kernel) ⟨(Nat.le_of_ble_eq_true rfl), (Nat.le_of_ble_eq_true rfl)⟩) hw [0, 1] [] [0, 1] [0] [0] ⟨rfl, rfl, rfl, rfl, rfl, by decide, rfl, rfl, rfl⟩ (ci := 0) (q0 := 0) rfl rfl hl.1 rfl rfl (Nat.le_of_ble_eq_true rfl) dL_law_122 ⟨(Nat.le_of_ble_eq_true rfl), (Nat.le_of_ble_eq_true rfl)⟩ (k1 := 17) (n1 := 12371) ⟨rfl, rfl⟩ (fun H locs hw => ?_)
    refine lv_aload_n hx hb dL_law_125 rfl (lv_at hl 4 rfl) ?_
    refine lv_iload_n hx hb dL_law_126 rfl (lv_at hl 3 rfl) ?_
    refine lv_iload_n hx hb dL_law_127 rfl (lv_at hl 2 rfl) ?_
    refine go_Vl (As := [.int (ce_ xs L 0), .int (ce_ xs L 1)]) (rest := [.long (lN (ad_V (tx_ f) (fr_ z (ce_ xs L 0)) (cn_ z (fr_ z (ce_ xs L 0)) (ce_ xs L 1))))]) (wr := []) (wn := [(o, .inr (0, [.ref u.1, .int (nI z)])), (u.1, .inl (u.2, 4096, .inl f))]) (tn := [(u.2, .byte)]) ⟨hx, hb, hml, hown, hts⟩ (k_adler l dC dI tt o u.1 u.2 f z (ce_ xs L 0) (ce_ xs L 1) _ hz) (cwV 2 hts (lw_V q98 q99 q100 q4 q101) rfl rfl rfl (by decide +kernel) ⟨(Nat.le_of_ble_eq_true rfl), (Nat.le_of_ble_eq_true rfl)⟩) hw [0, 1] [] [0, 1] [0] [0] ⟨rfl, rfl, rfl, rfl, rfl, by decide, rfl, rfl, rfl⟩ (ci := 0) (q0 := 0) rfl rfl hl.1 rfl rfl (Nat.le_of_ble_eq_true rfl) dL_law_128 ⟨(Nat.le_of_ble_eq_true rfl), (Nat.le_of_ble_eq_true rfl)⟩ (k1 := 18) (n1 := 12373) ⟨rfl, rfl⟩ (fun H locs hw => ?_)
    refine W.lcmp hx hb dL_law_131 ?_
    refine lv_if_ne (tgt := 179) hx hb dL_law_132 (by decide) (fun hye => absurd (lc_self _) hye) (fun _ => ?_)
    refine lv_aload_n hx hb dL_law_135 rfl (lv_at hl 4 rfl) ?_
    refine lv_iconst (v := nI 0) hx hb dL_law_136 (by decide +kernel) ?_
    refine lv_iload hx hb dL_law_137 (lv_at hl 0 rfl) ?_
    refine lv_iload hx hb dL_law_139 (lv_at hl 1 rfl) ?_
    refine go_Vl (As := [.int (nI 0), .int (nI z), .int (ce_ xs L 2)]) (rest := []) (wr := []) (wn := [(o, .inr (0, [.ref u.1, .int (nI z)])), (u.1, .inl (u.2, 4096, .inl f))]) (tn := [(u.2, .byte)]) ⟨hx, hb, hml, hown, hts⟩ (k_joinCrc l dC dI tt o u.1 u.2 f z (nI 0) (nI z) (ce_ xs L 2) _ hz) (cwV 3 hts (lw_V q102 q103 q104 q4 q105) rfl rfl rfl (by decide +kernel) ⟨(Nat.le_of_ble_eq_true rfl), (Nat.le_of_ble_eq_true rfl)⟩) hw [0, 1] [] [0, 1] [0] [0] ⟨rfl, rfl, rfl, rfl, rfl, by decide, rfl, rfl, rfl⟩ (ci := 0) (q0 := 0) rfl rfl hl.1 rfl rfl (Nat.le_of_ble_eq_true rfl) dL_law_141 ⟨(Nat.le_of_ble_eq_true rfl), (Nat.le_of_ble_eq_true rfl)⟩ (k1 := 22) (n1 := 12439) ⟨rfl, rfl⟩ (fun H locs hw => ?_)
    refine lv_aload_n hx hb dL_law_144 rfl (lv_at hl 4 rfl) ?_
    refine lv_iconst (v := nI 0) hx hb dL_law_145 (by decide +kernel) ?_
    refine lv_iload hx hb dL_law_146 (lv_at hl 0 rfl) ?_
    refine go_Vl (As := [.int (nI 0), .int (nI z)]) (rest := [.long (lN (cr_V (tx_ f) (fr_ z (nI 0)) (cn_ z (fr_ z (nI 0)) (nI z))))]) (wr := []) (wn := [(o, .inr (0, [.ref u.1, .int (nI z)])), (u.1, .inl (u.2, 4096, .inl f))]) (tn := [(u.2, .byte)]) ⟨hx, hb, hml, hown, hts⟩ (k_crc l dC dI tt o u.1 u.2 f z (nI 0) (nI z) _ hz) (cwV 2 hts (lw_V q44 q45 q46 q4 q47) rfl rfl rfl (by decide +kernel) ⟨(Nat.le_of_ble_eq_true rfl), (Nat.le_of_ble_eq_true rfl)⟩) hw [0, 1] [] [0, 1] [0] [0] ⟨rfl, rfl, rfl, rfl, rfl, by decide, rfl, rfl, rfl⟩ (ci := 0) (q0 := 0) rfl rfl hl.1 rfl rfl (Nat.le_of_ble_eq_true rfl) dL_law_148 ⟨(Nat.le_of_ble_eq_true rfl), (Nat.le_of_ble_eq_true rfl)⟩ (k1 := 23) (n1 := 12440) ⟨rfl, rfl⟩ (fun H locs hw => ?_)
    refine W.lcmp hx hb dL_law_151 ?_
    refine lv_if_ne (tgt := 179) hx hb dL_law_152 (by decide) (fun hye => absurd (lc_self _) hye) (fun _ => ?_)
    refine lv_aload_n hx hb dL_law_155 rfl (lv_at hl 4 rfl) ?_
    refine lv_iconst (v := nI 0) hx hb dL_law_156 (by decide +kernel) ?_
    refine lv_iload hx hb dL_law_157 (lv_at hl 0 rfl) ?_
    refine lv_iload hx hb dL_law_159 (lv_at hl 1 rfl) ?_
    refine go_Vl (As := [.int (nI 0), .int (nI z), .int (ce_ xs L 2)]) (rest := []) (wr := []) (wn := [(o, .inr (0, [.ref u.1, .int (nI z)])), (u.1, .inl (u.2, 4096, .inl f))]) (tn := [(u.2, .byte)]) ⟨hx, hb, hml, hown, hts⟩ (k_joinAdler l dC dI tt o u.1 u.2 f z (nI 0) (nI z) (ce_ xs L 2) _ hz) (cwV 3 hts (lw_V q117 q118 q119 q4 q120) rfl rfl rfl (by decide +kernel) ⟨(Nat.le_of_ble_eq_true rfl), (Nat.le_of_ble_eq_true rfl)⟩) hw [0, 1] [] [0, 1] [0] [0] ⟨rfl, rfl, rfl, rfl, rfl, by decide, rfl, rfl, rfl⟩ (ci := 0) (q0 := 0) rfl rfl hl.1 rfl rfl (Nat.le_of_ble_eq_true rfl) dL_law_161 ⟨(Nat.le_of_ble_eq_true rfl), (Nat.le_of_ble_eq_true rfl)⟩ (k1 := 25) (n1 := 12444) ⟨rfl, rfl⟩ (fun H locs hw => ?_)
    refine lv_aload_n hx hb dL_law_164 rfl (lv_at hl 4 rfl) ?_
    refine lv_iconst (v := nI 0) hx hb dL_law_165 (by decide +kernel) ?_
    refine lv_iload hx hb dL_law_166 (lv_at hl 0 rfl) ?_
    refine go_Vl (As := [.int (nI 0), .int (nI z)]) (rest := [.long (lN (ad_V (tx_ f) (fr_ z (nI 0)) (cn_ z (fr_ z (nI 0)) (nI z))))]) (wr := []) (wn := [(o, .inr (0, [.ref u.1, .int (nI z)])), (u.1, .inl (u.2, 4096, .inl f))]) (tn := [(u.2, .byte)]) ⟨hx, hb, hml, hown, hts⟩ (k_adler l dC dI tt o u.1 u.2 f z (nI 0) (nI z) _ hz) (cwV 2 hts (lw_V q98 q99 q100 q4 q101) rfl rfl rfl (by decide +kernel) ⟨(Nat.le_of_ble_eq_true rfl), (Nat.le_of_ble_eq_true rfl)⟩) hw [0, 1] [] [0, 1] [0] [0] ⟨rfl, rfl, rfl, rfl, rfl, by decide, rfl, rfl, rfl⟩ (ci := 0) (q0 := 0) rfl rfl hl.1 rfl rfl (Nat.le_of_ble_eq_true rfl) dL_law_168 ⟨(Nat.le_of_ble_eq_true rfl), (Nat.le_of_ble_eq_true rfl)⟩ (k1 := 26) (n1 := 12446) ⟨rfl, rfl⟩ (fun H locs hw => ?_)
    refine W.lcmp hx hb dL_law_171 ?_
    refine lv_if_ne (tgt := 179) hx hb dL_law_172 (by decide) (fun hye => absurd (lc_self _) hye) (fun _ => ?_)
    refine lv_iconst (v := 1) hx hb dL_law_175 (by decide +kernel) ?_
    refine lv_goto (tgt := 180) hx hb dL_law_176 (by decide) ?_
    refine va_forget (fun q hq => by have h := hw.2.2.2.1.2.2 q hq; rw [hAe] at h; exact h) ?_
    refine W.widen (k := 600000) (n := 7302250) (Nat.le_of_ble_eq_true rfl) (Nat.le_of_ble_eq_true rfl) ?_
    exact lw_ret hx hb hr hlocks dL_law_180
  · skip
    refine lv_icmp_ge (tgt := 65) hx hb dL_law_21 (by decide) (fun hye => absurd hye (nI_ge (show 4 + 4 * j < 48 by omega) (by decide))) (fun _ => ?_)
    refine lv_aload_n hx hb dL_law_24 rfl (lv_at hl 1 rfl) ?_
    refine lv_aload_n hx hb dL_law_25 rfl (lv_at hl 2 rfl) ?_
    refine lv_iload_n hx hb dL_law_26 rfl (lv_at hl 0 rfl) ?_
    refine go_cell (b := b) (L := L) (k := 4 + 4 * j) (xs := xs) (rest := [.ref o]) hL (by omega) ⟨hx, hb, hml, hown, hts⟩ hw hX hbl hbA ⟨(Nat.le_of_ble_eq_true rfl), (Nat.le_of_ble_eq_true rfl)⟩ hl.1 rfl (Nat.le_of_ble_eq_true rfl) dL_law_27 ⟨(Nat.le_of_ble_eq_true rfl), (Nat.le_of_ble_eq_true rfl)⟩ (fun H locs hw => ?_)
    refine lv_aload_n hx hb dL_law_30 rfl (lv_at hl 2 rfl) ?_
    refine lv_iload_n hx hb dL_law_31 rfl (lv_at hl 0 rfl) ?_
    refine lv_iconst (v := nI 1) hx hb dL_law_32 (by decide +kernel) ?_
    refine lv_iadd hx hb dL_law_33 ?_
    refine wv_i (y := nI (4 + 4 * j + 1)) (nI_add _ 1) ?_
    refine go_cell (b := b) (L := L) (k := 4 + 4 * j + 1) (xs := xs) (rest := [.int (ce_ xs L (4 + 4 * j)), .ref o]) hL (by omega) ⟨hx, hb, hml, hown, hts⟩ hw hX hbl hbA ⟨(Nat.le_of_ble_eq_true rfl), (Nat.le_of_ble_eq_true rfl)⟩ hl.1 rfl (Nat.le_of_ble_eq_true rfl) dL_law_34 ⟨(Nat.le_of_ble_eq_true rfl), (Nat.le_of_ble_eq_true rfl)⟩ (fun H locs hw => ?_)
    refine lv_aload_n hx hb dL_law_37 rfl (lv_at hl 2 rfl) ?_
    refine lv_iload_n hx hb dL_law_38 rfl (lv_at hl 0 rfl) ?_
    refine lv_iconst (v := nI 2) hx hb dL_law_39 (by decide +kernel) ?_
    refine lv_iadd hx hb dL_law_40 ?_
    refine wv_i (y := nI (4 + 4 * j + 2)) (nI_add _ 2) ?_
    refine go_cell (b := b) (L := L) (k := 4 + 4 * j + 2) (xs := xs) (rest := [.int (ce_ xs L (4 + 4 * j + 1)), .int (ce_ xs L (4 + 4 * j)), .ref o]) hL (by omega) ⟨hx, hb, hml, hown, hts⟩ hw hX hbl hbA ⟨(Nat.le_of_ble_eq_true rfl), (Nat.le_of_ble_eq_true rfl)⟩ hl.1 rfl (Nat.le_of_ble_eq_true rfl) dL_law_41 ⟨(Nat.le_of_ble_eq_true rfl), (Nat.le_of_ble_eq_true rfl)⟩ (fun H locs hw => ?_)
    refine lv_aload_n hx hb dL_law_44 rfl (lv_at hl 2 rfl) ?_
    refine lv_iload_n hx hb dL_law_45 rfl (lv_at hl 0 rfl) ?_
    refine lv_iconst (v := nI 3) hx hb dL_law_46 (by decide +kernel) ?_
    refine lv_iadd hx hb dL_law_47 ?_
    refine wv_i (y := nI (4 + 4 * j + 3)) (nI_add _ 3) ?_
    refine go_cell (b := b) (L := L) (k := 4 + 4 * j + 3) (xs := xs) (rest := [.int (ce_ xs L (4 + 4 * j + 2)), .int (ce_ xs L (4 + 4 * j + 1)), .int (ce_ xs L (4 + 4 * j)), .ref o]) hL (by omega) ⟨hx, hb, hml, hown, hts⟩ hw hX hbl hbA ⟨(Nat.le_of_ble_eq_true rfl), (Nat.le_of_ble_eq_true rfl)⟩ hl.1 rfl (Nat.le_of_ble_eq_true rfl) dL_law_48 ⟨(Nat.le_of_ble_eq_true rfl), (Nat.le_of_ble_eq_true rfl)⟩ (fun H locs hw => ?_)
    refine go_Vi (As := [.int (ce_ xs L (4 + 4 * j)), .int (ce_ xs L (4 + 4 * j + 1)), .int (ce_ xs L (4 + 4 * j + 2)), .int (ce_ xs L (4 + 4 * j + 3))]) (rest := []) (wr := []) (wn := [(o, .inr (0, [.ref u.1, .int (nI (16 * j + 16))])), (u.1, .inl (u.2, 4096, .inl (pt_ f (16 * j) (ce_ xs L (4 + 4 * j)) (ce_ xs L (4 + 4 * j + 1)) (ce_ xs L (4 + 4 * j + 2)) (ce_ xs L (4 + 4 * j + 3)))))]) (tn := [(u.2, .byte)]) ⟨hx, hb, hml, hown, hts⟩ (k_put l dC dI tt o u.1 u.2 f (16 * j) (ce_ xs L (4 + 4 * j)) (ce_ xs L (4 + 4 * j + 1)) (ce_ xs L (4 + 4 * j + 2)) (ce_ xs L (4 + 4 * j + 3)) _ (by omega)) (cwV 4 hts (lw_V q23 q24 q25 q4 q26) rfl rfl rfl (by decide +kernel) ⟨(Nat.le_of_ble_eq_true rfl), (Nat.le_of_ble_eq_true rfl)⟩) hw [0, 1] [] [0, 1] [0] [0] ⟨rfl, rfl, rfl, rfl, rfl, by decide, rfl, rfl, rfl⟩ (ci := 0) (q0 := 0) rfl rfl hl.1 rfl rfl (Nat.le_of_ble_eq_true rfl) dL_law_51 ⟨(Nat.le_of_ble_eq_true rfl), (Nat.le_of_ble_eq_true rfl)⟩ (k1 := 10) (n1 := 12300) ⟨rfl, rfl⟩ (fun H locs hw => ?_)
    refine lv_if_ne (tgt := 59) hx hb dL_law_54 (by decide) (fun _ => ?_) (fun hne => absurd hne (by decide))
    refine lv_iinc (v := nI (4 + 4 * (j + 1))) (lv' := [(2, .int (nI (4 + 4 * (j + 1)))), (1, .ref o), (0, .ref b)]) hx hb dL_law_59 hl (k := 0) rfl ((ii_p4 _).trans (congrArg nI (by omega))) (by decide) rfl (fun ls hl => ?_)
    refine lv_goto (tgt := 18) hx hb dL_law_62 (by decide) ?_
    rw [show 16 * j + 16 = 16 * (j + 1) by omega] at hw
    exact ih r (Nat.lt_succ_self r) _ _ _ ⟨j + 1, _, by omega, hw, lv_sub hl [0, 1, 2] rfl⟩
set_option maxHeartbeats 4000000 in
theorem lw_walk (l : Launch) (hflags : l.flags = flags0) (b : Addr) (xs : List Int32) : MetFree l x (headSpec (Jvm.Cond.code x code maxLocals ret :: tables_1) room_1) (lw_P b xs) (fun _ _ _ _ _ => True) lw_Q := by
  refine MetFree.of_bodyS (code := code) (maxLocals := maxLocals) (ret := ret) (by decide) ?_ ?_
  · intro args s m h hn
    obtain ⟨meth, c, h1, h2, h3, h4, h5, h6, -, -⟩ := Cond.code_spec hn (atoms_spec (ws := Jvm.Cond.code x code maxLocals ret :: tables_1) h _ List.mem_cons_self)
    exact ⟨meth, c, h1, h2, h3, h4, h5, h6⟩
  · intro p e s m args below meth c s₁ B hml0 hP _
    obtain ⟨rfl, hx, hbd, hgv⟩ := hP
    obtain ⟨scr, harrAt, hlist, hof, hsmall⟩ := hx
    obtain ⟨hcb, hkn, -, -⟩ := State.arrayAt?_spec harrAt
    have hown : s.vm.findClass R_law = some m.cls := findClass_of_methodNamed B.named
    have hts0 : ∀ c ∈ (Jvm.Cond.code x code maxLocals ret :: tables_1), c.before #[Value.ref b] s = true := atoms_spec (ws := Jvm.Cond.code x code maxLocals ret :: tables_1) B.pre
    have hts : ∀ w ∈ lw_tbl, w.before #[Value.ref b] s = true := k2_hts_sels lw_privs (fun w hw => hts0 w (List.mem_cons_of_mem _ hw)) lw_privs_ok
    have hml : c.maxLocals = 6 := B.maxLocals_eq (hts0 _ List.mem_cons_self)
    have X₀ : Stand p l e room_1 s m #[Value.ref b] below meth c s₁ [] 0 0 := Stand.of_body B
    have hh0 : s₁.heap = s.heap := by rw [B.state]; rfl
    have hsz : scr.slots.size = xs.length := by rw [← Array.length_toList, hlist, List.length_map]
    have hval : ∀ j : Nat, j < xs.length → scr.slots[j]? = some (.int (xs.getD j 0)) := fun j hj => by
      rw [← Array.getElem?_toList, hlist]
      simp [hj]
    have hbl : b < s.heap.size := (Array.getElem?_eq_some_iff.mp hcb).1
    have hX : va_X b xs.length (fun j => xs.getD j 0) s s.heap := ⟨scr, hcb, hof, hkn, hsz, hval⟩
    have K : W p l e room_1 s m #[Value.ref b] below meth c s₁.heap [] 0 0 (lw_Z below #[Value.ref b] s) (entryFrame m ([Value.ref b] : List Value).toArray 6) := by
      rw [hh0]
      exact whole_start l hflags hbd ⟨B.exec, B.bytes, B.returns, hml, hown, hts, hX, hbl, B.notSynchronized, hgv⟩
    obtain ⟨t, a1, o, b1, b2, b3⟩ := K s₁ rfl X₀
    exact ⟨t, o, a1, b1, b2, b3⟩
theorem lw_pre_spec {args : Array Value} {s : State} (h : (Jvm.Cond.and given_1 narrow_1).before args s = true) (hr : rest_1_c.before args s = true) : ∃ (b : Addr) (xs : List Int32), lw_P b xs args s := by
  have hs := flat_of_before _ h
  have hq := flat_of_before _ hr
  have hc : (Cond.count 1).before args s = true := hs _ (by decide +kernel)
  have harr : (Cond.arrayOf (.arg 0) .int).before args s = true := hs _ (by decide +kernel)
  have hle : (Cond.le (.length (.arg 0)) (.int 48)).before args s = true := hs _ (by decide +kernel)
  have hlen : (Cond.isInt (.length (.arg 0))).before args s = true := hq _ (by decide +kernel)
  have hall : (Cond.all (.arg 0) (.isInt (.elem (.arg 0) (.index 0)))).before args s = true := hq _ (by decide +kernel)
  obtain ⟨b, xs, hb, hx⟩ := State.ints_of_pre rfl harr hlen hall
  have hsm : xs.length < 2 ^ 31 := hx.choose_spec.2.2.2
  have hev : (Term.length (.arg 0)).eval args s none [] s = some (.int xs.length.toInt32) := hx.length_eval hb
  have hv := Cond.le_ints hev (show (Term.int 48).eval args s none [] s = some (.int 48) from rfl)
  have hd : xs.length.toInt32 ≤ 48 := by
    simpa [Cond.before, Cond.holds, hv] using hle
  have hN : xs.length ≤ 48 := (Int32.ofNat_le_ofNat hsm (by decide)).mp (show Int32.ofNat xs.length ≤ Int32.ofNat 48 from hd)
  exact ⟨b, xs, Cond.one_arg hc (show args[0]? = some (.ref b) from hb), hx, hN, h⟩
theorem lw_comes (l : Launch) (hflags : l.flags = flags0) : Comes l x (Jvm.Cond.code x code maxLocals ret :: tables_1) room_1 (fun tb e args s => Calls_1 tb e args s ∧ rest_1 tb e args s ∧ Pre_1 tb e args s)
    (fun _ _ args s o t => lw_Q args s o t) := by
  intro p e ha hc hk s m args below hf hfit hheap happ hpre
  obtain ⟨b, xs, hP⟩ := lw_pre_spec hpre.2.2 hpre.2.1
  obtain ⟨k, o, h1, h2, h3, hQ⟩ := lw_walk l hflags b xs p e ha hc hk s m args below hf ((Spec.applies_iff_loose hf).mp happ).1 hP trivial
  exact ⟨k, o, h1, h2, h3, hQ⟩
theorem lw_frame {s t : State} {o : Outcome} {args : Array Value} (h : Framed s o t [] 600000 7302250) :
    Framed s o t (fieldLocs frame_1_writes args s ++ arrayLocs frame_1_arrays args s ++ staticLocs frame_1_statics s) 600000 7302250 := h
theorem lw_limb (L : Cond) (hL : ∀ (args : Array Value) (s t : State), L.after args s (.returned (some (.int 1))) t = true) :
    ArmFor flags0 classFile x code maxLocals ret World_1 tables_1 room_1 Calls_1 rest_1 Pre_1
      (fun tb e a s o t => postC L tb e a s o t ∧ Framed s o t (fieldLocs frame_1_writes a s ++ arrayLocs frame_1_arrays a s ++ staticLocs frame_1_statics s) 600000 7302250) := by
  intro l hflags _ _ p e ha hc hk s m args below hf hfit hheap happ hpre
  obtain ⟨k, o, h1, h2, h3, rfl, hF⟩ := lw_comes l hflags p e ha hc hk s m args below hf hfit hheap happ hpre
  exact ⟨k, _, h1, h2, h3, hL args s _, lw_frame hF⟩
theorem i_vc : Claimed_1_1 ∧ Claimed_1_2 := ⟨lw_limb limb_1_1 (fun args s t => by simp [limb_1_1, Cond.after, Cond.holds, Cond.value]), lw_limb limb_1_2 (fun args s t => Cond.after_iff.mpr (by
  first | (rw [show limb_1_2 = Cond.eq .result (.int 1) from rfl, Cond.eq_ints (x := 1) (y := 1) rfl rfl]; simp; done) | (simp [limb_1_2, Cond.value, Term.eval]; done)))⟩
end
