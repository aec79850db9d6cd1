section
-- ===== PART A: goes FIRST, ahead of the names: the tables' words, and 'selects' of the private methods out of them =====
/-- a private method of a class that the tables say can be made, by its rows of tables_1 -/
def lw_okq (q : MethodName × Nat) : Prop := (q.1.cls ≠ "java/lang/invoke/MethodHandle" ∧ q.1.cls ≠ "java/lang/invoke/VarHandle") ∧ Cond.instantiable q.1.cls q.2 ∈ tables_1 ∧ Cond.privateMethod q.1 ∈ tables_1 ∧ Cond.instanceMethod q.1 ∈ tables_1
def lw_privs : List (MethodName × Nat) := []
def lw_tbl : List Cond := k2_sels lw_privs ++ tables_1
theorem lw_privs_ok : ∀ q ∈ lw_privs, lw_okq q := fun _ h => absurd h List.not_mem_nil
-- ===== ONE list of words for every method: the tables' words that hold all through a run =====
def lw_all : List Cond := lw_tbl.filter goodWord
/-- a word of the tables by its place: claim/WORDS.tsv -/
theorem lw_w {w : Cond} (i : Nat) (h : lw_tbl[i]? = some w) (g : goodWord w = true) : w ∈ lw_all := List.mem_filter.mpr ⟨List.mem_of_getElem? h, g⟩
theorem lw_all_tbl {w : Cond} (h : w ∈ lw_all) : w ∈ lw_tbl := (List.mem_filter.mp h).1
theorem lw_self : GoodIn lw_all lw_all := fun w h => ⟨h, good_of_word (List.mem_filter.mp h).2⟩
/-- a class's field words, by their places -/
theorem lw_in (ws : List Cond) (ps : List Nat) (hp : ws = ps.filterMap (fun i => lw_tbl[i]?)) (hg : ws.all goodWord = true) : ∀ w ∈ ws, w ∈ lw_all := by
  intro w h
  have h1 := List.all_eq_true.mp hg w h
  rw [hp] at h
  obtain ⟨i, -, hi⟩ := List.mem_filterMap.mp h
  exact lw_w i hi h1
/-- the words of a contract for the method y with code b, L locals, answer r -/
abbrev ws_ (y : MethodName) (b : ByteArray) (L : Nat) (r : Option FieldType) : List Cond := Cond.code y b L r :: lw_all
theorem lw_meth {y : MethodName} {b : ByteArray} {L : Nat} {r : Option FieldType} (h : Cond.code y b L r ∈ lw_all) : GoodIn lw_all (ws_ y b L r) := by
  intro w hw
  rcases List.mem_cons.mp hw with e | e
  · rw [e]
    exact lw_self _ h
  · exact lw_self _ e
theorem lw_app {a c : List Cond} (ha : ∀ w ∈ a, w ∈ lw_all) (hc : GoodIn lw_all c) : GoodIn lw_all (a ++ c) := by
  intro w hw
  rcases List.mem_append.mp hw with e | e
  · exact lw_self w (ha w e)
  · exact hc w e
/-- what a call through an object asks: cwV n hts (lw_V ..) -/
theorem lw_V {own : String} {idx : Nat} {C : String} {y : MethodName} {b : ByteArray} {L : Nat} {r : Option FieldType} (h1 : Cond.methodLink own idx y ∈ lw_all) (h2 : Cond.instanceMethod y ∈ lw_all) (h3 : Cond.selects C y y ∈ lw_all) (h4 : Cond.initialized C ∈ lw_all) (h5 : Cond.code y b L r ∈ lw_all) : GoodIn lw_all (wsV own idx C y (ws_ y b L r)) := by
  refine lw_app ?_ (lw_meth h5)
  intro w hw
  simp only [List.mem_cons, List.not_mem_nil, or_false] at hw
  rcases hw with e | e | e | e
  · rw [e]; exact h1
  · rw [e]; exact h2
  · rw [e]; exact h3
  · rw [e]; exact h4
/-- what a static call asks: va_cwS n hts (lw_S ..) -/
theorem lw_S {own : String} {idx : Nat} {y : MethodName} {b : ByteArray} {L : Nat} {r : Option FieldType} (h1 : Cond.methodLink own idx y ∈ lw_all) (h2 : Cond.static y ∈ lw_all) (h3 : Cond.initialized y.cls ∈ lw_all) (h4 : Cond.code y b L r ∈ lw_all) : GoodIn lw_all (va_wsS own idx y (ws_ y b L r)) := by
  refine lw_app ?_ (lw_meth h4)
  intro w hw
  simp only [List.mem_cons, List.not_mem_nil, or_false] at hw
  rcases hw with e | e | e
  · rw [e]; exact h1
  · rw [e]; exact h2
  · rw [e]; exact h3
/-- the words of a contract for a method WITH HANDLERS (hh: its table) -/
abbrev wsW_ (y : MethodName) (b : ByteArray) (L : Nat) (r : Option FieldType) (hh : List (Nat × Nat × Nat × Nat)) : List Cond := Cond.codeWith y b L r hh :: lw_all
theorem lw_methW {y : MethodName} {b : ByteArray} {L : Nat} {r : Option FieldType} {hh : List (Nat × Nat × Nat × Nat)} (h : Cond.codeWith y b L r hh ∈ lw_all) : GoodIn lw_all (wsW_ y b L r hh) := by
  intro w hw
  rcases List.mem_cons.mp hw with e | e
  · rw [e]
    exact lw_self _ h
  · exact lw_self _ e
/-- any list of words by their places (lw_in), good -/
theorem lw_good {ws : List Cond} (h : ∀ w ∈ ws, w ∈ lw_all) : GoodIn lw_all ws := fun w hw => lw_self w (h w hw)
/-- what a call of a method with handlers asks: vx_cwVW n hts (lw_VW ..), vx_cwSW n hts (lw_SW ..) -/
theorem lw_VW {own : String} {idx : Nat} {C : String} {y : MethodName} {b : ByteArray} {L : Nat} {r : Option FieldType} {hh : List (Nat × Nat × Nat × Nat)} (h1 : Cond.methodLink own idx y ∈ lw_all) (h2 : Cond.instanceMethod y ∈ lw_all) (h3 : Cond.selects C y y ∈ lw_all) (h4 : Cond.initialized C ∈ lw_all) (h5 : Cond.codeWith y b L r hh ∈ lw_all) : GoodIn lw_all (wsV own idx C y (wsW_ y b L r hh)) := by
  refine lw_app ?_ (lw_methW h5)
  intro w hw
  simp only [List.mem_cons, List.not_mem_nil, or_false] at hw
  rcases hw with e | e | e | e
  · rw [e]; exact h1
  · rw [e]; exact h2
  · rw [e]; exact h3
  · rw [e]; exact h4
theorem lw_SW {own : String} {idx : Nat} {y : MethodName} {b : ByteArray} {L : Nat} {r : Option FieldType} {hh : List (Nat × Nat × Nat × Nat)} (h1 : Cond.methodLink own idx y ∈ lw_all) (h2 : Cond.static y ∈ lw_all) (h3 : Cond.initialized y.cls ∈ lw_all) (h4 : Cond.codeWith y b L r hh ∈ lw_all) : GoodIn lw_all (va_wsS own idx y (wsW_ y b L r hh)) := by
  refine lw_app ?_ (lw_methW h4)
  intro w hw
  simp only [List.mem_cons, List.not_mem_nil, or_false] at hw
  rcases hw with e | e | e
  · rw [e]; exact h1
  · rw [e]; exact h2
  · rw [e]; exact h3
/-- a word by its place in its run of the tables -/
theorem lw_at {r : List Cond} (hr : ∀ w ∈ r, w ∈ lw_tbl) {w : Cond} (i : Nat) (h : r[i]? = some w) : w ∈ lw_tbl := hr w (List.mem_of_getElem? h)
theorem lw_g {w : Cond} (h : w ∈ lw_tbl) (g : goodWord w = true) : w ∈ lw_all := List.mem_filter.mpr ⟨h, g⟩
theorem lw_ms : ∀ w ∈ k2_sels lw_privs, w ∈ lw_tbl := fun w h => show w ∈ k2_sels lw_privs ++ tables_1 from List.mem_append_left _ h
theorem lw_m0 : ∀ w ∈ tables_1, w ∈ lw_tbl := fun w h => show w ∈ k2_sels lw_privs ++ tables_1 from List.mem_append_right (k2_sels lw_privs) h
end
section
/-! DECODE ROWS BY BYTES: one lemma an opcode; a method's code is cut into short pieces once, and a row reads its own piece alone. -/
set_option maxRecDepth 100000
/-- the code has just these bytes from pc on -/
def DkAt (code : ByteArray) (pc : Nat) (bs : List UInt8) : Prop := ∀ (j : Nat) (b : UInt8), bs[j]? = some b → code.data.toList[pc + j]? = some b
/-- the piece W has the bytes bs from its place j on -/
def dkIn (W : List UInt8) (j : Nat) (bs : List UInt8) : Bool := decide ((W.drop j).take bs.length = bs)
theorem dk_seg {l W T : List UInt8} {o o2 : Nat} (h : l.drop o = W ++ T) (n : Nat) (hn : W.length = n) (ho : o + n = o2) : l.drop o2 = T := by
  subst ho
  rw [← List.drop_drop, h, List.drop_left' hn]
theorem dk_at {code : ByteArray} {W T bs : List UInt8} {o pc : Nat} (h : code.data.toList.drop o = W ++ T) (j : Nat) (hp : o + j = pc) (hw : dkIn W j bs = true) : DkAt code pc bs := by
  subst hp
  intro i b e
  have h1 := of_decide_eq_true hw
  have h2 : i < bs.length := (List.getElem?_eq_some_iff.mp e).1
  have h3 : W[j + i]? = some b := by
    rw [← h1, List.getElem?_take, if_pos h2, List.getElem?_drop] at e
    exact e
  have h4 : j + i < W.length := (List.getElem?_eq_some_iff.mp h3).1
  have h5 : (code.data.toList.drop o)[j + i]? = some b := by
    rw [h, List.getElem?_append_left h4]
    exact h3
  rw [List.getElem?_drop, ← Nat.add_assoc] at h5
  exact h5
theorem dk_u1 {A : ByteArray} {p : Nat} {b : UInt8} (h : A.data.toList[p]? = some b) : (Reader.u1 : Reader DecodeError Nat) A p = .ok (b.toNat, p + 1) := by
  obtain ⟨h1, h2⟩ := List.getElem?_eq_some_iff.mp h
  have h3 : p < A.size := by simpa using h1
  have h4 : A[p]'h3 = b := h2
  have e : (Reader.u1 : Reader DecodeError Nat) A p = (if h : p < A.size then .ok (A[p].toNat, p + 1) else .error (HasTruncated.truncated p)) := by
    show (do if h : p < A.size then do set (p + 1); Pure.pure A[p].toNat else MonadExcept.throw (HasTruncated.truncated p) : Reader DecodeError Nat) A p = _
    by_cases hi : p < A.size
    · rw [dif_pos hi, dif_pos hi]; rfl
    · rw [dif_neg hi, dif_neg hi]; rfl
  rw [e, dif_pos h3, h4]
theorem dk_bind {α β : Type} {r : Reader DecodeError α} {f : α → Reader DecodeError β} {A : ByteArray} {p s : Nat} {a : α} (h : r A p = .ok (a, s)) : (r >>= f) A p = f a A s := by
  show (do let (a, s) ← r A p; f a A s : Except DecodeError (β × Nat)) = _
  rw [h]
  rfl
theorem dk_map {α β : Type} {r : Reader DecodeError α} {g : α → β} {A : ByteArray} {p s : Nat} {a : α} (h : r A p = .ok (a, s)) : (g <$> r) A p = .ok (g a, s) := by
  show (do let (a, s) ← r A p; .ok (g a, s) : Except DecodeError (β × Nat)) = _
  rw [h]
  rfl
theorem dk_u2 {A : ByteArray} {p : Nat} {a b : UInt8} (h : A.data.toList[p]? = some a) (h2 : A.data.toList[p + 1]? = some b) : (Reader.u2 : Reader DecodeError Nat) A p = .ok (a.toNat * 256 + b.toNat, p + 2) := by
  show (Reader.u1 >>= fun hi => Reader.u1 >>= fun lo => Pure.pure (hi * 256 + lo) : Reader DecodeError Nat) A p = _
  rw [dk_bind (dk_u1 h), dk_bind (dk_u1 h2)]
  rfl
theorem dk_of {code : ByteArray} {pc n : Nat} {i : Instr} (h : Decoder.instr pc code pc = .ok (i, pc + n)) : decode code pc = .ok (i, n) := by
  have e : decode code pc = (match Decoder.instr pc code pc with | .error x => .error x | .ok (j, s) => .ok (j, s - pc)) := by
    show (do let (j, s) ← Decoder.instr pc code pc; Pure.pure (j, s - pc) : Except DecodeError (Instr × Nat)) = _
    cases Decoder.instr pc code pc <;> rfl
  rw [e, h]
  show Except.ok (i, pc + n - pc) = _
  rw [Nat.add_sub_cancel_left]
theorem dk_2 {code : ByteArray} {pc : Nat} (h : DkAt code pc [2]) : decode code pc = .ok (.iconst (-1), 1) := dk_of ((dk_bind (dk_u1 (h 0 _ rfl))).trans rfl)
theorem dk_3 {code : ByteArray} {pc : Nat} (h : DkAt code pc [3]) : decode code pc = .ok (.iconst 0, 1) := dk_of ((dk_bind (dk_u1 (h 0 _ rfl))).trans rfl)
theorem dk_4 {code : ByteArray} {pc : Nat} (h : DkAt code pc [4]) : decode code pc = .ok (.iconst 1, 1) := dk_of ((dk_bind (dk_u1 (h 0 _ rfl))).trans rfl)
theorem dk_5 {code : ByteArray} {pc : Nat} (h : DkAt code pc [5]) : decode code pc = .ok (.iconst 2, 1) := dk_of ((dk_bind (dk_u1 (h 0 _ rfl))).trans rfl)
theorem dk_6 {code : ByteArray} {pc : Nat} (h : DkAt code pc [6]) : decode code pc = .ok (.iconst 3, 1) := dk_of ((dk_bind (dk_u1 (h 0 _ rfl))).trans rfl)
theorem dk_7 {code : ByteArray} {pc : Nat} (h : DkAt code pc [7]) : decode code pc = .ok (.iconst 4, 1) := dk_of ((dk_bind (dk_u1 (h 0 _ rfl))).trans rfl)
theorem dk_8 {code : ByteArray} {pc : Nat} (h : DkAt code pc [8]) : decode code pc = .ok (.iconst 5, 1) := dk_of ((dk_bind (dk_u1 (h 0 _ rfl))).trans rfl)
theorem dk_9 {code : ByteArray} {pc : Nat} (h : DkAt code pc [9]) : decode code pc = .ok (.lconst 0, 1) := dk_of ((dk_bind (dk_u1 (h 0 _ rfl))).trans rfl)
theorem dk_10 {code : ByteArray} {pc : Nat} (h : DkAt code pc [10]) : decode code pc = .ok (.lconst 1, 1) := dk_of ((dk_bind (dk_u1 (h 0 _ rfl))).trans rfl)
theorem dk_16 {code : ByteArray} {pc : Nat} (a : UInt8) (h : DkAt code pc [16, a]) : decode code pc = .ok (.bipush (Reader.signed 8 a.toNat), 2) := dk_of ((dk_bind (dk_u1 (h 0 _ rfl))).trans ((dk_bind (dk_map (dk_u1 (h 1 _ rfl)))).trans rfl))
theorem dk_17 {code : ByteArray} {pc : Nat} (a b : UInt8) (h : DkAt code pc [17, a, b]) : decode code pc = .ok (.sipush (Reader.signed 16 (a.toNat * 256 + b.toNat)), 3) := dk_of ((dk_bind (dk_u1 (h 0 _ rfl))).trans ((dk_bind (dk_map (dk_u2 (h 1 _ rfl) (h 2 _ rfl)))).trans rfl))
theorem dk_18 {code : ByteArray} {pc : Nat} (a : UInt8) (h : DkAt code pc [18, a]) : decode code pc = .ok (.ldc a.toNat, 2) := dk_of ((dk_bind (dk_u1 (h 0 _ rfl))).trans ((dk_bind (dk_u1 (h 1 _ rfl))).trans rfl))
theorem dk_19 {code : ByteArray} {pc : Nat} (a b : UInt8) (h : DkAt code pc [19, a, b]) : decode code pc = .ok (.ldc_w (a.toNat * 256 + b.toNat), 3) := dk_of ((dk_bind (dk_u1 (h 0 _ rfl))).trans ((dk_bind (dk_u2 (h 1 _ rfl) (h 2 _ rfl))).trans rfl))
theorem dk_20 {code : ByteArray} {pc : Nat} (a b : UInt8) (h : DkAt code pc [20, a, b]) : decode code pc = .ok (.ldc2_w (a.toNat * 256 + b.toNat), 3) := dk_of ((dk_bind (dk_u1 (h 0 _ rfl))).trans ((dk_bind (dk_u2 (h 1 _ rfl) (h 2 _ rfl))).trans rfl))
theorem dk_21 {code : ByteArray} {pc : Nat} (a : UInt8) (h : DkAt code pc [21, a]) : decode code pc = .ok (.iload a.toNat, 2) := dk_of ((dk_bind (dk_u1 (h 0 _ rfl))).trans ((dk_bind (dk_u1 (h 1 _ rfl))).trans rfl))
theorem dk_22 {code : ByteArray} {pc : Nat} (a : UInt8) (h : DkAt code pc [22, a]) : decode code pc = .ok (.lload a.toNat, 2) := dk_of ((dk_bind (dk_u1 (h 0 _ rfl))).trans ((dk_bind (dk_u1 (h 1 _ rfl))).trans rfl))
theorem dk_25 {code : ByteArray} {pc : Nat} (a : UInt8) (h : DkAt code pc [25, a]) : decode code pc = .ok (.aload a.toNat, 2) := dk_of ((dk_bind (dk_u1 (h 0 _ rfl))).trans ((dk_bind (dk_u1 (h 1 _ rfl))).trans rfl))
theorem dk_26 {code : ByteArray} {pc : Nat} (h : DkAt code pc [26]) : decode code pc = .ok (.iload_n 0, 1) := dk_of ((dk_bind (dk_u1 (h 0 _ rfl))).trans rfl)
theorem dk_27 {code : ByteArray} {pc : Nat} (h : DkAt code pc [27]) : decode code pc = .ok (.iload_n 1, 1) := dk_of ((dk_bind (dk_u1 (h 0 _ rfl))).trans rfl)
theorem dk_28 {code : ByteArray} {pc : Nat} (h : DkAt code pc [28]) : decode code pc = .ok (.iload_n 2, 1) := dk_of ((dk_bind (dk_u1 (h 0 _ rfl))).trans rfl)
theorem dk_29 {code : ByteArray} {pc : Nat} (h : DkAt code pc [29]) : decode code pc = .ok (.iload_n 3, 1) := dk_of ((dk_bind (dk_u1 (h 0 _ rfl))).trans rfl)
theorem dk_30 {code : ByteArray} {pc : Nat} (h : DkAt code pc [30]) : decode code pc = .ok (.lload_n 0, 1) := dk_of ((dk_bind (dk_u1 (h 0 _ rfl))).trans rfl)
theorem dk_32 {code : ByteArray} {pc : Nat} (h : DkAt code pc [32]) : decode code pc = .ok (.lload_n 2, 1) := dk_of ((dk_bind (dk_u1 (h 0 _ rfl))).trans rfl)
theorem dk_42 {code : ByteArray} {pc : Nat} (h : DkAt code pc [42]) : decode code pc = .ok (.aload_n 0, 1) := dk_of ((dk_bind (dk_u1 (h 0 _ rfl))).trans rfl)
theorem dk_43 {code : ByteArray} {pc : Nat} (h : DkAt code pc [43]) : decode code pc = .ok (.aload_n 1, 1) := dk_of ((dk_bind (dk_u1 (h 0 _ rfl))).trans rfl)
theorem dk_44 {code : ByteArray} {pc : Nat} (h : DkAt code pc [44]) : decode code pc = .ok (.aload_n 2, 1) := dk_of ((dk_bind (dk_u1 (h 0 _ rfl))).trans rfl)
theorem dk_45 {code : ByteArray} {pc : Nat} (h : DkAt code pc [45]) : decode code pc = .ok (.aload_n 3, 1) := dk_of ((dk_bind (dk_u1 (h 0 _ rfl))).trans rfl)
theorem dk_46 {code : ByteArray} {pc : Nat} (h : DkAt code pc [46]) : decode code pc = .ok (.iaload, 1) := dk_of ((dk_bind (dk_u1 (h 0 _ rfl))).trans rfl)
theorem dk_54 {code : ByteArray} {pc : Nat} (a : UInt8) (h : DkAt code pc [54, a]) : decode code pc = .ok (.istore a.toNat, 2) := dk_of ((dk_bind (dk_u1 (h 0 _ rfl))).trans ((dk_bind (dk_u1 (h 1 _ rfl))).trans rfl))
theorem dk_55 {code : ByteArray} {pc : Nat} (a : UInt8) (h : DkAt code pc [55, a]) : decode code pc = .ok (.lstore a.toNat, 2) := dk_of ((dk_bind (dk_u1 (h 0 _ rfl))).trans ((dk_bind (dk_u1 (h 1 _ rfl))).trans rfl))
theorem dk_58 {code : ByteArray} {pc : Nat} (a : UInt8) (h : DkAt code pc [58, a]) : decode code pc = .ok (.astore a.toNat, 2) := dk_of ((dk_bind (dk_u1 (h 0 _ rfl))).trans ((dk_bind (dk_u1 (h 1 _ rfl))).trans rfl))
theorem dk_59 {code : ByteArray} {pc : Nat} (h : DkAt code pc [59]) : decode code pc = .ok (.istore_n 0, 1) := dk_of ((dk_bind (dk_u1 (h 0 _ rfl))).trans rfl)
theorem dk_60 {code : ByteArray} {pc : Nat} (h : DkAt code pc [60]) : decode code pc = .ok (.istore_n 1, 1) := dk_of ((dk_bind (dk_u1 (h 0 _ rfl))).trans rfl)
theorem dk_61 {code : ByteArray} {pc : Nat} (h : DkAt code pc [61]) : decode code pc = .ok (.istore_n 2, 1) := dk_of ((dk_bind (dk_u1 (h 0 _ rfl))).trans rfl)
theorem dk_62 {code : ByteArray} {pc : Nat} (h : DkAt code pc [62]) : decode code pc = .ok (.istore_n 3, 1) := dk_of ((dk_bind (dk_u1 (h 0 _ rfl))).trans rfl)
theorem dk_63 {code : ByteArray} {pc : Nat} (h : DkAt code pc [63]) : decode code pc = .ok (.lstore_n 0, 1) := dk_of ((dk_bind (dk_u1 (h 0 _ rfl))).trans rfl)
theorem dk_65 {code : ByteArray} {pc : Nat} (h : DkAt code pc [65]) : decode code pc = .ok (.lstore_n 2, 1) := dk_of ((dk_bind (dk_u1 (h 0 _ rfl))).trans rfl)
theorem dk_76 {code : ByteArray} {pc : Nat} (h : DkAt code pc [76]) : decode code pc = .ok (.astore_n 1, 1) := dk_of ((dk_bind (dk_u1 (h 0 _ rfl))).trans rfl)
theorem dk_77 {code : ByteArray} {pc : Nat} (h : DkAt code pc [77]) : decode code pc = .ok (.astore_n 2, 1) := dk_of ((dk_bind (dk_u1 (h 0 _ rfl))).trans rfl)
theorem dk_78 {code : ByteArray} {pc : Nat} (h : DkAt code pc [78]) : decode code pc = .ok (.astore_n 3, 1) := dk_of ((dk_bind (dk_u1 (h 0 _ rfl))).trans rfl)
theorem dk_79 {code : ByteArray} {pc : Nat} (h : DkAt code pc [79]) : decode code pc = .ok (.iastore, 1) := dk_of ((dk_bind (dk_u1 (h 0 _ rfl))).trans rfl)
theorem dk_89 {code : ByteArray} {pc : Nat} (h : DkAt code pc [89]) : decode code pc = .ok (.dup, 1) := dk_of ((dk_bind (dk_u1 (h 0 _ rfl))).trans rfl)
theorem dk_96 {code : ByteArray} {pc : Nat} (h : DkAt code pc [96]) : decode code pc = .ok (.iadd, 1) := dk_of ((dk_bind (dk_u1 (h 0 _ rfl))).trans rfl)
theorem dk_97 {code : ByteArray} {pc : Nat} (h : DkAt code pc [97]) : decode code pc = .ok (.ladd, 1) := dk_of ((dk_bind (dk_u1 (h 0 _ rfl))).trans rfl)
theorem dk_100 {code : ByteArray} {pc : Nat} (h : DkAt code pc [100]) : decode code pc = .ok (.isub, 1) := dk_of ((dk_bind (dk_u1 (h 0 _ rfl))).trans rfl)
theorem dk_101 {code : ByteArray} {pc : Nat} (h : DkAt code pc [101]) : decode code pc = .ok (.lsub, 1) := dk_of ((dk_bind (dk_u1 (h 0 _ rfl))).trans rfl)
theorem dk_104 {code : ByteArray} {pc : Nat} (h : DkAt code pc [104]) : decode code pc = .ok (.imul, 1) := dk_of ((dk_bind (dk_u1 (h 0 _ rfl))).trans rfl)
theorem dk_105 {code : ByteArray} {pc : Nat} (h : DkAt code pc [105]) : decode code pc = .ok (.lmul, 1) := dk_of ((dk_bind (dk_u1 (h 0 _ rfl))).trans rfl)
theorem dk_108 {code : ByteArray} {pc : Nat} (h : DkAt code pc [108]) : decode code pc = .ok (.idiv, 1) := dk_of ((dk_bind (dk_u1 (h 0 _ rfl))).trans rfl)
theorem dk_109 {code : ByteArray} {pc : Nat} (h : DkAt code pc [109]) : decode code pc = .ok (.ldiv, 1) := dk_of ((dk_bind (dk_u1 (h 0 _ rfl))).trans rfl)
theorem dk_120 {code : ByteArray} {pc : Nat} (h : DkAt code pc [120]) : decode code pc = .ok (.ishl, 1) := dk_of ((dk_bind (dk_u1 (h 0 _ rfl))).trans rfl)
theorem dk_121 {code : ByteArray} {pc : Nat} (h : DkAt code pc [121]) : decode code pc = .ok (.lshl, 1) := dk_of ((dk_bind (dk_u1 (h 0 _ rfl))).trans rfl)
theorem dk_123 {code : ByteArray} {pc : Nat} (h : DkAt code pc [123]) : decode code pc = .ok (.lshr, 1) := dk_of ((dk_bind (dk_u1 (h 0 _ rfl))).trans rfl)
theorem dk_124 {code : ByteArray} {pc : Nat} (h : DkAt code pc [124]) : decode code pc = .ok (.iushr, 1) := dk_of ((dk_bind (dk_u1 (h 0 _ rfl))).trans rfl)
theorem dk_125 {code : ByteArray} {pc : Nat} (h : DkAt code pc [125]) : decode code pc = .ok (.lushr, 1) := dk_of ((dk_bind (dk_u1 (h 0 _ rfl))).trans rfl)
theorem dk_126 {code : ByteArray} {pc : Nat} (h : DkAt code pc [126]) : decode code pc = .ok (.iand, 1) := dk_of ((dk_bind (dk_u1 (h 0 _ rfl))).trans rfl)
theorem dk_127 {code : ByteArray} {pc : Nat} (h : DkAt code pc [127]) : decode code pc = .ok (.land, 1) := dk_of ((dk_bind (dk_u1 (h 0 _ rfl))).trans rfl)
theorem dk_128 {code : ByteArray} {pc : Nat} (h : DkAt code pc [128]) : decode code pc = .ok (.ior, 1) := dk_of ((dk_bind (dk_u1 (h 0 _ rfl))).trans rfl)
theorem dk_129 {code : ByteArray} {pc : Nat} (h : DkAt code pc [129]) : decode code pc = .ok (.lor, 1) := dk_of ((dk_bind (dk_u1 (h 0 _ rfl))).trans rfl)
theorem dk_130 {code : ByteArray} {pc : Nat} (h : DkAt code pc [130]) : decode code pc = .ok (.ixor, 1) := dk_of ((dk_bind (dk_u1 (h 0 _ rfl))).trans rfl)
theorem dk_131 {code : ByteArray} {pc : Nat} (h : DkAt code pc [131]) : decode code pc = .ok (.lxor, 1) := dk_of ((dk_bind (dk_u1 (h 0 _ rfl))).trans rfl)
theorem dk_132 {code : ByteArray} {pc : Nat} (a b : UInt8) (h : DkAt code pc [132, a, b]) : decode code pc = .ok (.iinc a.toNat (Reader.signed 8 b.toNat), 3) := dk_of ((dk_bind (dk_u1 (h 0 _ rfl))).trans ((dk_bind (dk_u1 (h 1 _ rfl))).trans ((dk_bind (dk_map (dk_u1 (h 2 _ rfl)))).trans rfl)))
theorem dk_133 {code : ByteArray} {pc : Nat} (h : DkAt code pc [133]) : decode code pc = .ok (.i2l, 1) := dk_of ((dk_bind (dk_u1 (h 0 _ rfl))).trans rfl)
theorem dk_136 {code : ByteArray} {pc : Nat} (h : DkAt code pc [136]) : decode code pc = .ok (.l2i, 1) := dk_of ((dk_bind (dk_u1 (h 0 _ rfl))).trans rfl)
theorem dk_148 {code : ByteArray} {pc : Nat} (h : DkAt code pc [148]) : decode code pc = .ok (.lcmp, 1) := dk_of ((dk_bind (dk_u1 (h 0 _ rfl))).trans rfl)
theorem dk_153 {code : ByteArray} {pc : Nat} (a b : UInt8) (h : DkAt code pc [153, a, b]) : decode code pc = .ok (.ifCond .eq (Reader.signed 16 (a.toNat * 256 + b.toNat)), 3) := dk_of ((dk_bind (dk_u1 (h 0 _ rfl))).trans ((dk_bind (dk_map (dk_u2 (h 1 _ rfl) (h 2 _ rfl)))).trans rfl))
theorem dk_154 {code : ByteArray} {pc : Nat} (a b : UInt8) (h : DkAt code pc [154, a, b]) : decode code pc = .ok (.ifCond .ne (Reader.signed 16 (a.toNat * 256 + b.toNat)), 3) := dk_of ((dk_bind (dk_u1 (h 0 _ rfl))).trans ((dk_bind (dk_map (dk_u2 (h 1 _ rfl) (h 2 _ rfl)))).trans rfl))
theorem dk_155 {code : ByteArray} {pc : Nat} (a b : UInt8) (h : DkAt code pc [155, a, b]) : decode code pc = .ok (.ifCond .lt (Reader.signed 16 (a.toNat * 256 + b.toNat)), 3) := dk_of ((dk_bind (dk_u1 (h 0 _ rfl))).trans ((dk_bind (dk_map (dk_u2 (h 1 _ rfl) (h 2 _ rfl)))).trans rfl))
theorem dk_156 {code : ByteArray} {pc : Nat} (a b : UInt8) (h : DkAt code pc [156, a, b]) : decode code pc = .ok (.ifCond .ge (Reader.signed 16 (a.toNat * 256 + b.toNat)), 3) := dk_of ((dk_bind (dk_u1 (h 0 _ rfl))).trans ((dk_bind (dk_map (dk_u2 (h 1 _ rfl) (h 2 _ rfl)))).trans rfl))
theorem dk_157 {code : ByteArray} {pc : Nat} (a b : UInt8) (h : DkAt code pc [157, a, b]) : decode code pc = .ok (.ifCond .gt (Reader.signed 16 (a.toNat * 256 + b.toNat)), 3) := dk_of ((dk_bind (dk_u1 (h 0 _ rfl))).trans ((dk_bind (dk_map (dk_u2 (h 1 _ rfl) (h 2 _ rfl)))).trans rfl))
theorem dk_158 {code : ByteArray} {pc : Nat} (a b : UInt8) (h : DkAt code pc [158, a, b]) : decode code pc = .ok (.ifCond .le (Reader.signed 16 (a.toNat * 256 + b.toNat)), 3) := dk_of ((dk_bind (dk_u1 (h 0 _ rfl))).trans ((dk_bind (dk_map (dk_u2 (h 1 _ rfl) (h 2 _ rfl)))).trans rfl))
theorem dk_159 {code : ByteArray} {pc : Nat} (a b : UInt8) (h : DkAt code pc [159, a, b]) : decode code pc = .ok (.if_icmp .eq (Reader.signed 16 (a.toNat * 256 + b.toNat)), 3) := dk_of ((dk_bind (dk_u1 (h 0 _ rfl))).trans ((dk_bind (dk_map (dk_u2 (h 1 _ rfl) (h 2 _ rfl)))).trans rfl))
theorem dk_160 {code : ByteArray} {pc : Nat} (a b : UInt8) (h : DkAt code pc [160, a, b]) : decode code pc = .ok (.if_icmp .ne (Reader.signed 16 (a.toNat * 256 + b.toNat)), 3) := dk_of ((dk_bind (dk_u1 (h 0 _ rfl))).trans ((dk_bind (dk_map (dk_u2 (h 1 _ rfl) (h 2 _ rfl)))).trans rfl))
theorem dk_161 {code : ByteArray} {pc : Nat} (a b : UInt8) (h : DkAt code pc [161, a, b]) : decode code pc = .ok (.if_icmp .lt (Reader.signed 16 (a.toNat * 256 + b.toNat)), 3) := dk_of ((dk_bind (dk_u1 (h 0 _ rfl))).trans ((dk_bind (dk_map (dk_u2 (h 1 _ rfl) (h 2 _ rfl)))).trans rfl))
theorem dk_162 {code : ByteArray} {pc : Nat} (a b : UInt8) (h : DkAt code pc [162, a, b]) : decode code pc = .ok (.if_icmp .ge (Reader.signed 16 (a.toNat * 256 + b.toNat)), 3) := dk_of ((dk_bind (dk_u1 (h 0 _ rfl))).trans ((dk_bind (dk_map (dk_u2 (h 1 _ rfl) (h 2 _ rfl)))).trans rfl))
theorem dk_164 {code : ByteArray} {pc : Nat} (a b : UInt8) (h : DkAt code pc [164, a, b]) : decode code pc = .ok (.if_icmp .le (Reader.signed 16 (a.toNat * 256 + b.toNat)), 3) := dk_of ((dk_bind (dk_u1 (h 0 _ rfl))).trans ((dk_bind (dk_map (dk_u2 (h 1 _ rfl) (h 2 _ rfl)))).trans rfl))
theorem dk_167 {code : ByteArray} {pc : Nat} (a b : UInt8) (h : DkAt code pc [167, a, b]) : decode code pc = .ok (.goto (Reader.signed 16 (a.toNat * 256 + b.toNat)), 3) := dk_of ((dk_bind (dk_u1 (h 0 _ rfl))).trans ((dk_bind (dk_map (dk_u2 (h 1 _ rfl) (h 2 _ rfl)))).trans rfl))
theorem dk_172 {code : ByteArray} {pc : Nat} (h : DkAt code pc [172]) : decode code pc = .ok (.ireturn, 1) := dk_of ((dk_bind (dk_u1 (h 0 _ rfl))).trans rfl)
theorem dk_173 {code : ByteArray} {pc : Nat} (h : DkAt code pc [173]) : decode code pc = .ok (.lreturn, 1) := dk_of ((dk_bind (dk_u1 (h 0 _ rfl))).trans rfl)
theorem dk_182 {code : ByteArray} {pc : Nat} (a b : UInt8) (h : DkAt code pc [182, a, b]) : decode code pc = .ok (.invokevirtual (a.toNat * 256 + b.toNat), 3) := dk_of ((dk_bind (dk_u1 (h 0 _ rfl))).trans ((dk_bind (dk_u2 (h 1 _ rfl) (h 2 _ rfl))).trans rfl))
theorem dk_183 {code : ByteArray} {pc : Nat} (a b : UInt8) (h : DkAt code pc [183, a, b]) : decode code pc = .ok (.invokespecial (a.toNat * 256 + b.toNat), 3) := dk_of ((dk_bind (dk_u1 (h 0 _ rfl))).trans ((dk_bind (dk_u2 (h 1 _ rfl) (h 2 _ rfl))).trans rfl))
theorem dk_184 {code : ByteArray} {pc : Nat} (a b : UInt8) (h : DkAt code pc [184, a, b]) : decode code pc = .ok (.invokestatic (a.toNat * 256 + b.toNat), 3) := dk_of ((dk_bind (dk_u1 (h 0 _ rfl))).trans ((dk_bind (dk_u2 (h 1 _ rfl) (h 2 _ rfl))).trans rfl))
theorem dk_187 {code : ByteArray} {pc : Nat} (a b : UInt8) (h : DkAt code pc [187, a, b]) : decode code pc = .ok (.new (a.toNat * 256 + b.toNat), 3) := dk_of ((dk_bind (dk_u1 (h 0 _ rfl))).trans ((dk_bind (dk_u2 (h 1 _ rfl) (h 2 _ rfl))).trans rfl))
theorem dk_188_10 {code : ByteArray} {pc : Nat} (h : DkAt code pc [188, 10]) : decode code pc = .ok (.newarray .int, 2) := dk_of ((dk_bind (dk_u1 (h 0 _ rfl))).trans ((dk_bind (dk_u1 (h 1 _ rfl))).trans rfl))
theorem dk_190 {code : ByteArray} {pc : Nat} (h : DkAt code pc [190]) : decode code pc = .ok (.arraylength, 1) := dk_of ((dk_bind (dk_u1 (h 0 _ rfl))).trans rfl)
end
section
/-! java/lang/Integer -/
set_option maxRecDepth 100000
def RJ0 : String := "java/lang/Integer"
abbrev cJ0_numberOfLeadingZeros : ByteArray := prog_4_method_47_code
def yJ0_numberOfLeadingZeros : MethodName := ⟨RJ0, "numberOfLeadingZeros", "(I)I"⟩
def dkwJ0_numberOfLeadingZeros_3 : List UInt8 := [5, 124, 59, 27, 26, 4, 124, 100, 172]
abbrev dktJ0_numberOfLeadingZeros_3 : List UInt8 := dkwJ0_numberOfLeadingZeros_3 ++ []
def dkwJ0_numberOfLeadingZeros_2 : List UInt8 := [124, 59, 26, 16, 16, 161, 0, 10, 132, 1, 252, 26, 7, 124, 59, 26, 7, 161, 0, 10, 132, 1, 254, 26]
abbrev dktJ0_numberOfLeadingZeros_2 : List UInt8 := dkwJ0_numberOfLeadingZeros_2 ++ dktJ0_numberOfLeadingZeros_3
def dkwJ0_numberOfLeadingZeros_1 : List UInt8 := [161, 0, 11, 132, 1, 240, 26, 16, 16, 124, 59, 26, 17, 1, 0, 161, 0, 11, 132, 1, 248, 26, 16, 8]
abbrev dktJ0_numberOfLeadingZeros_1 : List UInt8 := dkwJ0_numberOfLeadingZeros_1 ++ dktJ0_numberOfLeadingZeros_2
def dkwJ0_numberOfLeadingZeros_0 : List UInt8 := [26, 157, 0, 14, 26, 154, 0, 8, 16, 32, 167, 0, 4, 3, 172, 16, 31, 60, 26, 19, 1, 8]
abbrev dktJ0_numberOfLeadingZeros_0 : List UInt8 := dkwJ0_numberOfLeadingZeros_0 ++ dktJ0_numberOfLeadingZeros_1
theorem dksJ0_numberOfLeadingZeros_0 : cJ0_numberOfLeadingZeros.data.toList.drop 0 = dktJ0_numberOfLeadingZeros_0 := by decide +kernel
theorem dksJ0_numberOfLeadingZeros_1 : cJ0_numberOfLeadingZeros.data.toList.drop 22 = dktJ0_numberOfLeadingZeros_1 := dk_seg dksJ0_numberOfLeadingZeros_0 22 rfl rfl
theorem dksJ0_numberOfLeadingZeros_2 : cJ0_numberOfLeadingZeros.data.toList.drop 46 = dktJ0_numberOfLeadingZeros_2 := dk_seg dksJ0_numberOfLeadingZeros_1 24 rfl rfl
theorem dksJ0_numberOfLeadingZeros_3 : cJ0_numberOfLeadingZeros.data.toList.drop 70 = dktJ0_numberOfLeadingZeros_3 := dk_seg dksJ0_numberOfLeadingZeros_2 24 rfl rfl
theorem dJ0_numberOfLeadingZeros_0 : decode cJ0_numberOfLeadingZeros 0 = .ok (.iload_n 0, 1) := dk_26 (dk_at dksJ0_numberOfLeadingZeros_0 0 rfl rfl)
theorem dJ0_numberOfLeadingZeros_1 : decode cJ0_numberOfLeadingZeros 1 = .ok (.ifCond .gt 14, 3) := dk_157 0 14 (dk_at dksJ0_numberOfLeadingZeros_0 1 rfl rfl)
theorem dJ0_numberOfLeadingZeros_4 : decode cJ0_numberOfLeadingZeros 4 = .ok (.iload_n 0, 1) := dk_26 (dk_at dksJ0_numberOfLeadingZeros_0 4 rfl rfl)
theorem dJ0_numberOfLeadingZeros_5 : decode cJ0_numberOfLeadingZeros 5 = .ok (.ifCond .ne 8, 3) := dk_154 0 8 (dk_at dksJ0_numberOfLeadingZeros_0 5 rfl rfl)
theorem dJ0_numberOfLeadingZeros_8 : decode cJ0_numberOfLeadingZeros 8 = .ok (.bipush 32, 2) := dk_16 32 (dk_at dksJ0_numberOfLeadingZeros_0 8 rfl rfl)
theorem dJ0_numberOfLeadingZeros_10 : decode cJ0_numberOfLeadingZeros 10 = .ok (.goto 4, 3) := dk_167 0 4 (dk_at dksJ0_numberOfLeadingZeros_0 10 rfl rfl)
theorem dJ0_numberOfLeadingZeros_13 : decode cJ0_numberOfLeadingZeros 13 = .ok (.iconst 0, 1) := dk_3 (dk_at dksJ0_numberOfLeadingZeros_0 13 rfl rfl)
theorem dJ0_numberOfLeadingZeros_14 : decode cJ0_numberOfLeadingZeros 14 = .ok (.ireturn, 1) := dk_172 (dk_at dksJ0_numberOfLeadingZeros_0 14 rfl rfl)
theorem dJ0_numberOfLeadingZeros_15 : decode cJ0_numberOfLeadingZeros 15 = .ok (.bipush 31, 2) := dk_16 31 (dk_at dksJ0_numberOfLeadingZeros_0 15 rfl rfl)
theorem dJ0_numberOfLeadingZeros_17 : decode cJ0_numberOfLeadingZeros 17 = .ok (.istore_n 1, 1) := dk_60 (dk_at dksJ0_numberOfLeadingZeros_0 17 rfl rfl)
theorem dJ0_numberOfLeadingZeros_18 : decode cJ0_numberOfLeadingZeros 18 = .ok (.iload_n 0, 1) := dk_26 (dk_at dksJ0_numberOfLeadingZeros_0 18 rfl rfl)
theorem dJ0_numberOfLeadingZeros_19 : decode cJ0_numberOfLeadingZeros 19 = .ok (.ldc_w 264, 3) := dk_19 1 8 (dk_at dksJ0_numberOfLeadingZeros_0 19 rfl rfl)
theorem dJ0_numberOfLeadingZeros_22 : decode cJ0_numberOfLeadingZeros 22 = .ok (.if_icmp .lt 11, 3) := dk_161 0 11 (dk_at dksJ0_numberOfLeadingZeros_1 0 rfl rfl)
theorem dJ0_numberOfLeadingZeros_25 : decode cJ0_numberOfLeadingZeros 25 = .ok (.iinc 1 (-16), 3) := dk_132 1 240 (dk_at dksJ0_numberOfLeadingZeros_1 3 rfl rfl)
theorem dJ0_numberOfLeadingZeros_28 : decode cJ0_numberOfLeadingZeros 28 = .ok (.iload_n 0, 1) := dk_26 (dk_at dksJ0_numberOfLeadingZeros_1 6 rfl rfl)
theorem dJ0_numberOfLeadingZeros_29 : decode cJ0_numberOfLeadingZeros 29 = .ok (.bipush 16, 2) := dk_16 16 (dk_at dksJ0_numberOfLeadingZeros_1 7 rfl rfl)
theorem dJ0_numberOfLeadingZeros_31 : decode cJ0_numberOfLeadingZeros 31 = .ok (.iushr, 1) := dk_124 (dk_at dksJ0_numberOfLeadingZeros_1 9 rfl rfl)
theorem dJ0_numberOfLeadingZeros_32 : decode cJ0_numberOfLeadingZeros 32 = .ok (.istore_n 0, 1) := dk_59 (dk_at dksJ0_numberOfLeadingZeros_1 10 rfl rfl)
theorem dJ0_numberOfLeadingZeros_33 : decode cJ0_numberOfLeadingZeros 33 = .ok (.iload_n 0, 1) := dk_26 (dk_at dksJ0_numberOfLeadingZeros_1 11 rfl rfl)
theorem dJ0_numberOfLeadingZeros_34 : decode cJ0_numberOfLeadingZeros 34 = .ok (.sipush 256, 3) := dk_17 1 0 (dk_at dksJ0_numberOfLeadingZeros_1 12 rfl rfl)
theorem dJ0_numberOfLeadingZeros_37 : decode cJ0_numberOfLeadingZeros 37 = .ok (.if_icmp .lt 11, 3) := dk_161 0 11 (dk_at dksJ0_numberOfLeadingZeros_1 15 rfl rfl)
theorem dJ0_numberOfLeadingZeros_40 : decode cJ0_numberOfLeadingZeros 40 = .ok (.iinc 1 (-8), 3) := dk_132 1 248 (dk_at dksJ0_numberOfLeadingZeros_1 18 rfl rfl)
theorem dJ0_numberOfLeadingZeros_43 : decode cJ0_numberOfLeadingZeros 43 = .ok (.iload_n 0, 1) := dk_26 (dk_at dksJ0_numberOfLeadingZeros_1 21 rfl rfl)
theorem dJ0_numberOfLeadingZeros_44 : decode cJ0_numberOfLeadingZeros 44 = .ok (.bipush 8, 2) := dk_16 8 (dk_at dksJ0_numberOfLeadingZeros_1 22 rfl rfl)
theorem dJ0_numberOfLeadingZeros_46 : decode cJ0_numberOfLeadingZeros 46 = .ok (.iushr, 1) := dk_124 (dk_at dksJ0_numberOfLeadingZeros_2 0 rfl rfl)
theorem dJ0_numberOfLeadingZeros_47 : decode cJ0_numberOfLeadingZeros 47 = .ok (.istore_n 0, 1) := dk_59 (dk_at dksJ0_numberOfLeadingZeros_2 1 rfl rfl)
theorem dJ0_numberOfLeadingZeros_48 : decode cJ0_numberOfLeadingZeros 48 = .ok (.iload_n 0, 1) := dk_26 (dk_at dksJ0_numberOfLeadingZeros_2 2 rfl rfl)
theorem dJ0_numberOfLeadingZeros_49 : decode cJ0_numberOfLeadingZeros 49 = .ok (.bipush 16, 2) := dk_16 16 (dk_at dksJ0_numberOfLeadingZeros_2 3 rfl rfl)
theorem dJ0_numberOfLeadingZeros_51 : decode cJ0_numberOfLeadingZeros 51 = .ok (.if_icmp .lt 10, 3) := dk_161 0 10 (dk_at dksJ0_numberOfLeadingZeros_2 5 rfl rfl)
theorem dJ0_numberOfLeadingZeros_54 : decode cJ0_numberOfLeadingZeros 54 = .ok (.iinc 1 (-4), 3) := dk_132 1 252 (dk_at dksJ0_numberOfLeadingZeros_2 8 rfl rfl)
theorem dJ0_numberOfLeadingZeros_57 : decode cJ0_numberOfLeadingZeros 57 = .ok (.iload_n 0, 1) := dk_26 (dk_at dksJ0_numberOfLeadingZeros_2 11 rfl rfl)
theorem dJ0_numberOfLeadingZeros_58 : decode cJ0_numberOfLeadingZeros 58 = .ok (.iconst 4, 1) := dk_7 (dk_at dksJ0_numberOfLeadingZeros_2 12 rfl rfl)
theorem dJ0_numberOfLeadingZeros_59 : decode cJ0_numberOfLeadingZeros 59 = .ok (.iushr, 1) := dk_124 (dk_at dksJ0_numberOfLeadingZeros_2 13 rfl rfl)
theorem dJ0_numberOfLeadingZeros_60 : decode cJ0_numberOfLeadingZeros 60 = .ok (.istore_n 0, 1) := dk_59 (dk_at dksJ0_numberOfLeadingZeros_2 14 rfl rfl)
theorem dJ0_numberOfLeadingZeros_61 : decode cJ0_numberOfLeadingZeros 61 = .ok (.iload_n 0, 1) := dk_26 (dk_at dksJ0_numberOfLeadingZeros_2 15 rfl rfl)
theorem dJ0_numberOfLeadingZeros_62 : decode cJ0_numberOfLeadingZeros 62 = .ok (.iconst 4, 1) := dk_7 (dk_at dksJ0_numberOfLeadingZeros_2 16 rfl rfl)
theorem dJ0_numberOfLeadingZeros_63 : decode cJ0_numberOfLeadingZeros 63 = .ok (.if_icmp .lt 10, 3) := dk_161 0 10 (dk_at dksJ0_numberOfLeadingZeros_2 17 rfl rfl)
theorem dJ0_numberOfLeadingZeros_66 : decode cJ0_numberOfLeadingZeros 66 = .ok (.iinc 1 (-2), 3) := dk_132 1 254 (dk_at dksJ0_numberOfLeadingZeros_2 20 rfl rfl)
theorem dJ0_numberOfLeadingZeros_69 : decode cJ0_numberOfLeadingZeros 69 = .ok (.iload_n 0, 1) := dk_26 (dk_at dksJ0_numberOfLeadingZeros_2 23 rfl rfl)
theorem dJ0_numberOfLeadingZeros_70 : decode cJ0_numberOfLeadingZeros 70 = .ok (.iconst 2, 1) := dk_5 (dk_at dksJ0_numberOfLeadingZeros_3 0 rfl rfl)
theorem dJ0_numberOfLeadingZeros_71 : decode cJ0_numberOfLeadingZeros 71 = .ok (.iushr, 1) := dk_124 (dk_at dksJ0_numberOfLeadingZeros_3 1 rfl rfl)
theorem dJ0_numberOfLeadingZeros_72 : decode cJ0_numberOfLeadingZeros 72 = .ok (.istore_n 0, 1) := dk_59 (dk_at dksJ0_numberOfLeadingZeros_3 2 rfl rfl)
theorem dJ0_numberOfLeadingZeros_73 : decode cJ0_numberOfLeadingZeros 73 = .ok (.iload_n 1, 1) := dk_27 (dk_at dksJ0_numberOfLeadingZeros_3 3 rfl rfl)
theorem dJ0_numberOfLeadingZeros_74 : decode cJ0_numberOfLeadingZeros 74 = .ok (.iload_n 0, 1) := dk_26 (dk_at dksJ0_numberOfLeadingZeros_3 4 rfl rfl)
theorem dJ0_numberOfLeadingZeros_75 : decode cJ0_numberOfLeadingZeros 75 = .ok (.iconst 1, 1) := dk_4 (dk_at dksJ0_numberOfLeadingZeros_3 5 rfl rfl)
theorem dJ0_numberOfLeadingZeros_76 : decode cJ0_numberOfLeadingZeros 76 = .ok (.iushr, 1) := dk_124 (dk_at dksJ0_numberOfLeadingZeros_3 6 rfl rfl)
theorem dJ0_numberOfLeadingZeros_77 : decode cJ0_numberOfLeadingZeros 77 = .ok (.isub, 1) := dk_100 (dk_at dksJ0_numberOfLeadingZeros_3 7 rfl rfl)
theorem dJ0_numberOfLeadingZeros_78 : decode cJ0_numberOfLeadingZeros 78 = .ok (.ireturn, 1) := dk_172 (dk_at dksJ0_numberOfLeadingZeros_3 8 rfl rfl)
theorem q4 : (Jvm.Cond.initialized "java/lang/Integer") ∈ lw_all := lw_g (lw_at lw_m0 4 rfl) rfl
theorem q69 : (Jvm.Cond.static ({ cls := "java/lang/Integer", name := "numberOfLeadingZeros", desc := "(I)I" } : Jvm.MethodName)) ∈ lw_all := lw_g (lw_at lw_m0 69 rfl) rfl
theorem q70 : (Jvm.Cond.code ({ cls := "java/lang/Integer", name := "numberOfLeadingZeros", desc := "(I)I" } : Jvm.MethodName) prog_4_method_47_code (2 : Nat) (Option.some Jvm.ClassFile.FieldType.int)) ∈ lw_all := lw_g (lw_at lw_m0 70 rfl) rfl
theorem q71 : (Jvm.Cond.constant "java/lang/Integer" (264 : Nat) (65536 : Int32)) ∈ lw_all := lw_g (lw_at lw_m0 71 rfl) rfl
/-! java/lang/Long -/
set_option maxRecDepth 100000
def RJ1 : String := "java/lang/Long"
abbrev cJ1_numberOfLeadingZeros : ByteArray := prog_5_method_48_code
def yJ1_numberOfLeadingZeros : MethodName := ⟨RJ1, "numberOfLeadingZeros", "(J)I"⟩
def dkwJ1_numberOfLeadingZeros_1 : List UInt8 := [184, 1, 52, 172]
abbrev dktJ1_numberOfLeadingZeros_1 : List UInt8 := dkwJ1_numberOfLeadingZeros_1 ++ []
def dkwJ1_numberOfLeadingZeros_0 : List UInt8 := [30, 16, 32, 125, 136, 61, 28, 154, 0, 14, 16, 32, 30, 136, 184, 1, 52, 96, 167, 0, 7, 28]
abbrev dktJ1_numberOfLeadingZeros_0 : List UInt8 := dkwJ1_numberOfLeadingZeros_0 ++ dktJ1_numberOfLeadingZeros_1
theorem dksJ1_numberOfLeadingZeros_0 : cJ1_numberOfLeadingZeros.data.toList.drop 0 = dktJ1_numberOfLeadingZeros_0 := by decide +kernel
theorem dksJ1_numberOfLeadingZeros_1 : cJ1_numberOfLeadingZeros.data.toList.drop 22 = dktJ1_numberOfLeadingZeros_1 := dk_seg dksJ1_numberOfLeadingZeros_0 22 rfl rfl
theorem dJ1_numberOfLeadingZeros_0 : decode cJ1_numberOfLeadingZeros 0 = .ok (.lload_n 0, 1) := dk_30 (dk_at dksJ1_numberOfLeadingZeros_0 0 rfl rfl)
theorem dJ1_numberOfLeadingZeros_1 : decode cJ1_numberOfLeadingZeros 1 = .ok (.bipush 32, 2) := dk_16 32 (dk_at dksJ1_numberOfLeadingZeros_0 1 rfl rfl)
theorem dJ1_numberOfLeadingZeros_3 : decode cJ1_numberOfLeadingZeros 3 = .ok (.lushr, 1) := dk_125 (dk_at dksJ1_numberOfLeadingZeros_0 3 rfl rfl)
theorem dJ1_numberOfLeadingZeros_4 : decode cJ1_numberOfLeadingZeros 4 = .ok (.l2i, 1) := dk_136 (dk_at dksJ1_numberOfLeadingZeros_0 4 rfl rfl)
theorem dJ1_numberOfLeadingZeros_5 : decode cJ1_numberOfLeadingZeros 5 = .ok (.istore_n 2, 1) := dk_61 (dk_at dksJ1_numberOfLeadingZeros_0 5 rfl rfl)
theorem dJ1_numberOfLeadingZeros_6 : decode cJ1_numberOfLeadingZeros 6 = .ok (.iload_n 2, 1) := dk_28 (dk_at dksJ1_numberOfLeadingZeros_0 6 rfl rfl)
theorem dJ1_numberOfLeadingZeros_7 : decode cJ1_numberOfLeadingZeros 7 = .ok (.ifCond .ne 14, 3) := dk_154 0 14 (dk_at dksJ1_numberOfLeadingZeros_0 7 rfl rfl)
theorem dJ1_numberOfLeadingZeros_10 : decode cJ1_numberOfLeadingZeros 10 = .ok (.bipush 32, 2) := dk_16 32 (dk_at dksJ1_numberOfLeadingZeros_0 10 rfl rfl)
theorem dJ1_numberOfLeadingZeros_12 : decode cJ1_numberOfLeadingZeros 12 = .ok (.lload_n 0, 1) := dk_30 (dk_at dksJ1_numberOfLeadingZeros_0 12 rfl rfl)
theorem dJ1_numberOfLeadingZeros_13 : decode cJ1_numberOfLeadingZeros 13 = .ok (.l2i, 1) := dk_136 (dk_at dksJ1_numberOfLeadingZeros_0 13 rfl rfl)
theorem dJ1_numberOfLeadingZeros_14 : decode cJ1_numberOfLeadingZeros 14 = .ok (.invokestatic 308, 3) := dk_184 1 52 (dk_at dksJ1_numberOfLeadingZeros_0 14 rfl rfl)
theorem dJ1_numberOfLeadingZeros_17 : decode cJ1_numberOfLeadingZeros 17 = .ok (.iadd, 1) := dk_96 (dk_at dksJ1_numberOfLeadingZeros_0 17 rfl rfl)
theorem dJ1_numberOfLeadingZeros_18 : decode cJ1_numberOfLeadingZeros 18 = .ok (.goto 7, 3) := dk_167 0 7 (dk_at dksJ1_numberOfLeadingZeros_0 18 rfl rfl)
theorem dJ1_numberOfLeadingZeros_21 : decode cJ1_numberOfLeadingZeros 21 = .ok (.iload_n 2, 1) := dk_28 (dk_at dksJ1_numberOfLeadingZeros_0 21 rfl rfl)
theorem dJ1_numberOfLeadingZeros_22 : decode cJ1_numberOfLeadingZeros 22 = .ok (.invokestatic 308, 3) := dk_184 1 52 (dk_at dksJ1_numberOfLeadingZeros_1 0 rfl rfl)
theorem dJ1_numberOfLeadingZeros_25 : decode cJ1_numberOfLeadingZeros 25 = .ok (.ireturn, 1) := dk_172 (dk_at dksJ1_numberOfLeadingZeros_1 3 rfl rfl)
theorem q5 : (Jvm.Cond.initialized "java/lang/Long") ∈ lw_all := lw_g (lw_at lw_m0 5 rfl) rfl
theorem q82 : (Jvm.Cond.static ({ cls := "java/lang/Long", name := "numberOfLeadingZeros", desc := "(J)I" } : Jvm.MethodName)) ∈ lw_all := lw_g (lw_at lw_m0 82 rfl) rfl
theorem q83 : (Jvm.Cond.code ({ cls := "java/lang/Long", name := "numberOfLeadingZeros", desc := "(J)I" } : Jvm.MethodName) prog_5_method_48_code (3 : Nat) (Option.some Jvm.ClassFile.FieldType.int)) ∈ lw_all := lw_g (lw_at lw_m0 83 rfl) rfl
theorem q84 : (Jvm.Cond.methodLink "java/lang/Long" (308 : Nat) ({ cls := "java/lang/Integer", name := "numberOfLeadingZeros", desc := "(I)I" } : Jvm.MethodName)) ∈ lw_all := lw_g (lw_at lw_m0 84 rfl) rfl
/-! java/lang/Object -/
set_option maxRecDepth 100000
def RJ2 : String := "java/lang/Object"
abbrev cJ2_init : ByteArray := object_method_1_code
def yJ2_init : MethodName := ⟨RJ2, "<init>", "()V"⟩
theorem dJ2_init_0 : decode cJ2_init 0 = .ok (.return_, 1) := by decide +kernel
theorem q15 : (Jvm.Cond.instanceMethod ({ cls := "java/lang/Object", name := "<init>", desc := "()V" } : Jvm.MethodName)) ∈ lw_all := lw_g (lw_at lw_m0 15 rfl) rfl
theorem q16 : (Jvm.Cond.code ({ cls := "java/lang/Object", name := "<init>", desc := "()V" } : Jvm.MethodName) object_method_1_code (1 : Nat) (Option.none : Option Jvm.ClassFile.FieldType)) ∈ lw_all := lw_g (lw_at lw_m0 16 rfl) rfl
theorem q3 : (Jvm.Cond.initialized "java/lang/Number") ∈ lw_all := lw_g (lw_at lw_m0 3 rfl) rfl
set_option maxRecDepth 100000
theorem q130 : (Jvm.Cond.arrayClass Jvm.ClassFile.FieldType.int) ∈ lw_all := lw_g (lw_at lw_m0 130 rfl) rfl
set_option maxRecDepth 100000
/-! HashCommon -/
set_option maxRecDepth 100000
def RX2 : String := "HashCommon"
abbrev cX2_mix : ByteArray := prog_1_method_3_code
def yX2_mix : MethodName := ⟨RX2, "mix", "(I)I"⟩
def dkwX2_mix_0 : List UInt8 := [26, 18, 9, 104, 60, 27, 27, 16, 16, 124, 130, 172]
abbrev dktX2_mix_0 : List UInt8 := dkwX2_mix_0 ++ []
theorem dksX2_mix_0 : cX2_mix.data.toList.drop 0 = dktX2_mix_0 := by decide +kernel
theorem dX2_mix_0 : decode cX2_mix 0 = .ok (.iload_n 0, 1) := dk_26 (dk_at dksX2_mix_0 0 rfl rfl)
theorem dX2_mix_1 : decode cX2_mix 1 = .ok (.ldc 9, 2) := dk_18 9 (dk_at dksX2_mix_0 1 rfl rfl)
theorem dX2_mix_3 : decode cX2_mix 3 = .ok (.imul, 1) := dk_104 (dk_at dksX2_mix_0 3 rfl rfl)
theorem dX2_mix_4 : decode cX2_mix 4 = .ok (.istore_n 1, 1) := dk_60 (dk_at dksX2_mix_0 4 rfl rfl)
theorem dX2_mix_5 : decode cX2_mix 5 = .ok (.iload_n 1, 1) := dk_27 (dk_at dksX2_mix_0 5 rfl rfl)
theorem dX2_mix_6 : decode cX2_mix 6 = .ok (.iload_n 1, 1) := dk_27 (dk_at dksX2_mix_0 6 rfl rfl)
theorem dX2_mix_7 : decode cX2_mix 7 = .ok (.bipush 16, 2) := dk_16 16 (dk_at dksX2_mix_0 7 rfl rfl)
theorem dX2_mix_9 : decode cX2_mix 9 = .ok (.iushr, 1) := dk_124 (dk_at dksX2_mix_0 9 rfl rfl)
theorem dX2_mix_10 : decode cX2_mix 10 = .ok (.ixor, 1) := dk_130 (dk_at dksX2_mix_0 10 rfl rfl)
theorem dX2_mix_11 : decode cX2_mix 11 = .ok (.ireturn, 1) := dk_172 (dk_at dksX2_mix_0 11 rfl rfl)
abbrev cX2_invMix : ByteArray := prog_1_method_4_code
def yX2_invMix : MethodName := ⟨RX2, "invMix", "(I)I"⟩
def dkwX2_invMix_0 : List UInt8 := [26, 26, 16, 16, 124, 130, 18, 10, 104, 172]
abbrev dktX2_invMix_0 : List UInt8 := dkwX2_invMix_0 ++ []
theorem dksX2_invMix_0 : cX2_invMix.data.toList.drop 0 = dktX2_invMix_0 := by decide +kernel
theorem dX2_invMix_0 : decode cX2_invMix 0 = .ok (.iload_n 0, 1) := dk_26 (dk_at dksX2_invMix_0 0 rfl rfl)
theorem dX2_invMix_1 : decode cX2_invMix 1 = .ok (.iload_n 0, 1) := dk_26 (dk_at dksX2_invMix_0 1 rfl rfl)
theorem dX2_invMix_2 : decode cX2_invMix 2 = .ok (.bipush 16, 2) := dk_16 16 (dk_at dksX2_invMix_0 2 rfl rfl)
theorem dX2_invMix_4 : decode cX2_invMix 4 = .ok (.iushr, 1) := dk_124 (dk_at dksX2_invMix_0 4 rfl rfl)
theorem dX2_invMix_5 : decode cX2_invMix 5 = .ok (.ixor, 1) := dk_130 (dk_at dksX2_invMix_0 5 rfl rfl)
theorem dX2_invMix_6 : decode cX2_invMix 6 = .ok (.ldc 10, 2) := dk_18 10 (dk_at dksX2_invMix_0 6 rfl rfl)
theorem dX2_invMix_8 : decode cX2_invMix 8 = .ok (.imul, 1) := dk_104 (dk_at dksX2_invMix_0 8 rfl rfl)
theorem dX2_invMix_9 : decode cX2_invMix 9 = .ok (.ireturn, 1) := dk_172 (dk_at dksX2_invMix_0 9 rfl rfl)
abbrev cX2_mix_2 : ByteArray := prog_1_method_5_code
def yX2_mix_2 : MethodName := ⟨RX2, "mix", "(J)J"⟩
def dkwX2_mix_2_0 : List UInt8 := [30, 20, 0, 11, 105, 65, 32, 32, 16, 32, 125, 131, 65, 32, 32, 16, 16, 125, 131, 173]
abbrev dktX2_mix_2_0 : List UInt8 := dkwX2_mix_2_0 ++ []
theorem dksX2_mix_2_0 : cX2_mix_2.data.toList.drop 0 = dktX2_mix_2_0 := by decide +kernel
theorem dX2_mix_2_0 : decode cX2_mix_2 0 = .ok (.lload_n 0, 1) := dk_30 (dk_at dksX2_mix_2_0 0 rfl rfl)
theorem dX2_mix_2_1 : decode cX2_mix_2 1 = .ok (.ldc2_w 11, 3) := dk_20 0 11 (dk_at dksX2_mix_2_0 1 rfl rfl)
theorem dX2_mix_2_4 : decode cX2_mix_2 4 = .ok (.lmul, 1) := dk_105 (dk_at dksX2_mix_2_0 4 rfl rfl)
theorem dX2_mix_2_5 : decode cX2_mix_2 5 = .ok (.lstore_n 2, 1) := dk_65 (dk_at dksX2_mix_2_0 5 rfl rfl)
theorem dX2_mix_2_6 : decode cX2_mix_2 6 = .ok (.lload_n 2, 1) := dk_32 (dk_at dksX2_mix_2_0 6 rfl rfl)
theorem dX2_mix_2_7 : decode cX2_mix_2 7 = .ok (.lload_n 2, 1) := dk_32 (dk_at dksX2_mix_2_0 7 rfl rfl)
theorem dX2_mix_2_8 : decode cX2_mix_2 8 = .ok (.bipush 32, 2) := dk_16 32 (dk_at dksX2_mix_2_0 8 rfl rfl)
theorem dX2_mix_2_10 : decode cX2_mix_2 10 = .ok (.lushr, 1) := dk_125 (dk_at dksX2_mix_2_0 10 rfl rfl)
theorem dX2_mix_2_11 : decode cX2_mix_2 11 = .ok (.lxor, 1) := dk_131 (dk_at dksX2_mix_2_0 11 rfl rfl)
theorem dX2_mix_2_12 : decode cX2_mix_2 12 = .ok (.lstore_n 2, 1) := dk_65 (dk_at dksX2_mix_2_0 12 rfl rfl)
theorem dX2_mix_2_13 : decode cX2_mix_2 13 = .ok (.lload_n 2, 1) := dk_32 (dk_at dksX2_mix_2_0 13 rfl rfl)
theorem dX2_mix_2_14 : decode cX2_mix_2 14 = .ok (.lload_n 2, 1) := dk_32 (dk_at dksX2_mix_2_0 14 rfl rfl)
theorem dX2_mix_2_15 : decode cX2_mix_2 15 = .ok (.bipush 16, 2) := dk_16 16 (dk_at dksX2_mix_2_0 15 rfl rfl)
theorem dX2_mix_2_17 : decode cX2_mix_2 17 = .ok (.lushr, 1) := dk_125 (dk_at dksX2_mix_2_0 17 rfl rfl)
theorem dX2_mix_2_18 : decode cX2_mix_2 18 = .ok (.lxor, 1) := dk_131 (dk_at dksX2_mix_2_0 18 rfl rfl)
theorem dX2_mix_2_19 : decode cX2_mix_2 19 = .ok (.lreturn, 1) := dk_173 (dk_at dksX2_mix_2_0 19 rfl rfl)
abbrev cX2_invMix_2 : ByteArray := prog_1_method_6_code
def yX2_invMix_2 : MethodName := ⟨RX2, "invMix", "(J)J"⟩
def dkwX2_invMix_2_1 : List UInt8 := [173]
abbrev dktX2_invMix_2_1 : List UInt8 := dkwX2_invMix_2_1 ++ []
def dkwX2_invMix_2_0 : List UInt8 := [30, 30, 16, 32, 125, 131, 63, 30, 30, 16, 16, 125, 131, 63, 30, 30, 16, 32, 125, 131, 20, 0, 13, 105]
abbrev dktX2_invMix_2_0 : List UInt8 := dkwX2_invMix_2_0 ++ dktX2_invMix_2_1
theorem dksX2_invMix_2_0 : cX2_invMix_2.data.toList.drop 0 = dktX2_invMix_2_0 := by decide +kernel
theorem dksX2_invMix_2_1 : cX2_invMix_2.data.toList.drop 24 = dktX2_invMix_2_1 := dk_seg dksX2_invMix_2_0 24 rfl rfl
theorem dX2_invMix_2_0 : decode cX2_invMix_2 0 = .ok (.lload_n 0, 1) := dk_30 (dk_at dksX2_invMix_2_0 0 rfl rfl)
theorem dX2_invMix_2_1 : decode cX2_invMix_2 1 = .ok (.lload_n 0, 1) := dk_30 (dk_at dksX2_invMix_2_0 1 rfl rfl)
theorem dX2_invMix_2_2 : decode cX2_invMix_2 2 = .ok (.bipush 32, 2) := dk_16 32 (dk_at dksX2_invMix_2_0 2 rfl rfl)
theorem dX2_invMix_2_4 : decode cX2_invMix_2 4 = .ok (.lushr, 1) := dk_125 (dk_at dksX2_invMix_2_0 4 rfl rfl)
theorem dX2_invMix_2_5 : decode cX2_invMix_2 5 = .ok (.lxor, 1) := dk_131 (dk_at dksX2_invMix_2_0 5 rfl rfl)
theorem dX2_invMix_2_6 : decode cX2_invMix_2 6 = .ok (.lstore_n 0, 1) := dk_63 (dk_at dksX2_invMix_2_0 6 rfl rfl)
theorem dX2_invMix_2_7 : decode cX2_invMix_2 7 = .ok (.lload_n 0, 1) := dk_30 (dk_at dksX2_invMix_2_0 7 rfl rfl)
theorem dX2_invMix_2_8 : decode cX2_invMix_2 8 = .ok (.lload_n 0, 1) := dk_30 (dk_at dksX2_invMix_2_0 8 rfl rfl)
theorem dX2_invMix_2_9 : decode cX2_invMix_2 9 = .ok (.bipush 16, 2) := dk_16 16 (dk_at dksX2_invMix_2_0 9 rfl rfl)
theorem dX2_invMix_2_11 : decode cX2_invMix_2 11 = .ok (.lushr, 1) := dk_125 (dk_at dksX2_invMix_2_0 11 rfl rfl)
theorem dX2_invMix_2_12 : decode cX2_invMix_2 12 = .ok (.lxor, 1) := dk_131 (dk_at dksX2_invMix_2_0 12 rfl rfl)
theorem dX2_invMix_2_13 : decode cX2_invMix_2 13 = .ok (.lstore_n 0, 1) := dk_63 (dk_at dksX2_invMix_2_0 13 rfl rfl)
theorem dX2_invMix_2_14 : decode cX2_invMix_2 14 = .ok (.lload_n 0, 1) := dk_30 (dk_at dksX2_invMix_2_0 14 rfl rfl)
theorem dX2_invMix_2_15 : decode cX2_invMix_2 15 = .ok (.lload_n 0, 1) := dk_30 (dk_at dksX2_invMix_2_0 15 rfl rfl)
theorem dX2_invMix_2_16 : decode cX2_invMix_2 16 = .ok (.bipush 32, 2) := dk_16 32 (dk_at dksX2_invMix_2_0 16 rfl rfl)
theorem dX2_invMix_2_18 : decode cX2_invMix_2 18 = .ok (.lushr, 1) := dk_125 (dk_at dksX2_invMix_2_0 18 rfl rfl)
theorem dX2_invMix_2_19 : decode cX2_invMix_2 19 = .ok (.lxor, 1) := dk_131 (dk_at dksX2_invMix_2_0 19 rfl rfl)
theorem dX2_invMix_2_20 : decode cX2_invMix_2 20 = .ok (.ldc2_w 13, 3) := dk_20 0 13 (dk_at dksX2_invMix_2_0 20 rfl rfl)
theorem dX2_invMix_2_23 : decode cX2_invMix_2 23 = .ok (.lmul, 1) := dk_105 (dk_at dksX2_invMix_2_0 23 rfl rfl)
theorem dX2_invMix_2_24 : decode cX2_invMix_2 24 = .ok (.lreturn, 1) := dk_173 (dk_at dksX2_invMix_2_1 0 rfl rfl)
abbrev cX2_nextPowerOfTwo : ByteArray := prog_1_method_7_code
def yX2_nextPowerOfTwo : MethodName := ⟨RX2, "nextPowerOfTwo", "(I)I"⟩
def dkwX2_nextPowerOfTwo_0 : List UInt8 := [4, 16, 32, 26, 4, 100, 184, 0, 15, 100, 120, 172]
abbrev dktX2_nextPowerOfTwo_0 : List UInt8 := dkwX2_nextPowerOfTwo_0 ++ []
theorem dksX2_nextPowerOfTwo_0 : cX2_nextPowerOfTwo.data.toList.drop 0 = dktX2_nextPowerOfTwo_0 := by decide +kernel
theorem dX2_nextPowerOfTwo_0 : decode cX2_nextPowerOfTwo 0 = .ok (.iconst 1, 1) := dk_4 (dk_at dksX2_nextPowerOfTwo_0 0 rfl rfl)
theorem dX2_nextPowerOfTwo_1 : decode cX2_nextPowerOfTwo 1 = .ok (.bipush 32, 2) := dk_16 32 (dk_at dksX2_nextPowerOfTwo_0 1 rfl rfl)
theorem dX2_nextPowerOfTwo_3 : decode cX2_nextPowerOfTwo 3 = .ok (.iload_n 0, 1) := dk_26 (dk_at dksX2_nextPowerOfTwo_0 3 rfl rfl)
theorem dX2_nextPowerOfTwo_4 : decode cX2_nextPowerOfTwo 4 = .ok (.iconst 1, 1) := dk_4 (dk_at dksX2_nextPowerOfTwo_0 4 rfl rfl)
theorem dX2_nextPowerOfTwo_5 : decode cX2_nextPowerOfTwo 5 = .ok (.isub, 1) := dk_100 (dk_at dksX2_nextPowerOfTwo_0 5 rfl rfl)
theorem dX2_nextPowerOfTwo_6 : decode cX2_nextPowerOfTwo 6 = .ok (.invokestatic 15, 3) := dk_184 0 15 (dk_at dksX2_nextPowerOfTwo_0 6 rfl rfl)
theorem dX2_nextPowerOfTwo_9 : decode cX2_nextPowerOfTwo 9 = .ok (.isub, 1) := dk_100 (dk_at dksX2_nextPowerOfTwo_0 9 rfl rfl)
theorem dX2_nextPowerOfTwo_10 : decode cX2_nextPowerOfTwo 10 = .ok (.ishl, 1) := dk_120 (dk_at dksX2_nextPowerOfTwo_0 10 rfl rfl)
theorem dX2_nextPowerOfTwo_11 : decode cX2_nextPowerOfTwo 11 = .ok (.ireturn, 1) := dk_172 (dk_at dksX2_nextPowerOfTwo_0 11 rfl rfl)
abbrev cX2_nextPowerOfTwo_2 : ByteArray := prog_1_method_8_code
def yX2_nextPowerOfTwo_2 : MethodName := ⟨RX2, "nextPowerOfTwo", "(J)J"⟩
def dkwX2_nextPowerOfTwo_2_0 : List UInt8 := [10, 16, 64, 30, 10, 101, 184, 0, 21, 100, 121, 173]
abbrev dktX2_nextPowerOfTwo_2_0 : List UInt8 := dkwX2_nextPowerOfTwo_2_0 ++ []
theorem dksX2_nextPowerOfTwo_2_0 : cX2_nextPowerOfTwo_2.data.toList.drop 0 = dktX2_nextPowerOfTwo_2_0 := by decide +kernel
theorem dX2_nextPowerOfTwo_2_0 : decode cX2_nextPowerOfTwo_2 0 = .ok (.lconst 1, 1) := dk_10 (dk_at dksX2_nextPowerOfTwo_2_0 0 rfl rfl)
theorem dX2_nextPowerOfTwo_2_1 : decode cX2_nextPowerOfTwo_2 1 = .ok (.bipush 64, 2) := dk_16 64 (dk_at dksX2_nextPowerOfTwo_2_0 1 rfl rfl)
theorem dX2_nextPowerOfTwo_2_3 : decode cX2_nextPowerOfTwo_2 3 = .ok (.lload_n 0, 1) := dk_30 (dk_at dksX2_nextPowerOfTwo_2_0 3 rfl rfl)
theorem dX2_nextPowerOfTwo_2_4 : decode cX2_nextPowerOfTwo_2 4 = .ok (.lconst 1, 1) := dk_10 (dk_at dksX2_nextPowerOfTwo_2_0 4 rfl rfl)
theorem dX2_nextPowerOfTwo_2_5 : decode cX2_nextPowerOfTwo_2 5 = .ok (.lsub, 1) := dk_101 (dk_at dksX2_nextPowerOfTwo_2_0 5 rfl rfl)
theorem dX2_nextPowerOfTwo_2_6 : decode cX2_nextPowerOfTwo_2 6 = .ok (.invokestatic 21, 3) := dk_184 0 21 (dk_at dksX2_nextPowerOfTwo_2_0 6 rfl rfl)
theorem dX2_nextPowerOfTwo_2_9 : decode cX2_nextPowerOfTwo_2 9 = .ok (.isub, 1) := dk_100 (dk_at dksX2_nextPowerOfTwo_2_0 9 rfl rfl)
theorem dX2_nextPowerOfTwo_2_10 : decode cX2_nextPowerOfTwo_2 10 = .ok (.lshl, 1) := dk_121 (dk_at dksX2_nextPowerOfTwo_2_0 10 rfl rfl)
theorem dX2_nextPowerOfTwo_2_11 : decode cX2_nextPowerOfTwo_2 11 = .ok (.lreturn, 1) := dk_173 (dk_at dksX2_nextPowerOfTwo_2_0 11 rfl rfl)
abbrev cX2_murmurHash3 : ByteArray := prog_1_method_1_code
def yX2_murmurHash3 : MethodName := ⟨RX2, "murmurHash3", "(I)I"⟩
def dkwX2_murmurHash3_1 : List UInt8 := [26, 26, 16, 16, 124, 130, 59, 26, 172]
abbrev dktX2_murmurHash3_1 : List UInt8 := dkwX2_murmurHash3_1 ++ []
def dkwX2_murmurHash3_0 : List UInt8 := [26, 26, 16, 16, 124, 130, 59, 26, 18, 1, 104, 59, 26, 26, 16, 13, 124, 130, 59, 26, 18, 2, 104, 59]
abbrev dktX2_murmurHash3_0 : List UInt8 := dkwX2_murmurHash3_0 ++ dktX2_murmurHash3_1
theorem dksX2_murmurHash3_0 : cX2_murmurHash3.data.toList.drop 0 = dktX2_murmurHash3_0 := by decide +kernel
theorem dksX2_murmurHash3_1 : cX2_murmurHash3.data.toList.drop 24 = dktX2_murmurHash3_1 := dk_seg dksX2_murmurHash3_0 24 rfl rfl
theorem dX2_murmurHash3_0 : decode cX2_murmurHash3 0 = .ok (.iload_n 0, 1) := dk_26 (dk_at dksX2_murmurHash3_0 0 rfl rfl)
theorem dX2_murmurHash3_1 : decode cX2_murmurHash3 1 = .ok (.iload_n 0, 1) := dk_26 (dk_at dksX2_murmurHash3_0 1 rfl rfl)
theorem dX2_murmurHash3_2 : decode cX2_murmurHash3 2 = .ok (.bipush 16, 2) := dk_16 16 (dk_at dksX2_murmurHash3_0 2 rfl rfl)
theorem dX2_murmurHash3_4 : decode cX2_murmurHash3 4 = .ok (.iushr, 1) := dk_124 (dk_at dksX2_murmurHash3_0 4 rfl rfl)
theorem dX2_murmurHash3_5 : decode cX2_murmurHash3 5 = .ok (.ixor, 1) := dk_130 (dk_at dksX2_murmurHash3_0 5 rfl rfl)
theorem dX2_murmurHash3_6 : decode cX2_murmurHash3 6 = .ok (.istore_n 0, 1) := dk_59 (dk_at dksX2_murmurHash3_0 6 rfl rfl)
theorem dX2_murmurHash3_7 : decode cX2_murmurHash3 7 = .ok (.iload_n 0, 1) := dk_26 (dk_at dksX2_murmurHash3_0 7 rfl rfl)
theorem dX2_murmurHash3_8 : decode cX2_murmurHash3 8 = .ok (.ldc 1, 2) := dk_18 1 (dk_at dksX2_murmurHash3_0 8 rfl rfl)
theorem dX2_murmurHash3_10 : decode cX2_murmurHash3 10 = .ok (.imul, 1) := dk_104 (dk_at dksX2_murmurHash3_0 10 rfl rfl)
theorem dX2_murmurHash3_11 : decode cX2_murmurHash3 11 = .ok (.istore_n 0, 1) := dk_59 (dk_at dksX2_murmurHash3_0 11 rfl rfl)
theorem dX2_murmurHash3_12 : decode cX2_murmurHash3 12 = .ok (.iload_n 0, 1) := dk_26 (dk_at dksX2_murmurHash3_0 12 rfl rfl)
theorem dX2_murmurHash3_13 : decode cX2_murmurHash3 13 = .ok (.iload_n 0, 1) := dk_26 (dk_at dksX2_murmurHash3_0 13 rfl rfl)
theorem dX2_murmurHash3_14 : decode cX2_murmurHash3 14 = .ok (.bipush 13, 2) := dk_16 13 (dk_at dksX2_murmurHash3_0 14 rfl rfl)
theorem dX2_murmurHash3_16 : decode cX2_murmurHash3 16 = .ok (.iushr, 1) := dk_124 (dk_at dksX2_murmurHash3_0 16 rfl rfl)
theorem dX2_murmurHash3_17 : decode cX2_murmurHash3 17 = .ok (.ixor, 1) := dk_130 (dk_at dksX2_murmurHash3_0 17 rfl rfl)
theorem dX2_murmurHash3_18 : decode cX2_murmurHash3 18 = .ok (.istore_n 0, 1) := dk_59 (dk_at dksX2_murmurHash3_0 18 rfl rfl)
theorem dX2_murmurHash3_19 : decode cX2_murmurHash3 19 = .ok (.iload_n 0, 1) := dk_26 (dk_at dksX2_murmurHash3_0 19 rfl rfl)
theorem dX2_murmurHash3_20 : decode cX2_murmurHash3 20 = .ok (.ldc 2, 2) := dk_18 2 (dk_at dksX2_murmurHash3_0 20 rfl rfl)
theorem dX2_murmurHash3_22 : decode cX2_murmurHash3 22 = .ok (.imul, 1) := dk_104 (dk_at dksX2_murmurHash3_0 22 rfl rfl)
theorem dX2_murmurHash3_23 : decode cX2_murmurHash3 23 = .ok (.istore_n 0, 1) := dk_59 (dk_at dksX2_murmurHash3_0 23 rfl rfl)
theorem dX2_murmurHash3_24 : decode cX2_murmurHash3 24 = .ok (.iload_n 0, 1) := dk_26 (dk_at dksX2_murmurHash3_1 0 rfl rfl)
theorem dX2_murmurHash3_25 : decode cX2_murmurHash3 25 = .ok (.iload_n 0, 1) := dk_26 (dk_at dksX2_murmurHash3_1 1 rfl rfl)
theorem dX2_murmurHash3_26 : decode cX2_murmurHash3 26 = .ok (.bipush 16, 2) := dk_16 16 (dk_at dksX2_murmurHash3_1 2 rfl rfl)
theorem dX2_murmurHash3_28 : decode cX2_murmurHash3 28 = .ok (.iushr, 1) := dk_124 (dk_at dksX2_murmurHash3_1 4 rfl rfl)
theorem dX2_murmurHash3_29 : decode cX2_murmurHash3 29 = .ok (.ixor, 1) := dk_130 (dk_at dksX2_murmurHash3_1 5 rfl rfl)
theorem dX2_murmurHash3_30 : decode cX2_murmurHash3 30 = .ok (.istore_n 0, 1) := dk_59 (dk_at dksX2_murmurHash3_1 6 rfl rfl)
theorem dX2_murmurHash3_31 : decode cX2_murmurHash3 31 = .ok (.iload_n 0, 1) := dk_26 (dk_at dksX2_murmurHash3_1 7 rfl rfl)
theorem dX2_murmurHash3_32 : decode cX2_murmurHash3 32 = .ok (.ireturn, 1) := dk_172 (dk_at dksX2_murmurHash3_1 8 rfl rfl)
abbrev cX2_murmurHash3_2 : ByteArray := prog_1_method_2_code
def yX2_murmurHash3_2 : MethodName := ⟨RX2, "murmurHash3", "(J)J"⟩
def dkwX2_murmurHash3_2_1 : List UInt8 := [105, 63, 30, 30, 16, 33, 125, 131, 63, 30, 173]
abbrev dktX2_murmurHash3_2_1 : List UInt8 := dkwX2_murmurHash3_2_1 ++ []
def dkwX2_murmurHash3_2_0 : List UInt8 := [30, 30, 16, 33, 125, 131, 63, 30, 20, 0, 3, 105, 63, 30, 30, 16, 33, 125, 131, 63, 30, 20, 0, 5]
abbrev dktX2_murmurHash3_2_0 : List UInt8 := dkwX2_murmurHash3_2_0 ++ dktX2_murmurHash3_2_1
theorem dksX2_murmurHash3_2_0 : cX2_murmurHash3_2.data.toList.drop 0 = dktX2_murmurHash3_2_0 := by decide +kernel
theorem dksX2_murmurHash3_2_1 : cX2_murmurHash3_2.data.toList.drop 24 = dktX2_murmurHash3_2_1 := dk_seg dksX2_murmurHash3_2_0 24 rfl rfl
theorem dX2_murmurHash3_2_0 : decode cX2_murmurHash3_2 0 = .ok (.lload_n 0, 1) := dk_30 (dk_at dksX2_murmurHash3_2_0 0 rfl rfl)
theorem dX2_murmurHash3_2_1 : decode cX2_murmurHash3_2 1 = .ok (.lload_n 0, 1) := dk_30 (dk_at dksX2_murmurHash3_2_0 1 rfl rfl)
theorem dX2_murmurHash3_2_2 : decode cX2_murmurHash3_2 2 = .ok (.bipush 33, 2) := dk_16 33 (dk_at dksX2_murmurHash3_2_0 2 rfl rfl)
theorem dX2_murmurHash3_2_4 : decode cX2_murmurHash3_2 4 = .ok (.lushr, 1) := dk_125 (dk_at dksX2_murmurHash3_2_0 4 rfl rfl)
theorem dX2_murmurHash3_2_5 : decode cX2_murmurHash3_2 5 = .ok (.lxor, 1) := dk_131 (dk_at dksX2_murmurHash3_2_0 5 rfl rfl)
theorem dX2_murmurHash3_2_6 : decode cX2_murmurHash3_2 6 = .ok (.lstore_n 0, 1) := dk_63 (dk_at dksX2_murmurHash3_2_0 6 rfl rfl)
theorem dX2_murmurHash3_2_7 : decode cX2_murmurHash3_2 7 = .ok (.lload_n 0, 1) := dk_30 (dk_at dksX2_murmurHash3_2_0 7 rfl rfl)
theorem dX2_murmurHash3_2_8 : decode cX2_murmurHash3_2 8 = .ok (.ldc2_w 3, 3) := dk_20 0 3 (dk_at dksX2_murmurHash3_2_0 8 rfl rfl)
theorem dX2_murmurHash3_2_11 : decode cX2_murmurHash3_2 11 = .ok (.lmul, 1) := dk_105 (dk_at dksX2_murmurHash3_2_0 11 rfl rfl)
theorem dX2_murmurHash3_2_12 : decode cX2_murmurHash3_2 12 = .ok (.lstore_n 0, 1) := dk_63 (dk_at dksX2_murmurHash3_2_0 12 rfl rfl)
theorem dX2_murmurHash3_2_13 : decode cX2_murmurHash3_2 13 = .ok (.lload_n 0, 1) := dk_30 (dk_at dksX2_murmurHash3_2_0 13 rfl rfl)
theorem dX2_murmurHash3_2_14 : decode cX2_murmurHash3_2 14 = .ok (.lload_n 0, 1) := dk_30 (dk_at dksX2_murmurHash3_2_0 14 rfl rfl)
theorem dX2_murmurHash3_2_15 : decode cX2_murmurHash3_2 15 = .ok (.bipush 33, 2) := dk_16 33 (dk_at dksX2_murmurHash3_2_0 15 rfl rfl)
theorem dX2_murmurHash3_2_17 : decode cX2_murmurHash3_2 17 = .ok (.lushr, 1) := dk_125 (dk_at dksX2_murmurHash3_2_0 17 rfl rfl)
theorem dX2_murmurHash3_2_18 : decode cX2_murmurHash3_2 18 = .ok (.lxor, 1) := dk_131 (dk_at dksX2_murmurHash3_2_0 18 rfl rfl)
theorem dX2_murmurHash3_2_19 : decode cX2_murmurHash3_2 19 = .ok (.lstore_n 0, 1) := dk_63 (dk_at dksX2_murmurHash3_2_0 19 rfl rfl)
theorem dX2_murmurHash3_2_20 : decode cX2_murmurHash3_2 20 = .ok (.lload_n 0, 1) := dk_30 (dk_at dksX2_murmurHash3_2_0 20 rfl rfl)
theorem dX2_murmurHash3_2_21 : decode cX2_murmurHash3_2 21 = .ok (.ldc2_w 5, 3) := dk_20 0 5 (dk_at dksX2_murmurHash3_2_0 21 rfl rfl)
theorem dX2_murmurHash3_2_24 : decode cX2_murmurHash3_2 24 = .ok (.lmul, 1) := dk_105 (dk_at dksX2_murmurHash3_2_1 0 rfl rfl)
theorem dX2_murmurHash3_2_25 : decode cX2_murmurHash3_2 25 = .ok (.lstore_n 0, 1) := dk_63 (dk_at dksX2_murmurHash3_2_1 1 rfl rfl)
theorem dX2_murmurHash3_2_26 : decode cX2_murmurHash3_2 26 = .ok (.lload_n 0, 1) := dk_30 (dk_at dksX2_murmurHash3_2_1 2 rfl rfl)
theorem dX2_murmurHash3_2_27 : decode cX2_murmurHash3_2 27 = .ok (.lload_n 0, 1) := dk_30 (dk_at dksX2_murmurHash3_2_1 3 rfl rfl)
theorem dX2_murmurHash3_2_28 : decode cX2_murmurHash3_2 28 = .ok (.bipush 33, 2) := dk_16 33 (dk_at dksX2_murmurHash3_2_1 4 rfl rfl)
theorem dX2_murmurHash3_2_30 : decode cX2_murmurHash3_2 30 = .ok (.lushr, 1) := dk_125 (dk_at dksX2_murmurHash3_2_1 6 rfl rfl)
theorem dX2_murmurHash3_2_31 : decode cX2_murmurHash3_2 31 = .ok (.lxor, 1) := dk_131 (dk_at dksX2_murmurHash3_2_1 7 rfl rfl)
theorem dX2_murmurHash3_2_32 : decode cX2_murmurHash3_2 32 = .ok (.lstore_n 0, 1) := dk_63 (dk_at dksX2_murmurHash3_2_1 8 rfl rfl)
theorem dX2_murmurHash3_2_33 : decode cX2_murmurHash3_2 33 = .ok (.lload_n 0, 1) := dk_30 (dk_at dksX2_murmurHash3_2_1 9 rfl rfl)
theorem dX2_murmurHash3_2_34 : decode cX2_murmurHash3_2 34 = .ok (.lreturn, 1) := dk_173 (dk_at dksX2_murmurHash3_2_1 10 rfl rfl)
theorem q2 : (Jvm.Cond.initialized "HashCommon") ∈ lw_all := lw_g (lw_at lw_m0 2 rfl) rfl
theorem q26 : (Jvm.Cond.static ({ cls := "HashCommon", name := "mix", desc := "(I)I" } : Jvm.MethodName)) ∈ lw_all := lw_g (lw_at lw_m0 26 rfl) rfl
theorem q27 : (Jvm.Cond.code ({ cls := "HashCommon", name := "mix", desc := "(I)I" } : Jvm.MethodName) prog_1_method_3_code (2 : Nat) (Option.some Jvm.ClassFile.FieldType.int)) ∈ lw_all := lw_g (lw_at lw_m0 27 rfl) rfl
theorem q28 : (Jvm.Cond.constant "HashCommon" (9 : Nat) (-1640531527 : Int32)) ∈ lw_all := lw_g (lw_at lw_m0 28 rfl) rfl
theorem q34 : (Jvm.Cond.static ({ cls := "HashCommon", name := "invMix", desc := "(I)I" } : Jvm.MethodName)) ∈ lw_all := lw_g (lw_at lw_m0 34 rfl) rfl
theorem q35 : (Jvm.Cond.code ({ cls := "HashCommon", name := "invMix", desc := "(I)I" } : Jvm.MethodName) prog_1_method_4_code (1 : Nat) (Option.some Jvm.ClassFile.FieldType.int)) ∈ lw_all := lw_g (lw_at lw_m0 35 rfl) rfl
theorem q36 : (Jvm.Cond.constant "HashCommon" (10 : Nat) (340573321 : Int32)) ∈ lw_all := lw_g (lw_at lw_m0 36 rfl) rfl
theorem q48 : (Jvm.Cond.static ({ cls := "HashCommon", name := "mix", desc := "(J)J" } : Jvm.MethodName)) ∈ lw_all := lw_g (lw_at lw_m0 48 rfl) rfl
theorem q49 : (Jvm.Cond.code ({ cls := "HashCommon", name := "mix", desc := "(J)J" } : Jvm.MethodName) prog_1_method_5_code (4 : Nat) (Option.some Jvm.ClassFile.FieldType.long)) ∈ lw_all := lw_g (lw_at lw_m0 49 rfl) rfl
theorem q50 : (Jvm.Cond.constantLong "HashCommon" (11 : Nat) (-7046029254386353131 : Int64)) ∈ lw_all := lw_g (lw_at lw_m0 50 rfl) rfl
theorem q56 : (Jvm.Cond.static ({ cls := "HashCommon", name := "invMix", desc := "(J)J" } : Jvm.MethodName)) ∈ lw_all := lw_g (lw_at lw_m0 56 rfl) rfl
theorem q57 : (Jvm.Cond.code ({ cls := "HashCommon", name := "invMix", desc := "(J)J" } : Jvm.MethodName) prog_1_method_6_code (2 : Nat) (Option.some Jvm.ClassFile.FieldType.long)) ∈ lw_all := lw_g (lw_at lw_m0 57 rfl) rfl
theorem q58 : (Jvm.Cond.constantLong "HashCommon" (13 : Nat) (-1018231460777725123 : Int64)) ∈ lw_all := lw_g (lw_at lw_m0 58 rfl) rfl
theorem q66 : (Jvm.Cond.static ({ cls := "HashCommon", name := "nextPowerOfTwo", desc := "(I)I" } : Jvm.MethodName)) ∈ lw_all := lw_g (lw_at lw_m0 66 rfl) rfl
theorem q67 : (Jvm.Cond.code ({ cls := "HashCommon", name := "nextPowerOfTwo", desc := "(I)I" } : Jvm.MethodName) prog_1_method_7_code (1 : Nat) (Option.some Jvm.ClassFile.FieldType.int)) ∈ lw_all := lw_g (lw_at lw_m0 67 rfl) rfl
theorem q68 : (Jvm.Cond.methodLink "HashCommon" (15 : Nat) ({ cls := "java/lang/Integer", name := "numberOfLeadingZeros", desc := "(I)I" } : Jvm.MethodName)) ∈ lw_all := lw_g (lw_at lw_m0 68 rfl) rfl
theorem q79 : (Jvm.Cond.static ({ cls := "HashCommon", name := "nextPowerOfTwo", desc := "(J)J" } : Jvm.MethodName)) ∈ lw_all := lw_g (lw_at lw_m0 79 rfl) rfl
theorem q80 : (Jvm.Cond.code ({ cls := "HashCommon", name := "nextPowerOfTwo", desc := "(J)J" } : Jvm.MethodName) prog_1_method_8_code (2 : Nat) (Option.some Jvm.ClassFile.FieldType.long)) ∈ lw_all := lw_g (lw_at lw_m0 80 rfl) rfl
theorem q81 : (Jvm.Cond.methodLink "HashCommon" (21 : Nat) ({ cls := "java/lang/Long", name := "numberOfLeadingZeros", desc := "(J)I" } : Jvm.MethodName)) ∈ lw_all := lw_g (lw_at lw_m0 81 rfl) rfl
theorem q103 : (Jvm.Cond.static ({ cls := "HashCommon", name := "murmurHash3", desc := "(I)I" } : Jvm.MethodName)) ∈ lw_all := lw_g (lw_at lw_m0 103 rfl) rfl
theorem q104 : (Jvm.Cond.code ({ cls := "HashCommon", name := "murmurHash3", desc := "(I)I" } : Jvm.MethodName) prog_1_method_1_code (1 : Nat) (Option.some Jvm.ClassFile.FieldType.int)) ∈ lw_all := lw_g (lw_at lw_m0 104 rfl) rfl
theorem q105 : (Jvm.Cond.constant "HashCommon" (1 : Nat) (-2048144789 : Int32)) ∈ lw_all := lw_g (lw_at lw_m0 105 rfl) rfl
theorem q106 : (Jvm.Cond.constant "HashCommon" (2 : Nat) (-1028477387 : Int32)) ∈ lw_all := lw_g (lw_at lw_m0 106 rfl) rfl
theorem q121 : (Jvm.Cond.static ({ cls := "HashCommon", name := "murmurHash3", desc := "(J)J" } : Jvm.MethodName)) ∈ lw_all := lw_g (lw_at lw_m0 121 rfl) rfl
theorem q122 : (Jvm.Cond.code ({ cls := "HashCommon", name := "murmurHash3", desc := "(J)J" } : Jvm.MethodName) prog_1_method_2_code (2 : Nat) (Option.some Jvm.ClassFile.FieldType.long)) ∈ lw_all := lw_g (lw_at lw_m0 122 rfl) rfl
theorem q123 : (Jvm.Cond.constantLong "HashCommon" (3 : Nat) (-49064778989728563 : Int64)) ∈ lw_all := lw_g (lw_at lw_m0 123 rfl) rfl
theorem q124 : (Jvm.Cond.constantLong "HashCommon" (5 : Nat) (-4265267296055464877 : Int64)) ∈ lw_all := lw_g (lw_at lw_m0 124 rfl) rfl
end
section
/-! MixDesk -/
set_option maxRecDepth 100000
def RX1 : String := "MixDesk"
abbrev cX1_init : ByteArray := prog_2_method_1_code
def yX1_init : MethodName := ⟨RX1, "<init>", "()V"⟩
theorem dX1_init_0 : decode cX1_init 0 = .ok (.aload_n 0, 1) := by decide +kernel
theorem dX1_init_1 : decode cX1_init 1 = .ok (.invokespecial 1, 3) := by decide +kernel
theorem dX1_init_4 : decode cX1_init 4 = .ok (.return_, 1) := by decide +kernel
abbrev cX1_mix : ByteArray := prog_2_method_3_code
def yX1_mix : MethodName := ⟨RX1, "mix", "(I)I"⟩
theorem dX1_mix_0 : decode cX1_mix 0 = .ok (.iload_n 1, 1) := by decide +kernel
theorem dX1_mix_1 : decode cX1_mix 1 = .ok (.invokestatic 9, 3) := by decide +kernel
theorem dX1_mix_4 : decode cX1_mix 4 = .ok (.ireturn, 1) := by decide +kernel
abbrev cX1_back : ByteArray := prog_2_method_4_code
def yX1_back : MethodName := ⟨RX1, "back", "(I)I"⟩
theorem dX1_back_0 : decode cX1_back 0 = .ok (.iload_n 1, 1) := by decide +kernel
theorem dX1_back_1 : decode cX1_back 1 = .ok (.invokestatic 15, 3) := by decide +kernel
theorem dX1_back_4 : decode cX1_back 4 = .ok (.ireturn, 1) := by decide +kernel
abbrev cX1_longMix : ByteArray := prog_2_method_5_code
def yX1_longMix : MethodName := ⟨RX1, "longMix", "(II)J"⟩
def dkwX1_longMix_0 : List UInt8 := [27, 28, 184, 0, 18, 184, 0, 24, 173]
abbrev dktX1_longMix_0 : List UInt8 := dkwX1_longMix_0 ++ []
theorem dksX1_longMix_0 : cX1_longMix.data.toList.drop 0 = dktX1_longMix_0 := by decide +kernel
theorem dX1_longMix_0 : decode cX1_longMix 0 = .ok (.iload_n 1, 1) := dk_27 (dk_at dksX1_longMix_0 0 rfl rfl)
theorem dX1_longMix_1 : decode cX1_longMix 1 = .ok (.iload_n 2, 1) := dk_28 (dk_at dksX1_longMix_0 1 rfl rfl)
theorem dX1_longMix_2 : decode cX1_longMix 2 = .ok (.invokestatic 18, 3) := dk_184 0 18 (dk_at dksX1_longMix_0 2 rfl rfl)
theorem dX1_longMix_5 : decode cX1_longMix 5 = .ok (.invokestatic 24, 3) := dk_184 0 24 (dk_at dksX1_longMix_0 5 rfl rfl)
theorem dX1_longMix_8 : decode cX1_longMix 8 = .ok (.lreturn, 1) := dk_173 (dk_at dksX1_longMix_0 8 rfl rfl)
abbrev cX1_wide : ByteArray := prog_2_method_2_code
def yX1_wide : MethodName := ⟨RX1, "wide", "(II)J"⟩
def dkwX1_wide_0 : List UInt8 := [26, 133, 16, 32, 121, 27, 133, 20, 0, 7, 127, 129, 173]
abbrev dktX1_wide_0 : List UInt8 := dkwX1_wide_0 ++ []
theorem dksX1_wide_0 : cX1_wide.data.toList.drop 0 = dktX1_wide_0 := by decide +kernel
theorem dX1_wide_0 : decode cX1_wide 0 = .ok (.iload_n 0, 1) := dk_26 (dk_at dksX1_wide_0 0 rfl rfl)
theorem dX1_wide_1 : decode cX1_wide 1 = .ok (.i2l, 1) := dk_133 (dk_at dksX1_wide_0 1 rfl rfl)
theorem dX1_wide_2 : decode cX1_wide 2 = .ok (.bipush 32, 2) := dk_16 32 (dk_at dksX1_wide_0 2 rfl rfl)
theorem dX1_wide_4 : decode cX1_wide 4 = .ok (.lshl, 1) := dk_121 (dk_at dksX1_wide_0 4 rfl rfl)
theorem dX1_wide_5 : decode cX1_wide 5 = .ok (.iload_n 1, 1) := dk_27 (dk_at dksX1_wide_0 5 rfl rfl)
theorem dX1_wide_6 : decode cX1_wide 6 = .ok (.i2l, 1) := dk_133 (dk_at dksX1_wide_0 6 rfl rfl)
theorem dX1_wide_7 : decode cX1_wide 7 = .ok (.ldc2_w 7, 3) := dk_20 0 7 (dk_at dksX1_wide_0 7 rfl rfl)
theorem dX1_wide_10 : decode cX1_wide 10 = .ok (.land, 1) := dk_127 (dk_at dksX1_wide_0 10 rfl rfl)
theorem dX1_wide_11 : decode cX1_wide 11 = .ok (.lor, 1) := dk_129 (dk_at dksX1_wide_0 11 rfl rfl)
theorem dX1_wide_12 : decode cX1_wide 12 = .ok (.lreturn, 1) := dk_173 (dk_at dksX1_wide_0 12 rfl rfl)
abbrev cX1_longBack : ByteArray := prog_2_method_6_code
def yX1_longBack : MethodName := ⟨RX1, "longBack", "(II)J"⟩
def dkwX1_longBack_0 : List UInt8 := [27, 28, 184, 0, 18, 184, 0, 27, 173]
abbrev dktX1_longBack_0 : List UInt8 := dkwX1_longBack_0 ++ []
theorem dksX1_longBack_0 : cX1_longBack.data.toList.drop 0 = dktX1_longBack_0 := by decide +kernel
theorem dX1_longBack_0 : decode cX1_longBack 0 = .ok (.iload_n 1, 1) := dk_27 (dk_at dksX1_longBack_0 0 rfl rfl)
theorem dX1_longBack_1 : decode cX1_longBack 1 = .ok (.iload_n 2, 1) := dk_28 (dk_at dksX1_longBack_0 1 rfl rfl)
theorem dX1_longBack_2 : decode cX1_longBack 2 = .ok (.invokestatic 18, 3) := dk_184 0 18 (dk_at dksX1_longBack_0 2 rfl rfl)
theorem dX1_longBack_5 : decode cX1_longBack 5 = .ok (.invokestatic 27, 3) := dk_184 0 27 (dk_at dksX1_longBack_0 5 rfl rfl)
theorem dX1_longBack_8 : decode cX1_longBack 8 = .ok (.lreturn, 1) := dk_173 (dk_at dksX1_longBack_0 8 rfl rfl)
abbrev cX1_power : ByteArray := prog_2_method_9_code
def yX1_power : MethodName := ⟨RX1, "power", "(I)I"⟩
def dkwX1_power_0 : List UInt8 := [27, 18, 34, 126, 184, 0, 35, 172]
abbrev dktX1_power_0 : List UInt8 := dkwX1_power_0 ++ []
theorem dksX1_power_0 : cX1_power.data.toList.drop 0 = dktX1_power_0 := by decide +kernel
theorem dX1_power_0 : decode cX1_power 0 = .ok (.iload_n 1, 1) := dk_27 (dk_at dksX1_power_0 0 rfl rfl)
theorem dX1_power_1 : decode cX1_power 1 = .ok (.ldc 34, 2) := dk_18 34 (dk_at dksX1_power_0 1 rfl rfl)
theorem dX1_power_3 : decode cX1_power 3 = .ok (.iand, 1) := dk_126 (dk_at dksX1_power_0 3 rfl rfl)
theorem dX1_power_4 : decode cX1_power 4 = .ok (.invokestatic 35, 3) := dk_184 0 35 (dk_at dksX1_power_0 4 rfl rfl)
theorem dX1_power_7 : decode cX1_power 7 = .ok (.ireturn, 1) := dk_172 (dk_at dksX1_power_0 7 rfl rfl)
abbrev cX1_longPower : ByteArray := prog_2_method_10_code
def yX1_longPower : MethodName := ⟨RX1, "longPower", "(II)J"⟩
def dkwX1_longPower_0 : List UInt8 := [27, 28, 184, 0, 18, 20, 0, 38, 127, 184, 0, 40, 173]
abbrev dktX1_longPower_0 : List UInt8 := dkwX1_longPower_0 ++ []
theorem dksX1_longPower_0 : cX1_longPower.data.toList.drop 0 = dktX1_longPower_0 := by decide +kernel
theorem dX1_longPower_0 : decode cX1_longPower 0 = .ok (.iload_n 1, 1) := dk_27 (dk_at dksX1_longPower_0 0 rfl rfl)
theorem dX1_longPower_1 : decode cX1_longPower 1 = .ok (.iload_n 2, 1) := dk_28 (dk_at dksX1_longPower_0 1 rfl rfl)
theorem dX1_longPower_2 : decode cX1_longPower 2 = .ok (.invokestatic 18, 3) := dk_184 0 18 (dk_at dksX1_longPower_0 2 rfl rfl)
theorem dX1_longPower_5 : decode cX1_longPower 5 = .ok (.ldc2_w 38, 3) := dk_20 0 38 (dk_at dksX1_longPower_0 5 rfl rfl)
theorem dX1_longPower_8 : decode cX1_longPower 8 = .ok (.land, 1) := dk_127 (dk_at dksX1_longPower_0 8 rfl rfl)
theorem dX1_longPower_9 : decode cX1_longPower 9 = .ok (.invokestatic 40, 3) := dk_184 0 40 (dk_at dksX1_longPower_0 9 rfl rfl)
theorem dX1_longPower_12 : decode cX1_longPower 12 = .ok (.lreturn, 1) := dk_173 (dk_at dksX1_longPower_0 12 rfl rfl)
abbrev cX1_murmur : ByteArray := prog_2_method_7_code
def yX1_murmur : MethodName := ⟨RX1, "murmur", "(I)I"⟩
theorem dX1_murmur_0 : decode cX1_murmur 0 = .ok (.iload_n 1, 1) := by decide +kernel
theorem dX1_murmur_1 : decode cX1_murmur 1 = .ok (.invokestatic 29, 3) := by decide +kernel
theorem dX1_murmur_4 : decode cX1_murmur 4 = .ok (.ireturn, 1) := by decide +kernel
abbrev cX1_longMurmur : ByteArray := prog_2_method_8_code
def yX1_longMurmur : MethodName := ⟨RX1, "longMurmur", "(II)J"⟩
def dkwX1_longMurmur_0 : List UInt8 := [27, 28, 184, 0, 18, 184, 0, 32, 173]
abbrev dktX1_longMurmur_0 : List UInt8 := dkwX1_longMurmur_0 ++ []
theorem dksX1_longMurmur_0 : cX1_longMurmur.data.toList.drop 0 = dktX1_longMurmur_0 := by decide +kernel
theorem dX1_longMurmur_0 : decode cX1_longMurmur 0 = .ok (.iload_n 1, 1) := dk_27 (dk_at dksX1_longMurmur_0 0 rfl rfl)
theorem dX1_longMurmur_1 : decode cX1_longMurmur 1 = .ok (.iload_n 2, 1) := dk_28 (dk_at dksX1_longMurmur_0 1 rfl rfl)
theorem dX1_longMurmur_2 : decode cX1_longMurmur 2 = .ok (.invokestatic 18, 3) := dk_184 0 18 (dk_at dksX1_longMurmur_0 2 rfl rfl)
theorem dX1_longMurmur_5 : decode cX1_longMurmur 5 = .ok (.invokestatic 32, 3) := dk_184 0 32 (dk_at dksX1_longMurmur_0 5 rfl rfl)
theorem dX1_longMurmur_8 : decode cX1_longMurmur 8 = .ok (.lreturn, 1) := dk_173 (dk_at dksX1_longMurmur_0 8 rfl rfl)
theorem q1 : (Jvm.Cond.initialized "MixDesk") ∈ lw_all := lw_g (lw_at lw_m0 1 rfl) rfl
theorem q10 : (Jvm.Cond.instantiable "MixDesk" (0 : Nat)) ∈ lw_all := lw_g (lw_at lw_m0 10 rfl) rfl
theorem q12 : (Jvm.Cond.instanceMethod ({ cls := "MixDesk", name := "<init>", desc := "()V" } : Jvm.MethodName)) ∈ lw_all := lw_g (lw_at lw_m0 12 rfl) rfl
theorem q13 : (Jvm.Cond.code ({ cls := "MixDesk", name := "<init>", desc := "()V" } : Jvm.MethodName) prog_2_method_1_code (1 : Nat) (Option.none : Option Jvm.ClassFile.FieldType)) ∈ lw_all := lw_g (lw_at lw_m0 13 rfl) rfl
theorem q14 : (Jvm.Cond.methodLink "MixDesk" (1 : Nat) ({ cls := "java/lang/Object", name := "<init>", desc := "()V" } : Jvm.MethodName)) ∈ lw_all := lw_g (lw_at lw_m0 14 rfl) rfl
theorem q17 : (Jvm.Cond.superclass "MixDesk" "java/lang/Object") ∈ lw_all := lw_g (lw_at lw_m0 17 rfl) rfl
theorem q22 : (Jvm.Cond.instanceMethod ({ cls := "MixDesk", name := "mix", desc := "(I)I" } : Jvm.MethodName)) ∈ lw_all := lw_g (lw_at lw_m0 22 rfl) rfl
theorem q23 : (Jvm.Cond.selects "MixDesk" ({ cls := "MixDesk", name := "mix", desc := "(I)I" } : Jvm.MethodName) ({ cls := "MixDesk", name := "mix", desc := "(I)I" } : Jvm.MethodName)) ∈ lw_all := lw_g (lw_at lw_m0 23 rfl) rfl
theorem q24 : (Jvm.Cond.code ({ cls := "MixDesk", name := "mix", desc := "(I)I" } : Jvm.MethodName) prog_2_method_3_code (2 : Nat) (Option.some Jvm.ClassFile.FieldType.int)) ∈ lw_all := lw_g (lw_at lw_m0 24 rfl) rfl
theorem q25 : (Jvm.Cond.methodLink "MixDesk" (9 : Nat) ({ cls := "HashCommon", name := "mix", desc := "(I)I" } : Jvm.MethodName)) ∈ lw_all := lw_g (lw_at lw_m0 25 rfl) rfl
theorem q30 : (Jvm.Cond.instanceMethod ({ cls := "MixDesk", name := "back", desc := "(I)I" } : Jvm.MethodName)) ∈ lw_all := lw_g (lw_at lw_m0 30 rfl) rfl
theorem q31 : (Jvm.Cond.selects "MixDesk" ({ cls := "MixDesk", name := "back", desc := "(I)I" } : Jvm.MethodName) ({ cls := "MixDesk", name := "back", desc := "(I)I" } : Jvm.MethodName)) ∈ lw_all := lw_g (lw_at lw_m0 31 rfl) rfl
theorem q32 : (Jvm.Cond.code ({ cls := "MixDesk", name := "back", desc := "(I)I" } : Jvm.MethodName) prog_2_method_4_code (2 : Nat) (Option.some Jvm.ClassFile.FieldType.int)) ∈ lw_all := lw_g (lw_at lw_m0 32 rfl) rfl
theorem q33 : (Jvm.Cond.methodLink "MixDesk" (15 : Nat) ({ cls := "HashCommon", name := "invMix", desc := "(I)I" } : Jvm.MethodName)) ∈ lw_all := lw_g (lw_at lw_m0 33 rfl) rfl
theorem q40 : (Jvm.Cond.instanceMethod ({ cls := "MixDesk", name := "longMix", desc := "(II)J" } : Jvm.MethodName)) ∈ lw_all := lw_g (lw_at lw_m0 40 rfl) rfl
theorem q41 : (Jvm.Cond.selects "MixDesk" ({ cls := "MixDesk", name := "longMix", desc := "(II)J" } : Jvm.MethodName) ({ cls := "MixDesk", name := "longMix", desc := "(II)J" } : Jvm.MethodName)) ∈ lw_all := lw_g (lw_at lw_m0 41 rfl) rfl
theorem q42 : (Jvm.Cond.code ({ cls := "MixDesk", name := "longMix", desc := "(II)J" } : Jvm.MethodName) prog_2_method_5_code (3 : Nat) (Option.some Jvm.ClassFile.FieldType.long)) ∈ lw_all := lw_g (lw_at lw_m0 42 rfl) rfl
theorem q43 : (Jvm.Cond.methodLink "MixDesk" (18 : Nat) ({ cls := "MixDesk", name := "wide", desc := "(II)J" } : Jvm.MethodName)) ∈ lw_all := lw_g (lw_at lw_m0 43 rfl) rfl
theorem q44 : (Jvm.Cond.static ({ cls := "MixDesk", name := "wide", desc := "(II)J" } : Jvm.MethodName)) ∈ lw_all := lw_g (lw_at lw_m0 44 rfl) rfl
theorem q45 : (Jvm.Cond.code ({ cls := "MixDesk", name := "wide", desc := "(II)J" } : Jvm.MethodName) prog_2_method_2_code (2 : Nat) (Option.some Jvm.ClassFile.FieldType.long)) ∈ lw_all := lw_g (lw_at lw_m0 45 rfl) rfl
theorem q46 : (Jvm.Cond.constantLong "MixDesk" (7 : Nat) (4294967295 : Int64)) ∈ lw_all := lw_g (lw_at lw_m0 46 rfl) rfl
theorem q47 : (Jvm.Cond.methodLink "MixDesk" (24 : Nat) ({ cls := "HashCommon", name := "mix", desc := "(J)J" } : Jvm.MethodName)) ∈ lw_all := lw_g (lw_at lw_m0 47 rfl) rfl
theorem q52 : (Jvm.Cond.instanceMethod ({ cls := "MixDesk", name := "longBack", desc := "(II)J" } : Jvm.MethodName)) ∈ lw_all := lw_g (lw_at lw_m0 52 rfl) rfl
theorem q53 : (Jvm.Cond.selects "MixDesk" ({ cls := "MixDesk", name := "longBack", desc := "(II)J" } : Jvm.MethodName) ({ cls := "MixDesk", name := "longBack", desc := "(II)J" } : Jvm.MethodName)) ∈ lw_all := lw_g (lw_at lw_m0 53 rfl) rfl
theorem q54 : (Jvm.Cond.code ({ cls := "MixDesk", name := "longBack", desc := "(II)J" } : Jvm.MethodName) prog_2_method_6_code (3 : Nat) (Option.some Jvm.ClassFile.FieldType.long)) ∈ lw_all := lw_g (lw_at lw_m0 54 rfl) rfl
theorem q55 : (Jvm.Cond.methodLink "MixDesk" (27 : Nat) ({ cls := "HashCommon", name := "invMix", desc := "(J)J" } : Jvm.MethodName)) ∈ lw_all := lw_g (lw_at lw_m0 55 rfl) rfl
theorem q61 : (Jvm.Cond.instanceMethod ({ cls := "MixDesk", name := "power", desc := "(I)I" } : Jvm.MethodName)) ∈ lw_all := lw_g (lw_at lw_m0 61 rfl) rfl
theorem q62 : (Jvm.Cond.selects "MixDesk" ({ cls := "MixDesk", name := "power", desc := "(I)I" } : Jvm.MethodName) ({ cls := "MixDesk", name := "power", desc := "(I)I" } : Jvm.MethodName)) ∈ lw_all := lw_g (lw_at lw_m0 62 rfl) rfl
theorem q63 : (Jvm.Cond.code ({ cls := "MixDesk", name := "power", desc := "(I)I" } : Jvm.MethodName) prog_2_method_9_code (2 : Nat) (Option.some Jvm.ClassFile.FieldType.int)) ∈ lw_all := lw_g (lw_at lw_m0 63 rfl) rfl
theorem q64 : (Jvm.Cond.constant "MixDesk" (34 : Nat) (1073741823 : Int32)) ∈ lw_all := lw_g (lw_at lw_m0 64 rfl) rfl
theorem q65 : (Jvm.Cond.methodLink "MixDesk" (35 : Nat) ({ cls := "HashCommon", name := "nextPowerOfTwo", desc := "(I)I" } : Jvm.MethodName)) ∈ lw_all := lw_g (lw_at lw_m0 65 rfl) rfl
theorem q74 : (Jvm.Cond.instanceMethod ({ cls := "MixDesk", name := "longPower", desc := "(II)J" } : Jvm.MethodName)) ∈ lw_all := lw_g (lw_at lw_m0 74 rfl) rfl
theorem q75 : (Jvm.Cond.selects "MixDesk" ({ cls := "MixDesk", name := "longPower", desc := "(II)J" } : Jvm.MethodName) ({ cls := "MixDesk", name := "longPower", desc := "(II)J" } : Jvm.MethodName)) ∈ lw_all := lw_g (lw_at lw_m0 75 rfl) rfl
theorem q76 : (Jvm.Cond.code ({ cls := "MixDesk", name := "longPower", desc := "(II)J" } : Jvm.MethodName) prog_2_method_10_code (3 : Nat) (Option.some Jvm.ClassFile.FieldType.long)) ∈ lw_all := lw_g (lw_at lw_m0 76 rfl) rfl
theorem q77 : (Jvm.Cond.constantLong "MixDesk" (38 : Nat) (4611686018427387903 : Int64)) ∈ lw_all := lw_g (lw_at lw_m0 77 rfl) rfl
theorem q78 : (Jvm.Cond.methodLink "MixDesk" (40 : Nat) ({ cls := "HashCommon", name := "nextPowerOfTwo", desc := "(J)J" } : Jvm.MethodName)) ∈ lw_all := lw_g (lw_at lw_m0 78 rfl) rfl
theorem q99 : (Jvm.Cond.instanceMethod ({ cls := "MixDesk", name := "murmur", desc := "(I)I" } : Jvm.MethodName)) ∈ lw_all := lw_g (lw_at lw_m0 99 rfl) rfl
theorem q100 : (Jvm.Cond.selects "MixDesk" ({ cls := "MixDesk", name := "murmur", desc := "(I)I" } : Jvm.MethodName) ({ cls := "MixDesk", name := "murmur", desc := "(I)I" } : Jvm.MethodName)) ∈ lw_all := lw_g (lw_at lw_m0 100 rfl) rfl
theorem q101 : (Jvm.Cond.code ({ cls := "MixDesk", name := "murmur", desc := "(I)I" } : Jvm.MethodName) prog_2_method_7_code (2 : Nat) (Option.some Jvm.ClassFile.FieldType.int)) ∈ lw_all := lw_g (lw_at lw_m0 101 rfl) rfl
theorem q102 : (Jvm.Cond.methodLink "MixDesk" (29 : Nat) ({ cls := "HashCommon", name := "murmurHash3", desc := "(I)I" } : Jvm.MethodName)) ∈ lw_all := lw_g (lw_at lw_m0 102 rfl) rfl
theorem q117 : (Jvm.Cond.instanceMethod ({ cls := "MixDesk", name := "longMurmur", desc := "(II)J" } : Jvm.MethodName)) ∈ lw_all := lw_g (lw_at lw_m0 117 rfl) rfl
theorem q118 : (Jvm.Cond.selects "MixDesk" ({ cls := "MixDesk", name := "longMurmur", desc := "(II)J" } : Jvm.MethodName) ({ cls := "MixDesk", name := "longMurmur", desc := "(II)J" } : Jvm.MethodName)) ∈ lw_all := lw_g (lw_at lw_m0 118 rfl) rfl
theorem q119 : (Jvm.Cond.code ({ cls := "MixDesk", name := "longMurmur", desc := "(II)J" } : Jvm.MethodName) prog_2_method_8_code (3 : Nat) (Option.some Jvm.ClassFile.FieldType.long)) ∈ lw_all := lw_g (lw_at lw_m0 119 rfl) rfl
theorem q120 : (Jvm.Cond.methodLink "MixDesk" (32 : Nat) ({ cls := "HashCommon", name := "murmurHash3", desc := "(J)J" } : Jvm.MethodName)) ∈ lw_all := lw_g (lw_at lw_m0 120 rfl) rfl
/-! the law's own entry -/
set_option maxRecDepth 100000
abbrev cL_law : ByteArray := code
def dkwL_law_1 : List UInt8 := [167, 0, 4, 3, 172]
abbrev dktL_law_1 : List UInt8 := dkwL_law_1 ++ []
def dkwL_law_0 : List UInt8 := [42, 184, 0, 81, 153, 0, 21, 42, 184, 0, 85, 153, 0, 14, 42, 184, 0, 88, 153, 0, 7, 4]
abbrev dktL_law_0 : List UInt8 := dkwL_law_0 ++ dktL_law_1
theorem dksL_law_0 : cL_law.data.toList.drop 0 = dktL_law_0 := by decide +kernel
theorem dksL_law_1 : cL_law.data.toList.drop 22 = dktL_law_1 := dk_seg dksL_law_0 22 rfl rfl
theorem dL_law_0 : decode cL_law 0 = .ok (.aload_n 0, 1) := dk_42 (dk_at dksL_law_0 0 rfl rfl)
theorem dL_law_1 : decode cL_law 1 = .ok (.invokestatic 81, 3) := dk_184 0 81 (dk_at dksL_law_0 1 rfl rfl)
theorem dL_law_4 : decode cL_law 4 = .ok (.ifCond .eq 21, 3) := dk_153 0 21 (dk_at dksL_law_0 4 rfl rfl)
theorem dL_law_7 : decode cL_law 7 = .ok (.aload_n 0, 1) := dk_42 (dk_at dksL_law_0 7 rfl rfl)
theorem dL_law_8 : decode cL_law 8 = .ok (.invokestatic 85, 3) := dk_184 0 85 (dk_at dksL_law_0 8 rfl rfl)
theorem dL_law_11 : decode cL_law 11 = .ok (.ifCond .eq 14, 3) := dk_153 0 14 (dk_at dksL_law_0 11 rfl rfl)
theorem dL_law_14 : decode cL_law 14 = .ok (.aload_n 0, 1) := dk_42 (dk_at dksL_law_0 14 rfl rfl)
theorem dL_law_15 : decode cL_law 15 = .ok (.invokestatic 88, 3) := dk_184 0 88 (dk_at dksL_law_0 15 rfl rfl)
theorem dL_law_18 : decode cL_law 18 = .ok (.ifCond .eq 7, 3) := dk_153 0 7 (dk_at dksL_law_0 18 rfl rfl)
theorem dL_law_21 : decode cL_law 21 = .ok (.iconst 1, 1) := dk_4 (dk_at dksL_law_0 21 rfl rfl)
theorem dL_law_22 : decode cL_law 22 = .ok (.goto 4, 3) := dk_167 0 4 (dk_at dksL_law_1 0 rfl rfl)
theorem dL_law_25 : decode cL_law 25 = .ok (.iconst 0, 1) := dk_3 (dk_at dksL_law_1 3 rfl rfl)
theorem dL_law_26 : decode cL_law 26 = .ok (.ireturn, 1) := dk_172 (dk_at dksL_law_1 4 rfl rfl)
end
section
/-! MixDeskLaw -/
set_option maxRecDepth 100000
def RX0 : String := "MixDeskLaw"
abbrev cX0_elder : ByteArray := method_3_code
def yX0_elder : MethodName := ⟨RX0, "elder", "([I)Z"⟩
def dkwX0_elder_10 : List UInt8 := [22, 12, 148, 156, 0, 7, 4, 167, 0, 4, 3, 172]
abbrev dktX0_elder_10 : List UInt8 := dkwX0_elder_10 ++ []
def dkwX0_elder_9 : List UInt8 := [154, 0, 34, 22, 14, 22, 12, 148, 155, 0, 26, 22, 14, 10, 148, 153, 0, 15, 22, 14, 20, 0, 42, 109]
abbrev dktX0_elder_9 : List UInt8 := dkwX0_elder_9 ++ dktX0_elder_10
def dkwX0_elder_8 : List UInt8 := [28, 29, 182, 0, 39, 55, 14, 22, 14, 9, 148, 158, 0, 46, 22, 14, 22, 14, 10, 101, 127, 9, 148]
abbrev dktX0_elder_8 : List UInt8 := dkwX0_elder_8 ++ dktX0_elder_9
def dkwX0_elder_7 : List UInt8 := [4, 164, 0, 14, 21, 11, 5, 108, 21, 10, 161, 0, 5, 3, 172, 22, 4, 20, 0, 37, 127, 55, 12, 43]
abbrev dktX0_elder_7 : List UInt8 := dkwX0_elder_7 ++ dktX0_elder_8
def dkwX0_elder_6 : List UInt8 := [21, 11, 158, 0, 35, 21, 11, 21, 11, 4, 100, 126, 154, 0, 25, 21, 11, 21, 10, 161, 0, 18, 21, 11]
abbrev dktX0_elder_6 : List UInt8 := dkwX0_elder_6 ++ dktX0_elder_7
def dkwX0_elder_5 : List UInt8 := [182, 0, 26, 22, 4, 148, 153, 0, 5, 3, 172, 28, 18, 33, 126, 54, 10, 43, 28, 182, 0, 34, 54, 11]
abbrev dktX0_elder_5 : List UInt8 := dkwX0_elder_5 ++ dktX0_elder_6
def dkwX0_elder_4 : List UInt8 := [136, 22, 6, 136, 182, 0, 30, 22, 4, 148, 154, 0, 22, 43, 22, 8, 16, 32, 123, 136, 22, 8, 136]
abbrev dktX0_elder_4 : List UInt8 := dkwX0_elder_4 ++ dktX0_elder_5
def dkwX0_elder_3 : List UInt8 := [55, 4, 43, 28, 29, 182, 0, 26, 55, 6, 43, 28, 29, 182, 0, 30, 55, 8, 43, 22, 6, 16, 32, 123]
abbrev dktX0_elder_3 : List UInt8 := dkwX0_elder_3 ++ dktX0_elder_4
def dkwX0_elder_2 : List UInt8 := [4, 182, 0, 16, 18, 23, 159, 0, 5, 3, 172, 28, 133, 16, 32, 121, 29, 133, 20, 0, 24, 127, 129]
abbrev dktX0_elder_2 : List UInt8 := dkwX0_elder_2 ++ dktX0_elder_3
def dkwX0_elder_1 : List UInt8 := [182, 0, 16, 182, 0, 20, 28, 160, 0, 26, 43, 43, 28, 182, 0, 20, 182, 0, 16, 28, 160, 0, 13, 43]
abbrev dktX0_elder_1 : List UInt8 := dkwX0_elder_1 ++ dktX0_elder_2
def dkwX0_elder_0 : List UInt8 := [187, 0, 7, 89, 183, 0, 9, 76, 42, 3, 184, 0, 10, 61, 42, 4, 184, 0, 10, 62, 43, 43, 28]
abbrev dktX0_elder_0 : List UInt8 := dkwX0_elder_0 ++ dktX0_elder_1
theorem dksX0_elder_0 : cX0_elder.data.toList.drop 0 = dktX0_elder_0 := by decide +kernel
theorem dksX0_elder_1 : cX0_elder.data.toList.drop 23 = dktX0_elder_1 := dk_seg dksX0_elder_0 23 rfl rfl
theorem dksX0_elder_2 : cX0_elder.data.toList.drop 47 = dktX0_elder_2 := dk_seg dksX0_elder_1 24 rfl rfl
theorem dksX0_elder_3 : cX0_elder.data.toList.drop 70 = dktX0_elder_3 := dk_seg dksX0_elder_2 23 rfl rfl
theorem dksX0_elder_4 : cX0_elder.data.toList.drop 94 = dktX0_elder_4 := dk_seg dksX0_elder_3 24 rfl rfl
theorem dksX0_elder_5 : cX0_elder.data.toList.drop 117 = dktX0_elder_5 := dk_seg dksX0_elder_4 23 rfl rfl
theorem dksX0_elder_6 : cX0_elder.data.toList.drop 141 = dktX0_elder_6 := dk_seg dksX0_elder_5 24 rfl rfl
theorem dksX0_elder_7 : cX0_elder.data.toList.drop 165 = dktX0_elder_7 := dk_seg dksX0_elder_6 24 rfl rfl
theorem dksX0_elder_8 : cX0_elder.data.toList.drop 189 = dktX0_elder_8 := dk_seg dksX0_elder_7 24 rfl rfl
theorem dksX0_elder_9 : cX0_elder.data.toList.drop 212 = dktX0_elder_9 := dk_seg dksX0_elder_8 23 rfl rfl
theorem dksX0_elder_10 : cX0_elder.data.toList.drop 236 = dktX0_elder_10 := dk_seg dksX0_elder_9 24 rfl rfl
theorem dX0_elder_0 : decode cX0_elder 0 = .ok (.new 7, 3) := dk_187 0 7 (dk_at dksX0_elder_0 0 rfl rfl)
theorem dX0_elder_3 : decode cX0_elder 3 = .ok (.dup, 1) := dk_89 (dk_at dksX0_elder_0 3 rfl rfl)
theorem dX0_elder_4 : decode cX0_elder 4 = .ok (.invokespecial 9, 3) := dk_183 0 9 (dk_at dksX0_elder_0 4 rfl rfl)
theorem dX0_elder_7 : decode cX0_elder 7 = .ok (.astore_n 1, 1) := dk_76 (dk_at dksX0_elder_0 7 rfl rfl)
theorem dX0_elder_8 : decode cX0_elder 8 = .ok (.aload_n 0, 1) := dk_42 (dk_at dksX0_elder_0 8 rfl rfl)
theorem dX0_elder_9 : decode cX0_elder 9 = .ok (.iconst 0, 1) := dk_3 (dk_at dksX0_elder_0 9 rfl rfl)
theorem dX0_elder_10 : decode cX0_elder 10 = .ok (.invokestatic 10, 3) := dk_184 0 10 (dk_at dksX0_elder_0 10 rfl rfl)
theorem dX0_elder_13 : decode cX0_elder 13 = .ok (.istore_n 2, 1) := dk_61 (dk_at dksX0_elder_0 13 rfl rfl)
theorem dX0_elder_14 : decode cX0_elder 14 = .ok (.aload_n 0, 1) := dk_42 (dk_at dksX0_elder_0 14 rfl rfl)
theorem dX0_elder_15 : decode cX0_elder 15 = .ok (.iconst 1, 1) := dk_4 (dk_at dksX0_elder_0 15 rfl rfl)
theorem dX0_elder_16 : decode cX0_elder 16 = .ok (.invokestatic 10, 3) := dk_184 0 10 (dk_at dksX0_elder_0 16 rfl rfl)
theorem dX0_elder_19 : decode cX0_elder 19 = .ok (.istore_n 3, 1) := dk_62 (dk_at dksX0_elder_0 19 rfl rfl)
theorem dX0_elder_20 : decode cX0_elder 20 = .ok (.aload_n 1, 1) := dk_43 (dk_at dksX0_elder_0 20 rfl rfl)
theorem dX0_elder_21 : decode cX0_elder 21 = .ok (.aload_n 1, 1) := dk_43 (dk_at dksX0_elder_0 21 rfl rfl)
theorem dX0_elder_22 : decode cX0_elder 22 = .ok (.iload_n 2, 1) := dk_28 (dk_at dksX0_elder_0 22 rfl rfl)
theorem dX0_elder_23 : decode cX0_elder 23 = .ok (.invokevirtual 16, 3) := dk_182 0 16 (dk_at dksX0_elder_1 0 rfl rfl)
theorem dX0_elder_26 : decode cX0_elder 26 = .ok (.invokevirtual 20, 3) := dk_182 0 20 (dk_at dksX0_elder_1 3 rfl rfl)
theorem dX0_elder_29 : decode cX0_elder 29 = .ok (.iload_n 2, 1) := dk_28 (dk_at dksX0_elder_1 6 rfl rfl)
theorem dX0_elder_30 : decode cX0_elder 30 = .ok (.if_icmp .ne 26, 3) := dk_160 0 26 (dk_at dksX0_elder_1 7 rfl rfl)
theorem dX0_elder_33 : decode cX0_elder 33 = .ok (.aload_n 1, 1) := dk_43 (dk_at dksX0_elder_1 10 rfl rfl)
theorem dX0_elder_34 : decode cX0_elder 34 = .ok (.aload_n 1, 1) := dk_43 (dk_at dksX0_elder_1 11 rfl rfl)
theorem dX0_elder_35 : decode cX0_elder 35 = .ok (.iload_n 2, 1) := dk_28 (dk_at dksX0_elder_1 12 rfl rfl)
theorem dX0_elder_36 : decode cX0_elder 36 = .ok (.invokevirtual 20, 3) := dk_182 0 20 (dk_at dksX0_elder_1 13 rfl rfl)
theorem dX0_elder_39 : decode cX0_elder 39 = .ok (.invokevirtual 16, 3) := dk_182 0 16 (dk_at dksX0_elder_1 16 rfl rfl)
theorem dX0_elder_42 : decode cX0_elder 42 = .ok (.iload_n 2, 1) := dk_28 (dk_at dksX0_elder_1 19 rfl rfl)
theorem dX0_elder_43 : decode cX0_elder 43 = .ok (.if_icmp .ne 13, 3) := dk_160 0 13 (dk_at dksX0_elder_1 20 rfl rfl)
theorem dX0_elder_46 : decode cX0_elder 46 = .ok (.aload_n 1, 1) := dk_43 (dk_at dksX0_elder_1 23 rfl rfl)
theorem dX0_elder_47 : decode cX0_elder 47 = .ok (.iconst 1, 1) := dk_4 (dk_at dksX0_elder_2 0 rfl rfl)
theorem dX0_elder_48 : decode cX0_elder 48 = .ok (.invokevirtual 16, 3) := dk_182 0 16 (dk_at dksX0_elder_2 1 rfl rfl)
theorem dX0_elder_51 : decode cX0_elder 51 = .ok (.ldc 23, 2) := dk_18 23 (dk_at dksX0_elder_2 4 rfl rfl)
theorem dX0_elder_53 : decode cX0_elder 53 = .ok (.if_icmp .eq 5, 3) := dk_159 0 5 (dk_at dksX0_elder_2 6 rfl rfl)
theorem dX0_elder_56 : decode cX0_elder 56 = .ok (.iconst 0, 1) := dk_3 (dk_at dksX0_elder_2 9 rfl rfl)
theorem dX0_elder_57 : decode cX0_elder 57 = .ok (.ireturn, 1) := dk_172 (dk_at dksX0_elder_2 10 rfl rfl)
theorem dX0_elder_58 : decode cX0_elder 58 = .ok (.iload_n 2, 1) := dk_28 (dk_at dksX0_elder_2 11 rfl rfl)
theorem dX0_elder_59 : decode cX0_elder 59 = .ok (.i2l, 1) := dk_133 (dk_at dksX0_elder_2 12 rfl rfl)
theorem dX0_elder_60 : decode cX0_elder 60 = .ok (.bipush 32, 2) := dk_16 32 (dk_at dksX0_elder_2 13 rfl rfl)
theorem dX0_elder_62 : decode cX0_elder 62 = .ok (.lshl, 1) := dk_121 (dk_at dksX0_elder_2 15 rfl rfl)
theorem dX0_elder_63 : decode cX0_elder 63 = .ok (.iload_n 3, 1) := dk_29 (dk_at dksX0_elder_2 16 rfl rfl)
theorem dX0_elder_64 : decode cX0_elder 64 = .ok (.i2l, 1) := dk_133 (dk_at dksX0_elder_2 17 rfl rfl)
theorem dX0_elder_65 : decode cX0_elder 65 = .ok (.ldc2_w 24, 3) := dk_20 0 24 (dk_at dksX0_elder_2 18 rfl rfl)
theorem dX0_elder_68 : decode cX0_elder 68 = .ok (.land, 1) := dk_127 (dk_at dksX0_elder_2 21 rfl rfl)
theorem dX0_elder_69 : decode cX0_elder 69 = .ok (.lor, 1) := dk_129 (dk_at dksX0_elder_2 22 rfl rfl)
theorem dX0_elder_70 : decode cX0_elder 70 = .ok (.lstore 4, 2) := dk_55 4 (dk_at dksX0_elder_3 0 rfl rfl)
theorem dX0_elder_72 : decode cX0_elder 72 = .ok (.aload_n 1, 1) := dk_43 (dk_at dksX0_elder_3 2 rfl rfl)
theorem dX0_elder_73 : decode cX0_elder 73 = .ok (.iload_n 2, 1) := dk_28 (dk_at dksX0_elder_3 3 rfl rfl)
theorem dX0_elder_74 : decode cX0_elder 74 = .ok (.iload_n 3, 1) := dk_29 (dk_at dksX0_elder_3 4 rfl rfl)
theorem dX0_elder_75 : decode cX0_elder 75 = .ok (.invokevirtual 26, 3) := dk_182 0 26 (dk_at dksX0_elder_3 5 rfl rfl)
theorem dX0_elder_78 : decode cX0_elder 78 = .ok (.lstore 6, 2) := dk_55 6 (dk_at dksX0_elder_3 8 rfl rfl)
theorem dX0_elder_80 : decode cX0_elder 80 = .ok (.aload_n 1, 1) := dk_43 (dk_at dksX0_elder_3 10 rfl rfl)
theorem dX0_elder_81 : decode cX0_elder 81 = .ok (.iload_n 2, 1) := dk_28 (dk_at dksX0_elder_3 11 rfl rfl)
theorem dX0_elder_82 : decode cX0_elder 82 = .ok (.iload_n 3, 1) := dk_29 (dk_at dksX0_elder_3 12 rfl rfl)
theorem dX0_elder_83 : decode cX0_elder 83 = .ok (.invokevirtual 30, 3) := dk_182 0 30 (dk_at dksX0_elder_3 13 rfl rfl)
theorem dX0_elder_86 : decode cX0_elder 86 = .ok (.lstore 8, 2) := dk_55 8 (dk_at dksX0_elder_3 16 rfl rfl)
theorem dX0_elder_88 : decode cX0_elder 88 = .ok (.aload_n 1, 1) := dk_43 (dk_at dksX0_elder_3 18 rfl rfl)
theorem dX0_elder_89 : decode cX0_elder 89 = .ok (.lload 6, 2) := dk_22 6 (dk_at dksX0_elder_3 19 rfl rfl)
theorem dX0_elder_91 : decode cX0_elder 91 = .ok (.bipush 32, 2) := dk_16 32 (dk_at dksX0_elder_3 21 rfl rfl)
theorem dX0_elder_93 : decode cX0_elder 93 = .ok (.lshr, 1) := dk_123 (dk_at dksX0_elder_3 23 rfl rfl)
theorem dX0_elder_94 : decode cX0_elder 94 = .ok (.l2i, 1) := dk_136 (dk_at dksX0_elder_4 0 rfl rfl)
theorem dX0_elder_95 : decode cX0_elder 95 = .ok (.lload 6, 2) := dk_22 6 (dk_at dksX0_elder_4 1 rfl rfl)
theorem dX0_elder_97 : decode cX0_elder 97 = .ok (.l2i, 1) := dk_136 (dk_at dksX0_elder_4 3 rfl rfl)
theorem dX0_elder_98 : decode cX0_elder 98 = .ok (.invokevirtual 30, 3) := dk_182 0 30 (dk_at dksX0_elder_4 4 rfl rfl)
theorem dX0_elder_101 : decode cX0_elder 101 = .ok (.lload 4, 2) := dk_22 4 (dk_at dksX0_elder_4 7 rfl rfl)
theorem dX0_elder_103 : decode cX0_elder 103 = .ok (.lcmp, 1) := dk_148 (dk_at dksX0_elder_4 9 rfl rfl)
theorem dX0_elder_104 : decode cX0_elder 104 = .ok (.ifCond .ne 22, 3) := dk_154 0 22 (dk_at dksX0_elder_4 10 rfl rfl)
theorem dX0_elder_107 : decode cX0_elder 107 = .ok (.aload_n 1, 1) := dk_43 (dk_at dksX0_elder_4 13 rfl rfl)
theorem dX0_elder_108 : decode cX0_elder 108 = .ok (.lload 8, 2) := dk_22 8 (dk_at dksX0_elder_4 14 rfl rfl)
theorem dX0_elder_110 : decode cX0_elder 110 = .ok (.bipush 32, 2) := dk_16 32 (dk_at dksX0_elder_4 16 rfl rfl)
theorem dX0_elder_112 : decode cX0_elder 112 = .ok (.lshr, 1) := dk_123 (dk_at dksX0_elder_4 18 rfl rfl)
theorem dX0_elder_113 : decode cX0_elder 113 = .ok (.l2i, 1) := dk_136 (dk_at dksX0_elder_4 19 rfl rfl)
theorem dX0_elder_114 : decode cX0_elder 114 = .ok (.lload 8, 2) := dk_22 8 (dk_at dksX0_elder_4 20 rfl rfl)
theorem dX0_elder_116 : decode cX0_elder 116 = .ok (.l2i, 1) := dk_136 (dk_at dksX0_elder_4 22 rfl rfl)
theorem dX0_elder_117 : decode cX0_elder 117 = .ok (.invokevirtual 26, 3) := dk_182 0 26 (dk_at dksX0_elder_5 0 rfl rfl)
theorem dX0_elder_120 : decode cX0_elder 120 = .ok (.lload 4, 2) := dk_22 4 (dk_at dksX0_elder_5 3 rfl rfl)
theorem dX0_elder_122 : decode cX0_elder 122 = .ok (.lcmp, 1) := dk_148 (dk_at dksX0_elder_5 5 rfl rfl)
theorem dX0_elder_123 : decode cX0_elder 123 = .ok (.ifCond .eq 5, 3) := dk_153 0 5 (dk_at dksX0_elder_5 6 rfl rfl)
theorem dX0_elder_126 : decode cX0_elder 126 = .ok (.iconst 0, 1) := dk_3 (dk_at dksX0_elder_5 9 rfl rfl)
theorem dX0_elder_127 : decode cX0_elder 127 = .ok (.ireturn, 1) := dk_172 (dk_at dksX0_elder_5 10 rfl rfl)
theorem dX0_elder_128 : decode cX0_elder 128 = .ok (.iload_n 2, 1) := dk_28 (dk_at dksX0_elder_5 11 rfl rfl)
theorem dX0_elder_129 : decode cX0_elder 129 = .ok (.ldc 33, 2) := dk_18 33 (dk_at dksX0_elder_5 12 rfl rfl)
theorem dX0_elder_131 : decode cX0_elder 131 = .ok (.iand, 1) := dk_126 (dk_at dksX0_elder_5 14 rfl rfl)
theorem dX0_elder_132 : decode cX0_elder 132 = .ok (.istore 10, 2) := dk_54 10 (dk_at dksX0_elder_5 15 rfl rfl)
theorem dX0_elder_134 : decode cX0_elder 134 = .ok (.aload_n 1, 1) := dk_43 (dk_at dksX0_elder_5 17 rfl rfl)
theorem dX0_elder_135 : decode cX0_elder 135 = .ok (.iload_n 2, 1) := dk_28 (dk_at dksX0_elder_5 18 rfl rfl)
theorem dX0_elder_136 : decode cX0_elder 136 = .ok (.invokevirtual 34, 3) := dk_182 0 34 (dk_at dksX0_elder_5 19 rfl rfl)
theorem dX0_elder_139 : decode cX0_elder 139 = .ok (.istore 11, 2) := dk_54 11 (dk_at dksX0_elder_5 22 rfl rfl)
theorem dX0_elder_141 : decode cX0_elder 141 = .ok (.iload 11, 2) := dk_21 11 (dk_at dksX0_elder_6 0 rfl rfl)
theorem dX0_elder_143 : decode cX0_elder 143 = .ok (.ifCond .le 35, 3) := dk_158 0 35 (dk_at dksX0_elder_6 2 rfl rfl)
theorem dX0_elder_146 : decode cX0_elder 146 = .ok (.iload 11, 2) := dk_21 11 (dk_at dksX0_elder_6 5 rfl rfl)
theorem dX0_elder_148 : decode cX0_elder 148 = .ok (.iload 11, 2) := dk_21 11 (dk_at dksX0_elder_6 7 rfl rfl)
theorem dX0_elder_150 : decode cX0_elder 150 = .ok (.iconst 1, 1) := dk_4 (dk_at dksX0_elder_6 9 rfl rfl)
theorem dX0_elder_151 : decode cX0_elder 151 = .ok (.isub, 1) := dk_100 (dk_at dksX0_elder_6 10 rfl rfl)
theorem dX0_elder_152 : decode cX0_elder 152 = .ok (.iand, 1) := dk_126 (dk_at dksX0_elder_6 11 rfl rfl)
theorem dX0_elder_153 : decode cX0_elder 153 = .ok (.ifCond .ne 25, 3) := dk_154 0 25 (dk_at dksX0_elder_6 12 rfl rfl)
theorem dX0_elder_156 : decode cX0_elder 156 = .ok (.iload 11, 2) := dk_21 11 (dk_at dksX0_elder_6 15 rfl rfl)
theorem dX0_elder_158 : decode cX0_elder 158 = .ok (.iload 10, 2) := dk_21 10 (dk_at dksX0_elder_6 17 rfl rfl)
theorem dX0_elder_160 : decode cX0_elder 160 = .ok (.if_icmp .lt 18, 3) := dk_161 0 18 (dk_at dksX0_elder_6 19 rfl rfl)
theorem dX0_elder_163 : decode cX0_elder 163 = .ok (.iload 11, 2) := dk_21 11 (dk_at dksX0_elder_6 22 rfl rfl)
theorem dX0_elder_165 : decode cX0_elder 165 = .ok (.iconst 1, 1) := dk_4 (dk_at dksX0_elder_7 0 rfl rfl)
theorem dX0_elder_166 : decode cX0_elder 166 = .ok (.if_icmp .le 14, 3) := dk_164 0 14 (dk_at dksX0_elder_7 1 rfl rfl)
theorem dX0_elder_169 : decode cX0_elder 169 = .ok (.iload 11, 2) := dk_21 11 (dk_at dksX0_elder_7 4 rfl rfl)
theorem dX0_elder_171 : decode cX0_elder 171 = .ok (.iconst 2, 1) := dk_5 (dk_at dksX0_elder_7 6 rfl rfl)
theorem dX0_elder_172 : decode cX0_elder 172 = .ok (.idiv, 1) := dk_108 (dk_at dksX0_elder_7 7 rfl rfl)
theorem dX0_elder_173 : decode cX0_elder 173 = .ok (.iload 10, 2) := dk_21 10 (dk_at dksX0_elder_7 8 rfl rfl)
theorem dX0_elder_175 : decode cX0_elder 175 = .ok (.if_icmp .lt 5, 3) := dk_161 0 5 (dk_at dksX0_elder_7 10 rfl rfl)
theorem dX0_elder_178 : decode cX0_elder 178 = .ok (.iconst 0, 1) := dk_3 (dk_at dksX0_elder_7 13 rfl rfl)
theorem dX0_elder_179 : decode cX0_elder 179 = .ok (.ireturn, 1) := dk_172 (dk_at dksX0_elder_7 14 rfl rfl)
theorem dX0_elder_180 : decode cX0_elder 180 = .ok (.lload 4, 2) := dk_22 4 (dk_at dksX0_elder_7 15 rfl rfl)
theorem dX0_elder_182 : decode cX0_elder 182 = .ok (.ldc2_w 37, 3) := dk_20 0 37 (dk_at dksX0_elder_7 17 rfl rfl)
theorem dX0_elder_185 : decode cX0_elder 185 = .ok (.land, 1) := dk_127 (dk_at dksX0_elder_7 20 rfl rfl)
theorem dX0_elder_186 : decode cX0_elder 186 = .ok (.lstore 12, 2) := dk_55 12 (dk_at dksX0_elder_7 21 rfl rfl)
theorem dX0_elder_188 : decode cX0_elder 188 = .ok (.aload_n 1, 1) := dk_43 (dk_at dksX0_elder_7 23 rfl rfl)
theorem dX0_elder_189 : decode cX0_elder 189 = .ok (.iload_n 2, 1) := dk_28 (dk_at dksX0_elder_8 0 rfl rfl)
theorem dX0_elder_190 : decode cX0_elder 190 = .ok (.iload_n 3, 1) := dk_29 (dk_at dksX0_elder_8 1 rfl rfl)
theorem dX0_elder_191 : decode cX0_elder 191 = .ok (.invokevirtual 39, 3) := dk_182 0 39 (dk_at dksX0_elder_8 2 rfl rfl)
theorem dX0_elder_194 : decode cX0_elder 194 = .ok (.lstore 14, 2) := dk_55 14 (dk_at dksX0_elder_8 5 rfl rfl)
theorem dX0_elder_196 : decode cX0_elder 196 = .ok (.lload 14, 2) := dk_22 14 (dk_at dksX0_elder_8 7 rfl rfl)
theorem dX0_elder_198 : decode cX0_elder 198 = .ok (.lconst 0, 1) := dk_9 (dk_at dksX0_elder_8 9 rfl rfl)
theorem dX0_elder_199 : decode cX0_elder 199 = .ok (.lcmp, 1) := dk_148 (dk_at dksX0_elder_8 10 rfl rfl)
theorem dX0_elder_200 : decode cX0_elder 200 = .ok (.ifCond .le 46, 3) := dk_158 0 46 (dk_at dksX0_elder_8 11 rfl rfl)
theorem dX0_elder_203 : decode cX0_elder 203 = .ok (.lload 14, 2) := dk_22 14 (dk_at dksX0_elder_8 14 rfl rfl)
theorem dX0_elder_205 : decode cX0_elder 205 = .ok (.lload 14, 2) := dk_22 14 (dk_at dksX0_elder_8 16 rfl rfl)
theorem dX0_elder_207 : decode cX0_elder 207 = .ok (.lconst 1, 1) := dk_10 (dk_at dksX0_elder_8 18 rfl rfl)
theorem dX0_elder_208 : decode cX0_elder 208 = .ok (.lsub, 1) := dk_101 (dk_at dksX0_elder_8 19 rfl rfl)
theorem dX0_elder_209 : decode cX0_elder 209 = .ok (.land, 1) := dk_127 (dk_at dksX0_elder_8 20 rfl rfl)
theorem dX0_elder_210 : decode cX0_elder 210 = .ok (.lconst 0, 1) := dk_9 (dk_at dksX0_elder_8 21 rfl rfl)
theorem dX0_elder_211 : decode cX0_elder 211 = .ok (.lcmp, 1) := dk_148 (dk_at dksX0_elder_8 22 rfl rfl)
theorem dX0_elder_212 : decode cX0_elder 212 = .ok (.ifCond .ne 34, 3) := dk_154 0 34 (dk_at dksX0_elder_9 0 rfl rfl)
theorem dX0_elder_215 : decode cX0_elder 215 = .ok (.lload 14, 2) := dk_22 14 (dk_at dksX0_elder_9 3 rfl rfl)
theorem dX0_elder_217 : decode cX0_elder 217 = .ok (.lload 12, 2) := dk_22 12 (dk_at dksX0_elder_9 5 rfl rfl)
theorem dX0_elder_219 : decode cX0_elder 219 = .ok (.lcmp, 1) := dk_148 (dk_at dksX0_elder_9 7 rfl rfl)
theorem dX0_elder_220 : decode cX0_elder 220 = .ok (.ifCond .lt 26, 3) := dk_155 0 26 (dk_at dksX0_elder_9 8 rfl rfl)
theorem dX0_elder_223 : decode cX0_elder 223 = .ok (.lload 14, 2) := dk_22 14 (dk_at dksX0_elder_9 11 rfl rfl)
theorem dX0_elder_225 : decode cX0_elder 225 = .ok (.lconst 1, 1) := dk_10 (dk_at dksX0_elder_9 13 rfl rfl)
theorem dX0_elder_226 : decode cX0_elder 226 = .ok (.lcmp, 1) := dk_148 (dk_at dksX0_elder_9 14 rfl rfl)
theorem dX0_elder_227 : decode cX0_elder 227 = .ok (.ifCond .eq 15, 3) := dk_153 0 15 (dk_at dksX0_elder_9 15 rfl rfl)
theorem dX0_elder_230 : decode cX0_elder 230 = .ok (.lload 14, 2) := dk_22 14 (dk_at dksX0_elder_9 18 rfl rfl)
theorem dX0_elder_232 : decode cX0_elder 232 = .ok (.ldc2_w 42, 3) := dk_20 0 42 (dk_at dksX0_elder_9 20 rfl rfl)
theorem dX0_elder_235 : decode cX0_elder 235 = .ok (.ldiv, 1) := dk_109 (dk_at dksX0_elder_9 23 rfl rfl)
theorem dX0_elder_236 : decode cX0_elder 236 = .ok (.lload 12, 2) := dk_22 12 (dk_at dksX0_elder_10 0 rfl rfl)
theorem dX0_elder_238 : decode cX0_elder 238 = .ok (.lcmp, 1) := dk_148 (dk_at dksX0_elder_10 2 rfl rfl)
theorem dX0_elder_239 : decode cX0_elder 239 = .ok (.ifCond .ge 7, 3) := dk_156 0 7 (dk_at dksX0_elder_10 3 rfl rfl)
theorem dX0_elder_242 : decode cX0_elder 242 = .ok (.iconst 1, 1) := dk_4 (dk_at dksX0_elder_10 6 rfl rfl)
theorem dX0_elder_243 : decode cX0_elder 243 = .ok (.goto 4, 3) := dk_167 0 4 (dk_at dksX0_elder_10 7 rfl rfl)
theorem dX0_elder_246 : decode cX0_elder 246 = .ok (.iconst 0, 1) := dk_3 (dk_at dksX0_elder_10 10 rfl rfl)
theorem dX0_elder_247 : decode cX0_elder 247 = .ok (.ireturn, 1) := dk_172 (dk_at dksX0_elder_10 11 rfl rfl)
abbrev cX0_cell : ByteArray := method_2_code
def yX0_cell : MethodName := ⟨RX0, "cell", "([II)I"⟩
def dkwX0_cell_0 : List UInt8 := [27, 42, 190, 162, 0, 9, 42, 27, 46, 167, 0, 4, 3, 172]
abbrev dktX0_cell_0 : List UInt8 := dkwX0_cell_0 ++ []
theorem dksX0_cell_0 : cX0_cell.data.toList.drop 0 = dktX0_cell_0 := by decide +kernel
theorem dX0_cell_0 : decode cX0_cell 0 = .ok (.iload_n 1, 1) := dk_27 (dk_at dksX0_cell_0 0 rfl rfl)
theorem dX0_cell_1 : decode cX0_cell 1 = .ok (.aload_n 0, 1) := dk_42 (dk_at dksX0_cell_0 1 rfl rfl)
theorem dX0_cell_2 : decode cX0_cell 2 = .ok (.arraylength, 1) := dk_190 (dk_at dksX0_cell_0 2 rfl rfl)
theorem dX0_cell_3 : decode cX0_cell 3 = .ok (.if_icmp .ge 9, 3) := dk_162 0 9 (dk_at dksX0_cell_0 3 rfl rfl)
theorem dX0_cell_6 : decode cX0_cell 6 = .ok (.aload_n 0, 1) := dk_42 (dk_at dksX0_cell_0 6 rfl rfl)
theorem dX0_cell_7 : decode cX0_cell 7 = .ok (.iload_n 1, 1) := dk_27 (dk_at dksX0_cell_0 7 rfl rfl)
theorem dX0_cell_8 : decode cX0_cell 8 = .ok (.iaload, 1) := dk_46 (dk_at dksX0_cell_0 8 rfl rfl)
theorem dX0_cell_9 : decode cX0_cell 9 = .ok (.goto 4, 3) := dk_167 0 4 (dk_at dksX0_cell_0 9 rfl rfl)
theorem dX0_cell_12 : decode cX0_cell 12 = .ok (.iconst 0, 1) := dk_3 (dk_at dksX0_cell_0 12 rfl rfl)
theorem dX0_cell_13 : decode cX0_cell 13 = .ok (.ireturn, 1) := dk_172 (dk_at dksX0_cell_0 13 rfl rfl)
abbrev cX0_askedDefined : ByteArray := method_9_code
def yX0_askedDefined : MethodName := ⟨RX0, "askedDefined", "([I)Z"⟩
def dkwX0_askedDefined_9 : List UInt8 := [132, 9, 1, 167, 255, 170, 132, 5, 1, 167, 255, 96, 4, 172]
abbrev dktX0_askedDefined_9 : List UInt8 := dkwX0_askedDefined_9 ++ []
def dkwX0_askedDefined_8 : List UInt8 := [154, 0, 20, 43, 21, 6, 21, 10, 182, 0, 30, 184, 0, 69, 22, 11, 148, 153, 0, 5, 3, 172]
abbrev dktX0_askedDefined_8 : List UInt8 := dkwX0_askedDefined_8 ++ dktX0_askedDefined_9
def dkwX0_askedDefined_7 : List UInt8 := [22, 11, 184, 0, 69, 148, 154, 0, 37, 43, 21, 6, 21, 10, 182, 0, 72, 22, 11, 184, 0, 75, 148]
abbrev dktX0_askedDefined_7 : List UInt8 := dkwX0_askedDefined_7 ++ dktX0_askedDefined_8
def dkwX0_askedDefined_6 : List UInt8 := [21, 6, 133, 16, 32, 121, 21, 10, 133, 20, 0, 24, 127, 129, 55, 11, 43, 21, 6, 21, 10, 182, 0, 26]
abbrev dktX0_askedDefined_6 : List UInt8 := dkwX0_askedDefined_6 ++ dktX0_askedDefined_7
def dkwX0_askedDefined_5 : List UInt8 := [58, 7, 25, 7, 190, 54, 8, 3, 54, 9, 21, 9, 21, 8, 162, 0, 85, 25, 7, 21, 9, 46, 54, 10]
abbrev dktX0_askedDefined_5 : List UInt8 := dkwX0_askedDefined_5 ++ dktX0_askedDefined_6
def dkwX0_askedDefined_4 : List UInt8 := [184, 0, 66, 160, 0, 17, 43, 21, 6, 182, 0, 20, 184, 0, 60, 21, 6, 159, 0, 5, 3, 172, 44]
abbrev dktX0_askedDefined_4 : List UInt8 := dkwX0_askedDefined_4 ++ dktX0_askedDefined_5
def dkwX0_askedDefined_3 : List UInt8 := [54, 6, 43, 21, 6, 182, 0, 16, 21, 6, 184, 0, 60, 160, 0, 31, 43, 21, 6, 182, 0, 63, 21, 6]
abbrev dktX0_askedDefined_3 : List UInt8 := dkwX0_askedDefined_3 ++ dktX0_askedDefined_4
def dkwX0_askedDefined_2 : List UInt8 := [18, 59, 79, 77, 44, 78, 45, 190, 54, 4, 3, 54, 5, 21, 5, 21, 4, 162, 0, 159, 45, 21, 5, 46]
abbrev dktX0_askedDefined_2 : List UInt8 := dkwX0_askedDefined_2 ++ dktX0_askedDefined_3
def dkwX0_askedDefined_1 : List UInt8 := [184, 0, 53, 79, 89, 5, 3, 79, 89, 6, 4, 79, 89, 7, 2, 79, 89, 8, 18, 58, 79, 89, 16, 6]
abbrev dktX0_askedDefined_1 : List UInt8 := dkwX0_askedDefined_1 ++ dktX0_askedDefined_2
def dkwX0_askedDefined_0 : List UInt8 := [187, 0, 7, 89, 183, 0, 9, 76, 16, 7, 188, 10, 89, 3, 42, 3, 184, 0, 53, 79, 89, 4, 42, 4]
abbrev dktX0_askedDefined_0 : List UInt8 := dkwX0_askedDefined_0 ++ dktX0_askedDefined_1
theorem dksX0_askedDefined_0 : cX0_askedDefined.data.toList.drop 0 = dktX0_askedDefined_0 := by decide +kernel
theorem dksX0_askedDefined_1 : cX0_askedDefined.data.toList.drop 24 = dktX0_askedDefined_1 := dk_seg dksX0_askedDefined_0 24 rfl rfl
theorem dksX0_askedDefined_2 : cX0_askedDefined.data.toList.drop 48 = dktX0_askedDefined_2 := dk_seg dksX0_askedDefined_1 24 rfl rfl
theorem dksX0_askedDefined_3 : cX0_askedDefined.data.toList.drop 72 = dktX0_askedDefined_3 := dk_seg dksX0_askedDefined_2 24 rfl rfl
theorem dksX0_askedDefined_4 : cX0_askedDefined.data.toList.drop 96 = dktX0_askedDefined_4 := dk_seg dksX0_askedDefined_3 24 rfl rfl
theorem dksX0_askedDefined_5 : cX0_askedDefined.data.toList.drop 119 = dktX0_askedDefined_5 := dk_seg dksX0_askedDefined_4 23 rfl rfl
theorem dksX0_askedDefined_6 : cX0_askedDefined.data.toList.drop 143 = dktX0_askedDefined_6 := dk_seg dksX0_askedDefined_5 24 rfl rfl
theorem dksX0_askedDefined_7 : cX0_askedDefined.data.toList.drop 167 = dktX0_askedDefined_7 := dk_seg dksX0_askedDefined_6 24 rfl rfl
theorem dksX0_askedDefined_8 : cX0_askedDefined.data.toList.drop 190 = dktX0_askedDefined_8 := dk_seg dksX0_askedDefined_7 23 rfl rfl
theorem dksX0_askedDefined_9 : cX0_askedDefined.data.toList.drop 212 = dktX0_askedDefined_9 := dk_seg dksX0_askedDefined_8 22 rfl rfl
theorem dX0_askedDefined_0 : decode cX0_askedDefined 0 = .ok (.new 7, 3) := dk_187 0 7 (dk_at dksX0_askedDefined_0 0 rfl rfl)
theorem dX0_askedDefined_3 : decode cX0_askedDefined 3 = .ok (.dup, 1) := dk_89 (dk_at dksX0_askedDefined_0 3 rfl rfl)
theorem dX0_askedDefined_4 : decode cX0_askedDefined 4 = .ok (.invokespecial 9, 3) := dk_183 0 9 (dk_at dksX0_askedDefined_0 4 rfl rfl)
theorem dX0_askedDefined_7 : decode cX0_askedDefined 7 = .ok (.astore_n 1, 1) := dk_76 (dk_at dksX0_askedDefined_0 7 rfl rfl)
theorem dX0_askedDefined_8 : decode cX0_askedDefined 8 = .ok (.bipush 7, 2) := dk_16 7 (dk_at dksX0_askedDefined_0 8 rfl rfl)
theorem dX0_askedDefined_10 : decode cX0_askedDefined 10 = .ok (.newarray .int, 2) := dk_188_10 (dk_at dksX0_askedDefined_0 10 rfl rfl)
theorem dX0_askedDefined_12 : decode cX0_askedDefined 12 = .ok (.dup, 1) := dk_89 (dk_at dksX0_askedDefined_0 12 rfl rfl)
theorem dX0_askedDefined_13 : decode cX0_askedDefined 13 = .ok (.iconst 0, 1) := dk_3 (dk_at dksX0_askedDefined_0 13 rfl rfl)
theorem dX0_askedDefined_14 : decode cX0_askedDefined 14 = .ok (.aload_n 0, 1) := dk_42 (dk_at dksX0_askedDefined_0 14 rfl rfl)
theorem dX0_askedDefined_15 : decode cX0_askedDefined 15 = .ok (.iconst 0, 1) := dk_3 (dk_at dksX0_askedDefined_0 15 rfl rfl)
theorem dX0_askedDefined_16 : decode cX0_askedDefined 16 = .ok (.invokestatic 53, 3) := dk_184 0 53 (dk_at dksX0_askedDefined_0 16 rfl rfl)
theorem dX0_askedDefined_19 : decode cX0_askedDefined 19 = .ok (.iastore, 1) := dk_79 (dk_at dksX0_askedDefined_0 19 rfl rfl)
theorem dX0_askedDefined_20 : decode cX0_askedDefined 20 = .ok (.dup, 1) := dk_89 (dk_at dksX0_askedDefined_0 20 rfl rfl)
theorem dX0_askedDefined_21 : decode cX0_askedDefined 21 = .ok (.iconst 1, 1) := dk_4 (dk_at dksX0_askedDefined_0 21 rfl rfl)
theorem dX0_askedDefined_22 : decode cX0_askedDefined 22 = .ok (.aload_n 0, 1) := dk_42 (dk_at dksX0_askedDefined_0 22 rfl rfl)
theorem dX0_askedDefined_23 : decode cX0_askedDefined 23 = .ok (.iconst 1, 1) := dk_4 (dk_at dksX0_askedDefined_0 23 rfl rfl)
theorem dX0_askedDefined_24 : decode cX0_askedDefined 24 = .ok (.invokestatic 53, 3) := dk_184 0 53 (dk_at dksX0_askedDefined_1 0 rfl rfl)
theorem dX0_askedDefined_27 : decode cX0_askedDefined 27 = .ok (.iastore, 1) := dk_79 (dk_at dksX0_askedDefined_1 3 rfl rfl)
theorem dX0_askedDefined_28 : decode cX0_askedDefined 28 = .ok (.dup, 1) := dk_89 (dk_at dksX0_askedDefined_1 4 rfl rfl)
theorem dX0_askedDefined_29 : decode cX0_askedDefined 29 = .ok (.iconst 2, 1) := dk_5 (dk_at dksX0_askedDefined_1 5 rfl rfl)
theorem dX0_askedDefined_30 : decode cX0_askedDefined 30 = .ok (.iconst 0, 1) := dk_3 (dk_at dksX0_askedDefined_1 6 rfl rfl)
theorem dX0_askedDefined_31 : decode cX0_askedDefined 31 = .ok (.iastore, 1) := dk_79 (dk_at dksX0_askedDefined_1 7 rfl rfl)
theorem dX0_askedDefined_32 : decode cX0_askedDefined 32 = .ok (.dup, 1) := dk_89 (dk_at dksX0_askedDefined_1 8 rfl rfl)
theorem dX0_askedDefined_33 : decode cX0_askedDefined 33 = .ok (.iconst 3, 1) := dk_6 (dk_at dksX0_askedDefined_1 9 rfl rfl)
theorem dX0_askedDefined_34 : decode cX0_askedDefined 34 = .ok (.iconst 1, 1) := dk_4 (dk_at dksX0_askedDefined_1 10 rfl rfl)
theorem dX0_askedDefined_35 : decode cX0_askedDefined 35 = .ok (.iastore, 1) := dk_79 (dk_at dksX0_askedDefined_1 11 rfl rfl)
theorem dX0_askedDefined_36 : decode cX0_askedDefined 36 = .ok (.dup, 1) := dk_89 (dk_at dksX0_askedDefined_1 12 rfl rfl)
theorem dX0_askedDefined_37 : decode cX0_askedDefined 37 = .ok (.iconst 4, 1) := dk_7 (dk_at dksX0_askedDefined_1 13 rfl rfl)
theorem dX0_askedDefined_38 : decode cX0_askedDefined 38 = .ok (.iconst (-1), 1) := dk_2 (dk_at dksX0_askedDefined_1 14 rfl rfl)
theorem dX0_askedDefined_39 : decode cX0_askedDefined 39 = .ok (.iastore, 1) := dk_79 (dk_at dksX0_askedDefined_1 15 rfl rfl)
theorem dX0_askedDefined_40 : decode cX0_askedDefined 40 = .ok (.dup, 1) := dk_89 (dk_at dksX0_askedDefined_1 16 rfl rfl)
theorem dX0_askedDefined_41 : decode cX0_askedDefined 41 = .ok (.iconst 5, 1) := dk_8 (dk_at dksX0_askedDefined_1 17 rfl rfl)
theorem dX0_askedDefined_42 : decode cX0_askedDefined 42 = .ok (.ldc 58, 2) := dk_18 58 (dk_at dksX0_askedDefined_1 18 rfl rfl)
theorem dX0_askedDefined_44 : decode cX0_askedDefined 44 = .ok (.iastore, 1) := dk_79 (dk_at dksX0_askedDefined_1 20 rfl rfl)
theorem dX0_askedDefined_45 : decode cX0_askedDefined 45 = .ok (.dup, 1) := dk_89 (dk_at dksX0_askedDefined_1 21 rfl rfl)
theorem dX0_askedDefined_46 : decode cX0_askedDefined 46 = .ok (.bipush 6, 2) := dk_16 6 (dk_at dksX0_askedDefined_1 22 rfl rfl)
theorem dX0_askedDefined_48 : decode cX0_askedDefined 48 = .ok (.ldc 59, 2) := dk_18 59 (dk_at dksX0_askedDefined_2 0 rfl rfl)
theorem dX0_askedDefined_50 : decode cX0_askedDefined 50 = .ok (.iastore, 1) := dk_79 (dk_at dksX0_askedDefined_2 2 rfl rfl)
theorem dX0_askedDefined_51 : decode cX0_askedDefined 51 = .ok (.astore_n 2, 1) := dk_77 (dk_at dksX0_askedDefined_2 3 rfl rfl)
theorem dX0_askedDefined_52 : decode cX0_askedDefined 52 = .ok (.aload_n 2, 1) := dk_44 (dk_at dksX0_askedDefined_2 4 rfl rfl)
theorem dX0_askedDefined_53 : decode cX0_askedDefined 53 = .ok (.astore_n 3, 1) := dk_78 (dk_at dksX0_askedDefined_2 5 rfl rfl)
theorem dX0_askedDefined_54 : decode cX0_askedDefined 54 = .ok (.aload_n 3, 1) := dk_45 (dk_at dksX0_askedDefined_2 6 rfl rfl)
theorem dX0_askedDefined_55 : decode cX0_askedDefined 55 = .ok (.arraylength, 1) := dk_190 (dk_at dksX0_askedDefined_2 7 rfl rfl)
theorem dX0_askedDefined_56 : decode cX0_askedDefined 56 = .ok (.istore 4, 2) := dk_54 4 (dk_at dksX0_askedDefined_2 8 rfl rfl)
theorem dX0_askedDefined_58 : decode cX0_askedDefined 58 = .ok (.iconst 0, 1) := dk_3 (dk_at dksX0_askedDefined_2 10 rfl rfl)
theorem dX0_askedDefined_59 : decode cX0_askedDefined 59 = .ok (.istore 5, 2) := dk_54 5 (dk_at dksX0_askedDefined_2 11 rfl rfl)
theorem dX0_askedDefined_61 : decode cX0_askedDefined 61 = .ok (.iload 5, 2) := dk_21 5 (dk_at dksX0_askedDefined_2 13 rfl rfl)
theorem dX0_askedDefined_63 : decode cX0_askedDefined 63 = .ok (.iload 4, 2) := dk_21 4 (dk_at dksX0_askedDefined_2 15 rfl rfl)
theorem dX0_askedDefined_65 : decode cX0_askedDefined 65 = .ok (.if_icmp .ge 159, 3) := dk_162 0 159 (dk_at dksX0_askedDefined_2 17 rfl rfl)
theorem dX0_askedDefined_68 : decode cX0_askedDefined 68 = .ok (.aload_n 3, 1) := dk_45 (dk_at dksX0_askedDefined_2 20 rfl rfl)
theorem dX0_askedDefined_69 : decode cX0_askedDefined 69 = .ok (.iload 5, 2) := dk_21 5 (dk_at dksX0_askedDefined_2 21 rfl rfl)
theorem dX0_askedDefined_71 : decode cX0_askedDefined 71 = .ok (.iaload, 1) := dk_46 (dk_at dksX0_askedDefined_2 23 rfl rfl)
theorem dX0_askedDefined_72 : decode cX0_askedDefined 72 = .ok (.istore 6, 2) := dk_54 6 (dk_at dksX0_askedDefined_3 0 rfl rfl)
theorem dX0_askedDefined_74 : decode cX0_askedDefined 74 = .ok (.aload_n 1, 1) := dk_43 (dk_at dksX0_askedDefined_3 2 rfl rfl)
theorem dX0_askedDefined_75 : decode cX0_askedDefined 75 = .ok (.iload 6, 2) := dk_21 6 (dk_at dksX0_askedDefined_3 3 rfl rfl)
theorem dX0_askedDefined_77 : decode cX0_askedDefined 77 = .ok (.invokevirtual 16, 3) := dk_182 0 16 (dk_at dksX0_askedDefined_3 5 rfl rfl)
theorem dX0_askedDefined_80 : decode cX0_askedDefined 80 = .ok (.iload 6, 2) := dk_21 6 (dk_at dksX0_askedDefined_3 8 rfl rfl)
theorem dX0_askedDefined_82 : decode cX0_askedDefined 82 = .ok (.invokestatic 60, 3) := dk_184 0 60 (dk_at dksX0_askedDefined_3 10 rfl rfl)
theorem dX0_askedDefined_85 : decode cX0_askedDefined 85 = .ok (.if_icmp .ne 31, 3) := dk_160 0 31 (dk_at dksX0_askedDefined_3 13 rfl rfl)
theorem dX0_askedDefined_88 : decode cX0_askedDefined 88 = .ok (.aload_n 1, 1) := dk_43 (dk_at dksX0_askedDefined_3 16 rfl rfl)
theorem dX0_askedDefined_89 : decode cX0_askedDefined 89 = .ok (.iload 6, 2) := dk_21 6 (dk_at dksX0_askedDefined_3 17 rfl rfl)
theorem dX0_askedDefined_91 : decode cX0_askedDefined 91 = .ok (.invokevirtual 63, 3) := dk_182 0 63 (dk_at dksX0_askedDefined_3 19 rfl rfl)
theorem dX0_askedDefined_94 : decode cX0_askedDefined 94 = .ok (.iload 6, 2) := dk_21 6 (dk_at dksX0_askedDefined_3 22 rfl rfl)
theorem dX0_askedDefined_96 : decode cX0_askedDefined 96 = .ok (.invokestatic 66, 3) := dk_184 0 66 (dk_at dksX0_askedDefined_4 0 rfl rfl)
theorem dX0_askedDefined_99 : decode cX0_askedDefined 99 = .ok (.if_icmp .ne 17, 3) := dk_160 0 17 (dk_at dksX0_askedDefined_4 3 rfl rfl)
theorem dX0_askedDefined_102 : decode cX0_askedDefined 102 = .ok (.aload_n 1, 1) := dk_43 (dk_at dksX0_askedDefined_4 6 rfl rfl)
theorem dX0_askedDefined_103 : decode cX0_askedDefined 103 = .ok (.iload 6, 2) := dk_21 6 (dk_at dksX0_askedDefined_4 7 rfl rfl)
theorem dX0_askedDefined_105 : decode cX0_askedDefined 105 = .ok (.invokevirtual 20, 3) := dk_182 0 20 (dk_at dksX0_askedDefined_4 9 rfl rfl)
theorem dX0_askedDefined_108 : decode cX0_askedDefined 108 = .ok (.invokestatic 60, 3) := dk_184 0 60 (dk_at dksX0_askedDefined_4 12 rfl rfl)
theorem dX0_askedDefined_111 : decode cX0_askedDefined 111 = .ok (.iload 6, 2) := dk_21 6 (dk_at dksX0_askedDefined_4 15 rfl rfl)
theorem dX0_askedDefined_113 : decode cX0_askedDefined 113 = .ok (.if_icmp .eq 5, 3) := dk_159 0 5 (dk_at dksX0_askedDefined_4 17 rfl rfl)
theorem dX0_askedDefined_116 : decode cX0_askedDefined 116 = .ok (.iconst 0, 1) := dk_3 (dk_at dksX0_askedDefined_4 20 rfl rfl)
theorem dX0_askedDefined_117 : decode cX0_askedDefined 117 = .ok (.ireturn, 1) := dk_172 (dk_at dksX0_askedDefined_4 21 rfl rfl)
theorem dX0_askedDefined_118 : decode cX0_askedDefined 118 = .ok (.aload_n 2, 1) := dk_44 (dk_at dksX0_askedDefined_4 22 rfl rfl)
theorem dX0_askedDefined_119 : decode cX0_askedDefined 119 = .ok (.astore 7, 2) := dk_58 7 (dk_at dksX0_askedDefined_5 0 rfl rfl)
theorem dX0_askedDefined_121 : decode cX0_askedDefined 121 = .ok (.aload 7, 2) := dk_25 7 (dk_at dksX0_askedDefined_5 2 rfl rfl)
theorem dX0_askedDefined_123 : decode cX0_askedDefined 123 = .ok (.arraylength, 1) := dk_190 (dk_at dksX0_askedDefined_5 4 rfl rfl)
theorem dX0_askedDefined_124 : decode cX0_askedDefined 124 = .ok (.istore 8, 2) := dk_54 8 (dk_at dksX0_askedDefined_5 5 rfl rfl)
theorem dX0_askedDefined_126 : decode cX0_askedDefined 126 = .ok (.iconst 0, 1) := dk_3 (dk_at dksX0_askedDefined_5 7 rfl rfl)
theorem dX0_askedDefined_127 : decode cX0_askedDefined 127 = .ok (.istore 9, 2) := dk_54 9 (dk_at dksX0_askedDefined_5 8 rfl rfl)
theorem dX0_askedDefined_129 : decode cX0_askedDefined 129 = .ok (.iload 9, 2) := dk_21 9 (dk_at dksX0_askedDefined_5 10 rfl rfl)
theorem dX0_askedDefined_131 : decode cX0_askedDefined 131 = .ok (.iload 8, 2) := dk_21 8 (dk_at dksX0_askedDefined_5 12 rfl rfl)
theorem dX0_askedDefined_133 : decode cX0_askedDefined 133 = .ok (.if_icmp .ge 85, 3) := dk_162 0 85 (dk_at dksX0_askedDefined_5 14 rfl rfl)
theorem dX0_askedDefined_136 : decode cX0_askedDefined 136 = .ok (.aload 7, 2) := dk_25 7 (dk_at dksX0_askedDefined_5 17 rfl rfl)
theorem dX0_askedDefined_138 : decode cX0_askedDefined 138 = .ok (.iload 9, 2) := dk_21 9 (dk_at dksX0_askedDefined_5 19 rfl rfl)
theorem dX0_askedDefined_140 : decode cX0_askedDefined 140 = .ok (.iaload, 1) := dk_46 (dk_at dksX0_askedDefined_5 21 rfl rfl)
theorem dX0_askedDefined_141 : decode cX0_askedDefined 141 = .ok (.istore 10, 2) := dk_54 10 (dk_at dksX0_askedDefined_5 22 rfl rfl)
theorem dX0_askedDefined_143 : decode cX0_askedDefined 143 = .ok (.iload 6, 2) := dk_21 6 (dk_at dksX0_askedDefined_6 0 rfl rfl)
theorem dX0_askedDefined_145 : decode cX0_askedDefined 145 = .ok (.i2l, 1) := dk_133 (dk_at dksX0_askedDefined_6 2 rfl rfl)
theorem dX0_askedDefined_146 : decode cX0_askedDefined 146 = .ok (.bipush 32, 2) := dk_16 32 (dk_at dksX0_askedDefined_6 3 rfl rfl)
theorem dX0_askedDefined_148 : decode cX0_askedDefined 148 = .ok (.lshl, 1) := dk_121 (dk_at dksX0_askedDefined_6 5 rfl rfl)
theorem dX0_askedDefined_149 : decode cX0_askedDefined 149 = .ok (.iload 10, 2) := dk_21 10 (dk_at dksX0_askedDefined_6 6 rfl rfl)
theorem dX0_askedDefined_151 : decode cX0_askedDefined 151 = .ok (.i2l, 1) := dk_133 (dk_at dksX0_askedDefined_6 8 rfl rfl)
theorem dX0_askedDefined_152 : decode cX0_askedDefined 152 = .ok (.ldc2_w 24, 3) := dk_20 0 24 (dk_at dksX0_askedDefined_6 9 rfl rfl)
theorem dX0_askedDefined_155 : decode cX0_askedDefined 155 = .ok (.land, 1) := dk_127 (dk_at dksX0_askedDefined_6 12 rfl rfl)
theorem dX0_askedDefined_156 : decode cX0_askedDefined 156 = .ok (.lor, 1) := dk_129 (dk_at dksX0_askedDefined_6 13 rfl rfl)
theorem dX0_askedDefined_157 : decode cX0_askedDefined 157 = .ok (.lstore 11, 2) := dk_55 11 (dk_at dksX0_askedDefined_6 14 rfl rfl)
theorem dX0_askedDefined_159 : decode cX0_askedDefined 159 = .ok (.aload_n 1, 1) := dk_43 (dk_at dksX0_askedDefined_6 16 rfl rfl)
theorem dX0_askedDefined_160 : decode cX0_askedDefined 160 = .ok (.iload 6, 2) := dk_21 6 (dk_at dksX0_askedDefined_6 17 rfl rfl)
theorem dX0_askedDefined_162 : decode cX0_askedDefined 162 = .ok (.iload 10, 2) := dk_21 10 (dk_at dksX0_askedDefined_6 19 rfl rfl)
theorem dX0_askedDefined_164 : decode cX0_askedDefined 164 = .ok (.invokevirtual 26, 3) := dk_182 0 26 (dk_at dksX0_askedDefined_6 21 rfl rfl)
theorem dX0_askedDefined_167 : decode cX0_askedDefined 167 = .ok (.lload 11, 2) := dk_22 11 (dk_at dksX0_askedDefined_7 0 rfl rfl)
theorem dX0_askedDefined_169 : decode cX0_askedDefined 169 = .ok (.invokestatic 69, 3) := dk_184 0 69 (dk_at dksX0_askedDefined_7 2 rfl rfl)
theorem dX0_askedDefined_172 : decode cX0_askedDefined 172 = .ok (.lcmp, 1) := dk_148 (dk_at dksX0_askedDefined_7 5 rfl rfl)
theorem dX0_askedDefined_173 : decode cX0_askedDefined 173 = .ok (.ifCond .ne 37, 3) := dk_154 0 37 (dk_at dksX0_askedDefined_7 6 rfl rfl)
theorem dX0_askedDefined_176 : decode cX0_askedDefined 176 = .ok (.aload_n 1, 1) := dk_43 (dk_at dksX0_askedDefined_7 9 rfl rfl)
theorem dX0_askedDefined_177 : decode cX0_askedDefined 177 = .ok (.iload 6, 2) := dk_21 6 (dk_at dksX0_askedDefined_7 10 rfl rfl)
theorem dX0_askedDefined_179 : decode cX0_askedDefined 179 = .ok (.iload 10, 2) := dk_21 10 (dk_at dksX0_askedDefined_7 12 rfl rfl)
theorem dX0_askedDefined_181 : decode cX0_askedDefined 181 = .ok (.invokevirtual 72, 3) := dk_182 0 72 (dk_at dksX0_askedDefined_7 14 rfl rfl)
theorem dX0_askedDefined_184 : decode cX0_askedDefined 184 = .ok (.lload 11, 2) := dk_22 11 (dk_at dksX0_askedDefined_7 17 rfl rfl)
theorem dX0_askedDefined_186 : decode cX0_askedDefined 186 = .ok (.invokestatic 75, 3) := dk_184 0 75 (dk_at dksX0_askedDefined_7 19 rfl rfl)
theorem dX0_askedDefined_189 : decode cX0_askedDefined 189 = .ok (.lcmp, 1) := dk_148 (dk_at dksX0_askedDefined_7 22 rfl rfl)
theorem dX0_askedDefined_190 : decode cX0_askedDefined 190 = .ok (.ifCond .ne 20, 3) := dk_154 0 20 (dk_at dksX0_askedDefined_8 0 rfl rfl)
theorem dX0_askedDefined_193 : decode cX0_askedDefined 193 = .ok (.aload_n 1, 1) := dk_43 (dk_at dksX0_askedDefined_8 3 rfl rfl)
theorem dX0_askedDefined_194 : decode cX0_askedDefined 194 = .ok (.iload 6, 2) := dk_21 6 (dk_at dksX0_askedDefined_8 4 rfl rfl)
theorem dX0_askedDefined_196 : decode cX0_askedDefined 196 = .ok (.iload 10, 2) := dk_21 10 (dk_at dksX0_askedDefined_8 6 rfl rfl)
theorem dX0_askedDefined_198 : decode cX0_askedDefined 198 = .ok (.invokevirtual 30, 3) := dk_182 0 30 (dk_at dksX0_askedDefined_8 8 rfl rfl)
theorem dX0_askedDefined_201 : decode cX0_askedDefined 201 = .ok (.invokestatic 69, 3) := dk_184 0 69 (dk_at dksX0_askedDefined_8 11 rfl rfl)
theorem dX0_askedDefined_204 : decode cX0_askedDefined 204 = .ok (.lload 11, 2) := dk_22 11 (dk_at dksX0_askedDefined_8 14 rfl rfl)
theorem dX0_askedDefined_206 : decode cX0_askedDefined 206 = .ok (.lcmp, 1) := dk_148 (dk_at dksX0_askedDefined_8 16 rfl rfl)
theorem dX0_askedDefined_207 : decode cX0_askedDefined 207 = .ok (.ifCond .eq 5, 3) := dk_153 0 5 (dk_at dksX0_askedDefined_8 17 rfl rfl)
theorem dX0_askedDefined_210 : decode cX0_askedDefined 210 = .ok (.iconst 0, 1) := dk_3 (dk_at dksX0_askedDefined_8 20 rfl rfl)
theorem dX0_askedDefined_211 : decode cX0_askedDefined 211 = .ok (.ireturn, 1) := dk_172 (dk_at dksX0_askedDefined_8 21 rfl rfl)
theorem dX0_askedDefined_212 : decode cX0_askedDefined 212 = .ok (.iinc 9 1, 3) := dk_132 9 1 (dk_at dksX0_askedDefined_9 0 rfl rfl)
theorem dX0_askedDefined_215 : decode cX0_askedDefined 215 = .ok (.goto (-86), 3) := dk_167 255 170 (dk_at dksX0_askedDefined_9 3 rfl rfl)
theorem dX0_askedDefined_218 : decode cX0_askedDefined 218 = .ok (.iinc 5 1, 3) := dk_132 5 1 (dk_at dksX0_askedDefined_9 6 rfl rfl)
theorem dX0_askedDefined_221 : decode cX0_askedDefined 221 = .ok (.goto (-160), 3) := dk_167 255 96 (dk_at dksX0_askedDefined_9 9 rfl rfl)
theorem dX0_askedDefined_224 : decode cX0_askedDefined 224 = .ok (.iconst 1, 1) := dk_4 (dk_at dksX0_askedDefined_9 12 rfl rfl)
theorem dX0_askedDefined_225 : decode cX0_askedDefined 225 = .ok (.ireturn, 1) := dk_172 (dk_at dksX0_askedDefined_9 13 rfl rfl)
abbrev cX0_askedCell : ByteArray := method_4_code
def yX0_askedCell : MethodName := ⟨RX0, "askedCell", "([II)I"⟩
def dkwX0_askedCell_0 : List UInt8 := [27, 42, 190, 162, 0, 9, 42, 27, 46, 167, 0, 4, 3, 172]
abbrev dktX0_askedCell_0 : List UInt8 := dkwX0_askedCell_0 ++ []
theorem dksX0_askedCell_0 : cX0_askedCell.data.toList.drop 0 = dktX0_askedCell_0 := by decide +kernel
theorem dX0_askedCell_0 : decode cX0_askedCell 0 = .ok (.iload_n 1, 1) := dk_27 (dk_at dksX0_askedCell_0 0 rfl rfl)
theorem dX0_askedCell_1 : decode cX0_askedCell 1 = .ok (.aload_n 0, 1) := dk_42 (dk_at dksX0_askedCell_0 1 rfl rfl)
theorem dX0_askedCell_2 : decode cX0_askedCell 2 = .ok (.arraylength, 1) := dk_190 (dk_at dksX0_askedCell_0 2 rfl rfl)
theorem dX0_askedCell_3 : decode cX0_askedCell 3 = .ok (.if_icmp .ge 9, 3) := dk_162 0 9 (dk_at dksX0_askedCell_0 3 rfl rfl)
theorem dX0_askedCell_6 : decode cX0_askedCell 6 = .ok (.aload_n 0, 1) := dk_42 (dk_at dksX0_askedCell_0 6 rfl rfl)
theorem dX0_askedCell_7 : decode cX0_askedCell 7 = .ok (.iload_n 1, 1) := dk_27 (dk_at dksX0_askedCell_0 7 rfl rfl)
theorem dX0_askedCell_8 : decode cX0_askedCell 8 = .ok (.iaload, 1) := dk_46 (dk_at dksX0_askedCell_0 8 rfl rfl)
theorem dX0_askedCell_9 : decode cX0_askedCell 9 = .ok (.goto 4, 3) := dk_167 0 4 (dk_at dksX0_askedCell_0 9 rfl rfl)
theorem dX0_askedCell_12 : decode cX0_askedCell 12 = .ok (.iconst 0, 1) := dk_3 (dk_at dksX0_askedCell_0 12 rfl rfl)
theorem dX0_askedCell_13 : decode cX0_askedCell 13 = .ok (.ireturn, 1) := dk_172 (dk_at dksX0_askedCell_0 13 rfl rfl)
abbrev cX0_askedMix : ByteArray := method_5_code
def yX0_askedMix : MethodName := ⟨RX0, "askedMix", "(I)I"⟩
def dkwX0_askedMix_0 : List UInt8 := [26, 18, 44, 104, 60, 27, 27, 16, 16, 124, 130, 172]
abbrev dktX0_askedMix_0 : List UInt8 := dkwX0_askedMix_0 ++ []
theorem dksX0_askedMix_0 : cX0_askedMix.data.toList.drop 0 = dktX0_askedMix_0 := by decide +kernel
theorem dX0_askedMix_0 : decode cX0_askedMix 0 = .ok (.iload_n 0, 1) := dk_26 (dk_at dksX0_askedMix_0 0 rfl rfl)
theorem dX0_askedMix_1 : decode cX0_askedMix 1 = .ok (.ldc 44, 2) := dk_18 44 (dk_at dksX0_askedMix_0 1 rfl rfl)
theorem dX0_askedMix_3 : decode cX0_askedMix 3 = .ok (.imul, 1) := dk_104 (dk_at dksX0_askedMix_0 3 rfl rfl)
theorem dX0_askedMix_4 : decode cX0_askedMix 4 = .ok (.istore_n 1, 1) := dk_60 (dk_at dksX0_askedMix_0 4 rfl rfl)
theorem dX0_askedMix_5 : decode cX0_askedMix 5 = .ok (.iload_n 1, 1) := dk_27 (dk_at dksX0_askedMix_0 5 rfl rfl)
theorem dX0_askedMix_6 : decode cX0_askedMix 6 = .ok (.iload_n 1, 1) := dk_27 (dk_at dksX0_askedMix_0 6 rfl rfl)
theorem dX0_askedMix_7 : decode cX0_askedMix 7 = .ok (.bipush 16, 2) := dk_16 16 (dk_at dksX0_askedMix_0 7 rfl rfl)
theorem dX0_askedMix_9 : decode cX0_askedMix 9 = .ok (.iushr, 1) := dk_124 (dk_at dksX0_askedMix_0 9 rfl rfl)
theorem dX0_askedMix_10 : decode cX0_askedMix 10 = .ok (.ixor, 1) := dk_130 (dk_at dksX0_askedMix_0 10 rfl rfl)
theorem dX0_askedMix_11 : decode cX0_askedMix 11 = .ok (.ireturn, 1) := dk_172 (dk_at dksX0_askedMix_0 11 rfl rfl)
abbrev cX0_askedMurmur : ByteArray := method_7_code
def yX0_askedMurmur : MethodName := ⟨RX0, "askedMurmur", "(I)I"⟩
def dkwX0_askedMurmur_1 : List UInt8 := [104, 60, 27, 27, 16, 16, 124, 130, 172]
abbrev dktX0_askedMurmur_1 : List UInt8 := dkwX0_askedMurmur_1 ++ []
def dkwX0_askedMurmur_0 : List UInt8 := [26, 60, 27, 27, 16, 16, 124, 130, 60, 27, 18, 47, 104, 60, 27, 27, 16, 13, 124, 130, 60, 27, 18, 48]
abbrev dktX0_askedMurmur_0 : List UInt8 := dkwX0_askedMurmur_0 ++ dktX0_askedMurmur_1
theorem dksX0_askedMurmur_0 : cX0_askedMurmur.data.toList.drop 0 = dktX0_askedMurmur_0 := by decide +kernel
theorem dksX0_askedMurmur_1 : cX0_askedMurmur.data.toList.drop 24 = dktX0_askedMurmur_1 := dk_seg dksX0_askedMurmur_0 24 rfl rfl
theorem dX0_askedMurmur_0 : decode cX0_askedMurmur 0 = .ok (.iload_n 0, 1) := dk_26 (dk_at dksX0_askedMurmur_0 0 rfl rfl)
theorem dX0_askedMurmur_1 : decode cX0_askedMurmur 1 = .ok (.istore_n 1, 1) := dk_60 (dk_at dksX0_askedMurmur_0 1 rfl rfl)
theorem dX0_askedMurmur_2 : decode cX0_askedMurmur 2 = .ok (.iload_n 1, 1) := dk_27 (dk_at dksX0_askedMurmur_0 2 rfl rfl)
theorem dX0_askedMurmur_3 : decode cX0_askedMurmur 3 = .ok (.iload_n 1, 1) := dk_27 (dk_at dksX0_askedMurmur_0 3 rfl rfl)
theorem dX0_askedMurmur_4 : decode cX0_askedMurmur 4 = .ok (.bipush 16, 2) := dk_16 16 (dk_at dksX0_askedMurmur_0 4 rfl rfl)
theorem dX0_askedMurmur_6 : decode cX0_askedMurmur 6 = .ok (.iushr, 1) := dk_124 (dk_at dksX0_askedMurmur_0 6 rfl rfl)
theorem dX0_askedMurmur_7 : decode cX0_askedMurmur 7 = .ok (.ixor, 1) := dk_130 (dk_at dksX0_askedMurmur_0 7 rfl rfl)
theorem dX0_askedMurmur_8 : decode cX0_askedMurmur 8 = .ok (.istore_n 1, 1) := dk_60 (dk_at dksX0_askedMurmur_0 8 rfl rfl)
theorem dX0_askedMurmur_9 : decode cX0_askedMurmur 9 = .ok (.iload_n 1, 1) := dk_27 (dk_at dksX0_askedMurmur_0 9 rfl rfl)
theorem dX0_askedMurmur_10 : decode cX0_askedMurmur 10 = .ok (.ldc 47, 2) := dk_18 47 (dk_at dksX0_askedMurmur_0 10 rfl rfl)
theorem dX0_askedMurmur_12 : decode cX0_askedMurmur 12 = .ok (.imul, 1) := dk_104 (dk_at dksX0_askedMurmur_0 12 rfl rfl)
theorem dX0_askedMurmur_13 : decode cX0_askedMurmur 13 = .ok (.istore_n 1, 1) := dk_60 (dk_at dksX0_askedMurmur_0 13 rfl rfl)
theorem dX0_askedMurmur_14 : decode cX0_askedMurmur 14 = .ok (.iload_n 1, 1) := dk_27 (dk_at dksX0_askedMurmur_0 14 rfl rfl)
theorem dX0_askedMurmur_15 : decode cX0_askedMurmur 15 = .ok (.iload_n 1, 1) := dk_27 (dk_at dksX0_askedMurmur_0 15 rfl rfl)
theorem dX0_askedMurmur_16 : decode cX0_askedMurmur 16 = .ok (.bipush 13, 2) := dk_16 13 (dk_at dksX0_askedMurmur_0 16 rfl rfl)
theorem dX0_askedMurmur_18 : decode cX0_askedMurmur 18 = .ok (.iushr, 1) := dk_124 (dk_at dksX0_askedMurmur_0 18 rfl rfl)
theorem dX0_askedMurmur_19 : decode cX0_askedMurmur 19 = .ok (.ixor, 1) := dk_130 (dk_at dksX0_askedMurmur_0 19 rfl rfl)
theorem dX0_askedMurmur_20 : decode cX0_askedMurmur 20 = .ok (.istore_n 1, 1) := dk_60 (dk_at dksX0_askedMurmur_0 20 rfl rfl)
theorem dX0_askedMurmur_21 : decode cX0_askedMurmur 21 = .ok (.iload_n 1, 1) := dk_27 (dk_at dksX0_askedMurmur_0 21 rfl rfl)
theorem dX0_askedMurmur_22 : decode cX0_askedMurmur 22 = .ok (.ldc 48, 2) := dk_18 48 (dk_at dksX0_askedMurmur_0 22 rfl rfl)
theorem dX0_askedMurmur_24 : decode cX0_askedMurmur 24 = .ok (.imul, 1) := dk_104 (dk_at dksX0_askedMurmur_1 0 rfl rfl)
theorem dX0_askedMurmur_25 : decode cX0_askedMurmur 25 = .ok (.istore_n 1, 1) := dk_60 (dk_at dksX0_askedMurmur_1 1 rfl rfl)
theorem dX0_askedMurmur_26 : decode cX0_askedMurmur 26 = .ok (.iload_n 1, 1) := dk_27 (dk_at dksX0_askedMurmur_1 2 rfl rfl)
theorem dX0_askedMurmur_27 : decode cX0_askedMurmur 27 = .ok (.iload_n 1, 1) := dk_27 (dk_at dksX0_askedMurmur_1 3 rfl rfl)
theorem dX0_askedMurmur_28 : decode cX0_askedMurmur 28 = .ok (.bipush 16, 2) := dk_16 16 (dk_at dksX0_askedMurmur_1 4 rfl rfl)
theorem dX0_askedMurmur_30 : decode cX0_askedMurmur 30 = .ok (.iushr, 1) := dk_124 (dk_at dksX0_askedMurmur_1 6 rfl rfl)
theorem dX0_askedMurmur_31 : decode cX0_askedMurmur 31 = .ok (.ixor, 1) := dk_130 (dk_at dksX0_askedMurmur_1 7 rfl rfl)
theorem dX0_askedMurmur_32 : decode cX0_askedMurmur 32 = .ok (.ireturn, 1) := dk_172 (dk_at dksX0_askedMurmur_1 8 rfl rfl)
abbrev cX0_askedMix_2 : ByteArray := method_6_code
def yX0_askedMix_2 : MethodName := ⟨RX0, "askedMix", "(J)J"⟩
def dkwX0_askedMix_2_0 : List UInt8 := [30, 20, 0, 45, 105, 65, 32, 32, 16, 32, 125, 131, 65, 32, 32, 16, 16, 125, 131, 173]
abbrev dktX0_askedMix_2_0 : List UInt8 := dkwX0_askedMix_2_0 ++ []
theorem dksX0_askedMix_2_0 : cX0_askedMix_2.data.toList.drop 0 = dktX0_askedMix_2_0 := by decide +kernel
theorem dX0_askedMix_2_0 : decode cX0_askedMix_2 0 = .ok (.lload_n 0, 1) := dk_30 (dk_at dksX0_askedMix_2_0 0 rfl rfl)
theorem dX0_askedMix_2_1 : decode cX0_askedMix_2 1 = .ok (.ldc2_w 45, 3) := dk_20 0 45 (dk_at dksX0_askedMix_2_0 1 rfl rfl)
theorem dX0_askedMix_2_4 : decode cX0_askedMix_2 4 = .ok (.lmul, 1) := dk_105 (dk_at dksX0_askedMix_2_0 4 rfl rfl)
theorem dX0_askedMix_2_5 : decode cX0_askedMix_2 5 = .ok (.lstore_n 2, 1) := dk_65 (dk_at dksX0_askedMix_2_0 5 rfl rfl)
theorem dX0_askedMix_2_6 : decode cX0_askedMix_2 6 = .ok (.lload_n 2, 1) := dk_32 (dk_at dksX0_askedMix_2_0 6 rfl rfl)
theorem dX0_askedMix_2_7 : decode cX0_askedMix_2 7 = .ok (.lload_n 2, 1) := dk_32 (dk_at dksX0_askedMix_2_0 7 rfl rfl)
theorem dX0_askedMix_2_8 : decode cX0_askedMix_2 8 = .ok (.bipush 32, 2) := dk_16 32 (dk_at dksX0_askedMix_2_0 8 rfl rfl)
theorem dX0_askedMix_2_10 : decode cX0_askedMix_2 10 = .ok (.lushr, 1) := dk_125 (dk_at dksX0_askedMix_2_0 10 rfl rfl)
theorem dX0_askedMix_2_11 : decode cX0_askedMix_2 11 = .ok (.lxor, 1) := dk_131 (dk_at dksX0_askedMix_2_0 11 rfl rfl)
theorem dX0_askedMix_2_12 : decode cX0_askedMix_2 12 = .ok (.lstore_n 2, 1) := dk_65 (dk_at dksX0_askedMix_2_0 12 rfl rfl)
theorem dX0_askedMix_2_13 : decode cX0_askedMix_2 13 = .ok (.lload_n 2, 1) := dk_32 (dk_at dksX0_askedMix_2_0 13 rfl rfl)
theorem dX0_askedMix_2_14 : decode cX0_askedMix_2 14 = .ok (.lload_n 2, 1) := dk_32 (dk_at dksX0_askedMix_2_0 14 rfl rfl)
theorem dX0_askedMix_2_15 : decode cX0_askedMix_2 15 = .ok (.bipush 16, 2) := dk_16 16 (dk_at dksX0_askedMix_2_0 15 rfl rfl)
theorem dX0_askedMix_2_17 : decode cX0_askedMix_2 17 = .ok (.lushr, 1) := dk_125 (dk_at dksX0_askedMix_2_0 17 rfl rfl)
theorem dX0_askedMix_2_18 : decode cX0_askedMix_2 18 = .ok (.lxor, 1) := dk_131 (dk_at dksX0_askedMix_2_0 18 rfl rfl)
theorem dX0_askedMix_2_19 : decode cX0_askedMix_2 19 = .ok (.lreturn, 1) := dk_173 (dk_at dksX0_askedMix_2_0 19 rfl rfl)
abbrev cX0_askedMurmur_2 : ByteArray := method_8_code
def yX0_askedMurmur_2 : MethodName := ⟨RX0, "askedMurmur", "(J)J"⟩
def dkwX0_askedMurmur_2_1 : List UInt8 := [20, 0, 51, 105, 65, 32, 32, 16, 33, 125, 131, 173]
abbrev dktX0_askedMurmur_2_1 : List UInt8 := dkwX0_askedMurmur_2_1 ++ []
def dkwX0_askedMurmur_2_0 : List UInt8 := [30, 65, 32, 32, 16, 33, 125, 131, 65, 32, 20, 0, 49, 105, 65, 32, 32, 16, 33, 125, 131, 65, 32]
abbrev dktX0_askedMurmur_2_0 : List UInt8 := dkwX0_askedMurmur_2_0 ++ dktX0_askedMurmur_2_1
theorem dksX0_askedMurmur_2_0 : cX0_askedMurmur_2.data.toList.drop 0 = dktX0_askedMurmur_2_0 := by decide +kernel
theorem dksX0_askedMurmur_2_1 : cX0_askedMurmur_2.data.toList.drop 23 = dktX0_askedMurmur_2_1 := dk_seg dksX0_askedMurmur_2_0 23 rfl rfl
theorem dX0_askedMurmur_2_0 : decode cX0_askedMurmur_2 0 = .ok (.lload_n 0, 1) := dk_30 (dk_at dksX0_askedMurmur_2_0 0 rfl rfl)
theorem dX0_askedMurmur_2_1 : decode cX0_askedMurmur_2 1 = .ok (.lstore_n 2, 1) := dk_65 (dk_at dksX0_askedMurmur_2_0 1 rfl rfl)
theorem dX0_askedMurmur_2_2 : decode cX0_askedMurmur_2 2 = .ok (.lload_n 2, 1) := dk_32 (dk_at dksX0_askedMurmur_2_0 2 rfl rfl)
theorem dX0_askedMurmur_2_3 : decode cX0_askedMurmur_2 3 = .ok (.lload_n 2, 1) := dk_32 (dk_at dksX0_askedMurmur_2_0 3 rfl rfl)
theorem dX0_askedMurmur_2_4 : decode cX0_askedMurmur_2 4 = .ok (.bipush 33, 2) := dk_16 33 (dk_at dksX0_askedMurmur_2_0 4 rfl rfl)
theorem dX0_askedMurmur_2_6 : decode cX0_askedMurmur_2 6 = .ok (.lushr, 1) := dk_125 (dk_at dksX0_askedMurmur_2_0 6 rfl rfl)
theorem dX0_askedMurmur_2_7 : decode cX0_askedMurmur_2 7 = .ok (.lxor, 1) := dk_131 (dk_at dksX0_askedMurmur_2_0 7 rfl rfl)
theorem dX0_askedMurmur_2_8 : decode cX0_askedMurmur_2 8 = .ok (.lstore_n 2, 1) := dk_65 (dk_at dksX0_askedMurmur_2_0 8 rfl rfl)
theorem dX0_askedMurmur_2_9 : decode cX0_askedMurmur_2 9 = .ok (.lload_n 2, 1) := dk_32 (dk_at dksX0_askedMurmur_2_0 9 rfl rfl)
theorem dX0_askedMurmur_2_10 : decode cX0_askedMurmur_2 10 = .ok (.ldc2_w 49, 3) := dk_20 0 49 (dk_at dksX0_askedMurmur_2_0 10 rfl rfl)
theorem dX0_askedMurmur_2_13 : decode cX0_askedMurmur_2 13 = .ok (.lmul, 1) := dk_105 (dk_at dksX0_askedMurmur_2_0 13 rfl rfl)
theorem dX0_askedMurmur_2_14 : decode cX0_askedMurmur_2 14 = .ok (.lstore_n 2, 1) := dk_65 (dk_at dksX0_askedMurmur_2_0 14 rfl rfl)
theorem dX0_askedMurmur_2_15 : decode cX0_askedMurmur_2 15 = .ok (.lload_n 2, 1) := dk_32 (dk_at dksX0_askedMurmur_2_0 15 rfl rfl)
theorem dX0_askedMurmur_2_16 : decode cX0_askedMurmur_2 16 = .ok (.lload_n 2, 1) := dk_32 (dk_at dksX0_askedMurmur_2_0 16 rfl rfl)
theorem dX0_askedMurmur_2_17 : decode cX0_askedMurmur_2 17 = .ok (.bipush 33, 2) := dk_16 33 (dk_at dksX0_askedMurmur_2_0 17 rfl rfl)
theorem dX0_askedMurmur_2_19 : decode cX0_askedMurmur_2 19 = .ok (.lushr, 1) := dk_125 (dk_at dksX0_askedMurmur_2_0 19 rfl rfl)
theorem dX0_askedMurmur_2_20 : decode cX0_askedMurmur_2 20 = .ok (.lxor, 1) := dk_131 (dk_at dksX0_askedMurmur_2_0 20 rfl rfl)
theorem dX0_askedMurmur_2_21 : decode cX0_askedMurmur_2 21 = .ok (.lstore_n 2, 1) := dk_65 (dk_at dksX0_askedMurmur_2_0 21 rfl rfl)
theorem dX0_askedMurmur_2_22 : decode cX0_askedMurmur_2 22 = .ok (.lload_n 2, 1) := dk_32 (dk_at dksX0_askedMurmur_2_0 22 rfl rfl)
theorem dX0_askedMurmur_2_23 : decode cX0_askedMurmur_2 23 = .ok (.ldc2_w 51, 3) := dk_20 0 51 (dk_at dksX0_askedMurmur_2_1 0 rfl rfl)
theorem dX0_askedMurmur_2_26 : decode cX0_askedMurmur_2 26 = .ok (.lmul, 1) := dk_105 (dk_at dksX0_askedMurmur_2_1 3 rfl rfl)
theorem dX0_askedMurmur_2_27 : decode cX0_askedMurmur_2 27 = .ok (.lstore_n 2, 1) := dk_65 (dk_at dksX0_askedMurmur_2_1 4 rfl rfl)
theorem dX0_askedMurmur_2_28 : decode cX0_askedMurmur_2 28 = .ok (.lload_n 2, 1) := dk_32 (dk_at dksX0_askedMurmur_2_1 5 rfl rfl)
theorem dX0_askedMurmur_2_29 : decode cX0_askedMurmur_2 29 = .ok (.lload_n 2, 1) := dk_32 (dk_at dksX0_askedMurmur_2_1 6 rfl rfl)
theorem dX0_askedMurmur_2_30 : decode cX0_askedMurmur_2 30 = .ok (.bipush 33, 2) := dk_16 33 (dk_at dksX0_askedMurmur_2_1 7 rfl rfl)
theorem dX0_askedMurmur_2_32 : decode cX0_askedMurmur_2 32 = .ok (.lushr, 1) := dk_125 (dk_at dksX0_askedMurmur_2_1 9 rfl rfl)
theorem dX0_askedMurmur_2_33 : decode cX0_askedMurmur_2 33 = .ok (.lxor, 1) := dk_131 (dk_at dksX0_askedMurmur_2_1 10 rfl rfl)
theorem dX0_askedMurmur_2_34 : decode cX0_askedMurmur_2 34 = .ok (.lreturn, 1) := dk_173 (dk_at dksX0_askedMurmur_2_1 11 rfl rfl)
abbrev cX0_askedPowers : ByteArray := method_10_code
def yX0_askedPowers : MethodName := ⟨RX0, "askedPowers", "([I)Z"⟩
def dkwX0_askedPowers_12 : List UInt8 := [154, 0, 7, 4, 167, 0, 4, 3, 172]
abbrev dktX0_askedPowers_12 : List UInt8 := dkwX0_askedPowers_12 ++ []
def dkwX0_askedPowers_11 : List UInt8 := [167, 255, 147, 43, 2, 182, 0, 34, 18, 78, 160, 0, 20, 43, 2, 2, 182, 0, 39, 20, 0, 79, 148]
abbrev dktX0_askedPowers_11 : List UInt8 := dkwX0_askedPowers_11 ++ dktX0_askedPowers_12
def dkwX0_askedPowers_10 : List UInt8 := [21, 6, 128, 22, 4, 10, 101, 136, 182, 0, 39, 22, 4, 148, 153, 0, 5, 3, 172, 132, 3, 1]
abbrev dktX0_askedPowers_10 : List UInt8 := dkwX0_askedPowers_10 ++ dktX0_askedPowers_11
def dkwX0_askedPowers_9 : List UInt8 := [20, 0, 42, 22, 4, 105, 148, 154, 0, 34, 29, 4, 164, 0, 31, 43, 22, 4, 10, 101, 16, 32, 123, 136]
abbrev dktX0_askedPowers_9 : List UInt8 := dkwX0_askedPowers_9 ++ dktX0_askedPowers_10
def dkwX0_askedPowers_8 : List UInt8 := [154, 0, 64, 43, 22, 4, 10, 97, 16, 32, 123, 136, 21, 6, 128, 22, 4, 10, 97, 136, 182, 0, 39]
abbrev dktX0_askedPowers_8 : List UInt8 := dkwX0_askedPowers_8 ++ dktX0_askedPowers_9
def dkwX0_askedPowers_7 : List UInt8 := [18, 77, 126, 54, 6, 43, 22, 4, 16, 32, 123, 136, 21, 6, 128, 22, 4, 136, 182, 0, 39, 22, 4, 148]
abbrev dktX0_askedPowers_7 : List UInt8 := dkwX0_askedPowers_7 ++ dktX0_askedPowers_8
def dkwX0_askedPowers_6 : List UInt8 := [132, 3, 1, 167, 255, 189, 4, 62, 29, 16, 62, 162, 0, 109, 10, 29, 121, 55, 4, 42, 4, 184, 0, 53]
abbrev dktX0_askedPowers_6 : List UInt8 := dkwX0_askedPowers_6 ++ dktX0_askedPowers_7
def dkwX0_askedPowers_5 : List UInt8 := [160, 0, 22, 43, 28, 4, 29, 120, 4, 96, 128, 182, 0, 34, 4, 29, 4, 96, 120, 159, 0, 5, 3, 172]
abbrev dktX0_askedPowers_5 : List UInt8 := dkwX0_askedPowers_5 ++ dktX0_askedPowers_6
def dkwX0_askedPowers_4 : List UInt8 := [120, 160, 0, 44, 29, 4, 164, 0, 20, 43, 28, 4, 29, 120, 4, 100, 128, 182, 0, 34, 4, 29, 120]
abbrev dktX0_askedPowers_4 : List UInt8 := dkwX0_askedPowers_4 ++ dktX0_askedPowers_5
def dkwX0_askedPowers_3 : List UInt8 := [153, 0, 5, 3, 172, 4, 62, 29, 16, 30, 162, 0, 67, 43, 28, 4, 29, 120, 128, 182, 0, 34, 4, 29]
abbrev dktX0_askedPowers_3 : List UInt8 := dkwX0_askedPowers_3 ++ dktX0_askedPowers_4
def dkwX0_askedPowers_2 : List UInt8 := [154, 0, 25, 43, 28, 4, 128, 182, 0, 34, 4, 160, 0, 14, 43, 3, 4, 182, 0, 39, 10, 148]
abbrev dktX0_askedPowers_2 : List UInt8 := dkwX0_askedPowers_2 ++ dktX0_askedPowers_3
def dkwX0_askedPowers_1 : List UInt8 := [160, 0, 49, 43, 18, 58, 3, 182, 0, 39, 10, 148, 154, 0, 37, 43, 18, 77, 3, 182, 0, 39, 10, 148]
abbrev dktX0_askedPowers_1 : List UInt8 := dkwX0_askedPowers_1 ++ dktX0_askedPowers_2
def dkwX0_askedPowers_0 : List UInt8 := [187, 0, 7, 89, 183, 0, 9, 76, 42, 3, 184, 0, 53, 18, 77, 126, 61, 43, 28, 182, 0, 34, 4]
abbrev dktX0_askedPowers_0 : List UInt8 := dkwX0_askedPowers_0 ++ dktX0_askedPowers_1
theorem dksX0_askedPowers_0 : cX0_askedPowers.data.toList.drop 0 = dktX0_askedPowers_0 := by decide +kernel
theorem dksX0_askedPowers_1 : cX0_askedPowers.data.toList.drop 23 = dktX0_askedPowers_1 := dk_seg dksX0_askedPowers_0 23 rfl rfl
theorem dksX0_askedPowers_2 : cX0_askedPowers.data.toList.drop 47 = dktX0_askedPowers_2 := dk_seg dksX0_askedPowers_1 24 rfl rfl
theorem dksX0_askedPowers_3 : cX0_askedPowers.data.toList.drop 69 = dktX0_askedPowers_3 := dk_seg dksX0_askedPowers_2 22 rfl rfl
theorem dksX0_askedPowers_4 : cX0_askedPowers.data.toList.drop 93 = dktX0_askedPowers_4 := dk_seg dksX0_askedPowers_3 24 rfl rfl
theorem dksX0_askedPowers_5 : cX0_askedPowers.data.toList.drop 116 = dktX0_askedPowers_5 := dk_seg dksX0_askedPowers_4 23 rfl rfl
theorem dksX0_askedPowers_6 : cX0_askedPowers.data.toList.drop 140 = dktX0_askedPowers_6 := dk_seg dksX0_askedPowers_5 24 rfl rfl
theorem dksX0_askedPowers_7 : cX0_askedPowers.data.toList.drop 164 = dktX0_askedPowers_7 := dk_seg dksX0_askedPowers_6 24 rfl rfl
theorem dksX0_askedPowers_8 : cX0_askedPowers.data.toList.drop 188 = dktX0_askedPowers_8 := dk_seg dksX0_askedPowers_7 24 rfl rfl
theorem dksX0_askedPowers_9 : cX0_askedPowers.data.toList.drop 211 = dktX0_askedPowers_9 := dk_seg dksX0_askedPowers_8 23 rfl rfl
theorem dksX0_askedPowers_10 : cX0_askedPowers.data.toList.drop 235 = dktX0_askedPowers_10 := dk_seg dksX0_askedPowers_9 24 rfl rfl
theorem dksX0_askedPowers_11 : cX0_askedPowers.data.toList.drop 257 = dktX0_askedPowers_11 := dk_seg dksX0_askedPowers_10 22 rfl rfl
theorem dksX0_askedPowers_12 : cX0_askedPowers.data.toList.drop 280 = dktX0_askedPowers_12 := dk_seg dksX0_askedPowers_11 23 rfl rfl
theorem dX0_askedPowers_0 : decode cX0_askedPowers 0 = .ok (.new 7, 3) := dk_187 0 7 (dk_at dksX0_askedPowers_0 0 rfl rfl)
theorem dX0_askedPowers_3 : decode cX0_askedPowers 3 = .ok (.dup, 1) := dk_89 (dk_at dksX0_askedPowers_0 3 rfl rfl)
theorem dX0_askedPowers_4 : decode cX0_askedPowers 4 = .ok (.invokespecial 9, 3) := dk_183 0 9 (dk_at dksX0_askedPowers_0 4 rfl rfl)
theorem dX0_askedPowers_7 : decode cX0_askedPowers 7 = .ok (.astore_n 1, 1) := dk_76 (dk_at dksX0_askedPowers_0 7 rfl rfl)
theorem dX0_askedPowers_8 : decode cX0_askedPowers 8 = .ok (.aload_n 0, 1) := dk_42 (dk_at dksX0_askedPowers_0 8 rfl rfl)
theorem dX0_askedPowers_9 : decode cX0_askedPowers 9 = .ok (.iconst 0, 1) := dk_3 (dk_at dksX0_askedPowers_0 9 rfl rfl)
theorem dX0_askedPowers_10 : decode cX0_askedPowers 10 = .ok (.invokestatic 53, 3) := dk_184 0 53 (dk_at dksX0_askedPowers_0 10 rfl rfl)
theorem dX0_askedPowers_13 : decode cX0_askedPowers 13 = .ok (.ldc 77, 2) := dk_18 77 (dk_at dksX0_askedPowers_0 13 rfl rfl)
theorem dX0_askedPowers_15 : decode cX0_askedPowers 15 = .ok (.iand, 1) := dk_126 (dk_at dksX0_askedPowers_0 15 rfl rfl)
theorem dX0_askedPowers_16 : decode cX0_askedPowers 16 = .ok (.istore_n 2, 1) := dk_61 (dk_at dksX0_askedPowers_0 16 rfl rfl)
theorem dX0_askedPowers_17 : decode cX0_askedPowers 17 = .ok (.aload_n 1, 1) := dk_43 (dk_at dksX0_askedPowers_0 17 rfl rfl)
theorem dX0_askedPowers_18 : decode cX0_askedPowers 18 = .ok (.iload_n 2, 1) := dk_28 (dk_at dksX0_askedPowers_0 18 rfl rfl)
theorem dX0_askedPowers_19 : decode cX0_askedPowers 19 = .ok (.invokevirtual 34, 3) := dk_182 0 34 (dk_at dksX0_askedPowers_0 19 rfl rfl)
theorem dX0_askedPowers_22 : decode cX0_askedPowers 22 = .ok (.iconst 1, 1) := dk_4 (dk_at dksX0_askedPowers_0 22 rfl rfl)
theorem dX0_askedPowers_23 : decode cX0_askedPowers 23 = .ok (.if_icmp .ne 49, 3) := dk_160 0 49 (dk_at dksX0_askedPowers_1 0 rfl rfl)
theorem dX0_askedPowers_26 : decode cX0_askedPowers 26 = .ok (.aload_n 1, 1) := dk_43 (dk_at dksX0_askedPowers_1 3 rfl rfl)
theorem dX0_askedPowers_27 : decode cX0_askedPowers 27 = .ok (.ldc 58, 2) := dk_18 58 (dk_at dksX0_askedPowers_1 4 rfl rfl)
theorem dX0_askedPowers_29 : decode cX0_askedPowers 29 = .ok (.iconst 0, 1) := dk_3 (dk_at dksX0_askedPowers_1 6 rfl rfl)
theorem dX0_askedPowers_30 : decode cX0_askedPowers 30 = .ok (.invokevirtual 39, 3) := dk_182 0 39 (dk_at dksX0_askedPowers_1 7 rfl rfl)
theorem dX0_askedPowers_33 : decode cX0_askedPowers 33 = .ok (.lconst 1, 1) := dk_10 (dk_at dksX0_askedPowers_1 10 rfl rfl)
theorem dX0_askedPowers_34 : decode cX0_askedPowers 34 = .ok (.lcmp, 1) := dk_148 (dk_at dksX0_askedPowers_1 11 rfl rfl)
theorem dX0_askedPowers_35 : decode cX0_askedPowers 35 = .ok (.ifCond .ne 37, 3) := dk_154 0 37 (dk_at dksX0_askedPowers_1 12 rfl rfl)
theorem dX0_askedPowers_38 : decode cX0_askedPowers 38 = .ok (.aload_n 1, 1) := dk_43 (dk_at dksX0_askedPowers_1 15 rfl rfl)
theorem dX0_askedPowers_39 : decode cX0_askedPowers 39 = .ok (.ldc 77, 2) := dk_18 77 (dk_at dksX0_askedPowers_1 16 rfl rfl)
theorem dX0_askedPowers_41 : decode cX0_askedPowers 41 = .ok (.iconst 0, 1) := dk_3 (dk_at dksX0_askedPowers_1 18 rfl rfl)
theorem dX0_askedPowers_42 : decode cX0_askedPowers 42 = .ok (.invokevirtual 39, 3) := dk_182 0 39 (dk_at dksX0_askedPowers_1 19 rfl rfl)
theorem dX0_askedPowers_45 : decode cX0_askedPowers 45 = .ok (.lconst 1, 1) := dk_10 (dk_at dksX0_askedPowers_1 22 rfl rfl)
theorem dX0_askedPowers_46 : decode cX0_askedPowers 46 = .ok (.lcmp, 1) := dk_148 (dk_at dksX0_askedPowers_1 23 rfl rfl)
theorem dX0_askedPowers_47 : decode cX0_askedPowers 47 = .ok (.ifCond .ne 25, 3) := dk_154 0 25 (dk_at dksX0_askedPowers_2 0 rfl rfl)
theorem dX0_askedPowers_50 : decode cX0_askedPowers 50 = .ok (.aload_n 1, 1) := dk_43 (dk_at dksX0_askedPowers_2 3 rfl rfl)
theorem dX0_askedPowers_51 : decode cX0_askedPowers 51 = .ok (.iload_n 2, 1) := dk_28 (dk_at dksX0_askedPowers_2 4 rfl rfl)
theorem dX0_askedPowers_52 : decode cX0_askedPowers 52 = .ok (.iconst 1, 1) := dk_4 (dk_at dksX0_askedPowers_2 5 rfl rfl)
theorem dX0_askedPowers_53 : decode cX0_askedPowers 53 = .ok (.ior, 1) := dk_128 (dk_at dksX0_askedPowers_2 6 rfl rfl)
theorem dX0_askedPowers_54 : decode cX0_askedPowers 54 = .ok (.invokevirtual 34, 3) := dk_182 0 34 (dk_at dksX0_askedPowers_2 7 rfl rfl)
theorem dX0_askedPowers_57 : decode cX0_askedPowers 57 = .ok (.iconst 1, 1) := dk_4 (dk_at dksX0_askedPowers_2 10 rfl rfl)
theorem dX0_askedPowers_58 : decode cX0_askedPowers 58 = .ok (.if_icmp .ne 14, 3) := dk_160 0 14 (dk_at dksX0_askedPowers_2 11 rfl rfl)
theorem dX0_askedPowers_61 : decode cX0_askedPowers 61 = .ok (.aload_n 1, 1) := dk_43 (dk_at dksX0_askedPowers_2 14 rfl rfl)
theorem dX0_askedPowers_62 : decode cX0_askedPowers 62 = .ok (.iconst 0, 1) := dk_3 (dk_at dksX0_askedPowers_2 15 rfl rfl)
theorem dX0_askedPowers_63 : decode cX0_askedPowers 63 = .ok (.iconst 1, 1) := dk_4 (dk_at dksX0_askedPowers_2 16 rfl rfl)
theorem dX0_askedPowers_64 : decode cX0_askedPowers 64 = .ok (.invokevirtual 39, 3) := dk_182 0 39 (dk_at dksX0_askedPowers_2 17 rfl rfl)
theorem dX0_askedPowers_67 : decode cX0_askedPowers 67 = .ok (.lconst 1, 1) := dk_10 (dk_at dksX0_askedPowers_2 20 rfl rfl)
theorem dX0_askedPowers_68 : decode cX0_askedPowers 68 = .ok (.lcmp, 1) := dk_148 (dk_at dksX0_askedPowers_2 21 rfl rfl)
theorem dX0_askedPowers_69 : decode cX0_askedPowers 69 = .ok (.ifCond .eq 5, 3) := dk_153 0 5 (dk_at dksX0_askedPowers_3 0 rfl rfl)
theorem dX0_askedPowers_72 : decode cX0_askedPowers 72 = .ok (.iconst 0, 1) := dk_3 (dk_at dksX0_askedPowers_3 3 rfl rfl)
theorem dX0_askedPowers_73 : decode cX0_askedPowers 73 = .ok (.ireturn, 1) := dk_172 (dk_at dksX0_askedPowers_3 4 rfl rfl)
theorem dX0_askedPowers_74 : decode cX0_askedPowers 74 = .ok (.iconst 1, 1) := dk_4 (dk_at dksX0_askedPowers_3 5 rfl rfl)
theorem dX0_askedPowers_75 : decode cX0_askedPowers 75 = .ok (.istore_n 3, 1) := dk_62 (dk_at dksX0_askedPowers_3 6 rfl rfl)
theorem dX0_askedPowers_76 : decode cX0_askedPowers 76 = .ok (.iload_n 3, 1) := dk_29 (dk_at dksX0_askedPowers_3 7 rfl rfl)
theorem dX0_askedPowers_77 : decode cX0_askedPowers 77 = .ok (.bipush 30, 2) := dk_16 30 (dk_at dksX0_askedPowers_3 8 rfl rfl)
theorem dX0_askedPowers_79 : decode cX0_askedPowers 79 = .ok (.if_icmp .ge 67, 3) := dk_162 0 67 (dk_at dksX0_askedPowers_3 10 rfl rfl)
theorem dX0_askedPowers_82 : decode cX0_askedPowers 82 = .ok (.aload_n 1, 1) := dk_43 (dk_at dksX0_askedPowers_3 13 rfl rfl)
theorem dX0_askedPowers_83 : decode cX0_askedPowers 83 = .ok (.iload_n 2, 1) := dk_28 (dk_at dksX0_askedPowers_3 14 rfl rfl)
theorem dX0_askedPowers_84 : decode cX0_askedPowers 84 = .ok (.iconst 1, 1) := dk_4 (dk_at dksX0_askedPowers_3 15 rfl rfl)
theorem dX0_askedPowers_85 : decode cX0_askedPowers 85 = .ok (.iload_n 3, 1) := dk_29 (dk_at dksX0_askedPowers_3 16 rfl rfl)
theorem dX0_askedPowers_86 : decode cX0_askedPowers 86 = .ok (.ishl, 1) := dk_120 (dk_at dksX0_askedPowers_3 17 rfl rfl)
theorem dX0_askedPowers_87 : decode cX0_askedPowers 87 = .ok (.ior, 1) := dk_128 (dk_at dksX0_askedPowers_3 18 rfl rfl)
theorem dX0_askedPowers_88 : decode cX0_askedPowers 88 = .ok (.invokevirtual 34, 3) := dk_182 0 34 (dk_at dksX0_askedPowers_3 19 rfl rfl)
theorem dX0_askedPowers_91 : decode cX0_askedPowers 91 = .ok (.iconst 1, 1) := dk_4 (dk_at dksX0_askedPowers_3 22 rfl rfl)
theorem dX0_askedPowers_92 : decode cX0_askedPowers 92 = .ok (.iload_n 3, 1) := dk_29 (dk_at dksX0_askedPowers_3 23 rfl rfl)
theorem dX0_askedPowers_93 : decode cX0_askedPowers 93 = .ok (.ishl, 1) := dk_120 (dk_at dksX0_askedPowers_4 0 rfl rfl)
theorem dX0_askedPowers_94 : decode cX0_askedPowers 94 = .ok (.if_icmp .ne 44, 3) := dk_160 0 44 (dk_at dksX0_askedPowers_4 1 rfl rfl)
theorem dX0_askedPowers_97 : decode cX0_askedPowers 97 = .ok (.iload_n 3, 1) := dk_29 (dk_at dksX0_askedPowers_4 4 rfl rfl)
theorem dX0_askedPowers_98 : decode cX0_askedPowers 98 = .ok (.iconst 1, 1) := dk_4 (dk_at dksX0_askedPowers_4 5 rfl rfl)
theorem dX0_askedPowers_99 : decode cX0_askedPowers 99 = .ok (.if_icmp .le 20, 3) := dk_164 0 20 (dk_at dksX0_askedPowers_4 6 rfl rfl)
theorem dX0_askedPowers_102 : decode cX0_askedPowers 102 = .ok (.aload_n 1, 1) := dk_43 (dk_at dksX0_askedPowers_4 9 rfl rfl)
theorem dX0_askedPowers_103 : decode cX0_askedPowers 103 = .ok (.iload_n 2, 1) := dk_28 (dk_at dksX0_askedPowers_4 10 rfl rfl)
theorem dX0_askedPowers_104 : decode cX0_askedPowers 104 = .ok (.iconst 1, 1) := dk_4 (dk_at dksX0_askedPowers_4 11 rfl rfl)
theorem dX0_askedPowers_105 : decode cX0_askedPowers 105 = .ok (.iload_n 3, 1) := dk_29 (dk_at dksX0_askedPowers_4 12 rfl rfl)
theorem dX0_askedPowers_106 : decode cX0_askedPowers 106 = .ok (.ishl, 1) := dk_120 (dk_at dksX0_askedPowers_4 13 rfl rfl)
theorem dX0_askedPowers_107 : decode cX0_askedPowers 107 = .ok (.iconst 1, 1) := dk_4 (dk_at dksX0_askedPowers_4 14 rfl rfl)
theorem dX0_askedPowers_108 : decode cX0_askedPowers 108 = .ok (.isub, 1) := dk_100 (dk_at dksX0_askedPowers_4 15 rfl rfl)
theorem dX0_askedPowers_109 : decode cX0_askedPowers 109 = .ok (.ior, 1) := dk_128 (dk_at dksX0_askedPowers_4 16 rfl rfl)
theorem dX0_askedPowers_110 : decode cX0_askedPowers 110 = .ok (.invokevirtual 34, 3) := dk_182 0 34 (dk_at dksX0_askedPowers_4 17 rfl rfl)
theorem dX0_askedPowers_113 : decode cX0_askedPowers 113 = .ok (.iconst 1, 1) := dk_4 (dk_at dksX0_askedPowers_4 20 rfl rfl)
theorem dX0_askedPowers_114 : decode cX0_askedPowers 114 = .ok (.iload_n 3, 1) := dk_29 (dk_at dksX0_askedPowers_4 21 rfl rfl)
theorem dX0_askedPowers_115 : decode cX0_askedPowers 115 = .ok (.ishl, 1) := dk_120 (dk_at dksX0_askedPowers_4 22 rfl rfl)
theorem dX0_askedPowers_116 : decode cX0_askedPowers 116 = .ok (.if_icmp .ne 22, 3) := dk_160 0 22 (dk_at dksX0_askedPowers_5 0 rfl rfl)
theorem dX0_askedPowers_119 : decode cX0_askedPowers 119 = .ok (.aload_n 1, 1) := dk_43 (dk_at dksX0_askedPowers_5 3 rfl rfl)
theorem dX0_askedPowers_120 : decode cX0_askedPowers 120 = .ok (.iload_n 2, 1) := dk_28 (dk_at dksX0_askedPowers_5 4 rfl rfl)
theorem dX0_askedPowers_121 : decode cX0_askedPowers 121 = .ok (.iconst 1, 1) := dk_4 (dk_at dksX0_askedPowers_5 5 rfl rfl)
theorem dX0_askedPowers_122 : decode cX0_askedPowers 122 = .ok (.iload_n 3, 1) := dk_29 (dk_at dksX0_askedPowers_5 6 rfl rfl)
theorem dX0_askedPowers_123 : decode cX0_askedPowers 123 = .ok (.ishl, 1) := dk_120 (dk_at dksX0_askedPowers_5 7 rfl rfl)
theorem dX0_askedPowers_124 : decode cX0_askedPowers 124 = .ok (.iconst 1, 1) := dk_4 (dk_at dksX0_askedPowers_5 8 rfl rfl)
theorem dX0_askedPowers_125 : decode cX0_askedPowers 125 = .ok (.iadd, 1) := dk_96 (dk_at dksX0_askedPowers_5 9 rfl rfl)
theorem dX0_askedPowers_126 : decode cX0_askedPowers 126 = .ok (.ior, 1) := dk_128 (dk_at dksX0_askedPowers_5 10 rfl rfl)
theorem dX0_askedPowers_127 : decode cX0_askedPowers 127 = .ok (.invokevirtual 34, 3) := dk_182 0 34 (dk_at dksX0_askedPowers_5 11 rfl rfl)
theorem dX0_askedPowers_130 : decode cX0_askedPowers 130 = .ok (.iconst 1, 1) := dk_4 (dk_at dksX0_askedPowers_5 14 rfl rfl)
theorem dX0_askedPowers_131 : decode cX0_askedPowers 131 = .ok (.iload_n 3, 1) := dk_29 (dk_at dksX0_askedPowers_5 15 rfl rfl)
theorem dX0_askedPowers_132 : decode cX0_askedPowers 132 = .ok (.iconst 1, 1) := dk_4 (dk_at dksX0_askedPowers_5 16 rfl rfl)
theorem dX0_askedPowers_133 : decode cX0_askedPowers 133 = .ok (.iadd, 1) := dk_96 (dk_at dksX0_askedPowers_5 17 rfl rfl)
theorem dX0_askedPowers_134 : decode cX0_askedPowers 134 = .ok (.ishl, 1) := dk_120 (dk_at dksX0_askedPowers_5 18 rfl rfl)
theorem dX0_askedPowers_135 : decode cX0_askedPowers 135 = .ok (.if_icmp .eq 5, 3) := dk_159 0 5 (dk_at dksX0_askedPowers_5 19 rfl rfl)
theorem dX0_askedPowers_138 : decode cX0_askedPowers 138 = .ok (.iconst 0, 1) := dk_3 (dk_at dksX0_askedPowers_5 22 rfl rfl)
theorem dX0_askedPowers_139 : decode cX0_askedPowers 139 = .ok (.ireturn, 1) := dk_172 (dk_at dksX0_askedPowers_5 23 rfl rfl)
theorem dX0_askedPowers_140 : decode cX0_askedPowers 140 = .ok (.iinc 3 1, 3) := dk_132 3 1 (dk_at dksX0_askedPowers_6 0 rfl rfl)
theorem dX0_askedPowers_143 : decode cX0_askedPowers 143 = .ok (.goto (-67), 3) := dk_167 255 189 (dk_at dksX0_askedPowers_6 3 rfl rfl)
theorem dX0_askedPowers_146 : decode cX0_askedPowers 146 = .ok (.iconst 1, 1) := dk_4 (dk_at dksX0_askedPowers_6 6 rfl rfl)
theorem dX0_askedPowers_147 : decode cX0_askedPowers 147 = .ok (.istore_n 3, 1) := dk_62 (dk_at dksX0_askedPowers_6 7 rfl rfl)
theorem dX0_askedPowers_148 : decode cX0_askedPowers 148 = .ok (.iload_n 3, 1) := dk_29 (dk_at dksX0_askedPowers_6 8 rfl rfl)
theorem dX0_askedPowers_149 : decode cX0_askedPowers 149 = .ok (.bipush 62, 2) := dk_16 62 (dk_at dksX0_askedPowers_6 9 rfl rfl)
theorem dX0_askedPowers_151 : decode cX0_askedPowers 151 = .ok (.if_icmp .ge 109, 3) := dk_162 0 109 (dk_at dksX0_askedPowers_6 11 rfl rfl)
theorem dX0_askedPowers_154 : decode cX0_askedPowers 154 = .ok (.lconst 1, 1) := dk_10 (dk_at dksX0_askedPowers_6 14 rfl rfl)
theorem dX0_askedPowers_155 : decode cX0_askedPowers 155 = .ok (.iload_n 3, 1) := dk_29 (dk_at dksX0_askedPowers_6 15 rfl rfl)
theorem dX0_askedPowers_156 : decode cX0_askedPowers 156 = .ok (.lshl, 1) := dk_121 (dk_at dksX0_askedPowers_6 16 rfl rfl)
theorem dX0_askedPowers_157 : decode cX0_askedPowers 157 = .ok (.lstore 4, 2) := dk_55 4 (dk_at dksX0_askedPowers_6 17 rfl rfl)
theorem dX0_askedPowers_159 : decode cX0_askedPowers 159 = .ok (.aload_n 0, 1) := dk_42 (dk_at dksX0_askedPowers_6 19 rfl rfl)
theorem dX0_askedPowers_160 : decode cX0_askedPowers 160 = .ok (.iconst 1, 1) := dk_4 (dk_at dksX0_askedPowers_6 20 rfl rfl)
theorem dX0_askedPowers_161 : decode cX0_askedPowers 161 = .ok (.invokestatic 53, 3) := dk_184 0 53 (dk_at dksX0_askedPowers_6 21 rfl rfl)
theorem dX0_askedPowers_164 : decode cX0_askedPowers 164 = .ok (.ldc 77, 2) := dk_18 77 (dk_at dksX0_askedPowers_7 0 rfl rfl)
theorem dX0_askedPowers_166 : decode cX0_askedPowers 166 = .ok (.iand, 1) := dk_126 (dk_at dksX0_askedPowers_7 2 rfl rfl)
theorem dX0_askedPowers_167 : decode cX0_askedPowers 167 = .ok (.istore 6, 2) := dk_54 6 (dk_at dksX0_askedPowers_7 3 rfl rfl)
theorem dX0_askedPowers_169 : decode cX0_askedPowers 169 = .ok (.aload_n 1, 1) := dk_43 (dk_at dksX0_askedPowers_7 5 rfl rfl)
theorem dX0_askedPowers_170 : decode cX0_askedPowers 170 = .ok (.lload 4, 2) := dk_22 4 (dk_at dksX0_askedPowers_7 6 rfl rfl)
theorem dX0_askedPowers_172 : decode cX0_askedPowers 172 = .ok (.bipush 32, 2) := dk_16 32 (dk_at dksX0_askedPowers_7 8 rfl rfl)
theorem dX0_askedPowers_174 : decode cX0_askedPowers 174 = .ok (.lshr, 1) := dk_123 (dk_at dksX0_askedPowers_7 10 rfl rfl)
theorem dX0_askedPowers_175 : decode cX0_askedPowers 175 = .ok (.l2i, 1) := dk_136 (dk_at dksX0_askedPowers_7 11 rfl rfl)
theorem dX0_askedPowers_176 : decode cX0_askedPowers 176 = .ok (.iload 6, 2) := dk_21 6 (dk_at dksX0_askedPowers_7 12 rfl rfl)
theorem dX0_askedPowers_178 : decode cX0_askedPowers 178 = .ok (.ior, 1) := dk_128 (dk_at dksX0_askedPowers_7 14 rfl rfl)
theorem dX0_askedPowers_179 : decode cX0_askedPowers 179 = .ok (.lload 4, 2) := dk_22 4 (dk_at dksX0_askedPowers_7 15 rfl rfl)
theorem dX0_askedPowers_181 : decode cX0_askedPowers 181 = .ok (.l2i, 1) := dk_136 (dk_at dksX0_askedPowers_7 17 rfl rfl)
theorem dX0_askedPowers_182 : decode cX0_askedPowers 182 = .ok (.invokevirtual 39, 3) := dk_182 0 39 (dk_at dksX0_askedPowers_7 18 rfl rfl)
theorem dX0_askedPowers_185 : decode cX0_askedPowers 185 = .ok (.lload 4, 2) := dk_22 4 (dk_at dksX0_askedPowers_7 21 rfl rfl)
theorem dX0_askedPowers_187 : decode cX0_askedPowers 187 = .ok (.lcmp, 1) := dk_148 (dk_at dksX0_askedPowers_7 23 rfl rfl)
theorem dX0_askedPowers_188 : decode cX0_askedPowers 188 = .ok (.ifCond .ne 64, 3) := dk_154 0 64 (dk_at dksX0_askedPowers_8 0 rfl rfl)
theorem dX0_askedPowers_191 : decode cX0_askedPowers 191 = .ok (.aload_n 1, 1) := dk_43 (dk_at dksX0_askedPowers_8 3 rfl rfl)
theorem dX0_askedPowers_192 : decode cX0_askedPowers 192 = .ok (.lload 4, 2) := dk_22 4 (dk_at dksX0_askedPowers_8 4 rfl rfl)
theorem dX0_askedPowers_194 : decode cX0_askedPowers 194 = .ok (.lconst 1, 1) := dk_10 (dk_at dksX0_askedPowers_8 6 rfl rfl)
theorem dX0_askedPowers_195 : decode cX0_askedPowers 195 = .ok (.ladd, 1) := dk_97 (dk_at dksX0_askedPowers_8 7 rfl rfl)
theorem dX0_askedPowers_196 : decode cX0_askedPowers 196 = .ok (.bipush 32, 2) := dk_16 32 (dk_at dksX0_askedPowers_8 8 rfl rfl)
theorem dX0_askedPowers_198 : decode cX0_askedPowers 198 = .ok (.lshr, 1) := dk_123 (dk_at dksX0_askedPowers_8 10 rfl rfl)
theorem dX0_askedPowers_199 : decode cX0_askedPowers 199 = .ok (.l2i, 1) := dk_136 (dk_at dksX0_askedPowers_8 11 rfl rfl)
theorem dX0_askedPowers_200 : decode cX0_askedPowers 200 = .ok (.iload 6, 2) := dk_21 6 (dk_at dksX0_askedPowers_8 12 rfl rfl)
theorem dX0_askedPowers_202 : decode cX0_askedPowers 202 = .ok (.ior, 1) := dk_128 (dk_at dksX0_askedPowers_8 14 rfl rfl)
theorem dX0_askedPowers_203 : decode cX0_askedPowers 203 = .ok (.lload 4, 2) := dk_22 4 (dk_at dksX0_askedPowers_8 15 rfl rfl)
theorem dX0_askedPowers_205 : decode cX0_askedPowers 205 = .ok (.lconst 1, 1) := dk_10 (dk_at dksX0_askedPowers_8 17 rfl rfl)
theorem dX0_askedPowers_206 : decode cX0_askedPowers 206 = .ok (.ladd, 1) := dk_97 (dk_at dksX0_askedPowers_8 18 rfl rfl)
theorem dX0_askedPowers_207 : decode cX0_askedPowers 207 = .ok (.l2i, 1) := dk_136 (dk_at dksX0_askedPowers_8 19 rfl rfl)
theorem dX0_askedPowers_208 : decode cX0_askedPowers 208 = .ok (.invokevirtual 39, 3) := dk_182 0 39 (dk_at dksX0_askedPowers_8 20 rfl rfl)
theorem dX0_askedPowers_211 : decode cX0_askedPowers 211 = .ok (.ldc2_w 42, 3) := dk_20 0 42 (dk_at dksX0_askedPowers_9 0 rfl rfl)
theorem dX0_askedPowers_214 : decode cX0_askedPowers 214 = .ok (.lload 4, 2) := dk_22 4 (dk_at dksX0_askedPowers_9 3 rfl rfl)
theorem dX0_askedPowers_216 : decode cX0_askedPowers 216 = .ok (.lmul, 1) := dk_105 (dk_at dksX0_askedPowers_9 5 rfl rfl)
theorem dX0_askedPowers_217 : decode cX0_askedPowers 217 = .ok (.lcmp, 1) := dk_148 (dk_at dksX0_askedPowers_9 6 rfl rfl)
theorem dX0_askedPowers_218 : decode cX0_askedPowers 218 = .ok (.ifCond .ne 34, 3) := dk_154 0 34 (dk_at dksX0_askedPowers_9 7 rfl rfl)
theorem dX0_askedPowers_221 : decode cX0_askedPowers 221 = .ok (.iload_n 3, 1) := dk_29 (dk_at dksX0_askedPowers_9 10 rfl rfl)
theorem dX0_askedPowers_222 : decode cX0_askedPowers 222 = .ok (.iconst 1, 1) := dk_4 (dk_at dksX0_askedPowers_9 11 rfl rfl)
theorem dX0_askedPowers_223 : decode cX0_askedPowers 223 = .ok (.if_icmp .le 31, 3) := dk_164 0 31 (dk_at dksX0_askedPowers_9 12 rfl rfl)
theorem dX0_askedPowers_226 : decode cX0_askedPowers 226 = .ok (.aload_n 1, 1) := dk_43 (dk_at dksX0_askedPowers_9 15 rfl rfl)
theorem dX0_askedPowers_227 : decode cX0_askedPowers 227 = .ok (.lload 4, 2) := dk_22 4 (dk_at dksX0_askedPowers_9 16 rfl rfl)
theorem dX0_askedPowers_229 : decode cX0_askedPowers 229 = .ok (.lconst 1, 1) := dk_10 (dk_at dksX0_askedPowers_9 18 rfl rfl)
theorem dX0_askedPowers_230 : decode cX0_askedPowers 230 = .ok (.lsub, 1) := dk_101 (dk_at dksX0_askedPowers_9 19 rfl rfl)
theorem dX0_askedPowers_231 : decode cX0_askedPowers 231 = .ok (.bipush 32, 2) := dk_16 32 (dk_at dksX0_askedPowers_9 20 rfl rfl)
theorem dX0_askedPowers_233 : decode cX0_askedPowers 233 = .ok (.lshr, 1) := dk_123 (dk_at dksX0_askedPowers_9 22 rfl rfl)
theorem dX0_askedPowers_234 : decode cX0_askedPowers 234 = .ok (.l2i, 1) := dk_136 (dk_at dksX0_askedPowers_9 23 rfl rfl)
theorem dX0_askedPowers_235 : decode cX0_askedPowers 235 = .ok (.iload 6, 2) := dk_21 6 (dk_at dksX0_askedPowers_10 0 rfl rfl)
theorem dX0_askedPowers_237 : decode cX0_askedPowers 237 = .ok (.ior, 1) := dk_128 (dk_at dksX0_askedPowers_10 2 rfl rfl)
theorem dX0_askedPowers_238 : decode cX0_askedPowers 238 = .ok (.lload 4, 2) := dk_22 4 (dk_at dksX0_askedPowers_10 3 rfl rfl)
theorem dX0_askedPowers_240 : decode cX0_askedPowers 240 = .ok (.lconst 1, 1) := dk_10 (dk_at dksX0_askedPowers_10 5 rfl rfl)
theorem dX0_askedPowers_241 : decode cX0_askedPowers 241 = .ok (.lsub, 1) := dk_101 (dk_at dksX0_askedPowers_10 6 rfl rfl)
theorem dX0_askedPowers_242 : decode cX0_askedPowers 242 = .ok (.l2i, 1) := dk_136 (dk_at dksX0_askedPowers_10 7 rfl rfl)
theorem dX0_askedPowers_243 : decode cX0_askedPowers 243 = .ok (.invokevirtual 39, 3) := dk_182 0 39 (dk_at dksX0_askedPowers_10 8 rfl rfl)
theorem dX0_askedPowers_246 : decode cX0_askedPowers 246 = .ok (.lload 4, 2) := dk_22 4 (dk_at dksX0_askedPowers_10 11 rfl rfl)
theorem dX0_askedPowers_248 : decode cX0_askedPowers 248 = .ok (.lcmp, 1) := dk_148 (dk_at dksX0_askedPowers_10 13 rfl rfl)
theorem dX0_askedPowers_249 : decode cX0_askedPowers 249 = .ok (.ifCond .eq 5, 3) := dk_153 0 5 (dk_at dksX0_askedPowers_10 14 rfl rfl)
theorem dX0_askedPowers_252 : decode cX0_askedPowers 252 = .ok (.iconst 0, 1) := dk_3 (dk_at dksX0_askedPowers_10 17 rfl rfl)
theorem dX0_askedPowers_253 : decode cX0_askedPowers 253 = .ok (.ireturn, 1) := dk_172 (dk_at dksX0_askedPowers_10 18 rfl rfl)
theorem dX0_askedPowers_254 : decode cX0_askedPowers 254 = .ok (.iinc 3 1, 3) := dk_132 3 1 (dk_at dksX0_askedPowers_10 19 rfl rfl)
theorem dX0_askedPowers_257 : decode cX0_askedPowers 257 = .ok (.goto (-109), 3) := dk_167 255 147 (dk_at dksX0_askedPowers_11 0 rfl rfl)
theorem dX0_askedPowers_260 : decode cX0_askedPowers 260 = .ok (.aload_n 1, 1) := dk_43 (dk_at dksX0_askedPowers_11 3 rfl rfl)
theorem dX0_askedPowers_261 : decode cX0_askedPowers 261 = .ok (.iconst (-1), 1) := dk_2 (dk_at dksX0_askedPowers_11 4 rfl rfl)
theorem dX0_askedPowers_262 : decode cX0_askedPowers 262 = .ok (.invokevirtual 34, 3) := dk_182 0 34 (dk_at dksX0_askedPowers_11 5 rfl rfl)
theorem dX0_askedPowers_265 : decode cX0_askedPowers 265 = .ok (.ldc 78, 2) := dk_18 78 (dk_at dksX0_askedPowers_11 8 rfl rfl)
theorem dX0_askedPowers_267 : decode cX0_askedPowers 267 = .ok (.if_icmp .ne 20, 3) := dk_160 0 20 (dk_at dksX0_askedPowers_11 10 rfl rfl)
theorem dX0_askedPowers_270 : decode cX0_askedPowers 270 = .ok (.aload_n 1, 1) := dk_43 (dk_at dksX0_askedPowers_11 13 rfl rfl)
theorem dX0_askedPowers_271 : decode cX0_askedPowers 271 = .ok (.iconst (-1), 1) := dk_2 (dk_at dksX0_askedPowers_11 14 rfl rfl)
theorem dX0_askedPowers_272 : decode cX0_askedPowers 272 = .ok (.iconst (-1), 1) := dk_2 (dk_at dksX0_askedPowers_11 15 rfl rfl)
theorem dX0_askedPowers_273 : decode cX0_askedPowers 273 = .ok (.invokevirtual 39, 3) := dk_182 0 39 (dk_at dksX0_askedPowers_11 16 rfl rfl)
theorem dX0_askedPowers_276 : decode cX0_askedPowers 276 = .ok (.ldc2_w 79, 3) := dk_20 0 79 (dk_at dksX0_askedPowers_11 19 rfl rfl)
theorem dX0_askedPowers_279 : decode cX0_askedPowers 279 = .ok (.lcmp, 1) := dk_148 (dk_at dksX0_askedPowers_11 22 rfl rfl)
theorem dX0_askedPowers_280 : decode cX0_askedPowers 280 = .ok (.ifCond .ne 7, 3) := dk_154 0 7 (dk_at dksX0_askedPowers_12 0 rfl rfl)
theorem dX0_askedPowers_283 : decode cX0_askedPowers 283 = .ok (.iconst 1, 1) := dk_4 (dk_at dksX0_askedPowers_12 3 rfl rfl)
theorem dX0_askedPowers_284 : decode cX0_askedPowers 284 = .ok (.goto 4, 3) := dk_167 0 4 (dk_at dksX0_askedPowers_12 4 rfl rfl)
theorem dX0_askedPowers_287 : decode cX0_askedPowers 287 = .ok (.iconst 0, 1) := dk_3 (dk_at dksX0_askedPowers_12 7 rfl rfl)
theorem dX0_askedPowers_288 : decode cX0_askedPowers 288 = .ok (.ireturn, 1) := dk_172 (dk_at dksX0_askedPowers_12 8 rfl rfl)
theorem q0 : (Jvm.Cond.initialized "MixDeskLaw") ∈ lw_all := lw_g (lw_at lw_m0 0 rfl) rfl
theorem q6 : (Jvm.Cond.methodLink "MixDeskLaw" (81 : Nat) ({ cls := "MixDeskLaw", name := "elder", desc := "([I)Z" } : Jvm.MethodName)) ∈ lw_all := lw_g (lw_at lw_m0 6 rfl) rfl
theorem q7 : (Jvm.Cond.static ({ cls := "MixDeskLaw", name := "elder", desc := "([I)Z" } : Jvm.MethodName)) ∈ lw_all := lw_g (lw_at lw_m0 7 rfl) rfl
theorem q8 : (Jvm.Cond.code ({ cls := "MixDeskLaw", name := "elder", desc := "([I)Z" } : Jvm.MethodName) method_3_code (16 : Nat) (Option.some Jvm.ClassFile.FieldType.boolean)) ∈ lw_all := lw_g (lw_at lw_m0 8 rfl) rfl
theorem q9 : (Jvm.Cond.classLink "MixDeskLaw" (7 : Nat) "MixDesk") ∈ lw_all := lw_g (lw_at lw_m0 9 rfl) rfl
theorem q11 : (Jvm.Cond.methodLink "MixDeskLaw" (9 : Nat) ({ cls := "MixDesk", name := "<init>", desc := "()V" } : Jvm.MethodName)) ∈ lw_all := lw_g (lw_at lw_m0 11 rfl) rfl
theorem q18 : (Jvm.Cond.methodLink "MixDeskLaw" (10 : Nat) ({ cls := "MixDeskLaw", name := "cell", desc := "([II)I" } : Jvm.MethodName)) ∈ lw_all := lw_g (lw_at lw_m0 18 rfl) rfl
theorem q19 : (Jvm.Cond.static ({ cls := "MixDeskLaw", name := "cell", desc := "([II)I" } : Jvm.MethodName)) ∈ lw_all := lw_g (lw_at lw_m0 19 rfl) rfl
theorem q20 : (Jvm.Cond.code ({ cls := "MixDeskLaw", name := "cell", desc := "([II)I" } : Jvm.MethodName) method_2_code (2 : Nat) (Option.some Jvm.ClassFile.FieldType.int)) ∈ lw_all := lw_g (lw_at lw_m0 20 rfl) rfl
theorem q21 : (Jvm.Cond.methodLink "MixDeskLaw" (16 : Nat) ({ cls := "MixDesk", name := "mix", desc := "(I)I" } : Jvm.MethodName)) ∈ lw_all := lw_g (lw_at lw_m0 21 rfl) rfl
theorem q29 : (Jvm.Cond.methodLink "MixDeskLaw" (20 : Nat) ({ cls := "MixDesk", name := "back", desc := "(I)I" } : Jvm.MethodName)) ∈ lw_all := lw_g (lw_at lw_m0 29 rfl) rfl
theorem q37 : (Jvm.Cond.constant "MixDeskLaw" (23 : Nat) (-1640503410 : Int32)) ∈ lw_all := lw_g (lw_at lw_m0 37 rfl) rfl
theorem q38 : (Jvm.Cond.constantLong "MixDeskLaw" (24 : Nat) (4294967295 : Int64)) ∈ lw_all := lw_g (lw_at lw_m0 38 rfl) rfl
theorem q39 : (Jvm.Cond.methodLink "MixDeskLaw" (26 : Nat) ({ cls := "MixDesk", name := "longMix", desc := "(II)J" } : Jvm.MethodName)) ∈ lw_all := lw_g (lw_at lw_m0 39 rfl) rfl
theorem q51 : (Jvm.Cond.methodLink "MixDeskLaw" (30 : Nat) ({ cls := "MixDesk", name := "longBack", desc := "(II)J" } : Jvm.MethodName)) ∈ lw_all := lw_g (lw_at lw_m0 51 rfl) rfl
theorem q59 : (Jvm.Cond.constant "MixDeskLaw" (33 : Nat) (1073741823 : Int32)) ∈ lw_all := lw_g (lw_at lw_m0 59 rfl) rfl
theorem q60 : (Jvm.Cond.methodLink "MixDeskLaw" (34 : Nat) ({ cls := "MixDesk", name := "power", desc := "(I)I" } : Jvm.MethodName)) ∈ lw_all := lw_g (lw_at lw_m0 60 rfl) rfl
theorem q72 : (Jvm.Cond.constantLong "MixDeskLaw" (37 : Nat) (4611686018427387903 : Int64)) ∈ lw_all := lw_g (lw_at lw_m0 72 rfl) rfl
theorem q73 : (Jvm.Cond.methodLink "MixDeskLaw" (39 : Nat) ({ cls := "MixDesk", name := "longPower", desc := "(II)J" } : Jvm.MethodName)) ∈ lw_all := lw_g (lw_at lw_m0 73 rfl) rfl
theorem q85 : (Jvm.Cond.constantLong "MixDeskLaw" (42 : Nat) (2 : Int64)) ∈ lw_all := lw_g (lw_at lw_m0 85 rfl) rfl
theorem q86 : (Jvm.Cond.methodLink "MixDeskLaw" (85 : Nat) ({ cls := "MixDeskLaw", name := "askedDefined", desc := "([I)Z" } : Jvm.MethodName)) ∈ lw_all := lw_g (lw_at lw_m0 86 rfl) rfl
theorem q87 : (Jvm.Cond.static ({ cls := "MixDeskLaw", name := "askedDefined", desc := "([I)Z" } : Jvm.MethodName)) ∈ lw_all := lw_g (lw_at lw_m0 87 rfl) rfl
theorem q88 : (Jvm.Cond.code ({ cls := "MixDeskLaw", name := "askedDefined", desc := "([I)Z" } : Jvm.MethodName) method_9_code (13 : Nat) (Option.some Jvm.ClassFile.FieldType.boolean)) ∈ lw_all := lw_g (lw_at lw_m0 88 rfl) rfl
theorem q89 : (Jvm.Cond.methodLink "MixDeskLaw" (53 : Nat) ({ cls := "MixDeskLaw", name := "askedCell", desc := "([II)I" } : Jvm.MethodName)) ∈ lw_all := lw_g (lw_at lw_m0 89 rfl) rfl
theorem q90 : (Jvm.Cond.static ({ cls := "MixDeskLaw", name := "askedCell", desc := "([II)I" } : Jvm.MethodName)) ∈ lw_all := lw_g (lw_at lw_m0 90 rfl) rfl
theorem q91 : (Jvm.Cond.code ({ cls := "MixDeskLaw", name := "askedCell", desc := "([II)I" } : Jvm.MethodName) method_4_code (2 : Nat) (Option.some Jvm.ClassFile.FieldType.int)) ∈ lw_all := lw_g (lw_at lw_m0 91 rfl) rfl
theorem q92 : (Jvm.Cond.constant "MixDeskLaw" (58 : Nat) (-2147483648 : Int32)) ∈ lw_all := lw_g (lw_at lw_m0 92 rfl) rfl
theorem q93 : (Jvm.Cond.constant "MixDeskLaw" (59 : Nat) (2147483647 : Int32)) ∈ lw_all := lw_g (lw_at lw_m0 93 rfl) rfl
theorem q94 : (Jvm.Cond.methodLink "MixDeskLaw" (60 : Nat) ({ cls := "MixDeskLaw", name := "askedMix", desc := "(I)I" } : Jvm.MethodName)) ∈ lw_all := lw_g (lw_at lw_m0 94 rfl) rfl
theorem q95 : (Jvm.Cond.static ({ cls := "MixDeskLaw", name := "askedMix", desc := "(I)I" } : Jvm.MethodName)) ∈ lw_all := lw_g (lw_at lw_m0 95 rfl) rfl
theorem q96 : (Jvm.Cond.code ({ cls := "MixDeskLaw", name := "askedMix", desc := "(I)I" } : Jvm.MethodName) method_5_code (2 : Nat) (Option.some Jvm.ClassFile.FieldType.int)) ∈ lw_all := lw_g (lw_at lw_m0 96 rfl) rfl
theorem q97 : (Jvm.Cond.constant "MixDeskLaw" (44 : Nat) (-1640531527 : Int32)) ∈ lw_all := lw_g (lw_at lw_m0 97 rfl) rfl
theorem q98 : (Jvm.Cond.methodLink "MixDeskLaw" (63 : Nat) ({ cls := "MixDesk", name := "murmur", desc := "(I)I" } : Jvm.MethodName)) ∈ lw_all := lw_g (lw_at lw_m0 98 rfl) rfl
theorem q107 : (Jvm.Cond.methodLink "MixDeskLaw" (66 : Nat) ({ cls := "MixDeskLaw", name := "askedMurmur", desc := "(I)I" } : Jvm.MethodName)) ∈ lw_all := lw_g (lw_at lw_m0 107 rfl) rfl
theorem q108 : (Jvm.Cond.static ({ cls := "MixDeskLaw", name := "askedMurmur", desc := "(I)I" } : Jvm.MethodName)) ∈ lw_all := lw_g (lw_at lw_m0 108 rfl) rfl
theorem q109 : (Jvm.Cond.code ({ cls := "MixDeskLaw", name := "askedMurmur", desc := "(I)I" } : Jvm.MethodName) method_7_code (2 : Nat) (Option.some Jvm.ClassFile.FieldType.int)) ∈ lw_all := lw_g (lw_at lw_m0 109 rfl) rfl
theorem q110 : (Jvm.Cond.constant "MixDeskLaw" (47 : Nat) (-2048144789 : Int32)) ∈ lw_all := lw_g (lw_at lw_m0 110 rfl) rfl
theorem q111 : (Jvm.Cond.constant "MixDeskLaw" (48 : Nat) (-1028477387 : Int32)) ∈ lw_all := lw_g (lw_at lw_m0 111 rfl) rfl
theorem q112 : (Jvm.Cond.methodLink "MixDeskLaw" (69 : Nat) ({ cls := "MixDeskLaw", name := "askedMix", desc := "(J)J" } : Jvm.MethodName)) ∈ lw_all := lw_g (lw_at lw_m0 112 rfl) rfl
theorem q113 : (Jvm.Cond.static ({ cls := "MixDeskLaw", name := "askedMix", desc := "(J)J" } : Jvm.MethodName)) ∈ lw_all := lw_g (lw_at lw_m0 113 rfl) rfl
theorem q114 : (Jvm.Cond.code ({ cls := "MixDeskLaw", name := "askedMix", desc := "(J)J" } : Jvm.MethodName) method_6_code (4 : Nat) (Option.some Jvm.ClassFile.FieldType.long)) ∈ lw_all := lw_g (lw_at lw_m0 114 rfl) rfl
theorem q115 : (Jvm.Cond.constantLong "MixDeskLaw" (45 : Nat) (-7046029254386353131 : Int64)) ∈ lw_all := lw_g (lw_at lw_m0 115 rfl) rfl
theorem q116 : (Jvm.Cond.methodLink "MixDeskLaw" (72 : Nat) ({ cls := "MixDesk", name := "longMurmur", desc := "(II)J" } : Jvm.MethodName)) ∈ lw_all := lw_g (lw_at lw_m0 116 rfl) rfl
theorem q125 : (Jvm.Cond.methodLink "MixDeskLaw" (75 : Nat) ({ cls := "MixDeskLaw", name := "askedMurmur", desc := "(J)J" } : Jvm.MethodName)) ∈ lw_all := lw_g (lw_at lw_m0 125 rfl) rfl
theorem q126 : (Jvm.Cond.static ({ cls := "MixDeskLaw", name := "askedMurmur", desc := "(J)J" } : Jvm.MethodName)) ∈ lw_all := lw_g (lw_at lw_m0 126 rfl) rfl
theorem q127 : (Jvm.Cond.code ({ cls := "MixDeskLaw", name := "askedMurmur", desc := "(J)J" } : Jvm.MethodName) method_8_code (4 : Nat) (Option.some Jvm.ClassFile.FieldType.long)) ∈ lw_all := lw_g (lw_at lw_m0 127 rfl) rfl
theorem q128 : (Jvm.Cond.constantLong "MixDeskLaw" (49 : Nat) (-49064778989728563 : Int64)) ∈ lw_all := lw_g (lw_at lw_m0 128 rfl) rfl
theorem q129 : (Jvm.Cond.constantLong "MixDeskLaw" (51 : Nat) (-4265267296055464877 : Int64)) ∈ lw_all := lw_g (lw_at lw_m0 129 rfl) rfl
theorem q131 : (Jvm.Cond.methodLink "MixDeskLaw" (88 : Nat) ({ cls := "MixDeskLaw", name := "askedPowers", desc := "([I)Z" } : Jvm.MethodName)) ∈ lw_all := lw_g (lw_at lw_m0 131 rfl) rfl
theorem q132 : (Jvm.Cond.static ({ cls := "MixDeskLaw", name := "askedPowers", desc := "([I)Z" } : Jvm.MethodName)) ∈ lw_all := lw_g (lw_at lw_m0 132 rfl) rfl
theorem q133 : (Jvm.Cond.code ({ cls := "MixDeskLaw", name := "askedPowers", desc := "([I)Z" } : Jvm.MethodName) method_10_code (7 : Nat) (Option.some Jvm.ClassFile.FieldType.boolean)) ∈ lw_all := lw_g (lw_at lw_m0 133 rfl) rfl
theorem q134 : (Jvm.Cond.constant "MixDeskLaw" (77 : Nat) (-1073741824 : Int32)) ∈ lw_all := lw_g (lw_at lw_m0 134 rfl) rfl
theorem q135 : (Jvm.Cond.constant "MixDeskLaw" (78 : Nat) (1073741824 : Int32)) ∈ lw_all := lw_g (lw_at lw_m0 135 rfl) rfl
theorem q136 : (Jvm.Cond.constantLong "MixDeskLaw" (79 : Nat) (4611686018427387904 : Int64)) ∈ lw_all := lw_g (lw_at lw_m0 136 rfl) rfl
end
section
/-! own rows: a method that touches no heap answers a value that its arguments tell; its start, its calls -/
/-- shifts as the machine does them -/
def us32 (x y : Int32) : Int32 := (x.toUInt32 >>> (y.toUInt32 &&& Int32.toUInt32 31)).toInt32
def us64 (x : Int64) (y : Int32) : Int64 := (x.toUInt64 >>> (y.toInt64.toUInt64 &&& Int64.toUInt64 63)).toInt64
def sl64 (x : Int64) (y : Int32) : Int64 := x <<< (y.toInt64 &&& 63)
def sr64 (x : Int64) (y : Int32) : Int64 := x >>> (y.toInt64 &&& 63)
/-- a pure method's contract: the answer, the heap as it was -/
abbrev PuMet (l : Launch) (y : MethodName) (cc : ByteArray) (maxL : Nat) (ret : Option FieldType) (f n : Nat) (As : List Value) (r : Value) : Prop :=
  Met l y (ws_ y cc maxL ret) (k2_rm f n) (fun v _ => v = As.toArray) (k2_QcV r) 0 0 (fun _ => False)
/-- .. one that reads the script (an int array b of L ints xs) -/
abbrev PuMetX (l : Launch) (y : MethodName) (cc : ByteArray) (maxL : Nat) (ret : Option FieldType) (f n : Nat) (b L : Nat) (xs : Nat → Int32) (As : List Value) (r : Value) : Prop :=
  Met l y (ws_ y cc maxL ret) (k2_rm f n) (fun v U => v = As.toArray ∧ va_X b L xs U U.heap) (k2_QcV r) 0 0 (fun _ => False)
theorem pu_met {l : Launch} {y : MethodName} {cc : ByteArray} {maxL : Nat} {ret : Option FieldType} {f n : Nat} {As : List Value} {r : Value} (hy : plainName y.cls = true) (hlen : (lg_sl As).length ≤ maxL)
    (body : ∀ (p : Program) (e : Env) (s : State) (m : MethodId) (below : List Frame) (meth : Method) (c : Code) (ls : Array Slot), p.tables.exec = Jvm.exec → c.code = cc → meth.sig.returnType = ret → meth.locks = false → c.maxLocals = maxL → s.vm.findClass y.cls = some m.cls → (∀ w ∈ lw_all, w.before As.toArray s = true) → lv_has ls maxL (lv_args 0 As) →
      W p l e (k2_rm f n) s m As.toArray below meth c s.heap [] 0 0 (MQ below (k2_QcV r) As.toArray s 0 0 (fun _ => False)) (F0 m 0 ls [])) : PuMet l y cc maxL ret f n As r := by
  refine Met.ofW (cc := cc) (maxL := maxL) (ret := ret) hy rfl ?_
  intro p e s m args below meth c s₁ B hml hv
  subst hv
  have hts := atoms_spec (ws := ws_ y cc maxL ret) B.pre
  have hl := lv_entry As (n := maxL) hlen
  rw [lg_entry_eq]
  exact body p e s m below meth c _ B.exec B.bytes B.returns B.notSynchronized hml (findClass_of_methodNamed B.named) (fun w h => hts w (List.mem_cons_of_mem _ h)) hl
theorem pu_metX {l : Launch} {y : MethodName} {cc : ByteArray} {maxL : Nat} {ret : Option FieldType} {f n b L : Nat} {xs : Nat → Int32} {As : List Value} {r : Value} (hy : plainName y.cls = true) (hlen : (lg_sl As).length ≤ maxL)
    (body : ∀ (p : Program) (e : Env) (s : State) (m : MethodId) (below : List Frame) (meth : Method) (c : Code) (ls : Array Slot), p.tables.exec = Jvm.exec → c.code = cc → meth.sig.returnType = ret → meth.locks = false → c.maxLocals = maxL → s.vm.findClass y.cls = some m.cls → (∀ w ∈ lw_all, w.before As.toArray s = true) → va_X b L xs s s.heap → lv_has ls maxL (lv_args 0 As) →
      W p l e (k2_rm f n) s m As.toArray below meth c s.heap [] 0 0 (MQ below (k2_QcV r) As.toArray s 0 0 (fun _ => False)) (F0 m 0 ls [])) : PuMetX l y cc maxL ret f n b L xs As r := by
  refine Met.ofW (cc := cc) (maxL := maxL) (ret := ret) hy rfl ?_
  intro p e s m args below meth c s₁ B hml hv
  obtain ⟨rfl, hX⟩ := hv
  have hts := atoms_spec (ws := ws_ y cc maxL ret) B.pre
  have hl := lv_entry As (n := maxL) hlen
  rw [lg_entry_eq]
  exact body p e s m below meth c _ B.exec B.bytes B.returns B.notSynchronized hml (findClass_of_methodNamed B.named) (fun w h => hts w (List.mem_cons_of_mem _ h)) hX hl
section PU
variable {p : Program} {l : Launch} {e : Env} {R : Room} {s : State} {m : MethodId} {args : Array Value} {below : List Frame} {meth : Method} {c : Code} {H : Heap} {locs : List Loc} {cells slots : Nat} {Q : State → Prop}
variable {cc bytes : ByteArray} {pc nL maxL index f n : Nat} {ls : Array Slot} {rest st0 As : List Value} {own C : String} {y : MethodName} {ret : Option FieldType} {r : Value}
theorem pu_call {a : Array Value} (hr : CallRun p l e R s m args below meth c H locs cells slots 0 0 (F0 m pc ls st0) rest (k2_QcV r a) (fun _ => False))
    (kk : W p l e R s m args below meth c H locs cells slots Q (F0 m (pc + 3) ls (r :: rest))) : W p l e R s m args below meth c H locs cells slots Q (F0 m pc ls st0) := by
  intro T hT X
  obtain ⟨v, st₀, t, T', L, h0, X', hL, e1, ⟨hv, hh⟩, st⟩ := hr T hT X
  cases hv
  obtain ⟨t2, a1, b1⟩ := kk T' (by rw [e1, hh, h0]) (Stand.forget X' (fun q h => (hL q h).elim))
  exact ⟨t2, st t2 a1, b1⟩
/-- a static call of a pure method -/
theorem pu_S (k : Nat) (S : CallFix p m c cc nL s args lw_all own) (hM : PuMet l y bytes maxL ret f n As r)
    (h1 : Cond.methodLink own index y ∈ lw_all) (h2 : Cond.static y ∈ lw_all) (h3 : Cond.initialized y.cls ∈ lw_all) (h4 : Cond.code y bytes maxL ret ∈ lw_all)
    (hd : y.cls ≠ "java/lang/invoke/MethodHandle" ∧ y.cls ≠ "java/lang/invoke/VarHandle" ∧ (parseMethodDescriptor y.desc).map (fun d => d.parameters.length) = some k) (hn : As.length = k)
    (hR : f + 1 ≤ R.frames ∧ 8 + (maxL + 11) + n ≤ R.locals) (hsz : ls.size = nL) (hst : st0 = As.reverse ++ rest) (hW : (rest.map fun v => v.category).sum ≤ 8) (hdg : decode cc pc = .ok (.invokestatic index, 3)) (hcs : cells + 0 ≤ R.cells ∧ slots + 0 ≤ R.slots)
    (kk : W p l e R s m args below meth c H locs cells slots Q (F0 m (pc + 3) ls (r :: rest))) : W p l e R s m args below meth c H locs cells slots Q (F0 m pc ls st0) :=
  pu_call (W.runS S hM (va_cwS k S.2.2.2.2 (lw_S h1 h2 h3 h4) rfl rfl rfl hd hR) preEq rfl hn hsz hst (lv_room hW) hdg hcs) kk
/-- .. of one that reads the script -/
theorem pu_SX {b L : Nat} {xs : Nat → Int32} (k : Nat) (S : CallFix p m c cc nL s args lw_all own) (hM : PuMetX l y bytes maxL ret f n b L xs As r) (hX : va_X b L xs s H)
    (h1 : Cond.methodLink own index y ∈ lw_all) (h2 : Cond.static y ∈ lw_all) (h3 : Cond.initialized y.cls ∈ lw_all) (h4 : Cond.code y bytes maxL ret ∈ lw_all)
    (hd : y.cls ≠ "java/lang/invoke/MethodHandle" ∧ y.cls ≠ "java/lang/invoke/VarHandle" ∧ (parseMethodDescriptor y.desc).map (fun d => d.parameters.length) = some k) (hn : As.length = k)
    (hR : f + 1 ≤ R.frames ∧ 8 + (maxL + 11) + n ≤ R.locals) (hsz : ls.size = nL) (hst : st0 = As.reverse ++ rest) (hW : (rest.map fun v => v.category).sum ≤ 8) (hdg : decode cc pc = .ok (.invokestatic index, 3)) (hcs : cells + 0 ≤ R.cells ∧ slots + 0 ≤ R.slots)
    (kk : W p l e R s m args below meth c H locs cells slots Q (F0 m (pc + 3) ls (r :: rest))) : W p l e R s m args below meth c H locs cells slots Q (F0 m pc ls st0) :=
  pu_call (W.runS S hM (va_cwS k S.2.2.2.2 (lw_S h1 h2 h3 h4) rfl rfl rfl hd hR) ⟨fun a U g mk q => ⟨q.1, va_X.moved (u := U) (U := U.calling g mk a) (Vm.Alike.refl U.vm) q.2⟩, fun U hU hW => ⟨rfl, by rw [hU]; exact va_X.moved hW.alike hX⟩⟩ rfl hn hsz hst (lv_room hW) hdg hcs) kk
/-- a call of a pure method through an object -/
theorem pu_V {b : Nat} (k : Nat) (S : CallFix p m c cc nL s args lw_all own) (hM : PuMet l y bytes maxL ret f n (.ref b :: As) r) (hrec : ∃ cell : Cell, H[b]? = some cell ∧ cell.vm.isStatics = false ∧ s.vm.findClass C = some cell.cls)
    (h1 : Cond.methodLink own index y ∈ lw_all) (h2 : Cond.instanceMethod y ∈ lw_all) (h3 : Cond.selects C y y ∈ lw_all) (h4 : Cond.initialized C ∈ lw_all) (h5 : Cond.code y bytes maxL ret ∈ lw_all)
    (hd : y.cls = C ∧ y.cls ≠ "java/lang/invoke/MethodHandle" ∧ y.cls ≠ "java/lang/invoke/VarHandle" ∧ (parseMethodDescriptor y.desc).map (fun d => d.parameters.length) = some k) (hn : As.length = k)
    (hR : f + 1 ≤ R.frames ∧ 8 + (maxL + 11) + n ≤ R.locals) (hsz : ls.size = nL) (hst : st0 = As.reverse ++ .ref b :: rest) (hW : (rest.map fun v => v.category).sum ≤ 8) (hdg : decode cc pc = .ok (.invokevirtual index, 3)) (hcs : cells + 0 ≤ R.cells ∧ slots + 0 ≤ R.slots)
    (kk : W p l e R s m args below meth c H locs cells slots Q (F0 m (pc + 3) ls (r :: rest))) : W p l e R s m args below meth c H locs cells slots Q (F0 m pc ls st0) :=
  pu_call (W.runV S hM (cwV k S.2.2.2.2 (lw_V h1 h2 h3 h4 h5) rfl rfl rfl hd hR) ⟨fun _ _ _ _ q => q, hrec, fun _ _ _ => rfl⟩ rfl hn hsz hst (lv_room hW) hdg hcs) kk
/-- ends -/
theorem pu_iret {v : Int32} (hx : p.tables.exec = Jvm.exec) (hb : c.code = cc) (hr : meth.sig.returnType = some .int) (hlocks : meth.locks = false) (hv : (.int v : Value) = r) (hdg : decode cc pc = .ok (.ireturn, 1)) :
    W p l e R s m args below meth c s.heap [] cells slots (MQ below (k2_QcV r) args s cells slots (fun _ => False)) (F0 m pc ls [.int v]) := by
  subst hv
  exact W.iret (v := v) hx hb hr (fun t ht _ => ⟨rfl, ht⟩) (fun q h => by cases h) hdg hlocks
theorem pu_lret {v : Int64} (hx : p.tables.exec = Jvm.exec) (hb : c.code = cc) (hr : meth.sig.returnType = some .long) (hlocks : meth.locks = false) (hv : (.long v : Value) = r) (hdg : decode cc pc = .ok (.lreturn, 1)) :
    W p l e R s m args below meth c s.heap [] cells slots (MQ below (k2_QcV r) args s cells slots (fun _ => False)) (F0 m pc ls [.long v]) := by
  subst hv
  exact W.lret (v := v) hx hb hr (fun t ht _ => ⟨rfl, ht⟩) (fun q h => by cases h) hdg hlocks
end PU
end
section
/-! the plain law: what the methods compute, no machine in sight. (s_l and the wb_ rows began as rows of kit/laws/BITS.to-paste.) -/
theorem s_l : ∀ n, n < 32 → ((nI n &&& 31).toBitVec.smod 32).toNat = n := by decide +kernel
theorem wb_tb (n : Nat) : (lN n).toBitVec = BitVec.ofNat 64 n := rfl
theorem wb_inj {a b : Int64} (h : a.toBitVec = b.toBitVec) : a = b := Int64.toBitVec_inj.mp h
theorem wb_tn {n : Nat} (h : n < 2 ^ 64) : (lN n).toBitVec.toNat = n := by rw [wb_tb, BitVec.toNat_ofNat, Nat.mod_eq_of_lt h]
theorem wb_of (x : Int64) : ∃ n, n < 2 ^ 64 ∧ x = lN n := ⟨x.toBitVec.toNat, x.toBitVec.isLt, wb_inj (by rw [wb_tb]; simp)⟩
theorem wb_of32 (x : Int32) : ∃ n, n < 2 ^ 32 ∧ x = nI n := ⟨x.toBitVec.toNat, x.toBitVec.isLt, Int32.toBitVec_inj.mp (by show _ = BitVec.ofNat 32 _; simp)⟩
theorem wb_c : ∀ k, k < 64 → ((nI k).toInt64 &&& 63) = lN k := by decide +kernel
theorem wb_cu : ∀ k, k < 64 → ((nI k).toInt64.toUInt64 &&& Int64.toUInt64 63) = UInt64.ofNat k := by decide +kernel
theorem wb_sm : ∀ k, k < 64 → (BitVec.ofNat 64 k).smod 64 = BitVec.ofNat 64 k := by decide +kernel
theorem wb_pw {a b : Nat} (h : a ≤ b) : 2 ^ b = 2 ^ a * 2 ^ (b - a) := by rw [← Nat.pow_add]; congr 1; omega
theorem wb_lt2 {a b : Nat} (h : a < b) : 2 ^ a < 2 ^ b := Nat.pow_lt_pow_right (by decide) h
theorem wb_mod (n : Nat) : lN n = lN (n % 2 ^ 64) := wb_inj (by rw [wb_tb, wb_tb]; apply BitVec.eq_of_toNat_eq; rw [BitVec.toNat_ofNat, BitVec.toNat_ofNat, Nat.mod_mod])
theorem wb_shr {n k : Nat} (hn : n < 2 ^ 64) (hk : k < 64) : ((lN n).toUInt64 >>> ((nI k).toInt64.toUInt64 &&& Int64.toUInt64 63)).toInt64 = lN (n / 2 ^ k) := by
  rw [wb_cu k hk]
  apply wb_inj
  apply BitVec.eq_of_toNat_eq
  show ((lN n).toUInt64 >>> UInt64.ofNat k).toNat = (BitVec.ofNat 64 _).toNat
  have h1 : (UInt64.ofNat k).toNat = k := by
    show (BitVec.ofNat 64 k).toNat = k
    rw [BitVec.toNat_ofNat, Nat.mod_eq_of_lt (by omega)]
  have h2 : (lN n).toUInt64.toNat = n := wb_tn hn
  rw [UInt64.toNat_shiftRight, h1, h2, Nat.mod_eq_of_lt hk, Nat.shiftRight_eq_div_pow, BitVec.toNat_ofNat, Nat.mod_eq_of_lt (Nat.lt_of_le_of_lt (Nat.div_le_self _ _) hn)]
theorem wb_shl (n : Nat) {k : Nat} (hk : k < 64) : lN n <<< ((nI k).toInt64 &&& 63) = lN (n * 2 ^ k) := by
  rw [wb_c k hk]
  apply wb_inj
  rw [Int64.toBitVec_shiftLeft, wb_tb, wb_tb, wb_tb, wb_sm k hk]
  apply BitVec.eq_of_toNat_eq
  rw [BitVec.shiftLeft_eq', BitVec.toNat_shiftLeft, BitVec.toNat_ofNat, BitVec.toNat_ofNat, BitVec.toNat_ofNat, Nat.mod_eq_of_lt (show k < 2 ^ 64 by omega), Nat.shiftLeft_eq, Nat.mul_mod, Nat.mod_mod, ← Nat.mul_mod]
theorem wb_and {a b : Nat} (ha : a < 2 ^ 64) (hb : b < 2 ^ 64) : lN a &&& lN b = lN (a &&& b) := by
  apply wb_inj
  rw [Int64.toBitVec_and, wb_tb, wb_tb, wb_tb]
  apply BitVec.eq_of_toNat_eq
  rw [BitVec.toNat_and, BitVec.toNat_ofNat, BitVec.toNat_ofNat, BitVec.toNat_ofNat, Nat.mod_eq_of_lt ha, Nat.mod_eq_of_lt hb, Nat.mod_eq_of_lt (Nat.and_lt_two_pow _ hb)]
theorem wb_or {a b : Nat} (ha : a < 2 ^ 64) (hb : b < 2 ^ 64) : lN a ||| lN b = lN (a ||| b) := by
  apply wb_inj
  rw [Int64.toBitVec_or, wb_tb, wb_tb, wb_tb]
  apply BitVec.eq_of_toNat_eq
  rw [BitVec.toNat_or, BitVec.toNat_ofNat, BitVec.toNat_ofNat, BitVec.toNat_ofNat, Nat.mod_eq_of_lt ha, Nat.mod_eq_of_lt hb, Nat.mod_eq_of_lt (Nat.or_lt_two_pow ha hb)]
theorem wb_mask {n k : Nat} (hn : n < 2 ^ 64) (hk : k < 64) : lN n &&& lN (2 ^ k - 1) = lN (n % 2 ^ k) := by
  rw [wb_and hn (by have := wb_lt2 hk; omega), Nat.and_two_pow_sub_one_eq_mod]
/-! what each method computes, as the machine computes it -/
def md_xi (x k : Int32) : Int32 := x ^^^ us32 x k
def md_xl (x : Int64) (k : Int32) : Int64 := x ^^^ us64 x k
def md_mixI (x : Int32) : Int32 := md_xi (x * -1640531527) 16
def md_invI (x : Int32) : Int32 := md_xi x 16 * 340573321
def md_mixL (x : Int64) : Int64 := md_xl (md_xl (x * -7046029254386353131) 32) 16
def md_invL (x : Int64) : Int64 := md_xl (md_xl (md_xl x 32) 16) 32 * -1018231460777725123
def md_murI (x : Int32) : Int32 := md_xi (md_xi (md_xi x 16 * -2048144789) 13 * -1028477387) 16
def md_murL (x : Int64) : Int64 := md_xl (md_xl (md_xl x 33 * -49064778989728563) 33 * -4265267296055464877) 33
def md_wide (h l : Int32) : Int64 := sl64 h.toInt64 32 ||| (l.toInt64 &&& 4294967295)
def md_z1 (x n : Int32) : Int32 := n - us32 x 1
def md_z2 (x n : Int32) : Int32 := if x < 4 then md_z1 x n else md_z1 (us32 x 2) (n + -2)
def md_z4 (x n : Int32) : Int32 := if x < 16 then md_z2 x n else md_z2 (us32 x 4) (n + -4)
def md_z8 (x n : Int32) : Int32 := if x < 256 then md_z4 x n else md_z4 (us32 x 8) (n + -8)
def md_z16 (x n : Int32) : Int32 := if x < 65536 then md_z8 x n else md_z8 (us32 x 16) (n + -16)
def md_nlzI (x : Int32) : Int32 := if 0 < x then md_z16 x 31 else if x = 0 then 32 else 0
def md_nlzL (x : Int64) : Int32 := if (us64 x 32).toInt32 = 0 then 32 + md_nlzI x.toInt32 else md_nlzI (us64 x 32).toInt32
def md_nextI (x : Int32) : Int32 := (1 : Int32) <<< ((32 - md_nlzI (x - 1)) &&& 31)
def md_nextL (x : Int64) : Int64 := sl64 1 (64 - md_nlzL (x - 1))
def md_powI (x : Int32) : Int32 := md_nextI (x &&& 1073741823)
def md_powL (x : Int64) : Int64 := md_nextL (x &&& 4611686018427387903)
/-! xor with itself shifted -/
def md_X {w : Nat} (k : Nat) (v : BitVec w) : BitVec w := v ^^^ v >>> k
theorem md_X_sq {w : Nat} (k : Nat) (v : BitVec w) : md_X k (md_X k v) = md_X (k + k) v := by
  apply BitVec.eq_of_getLsbD_eq
  intro i hi
  simp only [md_X, BitVec.getLsbD_xor, BitVec.getLsbD_ushiftRight]
  rw [show k + (k + i) = k + k + i by omega]
  cases v.getLsbD i <;> cases v.getLsbD (k + i) <;> cases v.getLsbD (k + k + i) <;> rfl
theorem md_X_comm {w : Nat} (j k : Nat) (v : BitVec w) : md_X k (md_X j v) = md_X j (md_X k v) := by
  apply BitVec.eq_of_getLsbD_eq
  intro i hi
  simp only [md_X, BitVec.getLsbD_xor, BitVec.getLsbD_ushiftRight]
  rw [show k + (j + i) = j + (k + i) by omega]
  cases v.getLsbD i <;> cases v.getLsbD (k + i) <;> cases v.getLsbD (j + i) <;> cases v.getLsbD (j + (k + i)) <;> rfl
theorem md_X_0 {w : Nat} (k : Nat) (hk : w ≤ k) (v : BitVec w) : md_X k v = v := by
  apply BitVec.eq_of_getLsbD_eq
  intro i hi
  simp only [md_X, BitVec.getLsbD_xor, BitVec.getLsbD_ushiftRight]
  rw [BitVec.getLsbD_of_ge v (k + i) (by omega)]
  cases v.getLsbD i <;> rfl
theorem md_us32 (x s : Int32) (k : Nat) (hs : ((s.toUInt32 &&& Int32.toUInt32 31).toBitVec % 32).toNat = k) : (us32 x s).toBitVec = x.toBitVec >>> k := by
  apply BitVec.eq_of_toNat_eq
  rw [BitVec.toNat_ushiftRight, Nat.shiftRight_eq_div_pow]
  exact pk_ushr x s k hs
theorem md_us64 (x : Int64) (s : Int32) (k : Nat) (hs : (s.toInt64.toUInt64 &&& Int64.toUInt64 63).toNat % 64 = k) : (us64 x s).toBitVec = x.toBitVec >>> k := by
  subst hs
  apply BitVec.eq_of_toNat_eq
  show (x.toUInt64 >>> (s.toInt64.toUInt64 &&& Int64.toUInt64 63)).toNat = _
  rw [UInt64.toNat_shiftRight, BitVec.toNat_ushiftRight]
  rfl
theorem md_xi_bv (x s : Int32) (k : Nat) (hs : ((s.toUInt32 &&& Int32.toUInt32 31).toBitVec % 32).toNat = k) : (md_xi x s).toBitVec = md_X k x.toBitVec := by
  unfold md_xi md_X
  rw [Int32.toBitVec_xor, md_us32 x s k hs]
theorem md_xl_bv (x : Int64) (s : Int32) (k : Nat) (hs : (s.toInt64.toUInt64 &&& Int64.toUInt64 63).toNat % 64 = k) : (md_xl x s).toBitVec = md_X k x.toBitVec := by
  unfold md_xl md_X
  rw [Int64.toBitVec_xor, md_us64 x s k hs]
theorem md_xi_16 (x : Int32) : (md_xi x 16).toBitVec = md_X 16 x.toBitVec := md_xi_bv x 16 16 (by decide)
theorem md_xl_16 (x : Int64) : (md_xl x 16).toBitVec = md_X 16 x.toBitVec := md_xl_bv x 16 16 (by decide)
theorem md_xl_32 (x : Int64) : (md_xl x 32).toBitVec = md_X 32 x.toBitVec := md_xl_bv x 32 32 (by decide)
theorem md_e32 (u : BitVec 64) : md_X 32 (md_X 32 u) = u := (md_X_sq 32 u).trans (md_X_0 64 (Nat.le_refl _) u)
theorem md_e16 (u : BitVec 64) : md_X 16 (md_X 16 u) = md_X 32 u := md_X_sq 16 u
theorem md_f16 (u : BitVec 32) : md_X 16 (md_X 16 u) = u := (md_X_sq 16 u).trans (md_X_0 32 (Nat.le_refl _) u)
theorem md_undoI (x : Int32) : md_xi (md_xi x 16) 16 = x := by
  apply Int32.toBitVec_inj.mp
  rw [md_xi_16, md_xi_16, md_f16]
theorem md_undoL (x : Int64) : md_xl (md_xl (md_xl (md_xl (md_xl x 32) 16) 32) 16) 32 = x := by
  apply Int64.toBitVec_inj.mp
  rw [md_xl_32, md_xl_16, md_xl_32, md_xl_16, md_xl_32, md_X_comm 32 16 x.toBitVec, md_e32, md_e16, md_e32]
theorem md_undoL2 (x : Int64) : md_xl (md_xl (md_xl (md_xl (md_xl x 32) 16) 32) 32) 16 = x := by
  apply Int64.toBitVec_inj.mp
  rw [md_xl_16, md_xl_32, md_xl_32, md_xl_16, md_xl_32, md_e32, md_e16, md_e32]
/-- mix and invMix undo each other -/
theorem md_invmixI (x : Int32) : md_invI (md_mixI x) = x := by
  unfold md_invI md_mixI
  rw [md_undoI, Int32.mul_assoc, show (-1640531527 : Int32) * 340573321 = 1 by decide, Int32.mul_one]
theorem md_mixinvI (x : Int32) : md_mixI (md_invI x) = x := by
  unfold md_invI md_mixI
  rw [Int32.mul_assoc, show (340573321 : Int32) * -1640531527 = 1 by decide, Int32.mul_one, md_undoI]
theorem md_invmixL (x : Int64) : md_invL (md_mixL x) = x := by
  unfold md_invL md_mixL
  rw [md_undoL, Int64.mul_assoc, show (-7046029254386353131 : Int64) * -1018231460777725123 = 1 by decide, Int64.mul_one]
theorem md_mixinvL (x : Int64) : md_mixL (md_invL x) = x := by
  unfold md_invL md_mixL
  rw [Int64.mul_assoc, show (-1018231460777725123 : Int64) * -7046029254386353131 = 1 by decide, Int64.mul_one, md_undoL2]
theorem md_mix1 : md_mixI 1 = -1640503410 := by decide +kernel
/-! a long out of its halves -/
theorem md_lo_bit (i : Nat) (hi : i < 64) : (4294967295 : Int64).toBitVec.getLsbD i = decide (i < 32) := (by decide +kernel : ∀ i, i < 64 → (4294967295 : Int64).toBitVec.getLsbD i = decide (i < 32)) i hi
theorem md_sl_bv (x : Int64) : (sl64 x 32).toBitVec = x.toBitVec <<< 32 := by
  unfold sl64
  rw [Int64.toBitVec_shiftLeft]
  show x.toBitVec <<< (((32 : Int32).toInt64 &&& 63).toBitVec.smod 64).toNat = _
  rw [show (((32 : Int32).toInt64 &&& 63).toBitVec.smod 64).toNat = 32 by decide]
theorem md_sr_bv (x : Int64) : (sr64 x 32).toBitVec = x.toBitVec.sshiftRight 32 := by
  unfold sr64
  rw [Int64.toBitVec_shiftRight]
  show x.toBitVec.sshiftRight (((32 : Int32).toInt64 &&& 63).toBitVec.smod 64).toNat = _
  rw [show (((32 : Int32).toInt64 &&& 63).toBitVec.smod 64).toNat = 32 by decide]
theorem md_i2l_bv (x : Int32) : x.toInt64.toBitVec = x.toBitVec.signExtend 64 := rfl
theorem md_l2i_bv (x : Int64) : x.toInt32.toBitVec = x.toBitVec.signExtend 32 := rfl
theorem md_se (v : BitVec 32) (i : Nat) (hi : i < 32) : (v.signExtend 64).getLsbD i = v.getLsbD i := by
  have h2 : i < 64 := by omega
  rw [BitVec.getLsbD_signExtend, if_pos hi, decide_eq_true h2, Bool.true_and]
theorem md_wide_bit (h l : Int32) (i : Nat) (hi : i < 64) : (md_wide h l).toBitVec.getLsbD i = if i < 32 then l.toBitVec.getLsbD i else h.toBitVec.getLsbD (i - 32) := by
  unfold md_wide
  rw [Int64.toBitVec_or, Int64.toBitVec_and, md_sl_bv, md_i2l_bv, md_i2l_bv, BitVec.getLsbD_or, BitVec.getLsbD_and, md_lo_bit i hi, BitVec.getLsbD_shiftLeft]
  by_cases q : i < 32
  · rw [if_pos q, md_se l.toBitVec i q, decide_eq_true q]
    simp
  · have q2 : i - 32 < 32 := by omega
    rw [if_neg q, md_se h.toBitVec (i - 32) q2, decide_eq_false q, decide_eq_true hi]
    simp
theorem md_hi_bit (m : Int64) (i : Nat) (hi : i < 32) : (sr64 m 32).toInt32.toBitVec.getLsbD i = m.toBitVec.getLsbD (32 + i) := by
  have q : 32 + i < 64 := by omega
  have q2 : i < 64 := by omega
  rw [md_l2i_bv, md_sr_bv, BitVec.getLsbD_signExtend, BitVec.getLsbD_sshiftRight]
  simp [hi, q, q2]
theorem md_low_bit (m : Int64) (i : Nat) (hi : i < 32) : m.toInt32.toBitVec.getLsbD i = m.toBitVec.getLsbD i := by
  have q2 : i < 64 := by omega
  rw [md_l2i_bv, BitVec.getLsbD_signExtend]
  simp [hi, q2]
theorem md_split (m : Int64) : md_wide (sr64 m 32).toInt32 m.toInt32 = m := by
  apply Int64.toBitVec_inj.mp
  apply BitVec.eq_of_getLsbD_eq
  intro i hi
  rw [md_wide_bit _ _ i hi]
  by_cases q : i < 32
  · rw [if_pos q, md_low_bit m i q]
  · rw [if_neg q, md_hi_bit m (i - 32) (by omega), show 32 + (i - 32) = i by omega]
theorem md_m62_bit (i : Nat) (hi : i < 64) : (4611686018427387903 : Int64).toBitVec.getLsbD i = decide (i < 62) := (by decide +kernel : ∀ i, i < 64 → (4611686018427387903 : Int64).toBitVec.getLsbD i = decide (i < 62)) i hi
theorem md_m30_bit (i : Nat) (hi : i < 32) : (1073741823 : Int32).toBitVec.getLsbD i = decide (i < 30) := (by decide +kernel : ∀ i, i < 32 → (1073741823 : Int32).toBitVec.getLsbD i = decide (i < 30)) i hi
theorem md_t30_bit (i : Nat) (hi : i < 32) : (-1073741824 : Int32).toBitVec.getLsbD i = decide (30 ≤ i) := (by decide +kernel : ∀ i, i < 32 → (-1073741824 : Int32).toBitVec.getLsbD i = decide (30 ≤ i)) i hi
/-- the highest two bits don't count -/
theorem md_top32 (c z : Int32) : ((c &&& -1073741824) ||| z) &&& 1073741823 = z &&& 1073741823 := by
  apply Int32.toBitVec_inj.mp
  apply BitVec.eq_of_getLsbD_eq
  intro i hi
  rw [Int32.toBitVec_and, Int32.toBitVec_or, Int32.toBitVec_and, Int32.toBitVec_and, BitVec.getLsbD_and, BitVec.getLsbD_or, BitVec.getLsbD_and, BitVec.getLsbD_and, md_m30_bit i hi, md_t30_bit i hi]
  by_cases q : i < 30
  · rw [decide_eq_false (show ¬ 30 ≤ i by omega), Bool.and_false, Bool.false_or]
  · rw [decide_eq_false q, Bool.and_false, Bool.and_false]
theorem md_top32z (c : Int32) : (c &&& -1073741824) &&& 1073741823 = 0 := by
  apply Int32.toBitVec_inj.mp
  apply BitVec.eq_of_getLsbD_eq
  intro i hi
  rw [Int32.toBitVec_and, Int32.toBitVec_and, BitVec.getLsbD_and, BitVec.getLsbD_and, md_m30_bit i hi, md_t30_bit i hi]
  by_cases q : i < 30
  · rw [decide_eq_false (show ¬ 30 ≤ i by omega), Bool.and_false, Bool.false_and]
    exact BitVec.getLsbD_zero.symm
  · rw [decide_eq_false q, Bool.and_false]
    exact BitVec.getLsbD_zero.symm
theorem md_top64 (m : Int64) (c : Int32) : md_wide ((sr64 m 32).toInt32 ||| (c &&& -1073741824)) m.toInt32 &&& 4611686018427387903 = m &&& 4611686018427387903 := by
  apply Int64.toBitVec_inj.mp
  apply BitVec.eq_of_getLsbD_eq
  intro i hi
  rw [Int64.toBitVec_and, Int64.toBitVec_and, BitVec.getLsbD_and, BitVec.getLsbD_and, md_m62_bit i hi, md_wide_bit _ _ i hi]
  by_cases q : i < 62
  · congr 1
    by_cases q2 : i < 32
    · rw [if_pos q2, md_low_bit m i q2]
    · rw [if_neg q2, Int32.toBitVec_or, Int32.toBitVec_and, BitVec.getLsbD_or, BitVec.getLsbD_and, md_t30_bit (i - 32) (by omega), md_hi_bit m (i - 32) (by omega), show 32 + (i - 32) = i by omega, decide_eq_false (show ¬ 30 ≤ i - 32 by omega), Bool.and_false, Bool.or_false]
  · rw [decide_eq_false q, Bool.and_false, Bool.and_false]
end
section
/-! the plain law of nextPowerOfTwo -/
/-- how many bits n has -/
def md_bl (n : Nat) : Nat := if n = 0 then 0 else n.log2 + 1
/-- the least power of two not below n -/
def md_np (n : Nat) : Nat := 2 ^ md_bl (n - 1)
theorem md_bl_lt (n : Nat) : n < 2 ^ md_bl n := by
  unfold md_bl
  by_cases h : n = 0
  · rw [if_pos h, h]; decide
  · rw [if_neg h]; exact Nat.lt_log2_self
theorem md_bl_pos {n : Nat} (h : n ≠ 0) : 1 ≤ md_bl n := by
  unfold md_bl
  rw [if_neg h]
  omega
theorem md_bl_le {n : Nat} (h : n ≠ 0) : 2 ^ (md_bl n - 1) ≤ n := by
  unfold md_bl
  rw [if_neg h]
  exact Nat.log2_self_le h
theorem md_pw {a b : Nat} (h : a ≤ b) : 2 ^ a ≤ 2 ^ b := Nat.pow_le_pow_right (by decide) h
theorem md_bl_of {n k : Nat} (h1 : 2 ^ k ≤ n) (h2 : n < 2 ^ (k + 1)) : md_bl n = k + 1 := by
  have hp : 0 < 2 ^ k := Nat.two_pow_pos k
  have hn : n ≠ 0 := by omega
  have a := md_bl_lt n
  have b := md_bl_le hn
  have c := md_bl_pos hn
  rcases Nat.lt_trichotomy (md_bl n) (k + 1) with q | q | q
  · have := md_pw (show md_bl n ≤ k by omega)
    omega
  · exact q
  · have := md_pw (show k + 1 ≤ md_bl n - 1 by omega)
    omega
theorem md_bl_le_of {n k : Nat} (h : n < 2 ^ k) : md_bl n ≤ k := by
  by_cases hn : n = 0
  · unfold md_bl; rw [if_pos hn]; exact Nat.zero_le _
  · rcases Nat.lt_or_ge k (md_bl n) with q | q
    · have a := md_bl_le hn
      have := md_pw (show k ≤ md_bl n - 1 by omega)
      omega
    · exact q
theorem md_bl_gt_of {n k : Nat} (h : 2 ^ k ≤ n) : k < md_bl n := by
  have a := md_bl_lt n
  rcases Nat.lt_or_ge k (md_bl n) with q | q
  · exact q
  · have := md_pw q
    omega
theorem md_bl_div {n : Nat} (j : Nat) (h : 2 ^ j ≤ n) : md_bl (n / 2 ^ j) = md_bl n - j := by
  have hp : 0 < 2 ^ j := Nat.two_pow_pos j
  have hn : n ≠ 0 := by omega
  have a := md_bl_lt n
  have b := md_bl_le hn
  have c := md_bl_gt_of h
  have e : md_bl n - j = (md_bl n - j - 1) + 1 := by omega
  rw [e]
  apply md_bl_of
  · rw [Nat.le_div_iff_mul_le hp, ← Nat.pow_add, show md_bl n - j - 1 + j = md_bl n - 1 by omega]
    exact b
  · rw [Nat.div_lt_iff_lt_mul hp, ← Nat.pow_add, show md_bl n - j - 1 + 1 + j = md_bl n by omega]
    exact a
theorem md_np_ge (n : Nat) : n ≤ md_np n := by
  have := md_bl_lt (n - 1)
  unfold md_np
  omega
theorem md_np_half {n : Nat} (h : 1 < md_np n) : md_np n / 2 < n := by
  unfold md_np at h ⊢
  have hn : n - 1 ≠ 0 := by
    intro q
    rw [q] at h
    exact absurd h (by decide)
  have a := md_bl_le hn
  have b := md_bl_pos hn
  have e : 2 ^ md_bl (n - 1) = 2 ^ (md_bl (n - 1) - 1) * 2 := by
    have e2 := Nat.pow_succ (n := 2) (m := md_bl (n - 1) - 1)
    rw [show (md_bl (n - 1) - 1).succ = md_bl (n - 1) by omega] at e2
    exact e2
  omega
theorem md_np_exp {n k : Nat} (h : n ≤ 2 ^ k) : md_bl (n - 1) ≤ k := by
  apply md_bl_le_of
  have := Nat.two_pow_pos k
  omega
/-! the count of leading zeros -/
theorem md_usN {n : Nat} (hn : n < 2 ^ 32) (s : Int32) (k : Nat) (hs : ((s.toUInt32 &&& Int32.toUInt32 31).toBitVec % 32).toNat = k) : us32 (nI n) s = nI (n / 2 ^ k) := pk_ushrN hn s k hs
theorem md_minus {c d : Nat} (hd : d ≤ c) {x : Int32} (hx : nI d + x = 0) : nI c + x = nI (c - d) := by
  have e : nI c = nI (c - d) + nI d := by rw [nI_add, Nat.sub_add_cancel hd]
  rw [e, Int32.add_assoc, hx, Int32.add_zero]
theorem md_z1_of {m c : Nat} (h1 : 1 ≤ m) (h2 : m < 4) (hc : md_bl m ≤ c + 1) : md_z1 (nI m) (nI c) = nI (c + 1 - md_bl m) := by
  have e : m / 2 = md_bl m - 1 := by
    rcases Nat.lt_or_ge m 2 with q | q
    · have : m = 1 := by omega
      subst this
      decide
    · have := md_bl_of (k := 1) (n := m) (by omega) (by omega)
      omega
  have hp := md_bl_pos (n := m) (by omega)
  unfold md_z1
  rw [md_usN (by omega) 1 1 (by decide), show m / 2 ^ 1 = m / 2 from rfl, e, pk_sub (by omega)]
  congr 1
  omega
theorem md_z2_of {m c : Nat} (h1 : 1 ≤ m) (h2 : m < 16) (hc : md_bl m ≤ c + 1) : md_z2 (nI m) (nI c) = nI (c + 1 - md_bl m) := by
  unfold md_z2
  rcases Nat.lt_or_ge m 4 with q | q
  · rw [if_pos (show nI m < 4 from nI_lt (b := 4) q (by decide))]
    exact md_z1_of h1 q hc
  · have b := md_bl_gt_of (k := 2) (n := m) q
    have d := md_bl_div (n := m) 2 q
    rw [if_neg (show ¬ nI m < 4 from nI_nlt (b := 4) q (by omega)), md_usN (by omega) 2 2 (by decide), md_minus (d := 2) (by omega) (by decide), md_z1_of (by omega) (by omega) (by rw [d]; omega), d]
    congr 1
    omega
theorem md_z4_of {m c : Nat} (h1 : 1 ≤ m) (h2 : m < 256) (hc : md_bl m ≤ c + 1) : md_z4 (nI m) (nI c) = nI (c + 1 - md_bl m) := by
  unfold md_z4
  rcases Nat.lt_or_ge m 16 with q | q
  · rw [if_pos (show nI m < 16 from nI_lt (b := 16) q (by decide))]
    exact md_z2_of h1 q hc
  · have b := md_bl_gt_of (k := 4) (n := m) q
    have d := md_bl_div (n := m) 4 q
    rw [if_neg (show ¬ nI m < 16 from nI_nlt (b := 16) q (by omega)), md_usN (by omega) 4 4 (by decide), md_minus (d := 4) (by omega) (by decide), md_z2_of (by omega) (by omega) (by rw [d]; omega), d]
    congr 1
    omega
theorem md_z8_of {m c : Nat} (h1 : 1 ≤ m) (h2 : m < 65536) (hc : md_bl m ≤ c + 1) : md_z8 (nI m) (nI c) = nI (c + 1 - md_bl m) := by
  unfold md_z8
  rcases Nat.lt_or_ge m 256 with q | q
  · rw [if_pos (show nI m < 256 from nI_lt (b := 256) q (by decide))]
    exact md_z4_of h1 q hc
  · have b := md_bl_gt_of (k := 8) (n := m) q
    have d := md_bl_div (n := m) 8 q
    rw [if_neg (show ¬ nI m < 256 from nI_nlt (b := 256) q (by omega)), md_usN (by omega) 8 8 (by decide), md_minus (d := 8) (by omega) (by decide), md_z4_of (by omega) (by omega) (by rw [d]; omega), d]
    congr 1
    omega
theorem md_z16_of {m c : Nat} (h1 : 1 ≤ m) (h2 : m < 2 ^ 31) (hc : md_bl m ≤ c + 1) : md_z16 (nI m) (nI c) = nI (c + 1 - md_bl m) := by
  unfold md_z16
  rcases Nat.lt_or_ge m 65536 with q | q
  · rw [if_pos (show nI m < 65536 from nI_lt (b := 65536) q (by decide))]
    exact md_z8_of h1 q hc
  · have b := md_bl_gt_of (k := 16) (n := m) q
    have d := md_bl_div (n := m) 16 q
    rw [if_neg (show ¬ nI m < 65536 from nI_nlt (b := 65536) q (by omega)), md_usN (by omega) 16 16 (by decide), md_minus (d := 16) (by omega) (by decide), md_z8_of (by omega) (by omega) (by rw [d]; omega), d]
    congr 1
    omega
theorem md_neg {m : Nat} (h1 : 2 ^ 31 ≤ m) (h2 : m < 2 ^ 32) : (nI m).toInt < 0 := by
  show (BitVec.ofNat 32 m).toInt < 0
  rw [BitVec.toInt_eq_toNat_cond, BitVec.toNat_ofNat, Nat.mod_eq_of_lt h2]
  split <;> omega
theorem md_nlzI_of {m : Nat} (h : m < 2 ^ 32) : md_nlzI (nI m) = nI (32 - md_bl m) := by
  unfold md_nlzI
  have z0 : (0 : Int32).toInt = 0 := by decide
  by_cases q0 : m = 0
  · subst q0
    decide +kernel
  · rcases Nat.lt_or_ge m (2 ^ 31) with q | q
    · have b := md_bl_le_of q
      rw [if_pos (show (0 : Int32) < nI m from nI_lt (a := 0) (by omega) q), show (31 : Int32) = nI 31 from rfl, md_z16_of (by omega) q (by omega)]
    · have b := md_bl_of (k := 31) (n := m) q h
      have n0 := md_neg q h
      rw [if_neg (by rw [Int32.lt_iff_toInt_lt, z0]; omega), if_neg (by intro e; rw [e, z0] at n0; omega), b]
      rfl
theorem md_nextI_of {n : Nat} (h : n ≤ 2 ^ 30) : md_nextI (nI n) = nI (md_np n) := by
  cases n with
  | zero => decide +kernel
  | succ k =>
    have b : md_bl k ≤ 30 := md_bl_le_of (by omega)
    unfold md_nextI
    rw [nI_pred, md_nlzI_of (by omega), show (32 : Int32) = nI 32 from rfl, pk_sub (by omega), show 32 - (32 - md_bl k) = md_bl k by omega]
    have p := md_pw b
    have e := pk_shlN (n := 1) (nI (md_bl k) &&& 31) (md_bl k) (s_l _ (by omega)) (by omega)
    rw [Nat.one_mul] at e
    exact e
theorem md_usL {n : Nat} (h : n < 2 ^ 64) : us64 (lN n) 32 = lN (n / 2 ^ 32) := wb_shr (k := 32) h (by decide)
theorem md_nlzL_of {n : Nat} (h : n < 2 ^ 64) : md_nlzL (lN n) = nI (64 - md_bl n) := by
  unfold md_nlzL
  rw [md_usL h, lN_i, lN_i]
  rcases Nat.lt_or_ge n (2 ^ 32) with q | q
  · have b := md_bl_le_of q
    rw [show n / 2 ^ 32 = 0 by omega, if_pos (show nI 0 = 0 from rfl), md_nlzI_of q, show (32 : Int32) = nI 32 from rfl, nI_add]
    congr 1
    omega
  · have hq : n / 2 ^ 32 < 2 ^ 32 := by omega
    have h0 : n / 2 ^ 32 ≠ 0 := by omega
    have c := md_bl_gt_of q
    have b := md_bl_le_of h
    rw [if_neg (fun e => h0 (by have z := congrArg (fun t : Int32 => t.toBitVec.toNat) e; rw [pk_tn hq] at z; exact z)), md_nlzI_of hq, md_bl_div 32 q]
    congr 1
    omega
theorem md_nextL_of {n : Nat} (h : n ≤ 2 ^ 62) : md_nextL (lN n) = lN (md_np n) := by
  cases n with
  | zero => decide +kernel
  | succ k =>
    have b : md_bl k ≤ 62 := md_bl_le_of (by omega)
    unfold md_nextL
    rw [show lN (k + 1) - 1 = lN k from lN_sub (a := k + 1) (b := 1) (by omega), md_nlzL_of (by omega), show (64 : Int32) = nI 64 from rfl, pk_sub (by omega), show 64 - (64 - md_bl k) = md_bl k by omega]
    have e := wb_shl 1 (k := md_bl k) (by omega)
    rw [Nat.one_mul] at e
    exact e
/-! what the law asks of power and longPower -/
theorem md_and_pred : ∀ j, j < 31 → nI (2 ^ j) &&& (nI (2 ^ j) - 1) = 0 := by decide +kernel
theorem md_and_predL : ∀ j, j < 63 → lN (2 ^ j) &&& (lN (2 ^ j) - 1) = 0 := by decide +kernel
theorem md_m30 (a : Int32) : ∃ N : Nat, N < 2 ^ 30 ∧ a &&& 1073741823 = nI N := pk_andE a 30 (by decide)
theorem md_m62 (w : Int64) : ∃ N : Nat, N < 2 ^ 62 ∧ w &&& 4611686018427387903 = lN N := by
  obtain ⟨n, hn, rfl⟩ := wb_of w
  exact ⟨n % 2 ^ 62, Nat.mod_lt _ (by decide), wb_mask (k := 62) hn (by decide)⟩
theorem md_powI_ok (a : Int32) : ¬ md_powI a ≤ 0 ∧ md_powI a &&& (md_powI a - 1) = 0 ∧ ¬ md_powI a < a &&& 1073741823 ∧ (¬ md_powI a ≤ 1 → md_powI a / 2 < a &&& 1073741823) := by
  obtain ⟨N, hN, e⟩ := md_m30 a
  unfold md_powI
  rw [e, md_nextI_of (by omega)]
  have x : md_bl (N - 1) ≤ 30 := md_np_exp (by omega)
  have p := md_pw x
  have hp : 0 < md_np N := Nat.two_pow_pos _
  have hq : md_np N ≤ 2 ^ 30 := p
  refine ⟨nI_nle hp (by omega), md_and_pred _ (by omega), nI_nlt (md_np_ge N) (by omega), fun h => ?_⟩
  have h1 : 1 < md_np N := by
    rcases Nat.lt_or_ge 1 (md_np N) with q | q
    · exact q
    · exact absurd (nI_le (b := 1) q (by decide)) h
  rw [show (2 : Int32) = nI 2 from rfl, pk_div (by omega) (by decide) (by decide)]
  exact nI_lt (md_np_half h1) (by omega)
theorem md_powL_ok (w : Int64) : 0 < md_powL w ∧ md_powL w &&& (md_powL w - 1) = 0 ∧ w &&& 4611686018427387903 ≤ md_powL w ∧ (¬ md_powL w = 1 → md_powL w / 2 < w &&& 4611686018427387903) := by
  obtain ⟨N, hN, e⟩ := md_m62 w
  unfold md_powL
  rw [e, md_nextL_of (by omega)]
  have x : md_bl (N - 1) ≤ 62 := md_np_exp (by omega)
  have p := md_pw x
  have hp : 0 < md_np N := Nat.two_pow_pos _
  have hq : md_np N ≤ 2 ^ 62 := p
  refine ⟨(pk_lLT (a := 0) (by decide) (by omega)).mpr hp, md_and_predL _ (by omega), (pk_lLE (by omega) (by omega)).mpr (md_np_ge N), fun h => ?_⟩
  have h1 : 1 < md_np N := by
    rcases Nat.lt_or_ge 1 (md_np N) with q | q
    · exact q
    · exact absurd (show lN (md_np N) = 1 by rw [show md_np N = 1 by omega]; rfl) h
  rw [show (2 : Int64) = lN 2 from rfl, pk_lDiv (by omega) (by decide) (by decide)]
  exact (pk_lLT (by omega) (by omega)).mpr (md_np_half h1)
/-! the tables of askedPowers -/
theorem md_tab0 : md_nextI 0 = 1 ∧ md_nextI 1 = 1 ∧ md_powL (md_wide (-2147483648) 0) = 1 ∧ md_powL (md_wide (-1073741824) 0) = 1 ∧ md_powL (md_wide 0 1) = 1 ∧ md_powI (-1) = 1073741824 ∧ md_powL (md_wide (-1) (-1)) = 4611686018427387904 := by decide +kernel
theorem md_tabI : ∀ k, k < 30 → 1 ≤ k → md_powI ((1 : Int32) <<< (nI k &&& 31)) = (1 : Int32) <<< (nI k &&& 31) ∧ (1 < k → md_powI (((1 : Int32) <<< (nI k &&& 31)) - 1) = (1 : Int32) <<< (nI k &&& 31)) ∧ md_powI (((1 : Int32) <<< (nI k &&& 31)) + 1) = (1 : Int32) <<< ((nI k + 1) &&& 31) := by decide +kernel
theorem md_tabL : ∀ k, k < 62 → 1 ≤ k → md_powL (sl64 1 (nI k)) = sl64 1 (nI k) ∧ (1 < k → md_powL (sl64 1 (nI k) - 1) = sl64 1 (nI k)) ∧ md_powL (sl64 1 (nI k) + 1) = 2 * sl64 1 (nI k) := by decide +kernel
theorem md_p0 (c : Int32) : md_powI (c &&& -1073741824) = 1 := by
  unfold md_powI
  rw [md_top32z]
  exact md_tab0.1
theorem md_p1 (c z : Int32) : md_powI ((c &&& -1073741824) ||| z) = md_powI z := by
  unfold md_powI
  rw [md_top32]
theorem md_p2 (m : Int64) (c : Int32) : md_powL (md_wide ((sr64 m 32).toInt32 ||| (c &&& -1073741824)) m.toInt32) = md_powL m := by
  unfold md_powL
  rw [md_top64]
theorem md_p11 : md_powI 1 = 1 := by decide +kernel
end
section
/-! contracts of the JDK's two methods (printed by gen/leaf.py) -/
set_option maxHeartbeats 4000000 in
set_option maxRecDepth 100000 in
/-- Integer.numberOfLeadingZeros -/
theorem metJ0_numberOfLeadingZeros (l : Launch) (x0 : Int32) : PuMet l yJ0_numberOfLeadingZeros cJ0_numberOfLeadingZeros 2 (some .int) 0 0 [.int x0] (.int (md_nlzI x0)) := by
  refine pu_met (by decide) (Nat.le_of_ble_eq_true rfl) ?_
  intro p e s m below meth c ls hx hb hr hlocks hml hown hts hl
  have hown : s.vm.findClass RJ0 = some m.cls := hown
  have hl : lv_has ls 2 [(0, .int x0)] := hl
  have k73 : ∀ (x n : Int32) (ls : Array Slot), lv_has ls 2 [(0, .int x), (1, .int n)] → md_z1 x n = md_nlzI x0 → W p l e (k2_rm 0 0) s m ([.int x0] : List Value).toArray below meth c s.heap [] 0 0 (MQ below (k2_QcV (.int (md_nlzI x0))) ([.int x0] : List Value).toArray s 0 0 (fun _ => False)) (F0 m 73 ls []) := by
    intro x n ls hl h
    refine lv_iload_n hx hb dJ0_numberOfLeadingZeros_73 rfl (lv_at hl 1 rfl) ?_
    refine lv_iload_n hx hb dJ0_numberOfLeadingZeros_74 rfl (lv_at hl 0 rfl) ?_
    refine lv_iconst (v := 1) hx hb dJ0_numberOfLeadingZeros_75 (by decide) ?_
    refine lv_iushr (v := (us32 x 1)) hx hb dJ0_numberOfLeadingZeros_76 rfl ?_
    refine lv_isub hx hb dJ0_numberOfLeadingZeros_77 ?_
    exact pu_iret (v := (n - (us32 x 1))) hx hb hr hlocks (congrArg Value.int h) dJ0_numberOfLeadingZeros_78
  have k61 : ∀ (x n : Int32) (ls : Array Slot), lv_has ls 2 [(0, .int x), (1, .int n)] → md_z2 x n = md_nlzI x0 → W p l e (k2_rm 0 0) s m ([.int x0] : List Value).toArray below meth c s.heap [] 0 0 (MQ below (k2_QcV (.int (md_nlzI x0))) ([.int x0] : List Value).toArray s 0 0 (fun _ => False)) (F0 m 61 ls []) := by
    intro x n ls hl h
    refine lv_iload_n hx hb dJ0_numberOfLeadingZeros_61 rfl (lv_at hl 0 rfl) ?_
    refine lv_iconst (v := 4) hx hb dJ0_numberOfLeadingZeros_62 (by decide) ?_
    refine lv_icmp_lt (tgt := 73) hx hb dJ0_numberOfLeadingZeros_63 (by decide) (fun c_63 => ?_) (fun c_63 => ?_)
    · exact k73 x n ls hl (by rw [← h, md_z2, if_pos c_63])
    · refine lv_iinc (v := (n + (-2))) (lv' := [(1, .int (n + (-2))), (0, .int x)]) hx hb dJ0_numberOfLeadingZeros_66 hl (k := 1) rfl rfl (by decide) rfl (fun ls hl => ?_)
      refine lv_iload_n hx hb dJ0_numberOfLeadingZeros_69 rfl (lv_at hl 1 rfl) ?_
      refine lv_iconst (v := 2) hx hb dJ0_numberOfLeadingZeros_70 (by decide) ?_
      refine lv_iushr (v := (us32 x 2)) hx hb dJ0_numberOfLeadingZeros_71 rfl ?_
      refine lv_istore_n (lv' := [(0, .int (us32 x 2)), (1, .int (n + (-2)))]) hx hb dJ0_numberOfLeadingZeros_72 rfl hl (by decide) rfl (fun ls hl => ?_)
      exact k73 _ _ ls hl (by rw [← h, md_z2, if_neg c_63])
  have k48 : ∀ (x n : Int32) (ls : Array Slot), lv_has ls 2 [(0, .int x), (1, .int n)] → md_z4 x n = md_nlzI x0 → W p l e (k2_rm 0 0) s m ([.int x0] : List Value).toArray below meth c s.heap [] 0 0 (MQ below (k2_QcV (.int (md_nlzI x0))) ([.int x0] : List Value).toArray s 0 0 (fun _ => False)) (F0 m 48 ls []) := by
    intro x n ls hl h
    refine lv_iload_n hx hb dJ0_numberOfLeadingZeros_48 rfl (lv_at hl 0 rfl) ?_
    refine lv_bipush (v := 16) hx hb dJ0_numberOfLeadingZeros_49 (by decide) ?_
    refine lv_icmp_lt (tgt := 61) hx hb dJ0_numberOfLeadingZeros_51 (by decide) (fun c_51 => ?_) (fun c_51 => ?_)
    · exact k61 x n ls hl (by rw [← h, md_z4, if_pos c_51])
    · refine lv_iinc (v := (n + (-4))) (lv' := [(1, .int (n + (-4))), (0, .int x)]) hx hb dJ0_numberOfLeadingZeros_54 hl (k := 1) rfl rfl (by decide) rfl (fun ls hl => ?_)
      refine lv_iload_n hx hb dJ0_numberOfLeadingZeros_57 rfl (lv_at hl 1 rfl) ?_
      refine lv_iconst (v := 4) hx hb dJ0_numberOfLeadingZeros_58 (by decide) ?_
      refine lv_iushr (v := (us32 x 4)) hx hb dJ0_numberOfLeadingZeros_59 rfl ?_
      refine lv_istore_n (lv' := [(0, .int (us32 x 4)), (1, .int (n + (-4)))]) hx hb dJ0_numberOfLeadingZeros_60 rfl hl (by decide) rfl (fun ls hl => ?_)
      exact k61 _ _ ls hl (by rw [← h, md_z4, if_neg c_51])
  have k33 : ∀ (x n : Int32) (ls : Array Slot), lv_has ls 2 [(0, .int x), (1, .int n)] → md_z8 x n = md_nlzI x0 → W p l e (k2_rm 0 0) s m ([.int x0] : List Value).toArray below meth c s.heap [] 0 0 (MQ below (k2_QcV (.int (md_nlzI x0))) ([.int x0] : List Value).toArray s 0 0 (fun _ => False)) (F0 m 33 ls []) := by
    intro x n ls hl h
    refine lv_iload_n hx hb dJ0_numberOfLeadingZeros_33 rfl (lv_at hl 0 rfl) ?_
    refine lv_sipush (v := 256) hx hb dJ0_numberOfLeadingZeros_34 (by decide) ?_
    refine lv_icmp_lt (tgt := 48) hx hb dJ0_numberOfLeadingZeros_37 (by decide) (fun c_37 => ?_) (fun c_37 => ?_)
    · exact k48 x n ls hl (by rw [← h, md_z8, if_pos c_37])
    · refine lv_iinc (v := (n + (-8))) (lv' := [(1, .int (n + (-8))), (0, .int x)]) hx hb dJ0_numberOfLeadingZeros_40 hl (k := 1) rfl rfl (by decide) rfl (fun ls hl => ?_)
      refine lv_iload_n hx hb dJ0_numberOfLeadingZeros_43 rfl (lv_at hl 1 rfl) ?_
      refine lv_bipush (v := 8) hx hb dJ0_numberOfLeadingZeros_44 (by decide) ?_
      refine lv_iushr (v := (us32 x 8)) hx hb dJ0_numberOfLeadingZeros_46 rfl ?_
      refine lv_istore_n (lv' := [(0, .int (us32 x 8)), (1, .int (n + (-8)))]) hx hb dJ0_numberOfLeadingZeros_47 rfl hl (by decide) rfl (fun ls hl => ?_)
      exact k48 _ _ ls hl (by rw [← h, md_z8, if_neg c_37])
  have k18 : ∀ (x n : Int32) (ls : Array Slot), lv_has ls 2 [(0, .int x), (1, .int n)] → md_z16 x n = md_nlzI x0 → W p l e (k2_rm 0 0) s m ([.int x0] : List Value).toArray below meth c s.heap [] 0 0 (MQ below (k2_QcV (.int (md_nlzI x0))) ([.int x0] : List Value).toArray s 0 0 (fun _ => False)) (F0 m 18 ls []) := by
    intro x n ls hl h
    refine lv_iload_n hx hb dJ0_numberOfLeadingZeros_18 rfl (lv_at hl 0 rfl) ?_
    refine lv_ldcw hx hb hown (hts _ q71) dJ0_numberOfLeadingZeros_19 ?_
    refine lv_icmp_lt (tgt := 33) hx hb dJ0_numberOfLeadingZeros_22 (by decide) (fun c_22 => ?_) (fun c_22 => ?_)
    · exact k33 x n ls hl (by rw [← h, md_z16, if_pos c_22])
    · refine lv_iinc (v := (n + (-16))) (lv' := [(1, .int (n + (-16))), (0, .int x)]) hx hb dJ0_numberOfLeadingZeros_25 hl (k := 1) rfl rfl (by decide) rfl (fun ls hl => ?_)
      refine lv_iload_n hx hb dJ0_numberOfLeadingZeros_28 rfl (lv_at hl 1 rfl) ?_
      refine lv_bipush (v := 16) hx hb dJ0_numberOfLeadingZeros_29 (by decide) ?_
      refine lv_iushr (v := (us32 x 16)) hx hb dJ0_numberOfLeadingZeros_31 rfl ?_
      refine lv_istore_n (lv' := [(0, .int (us32 x 16)), (1, .int (n + (-16)))]) hx hb dJ0_numberOfLeadingZeros_32 rfl hl (by decide) rfl (fun ls hl => ?_)
      exact k33 _ _ ls hl (by rw [← h, md_z16, if_neg c_22])
  refine lv_iload_n hx hb dJ0_numberOfLeadingZeros_0 rfl (lv_at hl 0 rfl) ?_
  refine lv_if_gt (tgt := 15) hx hb dJ0_numberOfLeadingZeros_1 (by decide) (fun c_1 => ?_) (fun c_1 => ?_)
  · refine lv_bipush (v := 31) hx hb dJ0_numberOfLeadingZeros_15 (by decide) ?_
    refine lv_istore_n (lv' := [(1, .int 31), (0, .int x0)]) hx hb dJ0_numberOfLeadingZeros_17 rfl hl (by decide) rfl (fun ls hl => ?_)
    exact k18 _ _ ls (lv_sub hl [1, 0] rfl) (by rw [md_nlzI, if_pos c_1])
  · refine lv_iload_n hx hb dJ0_numberOfLeadingZeros_4 rfl (lv_at hl 0 rfl) ?_
    refine lv_if_ne (tgt := 13) hx hb dJ0_numberOfLeadingZeros_5 (by decide) (fun c_5 => ?_) (fun c_5 => ?_)
    · refine lv_iconst (v := 0) hx hb dJ0_numberOfLeadingZeros_13 (by decide) ?_
      exact pu_iret (v := 0) hx hb hr hlocks (congrArg Value.int (by rw [md_nlzI, if_neg c_1, if_neg c_5])) dJ0_numberOfLeadingZeros_14
    · refine lv_bipush (v := 32) hx hb dJ0_numberOfLeadingZeros_8 (by decide) ?_
      refine lv_goto (tgt := 14) hx hb dJ0_numberOfLeadingZeros_10 (by decide) ?_
      exact pu_iret (v := 32) hx hb hr hlocks (congrArg Value.int (by rw [md_nlzI, if_neg c_1, if_pos c_5])) dJ0_numberOfLeadingZeros_14
set_option maxHeartbeats 4000000 in
set_option maxRecDepth 100000 in
/-- Long.numberOfLeadingZeros -/
theorem metJ1_numberOfLeadingZeros (l : Launch) (x0 : Int64) : PuMet l yJ1_numberOfLeadingZeros cJ1_numberOfLeadingZeros 3 (some .int) 1 21 [.long x0] (.int (md_nlzL x0)) := by
  refine pu_met (by decide) (Nat.le_of_ble_eq_true rfl) ?_
  intro p e s m below meth c ls hx hb hr hlocks hml hown hts hl
  have hown : s.vm.findClass RJ1 = some m.cls := hown
  have hl : lv_has ls 3 [(0, .long x0)] := hl
  refine lv_lload_n hx hb dJ1_numberOfLeadingZeros_0 rfl (lv_at hl 0 rfl) ?_
  refine lv_bipush (v := 32) hx hb dJ1_numberOfLeadingZeros_1 (by decide) ?_
  refine lv_lushr (v := (us64 x0 32)) hx hb dJ1_numberOfLeadingZeros_3 rfl ?_
  refine lv_l2i (v := (us64 x0 32).toInt32) hx hb dJ1_numberOfLeadingZeros_4 rfl ?_
  refine lv_istore_n (lv' := [(2, .int ((us64 x0 32).toInt32)), (0, .long x0)]) hx hb dJ1_numberOfLeadingZeros_5 rfl hl (by decide) rfl (fun ls hl => ?_)
  refine lv_iload_n hx hb dJ1_numberOfLeadingZeros_6 rfl (lv_at hl 0 rfl) ?_
  refine lv_if_ne (tgt := 21) hx hb dJ1_numberOfLeadingZeros_7 (by decide) (fun c_7 => ?_) (fun c_7 => ?_)
  · refine lv_iload_n hx hb dJ1_numberOfLeadingZeros_21 rfl (lv_at hl 0 rfl) ?_
    refine pu_S 1 (As := [.int ((us64 x0 32).toInt32)]) (rest := []) ⟨hx, hb, hml, hown, hts⟩ (metJ0_numberOfLeadingZeros l ((us64 x0 32).toInt32)) q84 q69 q4 q70 (by decide +kernel) rfl ⟨Nat.le_of_ble_eq_true rfl, Nat.le_of_ble_eq_true rfl⟩ hl.1 rfl (Nat.le_of_ble_eq_true rfl) dJ1_numberOfLeadingZeros_22 ⟨Nat.le_of_ble_eq_true rfl, Nat.le_of_ble_eq_true rfl⟩ ?_
    exact pu_iret (v := (md_nlzI ((us64 x0 32).toInt32))) hx hb hr hlocks (congrArg Value.int (by rw [md_nlzL, if_neg c_7])) dJ1_numberOfLeadingZeros_25
  · refine lv_bipush (v := 32) hx hb dJ1_numberOfLeadingZeros_10 (by decide) ?_
    refine lv_lload_n hx hb dJ1_numberOfLeadingZeros_12 rfl (lv_at hl 1 rfl) ?_
    refine lv_l2i (v := x0.toInt32) hx hb dJ1_numberOfLeadingZeros_13 rfl ?_
    refine pu_S 1 (As := [.int x0.toInt32]) (rest := [.int 32]) ⟨hx, hb, hml, hown, hts⟩ (metJ0_numberOfLeadingZeros l x0.toInt32) q84 q69 q4 q70 (by decide +kernel) rfl ⟨Nat.le_of_ble_eq_true rfl, Nat.le_of_ble_eq_true rfl⟩ hl.1 rfl (Nat.le_of_ble_eq_true rfl) dJ1_numberOfLeadingZeros_14 ⟨Nat.le_of_ble_eq_true rfl, Nat.le_of_ble_eq_true rfl⟩ ?_
    refine lv_iadd hx hb dJ1_numberOfLeadingZeros_17 ?_
    refine lv_goto (tgt := 25) hx hb dJ1_numberOfLeadingZeros_18 (by decide) ?_
    exact pu_iret (v := (32 + (md_nlzI x0.toInt32))) hx hb hr hlocks (congrArg Value.int (by rw [md_nlzL, if_pos c_7])) dJ1_numberOfLeadingZeros_25
end
section
/-! contracts of HashCommon (printed by gen/leaf.py) -/
set_option maxHeartbeats 4000000 in
set_option maxRecDepth 100000 in
/-- HashCommon.mix(I)I -/
theorem metX2_mix (l : Launch) (x0 : Int32) : PuMet l yX2_mix cX2_mix 2 (some .int) 0 0 [.int x0] (.int (md_mixI x0)) := by
  refine pu_met (by decide) (Nat.le_of_ble_eq_true rfl) ?_
  intro p e s m below meth c ls hx hb hr hlocks hml hown hts hl
  have hown : s.vm.findClass RX2 = some m.cls := hown
  have hl : lv_has ls 2 [(0, .int x0)] := hl
  refine lv_iload_n hx hb dX2_mix_0 rfl (lv_at hl 0 rfl) ?_
  refine lv_ldc hx hb hown (hts _ q28) dX2_mix_1 ?_
  refine lv_imul hx hb dX2_mix_3 ?_
  refine lv_istore_n (lv' := [(1, .int (x0 * (-1640531527))), (0, .int x0)]) hx hb dX2_mix_4 rfl hl (by decide) rfl (fun ls hl => ?_)
  refine lv_iload_n hx hb dX2_mix_5 rfl (lv_at hl 0 rfl) ?_
  refine lv_iload_n hx hb dX2_mix_6 rfl (lv_at hl 0 rfl) ?_
  refine lv_bipush (v := 16) hx hb dX2_mix_7 (by decide) ?_
  refine lv_iushr (v := (us32 (x0 * (-1640531527)) 16)) hx hb dX2_mix_9 rfl ?_
  refine lv_ixor hx hb dX2_mix_10 ?_
  exact pu_iret (v := ((x0 * (-1640531527)) ^^^ (us32 (x0 * (-1640531527)) 16))) hx hb hr hlocks rfl dX2_mix_11
set_option maxHeartbeats 4000000 in
set_option maxRecDepth 100000 in
/-- HashCommon.invMix(I)I -/
theorem metX2_invMix (l : Launch) (x0 : Int32) : PuMet l yX2_invMix cX2_invMix 1 (some .int) 0 0 [.int x0] (.int (md_invI x0)) := by
  refine pu_met (by decide) (Nat.le_of_ble_eq_true rfl) ?_
  intro p e s m below meth c ls hx hb hr hlocks hml hown hts hl
  have hown : s.vm.findClass RX2 = some m.cls := hown
  have hl : lv_has ls 1 [(0, .int x0)] := hl
  refine lv_iload_n hx hb dX2_invMix_0 rfl (lv_at hl 0 rfl) ?_
  refine lv_iload_n hx hb dX2_invMix_1 rfl (lv_at hl 0 rfl) ?_
  refine lv_bipush (v := 16) hx hb dX2_invMix_2 (by decide) ?_
  refine lv_iushr (v := (us32 x0 16)) hx hb dX2_invMix_4 rfl ?_
  refine lv_ixor hx hb dX2_invMix_5 ?_
  refine lv_ldc hx hb hown (hts _ q36) dX2_invMix_6 ?_
  refine lv_imul hx hb dX2_invMix_8 ?_
  exact pu_iret (v := ((x0 ^^^ (us32 x0 16)) * 340573321)) hx hb hr hlocks rfl dX2_invMix_9
set_option maxHeartbeats 4000000 in
set_option maxRecDepth 100000 in
/-- HashCommon.mix(J)J -/
theorem metX2_mix_2 (l : Launch) (x0 : Int64) : PuMet l yX2_mix_2 cX2_mix_2 4 (some .long) 0 0 [.long x0] (.long (md_mixL x0)) := by
  refine pu_met (by decide) (Nat.le_of_ble_eq_true rfl) ?_
  intro p e s m below meth c ls hx hb hr hlocks hml hown hts hl
  have hown : s.vm.findClass RX2 = some m.cls := hown
  have hl : lv_has ls 4 [(0, .long x0)] := hl
  refine lv_lload_n hx hb dX2_mix_2_0 rfl (lv_at hl 0 rfl) ?_
  refine lv_ldc2 hx hb hown (hts _ q50) dX2_mix_2_1 ?_
  refine lv_lmul hx hb dX2_mix_2_4 ?_
  refine lv_lstore_n (lv' := [(2, .long (x0 * (-7046029254386353131))), (0, .long x0)]) hx hb dX2_mix_2_5 rfl hl (by decide) rfl (fun ls hl => ?_)
  refine lv_lload_n hx hb dX2_mix_2_6 rfl (lv_at hl 0 rfl) ?_
  refine lv_lload_n hx hb dX2_mix_2_7 rfl (lv_at hl 0 rfl) ?_
  refine lv_bipush (v := 32) hx hb dX2_mix_2_8 (by decide) ?_
  refine lv_lushr (v := (us64 (x0 * (-7046029254386353131)) 32)) hx hb dX2_mix_2_10 rfl ?_
  refine lv_lxor hx hb dX2_mix_2_11 ?_
  refine lv_lstore_n (lv' := [(2, .long ((x0 * (-7046029254386353131)) ^^^ (us64 (x0 * (-7046029254386353131)) 32))), (0, .long x0)]) hx hb dX2_mix_2_12 rfl hl (by decide) rfl (fun ls hl => ?_)
  refine lv_lload_n hx hb dX2_mix_2_13 rfl (lv_at hl 0 rfl) ?_
  refine lv_lload_n hx hb dX2_mix_2_14 rfl (lv_at hl 0 rfl) ?_
  refine lv_bipush (v := 16) hx hb dX2_mix_2_15 (by decide) ?_
  refine lv_lushr (v := (us64 ((x0 * (-7046029254386353131)) ^^^ (us64 (x0 * (-7046029254386353131)) 32)) 16)) hx hb dX2_mix_2_17 rfl ?_
  refine lv_lxor hx hb dX2_mix_2_18 ?_
  exact pu_lret (v := (((x0 * (-7046029254386353131)) ^^^ (us64 (x0 * (-7046029254386353131)) 32)) ^^^ (us64 ((x0 * (-7046029254386353131)) ^^^ (us64 (x0 * (-7046029254386353131)) 32)) 16))) hx hb hr hlocks rfl dX2_mix_2_19
set_option maxHeartbeats 4000000 in
set_option maxRecDepth 100000 in
/-- HashCommon.invMix(J)J -/
theorem metX2_invMix_2 (l : Launch) (x0 : Int64) : PuMet l yX2_invMix_2 cX2_invMix_2 2 (some .long) 0 0 [.long x0] (.long (md_invL x0)) := by
  refine pu_met (by decide) (Nat.le_of_ble_eq_true rfl) ?_
  intro p e s m below meth c ls hx hb hr hlocks hml hown hts hl
  have hown : s.vm.findClass RX2 = some m.cls := hown
  have hl : lv_has ls 2 [(0, .long x0)] := hl
  refine lv_lload_n hx hb dX2_invMix_2_0 rfl (lv_at hl 0 rfl) ?_
  refine lv_lload_n hx hb dX2_invMix_2_1 rfl (lv_at hl 0 rfl) ?_
  refine lv_bipush (v := 32) hx hb dX2_invMix_2_2 (by decide) ?_
  refine lv_lushr (v := (us64 x0 32)) hx hb dX2_invMix_2_4 rfl ?_
  refine lv_lxor hx hb dX2_invMix_2_5 ?_
  refine lv_lstore_n (lv' := [(0, .long (x0 ^^^ (us64 x0 32)))]) hx hb dX2_invMix_2_6 rfl hl (by decide) rfl (fun ls hl => ?_)
  refine lv_lload_n hx hb dX2_invMix_2_7 rfl (lv_at hl 0 rfl) ?_
  refine lv_lload_n hx hb dX2_invMix_2_8 rfl (lv_at hl 0 rfl) ?_
  refine lv_bipush (v := 16) hx hb dX2_invMix_2_9 (by decide) ?_
  refine lv_lushr (v := (us64 (x0 ^^^ (us64 x0 32)) 16)) hx hb dX2_invMix_2_11 rfl ?_
  refine lv_lxor hx hb dX2_invMix_2_12 ?_
  refine lv_lstore_n (lv' := [(0, .long ((x0 ^^^ (us64 x0 32)) ^^^ (us64 (x0 ^^^ (us64 x0 32)) 16)))]) hx hb dX2_invMix_2_13 rfl hl (by decide) rfl (fun ls hl => ?_)
  refine lv_lload_n hx hb dX2_invMix_2_14 rfl (lv_at hl 0 rfl) ?_
  refine lv_lload_n hx hb dX2_invMix_2_15 rfl (lv_at hl 0 rfl) ?_
  refine lv_bipush (v := 32) hx hb dX2_invMix_2_16 (by decide) ?_
  refine lv_lushr (v := (us64 ((x0 ^^^ (us64 x0 32)) ^^^ (us64 (x0 ^^^ (us64 x0 32)) 16)) 32)) hx hb dX2_invMix_2_18 rfl ?_
  refine lv_lxor hx hb dX2_invMix_2_19 ?_
  refine lv_ldc2 hx hb hown (hts _ q58) dX2_invMix_2_20 ?_
  refine lv_lmul hx hb dX2_invMix_2_23 ?_
  exact pu_lret (v := ((((x0 ^^^ (us64 x0 32)) ^^^ (us64 (x0 ^^^ (us64 x0 32)) 16)) ^^^ (us64 ((x0 ^^^ (us64 x0 32)) ^^^ (us64 (x0 ^^^ (us64 x0 32)) 16)) 32)) * (-1018231460777725123))) hx hb hr hlocks rfl dX2_invMix_2_24
set_option maxHeartbeats 4000000 in
set_option maxRecDepth 100000 in
/-- HashCommon.murmurHash3(I)I -/
theorem metX2_murmurHash3 (l : Launch) (x0 : Int32) : PuMet l yX2_murmurHash3 cX2_murmurHash3 1 (some .int) 0 0 [.int x0] (.int (md_murI x0)) := by
  refine pu_met (by decide) (Nat.le_of_ble_eq_true rfl) ?_
  intro p e s m below meth c ls hx hb hr hlocks hml hown hts hl
  have hown : s.vm.findClass RX2 = some m.cls := hown
  have hl : lv_has ls 1 [(0, .int x0)] := hl
  refine lv_iload_n hx hb dX2_murmurHash3_0 rfl (lv_at hl 0 rfl) ?_
  refine lv_iload_n hx hb dX2_murmurHash3_1 rfl (lv_at hl 0 rfl) ?_
  refine lv_bipush (v := 16) hx hb dX2_murmurHash3_2 (by decide) ?_
  refine lv_iushr (v := (us32 x0 16)) hx hb dX2_murmurHash3_4 rfl ?_
  refine lv_ixor hx hb dX2_murmurHash3_5 ?_
  refine lv_istore_n (lv' := [(0, .int (x0 ^^^ (us32 x0 16)))]) hx hb dX2_murmurHash3_6 rfl hl (by decide) rfl (fun ls hl => ?_)
  refine lv_iload_n hx hb dX2_murmurHash3_7 rfl (lv_at hl 0 rfl) ?_
  refine lv_ldc hx hb hown (hts _ q105) dX2_murmurHash3_8 ?_
  refine lv_imul hx hb dX2_murmurHash3_10 ?_
  refine lv_istore_n (lv' := [(0, .int ((x0 ^^^ (us32 x0 16)) * (-2048144789)))]) hx hb dX2_murmurHash3_11 rfl hl (by decide) rfl (fun ls hl => ?_)
  refine lv_iload_n hx hb dX2_murmurHash3_12 rfl (lv_at hl 0 rfl) ?_
  refine lv_iload_n hx hb dX2_murmurHash3_13 rfl (lv_at hl 0 rfl) ?_
  refine lv_bipush (v := 13) hx hb dX2_murmurHash3_14 (by decide) ?_
  refine lv_iushr (v := (us32 ((x0 ^^^ (us32 x0 16)) * (-2048144789)) 13)) hx hb dX2_murmurHash3_16 rfl ?_
  refine lv_ixor hx hb dX2_murmurHash3_17 ?_
  refine lv_istore_n (lv' := [(0, .int (((x0 ^^^ (us32 x0 16)) * (-2048144789)) ^^^ (us32 ((x0 ^^^ (us32 x0 16)) * (-2048144789)) 13)))]) hx hb dX2_murmurHash3_18 rfl hl (by decide) rfl (fun ls hl => ?_)
  refine lv_iload_n hx hb dX2_murmurHash3_19 rfl (lv_at hl 0 rfl) ?_
  refine lv_ldc hx hb hown (hts _ q106) dX2_murmurHash3_20 ?_
  refine lv_imul hx hb dX2_murmurHash3_22 ?_
  refine lv_istore_n (lv' := [(0, .int ((((x0 ^^^ (us32 x0 16)) * (-2048144789)) ^^^ (us32 ((x0 ^^^ (us32 x0 16)) * (-2048144789)) 13)) * (-1028477387)))]) hx hb dX2_murmurHash3_23 rfl hl (by decide) rfl (fun ls hl => ?_)
  refine lv_iload_n hx hb dX2_murmurHash3_24 rfl (lv_at hl 0 rfl) ?_
  refine lv_iload_n hx hb dX2_murmurHash3_25 rfl (lv_at hl 0 rfl) ?_
  refine lv_bipush (v := 16) hx hb dX2_murmurHash3_26 (by decide) ?_
  refine lv_iushr (v := (us32 ((((x0 ^^^ (us32 x0 16)) * (-2048144789)) ^^^ (us32 ((x0 ^^^ (us32 x0 16)) * (-2048144789)) 13)) * (-1028477387)) 16)) hx hb dX2_murmurHash3_28 rfl ?_
  refine lv_ixor hx hb dX2_murmurHash3_29 ?_
  refine lv_istore_n (lv' := [(0, .int (((((x0 ^^^ (us32 x0 16)) * (-2048144789)) ^^^ (us32 ((x0 ^^^ (us32 x0 16)) * (-2048144789)) 13)) * (-1028477387)) ^^^ (us32 ((((x0 ^^^ (us32 x0 16)) * (-2048144789)) ^^^ (us32 ((x0 ^^^ (us32 x0 16)) * (-2048144789)) 13)) * (-1028477387)) 16)))]) hx hb dX2_murmurHash3_30 rfl hl (by decide) rfl (fun ls hl => ?_)
  refine lv_iload_n hx hb dX2_murmurHash3_31 rfl (lv_at hl 0 rfl) ?_
  exact pu_iret (v := (((((x0 ^^^ (us32 x0 16)) * (-2048144789)) ^^^ (us32 ((x0 ^^^ (us32 x0 16)) * (-2048144789)) 13)) * (-1028477387)) ^^^ (us32 ((((x0 ^^^ (us32 x0 16)) * (-2048144789)) ^^^ (us32 ((x0 ^^^ (us32 x0 16)) * (-2048144789)) 13)) * (-1028477387)) 16))) hx hb hr hlocks rfl dX2_murmurHash3_32
set_option maxHeartbeats 4000000 in
set_option maxRecDepth 100000 in
/-- HashCommon.murmurHash3(J)J -/
theorem metX2_murmurHash3_2 (l : Launch) (x0 : Int64) : PuMet l yX2_murmurHash3_2 cX2_murmurHash3_2 2 (some .long) 0 0 [.long x0] (.long (md_murL x0)) := by
  refine pu_met (by decide) (Nat.le_of_ble_eq_true rfl) ?_
  intro p e s m below meth c ls hx hb hr hlocks hml hown hts hl
  have hown : s.vm.findClass RX2 = some m.cls := hown
  have hl : lv_has ls 2 [(0, .long x0)] := hl
  refine lv_lload_n hx hb dX2_murmurHash3_2_0 rfl (lv_at hl 0 rfl) ?_
  refine lv_lload_n hx hb dX2_murmurHash3_2_1 rfl (lv_at hl 0 rfl) ?_
  refine lv_bipush (v := 33) hx hb dX2_murmurHash3_2_2 (by decide) ?_
  refine lv_lushr (v := (us64 x0 33)) hx hb dX2_murmurHash3_2_4 rfl ?_
  refine lv_lxor hx hb dX2_murmurHash3_2_5 ?_
  refine lv_lstore_n (lv' := [(0, .long (x0 ^^^ (us64 x0 33)))]) hx hb dX2_murmurHash3_2_6 rfl hl (by decide) rfl (fun ls hl => ?_)
  refine lv_lload_n hx hb dX2_murmurHash3_2_7 rfl (lv_at hl 0 rfl) ?_
  refine lv_ldc2 hx hb hown (hts _ q123) dX2_murmurHash3_2_8 ?_
  refine lv_lmul hx hb dX2_murmurHash3_2_11 ?_
  refine lv_lstore_n (lv' := [(0, .long ((x0 ^^^ (us64 x0 33)) * (-49064778989728563)))]) hx hb dX2_murmurHash3_2_12 rfl hl (by decide) rfl (fun ls hl => ?_)
  refine lv_lload_n hx hb dX2_murmurHash3_2_13 rfl (lv_at hl 0 rfl) ?_
  refine lv_lload_n hx hb dX2_murmurHash3_2_14 rfl (lv_at hl 0 rfl) ?_
  refine lv_bipush (v := 33) hx hb dX2_murmurHash3_2_15 (by decide) ?_
  refine lv_lushr (v := (us64 ((x0 ^^^ (us64 x0 33)) * (-49064778989728563)) 33)) hx hb dX2_murmurHash3_2_17 rfl ?_
  refine lv_lxor hx hb dX2_murmurHash3_2_18 ?_
  refine lv_lstore_n (lv' := [(0, .long (((x0 ^^^ (us64 x0 33)) * (-49064778989728563)) ^^^ (us64 ((x0 ^^^ (us64 x0 33)) * (-49064778989728563)) 33)))]) hx hb dX2_murmurHash3_2_19 rfl hl (by decide) rfl (fun ls hl => ?_)
  refine lv_lload_n hx hb dX2_murmurHash3_2_20 rfl (lv_at hl 0 rfl) ?_
  refine lv_ldc2 hx hb hown (hts _ q124) dX2_murmurHash3_2_21 ?_
  refine lv_lmul hx hb dX2_murmurHash3_2_24 ?_
  refine lv_lstore_n (lv' := [(0, .long ((((x0 ^^^ (us64 x0 33)) * (-49064778989728563)) ^^^ (us64 ((x0 ^^^ (us64 x0 33)) * (-49064778989728563)) 33)) * (-4265267296055464877)))]) hx hb dX2_murmurHash3_2_25 rfl hl (by decide) rfl (fun ls hl => ?_)
  refine lv_lload_n hx hb dX2_murmurHash3_2_26 rfl (lv_at hl 0 rfl) ?_
  refine lv_lload_n hx hb dX2_murmurHash3_2_27 rfl (lv_at hl 0 rfl) ?_
  refine lv_bipush (v := 33) hx hb dX2_murmurHash3_2_28 (by decide) ?_
  refine lv_lushr (v := (us64 ((((x0 ^^^ (us64 x0 33)) * (-49064778989728563)) ^^^ (us64 ((x0 ^^^ (us64 x0 33)) * (-49064778989728563)) 33)) * (-4265267296055464877)) 33)) hx hb dX2_murmurHash3_2_30 rfl ?_
  refine lv_lxor hx hb dX2_murmurHash3_2_31 ?_
  refine lv_lstore_n (lv' := [(0, .long (((((x0 ^^^ (us64 x0 33)) * (-49064778989728563)) ^^^ (us64 ((x0 ^^^ (us64 x0 33)) * (-49064778989728563)) 33)) * (-4265267296055464877)) ^^^ (us64 ((((x0 ^^^ (us64 x0 33)) * (-49064778989728563)) ^^^ (us64 ((x0 ^^^ (us64 x0 33)) * (-49064778989728563)) 33)) * (-4265267296055464877)) 33)))]) hx hb dX2_murmurHash3_2_32 rfl hl (by decide) rfl (fun ls hl => ?_)
  refine lv_lload_n hx hb dX2_murmurHash3_2_33 rfl (lv_at hl 0 rfl) ?_
  exact pu_lret (v := (((((x0 ^^^ (us64 x0 33)) * (-49064778989728563)) ^^^ (us64 ((x0 ^^^ (us64 x0 33)) * (-49064778989728563)) 33)) * (-4265267296055464877)) ^^^ (us64 ((((x0 ^^^ (us64 x0 33)) * (-49064778989728563)) ^^^ (us64 ((x0 ^^^ (us64 x0 33)) * (-49064778989728563)) 33)) * (-4265267296055464877)) 33))) hx hb hr hlocks rfl dX2_murmurHash3_2_34
set_option maxHeartbeats 4000000 in
set_option maxRecDepth 100000 in
/-- HashCommon.nextPowerOfTwo(I)I -/
theorem metX2_nextPowerOfTwo (l : Launch) (x0 : Int32) : PuMet l yX2_nextPowerOfTwo cX2_nextPowerOfTwo 1 (some .int) 1 21 [.int x0] (.int (md_nextI x0)) := by
  refine pu_met (by decide) (Nat.le_of_ble_eq_true rfl) ?_
  intro p e s m below meth c ls hx hb hr hlocks hml hown hts hl
  have hown : s.vm.findClass RX2 = some m.cls := hown
  have hl : lv_has ls 1 [(0, .int x0)] := hl
  refine lv_iconst (v := 1) hx hb dX2_nextPowerOfTwo_0 (by decide) ?_
  refine lv_bipush (v := 32) hx hb dX2_nextPowerOfTwo_1 (by decide) ?_
  refine lv_iload_n hx hb dX2_nextPowerOfTwo_3 rfl (lv_at hl 0 rfl) ?_
  refine lv_iconst (v := 1) hx hb dX2_nextPowerOfTwo_4 (by decide) ?_
  refine lv_isub hx hb dX2_nextPowerOfTwo_5 ?_
  refine pu_S 1 (As := [.int (x0 - 1)]) (rest := [.int 32, .int 1]) ⟨hx, hb, hml, hown, hts⟩ (metJ0_numberOfLeadingZeros l (x0 - 1)) q68 q69 q4 q70 (by decide +kernel) rfl ⟨Nat.le_of_ble_eq_true rfl, Nat.le_of_ble_eq_true rfl⟩ hl.1 rfl (Nat.le_of_ble_eq_true rfl) dX2_nextPowerOfTwo_6 ⟨Nat.le_of_ble_eq_true rfl, Nat.le_of_ble_eq_true rfl⟩ ?_
  refine lv_isub hx hb dX2_nextPowerOfTwo_9 ?_
  refine lv_ishl hx hb dX2_nextPowerOfTwo_10 ?_
  exact pu_iret (v := ((1 : Int32) <<< ((32 - (md_nlzI (x0 - 1))) &&& 31))) hx hb hr hlocks rfl dX2_nextPowerOfTwo_11
set_option maxHeartbeats 4000000 in
set_option maxRecDepth 100000 in
/-- HashCommon.nextPowerOfTwo(J)J -/
theorem metX2_nextPowerOfTwo_2 (l : Launch) (x0 : Int64) : PuMet l yX2_nextPowerOfTwo_2 cX2_nextPowerOfTwo_2 2 (some .long) 2 43 [.long x0] (.long (md_nextL x0)) := by
  refine pu_met (by decide) (Nat.le_of_ble_eq_true rfl) ?_
  intro p e s m below meth c ls hx hb hr hlocks hml hown hts hl
  have hown : s.vm.findClass RX2 = some m.cls := hown
  have hl : lv_has ls 2 [(0, .long x0)] := hl
  refine lv_lconst (v := 1) hx hb dX2_nextPowerOfTwo_2_0 (by decide) ?_
  refine lv_bipush (v := 64) hx hb dX2_nextPowerOfTwo_2_1 (by decide) ?_
  refine lv_lload_n hx hb dX2_nextPowerOfTwo_2_3 rfl (lv_at hl 0 rfl) ?_
  refine lv_lconst (v := 1) hx hb dX2_nextPowerOfTwo_2_4 (by decide) ?_
  refine lv_lsub hx hb dX2_nextPowerOfTwo_2_5 ?_
  refine pu_S 1 (As := [.long (x0 - 1)]) (rest := [.int 64, .long 1]) ⟨hx, hb, hml, hown, hts⟩ (metJ1_numberOfLeadingZeros l (x0 - 1)) q81 q82 q5 q83 (by decide +kernel) rfl ⟨Nat.le_of_ble_eq_true rfl, Nat.le_of_ble_eq_true rfl⟩ hl.1 rfl (Nat.le_of_ble_eq_true rfl) dX2_nextPowerOfTwo_2_6 ⟨Nat.le_of_ble_eq_true rfl, Nat.le_of_ble_eq_true rfl⟩ ?_
  refine lv_isub hx hb dX2_nextPowerOfTwo_2_9 ?_
  refine lv_lshl (v := (sl64 1 (64 - (md_nlzL (x0 - 1))))) hx hb dX2_nextPowerOfTwo_2_10 rfl ?_
  exact pu_lret (v := (sl64 1 (64 - (md_nlzL (x0 - 1))))) hx hb hr hlocks rfl dX2_nextPowerOfTwo_2_11
end
section
/-! contracts of MixDesk's methods (printed by gen/leaf.py) -/
set_option maxHeartbeats 4000000 in
set_option maxRecDepth 100000 in
/-- MixDesk.wide(II)J -/
theorem metX1_wide (l : Launch) (x0 : Int32) (x1 : Int32) : PuMet l yX1_wide cX1_wide 2 (some .long) 0 0 [.int x0, .int x1] (.long (md_wide x0 x1)) := by
  refine pu_met (by decide) (Nat.le_of_ble_eq_true rfl) ?_
  intro p e s m below meth c ls hx hb hr hlocks hml hown hts hl
  have hown : s.vm.findClass RX1 = some m.cls := hown
  have hl : lv_has ls 2 [(0, .int x0), (1, .int x1)] := hl
  refine lv_iload_n hx hb dX1_wide_0 rfl (lv_at hl 0 rfl) ?_
  refine lv_i2l (v := x0.toInt64) hx hb dX1_wide_1 rfl ?_
  refine lv_bipush (v := 32) hx hb dX1_wide_2 (by decide) ?_
  refine lv_lshl (v := (sl64 x0.toInt64 32)) hx hb dX1_wide_4 rfl ?_
  refine lv_iload_n hx hb dX1_wide_5 rfl (lv_at hl 1 rfl) ?_
  refine lv_i2l (v := x1.toInt64) hx hb dX1_wide_6 rfl ?_
  refine lv_ldc2 hx hb hown (hts _ q46) dX1_wide_7 ?_
  refine lv_land hx hb dX1_wide_10 ?_
  refine lv_lor hx hb dX1_wide_11 ?_
  exact pu_lret (v := ((sl64 x0.toInt64 32) ||| (x1.toInt64 &&& 4294967295))) hx hb hr hlocks rfl dX1_wide_12
set_option maxHeartbeats 4000000 in
set_option maxRecDepth 100000 in
/-- MixDesk.mix(I)I -/
theorem metX1_mix (l : Launch) (h0 : Nat) (x0 : Int32) : PuMet l yX1_mix cX1_mix 2 (some .int) 1 21 [.ref h0, .int x0] (.int (md_mixI x0)) := by
  refine pu_met (by decide) (Nat.le_of_ble_eq_true rfl) ?_
  intro p e s m below meth c ls hx hb hr hlocks hml hown hts hl
  have hown : s.vm.findClass RX1 = some m.cls := hown
  have hl : lv_has ls 2 [(0, .ref h0), (1, .int x0)] := hl
  refine lv_iload_n hx hb dX1_mix_0 rfl (lv_at hl 1 rfl) ?_
  refine pu_S 1 (As := [.int x0]) (rest := []) ⟨hx, hb, hml, hown, hts⟩ (metX2_mix l x0) q25 q26 q2 q27 (by decide +kernel) rfl ⟨Nat.le_of_ble_eq_true rfl, Nat.le_of_ble_eq_true rfl⟩ hl.1 rfl (Nat.le_of_ble_eq_true rfl) dX1_mix_1 ⟨Nat.le_of_ble_eq_true rfl, Nat.le_of_ble_eq_true rfl⟩ ?_
  exact pu_iret (v := (md_mixI x0)) hx hb hr hlocks rfl dX1_mix_4
set_option maxHeartbeats 4000000 in
set_option maxRecDepth 100000 in
/-- MixDesk.back(I)I -/
theorem metX1_back (l : Launch) (h0 : Nat) (x0 : Int32) : PuMet l yX1_back cX1_back 2 (some .int) 1 20 [.ref h0, .int x0] (.int (md_invI x0)) := by
  refine pu_met (by decide) (Nat.le_of_ble_eq_true rfl) ?_
  intro p e s m below meth c ls hx hb hr hlocks hml hown hts hl
  have hown : s.vm.findClass RX1 = some m.cls := hown
  have hl : lv_has ls 2 [(0, .ref h0), (1, .int x0)] := hl
  refine lv_iload_n hx hb dX1_back_0 rfl (lv_at hl 1 rfl) ?_
  refine pu_S 1 (As := [.int x0]) (rest := []) ⟨hx, hb, hml, hown, hts⟩ (metX2_invMix l x0) q33 q34 q2 q35 (by decide +kernel) rfl ⟨Nat.le_of_ble_eq_true rfl, Nat.le_of_ble_eq_true rfl⟩ hl.1 rfl (Nat.le_of_ble_eq_true rfl) dX1_back_1 ⟨Nat.le_of_ble_eq_true rfl, Nat.le_of_ble_eq_true rfl⟩ ?_
  exact pu_iret (v := (md_invI x0)) hx hb hr hlocks rfl dX1_back_4
set_option maxHeartbeats 4000000 in
set_option maxRecDepth 100000 in
/-- MixDesk.murmur(I)I -/
theorem metX1_murmur (l : Launch) (h0 : Nat) (x0 : Int32) : PuMet l yX1_murmur cX1_murmur 2 (some .int) 1 20 [.ref h0, .int x0] (.int (md_murI x0)) := by
  refine pu_met (by decide) (Nat.le_of_ble_eq_true rfl) ?_
  intro p e s m below meth c ls hx hb hr hlocks hml hown hts hl
  have hown : s.vm.findClass RX1 = some m.cls := hown
  have hl : lv_has ls 2 [(0, .ref h0), (1, .int x0)] := hl
  refine lv_iload_n hx hb dX1_murmur_0 rfl (lv_at hl 1 rfl) ?_
  refine pu_S 1 (As := [.int x0]) (rest := []) ⟨hx, hb, hml, hown, hts⟩ (metX2_murmurHash3 l x0) q102 q103 q2 q104 (by decide +kernel) rfl ⟨Nat.le_of_ble_eq_true rfl, Nat.le_of_ble_eq_true rfl⟩ hl.1 rfl (Nat.le_of_ble_eq_true rfl) dX1_murmur_1 ⟨Nat.le_of_ble_eq_true rfl, Nat.le_of_ble_eq_true rfl⟩ ?_
  exact pu_iret (v := (md_murI x0)) hx hb hr hlocks rfl dX1_murmur_4
set_option maxHeartbeats 4000000 in
set_option maxRecDepth 100000 in
/-- MixDesk.power(I)I -/
theorem metX1_power (l : Launch) (h0 : Nat) (x0 : Int32) : PuMet l yX1_power cX1_power 2 (some .int) 2 41 [.ref h0, .int x0] (.int (md_powI x0)) := by
  refine pu_met (by decide) (Nat.le_of_ble_eq_true rfl) ?_
  intro p e s m below meth c ls hx hb hr hlocks hml hown hts hl
  have hown : s.vm.findClass RX1 = some m.cls := hown
  have hl : lv_has ls 2 [(0, .ref h0), (1, .int x0)] := hl
  refine lv_iload_n hx hb dX1_power_0 rfl (lv_at hl 1 rfl) ?_
  refine lv_ldc hx hb hown (hts _ q64) dX1_power_1 ?_
  refine lv_iand hx hb dX1_power_3 ?_
  refine pu_S 1 (As := [.int (x0 &&& 1073741823)]) (rest := []) ⟨hx, hb, hml, hown, hts⟩ (metX2_nextPowerOfTwo l (x0 &&& 1073741823)) q65 q66 q2 q67 (by decide +kernel) rfl ⟨Nat.le_of_ble_eq_true rfl, Nat.le_of_ble_eq_true rfl⟩ hl.1 rfl (Nat.le_of_ble_eq_true rfl) dX1_power_4 ⟨Nat.le_of_ble_eq_true rfl, Nat.le_of_ble_eq_true rfl⟩ ?_
  exact pu_iret (v := (md_nextI (x0 &&& 1073741823))) hx hb hr hlocks rfl dX1_power_7
set_option maxHeartbeats 4000000 in
set_option maxRecDepth 100000 in
/-- MixDesk.longMix(II)J -/
theorem metX1_longMix (l : Launch) (h0 : Nat) (x0 : Int32) (x1 : Int32) : PuMet l yX1_longMix cX1_longMix 3 (some .long) 1 23 [.ref h0, .int x0, .int x1] (.long (md_mixL (md_wide x0 x1))) := by
  refine pu_met (by decide) (Nat.le_of_ble_eq_true rfl) ?_
  intro p e s m below meth c ls hx hb hr hlocks hml hown hts hl
  have hown : s.vm.findClass RX1 = some m.cls := hown
  have hl : lv_has ls 3 [(0, .ref h0), (1, .int x0), (2, .int x1)] := hl
  refine lv_iload_n hx hb dX1_longMix_0 rfl (lv_at hl 1 rfl) ?_
  refine lv_iload_n hx hb dX1_longMix_1 rfl (lv_at hl 2 rfl) ?_
  refine pu_S 2 (As := [.int x0, .int x1]) (rest := []) ⟨hx, hb, hml, hown, hts⟩ (metX1_wide l x0 x1) q43 q44 q1 q45 (by decide +kernel) rfl ⟨Nat.le_of_ble_eq_true rfl, Nat.le_of_ble_eq_true rfl⟩ hl.1 rfl (Nat.le_of_ble_eq_true rfl) dX1_longMix_2 ⟨Nat.le_of_ble_eq_true rfl, Nat.le_of_ble_eq_true rfl⟩ ?_
  refine pu_S 1 (As := [.long (md_wide x0 x1)]) (rest := []) ⟨hx, hb, hml, hown, hts⟩ (metX2_mix_2 l (md_wide x0 x1)) q47 q48 q2 q49 (by decide +kernel) rfl ⟨Nat.le_of_ble_eq_true rfl, Nat.le_of_ble_eq_true rfl⟩ hl.1 rfl (Nat.le_of_ble_eq_true rfl) dX1_longMix_5 ⟨Nat.le_of_ble_eq_true rfl, Nat.le_of_ble_eq_true rfl⟩ ?_
  exact pu_lret (v := (md_mixL (md_wide x0 x1))) hx hb hr hlocks rfl dX1_longMix_8
set_option maxHeartbeats 4000000 in
set_option maxRecDepth 100000 in
/-- MixDesk.longBack(II)J -/
theorem metX1_longBack (l : Launch) (h0 : Nat) (x0 : Int32) (x1 : Int32) : PuMet l yX1_longBack cX1_longBack 3 (some .long) 1 21 [.ref h0, .int x0, .int x1] (.long (md_invL (md_wide x0 x1))) := by
  refine pu_met (by decide) (Nat.le_of_ble_eq_true rfl) ?_
  intro p e s m below meth c ls hx hb hr hlocks hml hown hts hl
  have hown : s.vm.findClass RX1 = some m.cls := hown
  have hl : lv_has ls 3 [(0, .ref h0), (1, .int x0), (2, .int x1)] := hl
  refine lv_iload_n hx hb dX1_longBack_0 rfl (lv_at hl 1 rfl) ?_
  refine lv_iload_n hx hb dX1_longBack_1 rfl (lv_at hl 2 rfl) ?_
  refine pu_S 2 (As := [.int x0, .int x1]) (rest := []) ⟨hx, hb, hml, hown, hts⟩ (metX1_wide l x0 x1) q43 q44 q1 q45 (by decide +kernel) rfl ⟨Nat.le_of_ble_eq_true rfl, Nat.le_of_ble_eq_true rfl⟩ hl.1 rfl (Nat.le_of_ble_eq_true rfl) dX1_longBack_2 ⟨Nat.le_of_ble_eq_true rfl, Nat.le_of_ble_eq_true rfl⟩ ?_
  refine pu_S 1 (As := [.long (md_wide x0 x1)]) (rest := []) ⟨hx, hb, hml, hown, hts⟩ (metX2_invMix_2 l (md_wide x0 x1)) q55 q56 q2 q57 (by decide +kernel) rfl ⟨Nat.le_of_ble_eq_true rfl, Nat.le_of_ble_eq_true rfl⟩ hl.1 rfl (Nat.le_of_ble_eq_true rfl) dX1_longBack_5 ⟨Nat.le_of_ble_eq_true rfl, Nat.le_of_ble_eq_true rfl⟩ ?_
  exact pu_lret (v := (md_invL (md_wide x0 x1))) hx hb hr hlocks rfl dX1_longBack_8
set_option maxHeartbeats 4000000 in
set_option maxRecDepth 100000 in
/-- MixDesk.longMurmur(II)J -/
theorem metX1_longMurmur (l : Launch) (h0 : Nat) (x0 : Int32) (x1 : Int32) : PuMet l yX1_longMurmur cX1_longMurmur 3 (some .long) 1 21 [.ref h0, .int x0, .int x1] (.long (md_murL (md_wide x0 x1))) := by
  refine pu_met (by decide) (Nat.le_of_ble_eq_true rfl) ?_
  intro p e s m below meth c ls hx hb hr hlocks hml hown hts hl
  have hown : s.vm.findClass RX1 = some m.cls := hown
  have hl : lv_has ls 3 [(0, .ref h0), (1, .int x0), (2, .int x1)] := hl
  refine lv_iload_n hx hb dX1_longMurmur_0 rfl (lv_at hl 1 rfl) ?_
  refine lv_iload_n hx hb dX1_longMurmur_1 rfl (lv_at hl 2 rfl) ?_
  refine pu_S 2 (As := [.int x0, .int x1]) (rest := []) ⟨hx, hb, hml, hown, hts⟩ (metX1_wide l x0 x1) q43 q44 q1 q45 (by decide +kernel) rfl ⟨Nat.le_of_ble_eq_true rfl, Nat.le_of_ble_eq_true rfl⟩ hl.1 rfl (Nat.le_of_ble_eq_true rfl) dX1_longMurmur_2 ⟨Nat.le_of_ble_eq_true rfl, Nat.le_of_ble_eq_true rfl⟩ ?_
  refine pu_S 1 (As := [.long (md_wide x0 x1)]) (rest := []) ⟨hx, hb, hml, hown, hts⟩ (metX2_murmurHash3_2 l (md_wide x0 x1)) q120 q121 q2 q122 (by decide +kernel) rfl ⟨Nat.le_of_ble_eq_true rfl, Nat.le_of_ble_eq_true rfl⟩ hl.1 rfl (Nat.le_of_ble_eq_true rfl) dX1_longMurmur_5 ⟨Nat.le_of_ble_eq_true rfl, Nat.le_of_ble_eq_true rfl⟩ ?_
  exact pu_lret (v := (md_murL (md_wide x0 x1))) hx hb hr hlocks rfl dX1_longMurmur_8
set_option maxHeartbeats 4000000 in
set_option maxRecDepth 100000 in
/-- MixDesk.longPower(II)J -/
theorem metX1_longPower (l : Launch) (h0 : Nat) (x0 : Int32) (x1 : Int32) : PuMet l yX1_longPower cX1_longPower 3 (some .long) 3 64 [.ref h0, .int x0, .int x1] (.long (md_powL (md_wide x0 x1))) := by
  refine pu_met (by decide) (Nat.le_of_ble_eq_true rfl) ?_
  intro p e s m below meth c ls hx hb hr hlocks hml hown hts hl
  have hown : s.vm.findClass RX1 = some m.cls := hown
  have hl : lv_has ls 3 [(0, .ref h0), (1, .int x0), (2, .int x1)] := hl
  refine lv_iload_n hx hb dX1_longPower_0 rfl (lv_at hl 1 rfl) ?_
  refine lv_iload_n hx hb dX1_longPower_1 rfl (lv_at hl 2 rfl) ?_
  refine pu_S 2 (As := [.int x0, .int x1]) (rest := []) ⟨hx, hb, hml, hown, hts⟩ (metX1_wide l x0 x1) q43 q44 q1 q45 (by decide +kernel) rfl ⟨Nat.le_of_ble_eq_true rfl, Nat.le_of_ble_eq_true rfl⟩ hl.1 rfl (Nat.le_of_ble_eq_true rfl) dX1_longPower_2 ⟨Nat.le_of_ble_eq_true rfl, Nat.le_of_ble_eq_true rfl⟩ ?_
  refine lv_ldc2 hx hb hown (hts _ q77) dX1_longPower_5 ?_
  refine lv_land hx hb dX1_longPower_8 ?_
  refine pu_S 1 (As := [.long ((md_wide x0 x1) &&& 4611686018427387903)]) (rest := []) ⟨hx, hb, hml, hown, hts⟩ (metX2_nextPowerOfTwo_2 l ((md_wide x0 x1) &&& 4611686018427387903)) q78 q79 q2 q80 (by decide +kernel) rfl ⟨Nat.le_of_ble_eq_true rfl, Nat.le_of_ble_eq_true rfl⟩ hl.1 rfl (Nat.le_of_ble_eq_true rfl) dX1_longPower_9 ⟨Nat.le_of_ble_eq_true rfl, Nat.le_of_ble_eq_true rfl⟩ ?_
  exact pu_lret (v := (md_nextL ((md_wide x0 x1) &&& 4611686018427387903))) hx hb hr hlocks rfl dX1_longPower_12
end
section
/-! the law's small methods (printed by gen/help.py) -/
/-- a value under another name -/
theorem md_asl {p : Program} {l : Launch} {e : Env} {R : Room} {s : State} {m : MethodId} {args : Array Value} {below : List Frame} {meth : Method} {c : Code} {H : Heap} {locs : List Loc} {cells slots : Nat} {Q : State → Prop} {pc : Nat} {ls : Array Slot} {rest : List Value} {x v : Int64} (h : x = v) (k : W p l e R s m args below meth c H locs cells slots Q (F0 m pc ls (.long v :: rest))) : W p l e R s m args below meth c H locs cells slots Q (F0 m pc ls (.long x :: rest)) := h ▸ k
theorem md_asi {p : Program} {l : Launch} {e : Env} {R : Room} {s : State} {m : MethodId} {args : Array Value} {below : List Frame} {meth : Method} {c : Code} {H : Heap} {locs : List Loc} {cells slots : Nat} {Q : State → Prop} {pc : Nat} {ls : Array Slot} {rest : List Value} {x v : Int32} (h : x = v) (k : W p l e R s m args below meth c H locs cells slots Q (F0 m pc ls (.int v :: rest))) : W p l e R s m args below meth c H locs cells slots Q (F0 m pc ls (.int x :: rest)) := h ▸ k
/-- what cell(s, k) answers -/
def md_cell (xs : Nat → Int32) (L : Nat) (k : Int32) : Int32 := if Int32.ofNat L ≤ k then 0 else xs k.toNatClampNeg
theorem md_in {L j : Nat} {x : Int32} (hL : L < 2 ^ 31) (hx : x = nI j) (hj : j < 2 ^ 31) (h : ¬ Int32.ofNat L ≤ x) : vp_in x L := by
  subst hx
  rcases Nat.lt_or_ge j L with q | q
  · exact vp_in_nI q hL
  · exact absurd (nI_le q hj) h
theorem md_xlt {b L : Nat} {xs : Nat → Int32} {U : State} {H : Heap} (h : va_X b L xs U H) : b < H.size := by
  obtain ⟨scr, h1, -⟩ := h
  exact (Array.getElem?_eq_some_iff.mp h1).1

set_option maxHeartbeats 4000000 in
set_option maxRecDepth 100000 in
/-- cell(s, k), k a small number that isn't negative -/
theorem metX0_cell (l : Launch) (b L : Nat) (xs : Nat → Int32) (hL : L < 2 ^ 31) (x1 : Int32) (j : Nat) (hj : j < 2 ^ 31) (hx1 : x1 = nI j) : PuMetX l yX0_cell cX0_cell 2 (some .int) 0 0 b L xs [.ref b, .int x1] (.int (md_cell xs L x1)) := by
  refine pu_metX (by decide) (Nat.le_of_ble_eq_true rfl) ?_
  intro p e s m below meth c ls hx hb hr hlocks hml hown hts hX hl
  have hbl := md_xlt hX
  have hbA : ¬ (fun q : Nat => s.heap.size ≤ q) b := Nat.not_le.mpr hbl
  have hS : va_S (fun q : Nat => s.heap.size ≤ q) s.heap s.heap [] := va_S.rf
  have hl : lv_has ls 2 [(0, .ref b), (1, .int x1)] := hl
  refine lv_iload_n hx hb dX0_cell_0 rfl (lv_at hl 1 rfl) ?_
  refine lv_aload_n hx hb dX0_cell_1 rfl (lv_at hl 0 rfl) ?_
  refine va_slen hx hb hX hbl hbA hS dX0_cell_2 ?_
  refine lv_icmp_ge (tgt := 12) hx hb dX0_cell_3 (by decide) (fun c_3 => ?_) (fun c_3 => ?_)
  · refine lv_iconst (v := 0) hx hb dX0_cell_12 (by decide) ?_
    exact pu_iret (v := 0) hx hb hr hlocks (congrArg Value.int (by rw [md_cell, if_pos c_3])) dX0_cell_13
  · refine lv_aload_n hx hb dX0_cell_6 rfl (lv_at hl 0 rfl) ?_
    refine lv_iload_n hx hb dX0_cell_7 rfl (lv_at hl 1 rfl) ?_
    refine va_sld hx hb hX hbl hbA hS (md_in hL hx1 hj c_3) dX0_cell_8 ?_
    refine lv_goto (tgt := 13) hx hb dX0_cell_9 (by decide) ?_
    exact pu_iret (v := xs x1.toNatClampNeg) hx hb hr hlocks (congrArg Value.int (by rw [md_cell, if_neg c_3])) dX0_cell_13
set_option maxHeartbeats 4000000 in
set_option maxRecDepth 100000 in
/-- askedCell(s, k), k a small number that isn't negative -/
theorem metX0_askedCell (l : Launch) (b L : Nat) (xs : Nat → Int32) (hL : L < 2 ^ 31) (x1 : Int32) (j : Nat) (hj : j < 2 ^ 31) (hx1 : x1 = nI j) : PuMetX l yX0_askedCell cX0_askedCell 2 (some .int) 0 0 b L xs [.ref b, .int x1] (.int (md_cell xs L x1)) := by
  refine pu_metX (by decide) (Nat.le_of_ble_eq_true rfl) ?_
  intro p e s m below meth c ls hx hb hr hlocks hml hown hts hX hl
  have hbl := md_xlt hX
  have hbA : ¬ (fun q : Nat => s.heap.size ≤ q) b := Nat.not_le.mpr hbl
  have hS : va_S (fun q : Nat => s.heap.size ≤ q) s.heap s.heap [] := va_S.rf
  have hl : lv_has ls 2 [(0, .ref b), (1, .int x1)] := hl
  refine lv_iload_n hx hb dX0_askedCell_0 rfl (lv_at hl 1 rfl) ?_
  refine lv_aload_n hx hb dX0_askedCell_1 rfl (lv_at hl 0 rfl) ?_
  refine va_slen hx hb hX hbl hbA hS dX0_askedCell_2 ?_
  refine lv_icmp_ge (tgt := 12) hx hb dX0_askedCell_3 (by decide) (fun c_3 => ?_) (fun c_3 => ?_)
  · refine lv_iconst (v := 0) hx hb dX0_askedCell_12 (by decide) ?_
    exact pu_iret (v := 0) hx hb hr hlocks (congrArg Value.int (by rw [md_cell, if_pos c_3])) dX0_askedCell_13
  · refine lv_aload_n hx hb dX0_askedCell_6 rfl (lv_at hl 0 rfl) ?_
    refine lv_iload_n hx hb dX0_askedCell_7 rfl (lv_at hl 1 rfl) ?_
    refine va_sld hx hb hX hbl hbA hS (md_in hL hx1 hj c_3) dX0_askedCell_8 ?_
    refine lv_goto (tgt := 13) hx hb dX0_askedCell_9 (by decide) ?_
    exact pu_iret (v := xs x1.toNatClampNeg) hx hb hr hlocks (congrArg Value.int (by rw [md_cell, if_neg c_3])) dX0_askedCell_13
set_option maxHeartbeats 4000000 in
set_option maxRecDepth 100000 in
/-- MixDeskLaw.askedMix(I)I -/
theorem metX0_askedMix (l : Launch) (x0 : Int32) : PuMet l yX0_askedMix cX0_askedMix 2 (some .int) 0 0 [.int x0] (.int (md_mixI x0)) := by
  refine pu_met (by decide) (Nat.le_of_ble_eq_true rfl) ?_
  intro p e s m below meth c ls hx hb hr hlocks hml hown hts hl
  have hown : s.vm.findClass RX0 = some m.cls := hown
  have hl : lv_has ls 2 [(0, .int x0)] := hl
  refine lv_iload_n hx hb dX0_askedMix_0 rfl (lv_at hl 0 rfl) ?_
  refine lv_ldc hx hb hown (hts _ q97) dX0_askedMix_1 ?_
  refine lv_imul hx hb dX0_askedMix_3 ?_
  refine lv_istore_n (lv' := [(1, .int (x0 * (-1640531527))), (0, .int x0)]) hx hb dX0_askedMix_4 rfl hl (by decide) rfl (fun ls hl => ?_)
  refine lv_iload_n hx hb dX0_askedMix_5 rfl (lv_at hl 0 rfl) ?_
  refine lv_iload_n hx hb dX0_askedMix_6 rfl (lv_at hl 0 rfl) ?_
  refine lv_bipush (v := 16) hx hb dX0_askedMix_7 (by decide) ?_
  refine lv_iushr (v := (us32 (x0 * (-1640531527)) 16)) hx hb dX0_askedMix_9 rfl ?_
  refine lv_ixor hx hb dX0_askedMix_10 ?_
  exact pu_iret (v := ((x0 * (-1640531527)) ^^^ (us32 (x0 * (-1640531527)) 16))) hx hb hr hlocks rfl dX0_askedMix_11
set_option maxHeartbeats 4000000 in
set_option maxRecDepth 100000 in
/-- MixDeskLaw.askedMix(J)J -/
theorem metX0_askedMix_2 (l : Launch) (x0 : Int64) : PuMet l yX0_askedMix_2 cX0_askedMix_2 4 (some .long) 0 0 [.long x0] (.long (md_mixL x0)) := by
  refine pu_met (by decide) (Nat.le_of_ble_eq_true rfl) ?_
  intro p e s m below meth c ls hx hb hr hlocks hml hown hts hl
  have hown : s.vm.findClass RX0 = some m.cls := hown
  have hl : lv_has ls 4 [(0, .long x0)] := hl
  refine lv_lload_n hx hb dX0_askedMix_2_0 rfl (lv_at hl 0 rfl) ?_
  refine lv_ldc2 hx hb hown (hts _ q115) dX0_askedMix_2_1 ?_
  refine lv_lmul hx hb dX0_askedMix_2_4 ?_
  refine lv_lstore_n (lv' := [(2, .long (x0 * (-7046029254386353131))), (0, .long x0)]) hx hb dX0_askedMix_2_5 rfl hl (by decide) rfl (fun ls hl => ?_)
  refine lv_lload_n hx hb dX0_askedMix_2_6 rfl (lv_at hl 0 rfl) ?_
  refine lv_lload_n hx hb dX0_askedMix_2_7 rfl (lv_at hl 0 rfl) ?_
  refine lv_bipush (v := 32) hx hb dX0_askedMix_2_8 (by decide) ?_
  refine lv_lushr (v := (us64 (x0 * (-7046029254386353131)) 32)) hx hb dX0_askedMix_2_10 rfl ?_
  refine lv_lxor hx hb dX0_askedMix_2_11 ?_
  refine lv_lstore_n (lv' := [(2, .long ((x0 * (-7046029254386353131)) ^^^ (us64 (x0 * (-7046029254386353131)) 32))), (0, .long x0)]) hx hb dX0_askedMix_2_12 rfl hl (by decide) rfl (fun ls hl => ?_)
  refine lv_lload_n hx hb dX0_askedMix_2_13 rfl (lv_at hl 0 rfl) ?_
  refine lv_lload_n hx hb dX0_askedMix_2_14 rfl (lv_at hl 0 rfl) ?_
  refine lv_bipush (v := 16) hx hb dX0_askedMix_2_15 (by decide) ?_
  refine lv_lushr (v := (us64 ((x0 * (-7046029254386353131)) ^^^ (us64 (x0 * (-7046029254386353131)) 32)) 16)) hx hb dX0_askedMix_2_17 rfl ?_
  refine lv_lxor hx hb dX0_askedMix_2_18 ?_
  exact pu_lret (v := (((x0 * (-7046029254386353131)) ^^^ (us64 (x0 * (-7046029254386353131)) 32)) ^^^ (us64 ((x0 * (-7046029254386353131)) ^^^ (us64 (x0 * (-7046029254386353131)) 32)) 16))) hx hb hr hlocks rfl dX0_askedMix_2_19
set_option maxHeartbeats 4000000 in
set_option maxRecDepth 100000 in
/-- MixDeskLaw.askedMurmur(I)I -/
theorem metX0_askedMurmur (l : Launch) (x0 : Int32) : PuMet l yX0_askedMurmur cX0_askedMurmur 2 (some .int) 0 0 [.int x0] (.int (md_murI x0)) := by
  refine pu_met (by decide) (Nat.le_of_ble_eq_true rfl) ?_
  intro p e s m below meth c ls hx hb hr hlocks hml hown hts hl
  have hown : s.vm.findClass RX0 = some m.cls := hown
  have hl : lv_has ls 2 [(0, .int x0)] := hl
  refine lv_iload_n hx hb dX0_askedMurmur_0 rfl (lv_at hl 0 rfl) ?_
  refine lv_istore_n (lv' := [(1, .int x0), (0, .int x0)]) hx hb dX0_askedMurmur_1 rfl hl (by decide) rfl (fun ls hl => ?_)
  refine lv_iload_n hx hb dX0_askedMurmur_2 rfl (lv_at hl 0 rfl) ?_
  refine lv_iload_n hx hb dX0_askedMurmur_3 rfl (lv_at hl 0 rfl) ?_
  refine lv_bipush (v := 16) hx hb dX0_askedMurmur_4 (by decide) ?_
  refine lv_iushr (v := (us32 x0 16)) hx hb dX0_askedMurmur_6 rfl ?_
  refine lv_ixor hx hb dX0_askedMurmur_7 ?_
  refine lv_istore_n (lv' := [(1, .int (x0 ^^^ (us32 x0 16))), (0, .int x0)]) hx hb dX0_askedMurmur_8 rfl hl (by decide) rfl (fun ls hl => ?_)
  refine lv_iload_n hx hb dX0_askedMurmur_9 rfl (lv_at hl 0 rfl) ?_
  refine lv_ldc hx hb hown (hts _ q110) dX0_askedMurmur_10 ?_
  refine lv_imul hx hb dX0_askedMurmur_12 ?_
  refine lv_istore_n (lv' := [(1, .int ((x0 ^^^ (us32 x0 16)) * (-2048144789))), (0, .int x0)]) hx hb dX0_askedMurmur_13 rfl hl (by decide) rfl (fun ls hl => ?_)
  refine lv_iload_n hx hb dX0_askedMurmur_14 rfl (lv_at hl 0 rfl) ?_
  refine lv_iload_n hx hb dX0_askedMurmur_15 rfl (lv_at hl 0 rfl) ?_
  refine lv_bipush (v := 13) hx hb dX0_askedMurmur_16 (by decide) ?_
  refine lv_iushr (v := (us32 ((x0 ^^^ (us32 x0 16)) * (-2048144789)) 13)) hx hb dX0_askedMurmur_18 rfl ?_
  refine lv_ixor hx hb dX0_askedMurmur_19 ?_
  refine lv_istore_n (lv' := [(1, .int (((x0 ^^^ (us32 x0 16)) * (-2048144789)) ^^^ (us32 ((x0 ^^^ (us32 x0 16)) * (-2048144789)) 13))), (0, .int x0)]) hx hb dX0_askedMurmur_20 rfl hl (by decide) rfl (fun ls hl => ?_)
  refine lv_iload_n hx hb dX0_askedMurmur_21 rfl (lv_at hl 0 rfl) ?_
  refine lv_ldc hx hb hown (hts _ q111) dX0_askedMurmur_22 ?_
  refine lv_imul hx hb dX0_askedMurmur_24 ?_
  refine lv_istore_n (lv' := [(1, .int ((((x0 ^^^ (us32 x0 16)) * (-2048144789)) ^^^ (us32 ((x0 ^^^ (us32 x0 16)) * (-2048144789)) 13)) * (-1028477387))), (0, .int x0)]) hx hb dX0_askedMurmur_25 rfl hl (by decide) rfl (fun ls hl => ?_)
  refine lv_iload_n hx hb dX0_askedMurmur_26 rfl (lv_at hl 0 rfl) ?_
  refine lv_iload_n hx hb dX0_askedMurmur_27 rfl (lv_at hl 0 rfl) ?_
  refine lv_bipush (v := 16) hx hb dX0_askedMurmur_28 (by decide) ?_
  refine lv_iushr (v := (us32 ((((x0 ^^^ (us32 x0 16)) * (-2048144789)) ^^^ (us32 ((x0 ^^^ (us32 x0 16)) * (-2048144789)) 13)) * (-1028477387)) 16)) hx hb dX0_askedMurmur_30 rfl ?_
  refine lv_ixor hx hb dX0_askedMurmur_31 ?_
  exact pu_iret (v := (((((x0 ^^^ (us32 x0 16)) * (-2048144789)) ^^^ (us32 ((x0 ^^^ (us32 x0 16)) * (-2048144789)) 13)) * (-1028477387)) ^^^ (us32 ((((x0 ^^^ (us32 x0 16)) * (-2048144789)) ^^^ (us32 ((x0 ^^^ (us32 x0 16)) * (-2048144789)) 13)) * (-1028477387)) 16))) hx hb hr hlocks rfl dX0_askedMurmur_32
set_option maxHeartbeats 4000000 in
set_option maxRecDepth 100000 in
/-- MixDeskLaw.askedMurmur(J)J -/
theorem metX0_askedMurmur_2 (l : Launch) (x0 : Int64) : PuMet l yX0_askedMurmur_2 cX0_askedMurmur_2 4 (some .long) 0 0 [.long x0] (.long (md_murL x0)) := by
  refine pu_met (by decide) (Nat.le_of_ble_eq_true rfl) ?_
  intro p e s m below meth c ls hx hb hr hlocks hml hown hts hl
  have hown : s.vm.findClass RX0 = some m.cls := hown
  have hl : lv_has ls 4 [(0, .long x0)] := hl
  refine lv_lload_n hx hb dX0_askedMurmur_2_0 rfl (lv_at hl 0 rfl) ?_
  refine lv_lstore_n (lv' := [(2, .long x0), (0, .long x0)]) hx hb dX0_askedMurmur_2_1 rfl hl (by decide) rfl (fun ls hl => ?_)
  refine lv_lload_n hx hb dX0_askedMurmur_2_2 rfl (lv_at hl 0 rfl) ?_
  refine lv_lload_n hx hb dX0_askedMurmur_2_3 rfl (lv_at hl 0 rfl) ?_
  refine lv_bipush (v := 33) hx hb dX0_askedMurmur_2_4 (by decide) ?_
  refine lv_lushr (v := (us64 x0 33)) hx hb dX0_askedMurmur_2_6 rfl ?_
  refine lv_lxor hx hb dX0_askedMurmur_2_7 ?_
  refine lv_lstore_n (lv' := [(2, .long (x0 ^^^ (us64 x0 33))), (0, .long x0)]) hx hb dX0_askedMurmur_2_8 rfl hl (by decide) rfl (fun ls hl => ?_)
  refine lv_lload_n hx hb dX0_askedMurmur_2_9 rfl (lv_at hl 0 rfl) ?_
  refine lv_ldc2 hx hb hown (hts _ q128) dX0_askedMurmur_2_10 ?_
  refine lv_lmul hx hb dX0_askedMurmur_2_13 ?_
  refine lv_lstore_n (lv' := [(2, .long ((x0 ^^^ (us64 x0 33)) * (-49064778989728563))), (0, .long x0)]) hx hb dX0_askedMurmur_2_14 rfl hl (by decide) rfl (fun ls hl => ?_)
  refine lv_lload_n hx hb dX0_askedMurmur_2_15 rfl (lv_at hl 0 rfl) ?_
  refine lv_lload_n hx hb dX0_askedMurmur_2_16 rfl (lv_at hl 0 rfl) ?_
  refine lv_bipush (v := 33) hx hb dX0_askedMurmur_2_17 (by decide) ?_
  refine lv_lushr (v := (us64 ((x0 ^^^ (us64 x0 33)) * (-49064778989728563)) 33)) hx hb dX0_askedMurmur_2_19 rfl ?_
  refine lv_lxor hx hb dX0_askedMurmur_2_20 ?_
  refine lv_lstore_n (lv' := [(2, .long (((x0 ^^^ (us64 x0 33)) * (-49064778989728563)) ^^^ (us64 ((x0 ^^^ (us64 x0 33)) * (-49064778989728563)) 33))), (0, .long x0)]) hx hb dX0_askedMurmur_2_21 rfl hl (by decide) rfl (fun ls hl => ?_)
  refine lv_lload_n hx hb dX0_askedMurmur_2_22 rfl (lv_at hl 0 rfl) ?_
  refine lv_ldc2 hx hb hown (hts _ q129) dX0_askedMurmur_2_23 ?_
  refine lv_lmul hx hb dX0_askedMurmur_2_26 ?_
  refine lv_lstore_n (lv' := [(2, .long ((((x0 ^^^ (us64 x0 33)) * (-49064778989728563)) ^^^ (us64 ((x0 ^^^ (us64 x0 33)) * (-49064778989728563)) 33)) * (-4265267296055464877))), (0, .long x0)]) hx hb dX0_askedMurmur_2_27 rfl hl (by decide) rfl (fun ls hl => ?_)
  refine lv_lload_n hx hb dX0_askedMurmur_2_28 rfl (lv_at hl 0 rfl) ?_
  refine lv_lload_n hx hb dX0_askedMurmur_2_29 rfl (lv_at hl 0 rfl) ?_
  refine lv_bipush (v := 33) hx hb dX0_askedMurmur_2_30 (by decide) ?_
  refine lv_lushr (v := (us64 ((((x0 ^^^ (us64 x0 33)) * (-49064778989728563)) ^^^ (us64 ((x0 ^^^ (us64 x0 33)) * (-49064778989728563)) 33)) * (-4265267296055464877)) 33)) hx hb dX0_askedMurmur_2_32 rfl ?_
  refine lv_lxor hx hb dX0_askedMurmur_2_33 ?_
  exact pu_lret (v := (((((x0 ^^^ (us64 x0 33)) * (-49064778989728563)) ^^^ (us64 ((x0 ^^^ (us64 x0 33)) * (-49064778989728563)) 33)) * (-4265267296055464877)) ^^^ (us64 ((((x0 ^^^ (us64 x0 33)) * (-49064778989728563)) ^^^ (us64 ((x0 ^^^ (us64 x0 33)) * (-49064778989728563)) 33)) * (-4265267296055464877)) 33))) hx hb hr hlocks rfl dX0_askedMurmur_2_34

set_option maxHeartbeats 4000000 in
set_option maxRecDepth 100000 in
/-- MixDesk(): nothing to do -/
theorem metX1_init (l : Launch) (h0 : Nat) : Met l yX1_init (ws_ yX1_init cX1_init 1 none) (k2_rm 1 12) (fun v _ => v = ([.ref h0] : List Value).toArray) (va_Sv (fun _ => True)) 0 0 (fun _ => False) := by
  refine Met.ofW (cc := cX1_init) (maxL := 1) (ret := none) (by decide) rfl ?_
  intro p e s m args below meth c s₁ B hml hv
  subst hv
  have hx := B.exec
  have hb := B.bytes
  have hr := B.returns
  have hts := atoms_spec (ws := ws_ yX1_init cX1_init 1 none) B.pre
  have hts : ∀ w ∈ lw_all, w.before _ s = true := fun w h => hts w (List.mem_cons_of_mem _ h)
  have hown : s.vm.findClass RX1 = some m.cls := findClass_of_methodNamed B.named
  have hlocks := B.notSynchronized
  have hl := lv_entry ([.ref h0]) (n := 1) (Nat.le_of_ble_eq_true rfl)
  rw [lg_entry_eq]
  generalize (lg_sl ([.ref h0]) ++ List.replicate (1 - (lg_sl ([.ref h0])).length) Slot.unset).toArray = ls at hl ⊢
  have hl : lv_has ls 1 [(0, .ref h0)] := hl
  refine lv_aload_n hx hb dX1_init_0 rfl (lv_at hl 0 rfl) ?_
  refine W.objInit hx hb hown (hts _ q14) (hts _ q15) (hts _ q16) rfl (by rw [hml]; exact hl.1) rfl dX1_init_1 (Nat.le_of_ble_eq_true rfl) (Nat.le_of_ble_eq_true rfl) ?_
  refine W.eq (g2 := F0 m 4 ls []) rfl ?_
  exact W.vret hx hb hr (fun t ht _ => ⟨rfl, trivial, ht⟩) (fun q h => by cases h) dX1_init_4

/-! the three checks of the law: called with any int array, they answer true; what was there stays as it was -/
abbrev LmMet (l : Launch) (y : MethodName) (cc : ByteArray) (maxL f n mc ms b L sz : Nat) (xs : Nat → Int32) : Prop :=
  Met l y (ws_ y cc maxL (some .boolean)) ({ frames := f, cells := mc, slots := ms, locals := n } : Room) (va_Pc [.ref b] (fun U => U.heap.size = sz ∧ va_X b L xs U U.heap)) (va_Qi (fun (r : Int32) (_ : Unit) => r = 1) (fun _ _ => True) (fun q => sz ≤ q)) mc ms (fun q => sz ≤ q)
theorem lm_met {l : Launch} {y : MethodName} {cc : ByteArray} {maxL f n mc ms b L sz : Nat} {xs : Nat → Int32} (hy : plainName y.cls = true) (hlen : (lg_sl ([.ref b] : List Value)).length ≤ maxL)
    (body : ∀ (p : Program) (e : Env) (s : State) (m : MethodId) (below : List Frame) (meth : Method) (c : Code) (ls : Array Slot), p.tables.exec = Jvm.exec → c.code = cc → meth.sig.returnType = some .boolean → meth.locks = false → c.maxLocals = maxL → s.vm.findClass y.cls = some m.cls → (∀ w ∈ lw_all, w.before ([.ref b] : List Value).toArray s = true) → va_X b L xs s s.heap → lv_has ls maxL [(0, .ref b)] →
      W p l e ({ frames := f, cells := mc, slots := ms, locals := n } : Room) s m ([.ref b] : List Value).toArray below meth c s.heap [] 0 0 (MQ below (va_Qi (fun (r : Int32) (_ : Unit) => r = 1) (fun _ _ => True) (fun q => s.heap.size ≤ q)) ([.ref b] : List Value).toArray s mc ms (fun q => s.heap.size ≤ q)) (F0 m 0 ls [])) : LmMet l y cc maxL f n mc ms b L sz xs := by
  refine Met.ofW (cc := cc) (maxL := maxL) (ret := some .boolean) hy rfl ?_
  intro p e s m args below meth c s₁ B hml hv
  obtain ⟨rfl, rfl, hX⟩ := hv
  have hts := atoms_spec (ws := ws_ y cc maxL (some .boolean)) B.pre
  have hl := lv_entry ([.ref b] : List Value) (n := maxL) hlen
  rw [lg_entry_eq]
  exact body p e s m below meth c _ B.exec B.bytes B.returns B.notSynchronized hml (findClass_of_methodNamed B.named) (fun w h => hts w (List.mem_cons_of_mem _ h)) hX hl
theorem lm_ret {p : Program} {l : Launch} {e : Env} {R : Room} {s : State} {m : MethodId} {args : Array Value} {below : List Frame} {meth : Method} {c : Code} {H : Heap} {locs : List Loc} {cells slots : Nat} {cc : ByteArray} {pc : Nat} {ls : Array Slot} (hx : p.tables.exec = Jvm.exec) (hb : c.code = cc) (hr : meth.sig.returnType = some .boolean) (hlocks : meth.locks = false) (hS : va_S (fun q : Nat => s.heap.size ≤ q) s.heap H locs) (hdg : decode cc pc = .ok (.ireturn, 1)) :
    W p l e R s m args below meth c H locs cells slots (MQ below (va_Qi (fun (r : Int32) (_ : Unit) => r = 1) (fun _ _ => True) (fun q => s.heap.size ≤ q)) args s cells slots (fun q => s.heap.size ≤ q)) (F0 m pc ls [.int 1]) :=
  W.zret (v := 1) hx hb hr rfl (fun t ht _ => ⟨⟨1, (), rfl, rfl, trivial⟩, hS.F ht⟩) hS.2.2 hdg hlocks
/-- MixDesk has no fields -/
def TX1 : u_T := fun _ => ("", "", "", false)
def tyX1 : Nat → FieldType := fun _ => .int
theorem tyX1_ok : ∀ k, k < 0 → parseFieldDescriptor (TX1 k).2.2.1 = some (tyX1 k) := fun k h => absurd h (Nat.not_lt_zero k)
theorem in_X1 : ∀ w ∈ u_ws RX1 TX1 0, w ∈ lw_all := fun w h => by cases h
abbrev vwCl : List vw_C := [(RX1, TX1, 0)]
theorem lm_known {args : Array Value} {s : State} (hts : ∀ w ∈ lw_all, w.before args s = true) : ∃ D : va_G, va_K D vwCl [] s := by
  obtain ⟨c0, iS0, hKn0⟩ := u_known (C := RX1) (T := TX1) (N := 0) (n := 0) hts in_X1 (hts _ q10)
  refine ⟨(fun _ => c0, fun _ => iS0), ?_, fun k q h => by simp at h⟩
  intro k q hq
  match k, hq with
  | 0, hq => cases hq; exact hKn0
  | k + 1, hq => simp [vwCl] at hq
theorem lm_P0 {D : va_G} {H : Heap} : va_P D vwCl [] H := fun k q h => by simp at h
theorem lm_D0 {A : Nat → Prop} : va_D A [] := ⟨fun i j p q h => by simp at h, fun k q h => by simp at h⟩
/-- new MixDesk(): a cell of no slots -/
theorem lm_new {p : Program} {l : Launch} {e : Env} {R : Room} {s : State} {m : MethodId} {args : Array Value} {below : List Frame} {meth : Method} {c : Code} {cells slots : Nat} {Q : State → Prop} {cc : ByteArray} {pc : Nat} {ls : Array Slot} {D : va_G}
    (hx : p.tables.exec = Jvm.exec) (hb : c.code = cc) (hml : c.maxLocals = ls.size) (hown : s.vm.findClass RX0 = some m.cls) (hts : ∀ w ∈ lw_all, w.before args s = true) (hK : va_K D vwCl [] s) (hcells : cells + 1 ≤ R.cells) (hslots : slots + 0 ≤ R.slots) (hf : 2 ≤ R.frames) (hn : 32 ≤ R.locals)
    (d0 : decode cc pc = .ok (.new 7, 3)) (d3 : decode cc (pc + 3) = .ok (.dup, 1)) (d4 : decode cc (pc + 3 + 1) = .ok (.invokespecial 9, 3))
    (kk : ∀ (ob : Nat) (H : Heap), va_P D vwCl [(ob, .inr (0, []))] H → va_D (fun q : Nat => s.heap.size ≤ q) [(ob, .inr (0, []))] → va_S (fun q : Nat => s.heap.size ≤ q) s.heap H [] →
      W p l e R s m args below meth c H [] (cells + 1) slots Q (F0 m (pc + 3 + 1 + 3) ls [.ref ob])) : W p l e R s m args below meth c s.heap [] cells slots Q (F0 m pc ls []) := by
  refine va_new (ci := 0) (fs := []) (C := RX1) (T := TX1) (N := 0) hx hb hts in_X1 tyX1 tyX1_ok hown (hts _ q9) (hts _ q10) (hts _ q1) hK lm_P0 lm_D0 va_S.rf (fun q h => h) rfl (fun j hj => absurd hj (Nat.not_lt_zero j)) hcells hslots d0 (fun ob H hP hD hS => ?_)
  refine lv_dup hx hb d3 rfl ?_
  refine va_csv (W.runI (As := []) (b := ob) (rest := [.ref ob]) (n := 0) ⟨hx, hb, rfl, hown, hts⟩ (metX1_init l ob) (cwI 0 hts (lw_meth q13) rfl rfl rfl (hts _ q1) (hts _ q11) (hts _ q12) rfl (by decide +kernel) ⟨hf, hn⟩) ⟨fun _ _ _ _ q => q, fun _ _ _ => rfl⟩ rfl rfl hml.symm rfl (lv_room (Nat.le_of_ble_eq_true rfl)) d4 ⟨hcells, hslots⟩) (fun _ => ?_)
  exact kk ob H hP hD hS
end
section
/-! the law's first check (printed by gen/elder.py) -/
set_option maxHeartbeats 4000000 in
set_option maxRecDepth 100000 in
/-- the law's check elder -/
theorem metX0_elder (l : Launch) (b L sz : Nat) (xs : Nat → Int32) (hL : L < 2 ^ 31) : LmMet l yX0_elder cX0_elder 16 4 86 1 0 b L sz xs := by
  refine lm_met (by decide) (Nat.le_of_ble_eq_true rfl) ?_
  intro p e s m below meth c ls hx hb hr hlocks hml hown hts hX hl
  have hown : s.vm.findClass RX0 = some m.cls := hown
  have hbl := md_xlt hX
  have hA : ∀ q : Nat, s.heap.size ≤ q → (fun q : Nat => s.heap.size ≤ q) q := fun _ h => h
  have hl : lv_has ls 16 [(0, .ref b)] := hl
  obtain ⟨D, hK⟩ := lm_known hts
  refine lm_new hx hb (hml.trans hl.1.symm) hown hts hK (Nat.le_of_ble_eq_true rfl) (Nat.le_of_ble_eq_true rfl) (Nat.le_of_ble_eq_true rfl) (Nat.le_of_ble_eq_true rfl) dX0_elder_0 dX0_elder_3 dX0_elder_4 (fun ob H hP hD hS => ?_)
  refine W.eq (g2 := F0 m 7 ls [.ref ob]) rfl ?_
  have hXH : va_X b L xs s H := hX.kept (hS.2.1 b hbl (Nat.not_le.mpr hbl))
  refine W.widen (k := 1) (n := 0) (Nat.le_refl _) (Nat.le_refl _) ?_
  refine lv_astore_n (lv' := [(1, .ref ob), (0, .ref b)]) hx hb dX0_elder_7 rfl hl (by decide) rfl (fun ls hl => ?_)
  refine lv_aload_n hx hb dX0_elder_8 rfl (lv_at hl 1 rfl) ?_
  refine lv_iconst (v := 0) hx hb dX0_elder_9 (by decide) ?_
  refine pu_SX 2 (As := [.ref b, .int 0]) (rest := []) ⟨hx, hb, hml, hown, hts⟩ (metX0_cell l b L xs hL 0 0 (by decide) rfl) hXH q18 q19 q0 q20 (by decide +kernel) rfl ⟨Nat.le_of_ble_eq_true rfl, Nat.le_of_ble_eq_true rfl⟩ hl.1 rfl (Nat.le_of_ble_eq_true rfl) dX0_elder_10 ⟨Nat.le_of_ble_eq_true rfl, Nat.le_of_ble_eq_true rfl⟩ ?_
  refine lv_topi (fun aa e_aa => ?_)
  refine lv_istore_n (lv' := [(2, .int aa), (1, .ref ob), (0, .ref b)]) hx hb dX0_elder_13 rfl hl (by decide) rfl (fun ls hl => ?_)
  refine lv_aload_n hx hb dX0_elder_14 rfl (lv_at hl 2 rfl) ?_
  refine lv_iconst (v := 1) hx hb dX0_elder_15 (by decide) ?_
  refine pu_SX 2 (As := [.ref b, .int 1]) (rest := []) ⟨hx, hb, hml, hown, hts⟩ (metX0_cell l b L xs hL 1 1 (by decide) rfl) hXH q18 q19 q0 q20 (by decide +kernel) rfl ⟨Nat.le_of_ble_eq_true rfl, Nat.le_of_ble_eq_true rfl⟩ hl.1 rfl (Nat.le_of_ble_eq_true rfl) dX0_elder_16 ⟨Nat.le_of_ble_eq_true rfl, Nat.le_of_ble_eq_true rfl⟩ ?_
  refine lv_topi (fun bb e_bb => ?_)
  refine lv_istore_n (lv' := [(3, .int bb), (2, .int aa), (1, .ref ob), (0, .ref b)]) hx hb dX0_elder_19 rfl hl (by decide) rfl (fun ls hl => ?_)
  refine lv_aload_n hx hb dX0_elder_20 rfl (lv_at hl 2 rfl) ?_
  refine lv_aload_n hx hb dX0_elder_21 rfl (lv_at hl 2 rfl) ?_
  refine lv_iload_n hx hb dX0_elder_22 rfl (lv_at hl 1 rfl) ?_
  refine pu_V 1 (b := ob) (As := [.int aa]) (rest := [.ref ob]) ⟨hx, hb, hml, hown, hts⟩ (metX1_mix l ob aa) (va_recv (ci := 0) (q0 := 0) hK hP rfl rfl) q21 q22 q23 q1 q24 (by decide +kernel) rfl ⟨Nat.le_of_ble_eq_true rfl, Nat.le_of_ble_eq_true rfl⟩ hl.1 rfl (Nat.le_of_ble_eq_true rfl) dX0_elder_23 ⟨Nat.le_of_ble_eq_true rfl, Nat.le_of_ble_eq_true rfl⟩ ?_
  refine pu_V 1 (b := ob) (As := [.int (md_mixI aa)]) (rest := []) ⟨hx, hb, hml, hown, hts⟩ (metX1_back l ob (md_mixI aa)) (va_recv (ci := 0) (q0 := 0) hK hP rfl rfl) q29 q30 q31 q1 q32 (by decide +kernel) rfl ⟨Nat.le_of_ble_eq_true rfl, Nat.le_of_ble_eq_true rfl⟩ hl.1 rfl (Nat.le_of_ble_eq_true rfl) dX0_elder_26 ⟨Nat.le_of_ble_eq_true rfl, Nat.le_of_ble_eq_true rfl⟩ ?_
  refine lv_iload_n hx hb dX0_elder_29 rfl (lv_at hl 1 rfl) ?_
  refine lv_icmp_ne (tgt := 56) hx hb dX0_elder_30 (by decide) (fun c_30 => absurd (md_invmixI aa) c_30) (fun c_30 => ?_)
  refine lv_aload_n hx hb dX0_elder_33 rfl (lv_at hl 2 rfl) ?_
  refine lv_aload_n hx hb dX0_elder_34 rfl (lv_at hl 2 rfl) ?_
  refine lv_iload_n hx hb dX0_elder_35 rfl (lv_at hl 1 rfl) ?_
  refine pu_V 1 (b := ob) (As := [.int aa]) (rest := [.ref ob]) ⟨hx, hb, hml, hown, hts⟩ (metX1_back l ob aa) (va_recv (ci := 0) (q0 := 0) hK hP rfl rfl) q29 q30 q31 q1 q32 (by decide +kernel) rfl ⟨Nat.le_of_ble_eq_true rfl, Nat.le_of_ble_eq_true rfl⟩ hl.1 rfl (Nat.le_of_ble_eq_true rfl) dX0_elder_36 ⟨Nat.le_of_ble_eq_true rfl, Nat.le_of_ble_eq_true rfl⟩ ?_
  refine pu_V 1 (b := ob) (As := [.int (md_invI aa)]) (rest := []) ⟨hx, hb, hml, hown, hts⟩ (metX1_mix l ob (md_invI aa)) (va_recv (ci := 0) (q0 := 0) hK hP rfl rfl) q21 q22 q23 q1 q24 (by decide +kernel) rfl ⟨Nat.le_of_ble_eq_true rfl, Nat.le_of_ble_eq_true rfl⟩ hl.1 rfl (Nat.le_of_ble_eq_true rfl) dX0_elder_39 ⟨Nat.le_of_ble_eq_true rfl, Nat.le_of_ble_eq_true rfl⟩ ?_
  refine lv_iload_n hx hb dX0_elder_42 rfl (lv_at hl 1 rfl) ?_
  refine lv_icmp_ne (tgt := 56) hx hb dX0_elder_43 (by decide) (fun c_43 => absurd (md_mixinvI aa) c_43) (fun c_43 => ?_)
  refine lv_aload_n hx hb dX0_elder_46 rfl (lv_at hl 2 rfl) ?_
  refine lv_iconst (v := 1) hx hb dX0_elder_47 (by decide) ?_
  refine pu_V 1 (b := ob) (As := [.int 1]) (rest := []) ⟨hx, hb, hml, hown, hts⟩ (metX1_mix l ob 1) (va_recv (ci := 0) (q0 := 0) hK hP rfl rfl) q21 q22 q23 q1 q24 (by decide +kernel) rfl ⟨Nat.le_of_ble_eq_true rfl, Nat.le_of_ble_eq_true rfl⟩ hl.1 rfl (Nat.le_of_ble_eq_true rfl) dX0_elder_48 ⟨Nat.le_of_ble_eq_true rfl, Nat.le_of_ble_eq_true rfl⟩ ?_
  refine lv_ldc hx hb hown (hts _ q37) dX0_elder_51 ?_
  refine lv_icmp_eq (tgt := 58) hx hb dX0_elder_53 (by decide) (fun c_53 => ?_) (fun c_53 => absurd md_mix1 c_53)
  refine lv_iload_n hx hb dX0_elder_58 rfl (lv_at hl 1 rfl) ?_
  refine lv_i2l (v := aa.toInt64) hx hb dX0_elder_59 rfl ?_
  refine lv_bipush (v := 32) hx hb dX0_elder_60 (by decide) ?_
  refine lv_lshl (v := (sl64 aa.toInt64 32)) hx hb dX0_elder_62 rfl ?_
  refine lv_iload_n hx hb dX0_elder_63 rfl (lv_at hl 0 rfl) ?_
  refine lv_i2l (v := bb.toInt64) hx hb dX0_elder_64 rfl ?_
  refine lv_ldc2 hx hb hown (hts _ q38) dX0_elder_65 ?_
  refine lv_land hx hb dX0_elder_68 ?_
  refine lv_lor hx hb dX0_elder_69 ?_
  refine md_asl (v := md_wide aa bb) rfl ?_
  refine lv_lstore (lv' := [(4, .long (md_wide aa bb)), (3, .int bb), (2, .int aa), (1, .ref ob), (0, .ref b)]) hx hb dX0_elder_70 hl (by decide) rfl (fun ls hl => ?_)
  refine lv_aload_n hx hb dX0_elder_72 rfl (lv_at hl 3 rfl) ?_
  refine lv_iload_n hx hb dX0_elder_73 rfl (lv_at hl 2 rfl) ?_
  refine lv_iload_n hx hb dX0_elder_74 rfl (lv_at hl 1 rfl) ?_
  refine pu_V 2 (b := ob) (As := [.int aa, .int bb]) (rest := []) ⟨hx, hb, hml, hown, hts⟩ (metX1_longMix l ob aa bb) (va_recv (ci := 0) (q0 := 0) hK hP rfl rfl) q39 q40 q41 q1 q42 (by decide +kernel) rfl ⟨Nat.le_of_ble_eq_true rfl, Nat.le_of_ble_eq_true rfl⟩ hl.1 rfl (Nat.le_of_ble_eq_true rfl) dX0_elder_75 ⟨Nat.le_of_ble_eq_true rfl, Nat.le_of_ble_eq_true rfl⟩ ?_
  refine lv_lstore (lv' := [(6, .long (md_mixL (md_wide aa bb))), (4, .long (md_wide aa bb)), (3, .int bb), (2, .int aa), (1, .ref ob), (0, .ref b)]) hx hb dX0_elder_78 hl (by decide) rfl (fun ls hl => ?_)
  refine lv_aload_n hx hb dX0_elder_80 rfl (lv_at hl 4 rfl) ?_
  refine lv_iload_n hx hb dX0_elder_81 rfl (lv_at hl 3 rfl) ?_
  refine lv_iload_n hx hb dX0_elder_82 rfl (lv_at hl 2 rfl) ?_
  refine pu_V 2 (b := ob) (As := [.int aa, .int bb]) (rest := []) ⟨hx, hb, hml, hown, hts⟩ (metX1_longBack l ob aa bb) (va_recv (ci := 0) (q0 := 0) hK hP rfl rfl) q51 q52 q53 q1 q54 (by decide +kernel) rfl ⟨Nat.le_of_ble_eq_true rfl, Nat.le_of_ble_eq_true rfl⟩ hl.1 rfl (Nat.le_of_ble_eq_true rfl) dX0_elder_83 ⟨Nat.le_of_ble_eq_true rfl, Nat.le_of_ble_eq_true rfl⟩ ?_
  refine lv_lstore (lv' := [(8, .long (md_invL (md_wide aa bb))), (6, .long (md_mixL (md_wide aa bb))), (4, .long (md_wide aa bb)), (3, .int bb), (2, .int aa), (1, .ref ob), (0, .ref b)]) hx hb dX0_elder_86 hl (by decide) rfl (fun ls hl => ?_)
  refine lv_aload_n hx hb dX0_elder_88 rfl (lv_at hl 5 rfl) ?_
  refine lv_lload hx hb dX0_elder_89 (lv_at hl 1 rfl) ?_
  refine lv_bipush (v := 32) hx hb dX0_elder_91 (by decide) ?_
  refine lv_lshr (v := (sr64 (md_mixL (md_wide aa bb)) 32)) hx hb dX0_elder_93 rfl ?_
  refine lv_l2i (v := (sr64 (md_mixL (md_wide aa bb)) 32).toInt32) hx hb dX0_elder_94 rfl ?_
  refine lv_lload hx hb dX0_elder_95 (lv_at hl 1 rfl) ?_
  refine lv_l2i (v := (md_mixL (md_wide aa bb)).toInt32) hx hb dX0_elder_97 rfl ?_
  refine pu_V 2 (b := ob) (As := [.int ((sr64 (md_mixL (md_wide aa bb)) 32).toInt32), .int ((md_mixL (md_wide aa bb)).toInt32)]) (rest := []) ⟨hx, hb, hml, hown, hts⟩ (metX1_longBack l ob ((sr64 (md_mixL (md_wide aa bb)) 32).toInt32) ((md_mixL (md_wide aa bb)).toInt32)) (va_recv (ci := 0) (q0 := 0) hK hP rfl rfl) q51 q52 q53 q1 q54 (by decide +kernel) rfl ⟨Nat.le_of_ble_eq_true rfl, Nat.le_of_ble_eq_true rfl⟩ hl.1 rfl (Nat.le_of_ble_eq_true rfl) dX0_elder_98 ⟨Nat.le_of_ble_eq_true rfl, Nat.le_of_ble_eq_true rfl⟩ ?_
  refine lv_lload hx hb dX0_elder_101 (lv_at hl 2 rfl) ?_
  refine W.lcmp hx hb dX0_elder_103 ?_
  refine lv_if_ne (tgt := 126) hx hb dX0_elder_104 (by decide) (fun c_104 => absurd ((lg_cmp_eq _ _).mpr (by rw [md_split, md_invmixL])) c_104) (fun c_104 => ?_)
  refine lv_aload_n hx hb dX0_elder_107 rfl (lv_at hl 5 rfl) ?_
  refine lv_lload hx hb dX0_elder_108 (lv_at hl 0 rfl) ?_
  refine lv_bipush (v := 32) hx hb dX0_elder_110 (by decide) ?_
  refine lv_lshr (v := (sr64 (md_invL (md_wide aa bb)) 32)) hx hb dX0_elder_112 rfl ?_
  refine lv_l2i (v := (sr64 (md_invL (md_wide aa bb)) 32).toInt32) hx hb dX0_elder_113 rfl ?_
  refine lv_lload hx hb dX0_elder_114 (lv_at hl 0 rfl) ?_
  refine lv_l2i (v := (md_invL (md_wide aa bb)).toInt32) hx hb dX0_elder_116 rfl ?_
  refine pu_V 2 (b := ob) (As := [.int ((sr64 (md_invL (md_wide aa bb)) 32).toInt32), .int ((md_invL (md_wide aa bb)).toInt32)]) (rest := []) ⟨hx, hb, hml, hown, hts⟩ (metX1_longMix l ob ((sr64 (md_invL (md_wide aa bb)) 32).toInt32) ((md_invL (md_wide aa bb)).toInt32)) (va_recv (ci := 0) (q0 := 0) hK hP rfl rfl) q39 q40 q41 q1 q42 (by decide +kernel) rfl ⟨Nat.le_of_ble_eq_true rfl, Nat.le_of_ble_eq_true rfl⟩ hl.1 rfl (Nat.le_of_ble_eq_true rfl) dX0_elder_117 ⟨Nat.le_of_ble_eq_true rfl, Nat.le_of_ble_eq_true rfl⟩ ?_
  refine lv_lload hx hb dX0_elder_120 (lv_at hl 2 rfl) ?_
  refine W.lcmp hx hb dX0_elder_122 ?_
  refine lv_if_eq (tgt := 128) hx hb dX0_elder_123 (by decide) (fun c_123 => ?_) (fun c_123 => absurd ((lg_cmp_eq _ _).mpr (by rw [md_split, md_mixinvL])) c_123)
  refine lv_iload_n hx hb dX0_elder_128 rfl (lv_at hl 4 rfl) ?_
  refine lv_ldc hx hb hown (hts _ q59) dX0_elder_129 ?_
  refine lv_iand hx hb dX0_elder_131 ?_
  refine lv_istore (lv' := [(10, .int (aa &&& 1073741823)), (8, .long (md_invL (md_wide aa bb))), (6, .long (md_mixL (md_wide aa bb))), (4, .long (md_wide aa bb)), (3, .int bb), (2, .int aa), (1, .ref ob), (0, .ref b)]) hx hb dX0_elder_132 hl (by decide) rfl (fun ls hl => ?_)
  refine lv_aload_n hx hb dX0_elder_134 rfl (lv_at hl 6 rfl) ?_
  refine lv_iload_n hx hb dX0_elder_135 rfl (lv_at hl 5 rfl) ?_
  refine pu_V 1 (b := ob) (As := [.int aa]) (rest := []) ⟨hx, hb, hml, hown, hts⟩ (metX1_power l ob aa) (va_recv (ci := 0) (q0 := 0) hK hP rfl rfl) q60 q61 q62 q1 q63 (by decide +kernel) rfl ⟨Nat.le_of_ble_eq_true rfl, Nat.le_of_ble_eq_true rfl⟩ hl.1 rfl (Nat.le_of_ble_eq_true rfl) dX0_elder_136 ⟨Nat.le_of_ble_eq_true rfl, Nat.le_of_ble_eq_true rfl⟩ ?_
  refine lv_istore (lv' := [(11, .int (md_powI aa)), (10, .int (aa &&& 1073741823)), (8, .long (md_invL (md_wide aa bb))), (6, .long (md_mixL (md_wide aa bb))), (4, .long (md_wide aa bb)), (3, .int bb), (2, .int aa), (1, .ref ob), (0, .ref b)]) hx hb dX0_elder_139 hl (by decide) rfl (fun ls hl => ?_)
  refine lv_iload hx hb dX0_elder_141 (lv_at hl 0 rfl) ?_
  refine lv_if_le (tgt := 178) hx hb dX0_elder_143 (by decide) (fun c_143 => absurd c_143 (md_powI_ok aa).1) (fun c_143 => ?_)
  refine lv_iload hx hb dX0_elder_146 (lv_at hl 0 rfl) ?_
  refine lv_iload hx hb dX0_elder_148 (lv_at hl 0 rfl) ?_
  refine lv_iconst (v := 1) hx hb dX0_elder_150 (by decide) ?_
  refine lv_isub hx hb dX0_elder_151 ?_
  refine lv_iand hx hb dX0_elder_152 ?_
  refine lv_if_ne (tgt := 178) hx hb dX0_elder_153 (by decide) (fun c_153 => absurd (md_powI_ok aa).2.1 c_153) (fun c_153 => ?_)
  refine lv_iload hx hb dX0_elder_156 (lv_at hl 0 rfl) ?_
  refine lv_iload hx hb dX0_elder_158 (lv_at hl 1 rfl) ?_
  refine lv_icmp_lt (tgt := 178) hx hb dX0_elder_160 (by decide) (fun c_160 => absurd c_160 (md_powI_ok aa).2.2.1) (fun c_160 => ?_)
  refine lv_iload hx hb dX0_elder_163 (lv_at hl 0 rfl) ?_
  refine lv_iconst (v := 1) hx hb dX0_elder_165 (by decide) ?_
  have k180 : ∀ ls : Array Slot, lv_has ls 16 [(11, .int (md_powI aa)), (10, .int (aa &&& 1073741823)), (8, .long (md_invL (md_wide aa bb))), (6, .long (md_mixL (md_wide aa bb))), (4, .long (md_wide aa bb)), (3, .int bb), (2, .int aa), (1, .ref ob), (0, .ref b)] → W p l e ({ frames := 4, cells := 1, slots := 0, locals := 86 } : Room) s m ([.ref b] : List Value).toArray below meth c H [] 1 0 (MQ below (va_Qi (fun (r : Int32) (_ : Unit) => r = 1) (fun _ _ => True) (fun q => s.heap.size ≤ q)) ([.ref b] : List Value).toArray s 1 0 (fun q => s.heap.size ≤ q)) (F0 m 180 ls []) := by
    intro ls hl
    refine lv_lload hx hb dX0_elder_180 (lv_at hl 4 rfl) ?_
    refine lv_ldc2 hx hb hown (hts _ q72) dX0_elder_182 ?_
    refine lv_land hx hb dX0_elder_185 ?_
    refine lv_lstore (lv' := [(12, .long (md_wide aa bb &&& 4611686018427387903)), (11, .int (md_powI aa)), (10, .int (aa &&& 1073741823)), (8, .long (md_invL (md_wide aa bb))), (6, .long (md_mixL (md_wide aa bb))), (4, .long (md_wide aa bb)), (3, .int bb), (2, .int aa), (1, .ref ob), (0, .ref b)]) hx hb dX0_elder_186 hl (by decide) rfl (fun ls hl => ?_)
    refine lv_aload_n hx hb dX0_elder_188 rfl (lv_at hl 8 rfl) ?_
    refine lv_iload_n hx hb dX0_elder_189 rfl (lv_at hl 7 rfl) ?_
    refine lv_iload_n hx hb dX0_elder_190 rfl (lv_at hl 6 rfl) ?_
    refine pu_V 2 (b := ob) (As := [.int aa, .int bb]) (rest := []) ⟨hx, hb, hml, hown, hts⟩ (metX1_longPower l ob aa bb) (va_recv (ci := 0) (q0 := 0) hK hP rfl rfl) q73 q74 q75 q1 q76 (by decide +kernel) rfl ⟨Nat.le_of_ble_eq_true rfl, Nat.le_of_ble_eq_true rfl⟩ hl.1 rfl (Nat.le_of_ble_eq_true rfl) dX0_elder_191 ⟨Nat.le_of_ble_eq_true rfl, Nat.le_of_ble_eq_true rfl⟩ ?_
    refine lv_lstore (lv' := [(14, .long (md_powL (md_wide aa bb))), (12, .long (md_wide aa bb &&& 4611686018427387903)), (11, .int (md_powI aa)), (10, .int (aa &&& 1073741823)), (8, .long (md_invL (md_wide aa bb))), (6, .long (md_mixL (md_wide aa bb))), (4, .long (md_wide aa bb)), (3, .int bb), (2, .int aa), (1, .ref ob), (0, .ref b)]) hx hb dX0_elder_194 hl (by decide) rfl (fun ls hl => ?_)
    refine lv_lload hx hb dX0_elder_196 (lv_at hl 0 rfl) ?_
    refine lv_lconst (v := 0) hx hb dX0_elder_198 (by decide) ?_
    refine W.lcmp hx hb dX0_elder_199 ?_
    refine lv_if_le (tgt := 246) hx hb dX0_elder_200 (by decide) (fun c_200 => absurd ((lg_cmp_le _ _).mp c_200) (Int64.not_le.mpr (md_powL_ok (md_wide aa bb)).1)) (fun c_200 => ?_)
    refine lv_lload hx hb dX0_elder_203 (lv_at hl 0 rfl) ?_
    refine lv_lload hx hb dX0_elder_205 (lv_at hl 0 rfl) ?_
    refine lv_lconst (v := 1) hx hb dX0_elder_207 (by decide) ?_
    refine lv_lsub hx hb dX0_elder_208 ?_
    refine lv_land hx hb dX0_elder_209 ?_
    refine lv_lconst (v := 0) hx hb dX0_elder_210 (by decide) ?_
    refine W.lcmp hx hb dX0_elder_211 ?_
    refine lv_if_ne (tgt := 246) hx hb dX0_elder_212 (by decide) (fun c_212 => absurd ((lg_cmp_eq _ _).mpr (md_powL_ok (md_wide aa bb)).2.1) c_212) (fun c_212 => ?_)
    refine lv_lload hx hb dX0_elder_215 (lv_at hl 0 rfl) ?_
    refine lv_lload hx hb dX0_elder_217 (lv_at hl 1 rfl) ?_
    refine W.lcmp hx hb dX0_elder_219 ?_
    refine lv_if_lt (tgt := 246) hx hb dX0_elder_220 (by decide) (fun c_220 => absurd ((lg_cmp_lt _ _).mp c_220) (Int64.not_lt.mpr (md_powL_ok (md_wide aa bb)).2.2.1)) (fun c_220 => ?_)
    refine lv_lload hx hb dX0_elder_223 (lv_at hl 0 rfl) ?_
    refine lv_lconst (v := 1) hx hb dX0_elder_225 (by decide) ?_
    refine W.lcmp hx hb dX0_elder_226 ?_
    refine lv_if_eq (tgt := 242) hx hb dX0_elder_227 (by decide) (fun c_227 => ?_) (fun c_227 => ?_)
    · refine lv_iconst (v := 1) hx hb dX0_elder_242 (by decide) ?_
      refine lv_goto (tgt := 247) hx hb dX0_elder_243 (by decide) ?_
      exact lm_ret hx hb hr hlocks hS dX0_elder_247
    · refine lv_lload hx hb dX0_elder_230 (lv_at hl 0 rfl) ?_
      refine lv_ldc2 hx hb hown (hts _ q85) dX0_elder_232 ?_
      refine lv_ldiv hx hb dX0_elder_235 (by decide) ?_
      refine lv_lload hx hb dX0_elder_236 (lv_at hl 1 rfl) ?_
      refine W.lcmp hx hb dX0_elder_238 ?_
      refine lv_if_ge (tgt := 246) hx hb dX0_elder_239 (by decide) (fun c_239 => absurd ((lg_cmp_ge _ _).mp c_239) (Int64.not_le.mpr ((md_powL_ok (md_wide aa bb)).2.2.2 (fun q => c_227 ((lg_cmp_eq _ _).mpr q))))) (fun c_239 => ?_)
      refine lv_iconst (v := 1) hx hb dX0_elder_242 (by decide) ?_
      refine lv_goto (tgt := 247) hx hb dX0_elder_243 (by decide) ?_
      exact lm_ret hx hb hr hlocks hS dX0_elder_247
  refine lv_icmp_le (tgt := 180) hx hb dX0_elder_166 (by decide) (fun c_166 => ?_) (fun c_166 => ?_)
  · exact k180 ls hl
  · refine lv_iload hx hb dX0_elder_169 (lv_at hl 0 rfl) ?_
    refine lv_iconst (v := 2) hx hb dX0_elder_171 (by decide) ?_
    refine lv_idiv hx hb dX0_elder_172 (by decide) ?_
    refine lv_iload hx hb dX0_elder_173 (lv_at hl 1 rfl) ?_
    refine lv_icmp_lt (tgt := 180) hx hb dX0_elder_175 (by decide) (fun c_175 => ?_) (fun c_175 => absurd ((md_powI_ok aa).2.2.2 c_166) c_175)
    exact k180 ls hl
end
section
/-! the law's second check (printed by gen/defined.py) -/
set_option maxHeartbeats 4000000 in
set_option maxRecDepth 100000 in
/-- the law's check askedDefined -/
theorem metX0_askedDefined (l : Launch) (b L sz : Nat) (xs : Nat → Int32) (hL : L < 2 ^ 31) : LmMet l yX0_askedDefined cX0_askedDefined 13 2 45 2 7 b L sz xs := by
  refine lm_met (by decide) (Nat.le_of_ble_eq_true rfl) ?_
  intro p e s m below meth c ls hx hb hr hlocks hml hown hts hX hl
  have hown : s.vm.findClass RX0 = some m.cls := hown
  have hbl := md_xlt hX
  have hA : ∀ q : Nat, s.heap.size ≤ q → (fun q : Nat => s.heap.size ≤ q) q := fun _ h => h
  have hl : lv_has ls 13 [(0, .ref b)] := hl
  obtain ⟨D, hK⟩ := lm_known hts
  refine lm_new hx hb (hml.trans hl.1.symm) hown hts hK (Nat.le_of_ble_eq_true rfl) (Nat.le_of_ble_eq_true rfl) (Nat.le_of_ble_eq_true rfl) (Nat.le_of_ble_eq_true rfl) dX0_askedDefined_0 dX0_askedDefined_3 dX0_askedDefined_4 (fun ob H hP hD hS => ?_)
  refine W.eq (g2 := F0 m 7 ls [.ref ob]) rfl ?_
  have hXH : va_X b L xs s H := hX.kept (hS.2.1 b hbl (Nat.not_le.mpr hbl))
  refine lv_astore_n (lv' := [(1, .ref ob), (0, .ref b)]) hx hb dX0_askedDefined_7 rfl hl (by decide) rfl (fun ls hl => ?_)
  refine lv_bipush (v := 7) hx hb dX0_askedDefined_8 (by decide) ?_
  refine va_newa (atype := .int) (ty := .int) (N' := 7) (a0 := (7, .inl (fun _ => 0))) hx hb (hts _ q130) rfl hK hP hD hS hA (fun _ => rfl) (by decide) (by decide) (Nat.le_of_ble_eq_true rfl) (Nat.le_of_ble_eq_true rfl) (Nat.le_of_ble_eq_true rfl) dX0_askedDefined_10 (fun ar cA H hK hP hD hS => ?_)
  have hK : va_K D vwCl [(cA, .int)] s := hK
  obtain ⟨f, ef⟩ : ∃ f : Nat → Int32, f = fun _ => 0 := ⟨_, rfl⟩
  rw [← ef] at hP hD
  have hP : va_P D vwCl [(ob, .inr (0, [])), (ar, .inl (cA, 7, .inl f))] H := hP
  have hD : va_D (fun q : Nat => s.heap.size ≤ q) [(ob, .inr (0, [])), (ar, .inl (cA, 7, .inl f))] := hD
  refine W.widen (k := 2) (n := 7) (Nat.le_of_ble_eq_true rfl) (Nat.le_of_ble_eq_true rfl) ?_
  have hXH : va_X b L xs s H := hX.kept (hS.2.1 b hbl (Nat.not_le.mpr hbl))
  clear ef
  refine lv_dup hx hb dX0_askedDefined_12 rfl ?_
  refine lv_iconst (v := 0) hx hb dX0_askedDefined_13 (by decide) ?_
  refine lv_aload_n hx hb dX0_askedDefined_14 rfl (lv_at hl 1 rfl) ?_
  refine lv_iconst (v := 0) hx hb dX0_askedDefined_15 (by decide) ?_
  refine pu_SX 2 (As := [.ref b, .int 0]) (rest := [.int 0, .ref ar, .ref ar]) ⟨hx, hb, hml, hown, hts⟩ (metX0_askedCell l b L xs hL 0 0 (by decide) rfl) hXH q89 q90 q0 q91 (by decide +kernel) rfl ⟨Nat.le_of_ble_eq_true rfl, Nat.le_of_ble_eq_true rfl⟩ hl.1 rfl (Nat.le_of_ble_eq_true rfl) dX0_askedDefined_16 ⟨Nat.le_of_ble_eq_true rfl, Nat.le_of_ble_eq_true rfl⟩ ?_
  refine va_iast hx hb hK hP hD hS 1 0 rfl rfl (vp_in_nI (n := 0) (N := 7) (by decide) (by decide)) dX0_askedDefined_19 (fun H locs hP hD hS => ?_)
  have hP : va_P D vwCl [(ob, .inr (0, [])), (ar, .inl (cA, 7, .inl (upd f (0 : Int32).toNatClampNeg (md_cell xs L 0))))] H := hP
  have hD : va_D (fun q : Nat => s.heap.size ≤ q) [(ob, .inr (0, [])), (ar, .inl (cA, 7, .inl (upd f (0 : Int32).toNatClampNeg (md_cell xs L 0))))] := hD
  generalize upd f (0 : Int32).toNatClampNeg (md_cell xs L 0) = f at hP hD
  have hXH : va_X b L xs s H := hX.kept (hS.2.1 b hbl (Nat.not_le.mpr hbl))
  refine lv_dup hx hb dX0_askedDefined_20 rfl ?_
  refine lv_iconst (v := 1) hx hb dX0_askedDefined_21 (by decide) ?_
  refine lv_aload_n hx hb dX0_askedDefined_22 rfl (lv_at hl 1 rfl) ?_
  refine lv_iconst (v := 1) hx hb dX0_askedDefined_23 (by decide) ?_
  refine pu_SX 2 (As := [.ref b, .int 1]) (rest := [.int 1, .ref ar, .ref ar]) ⟨hx, hb, hml, hown, hts⟩ (metX0_askedCell l b L xs hL 1 1 (by decide) rfl) hXH q89 q90 q0 q91 (by decide +kernel) rfl ⟨Nat.le_of_ble_eq_true rfl, Nat.le_of_ble_eq_true rfl⟩ hl.1 rfl (Nat.le_of_ble_eq_true rfl) dX0_askedDefined_24 ⟨Nat.le_of_ble_eq_true rfl, Nat.le_of_ble_eq_true rfl⟩ ?_
  refine va_iast hx hb hK hP hD hS 1 0 rfl rfl (vp_in_nI (n := 1) (N := 7) (by decide) (by decide)) dX0_askedDefined_27 (fun H locs hP hD hS => ?_)
  have hP : va_P D vwCl [(ob, .inr (0, [])), (ar, .inl (cA, 7, .inl (upd f (1 : Int32).toNatClampNeg (md_cell xs L 1))))] H := hP
  have hD : va_D (fun q : Nat => s.heap.size ≤ q) [(ob, .inr (0, [])), (ar, .inl (cA, 7, .inl (upd f (1 : Int32).toNatClampNeg (md_cell xs L 1))))] := hD
  generalize upd f (1 : Int32).toNatClampNeg (md_cell xs L 1) = f at hP hD
  have hXH : va_X b L xs s H := hX.kept (hS.2.1 b hbl (Nat.not_le.mpr hbl))
  refine lv_dup hx hb dX0_askedDefined_28 rfl ?_
  refine lv_iconst (v := 2) hx hb dX0_askedDefined_29 (by decide) ?_
  refine lv_iconst (v := 0) hx hb dX0_askedDefined_30 (by decide) ?_
  refine va_iast hx hb hK hP hD hS 1 0 rfl rfl (vp_in_nI (n := 2) (N := 7) (by decide) (by decide)) dX0_askedDefined_31 (fun H locs hP hD hS => ?_)
  have hP : va_P D vwCl [(ob, .inr (0, [])), (ar, .inl (cA, 7, .inl (upd f (2 : Int32).toNatClampNeg 0)))] H := hP
  have hD : va_D (fun q : Nat => s.heap.size ≤ q) [(ob, .inr (0, [])), (ar, .inl (cA, 7, .inl (upd f (2 : Int32).toNatClampNeg 0)))] := hD
  generalize upd f (2 : Int32).toNatClampNeg 0 = f at hP hD
  have hXH : va_X b L xs s H := hX.kept (hS.2.1 b hbl (Nat.not_le.mpr hbl))
  refine lv_dup hx hb dX0_askedDefined_32 rfl ?_
  refine lv_iconst (v := 3) hx hb dX0_askedDefined_33 (by decide) ?_
  refine lv_iconst (v := 1) hx hb dX0_askedDefined_34 (by decide) ?_
  refine va_iast hx hb hK hP hD hS 1 0 rfl rfl (vp_in_nI (n := 3) (N := 7) (by decide) (by decide)) dX0_askedDefined_35 (fun H locs hP hD hS => ?_)
  have hP : va_P D vwCl [(ob, .inr (0, [])), (ar, .inl (cA, 7, .inl (upd f (3 : Int32).toNatClampNeg 1)))] H := hP
  have hD : va_D (fun q : Nat => s.heap.size ≤ q) [(ob, .inr (0, [])), (ar, .inl (cA, 7, .inl (upd f (3 : Int32).toNatClampNeg 1)))] := hD
  generalize upd f (3 : Int32).toNatClampNeg 1 = f at hP hD
  have hXH : va_X b L xs s H := hX.kept (hS.2.1 b hbl (Nat.not_le.mpr hbl))
  refine lv_dup hx hb dX0_askedDefined_36 rfl ?_
  refine lv_iconst (v := 4) hx hb dX0_askedDefined_37 (by decide) ?_
  refine lv_iconst (v := (-1)) hx hb dX0_askedDefined_38 (by decide) ?_
  refine va_iast hx hb hK hP hD hS 1 0 rfl rfl (vp_in_nI (n := 4) (N := 7) (by decide) (by decide)) dX0_askedDefined_39 (fun H locs hP hD hS => ?_)
  have hP : va_P D vwCl [(ob, .inr (0, [])), (ar, .inl (cA, 7, .inl (upd f (4 : Int32).toNatClampNeg (-1))))] H := hP
  have hD : va_D (fun q : Nat => s.heap.size ≤ q) [(ob, .inr (0, [])), (ar, .inl (cA, 7, .inl (upd f (4 : Int32).toNatClampNeg (-1))))] := hD
  generalize upd f (4 : Int32).toNatClampNeg (-1) = f at hP hD
  have hXH : va_X b L xs s H := hX.kept (hS.2.1 b hbl (Nat.not_le.mpr hbl))
  refine lv_dup hx hb dX0_askedDefined_40 rfl ?_
  refine lv_iconst (v := 5) hx hb dX0_askedDefined_41 (by decide) ?_
  refine lv_ldc hx hb hown (hts _ q92) dX0_askedDefined_42 ?_
  refine va_iast hx hb hK hP hD hS 1 0 rfl rfl (vp_in_nI (n := 5) (N := 7) (by decide) (by decide)) dX0_askedDefined_44 (fun H locs hP hD hS => ?_)
  have hP : va_P D vwCl [(ob, .inr (0, [])), (ar, .inl (cA, 7, .inl (upd f (5 : Int32).toNatClampNeg (-2147483648))))] H := hP
  have hD : va_D (fun q : Nat => s.heap.size ≤ q) [(ob, .inr (0, [])), (ar, .inl (cA, 7, .inl (upd f (5 : Int32).toNatClampNeg (-2147483648))))] := hD
  generalize upd f (5 : Int32).toNatClampNeg (-2147483648) = f at hP hD
  have hXH : va_X b L xs s H := hX.kept (hS.2.1 b hbl (Nat.not_le.mpr hbl))
  refine lv_dup hx hb dX0_askedDefined_45 rfl ?_
  refine lv_bipush (v := 6) hx hb dX0_askedDefined_46 (by decide) ?_
  refine lv_ldc hx hb hown (hts _ q93) dX0_askedDefined_48 ?_
  refine va_iast hx hb hK hP hD hS 1 0 rfl rfl (vp_in_nI (n := 6) (N := 7) (by decide) (by decide)) dX0_askedDefined_50 (fun H locs hP hD hS => ?_)
  have hP : va_P D vwCl [(ob, .inr (0, [])), (ar, .inl (cA, 7, .inl (upd f (6 : Int32).toNatClampNeg 2147483647)))] H := hP
  have hD : va_D (fun q : Nat => s.heap.size ≤ q) [(ob, .inr (0, [])), (ar, .inl (cA, 7, .inl (upd f (6 : Int32).toNatClampNeg 2147483647)))] := hD
  generalize upd f (6 : Int32).toNatClampNeg 2147483647 = f at hP hD
  have hXH : va_X b L xs s H := hX.kept (hS.2.1 b hbl (Nat.not_le.mpr hbl))
  refine lv_astore_n (lv' := [(2, .ref ar), (1, .ref ob), (0, .ref b)]) hx hb dX0_askedDefined_51 rfl hl (by decide) rfl (fun ls hl => ?_)
  refine lv_aload_n hx hb dX0_askedDefined_52 rfl (lv_at hl 0 rfl) ?_
  refine lv_astore_n (lv' := [(3, .ref ar), (2, .ref ar), (1, .ref ob), (0, .ref b)]) hx hb dX0_askedDefined_53 rfl hl (by decide) rfl (fun ls hl => ?_)
  refine lv_aload_n hx hb dX0_askedDefined_54 rfl (lv_at hl 0 rfl) ?_
  refine va_alen (v := 7) hx hb hK hP 1 0 rfl rfl rfl dX0_askedDefined_55 ?_
  refine lv_istore (lv' := [(4, .int 7), (3, .ref ar), (2, .ref ar), (1, .ref ob), (0, .ref b)]) hx hb dX0_askedDefined_56 hl (by decide) rfl (fun ls hl => ?_)
  refine lv_iconst (v := 0) hx hb dX0_askedDefined_58 (by decide) ?_
  refine lv_istore (lv' := [(5, .int 0), (4, .int 7), (3, .ref ar), (2, .ref ar), (1, .ref ob), (0, .ref b)]) hx hb dX0_askedDefined_59 hl (by decide) rfl (fun ls hl => ?_)
  have outer : ∀ (n i : Nat) (x5 : Int32) (ls : Array Slot), i ≤ 7 → 8 ≤ i + n → x5 = nI i → lv_has ls 13 [(5, .int x5), (4, .int 7), (3, .ref ar), (2, .ref ar), (1, .ref ob), (0, .ref b)] → W p l e ({ frames := 2, cells := 2, slots := 7, locals := 45 } : Room) s m ([.ref b] : List Value).toArray below meth c H locs 2 7 (MQ below (va_Qi (fun (r : Int32) (_ : Unit) => r = 1) (fun _ _ => True) (fun q => s.heap.size ≤ q)) ([.ref b] : List Value).toArray s 2 7 (fun q => s.heap.size ≤ q)) (F0 m 61 ls []) := by
    intro n
    induction n with
    | zero => exact fun i x5 ls h1 h2 => absurd h2 (by omega)
    | succ n ih =>
      intro i x5 ls hi hin ex5 hl
      refine lv_iload hx hb dX0_askedDefined_61 (lv_at hl 0 rfl) ?_
      refine lv_iload hx hb dX0_askedDefined_63 (lv_at hl 1 rfl) ?_
      refine lv_icmp_ge (tgt := 224) hx hb dX0_askedDefined_65 (by decide) (fun c_65 => ?_) (fun c_65 => ?_)
      · refine lv_iconst (v := 1) hx hb dX0_askedDefined_224 (by decide) ?_
        exact lm_ret hx hb hr hlocks hS dX0_askedDefined_225
      · have hlt : i < 7 := by
          rcases Nat.lt_or_ge i 7 with q | q
          · exact q
          · exact absurd (by rw [ex5]; exact nI_le (a := 7) q (by omega)) c_65
        have hin5 : vp_in x5 7 := by rw [ex5]; exact vp_in_nI hlt (by omega)
        refine lv_aload_n hx hb dX0_askedDefined_68 rfl (lv_at hl 2 rfl) ?_
        refine lv_iload hx hb dX0_askedDefined_69 (lv_at hl 0 rfl) ?_
        refine va_iald hx hb hK hP 1 0 rfl rfl hin5 dX0_askedDefined_71 ?_
        refine lv_topi (fun aa e_aa => ?_)
        refine lv_istore (lv' := [(6, .int aa), (5, .int x5), (4, .int 7), (3, .ref ar), (2, .ref ar), (1, .ref ob), (0, .ref b)]) hx hb dX0_askedDefined_72 hl (by decide) rfl (fun ls hl => ?_)
        refine lv_aload_n hx hb dX0_askedDefined_74 rfl (lv_at hl 5 rfl) ?_
        refine lv_iload hx hb dX0_askedDefined_75 (lv_at hl 0 rfl) ?_
        refine pu_V 1 (b := ob) (As := [.int aa]) (rest := []) ⟨hx, hb, hml, hown, hts⟩ (metX1_mix l ob aa) (va_recv (ci := 0) (q0 := 0) hK hP rfl rfl) q21 q22 q23 q1 q24 (by decide +kernel) rfl ⟨Nat.le_of_ble_eq_true rfl, Nat.le_of_ble_eq_true rfl⟩ hl.1 rfl (Nat.le_of_ble_eq_true rfl) dX0_askedDefined_77 ⟨Nat.le_of_ble_eq_true rfl, Nat.le_of_ble_eq_true rfl⟩ ?_
        refine lv_iload hx hb dX0_askedDefined_80 (lv_at hl 0 rfl) ?_
        refine pu_S 1 (As := [.int aa]) (rest := [.int (md_mixI aa)]) ⟨hx, hb, hml, hown, hts⟩ (metX0_askedMix l aa) q94 q95 q0 q96 (by decide +kernel) rfl ⟨Nat.le_of_ble_eq_true rfl, Nat.le_of_ble_eq_true rfl⟩ hl.1 rfl (Nat.le_of_ble_eq_true rfl) dX0_askedDefined_82 ⟨Nat.le_of_ble_eq_true rfl, Nat.le_of_ble_eq_true rfl⟩ ?_
        refine lv_icmp_ne (tgt := 116) hx hb dX0_askedDefined_85 (by decide) (fun c_85 => absurd rfl c_85) (fun c_85 => ?_)
        refine lv_aload_n hx hb dX0_askedDefined_88 rfl (lv_at hl 5 rfl) ?_
        refine lv_iload hx hb dX0_askedDefined_89 (lv_at hl 0 rfl) ?_
        refine pu_V 1 (b := ob) (As := [.int aa]) (rest := []) ⟨hx, hb, hml, hown, hts⟩ (metX1_murmur l ob aa) (va_recv (ci := 0) (q0 := 0) hK hP rfl rfl) q98 q99 q100 q1 q101 (by decide +kernel) rfl ⟨Nat.le_of_ble_eq_true rfl, Nat.le_of_ble_eq_true rfl⟩ hl.1 rfl (Nat.le_of_ble_eq_true rfl) dX0_askedDefined_91 ⟨Nat.le_of_ble_eq_true rfl, Nat.le_of_ble_eq_true rfl⟩ ?_
        refine lv_iload hx hb dX0_askedDefined_94 (lv_at hl 0 rfl) ?_
        refine pu_S 1 (As := [.int aa]) (rest := [.int (md_murI aa)]) ⟨hx, hb, hml, hown, hts⟩ (metX0_askedMurmur l aa) q107 q108 q0 q109 (by decide +kernel) rfl ⟨Nat.le_of_ble_eq_true rfl, Nat.le_of_ble_eq_true rfl⟩ hl.1 rfl (Nat.le_of_ble_eq_true rfl) dX0_askedDefined_96 ⟨Nat.le_of_ble_eq_true rfl, Nat.le_of_ble_eq_true rfl⟩ ?_
        refine lv_icmp_ne (tgt := 116) hx hb dX0_askedDefined_99 (by decide) (fun c_99 => absurd rfl c_99) (fun c_99 => ?_)
        refine lv_aload_n hx hb dX0_askedDefined_102 rfl (lv_at hl 5 rfl) ?_
        refine lv_iload hx hb dX0_askedDefined_103 (lv_at hl 0 rfl) ?_
        refine pu_V 1 (b := ob) (As := [.int aa]) (rest := []) ⟨hx, hb, hml, hown, hts⟩ (metX1_back l ob aa) (va_recv (ci := 0) (q0 := 0) hK hP rfl rfl) q29 q30 q31 q1 q32 (by decide +kernel) rfl ⟨Nat.le_of_ble_eq_true rfl, Nat.le_of_ble_eq_true rfl⟩ hl.1 rfl (Nat.le_of_ble_eq_true rfl) dX0_askedDefined_105 ⟨Nat.le_of_ble_eq_true rfl, Nat.le_of_ble_eq_true rfl⟩ ?_
        refine pu_S 1 (As := [.int (md_invI aa)]) (rest := []) ⟨hx, hb, hml, hown, hts⟩ (metX0_askedMix l (md_invI aa)) q94 q95 q0 q96 (by decide +kernel) rfl ⟨Nat.le_of_ble_eq_true rfl, Nat.le_of_ble_eq_true rfl⟩ hl.1 rfl (Nat.le_of_ble_eq_true rfl) dX0_askedDefined_108 ⟨Nat.le_of_ble_eq_true rfl, Nat.le_of_ble_eq_true rfl⟩ ?_
        refine lv_iload hx hb dX0_askedDefined_111 (lv_at hl 0 rfl) ?_
        refine lv_icmp_eq (tgt := 118) hx hb dX0_askedDefined_113 (by decide) (fun c_113 => ?_) (fun c_113 => absurd (md_mixinvI aa) c_113)
        refine lv_aload_n hx hb dX0_askedDefined_118 rfl (lv_at hl 4 rfl) ?_
        refine lv_astore (lv' := [(7, .ref ar), (6, .int aa), (5, .int x5), (4, .int 7), (3, .ref ar), (2, .ref ar), (1, .ref ob), (0, .ref b)]) hx hb dX0_askedDefined_119 hl (by decide) rfl (fun ls hl => ?_)
        refine lv_aload hx hb dX0_askedDefined_121 (lv_at hl 0 rfl) ?_
        refine va_alen (v := 7) hx hb hK hP 1 0 rfl rfl rfl dX0_askedDefined_123 ?_
        refine lv_istore (lv' := [(8, .int 7), (7, .ref ar), (6, .int aa), (5, .int x5), (4, .int 7), (3, .ref ar), (2, .ref ar), (1, .ref ob), (0, .ref b)]) hx hb dX0_askedDefined_124 hl (by decide) rfl (fun ls hl => ?_)
        refine lv_iconst (v := 0) hx hb dX0_askedDefined_126 (by decide) ?_
        refine lv_istore (lv' := [(9, .int 0), (8, .int 7), (7, .ref ar), (6, .int aa), (5, .int x5), (4, .int 7), (3, .ref ar), (2, .ref ar), (1, .ref ob), (0, .ref b)]) hx hb dX0_askedDefined_127 hl (by decide) rfl (fun ls hl => ?_)
        have inner : ∀ (k j : Nat) (x9 : Int32) (ls : Array Slot), j ≤ 7 → 8 ≤ j + k → x9 = nI j → lv_has ls 13 [(9, .int x9), (8, .int 7), (7, .ref ar), (6, .int aa), (5, .int x5), (4, .int 7), (3, .ref ar), (2, .ref ar), (1, .ref ob), (0, .ref b)] → W p l e ({ frames := 2, cells := 2, slots := 7, locals := 45 } : Room) s m ([.ref b] : List Value).toArray below meth c H locs 2 7 (MQ below (va_Qi (fun (r : Int32) (_ : Unit) => r = 1) (fun _ _ => True) (fun q => s.heap.size ≤ q)) ([.ref b] : List Value).toArray s 2 7 (fun q => s.heap.size ≤ q)) (F0 m 129 ls []) := by
          intro k
          induction k with
          | zero => exact fun j x9 ls h1 h2 => absurd h2 (by omega)
          | succ k ih2 =>
            intro j x9 ls hj hjn ex9 hl
            refine lv_iload hx hb dX0_askedDefined_129 (lv_at hl 0 rfl) ?_
            refine lv_iload hx hb dX0_askedDefined_131 (lv_at hl 1 rfl) ?_
            refine lv_icmp_ge (tgt := 218) hx hb dX0_askedDefined_133 (by decide) (fun c_133 => ?_) (fun c_133 => ?_)
            · obtain ⟨x5_n, e_x5_n⟩ : ∃ y : Int32, y = x5 + 1 := ⟨_, rfl⟩
              refine lv_iinc (v := x5_n) (lv' := [(5, .int x5_n), (9, .int x9), (8, .int 7), (7, .ref ar), (6, .int aa), (4, .int 7), (3, .ref ar), (2, .ref ar), (1, .ref ob), (0, .ref b)]) hx hb dX0_askedDefined_218 hl (k := 4) rfl (by rw [e_x5_n]; rfl) (by decide) rfl (fun ls hl => ?_)
              refine lv_goto (tgt := 61) hx hb dX0_askedDefined_221 (by decide) ?_
              exact ih (i + 1) x5_n ls hlt (by omega) (by rw [e_x5_n, ex5]; exact nI_1 _) (lv_sub hl [0, 5, 6, 7, 8, 9] rfl)
            · have hlt2 : j < 7 := by
                rcases Nat.lt_or_ge j 7 with q | q
                · exact q
                · exact absurd (by rw [ex9]; exact nI_le (a := 7) q (by omega)) c_133
              have hin9 : vp_in x9 7 := by rw [ex9]; exact vp_in_nI hlt2 (by omega)
              refine lv_aload hx hb dX0_askedDefined_136 (lv_at hl 2 rfl) ?_
              refine lv_iload hx hb dX0_askedDefined_138 (lv_at hl 0 rfl) ?_
              refine va_iald hx hb hK hP 1 0 rfl rfl hin9 dX0_askedDefined_140 ?_
              refine lv_topi (fun bb e_bb => ?_)
              refine lv_istore (lv' := [(10, .int bb), (9, .int x9), (8, .int 7), (7, .ref ar), (6, .int aa), (5, .int x5), (4, .int 7), (3, .ref ar), (2, .ref ar), (1, .ref ob), (0, .ref b)]) hx hb dX0_askedDefined_141 hl (by decide) rfl (fun ls hl => ?_)
              refine lv_iload hx hb dX0_askedDefined_143 (lv_at hl 4 rfl) ?_
              refine lv_i2l (v := aa.toInt64) hx hb dX0_askedDefined_145 rfl ?_
              refine lv_bipush (v := 32) hx hb dX0_askedDefined_146 (by decide) ?_
              refine lv_lshl (v := (sl64 aa.toInt64 32)) hx hb dX0_askedDefined_148 rfl ?_
              refine lv_iload hx hb dX0_askedDefined_149 (lv_at hl 0 rfl) ?_
              refine lv_i2l (v := bb.toInt64) hx hb dX0_askedDefined_151 rfl ?_
              refine lv_ldc2 hx hb hown (hts _ q38) dX0_askedDefined_152 ?_
              refine lv_land hx hb dX0_askedDefined_155 ?_
              refine lv_lor hx hb dX0_askedDefined_156 ?_
              refine md_asl (v := md_wide aa bb) rfl ?_
              refine lv_lstore (lv' := [(11, .long (md_wide aa bb)), (10, .int bb), (9, .int x9), (8, .int 7), (7, .ref ar), (6, .int aa), (5, .int x5), (4, .int 7), (3, .ref ar), (2, .ref ar), (1, .ref ob), (0, .ref b)]) hx hb dX0_askedDefined_157 hl (by decide) rfl (fun ls hl => ?_)
              refine lv_aload_n hx hb dX0_askedDefined_159 rfl (lv_at hl 10 rfl) ?_
              refine lv_iload hx hb dX0_askedDefined_160 (lv_at hl 5 rfl) ?_
              refine lv_iload hx hb dX0_askedDefined_162 (lv_at hl 1 rfl) ?_
              refine pu_V 2 (b := ob) (As := [.int aa, .int bb]) (rest := []) ⟨hx, hb, hml, hown, hts⟩ (metX1_longMix l ob aa bb) (va_recv (ci := 0) (q0 := 0) hK hP rfl rfl) q39 q40 q41 q1 q42 (by decide +kernel) rfl ⟨Nat.le_of_ble_eq_true rfl, Nat.le_of_ble_eq_true rfl⟩ hl.1 rfl (Nat.le_of_ble_eq_true rfl) dX0_askedDefined_164 ⟨Nat.le_of_ble_eq_true rfl, Nat.le_of_ble_eq_true rfl⟩ ?_
              refine lv_lload hx hb dX0_askedDefined_167 (lv_at hl 0 rfl) ?_
              refine pu_S 1 (As := [.long (md_wide aa bb)]) (rest := [.long (md_mixL (md_wide aa bb))]) ⟨hx, hb, hml, hown, hts⟩ (metX0_askedMix_2 l (md_wide aa bb)) q112 q113 q0 q114 (by decide +kernel) rfl ⟨Nat.le_of_ble_eq_true rfl, Nat.le_of_ble_eq_true rfl⟩ hl.1 rfl (Nat.le_of_ble_eq_true rfl) dX0_askedDefined_169 ⟨Nat.le_of_ble_eq_true rfl, Nat.le_of_ble_eq_true rfl⟩ ?_
              refine W.lcmp hx hb dX0_askedDefined_172 ?_
              refine lv_if_ne (tgt := 210) hx hb dX0_askedDefined_173 (by decide) (fun c_173 => absurd ((lg_cmp_eq _ _).mpr rfl) c_173) (fun c_173 => ?_)
              refine lv_aload_n hx hb dX0_askedDefined_176 rfl (lv_at hl 10 rfl) ?_
              refine lv_iload hx hb dX0_askedDefined_177 (lv_at hl 5 rfl) ?_
              refine lv_iload hx hb dX0_askedDefined_179 (lv_at hl 1 rfl) ?_
              refine pu_V 2 (b := ob) (As := [.int aa, .int bb]) (rest := []) ⟨hx, hb, hml, hown, hts⟩ (metX1_longMurmur l ob aa bb) (va_recv (ci := 0) (q0 := 0) hK hP rfl rfl) q116 q117 q118 q1 q119 (by decide +kernel) rfl ⟨Nat.le_of_ble_eq_true rfl, Nat.le_of_ble_eq_true rfl⟩ hl.1 rfl (Nat.le_of_ble_eq_true rfl) dX0_askedDefined_181 ⟨Nat.le_of_ble_eq_true rfl, Nat.le_of_ble_eq_true rfl⟩ ?_
              refine lv_lload hx hb dX0_askedDefined_184 (lv_at hl 0 rfl) ?_
              refine pu_S 1 (As := [.long (md_wide aa bb)]) (rest := [.long (md_murL (md_wide aa bb))]) ⟨hx, hb, hml, hown, hts⟩ (metX0_askedMurmur_2 l (md_wide aa bb)) q125 q126 q0 q127 (by decide +kernel) rfl ⟨Nat.le_of_ble_eq_true rfl, Nat.le_of_ble_eq_true rfl⟩ hl.1 rfl (Nat.le_of_ble_eq_true rfl) dX0_askedDefined_186 ⟨Nat.le_of_ble_eq_true rfl, Nat.le_of_ble_eq_true rfl⟩ ?_
              refine W.lcmp hx hb dX0_askedDefined_189 ?_
              refine lv_if_ne (tgt := 210) hx hb dX0_askedDefined_190 (by decide) (fun c_190 => absurd ((lg_cmp_eq _ _).mpr rfl) c_190) (fun c_190 => ?_)
              refine lv_aload_n hx hb dX0_askedDefined_193 rfl (lv_at hl 10 rfl) ?_
              refine lv_iload hx hb dX0_askedDefined_194 (lv_at hl 5 rfl) ?_
              refine lv_iload hx hb dX0_askedDefined_196 (lv_at hl 1 rfl) ?_
              refine pu_V 2 (b := ob) (As := [.int aa, .int bb]) (rest := []) ⟨hx, hb, hml, hown, hts⟩ (metX1_longBack l ob aa bb) (va_recv (ci := 0) (q0 := 0) hK hP rfl rfl) q51 q52 q53 q1 q54 (by decide +kernel) rfl ⟨Nat.le_of_ble_eq_true rfl, Nat.le_of_ble_eq_true rfl⟩ hl.1 rfl (Nat.le_of_ble_eq_true rfl) dX0_askedDefined_198 ⟨Nat.le_of_ble_eq_true rfl, Nat.le_of_ble_eq_true rfl⟩ ?_
              refine pu_S 1 (As := [.long (md_invL (md_wide aa bb))]) (rest := []) ⟨hx, hb, hml, hown, hts⟩ (metX0_askedMix_2 l (md_invL (md_wide aa bb))) q112 q113 q0 q114 (by decide +kernel) rfl ⟨Nat.le_of_ble_eq_true rfl, Nat.le_of_ble_eq_true rfl⟩ hl.1 rfl (Nat.le_of_ble_eq_true rfl) dX0_askedDefined_201 ⟨Nat.le_of_ble_eq_true rfl, Nat.le_of_ble_eq_true rfl⟩ ?_
              refine lv_lload hx hb dX0_askedDefined_204 (lv_at hl 0 rfl) ?_
              refine W.lcmp hx hb dX0_askedDefined_206 ?_
              refine lv_if_eq (tgt := 212) hx hb dX0_askedDefined_207 (by decide) (fun c_207 => ?_) (fun c_207 => absurd ((lg_cmp_eq _ _).mpr (md_mixinvL _)) c_207)
              obtain ⟨x9_n, e_x9_n⟩ : ∃ y : Int32, y = x9 + 1 := ⟨_, rfl⟩
              refine lv_iinc (v := x9_n) (lv' := [(9, .int x9_n), (11, .long (md_wide aa bb)), (10, .int bb), (8, .int 7), (7, .ref ar), (6, .int aa), (5, .int x5), (4, .int 7), (3, .ref ar), (2, .ref ar), (1, .ref ob), (0, .ref b)]) hx hb dX0_askedDefined_212 hl (k := 2) rfl (by rw [e_x9_n]; rfl) (by decide) rfl (fun ls hl => ?_)
              refine lv_goto (tgt := 129) hx hb dX0_askedDefined_215 (by decide) ?_
              exact ih2 (j + 1) x9_n ls hlt2 (by omega) (by rw [e_x9_n, ex9]; exact nI_1 _) (lv_sub hl [0, 3, 4, 5, 6, 7, 8, 9, 10, 11] rfl)
        exact inner 8 0 0 ls (by decide) (by decide) nI_0.symm (lv_sub hl [0, 1, 2, 3, 4, 5, 6, 7, 8, 9] rfl)
  exact outer 8 0 0 ls (by decide) (by decide) nI_0.symm (lv_sub hl [0, 1, 2, 3, 4, 5] rfl)
end
section
/-! the law's third check (printed by gen/powers.py) -/
set_option maxHeartbeats 4000000 in
set_option maxRecDepth 100000 in
/-- the law's check askedPowers -/
theorem metX0_askedPowers (l : Launch) (b L sz : Nat) (xs : Nat → Int32) (hL : L < 2 ^ 31) : LmMet l yX0_askedPowers cX0_askedPowers 7 4 86 1 0 b L sz xs := by
  refine lm_met (by decide) (Nat.le_of_ble_eq_true rfl) ?_
  intro p e s m below meth c ls hx hb hr hlocks hml hown hts hX hl
  have hown : s.vm.findClass RX0 = some m.cls := hown
  have hbl := md_xlt hX
  have hA : ∀ q : Nat, s.heap.size ≤ q → (fun q : Nat => s.heap.size ≤ q) q := fun _ h => h
  have hl : lv_has ls 7 [(0, .ref b)] := hl
  obtain ⟨D, hK⟩ := lm_known hts
  refine lm_new hx hb (hml.trans hl.1.symm) hown hts hK (Nat.le_of_ble_eq_true rfl) (Nat.le_of_ble_eq_true rfl) (Nat.le_of_ble_eq_true rfl) (Nat.le_of_ble_eq_true rfl) dX0_askedPowers_0 dX0_askedPowers_3 dX0_askedPowers_4 (fun ob H hP hD hS => ?_)
  refine W.eq (g2 := F0 m 7 ls [.ref ob]) rfl ?_
  have hXH : va_X b L xs s H := hX.kept (hS.2.1 b hbl (Nat.not_le.mpr hbl))
  refine W.widen (k := 1) (n := 0) (Nat.le_refl _) (Nat.le_refl _) ?_
  refine lv_astore_n (lv' := [(1, .ref ob), (0, .ref b)]) hx hb dX0_askedPowers_7 rfl hl (by decide) rfl (fun ls hl => ?_)
  refine lv_aload_n hx hb dX0_askedPowers_8 rfl (lv_at hl 1 rfl) ?_
  refine lv_iconst (v := 0) hx hb dX0_askedPowers_9 (by decide) ?_
  refine pu_SX 2 (As := [.ref b, .int 0]) (rest := []) ⟨hx, hb, hml, hown, hts⟩ (metX0_askedCell l b L xs hL 0 0 (by decide) rfl) hXH q89 q90 q0 q91 (by decide +kernel) rfl ⟨Nat.le_of_ble_eq_true rfl, Nat.le_of_ble_eq_true rfl⟩ hl.1 rfl (Nat.le_of_ble_eq_true rfl) dX0_askedPowers_10 ⟨Nat.le_of_ble_eq_true rfl, Nat.le_of_ble_eq_true rfl⟩ ?_
  refine lv_topi (fun c0 e_c0 => ?_)
  refine lv_ldc hx hb hown (hts _ q134) dX0_askedPowers_13 ?_
  refine lv_iand hx hb dX0_askedPowers_15 ?_
  refine lv_istore_n (lv' := [(2, .int (c0 &&& (-1073741824))), (1, .ref ob), (0, .ref b)]) hx hb dX0_askedPowers_16 rfl hl (by decide) rfl (fun ls hl => ?_)
  refine lv_aload_n hx hb dX0_askedPowers_17 rfl (lv_at hl 1 rfl) ?_
  refine lv_iload_n hx hb dX0_askedPowers_18 rfl (lv_at hl 0 rfl) ?_
  refine pu_V 1 (b := ob) (As := [.int (c0 &&& (-1073741824))]) (rest := []) ⟨hx, hb, hml, hown, hts⟩ (metX1_power l ob (c0 &&& (-1073741824))) (va_recv (ci := 0) (q0 := 0) hK hP rfl rfl) q60 q61 q62 q1 q63 (by decide +kernel) rfl ⟨Nat.le_of_ble_eq_true rfl, Nat.le_of_ble_eq_true rfl⟩ hl.1 rfl (Nat.le_of_ble_eq_true rfl) dX0_askedPowers_19 ⟨Nat.le_of_ble_eq_true rfl, Nat.le_of_ble_eq_true rfl⟩ ?_
  refine lv_iconst (v := 1) hx hb dX0_askedPowers_22 (by decide) ?_
  refine lv_icmp_ne (tgt := 72) hx hb dX0_askedPowers_23 (by decide) (fun c_23 => absurd (md_p0 c0) c_23) (fun c_23 => ?_)
  refine lv_aload_n hx hb dX0_askedPowers_26 rfl (lv_at hl 1 rfl) ?_
  refine lv_ldc hx hb hown (hts _ q92) dX0_askedPowers_27 ?_
  refine lv_iconst (v := 0) hx hb dX0_askedPowers_29 (by decide) ?_
  refine pu_V 2 (b := ob) (As := [.int (-2147483648), .int 0]) (rest := []) ⟨hx, hb, hml, hown, hts⟩ (metX1_longPower l ob (-2147483648) 0) (va_recv (ci := 0) (q0 := 0) hK hP rfl rfl) q73 q74 q75 q1 q76 (by decide +kernel) rfl ⟨Nat.le_of_ble_eq_true rfl, Nat.le_of_ble_eq_true rfl⟩ hl.1 rfl (Nat.le_of_ble_eq_true rfl) dX0_askedPowers_30 ⟨Nat.le_of_ble_eq_true rfl, Nat.le_of_ble_eq_true rfl⟩ ?_
  refine lv_lconst (v := 1) hx hb dX0_askedPowers_33 (by decide) ?_
  refine W.lcmp hx hb dX0_askedPowers_34 ?_
  refine lv_if_ne (tgt := 72) hx hb dX0_askedPowers_35 (by decide) (fun c_35 => absurd ((lg_cmp_eq _ _).mpr md_tab0.2.2.1) c_35) (fun c_35 => ?_)
  refine lv_aload_n hx hb dX0_askedPowers_38 rfl (lv_at hl 1 rfl) ?_
  refine lv_ldc hx hb hown (hts _ q134) dX0_askedPowers_39 ?_
  refine lv_iconst (v := 0) hx hb dX0_askedPowers_41 (by decide) ?_
  refine pu_V 2 (b := ob) (As := [.int (-1073741824), .int 0]) (rest := []) ⟨hx, hb, hml, hown, hts⟩ (metX1_longPower l ob (-1073741824) 0) (va_recv (ci := 0) (q0 := 0) hK hP rfl rfl) q73 q74 q75 q1 q76 (by decide +kernel) rfl ⟨Nat.le_of_ble_eq_true rfl, Nat.le_of_ble_eq_true rfl⟩ hl.1 rfl (Nat.le_of_ble_eq_true rfl) dX0_askedPowers_42 ⟨Nat.le_of_ble_eq_true rfl, Nat.le_of_ble_eq_true rfl⟩ ?_
  refine lv_lconst (v := 1) hx hb dX0_askedPowers_45 (by decide) ?_
  refine W.lcmp hx hb dX0_askedPowers_46 ?_
  refine lv_if_ne (tgt := 72) hx hb dX0_askedPowers_47 (by decide) (fun c_47 => absurd ((lg_cmp_eq _ _).mpr md_tab0.2.2.2.1) c_47) (fun c_47 => ?_)
  refine lv_aload_n hx hb dX0_askedPowers_50 rfl (lv_at hl 1 rfl) ?_
  refine lv_iload_n hx hb dX0_askedPowers_51 rfl (lv_at hl 0 rfl) ?_
  refine lv_iconst (v := 1) hx hb dX0_askedPowers_52 (by decide) ?_
  refine lv_ior hx hb dX0_askedPowers_53 ?_
  refine pu_V 1 (b := ob) (As := [.int ((c0 &&& (-1073741824)) ||| 1)]) (rest := []) ⟨hx, hb, hml, hown, hts⟩ (metX1_power l ob ((c0 &&& (-1073741824)) ||| 1)) (va_recv (ci := 0) (q0 := 0) hK hP rfl rfl) q60 q61 q62 q1 q63 (by decide +kernel) rfl ⟨Nat.le_of_ble_eq_true rfl, Nat.le_of_ble_eq_true rfl⟩ hl.1 rfl (Nat.le_of_ble_eq_true rfl) dX0_askedPowers_54 ⟨Nat.le_of_ble_eq_true rfl, Nat.le_of_ble_eq_true rfl⟩ ?_
  refine lv_iconst (v := 1) hx hb dX0_askedPowers_57 (by decide) ?_
  refine lv_icmp_ne (tgt := 72) hx hb dX0_askedPowers_58 (by decide) (fun c_58 => absurd ((md_p1 c0 1).trans md_p11) c_58) (fun c_58 => ?_)
  refine lv_aload_n hx hb dX0_askedPowers_61 rfl (lv_at hl 1 rfl) ?_
  refine lv_iconst (v := 0) hx hb dX0_askedPowers_62 (by decide) ?_
  refine lv_iconst (v := 1) hx hb dX0_askedPowers_63 (by decide) ?_
  refine pu_V 2 (b := ob) (As := [.int 0, .int 1]) (rest := []) ⟨hx, hb, hml, hown, hts⟩ (metX1_longPower l ob 0 1) (va_recv (ci := 0) (q0 := 0) hK hP rfl rfl) q73 q74 q75 q1 q76 (by decide +kernel) rfl ⟨Nat.le_of_ble_eq_true rfl, Nat.le_of_ble_eq_true rfl⟩ hl.1 rfl (Nat.le_of_ble_eq_true rfl) dX0_askedPowers_64 ⟨Nat.le_of_ble_eq_true rfl, Nat.le_of_ble_eq_true rfl⟩ ?_
  refine lv_lconst (v := 1) hx hb dX0_askedPowers_67 (by decide) ?_
  refine W.lcmp hx hb dX0_askedPowers_68 ?_
  refine lv_if_eq (tgt := 74) hx hb dX0_askedPowers_69 (by decide) (fun c_69 => ?_) (fun c_69 => absurd ((lg_cmp_eq _ _).mpr md_tab0.2.2.2.2.1) c_69)
  have k260 : ∀ ls : Array Slot, lv_has ls 7 [(2, .int (c0 &&& (-1073741824))), (1, .ref ob), (0, .ref b)] → W p l e ({ frames := 4, cells := 1, slots := 0, locals := 86 } : Room) s m ([.ref b] : List Value).toArray below meth c H [] 1 0 (MQ below (va_Qi (fun (r : Int32) (_ : Unit) => r = 1) (fun _ _ => True) (fun q => s.heap.size ≤ q)) ([.ref b] : List Value).toArray s 1 0 (fun q => s.heap.size ≤ q)) (F0 m 260 ls []) := by
    intro ls hl
    refine lv_aload_n hx hb dX0_askedPowers_260 rfl (lv_at hl 1 rfl) ?_
    refine lv_iconst (v := (-1)) hx hb dX0_askedPowers_261 (by decide) ?_
    refine pu_V 1 (b := ob) (As := [.int (-1)]) (rest := []) ⟨hx, hb, hml, hown, hts⟩ (metX1_power l ob (-1)) (va_recv (ci := 0) (q0 := 0) hK hP rfl rfl) q60 q61 q62 q1 q63 (by decide +kernel) rfl ⟨Nat.le_of_ble_eq_true rfl, Nat.le_of_ble_eq_true rfl⟩ hl.1 rfl (Nat.le_of_ble_eq_true rfl) dX0_askedPowers_262 ⟨Nat.le_of_ble_eq_true rfl, Nat.le_of_ble_eq_true rfl⟩ ?_
    refine lv_ldc hx hb hown (hts _ q135) dX0_askedPowers_265 ?_
    refine lv_icmp_ne (tgt := 287) hx hb dX0_askedPowers_267 (by decide) (fun c_267 => absurd md_tab0.2.2.2.2.2.1 c_267) (fun c_267 => ?_)
    refine lv_aload_n hx hb dX0_askedPowers_270 rfl (lv_at hl 1 rfl) ?_
    refine lv_iconst (v := (-1)) hx hb dX0_askedPowers_271 (by decide) ?_
    refine lv_iconst (v := (-1)) hx hb dX0_askedPowers_272 (by decide) ?_
    refine pu_V 2 (b := ob) (As := [.int (-1), .int (-1)]) (rest := []) ⟨hx, hb, hml, hown, hts⟩ (metX1_longPower l ob (-1) (-1)) (va_recv (ci := 0) (q0 := 0) hK hP rfl rfl) q73 q74 q75 q1 q76 (by decide +kernel) rfl ⟨Nat.le_of_ble_eq_true rfl, Nat.le_of_ble_eq_true rfl⟩ hl.1 rfl (Nat.le_of_ble_eq_true rfl) dX0_askedPowers_273 ⟨Nat.le_of_ble_eq_true rfl, Nat.le_of_ble_eq_true rfl⟩ ?_
    refine lv_ldc2 hx hb hown (hts _ q136) dX0_askedPowers_276 ?_
    refine W.lcmp hx hb dX0_askedPowers_279 ?_
    refine lv_if_ne (tgt := 287) hx hb dX0_askedPowers_280 (by decide) (fun c_280 => absurd ((lg_cmp_eq _ _).mpr md_tab0.2.2.2.2.2.2) c_280) (fun c_280 => ?_)
    refine lv_iconst (v := 1) hx hb dX0_askedPowers_283 (by decide) ?_
    refine lv_goto (tgt := 288) hx hb dX0_askedPowers_284 (by decide) ?_
    exact lm_ret hx hb hr hlocks hS dX0_askedPowers_288
  have k148 : ∀ (n k : Nat) (ls : Array Slot), 1 ≤ k → k ≤ 62 → 63 ≤ k + n → lv_has ls 7 [(3, .int (nI k)), (2, .int (c0 &&& (-1073741824))), (1, .ref ob), (0, .ref b)] → W p l e ({ frames := 4, cells := 1, slots := 0, locals := 86 } : Room) s m ([.ref b] : List Value).toArray below meth c H [] 1 0 (MQ below (va_Qi (fun (r : Int32) (_ : Unit) => r = 1) (fun _ _ => True) (fun q => s.heap.size ≤ q)) ([.ref b] : List Value).toArray s 1 0 (fun q => s.heap.size ≤ q)) (F0 m 148 ls []) := by
    intro n
    induction n with
    | zero => exact fun k ls h0 h1 h2 => absurd h2 (by omega)
    | succ n ih =>
      intro k ls hk hi hin hl
      refine lv_iload_n hx hb dX0_askedPowers_148 rfl (lv_at hl 0 rfl) ?_
      refine lv_bipush (v := 62) hx hb dX0_askedPowers_149 (by decide) ?_
      refine lv_icmp_ge (tgt := 260) hx hb dX0_askedPowers_151 (by decide) (fun c_151 => ?_) (fun c_151 => ?_)
      · exact k260 ls (lv_sub hl [1, 2, 3] rfl)
      · have hlt : k < 62 := by
          rcases Nat.lt_or_ge k 62 with q | q
          · exact q
          · exact absurd (nI_le (a := 62) q (by omega)) c_151
        have T := md_tabL k hlt hk
        refine lv_lconst (v := 1) hx hb dX0_askedPowers_154 (by decide) ?_
        refine lv_iload_n hx hb dX0_askedPowers_155 rfl (lv_at hl 0 rfl) ?_
        refine lv_lshl (v := (sl64 1 (nI k))) hx hb dX0_askedPowers_156 rfl ?_
        refine lv_lstore (lv' := [(4, .long (sl64 1 (nI k))), (3, .int (nI k)), (2, .int (c0 &&& (-1073741824))), (1, .ref ob), (0, .ref b)]) hx hb dX0_askedPowers_157 hl (by decide) rfl (fun ls hl => ?_)
        refine lv_aload_n hx hb dX0_askedPowers_159 rfl (lv_at hl 4 rfl) ?_
        refine lv_iconst (v := 1) hx hb dX0_askedPowers_160 (by decide) ?_
        refine pu_SX 2 (As := [.ref b, .int 1]) (rest := []) ⟨hx, hb, hml, hown, hts⟩ (metX0_askedCell l b L xs hL 1 1 (by decide) rfl) hXH q89 q90 q0 q91 (by decide +kernel) rfl ⟨Nat.le_of_ble_eq_true rfl, Nat.le_of_ble_eq_true rfl⟩ hl.1 rfl (Nat.le_of_ble_eq_true rfl) dX0_askedPowers_161 ⟨Nat.le_of_ble_eq_true rfl, Nat.le_of_ble_eq_true rfl⟩ ?_
        refine lv_topi (fun c1 e_c1 => ?_)
        refine lv_ldc hx hb hown (hts _ q134) dX0_askedPowers_164 ?_
        refine lv_iand hx hb dX0_askedPowers_166 ?_
        refine lv_istore (lv' := [(6, .int (c1 &&& (-1073741824))), (4, .long (sl64 1 (nI k))), (3, .int (nI k)), (2, .int (c0 &&& (-1073741824))), (1, .ref ob), (0, .ref b)]) hx hb dX0_askedPowers_167 hl (by decide) rfl (fun ls hl => ?_)
        refine lv_aload_n hx hb dX0_askedPowers_169 rfl (lv_at hl 4 rfl) ?_
        refine lv_lload hx hb dX0_askedPowers_170 (lv_at hl 1 rfl) ?_
        refine lv_bipush (v := 32) hx hb dX0_askedPowers_172 (by decide) ?_
        refine lv_lshr (v := (sr64 (sl64 1 (nI k)) 32)) hx hb dX0_askedPowers_174 rfl ?_
        refine lv_l2i (v := (sr64 (sl64 1 (nI k)) 32).toInt32) hx hb dX0_askedPowers_175 rfl ?_
        refine lv_iload hx hb dX0_askedPowers_176 (lv_at hl 0 rfl) ?_
        refine lv_ior hx hb dX0_askedPowers_178 ?_
        refine lv_lload hx hb dX0_askedPowers_179 (lv_at hl 1 rfl) ?_
        refine lv_l2i (v := (sl64 1 (nI k)).toInt32) hx hb dX0_askedPowers_181 rfl ?_
        refine pu_V 2 (b := ob) (As := [.int ((sr64 (sl64 1 (nI k)) 32).toInt32 ||| (c1 &&& (-1073741824))), .int ((sl64 1 (nI k)).toInt32)]) (rest := []) ⟨hx, hb, hml, hown, hts⟩ (metX1_longPower l ob ((sr64 (sl64 1 (nI k)) 32).toInt32 ||| (c1 &&& (-1073741824))) ((sl64 1 (nI k)).toInt32)) (va_recv (ci := 0) (q0 := 0) hK hP rfl rfl) q73 q74 q75 q1 q76 (by decide +kernel) rfl ⟨Nat.le_of_ble_eq_true rfl, Nat.le_of_ble_eq_true rfl⟩ hl.1 rfl (Nat.le_of_ble_eq_true rfl) dX0_askedPowers_182 ⟨Nat.le_of_ble_eq_true rfl, Nat.le_of_ble_eq_true rfl⟩ ?_
        refine lv_lload hx hb dX0_askedPowers_185 (lv_at hl 1 rfl) ?_
        refine W.lcmp hx hb dX0_askedPowers_187 ?_
        refine lv_if_ne (tgt := 252) hx hb dX0_askedPowers_188 (by decide) (fun c_188 => absurd ((lg_cmp_eq _ _).mpr ((md_p2 _ _).trans T.1)) c_188) (fun c_188 => ?_)
        refine lv_aload_n hx hb dX0_askedPowers_191 rfl (lv_at hl 4 rfl) ?_
        refine lv_lload hx hb dX0_askedPowers_192 (lv_at hl 1 rfl) ?_
        refine lv_lconst (v := 1) hx hb dX0_askedPowers_194 (by decide) ?_
        refine lv_ladd hx hb dX0_askedPowers_195 ?_
        refine lv_bipush (v := 32) hx hb dX0_askedPowers_196 (by decide) ?_
        refine lv_lshr (v := (sr64 ((sl64 1 (nI k)) + 1) 32)) hx hb dX0_askedPowers_198 rfl ?_
        refine lv_l2i (v := (sr64 ((sl64 1 (nI k)) + 1) 32).toInt32) hx hb dX0_askedPowers_199 rfl ?_
        refine lv_iload hx hb dX0_askedPowers_200 (lv_at hl 0 rfl) ?_
        refine lv_ior hx hb dX0_askedPowers_202 ?_
        refine lv_lload hx hb dX0_askedPowers_203 (lv_at hl 1 rfl) ?_
        refine lv_lconst (v := 1) hx hb dX0_askedPowers_205 (by decide) ?_
        refine lv_ladd hx hb dX0_askedPowers_206 ?_
        refine lv_l2i (v := ((sl64 1 (nI k)) + 1).toInt32) hx hb dX0_askedPowers_207 rfl ?_
        refine pu_V 2 (b := ob) (As := [.int ((sr64 ((sl64 1 (nI k)) + 1) 32).toInt32 ||| (c1 &&& (-1073741824))), .int (((sl64 1 (nI k)) + 1).toInt32)]) (rest := []) ⟨hx, hb, hml, hown, hts⟩ (metX1_longPower l ob ((sr64 ((sl64 1 (nI k)) + 1) 32).toInt32 ||| (c1 &&& (-1073741824))) (((sl64 1 (nI k)) + 1).toInt32)) (va_recv (ci := 0) (q0 := 0) hK hP rfl rfl) q73 q74 q75 q1 q76 (by decide +kernel) rfl ⟨Nat.le_of_ble_eq_true rfl, Nat.le_of_ble_eq_true rfl⟩ hl.1 rfl (Nat.le_of_ble_eq_true rfl) dX0_askedPowers_208 ⟨Nat.le_of_ble_eq_true rfl, Nat.le_of_ble_eq_true rfl⟩ ?_
        refine lv_ldc2 hx hb hown (hts _ q85) dX0_askedPowers_211 ?_
        refine lv_lload hx hb dX0_askedPowers_214 (lv_at hl 1 rfl) ?_
        refine lv_lmul hx hb dX0_askedPowers_216 ?_
        refine W.lcmp hx hb dX0_askedPowers_217 ?_
        refine lv_if_ne (tgt := 252) hx hb dX0_askedPowers_218 (by decide) (fun c_218 => absurd ((lg_cmp_eq _ _).mpr ((md_p2 _ _).trans T.2.2)) c_218) (fun c_218 => ?_)
        refine lv_iload_n hx hb dX0_askedPowers_221 rfl (lv_at hl 2 rfl) ?_
        refine lv_iconst (v := 1) hx hb dX0_askedPowers_222 (by decide) ?_
        have k254 : ∀ ls : Array Slot, lv_has ls 7 [(6, .int (c1 &&& (-1073741824))), (4, .long (sl64 1 (nI k))), (3, .int (nI k)), (2, .int (c0 &&& (-1073741824))), (1, .ref ob), (0, .ref b)] → W p l e ({ frames := 4, cells := 1, slots := 0, locals := 86 } : Room) s m ([.ref b] : List Value).toArray below meth c H [] 1 0 (MQ below (va_Qi (fun (r : Int32) (_ : Unit) => r = 1) (fun _ _ => True) (fun q => s.heap.size ≤ q)) ([.ref b] : List Value).toArray s 1 0 (fun q => s.heap.size ≤ q)) (F0 m 254 ls []) := by
          intro ls hl
          refine lv_iinc (v := nI (k + 1)) (lv' := [(3, .int (nI (k + 1))), (6, .int (c1 &&& (-1073741824))), (4, .long (sl64 1 (nI k))), (2, .int (c0 &&& (-1073741824))), (1, .ref ob), (0, .ref b)]) hx hb dX0_askedPowers_254 hl (k := 2) rfl (nI_1 k) (by decide) rfl (fun ls hl => ?_)
          refine lv_goto (tgt := 148) hx hb dX0_askedPowers_257 (by decide) ?_
          exact ih (k + 1) ls (by omega) hlt (by omega) (lv_sub hl [0, 3, 4, 5] rfl)
        refine lv_icmp_le (tgt := 254) hx hb dX0_askedPowers_223 (by decide) (fun c_223 => ?_) (fun c_223 => ?_)
        · exact k254 ls hl
        · have hk1 : 1 < k := by
            rcases Nat.lt_or_ge 1 k with q | q
            · exact q
            · exact absurd (nI_le (b := 1) q (by decide)) c_223
          refine lv_aload_n hx hb dX0_askedPowers_226 rfl (lv_at hl 4 rfl) ?_
          refine lv_lload hx hb dX0_askedPowers_227 (lv_at hl 1 rfl) ?_
          refine lv_lconst (v := 1) hx hb dX0_askedPowers_229 (by decide) ?_
          refine lv_lsub hx hb dX0_askedPowers_230 ?_
          refine lv_bipush (v := 32) hx hb dX0_askedPowers_231 (by decide) ?_
          refine lv_lshr (v := (sr64 ((sl64 1 (nI k)) - 1) 32)) hx hb dX0_askedPowers_233 rfl ?_
          refine lv_l2i (v := (sr64 ((sl64 1 (nI k)) - 1) 32).toInt32) hx hb dX0_askedPowers_234 rfl ?_
          refine lv_iload hx hb dX0_askedPowers_235 (lv_at hl 0 rfl) ?_
          refine lv_ior hx hb dX0_askedPowers_237 ?_
          refine lv_lload hx hb dX0_askedPowers_238 (lv_at hl 1 rfl) ?_
          refine lv_lconst (v := 1) hx hb dX0_askedPowers_240 (by decide) ?_
          refine lv_lsub hx hb dX0_askedPowers_241 ?_
          refine lv_l2i (v := ((sl64 1 (nI k)) - 1).toInt32) hx hb dX0_askedPowers_242 rfl ?_
          refine pu_V 2 (b := ob) (As := [.int ((sr64 ((sl64 1 (nI k)) - 1) 32).toInt32 ||| (c1 &&& (-1073741824))), .int (((sl64 1 (nI k)) - 1).toInt32)]) (rest := []) ⟨hx, hb, hml, hown, hts⟩ (metX1_longPower l ob ((sr64 ((sl64 1 (nI k)) - 1) 32).toInt32 ||| (c1 &&& (-1073741824))) (((sl64 1 (nI k)) - 1).toInt32)) (va_recv (ci := 0) (q0 := 0) hK hP rfl rfl) q73 q74 q75 q1 q76 (by decide +kernel) rfl ⟨Nat.le_of_ble_eq_true rfl, Nat.le_of_ble_eq_true rfl⟩ hl.1 rfl (Nat.le_of_ble_eq_true rfl) dX0_askedPowers_243 ⟨Nat.le_of_ble_eq_true rfl, Nat.le_of_ble_eq_true rfl⟩ ?_
          refine lv_lload hx hb dX0_askedPowers_246 (lv_at hl 1 rfl) ?_
          refine W.lcmp hx hb dX0_askedPowers_248 ?_
          refine lv_if_eq (tgt := 254) hx hb dX0_askedPowers_249 (by decide) (fun c_249 => ?_) (fun c_249 => absurd ((lg_cmp_eq _ _).mpr ((md_p2 _ _).trans (T.2.1 hk1))) c_249)
          exact k254 ls hl
  have k146 : ∀ ls : Array Slot, lv_has ls 7 [(2, .int (c0 &&& (-1073741824))), (1, .ref ob), (0, .ref b)] → W p l e ({ frames := 4, cells := 1, slots := 0, locals := 86 } : Room) s m ([.ref b] : List Value).toArray below meth c H [] 1 0 (MQ below (va_Qi (fun (r : Int32) (_ : Unit) => r = 1) (fun _ _ => True) (fun q => s.heap.size ≤ q)) ([.ref b] : List Value).toArray s 1 0 (fun q => s.heap.size ≤ q)) (F0 m 146 ls []) := by
    intro ls hl
    refine lv_iconst (v := 1) hx hb dX0_askedPowers_146 (by decide) ?_
    refine lv_istore_n (lv' := [(3, .int 1), (2, .int (c0 &&& (-1073741824))), (1, .ref ob), (0, .ref b)]) hx hb dX0_askedPowers_147 rfl hl (by decide) rfl (fun ls hl => ?_)
    exact k148 62 1 ls (by decide) (by decide) (by decide) (lv_sub hl [0, 1, 2, 3] rfl)
  have k76 : ∀ (n k : Nat) (ls : Array Slot), 1 ≤ k → k ≤ 30 → 31 ≤ k + n → lv_has ls 7 [(3, .int (nI k)), (2, .int (c0 &&& (-1073741824))), (1, .ref ob), (0, .ref b)] → W p l e ({ frames := 4, cells := 1, slots := 0, locals := 86 } : Room) s m ([.ref b] : List Value).toArray below meth c H [] 1 0 (MQ below (va_Qi (fun (r : Int32) (_ : Unit) => r = 1) (fun _ _ => True) (fun q => s.heap.size ≤ q)) ([.ref b] : List Value).toArray s 1 0 (fun q => s.heap.size ≤ q)) (F0 m 76 ls []) := by
    intro n
    induction n with
    | zero => exact fun k ls h0 h1 h2 => absurd h2 (by omega)
    | succ n ih =>
      intro k ls hk hi hin hl
      refine lv_iload_n hx hb dX0_askedPowers_76 rfl (lv_at hl 0 rfl) ?_
      refine lv_bipush (v := 30) hx hb dX0_askedPowers_77 (by decide) ?_
      refine lv_icmp_ge (tgt := 146) hx hb dX0_askedPowers_79 (by decide) (fun c_79 => ?_) (fun c_79 => ?_)
      · exact k146 ls (lv_sub hl [1, 2, 3] rfl)
      · have hlt : k < 30 := by
          rcases Nat.lt_or_ge k 30 with q | q
          · exact q
          · exact absurd (nI_le (a := 30) q (by omega)) c_79
        have T := md_tabI k hlt hk
        refine lv_aload_n hx hb dX0_askedPowers_82 rfl (lv_at hl 2 rfl) ?_
        refine lv_iload_n hx hb dX0_askedPowers_83 rfl (lv_at hl 1 rfl) ?_
        refine lv_iconst (v := 1) hx hb dX0_askedPowers_84 (by decide) ?_
        refine lv_iload_n hx hb dX0_askedPowers_85 rfl (lv_at hl 0 rfl) ?_
        refine lv_ishl hx hb dX0_askedPowers_86 ?_
        refine lv_ior hx hb dX0_askedPowers_87 ?_
        refine pu_V 1 (b := ob) (As := [.int ((c0 &&& (-1073741824)) ||| ((1 : Int32) <<< (nI k &&& 31)))]) (rest := []) ⟨hx, hb, hml, hown, hts⟩ (metX1_power l ob ((c0 &&& (-1073741824)) ||| ((1 : Int32) <<< (nI k &&& 31)))) (va_recv (ci := 0) (q0 := 0) hK hP rfl rfl) q60 q61 q62 q1 q63 (by decide +kernel) rfl ⟨Nat.le_of_ble_eq_true rfl, Nat.le_of_ble_eq_true rfl⟩ hl.1 rfl (Nat.le_of_ble_eq_true rfl) dX0_askedPowers_88 ⟨Nat.le_of_ble_eq_true rfl, Nat.le_of_ble_eq_true rfl⟩ ?_
        refine lv_iconst (v := 1) hx hb dX0_askedPowers_91 (by decide) ?_
        refine lv_iload_n hx hb dX0_askedPowers_92 rfl (lv_at hl 0 rfl) ?_
        refine lv_ishl hx hb dX0_askedPowers_93 ?_
        refine lv_icmp_ne (tgt := 138) hx hb dX0_askedPowers_94 (by decide) (fun c_94 => absurd ((md_p1 c0 _).trans T.1) c_94) (fun c_94 => ?_)
        refine lv_iload_n hx hb dX0_askedPowers_97 rfl (lv_at hl 0 rfl) ?_
        refine lv_iconst (v := 1) hx hb dX0_askedPowers_98 (by decide) ?_
        have k119 : ∀ ls : Array Slot, lv_has ls 7 [(3, .int (nI k)), (2, .int (c0 &&& (-1073741824))), (1, .ref ob), (0, .ref b)] → W p l e ({ frames := 4, cells := 1, slots := 0, locals := 86 } : Room) s m ([.ref b] : List Value).toArray below meth c H [] 1 0 (MQ below (va_Qi (fun (r : Int32) (_ : Unit) => r = 1) (fun _ _ => True) (fun q => s.heap.size ≤ q)) ([.ref b] : List Value).toArray s 1 0 (fun q => s.heap.size ≤ q)) (F0 m 119 ls []) := by
          intro ls hl
          refine lv_aload_n hx hb dX0_askedPowers_119 rfl (lv_at hl 2 rfl) ?_
          refine lv_iload_n hx hb dX0_askedPowers_120 rfl (lv_at hl 1 rfl) ?_
          refine lv_iconst (v := 1) hx hb dX0_askedPowers_121 (by decide) ?_
          refine lv_iload_n hx hb dX0_askedPowers_122 rfl (lv_at hl 0 rfl) ?_
          refine lv_ishl hx hb dX0_askedPowers_123 ?_
          refine lv_iconst (v := 1) hx hb dX0_askedPowers_124 (by decide) ?_
          refine lv_iadd hx hb dX0_askedPowers_125 ?_
          refine lv_ior hx hb dX0_askedPowers_126 ?_
          refine pu_V 1 (b := ob) (As := [.int ((c0 &&& (-1073741824)) ||| (((1 : Int32) <<< (nI k &&& 31)) + 1))]) (rest := []) ⟨hx, hb, hml, hown, hts⟩ (metX1_power l ob ((c0 &&& (-1073741824)) ||| (((1 : Int32) <<< (nI k &&& 31)) + 1))) (va_recv (ci := 0) (q0 := 0) hK hP rfl rfl) q60 q61 q62 q1 q63 (by decide +kernel) rfl ⟨Nat.le_of_ble_eq_true rfl, Nat.le_of_ble_eq_true rfl⟩ hl.1 rfl (Nat.le_of_ble_eq_true rfl) dX0_askedPowers_127 ⟨Nat.le_of_ble_eq_true rfl, Nat.le_of_ble_eq_true rfl⟩ ?_
          refine lv_iconst (v := 1) hx hb dX0_askedPowers_130 (by decide) ?_
          refine lv_iload_n hx hb dX0_askedPowers_131 rfl (lv_at hl 0 rfl) ?_
          refine lv_iconst (v := 1) hx hb dX0_askedPowers_132 (by decide) ?_
          refine lv_iadd hx hb dX0_askedPowers_133 ?_
          refine lv_ishl hx hb dX0_askedPowers_134 ?_
          refine lv_icmp_eq (tgt := 140) hx hb dX0_askedPowers_135 (by decide) (fun c_135 => ?_) (fun c_135 => absurd ((md_p1 c0 _).trans T.2.2) c_135)
          refine lv_iinc (v := nI (k + 1)) (lv' := [(3, .int (nI (k + 1))), (2, .int (c0 &&& (-1073741824))), (1, .ref ob), (0, .ref b)]) hx hb dX0_askedPowers_140 hl (k := 0) rfl (nI_1 k) (by decide) rfl (fun ls hl => ?_)
          refine lv_goto (tgt := 76) hx hb dX0_askedPowers_143 (by decide) ?_
          exact ih (k + 1) ls (by omega) hlt (by omega) (lv_sub hl [0, 1, 2, 3] rfl)
        refine lv_icmp_le (tgt := 119) hx hb dX0_askedPowers_99 (by decide) (fun c_99 => ?_) (fun c_99 => ?_)
        · exact k119 ls hl
        · have hk1 : 1 < k := by
            rcases Nat.lt_or_ge 1 k with q | q
            · exact q
            · exact absurd (nI_le (b := 1) q (by decide)) c_99
          refine lv_aload_n hx hb dX0_askedPowers_102 rfl (lv_at hl 2 rfl) ?_
          refine lv_iload_n hx hb dX0_askedPowers_103 rfl (lv_at hl 1 rfl) ?_
          refine lv_iconst (v := 1) hx hb dX0_askedPowers_104 (by decide) ?_
          refine lv_iload_n hx hb dX0_askedPowers_105 rfl (lv_at hl 0 rfl) ?_
          refine lv_ishl hx hb dX0_askedPowers_106 ?_
          refine lv_iconst (v := 1) hx hb dX0_askedPowers_107 (by decide) ?_
          refine lv_isub hx hb dX0_askedPowers_108 ?_
          refine lv_ior hx hb dX0_askedPowers_109 ?_
          refine pu_V 1 (b := ob) (As := [.int ((c0 &&& (-1073741824)) ||| (((1 : Int32) <<< (nI k &&& 31)) - 1))]) (rest := []) ⟨hx, hb, hml, hown, hts⟩ (metX1_power l ob ((c0 &&& (-1073741824)) ||| (((1 : Int32) <<< (nI k &&& 31)) - 1))) (va_recv (ci := 0) (q0 := 0) hK hP rfl rfl) q60 q61 q62 q1 q63 (by decide +kernel) rfl ⟨Nat.le_of_ble_eq_true rfl, Nat.le_of_ble_eq_true rfl⟩ hl.1 rfl (Nat.le_of_ble_eq_true rfl) dX0_askedPowers_110 ⟨Nat.le_of_ble_eq_true rfl, Nat.le_of_ble_eq_true rfl⟩ ?_
          refine lv_iconst (v := 1) hx hb dX0_askedPowers_113 (by decide) ?_
          refine lv_iload_n hx hb dX0_askedPowers_114 rfl (lv_at hl 0 rfl) ?_
          refine lv_ishl hx hb dX0_askedPowers_115 ?_
          refine lv_icmp_ne (tgt := 138) hx hb dX0_askedPowers_116 (by decide) (fun c_116 => absurd ((md_p1 c0 _).trans (T.2.1 hk1)) c_116) (fun c_116 => ?_)
          exact k119 ls hl
  refine lv_iconst (v := 1) hx hb dX0_askedPowers_74 (by decide) ?_
  refine lv_istore_n (lv' := [(3, .int 1), (2, .int (c0 &&& (-1073741824))), (1, .ref ob), (0, .ref b)]) hx hb dX0_askedPowers_75 rfl hl (by decide) rfl (fun ls hl => ?_)
  exact k76 30 1 ls (by decide) (by decide) (by decide) (lv_sub hl [0, 1, 2, 3] rfl)
end
section
/-! THE CLAIM OUT OF ONE WALK OF THE LAW'S BODY. Your part is whole_start (and what it stands on); all else here is the same for every law, but numbers. -/
def R_law : String := "MixDeskLaw"
def lw_P (b : Addr) (xs : List Int32) (args : Array Value) (s : State) : Prop := args = #[.ref b] ∧ s.IntsAt b xs ∧ xs.length ≤ 2 ∧ (Jvm.Cond.and given_1 narrow_1).before args s = true
def lw_Q (_ : Array Value) (s : State) (o : Outcome) (t : State) : Prop := o = .returned (some (.int 1)) ∧ Framed s o t [] 1200000 5502250
def lw_Z (below : List Frame) (a : Array Value) (s : State) : State → Prop := fun t => ∃ o, t.status = .running ∧ Ended t below o ∧ lw_Q a s o t
/-- the law's own end, with 1 on the stack, nothing written that was there before, its room as the claim has it -/
theorem lw_ret {p : Program} {l : Launch} {e : Env} {s : State} {m : MethodId} {below : List Frame} {meth : Method} {c : Code} {b : Nat} (hx : p.tables.exec = Jvm.exec) (hb : c.code = code) (hr : meth.sig.returnType = ret) (hlocks : meth.locks = false) {pc : Nat} {H : Heap} {ls : Array Slot} (hdg : decode code pc = .ok (.ireturn, 1)) : W p l e room_1 s m #[Value.ref b] below meth c H [] 1200000 5502250 (lw_Z below #[Value.ref b] s) (F0 m pc ls [.int 1]) := by
  intro T hT X
  obtain ⟨fs, hret, hrun, hended, hW, hframe⟩ := X.leave (v := some (.int 1)) (hlocks := hlocks) (fun h => by rw [hr] at h; cases h)
  have hmeth' : T.vm.method? m = some meth := X.method'
  refine ⟨T.setFrames fs, ?_, .returned (some (.int 1)), hrun, hended, rfl, ⟨_, rfl⟩, hW, hframe⟩
  jvm_step X.here [X.here.top, hx, hb, hdg, hmeth', hr, ret, narrow_b1]
  (try refine ⟨rfl, ?_⟩); (try refine ⟨rfl, ?_⟩)
  first | (intro acts; rw [hret _ acts rfl rfl rfl]) | rw [hret _ _ rfl rfl rfl]
  exact Steps.refl _
/-- what holds at the law's entry: the machine, the code, the tables' words (any of lw_tbl by 'hts w (by decide +kernel)'), the script of L ints xs at the cell b, what the Statement gives of the start (any of its parts by flat_of_before) -/
def lw_At (p : Program) (s : State) (m : MethodId) (meth : Method) (c : Code) (b L : Nat) (xs : Nat → Int32) : Prop :=
  p.tables.exec = Jvm.exec ∧ c.code = code ∧ meth.sig.returnType = ret ∧ c.maxLocals = 1 ∧ s.vm.findClass R_law = some m.cls ∧ (∀ w ∈ lw_tbl, w.before #[Value.ref b] s = true) ∧ va_X b L xs s s.heap ∧ b < s.heap.size ∧ meth.locks = false ∧ (Jvm.Cond.and given_1 narrow_1).before #[Value.ref b] s = true
-- ===== YOUR PART BEGINS =====
set_option maxHeartbeats 4000000 in
set_option maxRecDepth 100000 in
/-- YOUR PART: from the entry, for every script of at most 2 ints, the law comes to its end with true ('hflags': the launch's flags, for a law that throws: no stack traces) -/
theorem whole_start {p : Program} {e : Env} {s : State} {m : MethodId} {below : List Frame} {meth : Method} {c : Code} (l : Launch) (hflags : l.flags = flags0) {b L : Nat} {xs : Nat → Int32} (hL : L ≤ 2) (C0 : lw_At p s m meth c b L xs) : W p l e room_1 s m #[Value.ref b] below meth c s.heap [] 0 0 (lw_Z below #[Value.ref b] s) (entryFrame m ([Value.ref b] : List Value).toArray 1) := by
  obtain ⟨hx, hb, hr, hml, hown, hts0, hX, hbl, hlocks, hgv⟩ := id C0
  have hts : ∀ w ∈ lw_all, w.before ([.ref b] : List Value).toArray s = true := fun w h => hts0 w (lw_all_tbl h)
  have hL2 : L < 2 ^ 31 := by omega
  have hl := lv_entry ([.ref b]) (n := 1) (Nat.le_of_ble_eq_true rfl)
  rw [lg_entry_eq]
  generalize (lg_sl ([.ref b]) ++ List.replicate (1 - (lg_sl ([.ref b])).length) Slot.unset).toArray = ls at hl ⊢
  have hl : lv_has ls 1 [(0, .ref b)] := hl
  have hS : va_S (fun q : Nat => s.heap.size ≤ q) s.heap s.heap [] := va_S.rf
  have hXH : va_X b L xs s s.heap := hX
  refine lv_aload_n hx hb dL_law_0 rfl (lv_at hl 0 rfl) ?_
  refine va_calli (va_runS (As := [.ref b]) (rest := []) ⟨hx, hb, hml, hown, hts⟩ (metX0_elder l b L s.heap.size xs hL2) (va_cwS 1 hts (lw_S q6 q7 q0 q8) rfl rfl rfl (by decide +kernel) ⟨(Nat.le_of_ble_eq_true rfl), (Nat.le_of_ble_eq_true rfl)⟩) ⟨fun a U g mk q => ⟨q.1, q.2.1, va_X.moved (u := U) (U := U.calling g mk a) (Vm.Alike.refl U.vm) q.2.2⟩, fun U hU hW => ⟨rfl, by rw [hU], by rw [hU]; exact va_X.moved hW.alike hXH⟩⟩ rfl rfl hl.1 rfl (lv_room (Nat.le_of_ble_eq_true rfl)) dL_law_1 ⟨(Nat.le_of_ble_eq_true rfl), (Nat.le_of_ble_eq_true rfl)⟩) hS (fun q _ h => Nat.le_trans hS.1 h) (fun q h => Nat.le_trans hS.1 h) (fun r u t H locs ht hvm hp hB hz hk hS => ?_)
  subst hp
  have hXH : va_X b L xs s H := hX.kept (hS.2.1 b hbl (Nat.not_le.mpr hbl))
  refine lv_if_eq (tgt := 25) hx hb dL_law_4 (by decide) (fun c_4 => absurd c_4 (by decide)) (fun c_4 => ?_)
  refine lv_aload_n hx hb dL_law_7 rfl (lv_at hl 0 rfl) ?_
  refine va_calli (va_runS (As := [.ref b]) (rest := []) ⟨hx, hb, hml, hown, hts⟩ (metX0_askedDefined l b L H.size xs hL2) (va_cwS 1 hts (lw_S q86 q87 q0 q88) rfl rfl rfl (by decide +kernel) ⟨(Nat.le_of_ble_eq_true rfl), (Nat.le_of_ble_eq_true rfl)⟩) ⟨fun a U g mk q => ⟨q.1, q.2.1, va_X.moved (u := U) (U := U.calling g mk a) (Vm.Alike.refl U.vm) q.2.2⟩, fun U hU hW => ⟨rfl, by rw [hU], by rw [hU]; exact va_X.moved hW.alike hXH⟩⟩ rfl rfl hl.1 rfl (lv_room (Nat.le_of_ble_eq_true rfl)) dL_law_8 ⟨(Nat.le_of_ble_eq_true rfl), (Nat.le_of_ble_eq_true rfl)⟩) hS (fun q _ h => Nat.le_trans hS.1 h) (fun q h => Nat.le_trans hS.1 h) (fun r u t H locs ht hvm hp hB hz hk hS => ?_)
  subst hp
  have hXH : va_X b L xs s H := hX.kept (hS.2.1 b hbl (Nat.not_le.mpr hbl))
  refine lv_if_eq (tgt := 25) hx hb dL_law_11 (by decide) (fun c_11 => absurd c_11 (by decide)) (fun c_11 => ?_)
  refine lv_aload_n hx hb dL_law_14 rfl (lv_at hl 0 rfl) ?_
  refine va_calli (va_runS (As := [.ref b]) (rest := []) ⟨hx, hb, hml, hown, hts⟩ (metX0_askedPowers l b L H.size xs hL2) (va_cwS 1 hts (lw_S q131 q132 q0 q133) rfl rfl rfl (by decide +kernel) ⟨(Nat.le_of_ble_eq_true rfl), (Nat.le_of_ble_eq_true rfl)⟩) ⟨fun a U g mk q => ⟨q.1, q.2.1, va_X.moved (u := U) (U := U.calling g mk a) (Vm.Alike.refl U.vm) q.2.2⟩, fun U hU hW => ⟨rfl, by rw [hU], by rw [hU]; exact va_X.moved hW.alike hXH⟩⟩ rfl rfl hl.1 rfl (lv_room (Nat.le_of_ble_eq_true rfl)) dL_law_15 ⟨(Nat.le_of_ble_eq_true rfl), (Nat.le_of_ble_eq_true rfl)⟩) hS (fun q _ h => Nat.le_trans hS.1 h) (fun q h => Nat.le_trans hS.1 h) (fun r u t H locs ht hvm hp hB hz hk hS => ?_)
  subst hp
  refine lv_if_eq (tgt := 25) hx hb dL_law_18 (by decide) (fun c_18 => absurd c_18 (by decide)) (fun c_18 => ?_)
  refine lv_iconst (v := 1) hx hb dL_law_21 (by decide) ?_
  refine lv_goto (tgt := 26) hx hb dL_law_22 (by decide) ?_
  refine va_forget (fun q hq => hS.2.2 q hq) ?_
  refine W.widen (k := 1200000) (n := 5502250) (Nat.le_of_ble_eq_true rfl) (Nat.le_of_ble_eq_true rfl) ?_
  exact lw_ret hx hb hr hlocks dL_law_26
-- ===== YOUR PART ENDS =====
set_option maxHeartbeats 4000000 in
theorem lw_walk (l : Launch) (hflags : l.flags = flags0) (b : Addr) (xs : List Int32) : MetFree l x (headSpec (Jvm.Cond.code x code maxLocals ret :: tables_1) room_1) (lw_P b xs) (fun _ _ _ _ _ => True) lw_Q := by
  refine MetFree.of_bodyS (code := code) (maxLocals := maxLocals) (ret := ret) (by decide) ?_ ?_
  · intro args s m h hn
    obtain ⟨meth, c, h1, h2, h3, h4, h5, h6, -, -⟩ := Cond.code_spec hn (atoms_spec (ws := Jvm.Cond.code x code maxLocals ret :: tables_1) h _ List.mem_cons_self)
    exact ⟨meth, c, h1, h2, h3, h4, h5, h6⟩
  · intro p e s m args below meth c s₁ B hml0 hP _
    obtain ⟨rfl, hx, hbd, hgv⟩ := hP
    obtain ⟨scr, harrAt, hlist, hof, hsmall⟩ := hx
    obtain ⟨hcb, hkn, -, -⟩ := State.arrayAt?_spec harrAt
    have hown : s.vm.findClass R_law = some m.cls := findClass_of_methodNamed B.named
    have hts0 : ∀ c ∈ (Jvm.Cond.code x code maxLocals ret :: tables_1), c.before #[Value.ref b] s = true := atoms_spec (ws := Jvm.Cond.code x code maxLocals ret :: tables_1) B.pre
    have hts : ∀ w ∈ lw_tbl, w.before #[Value.ref b] s = true := k2_hts_sels lw_privs (fun w hw => hts0 w (List.mem_cons_of_mem _ hw)) lw_privs_ok
    have hml : c.maxLocals = 1 := B.maxLocals_eq (hts0 _ List.mem_cons_self)
    have X₀ : Stand p l e room_1 s m #[Value.ref b] below meth c s₁ [] 0 0 := Stand.of_body B
    have hh0 : s₁.heap = s.heap := by rw [B.state]; rfl
    have hsz : scr.slots.size = xs.length := by rw [← Array.length_toList, hlist, List.length_map]
    have hval : ∀ j : Nat, j < xs.length → scr.slots[j]? = some (.int (xs.getD j 0)) := fun j hj => by
      rw [← Array.getElem?_toList, hlist]
      simp [hj]
    have hbl : b < s.heap.size := (Array.getElem?_eq_some_iff.mp hcb).1
    have hX : va_X b xs.length (fun j => xs.getD j 0) s s.heap := ⟨scr, hcb, hof, hkn, hsz, hval⟩
    have K : W p l e room_1 s m #[Value.ref b] below meth c s₁.heap [] 0 0 (lw_Z below #[Value.ref b] s) (entryFrame m ([Value.ref b] : List Value).toArray 1) := by
      rw [hh0]
      exact whole_start l hflags hbd ⟨B.exec, B.bytes, B.returns, hml, hown, hts, hX, hbl, B.notSynchronized, hgv⟩
    obtain ⟨t, a1, o, b1, b2, b3⟩ := K s₁ rfl X₀
    exact ⟨t, o, a1, b1, b2, b3⟩
theorem lw_pre_spec {args : Array Value} {s : State} (h : (Jvm.Cond.and given_1 narrow_1).before args s = true) (hr : rest_1_c.before args s = true) : ∃ (b : Addr) (xs : List Int32), lw_P b xs args s := by
  have hs := flat_of_before _ h
  have hq := flat_of_before _ hr
  have hc : (Cond.count 1).before args s = true := hs _ (by decide +kernel)
  have harr : (Cond.arrayOf (.arg 0) .int).before args s = true := hs _ (by decide +kernel)
  have hle : (Cond.le (.length (.arg 0)) (.int 2)).before args s = true := hs _ (by decide +kernel)
  have hlen : (Cond.isInt (.length (.arg 0))).before args s = true := hq _ (by decide +kernel)
  have hall : (Cond.all (.arg 0) (.isInt (.elem (.arg 0) (.index 0)))).before args s = true := hq _ (by decide +kernel)
  obtain ⟨b, xs, hb, hx⟩ := State.ints_of_pre rfl harr hlen hall
  have hsm : xs.length < 2 ^ 31 := hx.choose_spec.2.2.2
  have hev : (Term.length (.arg 0)).eval args s none [] s = some (.int xs.length.toInt32) := hx.length_eval hb
  have hv := Cond.le_ints hev (show (Term.int 2).eval args s none [] s = some (.int 2) from rfl)
  have hd : xs.length.toInt32 ≤ 2 := by
    simpa [Cond.before, Cond.holds, hv] using hle
  have hN : xs.length ≤ 2 := (Int32.ofNat_le_ofNat hsm (by decide)).mp (show Int32.ofNat xs.length ≤ Int32.ofNat 2 from hd)
  exact ⟨b, xs, Cond.one_arg hc (show args[0]? = some (.ref b) from hb), hx, hN, h⟩
theorem lw_comes (l : Launch) (hflags : l.flags = flags0) : Comes l x (Jvm.Cond.code x code maxLocals ret :: tables_1) room_1 (fun tb e args s => Calls_1 tb e args s ∧ rest_1 tb e args s ∧ Pre_1 tb e args s)
    (fun _ _ args s o t => lw_Q args s o t) := by
  intro p e ha hc hk s m args below hf hfit hheap happ hpre
  obtain ⟨b, xs, hP⟩ := lw_pre_spec hpre.2.2 hpre.2.1
  obtain ⟨k, o, h1, h2, h3, hQ⟩ := lw_walk l hflags b xs p e ha hc hk s m args below hf ((Spec.applies_iff_loose hf).mp happ).1 hP trivial
  exact ⟨k, o, h1, h2, h3, hQ⟩
theorem lw_frame {s t : State} {o : Outcome} {args : Array Value} (h : Framed s o t [] 1200000 5502250) :
    Framed s o t (fieldLocs frame_1_writes args s ++ arrayLocs frame_1_arrays args s ++ staticLocs frame_1_statics s) 1200000 5502250 := h
theorem lw_limb (L : Cond) (hL : ∀ (args : Array Value) (s t : State), L.after args s (.returned (some (.int 1))) t = true) :
    ArmFor flags0 classFile x code maxLocals ret World_1 tables_1 room_1 Calls_1 rest_1 Pre_1
      (fun tb e a s o t => postC L tb e a s o t ∧ Framed s o t (fieldLocs frame_1_writes a s ++ arrayLocs frame_1_arrays a s ++ staticLocs frame_1_statics s) 1200000 5502250) := by
  intro l hflags _ _ p e ha hc hk s m args below hf hfit hheap happ hpre
  obtain ⟨k, o, h1, h2, h3, rfl, hF⟩ := lw_comes l hflags p e ha hc hk s m args below hf hfit hheap happ hpre
  exact ⟨k, _, h1, h2, h3, hL args s _, lw_frame hF⟩
theorem i_vc : Claimed_1_1 ∧ Claimed_1_2 := ⟨lw_limb limb_1_1 (fun args s t => by simp [limb_1_1, Cond.after, Cond.holds, Cond.value]), lw_limb limb_1_2 (fun args s t => Cond.after_iff.mpr (by
  first | (rw [show limb_1_2 = Cond.eq .result (.int 1) from rfl, Cond.eq_ints (x := 1) (y := 1) rfl rfl]; simp; done) | (simp [limb_1_2, Cond.value, Term.eval]; done)))⟩
end
