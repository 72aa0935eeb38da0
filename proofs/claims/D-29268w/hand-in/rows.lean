section
/-- a private method of a class that the tables say can be made, by its rows of tables_1 -/
def lw_okq (q : MethodName × Nat) : Prop := (q.1.cls ≠ "java/lang/invoke/MethodHandle" ∧ q.1.cls ≠ "java/lang/invoke/VarHandle") ∧ Cond.instantiable q.1.cls q.2 ∈ tables_1 ∧ Cond.privateMethod q.1 ∈ tables_1 ∧ Cond.instanceMethod q.1 ∈ tables_1
def lw_privs : List (MethodName × Nat) := []
def lw_tbl : List Cond := k2_sels lw_privs ++ tables_1
theorem lw_privs_ok : ∀ q ∈ lw_privs, lw_okq q := fun _ h => absurd h List.not_mem_nil
-- ===== ONE list of words for every method: the tables' words that hold all through a run =====
def lw_all : List Cond := lw_tbl.filter goodWord
/-- a word of the tables by its place: claim/WORDS.tsv -/
theorem lw_w {w : Cond} (i : Nat) (h : lw_tbl[i]? = some w) (g : goodWord w = true) : w ∈ lw_all := List.mem_filter.mpr ⟨List.mem_of_getElem? h, g⟩
theorem lw_all_tbl {w : Cond} (h : w ∈ lw_all) : w ∈ lw_tbl := (List.mem_filter.mp h).1
theorem lw_self : GoodIn lw_all lw_all := fun w h => ⟨h, good_of_word (List.mem_filter.mp h).2⟩
/-- a class's field words, by their places -/
theorem lw_in (ws : List Cond) (ps : List Nat) (hp : ws = ps.filterMap (fun i => lw_tbl[i]?)) (hg : ws.all goodWord = true) : ∀ w ∈ ws, w ∈ lw_all := by
  intro w h
  have h1 := List.all_eq_true.mp hg w h
  rw [hp] at h
  obtain ⟨i, -, hi⟩ := List.mem_filterMap.mp h
  exact lw_w i hi h1
/-- the words of a contract for the method y with code b, L locals, answer r -/
abbrev ws_ (y : MethodName) (b : ByteArray) (L : Nat) (r : Option FieldType) : List Cond := Cond.code y b L r :: lw_all
theorem lw_meth {y : MethodName} {b : ByteArray} {L : Nat} {r : Option FieldType} (h : Cond.code y b L r ∈ lw_all) : GoodIn lw_all (ws_ y b L r) := by
  intro w hw
  rcases List.mem_cons.mp hw with e | e
  · rw [e]
    exact lw_self _ h
  · exact lw_self _ e
theorem lw_app {a c : List Cond} (ha : ∀ w ∈ a, w ∈ lw_all) (hc : GoodIn lw_all c) : GoodIn lw_all (a ++ c) := by
  intro w hw
  rcases List.mem_append.mp hw with e | e
  · exact lw_self w (ha w e)
  · exact hc w e
/-- what a call through an object asks: cwV n hts (lw_V ..) -/
theorem lw_V {own : String} {idx : Nat} {C : String} {y : MethodName} {b : ByteArray} {L : Nat} {r : Option FieldType} (h1 : Cond.methodLink own idx y ∈ lw_all) (h2 : Cond.instanceMethod y ∈ lw_all) (h3 : Cond.selects C y y ∈ lw_all) (h4 : Cond.initialized C ∈ lw_all) (h5 : Cond.code y b L r ∈ lw_all) : GoodIn lw_all (wsV own idx C y (ws_ y b L r)) := by
  refine lw_app ?_ (lw_meth h5)
  intro w hw
  simp only [List.mem_cons, List.not_mem_nil, or_false] at hw
  rcases hw with e | e | e | e
  · rw [e]; exact h1
  · rw [e]; exact h2
  · rw [e]; exact h3
  · rw [e]; exact h4
/-- what a static call asks: va_cwS n hts (lw_S ..) -/
theorem lw_S {own : String} {idx : Nat} {y : MethodName} {b : ByteArray} {L : Nat} {r : Option FieldType} (h1 : Cond.methodLink own idx y ∈ lw_all) (h2 : Cond.static y ∈ lw_all) (h3 : Cond.initialized y.cls ∈ lw_all) (h4 : Cond.code y b L r ∈ lw_all) : GoodIn lw_all (va_wsS own idx y (ws_ y b L r)) := by
  refine lw_app ?_ (lw_meth h4)
  intro w hw
  simp only [List.mem_cons, List.not_mem_nil, or_false] at hw
  rcases hw with e | e | e
  · rw [e]; exact h1
  · rw [e]; exact h2
  · rw [e]; exact h3
/-- the words of a contract for a method WITH HANDLERS (hh: its table) -/
abbrev wsW_ (y : MethodName) (b : ByteArray) (L : Nat) (r : Option FieldType) (hh : List (Nat × Nat × Nat × Nat)) : List Cond := Cond.codeWith y b L r hh :: lw_all
theorem lw_methW {y : MethodName} {b : ByteArray} {L : Nat} {r : Option FieldType} {hh : List (Nat × Nat × Nat × Nat)} (h : Cond.codeWith y b L r hh ∈ lw_all) : GoodIn lw_all (wsW_ y b L r hh) := by
  intro w hw
  rcases List.mem_cons.mp hw with e | e
  · rw [e]
    exact lw_self _ h
  · exact lw_self _ e
/-- any list of words by their places (lw_in), good -/
theorem lw_good {ws : List Cond} (h : ∀ w ∈ ws, w ∈ lw_all) : GoodIn lw_all ws := fun w hw => lw_self w (h w hw)
/-- what a call of a method with handlers asks: vx_cwVW n hts (lw_VW ..), vx_cwSW n hts (lw_SW ..) -/
theorem lw_VW {own : String} {idx : Nat} {C : String} {y : MethodName} {b : ByteArray} {L : Nat} {r : Option FieldType} {hh : List (Nat × Nat × Nat × Nat)} (h1 : Cond.methodLink own idx y ∈ lw_all) (h2 : Cond.instanceMethod y ∈ lw_all) (h3 : Cond.selects C y y ∈ lw_all) (h4 : Cond.initialized C ∈ lw_all) (h5 : Cond.codeWith y b L r hh ∈ lw_all) : GoodIn lw_all (wsV own idx C y (wsW_ y b L r hh)) := by
  refine lw_app ?_ (lw_methW h5)
  intro w hw
  simp only [List.mem_cons, List.not_mem_nil, or_false] at hw
  rcases hw with e | e | e | e
  · rw [e]; exact h1
  · rw [e]; exact h2
  · rw [e]; exact h3
  · rw [e]; exact h4
theorem lw_SW {own : String} {idx : Nat} {y : MethodName} {b : ByteArray} {L : Nat} {r : Option FieldType} {hh : List (Nat × Nat × Nat × Nat)} (h1 : Cond.methodLink own idx y ∈ lw_all) (h2 : Cond.static y ∈ lw_all) (h3 : Cond.initialized y.cls ∈ lw_all) (h4 : Cond.codeWith y b L r hh ∈ lw_all) : GoodIn lw_all (va_wsS own idx y (wsW_ y b L r hh)) := by
  refine lw_app ?_ (lw_methW h4)
  intro w hw
  simp only [List.mem_cons, List.not_mem_nil, or_false] at hw
  rcases hw with e | e | e
  · rw [e]; exact h1
  · rw [e]; exact h2
  · rw [e]; exact h3
/-- a word by its place in its run of the tables -/
theorem lw_at {r : List Cond} (hr : ∀ w ∈ r, w ∈ lw_tbl) {w : Cond} (i : Nat) (h : r[i]? = some w) : w ∈ lw_tbl := hr w (List.mem_of_getElem? h)
theorem lw_g {w : Cond} (h : w ∈ lw_tbl) (g : goodWord w = true) : w ∈ lw_all := List.mem_filter.mpr ⟨h, g⟩
theorem lw_ms : ∀ w ∈ k2_sels lw_privs, w ∈ lw_tbl := fun w h => show w ∈ k2_sels lw_privs ++ tables_1 from List.mem_append_left _ h
theorem lw_m0 : ∀ w ∈ tables_1, w ∈ lw_tbl := fun w h => show w ∈ k2_sels lw_privs ++ tables_1 from List.mem_append_right (k2_sels lw_privs) h
end
section
/-! DECODE ROWS BY BYTES: one lemma an opcode; a method's code is cut into short pieces once, and a row reads its own piece alone. -/
set_option maxRecDepth 100000
/-- the code has just these bytes from pc on -/
def DkAt (code : ByteArray) (pc : Nat) (bs : List UInt8) : Prop := ∀ (j : Nat) (b : UInt8), bs[j]? = some b → code.data.toList[pc + j]? = some b
/-- the piece W has the bytes bs from its place j on -/
def dkIn (W : List UInt8) (j : Nat) (bs : List UInt8) : Bool := decide ((W.drop j).take bs.length = bs)
theorem dk_seg {l W T : List UInt8} {o o2 : Nat} (h : l.drop o = W ++ T) (n : Nat) (hn : W.length = n) (ho : o + n = o2) : l.drop o2 = T := by
  subst ho
  rw [← List.drop_drop, h, List.drop_left' hn]
theorem dk_at {code : ByteArray} {W T bs : List UInt8} {o pc : Nat} (h : code.data.toList.drop o = W ++ T) (j : Nat) (hp : o + j = pc) (hw : dkIn W j bs = true) : DkAt code pc bs := by
  subst hp
  intro i b e
  have h1 := of_decide_eq_true hw
  have h2 : i < bs.length := (List.getElem?_eq_some_iff.mp e).1
  have h3 : W[j + i]? = some b := by
    rw [← h1, List.getElem?_take, if_pos h2, List.getElem?_drop] at e
    exact e
  have h4 : j + i < W.length := (List.getElem?_eq_some_iff.mp h3).1
  have h5 : (code.data.toList.drop o)[j + i]? = some b := by
    rw [h, List.getElem?_append_left h4]
    exact h3
  rw [List.getElem?_drop, ← Nat.add_assoc] at h5
  exact h5
theorem dk_u1 {A : ByteArray} {p : Nat} {b : UInt8} (h : A.data.toList[p]? = some b) : (Reader.u1 : Reader DecodeError Nat) A p = .ok (b.toNat, p + 1) := by
  obtain ⟨h1, h2⟩ := List.getElem?_eq_some_iff.mp h
  have h3 : p < A.size := by simpa using h1
  have h4 : A[p]'h3 = b := h2
  have e : (Reader.u1 : Reader DecodeError Nat) A p = (if h : p < A.size then .ok (A[p].toNat, p + 1) else .error (HasTruncated.truncated p)) := by
    show (do if h : p < A.size then do set (p + 1); Pure.pure A[p].toNat else MonadExcept.throw (HasTruncated.truncated p) : Reader DecodeError Nat) A p = _
    by_cases hi : p < A.size
    · rw [dif_pos hi, dif_pos hi]; rfl
    · rw [dif_neg hi, dif_neg hi]; rfl
  rw [e, dif_pos h3, h4]
theorem dk_bind {α β : Type} {r : Reader DecodeError α} {f : α → Reader DecodeError β} {A : ByteArray} {p s : Nat} {a : α} (h : r A p = .ok (a, s)) : (r >>= f) A p = f a A s := by
  show (do let (a, s) ← r A p; f a A s : Except DecodeError (β × Nat)) = _
  rw [h]
  rfl
theorem dk_map {α β : Type} {r : Reader DecodeError α} {g : α → β} {A : ByteArray} {p s : Nat} {a : α} (h : r A p = .ok (a, s)) : (g <$> r) A p = .ok (g a, s) := by
  show (do let (a, s) ← r A p; .ok (g a, s) : Except DecodeError (β × Nat)) = _
  rw [h]
  rfl
theorem dk_u2 {A : ByteArray} {p : Nat} {a b : UInt8} (h : A.data.toList[p]? = some a) (h2 : A.data.toList[p + 1]? = some b) : (Reader.u2 : Reader DecodeError Nat) A p = .ok (a.toNat * 256 + b.toNat, p + 2) := by
  show (Reader.u1 >>= fun hi => Reader.u1 >>= fun lo => Pure.pure (hi * 256 + lo) : Reader DecodeError Nat) A p = _
  rw [dk_bind (dk_u1 h), dk_bind (dk_u1 h2)]
  rfl
theorem dk_of {code : ByteArray} {pc n : Nat} {i : Instr} (h : Decoder.instr pc code pc = .ok (i, pc + n)) : decode code pc = .ok (i, n) := by
  have e : decode code pc = (match Decoder.instr pc code pc with | .error x => .error x | .ok (j, s) => .ok (j, s - pc)) := by
    show (do let (j, s) ← Decoder.instr pc code pc; Pure.pure (j, s - pc) : Except DecodeError (Instr × Nat)) = _
    cases Decoder.instr pc code pc <;> rfl
  rw [e, h]
  show Except.ok (i, pc + n - pc) = _
  rw [Nat.add_sub_cancel_left]
theorem dk_2 {code : ByteArray} {pc : Nat} (h : DkAt code pc [2]) : decode code pc = .ok (.iconst (-1), 1) := dk_of ((dk_bind (dk_u1 (h 0 _ rfl))).trans rfl)
theorem dk_3 {code : ByteArray} {pc : Nat} (h : DkAt code pc [3]) : decode code pc = .ok (.iconst 0, 1) := dk_of ((dk_bind (dk_u1 (h 0 _ rfl))).trans rfl)
theorem dk_4 {code : ByteArray} {pc : Nat} (h : DkAt code pc [4]) : decode code pc = .ok (.iconst 1, 1) := dk_of ((dk_bind (dk_u1 (h 0 _ rfl))).trans rfl)
theorem dk_5 {code : ByteArray} {pc : Nat} (h : DkAt code pc [5]) : decode code pc = .ok (.iconst 2, 1) := dk_of ((dk_bind (dk_u1 (h 0 _ rfl))).trans rfl)
theorem dk_6 {code : ByteArray} {pc : Nat} (h : DkAt code pc [6]) : decode code pc = .ok (.iconst 3, 1) := dk_of ((dk_bind (dk_u1 (h 0 _ rfl))).trans rfl)
theorem dk_7 {code : ByteArray} {pc : Nat} (h : DkAt code pc [7]) : decode code pc = .ok (.iconst 4, 1) := dk_of ((dk_bind (dk_u1 (h 0 _ rfl))).trans rfl)
theorem dk_8 {code : ByteArray} {pc : Nat} (h : DkAt code pc [8]) : decode code pc = .ok (.iconst 5, 1) := dk_of ((dk_bind (dk_u1 (h 0 _ rfl))).trans rfl)
theorem dk_9 {code : ByteArray} {pc : Nat} (h : DkAt code pc [9]) : decode code pc = .ok (.lconst 0, 1) := dk_of ((dk_bind (dk_u1 (h 0 _ rfl))).trans rfl)
theorem dk_10 {code : ByteArray} {pc : Nat} (h : DkAt code pc [10]) : decode code pc = .ok (.lconst 1, 1) := dk_of ((dk_bind (dk_u1 (h 0 _ rfl))).trans rfl)
theorem dk_16 {code : ByteArray} {pc : Nat} (a : UInt8) (h : DkAt code pc [16, a]) : decode code pc = .ok (.bipush (Reader.signed 8 a.toNat), 2) := dk_of ((dk_bind (dk_u1 (h 0 _ rfl))).trans ((dk_bind (dk_map (dk_u1 (h 1 _ rfl)))).trans rfl))
theorem dk_17 {code : ByteArray} {pc : Nat} (a b : UInt8) (h : DkAt code pc [17, a, b]) : decode code pc = .ok (.sipush (Reader.signed 16 (a.toNat * 256 + b.toNat)), 3) := dk_of ((dk_bind (dk_u1 (h 0 _ rfl))).trans ((dk_bind (dk_map (dk_u2 (h 1 _ rfl) (h 2 _ rfl)))).trans rfl))
theorem dk_18 {code : ByteArray} {pc : Nat} (a : UInt8) (h : DkAt code pc [18, a]) : decode code pc = .ok (.ldc a.toNat, 2) := dk_of ((dk_bind (dk_u1 (h 0 _ rfl))).trans ((dk_bind (dk_u1 (h 1 _ rfl))).trans rfl))
theorem dk_20 {code : ByteArray} {pc : Nat} (a b : UInt8) (h : DkAt code pc [20, a, b]) : decode code pc = .ok (.ldc2_w (a.toNat * 256 + b.toNat), 3) := dk_of ((dk_bind (dk_u1 (h 0 _ rfl))).trans ((dk_bind (dk_u2 (h 1 _ rfl) (h 2 _ rfl))).trans rfl))
theorem dk_21 {code : ByteArray} {pc : Nat} (a : UInt8) (h : DkAt code pc [21, a]) : decode code pc = .ok (.iload a.toNat, 2) := dk_of ((dk_bind (dk_u1 (h 0 _ rfl))).trans ((dk_bind (dk_u1 (h 1 _ rfl))).trans rfl))
theorem dk_22 {code : ByteArray} {pc : Nat} (a : UInt8) (h : DkAt code pc [22, a]) : decode code pc = .ok (.lload a.toNat, 2) := dk_of ((dk_bind (dk_u1 (h 0 _ rfl))).trans ((dk_bind (dk_u1 (h 1 _ rfl))).trans rfl))
theorem dk_25 {code : ByteArray} {pc : Nat} (a : UInt8) (h : DkAt code pc [25, a]) : decode code pc = .ok (.aload a.toNat, 2) := dk_of ((dk_bind (dk_u1 (h 0 _ rfl))).trans ((dk_bind (dk_u1 (h 1 _ rfl))).trans rfl))
theorem dk_26 {code : ByteArray} {pc : Nat} (h : DkAt code pc [26]) : decode code pc = .ok (.iload_n 0, 1) := dk_of ((dk_bind (dk_u1 (h 0 _ rfl))).trans rfl)
theorem dk_27 {code : ByteArray} {pc : Nat} (h : DkAt code pc [27]) : decode code pc = .ok (.iload_n 1, 1) := dk_of ((dk_bind (dk_u1 (h 0 _ rfl))).trans rfl)
theorem dk_28 {code : ByteArray} {pc : Nat} (h : DkAt code pc [28]) : decode code pc = .ok (.iload_n 2, 1) := dk_of ((dk_bind (dk_u1 (h 0 _ rfl))).trans rfl)
theorem dk_29 {code : ByteArray} {pc : Nat} (h : DkAt code pc [29]) : decode code pc = .ok (.iload_n 3, 1) := dk_of ((dk_bind (dk_u1 (h 0 _ rfl))).trans rfl)
theorem dk_30 {code : ByteArray} {pc : Nat} (h : DkAt code pc [30]) : decode code pc = .ok (.lload_n 0, 1) := dk_of ((dk_bind (dk_u1 (h 0 _ rfl))).trans rfl)
theorem dk_31 {code : ByteArray} {pc : Nat} (h : DkAt code pc [31]) : decode code pc = .ok (.lload_n 1, 1) := dk_of ((dk_bind (dk_u1 (h 0 _ rfl))).trans rfl)
theorem dk_32 {code : ByteArray} {pc : Nat} (h : DkAt code pc [32]) : decode code pc = .ok (.lload_n 2, 1) := dk_of ((dk_bind (dk_u1 (h 0 _ rfl))).trans rfl)
theorem dk_33 {code : ByteArray} {pc : Nat} (h : DkAt code pc [33]) : decode code pc = .ok (.lload_n 3, 1) := dk_of ((dk_bind (dk_u1 (h 0 _ rfl))).trans rfl)
theorem dk_42 {code : ByteArray} {pc : Nat} (h : DkAt code pc [42]) : decode code pc = .ok (.aload_n 0, 1) := dk_of ((dk_bind (dk_u1 (h 0 _ rfl))).trans rfl)
theorem dk_43 {code : ByteArray} {pc : Nat} (h : DkAt code pc [43]) : decode code pc = .ok (.aload_n 1, 1) := dk_of ((dk_bind (dk_u1 (h 0 _ rfl))).trans rfl)
theorem dk_44 {code : ByteArray} {pc : Nat} (h : DkAt code pc [44]) : decode code pc = .ok (.aload_n 2, 1) := dk_of ((dk_bind (dk_u1 (h 0 _ rfl))).trans rfl)
theorem dk_45 {code : ByteArray} {pc : Nat} (h : DkAt code pc [45]) : decode code pc = .ok (.aload_n 3, 1) := dk_of ((dk_bind (dk_u1 (h 0 _ rfl))).trans rfl)
theorem dk_46 {code : ByteArray} {pc : Nat} (h : DkAt code pc [46]) : decode code pc = .ok (.iaload, 1) := dk_of ((dk_bind (dk_u1 (h 0 _ rfl))).trans rfl)
theorem dk_47 {code : ByteArray} {pc : Nat} (h : DkAt code pc [47]) : decode code pc = .ok (.laload, 1) := dk_of ((dk_bind (dk_u1 (h 0 _ rfl))).trans rfl)
theorem dk_51 {code : ByteArray} {pc : Nat} (h : DkAt code pc [51]) : decode code pc = .ok (.baload, 1) := dk_of ((dk_bind (dk_u1 (h 0 _ rfl))).trans rfl)
theorem dk_54 {code : ByteArray} {pc : Nat} (a : UInt8) (h : DkAt code pc [54, a]) : decode code pc = .ok (.istore a.toNat, 2) := dk_of ((dk_bind (dk_u1 (h 0 _ rfl))).trans ((dk_bind (dk_u1 (h 1 _ rfl))).trans rfl))
theorem dk_55 {code : ByteArray} {pc : Nat} (a : UInt8) (h : DkAt code pc [55, a]) : decode code pc = .ok (.lstore a.toNat, 2) := dk_of ((dk_bind (dk_u1 (h 0 _ rfl))).trans ((dk_bind (dk_u1 (h 1 _ rfl))).trans rfl))
theorem dk_58 {code : ByteArray} {pc : Nat} (a : UInt8) (h : DkAt code pc [58, a]) : decode code pc = .ok (.astore a.toNat, 2) := dk_of ((dk_bind (dk_u1 (h 0 _ rfl))).trans ((dk_bind (dk_u1 (h 1 _ rfl))).trans rfl))
theorem dk_60 {code : ByteArray} {pc : Nat} (h : DkAt code pc [60]) : decode code pc = .ok (.istore_n 1, 1) := dk_of ((dk_bind (dk_u1 (h 0 _ rfl))).trans rfl)
theorem dk_61 {code : ByteArray} {pc : Nat} (h : DkAt code pc [61]) : decode code pc = .ok (.istore_n 2, 1) := dk_of ((dk_bind (dk_u1 (h 0 _ rfl))).trans rfl)
theorem dk_62 {code : ByteArray} {pc : Nat} (h : DkAt code pc [62]) : decode code pc = .ok (.istore_n 3, 1) := dk_of ((dk_bind (dk_u1 (h 0 _ rfl))).trans rfl)
theorem dk_63 {code : ByteArray} {pc : Nat} (h : DkAt code pc [63]) : decode code pc = .ok (.lstore_n 0, 1) := dk_of ((dk_bind (dk_u1 (h 0 _ rfl))).trans rfl)
theorem dk_64 {code : ByteArray} {pc : Nat} (h : DkAt code pc [64]) : decode code pc = .ok (.lstore_n 1, 1) := dk_of ((dk_bind (dk_u1 (h 0 _ rfl))).trans rfl)
theorem dk_65 {code : ByteArray} {pc : Nat} (h : DkAt code pc [65]) : decode code pc = .ok (.lstore_n 2, 1) := dk_of ((dk_bind (dk_u1 (h 0 _ rfl))).trans rfl)
theorem dk_66 {code : ByteArray} {pc : Nat} (h : DkAt code pc [66]) : decode code pc = .ok (.lstore_n 3, 1) := dk_of ((dk_bind (dk_u1 (h 0 _ rfl))).trans rfl)
theorem dk_75 {code : ByteArray} {pc : Nat} (h : DkAt code pc [75]) : decode code pc = .ok (.astore_n 0, 1) := dk_of ((dk_bind (dk_u1 (h 0 _ rfl))).trans rfl)
theorem dk_76 {code : ByteArray} {pc : Nat} (h : DkAt code pc [76]) : decode code pc = .ok (.astore_n 1, 1) := dk_of ((dk_bind (dk_u1 (h 0 _ rfl))).trans rfl)
theorem dk_77 {code : ByteArray} {pc : Nat} (h : DkAt code pc [77]) : decode code pc = .ok (.astore_n 2, 1) := dk_of ((dk_bind (dk_u1 (h 0 _ rfl))).trans rfl)
theorem dk_78 {code : ByteArray} {pc : Nat} (h : DkAt code pc [78]) : decode code pc = .ok (.astore_n 3, 1) := dk_of ((dk_bind (dk_u1 (h 0 _ rfl))).trans rfl)
theorem dk_80 {code : ByteArray} {pc : Nat} (h : DkAt code pc [80]) : decode code pc = .ok (.lastore, 1) := dk_of ((dk_bind (dk_u1 (h 0 _ rfl))).trans rfl)
theorem dk_84 {code : ByteArray} {pc : Nat} (h : DkAt code pc [84]) : decode code pc = .ok (.bastore, 1) := dk_of ((dk_bind (dk_u1 (h 0 _ rfl))).trans rfl)
theorem dk_89 {code : ByteArray} {pc : Nat} (h : DkAt code pc [89]) : decode code pc = .ok (.dup, 1) := dk_of ((dk_bind (dk_u1 (h 0 _ rfl))).trans rfl)
theorem dk_96 {code : ByteArray} {pc : Nat} (h : DkAt code pc [96]) : decode code pc = .ok (.iadd, 1) := dk_of ((dk_bind (dk_u1 (h 0 _ rfl))).trans rfl)
theorem dk_100 {code : ByteArray} {pc : Nat} (h : DkAt code pc [100]) : decode code pc = .ok (.isub, 1) := dk_of ((dk_bind (dk_u1 (h 0 _ rfl))).trans rfl)
theorem dk_104 {code : ByteArray} {pc : Nat} (h : DkAt code pc [104]) : decode code pc = .ok (.imul, 1) := dk_of ((dk_bind (dk_u1 (h 0 _ rfl))).trans rfl)
theorem dk_105 {code : ByteArray} {pc : Nat} (h : DkAt code pc [105]) : decode code pc = .ok (.lmul, 1) := dk_of ((dk_bind (dk_u1 (h 0 _ rfl))).trans rfl)
theorem dk_120 {code : ByteArray} {pc : Nat} (h : DkAt code pc [120]) : decode code pc = .ok (.ishl, 1) := dk_of ((dk_bind (dk_u1 (h 0 _ rfl))).trans rfl)
theorem dk_121 {code : ByteArray} {pc : Nat} (h : DkAt code pc [121]) : decode code pc = .ok (.lshl, 1) := dk_of ((dk_bind (dk_u1 (h 0 _ rfl))).trans rfl)
theorem dk_122 {code : ByteArray} {pc : Nat} (h : DkAt code pc [122]) : decode code pc = .ok (.ishr, 1) := dk_of ((dk_bind (dk_u1 (h 0 _ rfl))).trans rfl)
theorem dk_124 {code : ByteArray} {pc : Nat} (h : DkAt code pc [124]) : decode code pc = .ok (.iushr, 1) := dk_of ((dk_bind (dk_u1 (h 0 _ rfl))).trans rfl)
theorem dk_125 {code : ByteArray} {pc : Nat} (h : DkAt code pc [125]) : decode code pc = .ok (.lushr, 1) := dk_of ((dk_bind (dk_u1 (h 0 _ rfl))).trans rfl)
theorem dk_126 {code : ByteArray} {pc : Nat} (h : DkAt code pc [126]) : decode code pc = .ok (.iand, 1) := dk_of ((dk_bind (dk_u1 (h 0 _ rfl))).trans rfl)
theorem dk_127 {code : ByteArray} {pc : Nat} (h : DkAt code pc [127]) : decode code pc = .ok (.land, 1) := dk_of ((dk_bind (dk_u1 (h 0 _ rfl))).trans rfl)
theorem dk_128 {code : ByteArray} {pc : Nat} (h : DkAt code pc [128]) : decode code pc = .ok (.ior, 1) := dk_of ((dk_bind (dk_u1 (h 0 _ rfl))).trans rfl)
theorem dk_129 {code : ByteArray} {pc : Nat} (h : DkAt code pc [129]) : decode code pc = .ok (.lor, 1) := dk_of ((dk_bind (dk_u1 (h 0 _ rfl))).trans rfl)
theorem dk_131 {code : ByteArray} {pc : Nat} (h : DkAt code pc [131]) : decode code pc = .ok (.lxor, 1) := dk_of ((dk_bind (dk_u1 (h 0 _ rfl))).trans rfl)
theorem dk_132 {code : ByteArray} {pc : Nat} (a b : UInt8) (h : DkAt code pc [132, a, b]) : decode code pc = .ok (.iinc a.toNat (Reader.signed 8 b.toNat), 3) := dk_of ((dk_bind (dk_u1 (h 0 _ rfl))).trans ((dk_bind (dk_u1 (h 1 _ rfl))).trans ((dk_bind (dk_map (dk_u1 (h 2 _ rfl)))).trans rfl)))
theorem dk_133 {code : ByteArray} {pc : Nat} (h : DkAt code pc [133]) : decode code pc = .ok (.i2l, 1) := dk_of ((dk_bind (dk_u1 (h 0 _ rfl))).trans rfl)
theorem dk_136 {code : ByteArray} {pc : Nat} (h : DkAt code pc [136]) : decode code pc = .ok (.l2i, 1) := dk_of ((dk_bind (dk_u1 (h 0 _ rfl))).trans rfl)
theorem dk_145 {code : ByteArray} {pc : Nat} (h : DkAt code pc [145]) : decode code pc = .ok (.i2b, 1) := dk_of ((dk_bind (dk_u1 (h 0 _ rfl))).trans rfl)
theorem dk_148 {code : ByteArray} {pc : Nat} (h : DkAt code pc [148]) : decode code pc = .ok (.lcmp, 1) := dk_of ((dk_bind (dk_u1 (h 0 _ rfl))).trans rfl)
theorem dk_153 {code : ByteArray} {pc : Nat} (a b : UInt8) (h : DkAt code pc [153, a, b]) : decode code pc = .ok (.ifCond .eq (Reader.signed 16 (a.toNat * 256 + b.toNat)), 3) := dk_of ((dk_bind (dk_u1 (h 0 _ rfl))).trans ((dk_bind (dk_map (dk_u2 (h 1 _ rfl) (h 2 _ rfl)))).trans rfl))
theorem dk_154 {code : ByteArray} {pc : Nat} (a b : UInt8) (h : DkAt code pc [154, a, b]) : decode code pc = .ok (.ifCond .ne (Reader.signed 16 (a.toNat * 256 + b.toNat)), 3) := dk_of ((dk_bind (dk_u1 (h 0 _ rfl))).trans ((dk_bind (dk_map (dk_u2 (h 1 _ rfl) (h 2 _ rfl)))).trans rfl))
theorem dk_155 {code : ByteArray} {pc : Nat} (a b : UInt8) (h : DkAt code pc [155, a, b]) : decode code pc = .ok (.ifCond .lt (Reader.signed 16 (a.toNat * 256 + b.toNat)), 3) := dk_of ((dk_bind (dk_u1 (h 0 _ rfl))).trans ((dk_bind (dk_map (dk_u2 (h 1 _ rfl) (h 2 _ rfl)))).trans rfl))
theorem dk_157 {code : ByteArray} {pc : Nat} (a b : UInt8) (h : DkAt code pc [157, a, b]) : decode code pc = .ok (.ifCond .gt (Reader.signed 16 (a.toNat * 256 + b.toNat)), 3) := dk_of ((dk_bind (dk_u1 (h 0 _ rfl))).trans ((dk_bind (dk_map (dk_u2 (h 1 _ rfl) (h 2 _ rfl)))).trans rfl))
theorem dk_158 {code : ByteArray} {pc : Nat} (a b : UInt8) (h : DkAt code pc [158, a, b]) : decode code pc = .ok (.ifCond .le (Reader.signed 16 (a.toNat * 256 + b.toNat)), 3) := dk_of ((dk_bind (dk_u1 (h 0 _ rfl))).trans ((dk_bind (dk_map (dk_u2 (h 1 _ rfl) (h 2 _ rfl)))).trans rfl))
theorem dk_159 {code : ByteArray} {pc : Nat} (a b : UInt8) (h : DkAt code pc [159, a, b]) : decode code pc = .ok (.if_icmp .eq (Reader.signed 16 (a.toNat * 256 + b.toNat)), 3) := dk_of ((dk_bind (dk_u1 (h 0 _ rfl))).trans ((dk_bind (dk_map (dk_u2 (h 1 _ rfl) (h 2 _ rfl)))).trans rfl))
theorem dk_162 {code : ByteArray} {pc : Nat} (a b : UInt8) (h : DkAt code pc [162, a, b]) : decode code pc = .ok (.if_icmp .ge (Reader.signed 16 (a.toNat * 256 + b.toNat)), 3) := dk_of ((dk_bind (dk_u1 (h 0 _ rfl))).trans ((dk_bind (dk_map (dk_u2 (h 1 _ rfl) (h 2 _ rfl)))).trans rfl))
theorem dk_167 {code : ByteArray} {pc : Nat} (a b : UInt8) (h : DkAt code pc [167, a, b]) : decode code pc = .ok (.goto (Reader.signed 16 (a.toNat * 256 + b.toNat)), 3) := dk_of ((dk_bind (dk_u1 (h 0 _ rfl))).trans ((dk_bind (dk_map (dk_u2 (h 1 _ rfl) (h 2 _ rfl)))).trans rfl))
theorem dk_172 {code : ByteArray} {pc : Nat} (h : DkAt code pc [172]) : decode code pc = .ok (.ireturn, 1) := dk_of ((dk_bind (dk_u1 (h 0 _ rfl))).trans rfl)
theorem dk_173 {code : ByteArray} {pc : Nat} (h : DkAt code pc [173]) : decode code pc = .ok (.lreturn, 1) := dk_of ((dk_bind (dk_u1 (h 0 _ rfl))).trans rfl)
theorem dk_176 {code : ByteArray} {pc : Nat} (h : DkAt code pc [176]) : decode code pc = .ok (.areturn, 1) := dk_of ((dk_bind (dk_u1 (h 0 _ rfl))).trans rfl)
theorem dk_177 {code : ByteArray} {pc : Nat} (h : DkAt code pc [177]) : decode code pc = .ok (.return_, 1) := dk_of ((dk_bind (dk_u1 (h 0 _ rfl))).trans rfl)
theorem dk_180 {code : ByteArray} {pc : Nat} (a b : UInt8) (h : DkAt code pc [180, a, b]) : decode code pc = .ok (.getfield (a.toNat * 256 + b.toNat), 3) := dk_of ((dk_bind (dk_u1 (h 0 _ rfl))).trans ((dk_bind (dk_u2 (h 1 _ rfl) (h 2 _ rfl))).trans rfl))
theorem dk_181 {code : ByteArray} {pc : Nat} (a b : UInt8) (h : DkAt code pc [181, a, b]) : decode code pc = .ok (.putfield (a.toNat * 256 + b.toNat), 3) := dk_of ((dk_bind (dk_u1 (h 0 _ rfl))).trans ((dk_bind (dk_u2 (h 1 _ rfl) (h 2 _ rfl))).trans rfl))
theorem dk_182 {code : ByteArray} {pc : Nat} (a b : UInt8) (h : DkAt code pc [182, a, b]) : decode code pc = .ok (.invokevirtual (a.toNat * 256 + b.toNat), 3) := dk_of ((dk_bind (dk_u1 (h 0 _ rfl))).trans ((dk_bind (dk_u2 (h 1 _ rfl) (h 2 _ rfl))).trans rfl))
theorem dk_183 {code : ByteArray} {pc : Nat} (a b : UInt8) (h : DkAt code pc [183, a, b]) : decode code pc = .ok (.invokespecial (a.toNat * 256 + b.toNat), 3) := dk_of ((dk_bind (dk_u1 (h 0 _ rfl))).trans ((dk_bind (dk_u2 (h 1 _ rfl) (h 2 _ rfl))).trans rfl))
theorem dk_184 {code : ByteArray} {pc : Nat} (a b : UInt8) (h : DkAt code pc [184, a, b]) : decode code pc = .ok (.invokestatic (a.toNat * 256 + b.toNat), 3) := dk_of ((dk_bind (dk_u1 (h 0 _ rfl))).trans ((dk_bind (dk_u2 (h 1 _ rfl) (h 2 _ rfl))).trans rfl))
theorem dk_187 {code : ByteArray} {pc : Nat} (a b : UInt8) (h : DkAt code pc [187, a, b]) : decode code pc = .ok (.new (a.toNat * 256 + b.toNat), 3) := dk_of ((dk_bind (dk_u1 (h 0 _ rfl))).trans ((dk_bind (dk_u2 (h 1 _ rfl) (h 2 _ rfl))).trans rfl))
theorem dk_188_8 {code : ByteArray} {pc : Nat} (h : DkAt code pc [188, 8]) : decode code pc = .ok (.newarray .byte, 2) := dk_of ((dk_bind (dk_u1 (h 0 _ rfl))).trans ((dk_bind (dk_u1 (h 1 _ rfl))).trans rfl))
theorem dk_188_11 {code : ByteArray} {pc : Nat} (h : DkAt code pc [188, 11]) : decode code pc = .ok (.newarray .long, 2) := dk_of ((dk_bind (dk_u1 (h 0 _ rfl))).trans ((dk_bind (dk_u1 (h 1 _ rfl))).trans rfl))
theorem dk_190 {code : ByteArray} {pc : Nat} (h : DkAt code pc [190]) : decode code pc = .ok (.arraylength, 1) := dk_of ((dk_bind (dk_u1 (h 0 _ rfl))).trans rfl)
theorem dk_199 {code : ByteArray} {pc : Nat} (a b : UInt8) (h : DkAt code pc [199, a, b]) : decode code pc = .ok (.ifnonnull (Reader.signed 16 (a.toNat * 256 + b.toNat)), 3) := dk_of ((dk_bind (dk_u1 (h 0 _ rfl))).trans ((dk_bind (dk_map (dk_u2 (h 1 _ rfl) (h 2 _ rfl)))).trans rfl))
end
section
/-! java/lang/Object -/
set_option maxRecDepth 100000
def RJ1 : String := "java/lang/Object"
abbrev cJ1_init : ByteArray := object_method_1_code
def yJ1_init : MethodName := ⟨RJ1, "<init>", "()V"⟩
theorem dJ1_init_0 : decode cJ1_init 0 = .ok (.return_, 1) := by decide +kernel
theorem q17 : (Jvm.Cond.instanceMethod ({ cls := "java/lang/Object", name := "<init>", desc := "()V" } : Jvm.MethodName)) ∈ lw_all := lw_g (lw_at lw_m0 17 rfl) rfl
theorem q18 : (Jvm.Cond.code ({ cls := "java/lang/Object", name := "<init>", desc := "()V" } : Jvm.MethodName) object_method_1_code (1 : Nat) (Option.none : Option Jvm.ClassFile.FieldType)) ∈ lw_all := lw_g (lw_at lw_m0 18 rfl) rfl
/-! java/lang/Long -/
set_option maxRecDepth 100000
def RJ0 : String := "java/lang/Long"
abbrev cJ0_reverse : ByteArray := prog_10_method_53_code
def yJ0_reverse : MethodName := ⟨RJ0, "reverse", "(J)J"⟩
def dkwJ0_reverse_2 : List UInt8 := [30, 184, 1, 64, 173]
abbrev dktJ0_reverse_2 : List UInt8 := dkwJ0_reverse_2 ++ []
def dkwJ0_reverse_1 : List UInt8 := [5, 125, 20, 1, 60, 127, 129, 63, 30, 20, 1, 62, 127, 7, 121, 30, 7, 125, 20, 1, 62, 127, 129, 63]
abbrev dktJ0_reverse_1 : List UInt8 := dkwJ0_reverse_1 ++ dktJ0_reverse_2
def dkwJ0_reverse_0 : List UInt8 := [30, 20, 1, 58, 127, 4, 121, 30, 4, 125, 20, 1, 58, 127, 129, 63, 30, 20, 1, 60, 127, 5, 121, 30]
abbrev dktJ0_reverse_0 : List UInt8 := dkwJ0_reverse_0 ++ dktJ0_reverse_1
theorem dksJ0_reverse_0 : cJ0_reverse.data.toList.drop 0 = dktJ0_reverse_0 := by decide +kernel
theorem dksJ0_reverse_1 : cJ0_reverse.data.toList.drop 24 = dktJ0_reverse_1 := dk_seg dksJ0_reverse_0 24 rfl rfl
theorem dksJ0_reverse_2 : cJ0_reverse.data.toList.drop 48 = dktJ0_reverse_2 := dk_seg dksJ0_reverse_1 24 rfl rfl
theorem dJ0_reverse_0 : decode cJ0_reverse 0 = .ok (.lload_n 0, 1) := dk_30 (dk_at dksJ0_reverse_0 0 rfl rfl)
theorem dJ0_reverse_1 : decode cJ0_reverse 1 = .ok (.ldc2_w 314, 3) := dk_20 1 58 (dk_at dksJ0_reverse_0 1 rfl rfl)
theorem dJ0_reverse_4 : decode cJ0_reverse 4 = .ok (.land, 1) := dk_127 (dk_at dksJ0_reverse_0 4 rfl rfl)
theorem dJ0_reverse_5 : decode cJ0_reverse 5 = .ok (.iconst 1, 1) := dk_4 (dk_at dksJ0_reverse_0 5 rfl rfl)
theorem dJ0_reverse_6 : decode cJ0_reverse 6 = .ok (.lshl, 1) := dk_121 (dk_at dksJ0_reverse_0 6 rfl rfl)
theorem dJ0_reverse_7 : decode cJ0_reverse 7 = .ok (.lload_n 0, 1) := dk_30 (dk_at dksJ0_reverse_0 7 rfl rfl)
theorem dJ0_reverse_8 : decode cJ0_reverse 8 = .ok (.iconst 1, 1) := dk_4 (dk_at dksJ0_reverse_0 8 rfl rfl)
theorem dJ0_reverse_9 : decode cJ0_reverse 9 = .ok (.lushr, 1) := dk_125 (dk_at dksJ0_reverse_0 9 rfl rfl)
theorem dJ0_reverse_10 : decode cJ0_reverse 10 = .ok (.ldc2_w 314, 3) := dk_20 1 58 (dk_at dksJ0_reverse_0 10 rfl rfl)
theorem dJ0_reverse_13 : decode cJ0_reverse 13 = .ok (.land, 1) := dk_127 (dk_at dksJ0_reverse_0 13 rfl rfl)
theorem dJ0_reverse_14 : decode cJ0_reverse 14 = .ok (.lor, 1) := dk_129 (dk_at dksJ0_reverse_0 14 rfl rfl)
theorem dJ0_reverse_15 : decode cJ0_reverse 15 = .ok (.lstore_n 0, 1) := dk_63 (dk_at dksJ0_reverse_0 15 rfl rfl)
theorem dJ0_reverse_16 : decode cJ0_reverse 16 = .ok (.lload_n 0, 1) := dk_30 (dk_at dksJ0_reverse_0 16 rfl rfl)
theorem dJ0_reverse_17 : decode cJ0_reverse 17 = .ok (.ldc2_w 316, 3) := dk_20 1 60 (dk_at dksJ0_reverse_0 17 rfl rfl)
theorem dJ0_reverse_20 : decode cJ0_reverse 20 = .ok (.land, 1) := dk_127 (dk_at dksJ0_reverse_0 20 rfl rfl)
theorem dJ0_reverse_21 : decode cJ0_reverse 21 = .ok (.iconst 2, 1) := dk_5 (dk_at dksJ0_reverse_0 21 rfl rfl)
theorem dJ0_reverse_22 : decode cJ0_reverse 22 = .ok (.lshl, 1) := dk_121 (dk_at dksJ0_reverse_0 22 rfl rfl)
theorem dJ0_reverse_23 : decode cJ0_reverse 23 = .ok (.lload_n 0, 1) := dk_30 (dk_at dksJ0_reverse_0 23 rfl rfl)
theorem dJ0_reverse_24 : decode cJ0_reverse 24 = .ok (.iconst 2, 1) := dk_5 (dk_at dksJ0_reverse_1 0 rfl rfl)
theorem dJ0_reverse_25 : decode cJ0_reverse 25 = .ok (.lushr, 1) := dk_125 (dk_at dksJ0_reverse_1 1 rfl rfl)
theorem dJ0_reverse_26 : decode cJ0_reverse 26 = .ok (.ldc2_w 316, 3) := dk_20 1 60 (dk_at dksJ0_reverse_1 2 rfl rfl)
theorem dJ0_reverse_29 : decode cJ0_reverse 29 = .ok (.land, 1) := dk_127 (dk_at dksJ0_reverse_1 5 rfl rfl)
theorem dJ0_reverse_30 : decode cJ0_reverse 30 = .ok (.lor, 1) := dk_129 (dk_at dksJ0_reverse_1 6 rfl rfl)
theorem dJ0_reverse_31 : decode cJ0_reverse 31 = .ok (.lstore_n 0, 1) := dk_63 (dk_at dksJ0_reverse_1 7 rfl rfl)
theorem dJ0_reverse_32 : decode cJ0_reverse 32 = .ok (.lload_n 0, 1) := dk_30 (dk_at dksJ0_reverse_1 8 rfl rfl)
theorem dJ0_reverse_33 : decode cJ0_reverse 33 = .ok (.ldc2_w 318, 3) := dk_20 1 62 (dk_at dksJ0_reverse_1 9 rfl rfl)
theorem dJ0_reverse_36 : decode cJ0_reverse 36 = .ok (.land, 1) := dk_127 (dk_at dksJ0_reverse_1 12 rfl rfl)
theorem dJ0_reverse_37 : decode cJ0_reverse 37 = .ok (.iconst 4, 1) := dk_7 (dk_at dksJ0_reverse_1 13 rfl rfl)
theorem dJ0_reverse_38 : decode cJ0_reverse 38 = .ok (.lshl, 1) := dk_121 (dk_at dksJ0_reverse_1 14 rfl rfl)
theorem dJ0_reverse_39 : decode cJ0_reverse 39 = .ok (.lload_n 0, 1) := dk_30 (dk_at dksJ0_reverse_1 15 rfl rfl)
theorem dJ0_reverse_40 : decode cJ0_reverse 40 = .ok (.iconst 4, 1) := dk_7 (dk_at dksJ0_reverse_1 16 rfl rfl)
theorem dJ0_reverse_41 : decode cJ0_reverse 41 = .ok (.lushr, 1) := dk_125 (dk_at dksJ0_reverse_1 17 rfl rfl)
theorem dJ0_reverse_42 : decode cJ0_reverse 42 = .ok (.ldc2_w 318, 3) := dk_20 1 62 (dk_at dksJ0_reverse_1 18 rfl rfl)
theorem dJ0_reverse_45 : decode cJ0_reverse 45 = .ok (.land, 1) := dk_127 (dk_at dksJ0_reverse_1 21 rfl rfl)
theorem dJ0_reverse_46 : decode cJ0_reverse 46 = .ok (.lor, 1) := dk_129 (dk_at dksJ0_reverse_1 22 rfl rfl)
theorem dJ0_reverse_47 : decode cJ0_reverse 47 = .ok (.lstore_n 0, 1) := dk_63 (dk_at dksJ0_reverse_1 23 rfl rfl)
theorem dJ0_reverse_48 : decode cJ0_reverse 48 = .ok (.lload_n 0, 1) := dk_30 (dk_at dksJ0_reverse_2 0 rfl rfl)
theorem dJ0_reverse_49 : decode cJ0_reverse 49 = .ok (.invokestatic 320, 3) := dk_184 1 64 (dk_at dksJ0_reverse_2 1 rfl rfl)
theorem dJ0_reverse_52 : decode cJ0_reverse 52 = .ok (.lreturn, 1) := dk_173 (dk_at dksJ0_reverse_2 4 rfl rfl)
abbrev cJ0_reverseBytes : ByteArray := prog_10_method_58_code
def yJ0_reverseBytes : MethodName := ⟨RJ0, "reverseBytes", "(J)J"⟩
def dkwJ0_reverseBytes_1 : List UInt8 := [20, 1, 73, 127, 16, 16, 121, 129, 30, 16, 16, 125, 20, 1, 73, 127, 129, 30, 16, 48, 125, 129, 173]
abbrev dktJ0_reverseBytes_1 : List UInt8 := dkwJ0_reverseBytes_1 ++ []
def dkwJ0_reverseBytes_0 : List UInt8 := [30, 20, 1, 71, 127, 16, 8, 121, 30, 16, 8, 125, 20, 1, 71, 127, 129, 63, 30, 16, 48, 121, 30]
abbrev dktJ0_reverseBytes_0 : List UInt8 := dkwJ0_reverseBytes_0 ++ dktJ0_reverseBytes_1
theorem dksJ0_reverseBytes_0 : cJ0_reverseBytes.data.toList.drop 0 = dktJ0_reverseBytes_0 := by decide +kernel
theorem dksJ0_reverseBytes_1 : cJ0_reverseBytes.data.toList.drop 23 = dktJ0_reverseBytes_1 := dk_seg dksJ0_reverseBytes_0 23 rfl rfl
theorem dJ0_reverseBytes_0 : decode cJ0_reverseBytes 0 = .ok (.lload_n 0, 1) := dk_30 (dk_at dksJ0_reverseBytes_0 0 rfl rfl)
theorem dJ0_reverseBytes_1 : decode cJ0_reverseBytes 1 = .ok (.ldc2_w 327, 3) := dk_20 1 71 (dk_at dksJ0_reverseBytes_0 1 rfl rfl)
theorem dJ0_reverseBytes_4 : decode cJ0_reverseBytes 4 = .ok (.land, 1) := dk_127 (dk_at dksJ0_reverseBytes_0 4 rfl rfl)
theorem dJ0_reverseBytes_5 : decode cJ0_reverseBytes 5 = .ok (.bipush 8, 2) := dk_16 8 (dk_at dksJ0_reverseBytes_0 5 rfl rfl)
theorem dJ0_reverseBytes_7 : decode cJ0_reverseBytes 7 = .ok (.lshl, 1) := dk_121 (dk_at dksJ0_reverseBytes_0 7 rfl rfl)
theorem dJ0_reverseBytes_8 : decode cJ0_reverseBytes 8 = .ok (.lload_n 0, 1) := dk_30 (dk_at dksJ0_reverseBytes_0 8 rfl rfl)
theorem dJ0_reverseBytes_9 : decode cJ0_reverseBytes 9 = .ok (.bipush 8, 2) := dk_16 8 (dk_at dksJ0_reverseBytes_0 9 rfl rfl)
theorem dJ0_reverseBytes_11 : decode cJ0_reverseBytes 11 = .ok (.lushr, 1) := dk_125 (dk_at dksJ0_reverseBytes_0 11 rfl rfl)
theorem dJ0_reverseBytes_12 : decode cJ0_reverseBytes 12 = .ok (.ldc2_w 327, 3) := dk_20 1 71 (dk_at dksJ0_reverseBytes_0 12 rfl rfl)
theorem dJ0_reverseBytes_15 : decode cJ0_reverseBytes 15 = .ok (.land, 1) := dk_127 (dk_at dksJ0_reverseBytes_0 15 rfl rfl)
theorem dJ0_reverseBytes_16 : decode cJ0_reverseBytes 16 = .ok (.lor, 1) := dk_129 (dk_at dksJ0_reverseBytes_0 16 rfl rfl)
theorem dJ0_reverseBytes_17 : decode cJ0_reverseBytes 17 = .ok (.lstore_n 0, 1) := dk_63 (dk_at dksJ0_reverseBytes_0 17 rfl rfl)
theorem dJ0_reverseBytes_18 : decode cJ0_reverseBytes 18 = .ok (.lload_n 0, 1) := dk_30 (dk_at dksJ0_reverseBytes_0 18 rfl rfl)
theorem dJ0_reverseBytes_19 : decode cJ0_reverseBytes 19 = .ok (.bipush 48, 2) := dk_16 48 (dk_at dksJ0_reverseBytes_0 19 rfl rfl)
theorem dJ0_reverseBytes_21 : decode cJ0_reverseBytes 21 = .ok (.lshl, 1) := dk_121 (dk_at dksJ0_reverseBytes_0 21 rfl rfl)
theorem dJ0_reverseBytes_22 : decode cJ0_reverseBytes 22 = .ok (.lload_n 0, 1) := dk_30 (dk_at dksJ0_reverseBytes_0 22 rfl rfl)
theorem dJ0_reverseBytes_23 : decode cJ0_reverseBytes 23 = .ok (.ldc2_w 329, 3) := dk_20 1 73 (dk_at dksJ0_reverseBytes_1 0 rfl rfl)
theorem dJ0_reverseBytes_26 : decode cJ0_reverseBytes 26 = .ok (.land, 1) := dk_127 (dk_at dksJ0_reverseBytes_1 3 rfl rfl)
theorem dJ0_reverseBytes_27 : decode cJ0_reverseBytes 27 = .ok (.bipush 16, 2) := dk_16 16 (dk_at dksJ0_reverseBytes_1 4 rfl rfl)
theorem dJ0_reverseBytes_29 : decode cJ0_reverseBytes 29 = .ok (.lshl, 1) := dk_121 (dk_at dksJ0_reverseBytes_1 6 rfl rfl)
theorem dJ0_reverseBytes_30 : decode cJ0_reverseBytes 30 = .ok (.lor, 1) := dk_129 (dk_at dksJ0_reverseBytes_1 7 rfl rfl)
theorem dJ0_reverseBytes_31 : decode cJ0_reverseBytes 31 = .ok (.lload_n 0, 1) := dk_30 (dk_at dksJ0_reverseBytes_1 8 rfl rfl)
theorem dJ0_reverseBytes_32 : decode cJ0_reverseBytes 32 = .ok (.bipush 16, 2) := dk_16 16 (dk_at dksJ0_reverseBytes_1 9 rfl rfl)
theorem dJ0_reverseBytes_34 : decode cJ0_reverseBytes 34 = .ok (.lushr, 1) := dk_125 (dk_at dksJ0_reverseBytes_1 11 rfl rfl)
theorem dJ0_reverseBytes_35 : decode cJ0_reverseBytes 35 = .ok (.ldc2_w 329, 3) := dk_20 1 73 (dk_at dksJ0_reverseBytes_1 12 rfl rfl)
theorem dJ0_reverseBytes_38 : decode cJ0_reverseBytes 38 = .ok (.land, 1) := dk_127 (dk_at dksJ0_reverseBytes_1 15 rfl rfl)
theorem dJ0_reverseBytes_39 : decode cJ0_reverseBytes 39 = .ok (.lor, 1) := dk_129 (dk_at dksJ0_reverseBytes_1 16 rfl rfl)
theorem dJ0_reverseBytes_40 : decode cJ0_reverseBytes 40 = .ok (.lload_n 0, 1) := dk_30 (dk_at dksJ0_reverseBytes_1 17 rfl rfl)
theorem dJ0_reverseBytes_41 : decode cJ0_reverseBytes 41 = .ok (.bipush 48, 2) := dk_16 48 (dk_at dksJ0_reverseBytes_1 18 rfl rfl)
theorem dJ0_reverseBytes_43 : decode cJ0_reverseBytes 43 = .ok (.lushr, 1) := dk_125 (dk_at dksJ0_reverseBytes_1 20 rfl rfl)
theorem dJ0_reverseBytes_44 : decode cJ0_reverseBytes 44 = .ok (.lor, 1) := dk_129 (dk_at dksJ0_reverseBytes_1 21 rfl rfl)
theorem dJ0_reverseBytes_45 : decode cJ0_reverseBytes 45 = .ok (.lreturn, 1) := dk_173 (dk_at dksJ0_reverseBytes_1 22 rfl rfl)
theorem q8 : (Jvm.Cond.initialized "java/lang/Long") ∈ lw_all := lw_g (lw_at lw_m0 8 rfl) rfl
theorem q93 : (Jvm.Cond.static ({ cls := "java/lang/Long", name := "reverse", desc := "(J)J" } : Jvm.MethodName)) ∈ lw_all := lw_g (lw_at lw_m0 93 rfl) rfl
theorem q94 : (Jvm.Cond.code ({ cls := "java/lang/Long", name := "reverse", desc := "(J)J" } : Jvm.MethodName) prog_10_method_53_code (2 : Nat) (Option.some Jvm.ClassFile.FieldType.long)) ∈ lw_all := lw_g (lw_at lw_m0 94 rfl) rfl
theorem q95 : (Jvm.Cond.constantLong "java/lang/Long" (314 : Nat) (6148914691236517205 : Int64)) ∈ lw_all := lw_g (lw_at lw_m0 95 rfl) rfl
theorem q96 : (Jvm.Cond.constantLong "java/lang/Long" (316 : Nat) (3689348814741910323 : Int64)) ∈ lw_all := lw_g (lw_at lw_m0 96 rfl) rfl
theorem q97 : (Jvm.Cond.constantLong "java/lang/Long" (318 : Nat) (1085102592571150095 : Int64)) ∈ lw_all := lw_g (lw_at lw_m0 97 rfl) rfl
theorem q98 : (Jvm.Cond.methodLink "java/lang/Long" (320 : Nat) ({ cls := "java/lang/Long", name := "reverseBytes", desc := "(J)J" } : Jvm.MethodName)) ∈ lw_all := lw_g (lw_at lw_m0 98 rfl) rfl
theorem q99 : (Jvm.Cond.static ({ cls := "java/lang/Long", name := "reverseBytes", desc := "(J)J" } : Jvm.MethodName)) ∈ lw_all := lw_g (lw_at lw_m0 99 rfl) rfl
theorem q100 : (Jvm.Cond.code ({ cls := "java/lang/Long", name := "reverseBytes", desc := "(J)J" } : Jvm.MethodName) prog_10_method_58_code (2 : Nat) (Option.some Jvm.ClassFile.FieldType.long)) ∈ lw_all := lw_g (lw_at lw_m0 100 rfl) rfl
theorem q101 : (Jvm.Cond.constantLong "java/lang/Long" (327 : Nat) (71777214294589695 : Int64)) ∈ lw_all := lw_g (lw_at lw_m0 101 rfl) rfl
theorem q102 : (Jvm.Cond.constantLong "java/lang/Long" (329 : Nat) (4294901760 : Int64)) ∈ lw_all := lw_g (lw_at lw_m0 102 rfl) rfl
/-! FieldPowerDesk -/
set_option maxRecDepth 100000
def RX1 : String := "FieldPowerDesk"
def TX1 : u_T := fun k => match k with
  | 0 => ("FieldPowerDesk", "base", "[B", true)
  | 1 => ("FieldPowerDesk", "out", "[B", true)
  | _ => ("FieldPowerDesk", "run", "LBasicGCMExponentiator;", false)
def tyX1 : Nat → FieldType := fun k => match k with
  | 0 => .array .byte
  | 1 => .array .byte
  | _ => .object "BasicGCMExponentiator"
abbrev wsX10 : List Cond := u_ws RX1 TX1 3
theorem nmX1 : ∀ a, a < 3 → ∀ b, b < 3 → a ≠ b → (TX1 a).2.1 ≠ (TX1 b).2.1 := by decide +kernel
theorem tyX1_ok : ∀ k, k < 3 → parseFieldDescriptor (TX1 k).2.2.1 = some (tyX1 k) := by decide +kernel
abbrev cX1_init : ByteArray := prog_2_method_1_code
def yX1_init : MethodName := ⟨RX1, "<init>", "()V"⟩
def dkwX1_init_0 : List UInt8 := [42, 183, 0, 1, 42, 16, 16, 188, 8, 181, 0, 7, 42, 16, 16, 188, 8, 181, 0, 13, 177]
abbrev dktX1_init_0 : List UInt8 := dkwX1_init_0 ++ []
theorem dksX1_init_0 : cX1_init.data.toList.drop 0 = dktX1_init_0 := by decide +kernel
theorem dX1_init_0 : decode cX1_init 0 = .ok (.aload_n 0, 1) := dk_42 (dk_at dksX1_init_0 0 rfl rfl)
theorem dX1_init_1 : decode cX1_init 1 = .ok (.invokespecial 1, 3) := dk_183 0 1 (dk_at dksX1_init_0 1 rfl rfl)
theorem dX1_init_4 : decode cX1_init 4 = .ok (.aload_n 0, 1) := dk_42 (dk_at dksX1_init_0 4 rfl rfl)
theorem dX1_init_5 : decode cX1_init 5 = .ok (.bipush 16, 2) := dk_16 16 (dk_at dksX1_init_0 5 rfl rfl)
theorem dX1_init_7 : decode cX1_init 7 = .ok (.newarray .byte, 2) := dk_188_8 (dk_at dksX1_init_0 7 rfl rfl)
theorem dX1_init_9 : decode cX1_init 9 = .ok (.putfield 7, 3) := dk_181 0 7 (dk_at dksX1_init_0 9 rfl rfl)
theorem dX1_init_12 : decode cX1_init 12 = .ok (.aload_n 0, 1) := dk_42 (dk_at dksX1_init_0 12 rfl rfl)
theorem dX1_init_13 : decode cX1_init 13 = .ok (.bipush 16, 2) := dk_16 16 (dk_at dksX1_init_0 13 rfl rfl)
theorem dX1_init_15 : decode cX1_init 15 = .ok (.newarray .byte, 2) := dk_188_8 (dk_at dksX1_init_0 15 rfl rfl)
theorem dX1_init_17 : decode cX1_init 17 = .ok (.putfield 13, 3) := dk_181 0 13 (dk_at dksX1_init_0 17 rfl rfl)
theorem dX1_init_20 : decode cX1_init 20 = .ok (.return_, 1) := dk_177 (dk_at dksX1_init_0 20 rfl rfl)
abbrev cX1_base : ByteArray := prog_2_method_3_code
def yX1_base : MethodName := ⟨RX1, "base", "(IIII)V"⟩
def dkwX1_base_1 : List UInt8 := [29, 184, 0, 16, 42, 180, 0, 7, 16, 12, 21, 4, 184, 0, 16, 177]
abbrev dktX1_base_1 : List UInt8 := dkwX1_base_1 ++ []
def dkwX1_base_0 : List UInt8 := [42, 180, 0, 7, 3, 27, 184, 0, 16, 42, 180, 0, 7, 7, 28, 184, 0, 16, 42, 180, 0, 7, 16, 8]
abbrev dktX1_base_0 : List UInt8 := dkwX1_base_0 ++ dktX1_base_1
theorem dksX1_base_0 : cX1_base.data.toList.drop 0 = dktX1_base_0 := by decide +kernel
theorem dksX1_base_1 : cX1_base.data.toList.drop 24 = dktX1_base_1 := dk_seg dksX1_base_0 24 rfl rfl
theorem dX1_base_0 : decode cX1_base 0 = .ok (.aload_n 0, 1) := dk_42 (dk_at dksX1_base_0 0 rfl rfl)
theorem dX1_base_1 : decode cX1_base 1 = .ok (.getfield 7, 3) := dk_180 0 7 (dk_at dksX1_base_0 1 rfl rfl)
theorem dX1_base_4 : decode cX1_base 4 = .ok (.iconst 0, 1) := dk_3 (dk_at dksX1_base_0 4 rfl rfl)
theorem dX1_base_5 : decode cX1_base 5 = .ok (.iload_n 1, 1) := dk_27 (dk_at dksX1_base_0 5 rfl rfl)
theorem dX1_base_6 : decode cX1_base 6 = .ok (.invokestatic 16, 3) := dk_184 0 16 (dk_at dksX1_base_0 6 rfl rfl)
theorem dX1_base_9 : decode cX1_base 9 = .ok (.aload_n 0, 1) := dk_42 (dk_at dksX1_base_0 9 rfl rfl)
theorem dX1_base_10 : decode cX1_base 10 = .ok (.getfield 7, 3) := dk_180 0 7 (dk_at dksX1_base_0 10 rfl rfl)
theorem dX1_base_13 : decode cX1_base 13 = .ok (.iconst 4, 1) := dk_7 (dk_at dksX1_base_0 13 rfl rfl)
theorem dX1_base_14 : decode cX1_base 14 = .ok (.iload_n 2, 1) := dk_28 (dk_at dksX1_base_0 14 rfl rfl)
theorem dX1_base_15 : decode cX1_base 15 = .ok (.invokestatic 16, 3) := dk_184 0 16 (dk_at dksX1_base_0 15 rfl rfl)
theorem dX1_base_18 : decode cX1_base 18 = .ok (.aload_n 0, 1) := dk_42 (dk_at dksX1_base_0 18 rfl rfl)
theorem dX1_base_19 : decode cX1_base 19 = .ok (.getfield 7, 3) := dk_180 0 7 (dk_at dksX1_base_0 19 rfl rfl)
theorem dX1_base_22 : decode cX1_base 22 = .ok (.bipush 8, 2) := dk_16 8 (dk_at dksX1_base_0 22 rfl rfl)
theorem dX1_base_24 : decode cX1_base 24 = .ok (.iload_n 3, 1) := dk_29 (dk_at dksX1_base_1 0 rfl rfl)
theorem dX1_base_25 : decode cX1_base 25 = .ok (.invokestatic 16, 3) := dk_184 0 16 (dk_at dksX1_base_1 1 rfl rfl)
theorem dX1_base_28 : decode cX1_base 28 = .ok (.aload_n 0, 1) := dk_42 (dk_at dksX1_base_1 4 rfl rfl)
theorem dX1_base_29 : decode cX1_base 29 = .ok (.getfield 7, 3) := dk_180 0 7 (dk_at dksX1_base_1 5 rfl rfl)
theorem dX1_base_32 : decode cX1_base 32 = .ok (.bipush 12, 2) := dk_16 12 (dk_at dksX1_base_1 8 rfl rfl)
theorem dX1_base_34 : decode cX1_base 34 = .ok (.iload 4, 2) := dk_21 4 (dk_at dksX1_base_1 10 rfl rfl)
theorem dX1_base_36 : decode cX1_base 36 = .ok (.invokestatic 16, 3) := dk_184 0 16 (dk_at dksX1_base_1 12 rfl rfl)
theorem dX1_base_39 : decode cX1_base 39 = .ok (.return_, 1) := dk_177 (dk_at dksX1_base_1 15 rfl rfl)
abbrev cX1_word : ByteArray := prog_2_method_2_code
def yX1_word : MethodName := ⟨RX1, "word", "([BII)V"⟩
def dkwX1_word_1 : List UInt8 := [16, 8, 122, 145, 84, 42, 27, 6, 96, 28, 145, 84, 177]
abbrev dktX1_word_1 : List UInt8 := dkwX1_word_1 ++ []
def dkwX1_word_0 : List UInt8 := [42, 27, 28, 16, 24, 122, 145, 84, 42, 27, 4, 96, 28, 16, 16, 122, 145, 84, 42, 27, 5, 96, 28]
abbrev dktX1_word_0 : List UInt8 := dkwX1_word_0 ++ dktX1_word_1
theorem dksX1_word_0 : cX1_word.data.toList.drop 0 = dktX1_word_0 := by decide +kernel
theorem dksX1_word_1 : cX1_word.data.toList.drop 23 = dktX1_word_1 := dk_seg dksX1_word_0 23 rfl rfl
theorem dX1_word_0 : decode cX1_word 0 = .ok (.aload_n 0, 1) := dk_42 (dk_at dksX1_word_0 0 rfl rfl)
theorem dX1_word_1 : decode cX1_word 1 = .ok (.iload_n 1, 1) := dk_27 (dk_at dksX1_word_0 1 rfl rfl)
theorem dX1_word_2 : decode cX1_word 2 = .ok (.iload_n 2, 1) := dk_28 (dk_at dksX1_word_0 2 rfl rfl)
theorem dX1_word_3 : decode cX1_word 3 = .ok (.bipush 24, 2) := dk_16 24 (dk_at dksX1_word_0 3 rfl rfl)
theorem dX1_word_5 : decode cX1_word 5 = .ok (.ishr, 1) := dk_122 (dk_at dksX1_word_0 5 rfl rfl)
theorem dX1_word_6 : decode cX1_word 6 = .ok (.i2b, 1) := dk_145 (dk_at dksX1_word_0 6 rfl rfl)
theorem dX1_word_7 : decode cX1_word 7 = .ok (.bastore, 1) := dk_84 (dk_at dksX1_word_0 7 rfl rfl)
theorem dX1_word_8 : decode cX1_word 8 = .ok (.aload_n 0, 1) := dk_42 (dk_at dksX1_word_0 8 rfl rfl)
theorem dX1_word_9 : decode cX1_word 9 = .ok (.iload_n 1, 1) := dk_27 (dk_at dksX1_word_0 9 rfl rfl)
theorem dX1_word_10 : decode cX1_word 10 = .ok (.iconst 1, 1) := dk_4 (dk_at dksX1_word_0 10 rfl rfl)
theorem dX1_word_11 : decode cX1_word 11 = .ok (.iadd, 1) := dk_96 (dk_at dksX1_word_0 11 rfl rfl)
theorem dX1_word_12 : decode cX1_word 12 = .ok (.iload_n 2, 1) := dk_28 (dk_at dksX1_word_0 12 rfl rfl)
theorem dX1_word_13 : decode cX1_word 13 = .ok (.bipush 16, 2) := dk_16 16 (dk_at dksX1_word_0 13 rfl rfl)
theorem dX1_word_15 : decode cX1_word 15 = .ok (.ishr, 1) := dk_122 (dk_at dksX1_word_0 15 rfl rfl)
theorem dX1_word_16 : decode cX1_word 16 = .ok (.i2b, 1) := dk_145 (dk_at dksX1_word_0 16 rfl rfl)
theorem dX1_word_17 : decode cX1_word 17 = .ok (.bastore, 1) := dk_84 (dk_at dksX1_word_0 17 rfl rfl)
theorem dX1_word_18 : decode cX1_word 18 = .ok (.aload_n 0, 1) := dk_42 (dk_at dksX1_word_0 18 rfl rfl)
theorem dX1_word_19 : decode cX1_word 19 = .ok (.iload_n 1, 1) := dk_27 (dk_at dksX1_word_0 19 rfl rfl)
theorem dX1_word_20 : decode cX1_word 20 = .ok (.iconst 2, 1) := dk_5 (dk_at dksX1_word_0 20 rfl rfl)
theorem dX1_word_21 : decode cX1_word 21 = .ok (.iadd, 1) := dk_96 (dk_at dksX1_word_0 21 rfl rfl)
theorem dX1_word_22 : decode cX1_word 22 = .ok (.iload_n 2, 1) := dk_28 (dk_at dksX1_word_0 22 rfl rfl)
theorem dX1_word_23 : decode cX1_word 23 = .ok (.bipush 8, 2) := dk_16 8 (dk_at dksX1_word_1 0 rfl rfl)
theorem dX1_word_25 : decode cX1_word 25 = .ok (.ishr, 1) := dk_122 (dk_at dksX1_word_1 2 rfl rfl)
theorem dX1_word_26 : decode cX1_word 26 = .ok (.i2b, 1) := dk_145 (dk_at dksX1_word_1 3 rfl rfl)
theorem dX1_word_27 : decode cX1_word 27 = .ok (.bastore, 1) := dk_84 (dk_at dksX1_word_1 4 rfl rfl)
theorem dX1_word_28 : decode cX1_word 28 = .ok (.aload_n 0, 1) := dk_42 (dk_at dksX1_word_1 5 rfl rfl)
theorem dX1_word_29 : decode cX1_word 29 = .ok (.iload_n 1, 1) := dk_27 (dk_at dksX1_word_1 6 rfl rfl)
theorem dX1_word_30 : decode cX1_word 30 = .ok (.iconst 3, 1) := dk_6 (dk_at dksX1_word_1 7 rfl rfl)
theorem dX1_word_31 : decode cX1_word 31 = .ok (.iadd, 1) := dk_96 (dk_at dksX1_word_1 8 rfl rfl)
theorem dX1_word_32 : decode cX1_word 32 = .ok (.iload_n 2, 1) := dk_28 (dk_at dksX1_word_1 9 rfl rfl)
theorem dX1_word_33 : decode cX1_word 33 = .ok (.i2b, 1) := dk_145 (dk_at dksX1_word_1 10 rfl rfl)
theorem dX1_word_34 : decode cX1_word 34 = .ok (.bastore, 1) := dk_84 (dk_at dksX1_word_1 11 rfl rfl)
theorem dX1_word_35 : decode cX1_word 35 = .ok (.return_, 1) := dk_177 (dk_at dksX1_word_1 12 rfl rfl)
abbrev cX1_begin : ByteArray := prog_2_method_4_code
def yX1_begin : MethodName := ⟨RX1, "begin", "()V"⟩
def dkwX1_begin_2 : List UInt8 := [182, 0, 27, 177]
abbrev dktX1_begin_2 : List UInt8 := dkwX1_begin_2 ++ []
def dkwX1_begin_1 : List UInt8 := [132, 2, 1, 167, 255, 238, 42, 187, 0, 20, 89, 183, 0, 22, 181, 0, 23, 42, 180, 0, 23, 43]
abbrev dktX1_begin_1 : List UInt8 := dkwX1_begin_1 ++ dktX1_begin_2
def dkwX1_begin_0 : List UInt8 := [16, 16, 188, 8, 76, 3, 61, 28, 16, 16, 162, 0, 18, 43, 28, 42, 180, 0, 7, 28, 51, 84]
abbrev dktX1_begin_0 : List UInt8 := dkwX1_begin_0 ++ dktX1_begin_1
theorem dksX1_begin_0 : cX1_begin.data.toList.drop 0 = dktX1_begin_0 := by decide +kernel
theorem dksX1_begin_1 : cX1_begin.data.toList.drop 22 = dktX1_begin_1 := dk_seg dksX1_begin_0 22 rfl rfl
theorem dksX1_begin_2 : cX1_begin.data.toList.drop 44 = dktX1_begin_2 := dk_seg dksX1_begin_1 22 rfl rfl
theorem dX1_begin_0 : decode cX1_begin 0 = .ok (.bipush 16, 2) := dk_16 16 (dk_at dksX1_begin_0 0 rfl rfl)
theorem dX1_begin_2 : decode cX1_begin 2 = .ok (.newarray .byte, 2) := dk_188_8 (dk_at dksX1_begin_0 2 rfl rfl)
theorem dX1_begin_4 : decode cX1_begin 4 = .ok (.astore_n 1, 1) := dk_76 (dk_at dksX1_begin_0 4 rfl rfl)
theorem dX1_begin_5 : decode cX1_begin 5 = .ok (.iconst 0, 1) := dk_3 (dk_at dksX1_begin_0 5 rfl rfl)
theorem dX1_begin_6 : decode cX1_begin 6 = .ok (.istore_n 2, 1) := dk_61 (dk_at dksX1_begin_0 6 rfl rfl)
theorem dX1_begin_7 : decode cX1_begin 7 = .ok (.iload_n 2, 1) := dk_28 (dk_at dksX1_begin_0 7 rfl rfl)
theorem dX1_begin_8 : decode cX1_begin 8 = .ok (.bipush 16, 2) := dk_16 16 (dk_at dksX1_begin_0 8 rfl rfl)
theorem dX1_begin_10 : decode cX1_begin 10 = .ok (.if_icmp .ge 18, 3) := dk_162 0 18 (dk_at dksX1_begin_0 10 rfl rfl)
theorem dX1_begin_13 : decode cX1_begin 13 = .ok (.aload_n 1, 1) := dk_43 (dk_at dksX1_begin_0 13 rfl rfl)
theorem dX1_begin_14 : decode cX1_begin 14 = .ok (.iload_n 2, 1) := dk_28 (dk_at dksX1_begin_0 14 rfl rfl)
theorem dX1_begin_15 : decode cX1_begin 15 = .ok (.aload_n 0, 1) := dk_42 (dk_at dksX1_begin_0 15 rfl rfl)
theorem dX1_begin_16 : decode cX1_begin 16 = .ok (.getfield 7, 3) := dk_180 0 7 (dk_at dksX1_begin_0 16 rfl rfl)
theorem dX1_begin_19 : decode cX1_begin 19 = .ok (.iload_n 2, 1) := dk_28 (dk_at dksX1_begin_0 19 rfl rfl)
theorem dX1_begin_20 : decode cX1_begin 20 = .ok (.baload, 1) := dk_51 (dk_at dksX1_begin_0 20 rfl rfl)
theorem dX1_begin_21 : decode cX1_begin 21 = .ok (.bastore, 1) := dk_84 (dk_at dksX1_begin_0 21 rfl rfl)
theorem dX1_begin_22 : decode cX1_begin 22 = .ok (.iinc 2 1, 3) := dk_132 2 1 (dk_at dksX1_begin_1 0 rfl rfl)
theorem dX1_begin_25 : decode cX1_begin 25 = .ok (.goto (-18), 3) := dk_167 255 238 (dk_at dksX1_begin_1 3 rfl rfl)
theorem dX1_begin_28 : decode cX1_begin 28 = .ok (.aload_n 0, 1) := dk_42 (dk_at dksX1_begin_1 6 rfl rfl)
theorem dX1_begin_29 : decode cX1_begin 29 = .ok (.new 20, 3) := dk_187 0 20 (dk_at dksX1_begin_1 7 rfl rfl)
theorem dX1_begin_32 : decode cX1_begin 32 = .ok (.dup, 1) := dk_89 (dk_at dksX1_begin_1 10 rfl rfl)
theorem dX1_begin_33 : decode cX1_begin 33 = .ok (.invokespecial 22, 3) := dk_183 0 22 (dk_at dksX1_begin_1 11 rfl rfl)
theorem dX1_begin_36 : decode cX1_begin 36 = .ok (.putfield 23, 3) := dk_181 0 23 (dk_at dksX1_begin_1 14 rfl rfl)
theorem dX1_begin_39 : decode cX1_begin 39 = .ok (.aload_n 0, 1) := dk_42 (dk_at dksX1_begin_1 17 rfl rfl)
theorem dX1_begin_40 : decode cX1_begin 40 = .ok (.getfield 23, 3) := dk_180 0 23 (dk_at dksX1_begin_1 18 rfl rfl)
theorem dX1_begin_43 : decode cX1_begin 43 = .ok (.aload_n 1, 1) := dk_43 (dk_at dksX1_begin_1 21 rfl rfl)
theorem dX1_begin_44 : decode cX1_begin 44 = .ok (.invokevirtual 27, 3) := dk_182 0 27 (dk_at dksX1_begin_2 0 rfl rfl)
theorem dX1_begin_47 : decode cX1_begin 47 = .ok (.return_, 1) := dk_177 (dk_at dksX1_begin_2 3 rfl rfl)
abbrev cX1_power : ByteArray := prog_2_method_5_code
def yX1_power : MethodName := ⟨RX1, "power", "(II)Z"⟩
def dkwX1_power_1 : List UInt8 := [20, 0, 32, 127, 129, 42, 180, 0, 13, 182, 0, 34, 4, 172]
abbrev dktX1_power_1 : List UInt8 := dkwX1_power_1 ++ []
def dkwX1_power_0 : List UInt8 := [42, 180, 0, 23, 199, 0, 5, 3, 172, 42, 180, 0, 23, 27, 18, 31, 126, 133, 16, 32, 121, 28, 133]
abbrev dktX1_power_0 : List UInt8 := dkwX1_power_0 ++ dktX1_power_1
theorem dksX1_power_0 : cX1_power.data.toList.drop 0 = dktX1_power_0 := by decide +kernel
theorem dksX1_power_1 : cX1_power.data.toList.drop 23 = dktX1_power_1 := dk_seg dksX1_power_0 23 rfl rfl
theorem dX1_power_0 : decode cX1_power 0 = .ok (.aload_n 0, 1) := dk_42 (dk_at dksX1_power_0 0 rfl rfl)
theorem dX1_power_1 : decode cX1_power 1 = .ok (.getfield 23, 3) := dk_180 0 23 (dk_at dksX1_power_0 1 rfl rfl)
theorem dX1_power_4 : decode cX1_power 4 = .ok (.ifnonnull 5, 3) := dk_199 0 5 (dk_at dksX1_power_0 4 rfl rfl)
theorem dX1_power_7 : decode cX1_power 7 = .ok (.iconst 0, 1) := dk_3 (dk_at dksX1_power_0 7 rfl rfl)
theorem dX1_power_8 : decode cX1_power 8 = .ok (.ireturn, 1) := dk_172 (dk_at dksX1_power_0 8 rfl rfl)
theorem dX1_power_9 : decode cX1_power 9 = .ok (.aload_n 0, 1) := dk_42 (dk_at dksX1_power_0 9 rfl rfl)
theorem dX1_power_10 : decode cX1_power 10 = .ok (.getfield 23, 3) := dk_180 0 23 (dk_at dksX1_power_0 10 rfl rfl)
theorem dX1_power_13 : decode cX1_power 13 = .ok (.iload_n 1, 1) := dk_27 (dk_at dksX1_power_0 13 rfl rfl)
theorem dX1_power_14 : decode cX1_power 14 = .ok (.ldc 31, 2) := dk_18 31 (dk_at dksX1_power_0 14 rfl rfl)
theorem dX1_power_16 : decode cX1_power 16 = .ok (.iand, 1) := dk_126 (dk_at dksX1_power_0 16 rfl rfl)
theorem dX1_power_17 : decode cX1_power 17 = .ok (.i2l, 1) := dk_133 (dk_at dksX1_power_0 17 rfl rfl)
theorem dX1_power_18 : decode cX1_power 18 = .ok (.bipush 32, 2) := dk_16 32 (dk_at dksX1_power_0 18 rfl rfl)
theorem dX1_power_20 : decode cX1_power 20 = .ok (.lshl, 1) := dk_121 (dk_at dksX1_power_0 20 rfl rfl)
theorem dX1_power_21 : decode cX1_power 21 = .ok (.iload_n 2, 1) := dk_28 (dk_at dksX1_power_0 21 rfl rfl)
theorem dX1_power_22 : decode cX1_power 22 = .ok (.i2l, 1) := dk_133 (dk_at dksX1_power_0 22 rfl rfl)
theorem dX1_power_23 : decode cX1_power 23 = .ok (.ldc2_w 32, 3) := dk_20 0 32 (dk_at dksX1_power_1 0 rfl rfl)
theorem dX1_power_26 : decode cX1_power 26 = .ok (.land, 1) := dk_127 (dk_at dksX1_power_1 3 rfl rfl)
theorem dX1_power_27 : decode cX1_power 27 = .ok (.lor, 1) := dk_129 (dk_at dksX1_power_1 4 rfl rfl)
theorem dX1_power_28 : decode cX1_power 28 = .ok (.aload_n 0, 1) := dk_42 (dk_at dksX1_power_1 5 rfl rfl)
theorem dX1_power_29 : decode cX1_power 29 = .ok (.getfield 13, 3) := dk_180 0 13 (dk_at dksX1_power_1 6 rfl rfl)
theorem dX1_power_32 : decode cX1_power 32 = .ok (.invokevirtual 34, 3) := dk_182 0 34 (dk_at dksX1_power_1 9 rfl rfl)
theorem dX1_power_35 : decode cX1_power 35 = .ok (.iconst 1, 1) := dk_4 (dk_at dksX1_power_1 12 rfl rfl)
theorem dX1_power_36 : decode cX1_power 36 = .ok (.ireturn, 1) := dk_172 (dk_at dksX1_power_1 13 rfl rfl)
abbrev cX1_out : ByteArray := prog_2_method_7_code
def yX1_out : MethodName := ⟨RX1, "out", "(I)I"⟩
def dkwX1_out_0 : List UInt8 := [42, 180, 0, 13, 27, 16, 15, 126, 51, 17, 0, 255, 126, 172]
abbrev dktX1_out_0 : List UInt8 := dkwX1_out_0 ++ []
theorem dksX1_out_0 : cX1_out.data.toList.drop 0 = dktX1_out_0 := by decide +kernel
theorem dX1_out_0 : decode cX1_out 0 = .ok (.aload_n 0, 1) := dk_42 (dk_at dksX1_out_0 0 rfl rfl)
theorem dX1_out_1 : decode cX1_out 1 = .ok (.getfield 13, 3) := dk_180 0 13 (dk_at dksX1_out_0 1 rfl rfl)
theorem dX1_out_4 : decode cX1_out 4 = .ok (.iload_n 1, 1) := dk_27 (dk_at dksX1_out_0 4 rfl rfl)
theorem dX1_out_5 : decode cX1_out 5 = .ok (.bipush 15, 2) := dk_16 15 (dk_at dksX1_out_0 5 rfl rfl)
theorem dX1_out_7 : decode cX1_out 7 = .ok (.iand, 1) := dk_126 (dk_at dksX1_out_0 7 rfl rfl)
theorem dX1_out_8 : decode cX1_out 8 = .ok (.baload, 1) := dk_51 (dk_at dksX1_out_0 8 rfl rfl)
theorem dX1_out_9 : decode cX1_out 9 = .ok (.sipush 255, 3) := dk_17 0 255 (dk_at dksX1_out_0 9 rfl rfl)
theorem dX1_out_12 : decode cX1_out 12 = .ok (.iand, 1) := dk_126 (dk_at dksX1_out_0 12 rfl rfl)
theorem dX1_out_13 : decode cX1_out 13 = .ok (.ireturn, 1) := dk_172 (dk_at dksX1_out_0 13 rfl rfl)
abbrev cX1_again : ByteArray := prog_2_method_6_code
def yX1_again : MethodName := ⟨RX1, "again", "()V"⟩
def dkwX1_again_1 : List UInt8 := [167, 255, 235, 177]
abbrev dktX1_again_1 : List UInt8 := dkwX1_again_1 ++ []
def dkwX1_again_0 : List UInt8 := [3, 60, 27, 16, 16, 162, 0, 21, 42, 180, 0, 7, 27, 42, 180, 0, 13, 27, 51, 84, 132, 1, 1]
abbrev dktX1_again_0 : List UInt8 := dkwX1_again_0 ++ dktX1_again_1
theorem dksX1_again_0 : cX1_again.data.toList.drop 0 = dktX1_again_0 := by decide +kernel
theorem dksX1_again_1 : cX1_again.data.toList.drop 23 = dktX1_again_1 := dk_seg dksX1_again_0 23 rfl rfl
theorem dX1_again_0 : decode cX1_again 0 = .ok (.iconst 0, 1) := dk_3 (dk_at dksX1_again_0 0 rfl rfl)
theorem dX1_again_1 : decode cX1_again 1 = .ok (.istore_n 1, 1) := dk_60 (dk_at dksX1_again_0 1 rfl rfl)
theorem dX1_again_2 : decode cX1_again 2 = .ok (.iload_n 1, 1) := dk_27 (dk_at dksX1_again_0 2 rfl rfl)
theorem dX1_again_3 : decode cX1_again 3 = .ok (.bipush 16, 2) := dk_16 16 (dk_at dksX1_again_0 3 rfl rfl)
theorem dX1_again_5 : decode cX1_again 5 = .ok (.if_icmp .ge 21, 3) := dk_162 0 21 (dk_at dksX1_again_0 5 rfl rfl)
theorem dX1_again_8 : decode cX1_again 8 = .ok (.aload_n 0, 1) := dk_42 (dk_at dksX1_again_0 8 rfl rfl)
theorem dX1_again_9 : decode cX1_again 9 = .ok (.getfield 7, 3) := dk_180 0 7 (dk_at dksX1_again_0 9 rfl rfl)
theorem dX1_again_12 : decode cX1_again 12 = .ok (.iload_n 1, 1) := dk_27 (dk_at dksX1_again_0 12 rfl rfl)
theorem dX1_again_13 : decode cX1_again 13 = .ok (.aload_n 0, 1) := dk_42 (dk_at dksX1_again_0 13 rfl rfl)
theorem dX1_again_14 : decode cX1_again 14 = .ok (.getfield 13, 3) := dk_180 0 13 (dk_at dksX1_again_0 14 rfl rfl)
theorem dX1_again_17 : decode cX1_again 17 = .ok (.iload_n 1, 1) := dk_27 (dk_at dksX1_again_0 17 rfl rfl)
theorem dX1_again_18 : decode cX1_again 18 = .ok (.baload, 1) := dk_51 (dk_at dksX1_again_0 18 rfl rfl)
theorem dX1_again_19 : decode cX1_again 19 = .ok (.bastore, 1) := dk_84 (dk_at dksX1_again_0 19 rfl rfl)
theorem dX1_again_20 : decode cX1_again 20 = .ok (.iinc 1 1, 3) := dk_132 1 1 (dk_at dksX1_again_0 20 rfl rfl)
theorem dX1_again_23 : decode cX1_again 23 = .ok (.goto (-21), 3) := dk_167 255 235 (dk_at dksX1_again_1 0 rfl rfl)
theorem dX1_again_26 : decode cX1_again 26 = .ok (.return_, 1) := dk_177 (dk_at dksX1_again_1 3 rfl rfl)
theorem q1 : (Jvm.Cond.initialized "FieldPowerDesk") ∈ lw_all := lw_g (lw_at lw_m0 1 rfl) rfl
theorem q12 : (Jvm.Cond.instantiable "FieldPowerDesk" (3 : Nat)) ∈ lw_all := lw_g (lw_at lw_m0 12 rfl) rfl
theorem q14 : (Jvm.Cond.instanceMethod ({ cls := "FieldPowerDesk", name := "<init>", desc := "()V" } : Jvm.MethodName)) ∈ lw_all := lw_g (lw_at lw_m0 14 rfl) rfl
theorem q15 : (Jvm.Cond.code ({ cls := "FieldPowerDesk", name := "<init>", desc := "()V" } : Jvm.MethodName) prog_2_method_1_code (1 : Nat) (Option.none : Option Jvm.ClassFile.FieldType)) ∈ lw_all := lw_g (lw_at lw_m0 15 rfl) rfl
theorem q16 : (Jvm.Cond.methodLink "FieldPowerDesk" (1 : Nat) ({ cls := "java/lang/Object", name := "<init>", desc := "()V" } : Jvm.MethodName)) ∈ lw_all := lw_g (lw_at lw_m0 16 rfl) rfl
theorem q19 : (Jvm.Cond.fieldLink "FieldPowerDesk" (7 : Nat) "FieldPowerDesk" "base" "[B") ∈ lw_all := lw_g (lw_at lw_m0 19 rfl) rfl
theorem q20 : (Jvm.Cond.fieldLink "FieldPowerDesk" (13 : Nat) "FieldPowerDesk" "out" "[B") ∈ lw_all := lw_g (lw_at lw_m0 20 rfl) rfl
theorem q21 : (Jvm.Cond.fieldLink "FieldPowerDesk" (23 : Nat) "FieldPowerDesk" "run" "LBasicGCMExponentiator;") ∈ lw_all := lw_g (lw_at lw_m0 21 rfl) rfl
theorem q22 : (Jvm.Cond.laysFinal "FieldPowerDesk" "FieldPowerDesk" "base" "[B") ∈ lw_all := lw_g (lw_at lw_m0 22 rfl) rfl
theorem q23 : (Jvm.Cond.soleField "FieldPowerDesk" "base") ∈ lw_all := lw_g (lw_at lw_m0 23 rfl) rfl
theorem q24 : (Jvm.Cond.laysFinal "FieldPowerDesk" "FieldPowerDesk" "out" "[B") ∈ lw_all := lw_g (lw_at lw_m0 24 rfl) rfl
theorem q25 : (Jvm.Cond.soleField "FieldPowerDesk" "out") ∈ lw_all := lw_g (lw_at lw_m0 25 rfl) rfl
theorem q26 : (Jvm.Cond.lays "FieldPowerDesk" "FieldPowerDesk" "run" "LBasicGCMExponentiator;") ∈ lw_all := lw_g (lw_at lw_m0 26 rfl) rfl
theorem q27 : (Jvm.Cond.soleField "FieldPowerDesk" "run") ∈ lw_all := lw_g (lw_at lw_m0 27 rfl) rfl
theorem q28 : (Jvm.Cond.superclass "FieldPowerDesk" "java/lang/Object") ∈ lw_all := lw_g (lw_at lw_m0 28 rfl) rfl
theorem q31 : (Jvm.Cond.instanceMethod ({ cls := "FieldPowerDesk", name := "base", desc := "(IIII)V" } : Jvm.MethodName)) ∈ lw_all := lw_g (lw_at lw_m0 31 rfl) rfl
theorem q32 : (Jvm.Cond.selects "FieldPowerDesk" ({ cls := "FieldPowerDesk", name := "base", desc := "(IIII)V" } : Jvm.MethodName) ({ cls := "FieldPowerDesk", name := "base", desc := "(IIII)V" } : Jvm.MethodName)) ∈ lw_all := lw_g (lw_at lw_m0 32 rfl) rfl
theorem q33 : (Jvm.Cond.code ({ cls := "FieldPowerDesk", name := "base", desc := "(IIII)V" } : Jvm.MethodName) prog_2_method_3_code (5 : Nat) (Option.none : Option Jvm.ClassFile.FieldType)) ∈ lw_all := lw_g (lw_at lw_m0 33 rfl) rfl
theorem q34 : (Jvm.Cond.methodLink "FieldPowerDesk" (16 : Nat) ({ cls := "FieldPowerDesk", name := "word", desc := "([BII)V" } : Jvm.MethodName)) ∈ lw_all := lw_g (lw_at lw_m0 34 rfl) rfl
theorem q35 : (Jvm.Cond.static ({ cls := "FieldPowerDesk", name := "word", desc := "([BII)V" } : Jvm.MethodName)) ∈ lw_all := lw_g (lw_at lw_m0 35 rfl) rfl
theorem q36 : (Jvm.Cond.code ({ cls := "FieldPowerDesk", name := "word", desc := "([BII)V" } : Jvm.MethodName) prog_2_method_2_code (3 : Nat) (Option.none : Option Jvm.ClassFile.FieldType)) ∈ lw_all := lw_g (lw_at lw_m0 36 rfl) rfl
theorem q38 : (Jvm.Cond.instanceMethod ({ cls := "FieldPowerDesk", name := "begin", desc := "()V" } : Jvm.MethodName)) ∈ lw_all := lw_g (lw_at lw_m0 38 rfl) rfl
theorem q39 : (Jvm.Cond.selects "FieldPowerDesk" ({ cls := "FieldPowerDesk", name := "begin", desc := "()V" } : Jvm.MethodName) ({ cls := "FieldPowerDesk", name := "begin", desc := "()V" } : Jvm.MethodName)) ∈ lw_all := lw_g (lw_at lw_m0 39 rfl) rfl
theorem q40 : (Jvm.Cond.code ({ cls := "FieldPowerDesk", name := "begin", desc := "()V" } : Jvm.MethodName) prog_2_method_4_code (3 : Nat) (Option.none : Option Jvm.ClassFile.FieldType)) ∈ lw_all := lw_g (lw_at lw_m0 40 rfl) rfl
theorem q41 : (Jvm.Cond.classLink "FieldPowerDesk" (20 : Nat) "BasicGCMExponentiator") ∈ lw_all := lw_g (lw_at lw_m0 41 rfl) rfl
theorem q43 : (Jvm.Cond.methodLink "FieldPowerDesk" (22 : Nat) ({ cls := "BasicGCMExponentiator", name := "<init>", desc := "()V" } : Jvm.MethodName)) ∈ lw_all := lw_g (lw_at lw_m0 43 rfl) rfl
theorem q51 : (Jvm.Cond.methodLink "FieldPowerDesk" (27 : Nat) ({ cls := "BasicGCMExponentiator", name := "init", desc := "([B)V" } : Jvm.MethodName)) ∈ lw_all := lw_g (lw_at lw_m0 51 rfl) rfl
theorem q70 : (Jvm.Cond.instanceMethod ({ cls := "FieldPowerDesk", name := "power", desc := "(II)Z" } : Jvm.MethodName)) ∈ lw_all := lw_g (lw_at lw_m0 70 rfl) rfl
theorem q71 : (Jvm.Cond.selects "FieldPowerDesk" ({ cls := "FieldPowerDesk", name := "power", desc := "(II)Z" } : Jvm.MethodName) ({ cls := "FieldPowerDesk", name := "power", desc := "(II)Z" } : Jvm.MethodName)) ∈ lw_all := lw_g (lw_at lw_m0 71 rfl) rfl
theorem q72 : (Jvm.Cond.code ({ cls := "FieldPowerDesk", name := "power", desc := "(II)Z" } : Jvm.MethodName) prog_2_method_5_code (3 : Nat) (Option.some Jvm.ClassFile.FieldType.boolean)) ∈ lw_all := lw_g (lw_at lw_m0 72 rfl) rfl
theorem q73 : (Jvm.Cond.constant "FieldPowerDesk" (31 : Nat) (2147483647 : Int32)) ∈ lw_all := lw_g (lw_at lw_m0 73 rfl) rfl
theorem q74 : (Jvm.Cond.constantLong "FieldPowerDesk" (32 : Nat) (4294967295 : Int64)) ∈ lw_all := lw_g (lw_at lw_m0 74 rfl) rfl
theorem q75 : (Jvm.Cond.methodLink "FieldPowerDesk" (34 : Nat) ({ cls := "BasicGCMExponentiator", name := "exponentiateX", desc := "(J[B)V" } : Jvm.MethodName)) ∈ lw_all := lw_g (lw_at lw_m0 75 rfl) rfl
theorem q172 : (Jvm.Cond.instanceMethod ({ cls := "FieldPowerDesk", name := "out", desc := "(I)I" } : Jvm.MethodName)) ∈ lw_all := lw_g (lw_at lw_m0 172 rfl) rfl
theorem q173 : (Jvm.Cond.selects "FieldPowerDesk" ({ cls := "FieldPowerDesk", name := "out", desc := "(I)I" } : Jvm.MethodName) ({ cls := "FieldPowerDesk", name := "out", desc := "(I)I" } : Jvm.MethodName)) ∈ lw_all := lw_g (lw_at lw_m0 173 rfl) rfl
theorem q174 : (Jvm.Cond.code ({ cls := "FieldPowerDesk", name := "out", desc := "(I)I" } : Jvm.MethodName) prog_2_method_7_code (2 : Nat) (Option.some Jvm.ClassFile.FieldType.int)) ∈ lw_all := lw_g (lw_at lw_m0 174 rfl) rfl
theorem q205 : (Jvm.Cond.instanceMethod ({ cls := "FieldPowerDesk", name := "again", desc := "()V" } : Jvm.MethodName)) ∈ lw_all := lw_g (lw_at lw_m0 205 rfl) rfl
theorem q206 : (Jvm.Cond.selects "FieldPowerDesk" ({ cls := "FieldPowerDesk", name := "again", desc := "()V" } : Jvm.MethodName) ({ cls := "FieldPowerDesk", name := "again", desc := "()V" } : Jvm.MethodName)) ∈ lw_all := lw_g (lw_at lw_m0 206 rfl) rfl
theorem q207 : (Jvm.Cond.code ({ cls := "FieldPowerDesk", name := "again", desc := "()V" } : Jvm.MethodName) prog_2_method_6_code (2 : Nat) (Option.none : Option Jvm.ClassFile.FieldType)) ∈ lw_all := lw_g (lw_at lw_m0 207 rfl) rfl
theorem in_X1 : ∀ w ∈ wsX10, w ∈ lw_all := lw_in wsX10 [22, 24, 26] (by decide +kernel) (by decide +kernel)
/-! FieldPowerDeskLaw$Told -/
set_option maxRecDepth 100000
def RX2 : String := "FieldPowerDeskLaw$Told"
def TX2 : u_T := fun k => match k with
  | 0 => ("FieldPowerDeskLaw$Told", "base", "J", false)
  | 1 => ("FieldPowerDeskLaw$Told", "base2", "J", false)
  | 2 => ("FieldPowerDeskLaw$Told", "element", "J", false)
  | 3 => ("FieldPowerDeskLaw$Told", "element2", "J", false)
  | 4 => ("FieldPowerDeskLaw$Told", "out", "J", false)
  | 5 => ("FieldPowerDeskLaw$Told", "out2", "J", false)
  | _ => ("FieldPowerDeskLaw$Told", "begun", "Z", false)
def tyX2 : Nat → FieldType := fun k => match k with
  | 0 => .long
  | 1 => .long
  | 2 => .long
  | 3 => .long
  | 4 => .long
  | 5 => .long
  | _ => .boolean
abbrev wsX20 : List Cond := u_ws RX2 TX2 7
theorem nmX2 : ∀ a, a < 7 → ∀ b, b < 7 → a ≠ b → (TX2 a).2.1 ≠ (TX2 b).2.1 := by decide +kernel
theorem tyX2_ok : ∀ k, k < 7 → parseFieldDescriptor (TX2 k).2.2.1 = some (tyX2 k) := by decide +kernel
abbrev cX2_init : ByteArray := prog_4_method_1_code
def yX2_init : MethodName := ⟨RX2, "<init>", "()V"⟩
theorem dX2_init_0 : decode cX2_init 0 = .ok (.aload_n 0, 1) := by decide +kernel
theorem dX2_init_1 : decode cX2_init 1 = .ok (.invokespecial 1, 3) := by decide +kernel
theorem dX2_init_4 : decode cX2_init 4 = .ok (.return_, 1) := by decide +kernel
theorem q2 : (Jvm.Cond.initialized "FieldPowerDeskLaw$Told") ∈ lw_all := lw_g (lw_at lw_m0 2 rfl) rfl
theorem q138 : (Jvm.Cond.instantiable "FieldPowerDeskLaw$Told" (7 : Nat)) ∈ lw_all := lw_g (lw_at lw_m0 138 rfl) rfl
theorem q140 : (Jvm.Cond.instanceMethod ({ cls := "FieldPowerDeskLaw$Told", name := "<init>", desc := "()V" } : Jvm.MethodName)) ∈ lw_all := lw_g (lw_at lw_m0 140 rfl) rfl
theorem q141 : (Jvm.Cond.code ({ cls := "FieldPowerDeskLaw$Told", name := "<init>", desc := "()V" } : Jvm.MethodName) prog_4_method_1_code (1 : Nat) (Option.none : Option Jvm.ClassFile.FieldType)) ∈ lw_all := lw_g (lw_at lw_m0 141 rfl) rfl
theorem q142 : (Jvm.Cond.methodLink "FieldPowerDeskLaw$Told" (1 : Nat) ({ cls := "java/lang/Object", name := "<init>", desc := "()V" } : Jvm.MethodName)) ∈ lw_all := lw_g (lw_at lw_m0 142 rfl) rfl
theorem q150 : (Jvm.Cond.lays "FieldPowerDeskLaw$Told" "FieldPowerDeskLaw$Told" "base" "J") ∈ lw_all := lw_g (lw_at lw_m0 150 rfl) rfl
theorem q151 : (Jvm.Cond.soleField "FieldPowerDeskLaw$Told" "base") ∈ lw_all := lw_g (lw_at lw_m0 151 rfl) rfl
theorem q152 : (Jvm.Cond.lays "FieldPowerDeskLaw$Told" "FieldPowerDeskLaw$Told" "base2" "J") ∈ lw_all := lw_g (lw_at lw_m0 152 rfl) rfl
theorem q153 : (Jvm.Cond.soleField "FieldPowerDeskLaw$Told" "base2") ∈ lw_all := lw_g (lw_at lw_m0 153 rfl) rfl
theorem q154 : (Jvm.Cond.lays "FieldPowerDeskLaw$Told" "FieldPowerDeskLaw$Told" "element" "J") ∈ lw_all := lw_g (lw_at lw_m0 154 rfl) rfl
theorem q155 : (Jvm.Cond.soleField "FieldPowerDeskLaw$Told" "element") ∈ lw_all := lw_g (lw_at lw_m0 155 rfl) rfl
theorem q156 : (Jvm.Cond.lays "FieldPowerDeskLaw$Told" "FieldPowerDeskLaw$Told" "element2" "J") ∈ lw_all := lw_g (lw_at lw_m0 156 rfl) rfl
theorem q157 : (Jvm.Cond.soleField "FieldPowerDeskLaw$Told" "element2") ∈ lw_all := lw_g (lw_at lw_m0 157 rfl) rfl
theorem q158 : (Jvm.Cond.lays "FieldPowerDeskLaw$Told" "FieldPowerDeskLaw$Told" "out" "J") ∈ lw_all := lw_g (lw_at lw_m0 158 rfl) rfl
theorem q159 : (Jvm.Cond.soleField "FieldPowerDeskLaw$Told" "out") ∈ lw_all := lw_g (lw_at lw_m0 159 rfl) rfl
theorem q160 : (Jvm.Cond.lays "FieldPowerDeskLaw$Told" "FieldPowerDeskLaw$Told" "out2" "J") ∈ lw_all := lw_g (lw_at lw_m0 160 rfl) rfl
theorem q161 : (Jvm.Cond.soleField "FieldPowerDeskLaw$Told" "out2") ∈ lw_all := lw_g (lw_at lw_m0 161 rfl) rfl
theorem q162 : (Jvm.Cond.lays "FieldPowerDeskLaw$Told" "FieldPowerDeskLaw$Told" "begun" "Z") ∈ lw_all := lw_g (lw_at lw_m0 162 rfl) rfl
theorem q163 : (Jvm.Cond.soleField "FieldPowerDeskLaw$Told" "begun") ∈ lw_all := lw_g (lw_at lw_m0 163 rfl) rfl
theorem q164 : (Jvm.Cond.superclass "FieldPowerDeskLaw$Told" "java/lang/Object") ∈ lw_all := lw_g (lw_at lw_m0 164 rfl) rfl
theorem in_X2 : ∀ w ∈ wsX20, w ∈ lw_all := lw_in wsX20 [150, 152, 154, 156, 158, 160, 162] (by decide +kernel) (by decide +kernel)
/-! BasicGCMExponentiator -/
set_option maxRecDepth 100000
def RX3 : String := "BasicGCMExponentiator"
def TX3 : u_T := fun k => match k with
  | _ => ("BasicGCMExponentiator", "x", "[J", false)
def tyX3 : Nat → FieldType := fun k => match k with
  | _ => .array .long
abbrev wsX30 : List Cond := u_ws RX3 TX3 1
theorem nmX3 : ∀ a, a < 1 → ∀ b, b < 1 → a ≠ b → (TX3 a).2.1 ≠ (TX3 b).2.1 := by decide +kernel
theorem tyX3_ok : ∀ k, k < 1 → parseFieldDescriptor (TX3 k).2.2.1 = some (tyX3 k) := by decide +kernel
abbrev cX3_init : ByteArray := prog_1_method_1_code
def yX3_init : MethodName := ⟨RX3, "<init>", "()V"⟩
theorem dX3_init_0 : decode cX3_init 0 = .ok (.aload_n 0, 1) := by decide +kernel
theorem dX3_init_1 : decode cX3_init 1 = .ok (.invokespecial 1, 3) := by decide +kernel
theorem dX3_init_4 : decode cX3_init 4 = .ok (.return_, 1) := by decide +kernel
abbrev cX3_init_2 : ByteArray := prog_1_method_2_code
def yX3_init_2 : MethodName := ⟨RX3, "init", "([B)V"⟩
def dkwX3_init_2_0 : List UInt8 := [42, 43, 184, 0, 7, 181, 0, 13, 177]
abbrev dktX3_init_2_0 : List UInt8 := dkwX3_init_2_0 ++ []
theorem dksX3_init_2_0 : cX3_init_2.data.toList.drop 0 = dktX3_init_2_0 := by decide +kernel
theorem dX3_init_2_0 : decode cX3_init_2 0 = .ok (.aload_n 0, 1) := dk_42 (dk_at dksX3_init_2_0 0 rfl rfl)
theorem dX3_init_2_1 : decode cX3_init_2 1 = .ok (.aload_n 1, 1) := dk_43 (dk_at dksX3_init_2_0 1 rfl rfl)
theorem dX3_init_2_2 : decode cX3_init_2 2 = .ok (.invokestatic 7, 3) := dk_184 0 7 (dk_at dksX3_init_2_0 2 rfl rfl)
theorem dX3_init_2_5 : decode cX3_init_2 5 = .ok (.putfield 13, 3) := dk_181 0 13 (dk_at dksX3_init_2_0 5 rfl rfl)
theorem dX3_init_2_8 : decode cX3_init_2 8 = .ok (.return_, 1) := dk_177 (dk_at dksX3_init_2_0 8 rfl rfl)
abbrev cX3_exponentiateX : ByteArray := prog_1_method_3_code
def yX3_exponentiateX : MethodName := ⟨RX3, "exponentiateX", "(J[B)V"⟩
def dkwX3_exponentiateX_2 : List UInt8 := [184, 0, 30, 31, 4, 125, 64, 31, 9, 148, 157, 255, 227, 25, 4, 45, 184, 0, 33, 177]
abbrev dktX3_exponentiateX_2 : List UInt8 := dkwX3_exponentiateX_2 ++ []
def dkwX3_exponentiateX_1 : List UInt8 := [184, 0, 23, 31, 10, 127, 9, 148, 153, 0, 10, 25, 4, 25, 5, 184, 0, 27, 25, 5, 25, 5]
abbrev dktX3_exponentiateX_1 : List UInt8 := dkwX3_exponentiateX_1 ++ dktX3_exponentiateX_2
def dkwX3_exponentiateX_0 : List UInt8 := [184, 0, 19, 58, 4, 31, 9, 148, 158, 0, 49, 5, 188, 11, 58, 5, 42, 180, 0, 13, 25, 5]
abbrev dktX3_exponentiateX_0 : List UInt8 := dkwX3_exponentiateX_0 ++ dktX3_exponentiateX_1
theorem dksX3_exponentiateX_0 : cX3_exponentiateX.data.toList.drop 0 = dktX3_exponentiateX_0 := by decide +kernel
theorem dksX3_exponentiateX_1 : cX3_exponentiateX.data.toList.drop 22 = dktX3_exponentiateX_1 := dk_seg dksX3_exponentiateX_0 22 rfl rfl
theorem dksX3_exponentiateX_2 : cX3_exponentiateX.data.toList.drop 44 = dktX3_exponentiateX_2 := dk_seg dksX3_exponentiateX_1 22 rfl rfl
theorem dX3_exponentiateX_0 : decode cX3_exponentiateX 0 = .ok (.invokestatic 19, 3) := dk_184 0 19 (dk_at dksX3_exponentiateX_0 0 rfl rfl)
theorem dX3_exponentiateX_3 : decode cX3_exponentiateX 3 = .ok (.astore 4, 2) := dk_58 4 (dk_at dksX3_exponentiateX_0 3 rfl rfl)
theorem dX3_exponentiateX_5 : decode cX3_exponentiateX 5 = .ok (.lload_n 1, 1) := dk_31 (dk_at dksX3_exponentiateX_0 5 rfl rfl)
theorem dX3_exponentiateX_6 : decode cX3_exponentiateX 6 = .ok (.lconst 0, 1) := dk_9 (dk_at dksX3_exponentiateX_0 6 rfl rfl)
theorem dX3_exponentiateX_7 : decode cX3_exponentiateX 7 = .ok (.lcmp, 1) := dk_148 (dk_at dksX3_exponentiateX_0 7 rfl rfl)
theorem dX3_exponentiateX_8 : decode cX3_exponentiateX 8 = .ok (.ifCond .le 49, 3) := dk_158 0 49 (dk_at dksX3_exponentiateX_0 8 rfl rfl)
theorem dX3_exponentiateX_11 : decode cX3_exponentiateX 11 = .ok (.iconst 2, 1) := dk_5 (dk_at dksX3_exponentiateX_0 11 rfl rfl)
theorem dX3_exponentiateX_12 : decode cX3_exponentiateX 12 = .ok (.newarray .long, 2) := dk_188_11 (dk_at dksX3_exponentiateX_0 12 rfl rfl)
theorem dX3_exponentiateX_14 : decode cX3_exponentiateX 14 = .ok (.astore 5, 2) := dk_58 5 (dk_at dksX3_exponentiateX_0 14 rfl rfl)
theorem dX3_exponentiateX_16 : decode cX3_exponentiateX 16 = .ok (.aload_n 0, 1) := dk_42 (dk_at dksX3_exponentiateX_0 16 rfl rfl)
theorem dX3_exponentiateX_17 : decode cX3_exponentiateX 17 = .ok (.getfield 13, 3) := dk_180 0 13 (dk_at dksX3_exponentiateX_0 17 rfl rfl)
theorem dX3_exponentiateX_20 : decode cX3_exponentiateX 20 = .ok (.aload 5, 2) := dk_25 5 (dk_at dksX3_exponentiateX_0 20 rfl rfl)
theorem dX3_exponentiateX_22 : decode cX3_exponentiateX 22 = .ok (.invokestatic 23, 3) := dk_184 0 23 (dk_at dksX3_exponentiateX_1 0 rfl rfl)
theorem dX3_exponentiateX_25 : decode cX3_exponentiateX 25 = .ok (.lload_n 1, 1) := dk_31 (dk_at dksX3_exponentiateX_1 3 rfl rfl)
theorem dX3_exponentiateX_26 : decode cX3_exponentiateX 26 = .ok (.lconst 1, 1) := dk_10 (dk_at dksX3_exponentiateX_1 4 rfl rfl)
theorem dX3_exponentiateX_27 : decode cX3_exponentiateX 27 = .ok (.land, 1) := dk_127 (dk_at dksX3_exponentiateX_1 5 rfl rfl)
theorem dX3_exponentiateX_28 : decode cX3_exponentiateX 28 = .ok (.lconst 0, 1) := dk_9 (dk_at dksX3_exponentiateX_1 6 rfl rfl)
theorem dX3_exponentiateX_29 : decode cX3_exponentiateX 29 = .ok (.lcmp, 1) := dk_148 (dk_at dksX3_exponentiateX_1 7 rfl rfl)
theorem dX3_exponentiateX_30 : decode cX3_exponentiateX 30 = .ok (.ifCond .eq 10, 3) := dk_153 0 10 (dk_at dksX3_exponentiateX_1 8 rfl rfl)
theorem dX3_exponentiateX_33 : decode cX3_exponentiateX 33 = .ok (.aload 4, 2) := dk_25 4 (dk_at dksX3_exponentiateX_1 11 rfl rfl)
theorem dX3_exponentiateX_35 : decode cX3_exponentiateX 35 = .ok (.aload 5, 2) := dk_25 5 (dk_at dksX3_exponentiateX_1 13 rfl rfl)
theorem dX3_exponentiateX_37 : decode cX3_exponentiateX 37 = .ok (.invokestatic 27, 3) := dk_184 0 27 (dk_at dksX3_exponentiateX_1 15 rfl rfl)
theorem dX3_exponentiateX_40 : decode cX3_exponentiateX 40 = .ok (.aload 5, 2) := dk_25 5 (dk_at dksX3_exponentiateX_1 18 rfl rfl)
theorem dX3_exponentiateX_42 : decode cX3_exponentiateX 42 = .ok (.aload 5, 2) := dk_25 5 (dk_at dksX3_exponentiateX_1 20 rfl rfl)
theorem dX3_exponentiateX_44 : decode cX3_exponentiateX 44 = .ok (.invokestatic 30, 3) := dk_184 0 30 (dk_at dksX3_exponentiateX_2 0 rfl rfl)
theorem dX3_exponentiateX_47 : decode cX3_exponentiateX 47 = .ok (.lload_n 1, 1) := dk_31 (dk_at dksX3_exponentiateX_2 3 rfl rfl)
theorem dX3_exponentiateX_48 : decode cX3_exponentiateX 48 = .ok (.iconst 1, 1) := dk_4 (dk_at dksX3_exponentiateX_2 4 rfl rfl)
theorem dX3_exponentiateX_49 : decode cX3_exponentiateX 49 = .ok (.lushr, 1) := dk_125 (dk_at dksX3_exponentiateX_2 5 rfl rfl)
theorem dX3_exponentiateX_50 : decode cX3_exponentiateX 50 = .ok (.lstore_n 1, 1) := dk_64 (dk_at dksX3_exponentiateX_2 6 rfl rfl)
theorem dX3_exponentiateX_51 : decode cX3_exponentiateX 51 = .ok (.lload_n 1, 1) := dk_31 (dk_at dksX3_exponentiateX_2 7 rfl rfl)
theorem dX3_exponentiateX_52 : decode cX3_exponentiateX 52 = .ok (.lconst 0, 1) := dk_9 (dk_at dksX3_exponentiateX_2 8 rfl rfl)
theorem dX3_exponentiateX_53 : decode cX3_exponentiateX 53 = .ok (.lcmp, 1) := dk_148 (dk_at dksX3_exponentiateX_2 9 rfl rfl)
theorem dX3_exponentiateX_54 : decode cX3_exponentiateX 54 = .ok (.ifCond .gt (-29), 3) := dk_157 255 227 (dk_at dksX3_exponentiateX_2 10 rfl rfl)
theorem dX3_exponentiateX_57 : decode cX3_exponentiateX 57 = .ok (.aload 4, 2) := dk_25 4 (dk_at dksX3_exponentiateX_2 13 rfl rfl)
theorem dX3_exponentiateX_59 : decode cX3_exponentiateX 59 = .ok (.aload_n 3, 1) := dk_45 (dk_at dksX3_exponentiateX_2 15 rfl rfl)
theorem dX3_exponentiateX_60 : decode cX3_exponentiateX 60 = .ok (.invokestatic 33, 3) := dk_184 0 33 (dk_at dksX3_exponentiateX_2 16 rfl rfl)
theorem dX3_exponentiateX_63 : decode cX3_exponentiateX 63 = .ok (.return_, 1) := dk_177 (dk_at dksX3_exponentiateX_2 19 rfl rfl)
theorem q3 : (Jvm.Cond.initialized "BasicGCMExponentiator") ∈ lw_all := lw_g (lw_at lw_m0 3 rfl) rfl
theorem q42 : (Jvm.Cond.instantiable "BasicGCMExponentiator" (1 : Nat)) ∈ lw_all := lw_g (lw_at lw_m0 42 rfl) rfl
theorem q44 : (Jvm.Cond.instanceMethod ({ cls := "BasicGCMExponentiator", name := "<init>", desc := "()V" } : Jvm.MethodName)) ∈ lw_all := lw_g (lw_at lw_m0 44 rfl) rfl
theorem q45 : (Jvm.Cond.code ({ cls := "BasicGCMExponentiator", name := "<init>", desc := "()V" } : Jvm.MethodName) prog_1_method_1_code (1 : Nat) (Option.none : Option Jvm.ClassFile.FieldType)) ∈ lw_all := lw_g (lw_at lw_m0 45 rfl) rfl
theorem q46 : (Jvm.Cond.methodLink "BasicGCMExponentiator" (1 : Nat) ({ cls := "java/lang/Object", name := "<init>", desc := "()V" } : Jvm.MethodName)) ∈ lw_all := lw_g (lw_at lw_m0 46 rfl) rfl
theorem q47 : (Jvm.Cond.fieldLink "BasicGCMExponentiator" (13 : Nat) "BasicGCMExponentiator" "x" "[J") ∈ lw_all := lw_g (lw_at lw_m0 47 rfl) rfl
theorem q48 : (Jvm.Cond.lays "BasicGCMExponentiator" "BasicGCMExponentiator" "x" "[J") ∈ lw_all := lw_g (lw_at lw_m0 48 rfl) rfl
theorem q49 : (Jvm.Cond.soleField "BasicGCMExponentiator" "x") ∈ lw_all := lw_g (lw_at lw_m0 49 rfl) rfl
theorem q50 : (Jvm.Cond.superclass "BasicGCMExponentiator" "java/lang/Object") ∈ lw_all := lw_g (lw_at lw_m0 50 rfl) rfl
theorem q52 : (Jvm.Cond.instanceMethod ({ cls := "BasicGCMExponentiator", name := "init", desc := "([B)V" } : Jvm.MethodName)) ∈ lw_all := lw_g (lw_at lw_m0 52 rfl) rfl
theorem q53 : (Jvm.Cond.selects "BasicGCMExponentiator" ({ cls := "BasicGCMExponentiator", name := "init", desc := "([B)V" } : Jvm.MethodName) ({ cls := "BasicGCMExponentiator", name := "init", desc := "([B)V" } : Jvm.MethodName)) ∈ lw_all := lw_g (lw_at lw_m0 53 rfl) rfl
theorem q54 : (Jvm.Cond.code ({ cls := "BasicGCMExponentiator", name := "init", desc := "([B)V" } : Jvm.MethodName) prog_1_method_2_code (2 : Nat) (Option.none : Option Jvm.ClassFile.FieldType)) ∈ lw_all := lw_g (lw_at lw_m0 54 rfl) rfl
theorem q55 : (Jvm.Cond.methodLink "BasicGCMExponentiator" (7 : Nat) ({ cls := "GCMUtil", name := "asLongs", desc := "([B)[J" } : Jvm.MethodName)) ∈ lw_all := lw_g (lw_at lw_m0 55 rfl) rfl
theorem q76 : (Jvm.Cond.instanceMethod ({ cls := "BasicGCMExponentiator", name := "exponentiateX", desc := "(J[B)V" } : Jvm.MethodName)) ∈ lw_all := lw_g (lw_at lw_m0 76 rfl) rfl
theorem q77 : (Jvm.Cond.selects "BasicGCMExponentiator" ({ cls := "BasicGCMExponentiator", name := "exponentiateX", desc := "(J[B)V" } : Jvm.MethodName) ({ cls := "BasicGCMExponentiator", name := "exponentiateX", desc := "(J[B)V" } : Jvm.MethodName)) ∈ lw_all := lw_g (lw_at lw_m0 77 rfl) rfl
theorem q78 : (Jvm.Cond.code ({ cls := "BasicGCMExponentiator", name := "exponentiateX", desc := "(J[B)V" } : Jvm.MethodName) prog_1_method_3_code (6 : Nat) (Option.none : Option Jvm.ClassFile.FieldType)) ∈ lw_all := lw_g (lw_at lw_m0 78 rfl) rfl
theorem q79 : (Jvm.Cond.methodLink "BasicGCMExponentiator" (19 : Nat) ({ cls := "GCMUtil", name := "oneAsLongs", desc := "()[J" } : Jvm.MethodName)) ∈ lw_all := lw_g (lw_at lw_m0 79 rfl) rfl
theorem q83 : (Jvm.Cond.methodLink "BasicGCMExponentiator" (23 : Nat) ({ cls := "GCMUtil", name := "copy", desc := "([J[J)V" } : Jvm.MethodName)) ∈ lw_all := lw_g (lw_at lw_m0 83 rfl) rfl
theorem q86 : (Jvm.Cond.methodLink "BasicGCMExponentiator" (27 : Nat) ({ cls := "GCMUtil", name := "multiply", desc := "([J[J)V" } : Jvm.MethodName)) ∈ lw_all := lw_g (lw_at lw_m0 86 rfl) rfl
theorem q110 : (Jvm.Cond.methodLink "BasicGCMExponentiator" (30 : Nat) ({ cls := "GCMUtil", name := "square", desc := "([J[J)V" } : Jvm.MethodName)) ∈ lw_all := lw_g (lw_at lw_m0 110 rfl) rfl
theorem q125 : (Jvm.Cond.methodLink "BasicGCMExponentiator" (33 : Nat) ({ cls := "GCMUtil", name := "asBytes", desc := "([J[B)V" } : Jvm.MethodName)) ∈ lw_all := lw_g (lw_at lw_m0 125 rfl) rfl
theorem in_X3 : ∀ w ∈ wsX30, w ∈ lw_all := lw_in wsX30 [48] (by decide +kernel) (by decide +kernel)
/-! Pack -/
set_option maxRecDepth 100000
def RX5 : String := "Pack"
abbrev cX5_bigEndianToLong : ByteArray := prog_9_method_5_code
def yX5_bigEndianToLong : MethodName := ⟨RX5, "bigEndianToLong", "([BI[JII)V"⟩
def dkwX5_bigEndianToLong_1 : List UInt8 := [132, 5, 1, 167, 255, 232, 177]
abbrev dktX5_bigEndianToLong_1 : List UInt8 := dkwX5_bigEndianToLong_1 ++ []
def dkwX5_bigEndianToLong_0 : List UInt8 := [3, 54, 5, 21, 5, 21, 4, 162, 0, 23, 44, 29, 21, 5, 96, 42, 27, 184, 0, 15, 80, 132, 1, 8]
abbrev dktX5_bigEndianToLong_0 : List UInt8 := dkwX5_bigEndianToLong_0 ++ dktX5_bigEndianToLong_1
theorem dksX5_bigEndianToLong_0 : cX5_bigEndianToLong.data.toList.drop 0 = dktX5_bigEndianToLong_0 := by decide +kernel
theorem dksX5_bigEndianToLong_1 : cX5_bigEndianToLong.data.toList.drop 24 = dktX5_bigEndianToLong_1 := dk_seg dksX5_bigEndianToLong_0 24 rfl rfl
theorem dX5_bigEndianToLong_0 : decode cX5_bigEndianToLong 0 = .ok (.iconst 0, 1) := dk_3 (dk_at dksX5_bigEndianToLong_0 0 rfl rfl)
theorem dX5_bigEndianToLong_1 : decode cX5_bigEndianToLong 1 = .ok (.istore 5, 2) := dk_54 5 (dk_at dksX5_bigEndianToLong_0 1 rfl rfl)
theorem dX5_bigEndianToLong_3 : decode cX5_bigEndianToLong 3 = .ok (.iload 5, 2) := dk_21 5 (dk_at dksX5_bigEndianToLong_0 3 rfl rfl)
theorem dX5_bigEndianToLong_5 : decode cX5_bigEndianToLong 5 = .ok (.iload 4, 2) := dk_21 4 (dk_at dksX5_bigEndianToLong_0 5 rfl rfl)
theorem dX5_bigEndianToLong_7 : decode cX5_bigEndianToLong 7 = .ok (.if_icmp .ge 23, 3) := dk_162 0 23 (dk_at dksX5_bigEndianToLong_0 7 rfl rfl)
theorem dX5_bigEndianToLong_10 : decode cX5_bigEndianToLong 10 = .ok (.aload_n 2, 1) := dk_44 (dk_at dksX5_bigEndianToLong_0 10 rfl rfl)
theorem dX5_bigEndianToLong_11 : decode cX5_bigEndianToLong 11 = .ok (.iload_n 3, 1) := dk_29 (dk_at dksX5_bigEndianToLong_0 11 rfl rfl)
theorem dX5_bigEndianToLong_12 : decode cX5_bigEndianToLong 12 = .ok (.iload 5, 2) := dk_21 5 (dk_at dksX5_bigEndianToLong_0 12 rfl rfl)
theorem dX5_bigEndianToLong_14 : decode cX5_bigEndianToLong 14 = .ok (.iadd, 1) := dk_96 (dk_at dksX5_bigEndianToLong_0 14 rfl rfl)
theorem dX5_bigEndianToLong_15 : decode cX5_bigEndianToLong 15 = .ok (.aload_n 0, 1) := dk_42 (dk_at dksX5_bigEndianToLong_0 15 rfl rfl)
theorem dX5_bigEndianToLong_16 : decode cX5_bigEndianToLong 16 = .ok (.iload_n 1, 1) := dk_27 (dk_at dksX5_bigEndianToLong_0 16 rfl rfl)
theorem dX5_bigEndianToLong_17 : decode cX5_bigEndianToLong 17 = .ok (.invokestatic 15, 3) := dk_184 0 15 (dk_at dksX5_bigEndianToLong_0 17 rfl rfl)
theorem dX5_bigEndianToLong_20 : decode cX5_bigEndianToLong 20 = .ok (.lastore, 1) := dk_80 (dk_at dksX5_bigEndianToLong_0 20 rfl rfl)
theorem dX5_bigEndianToLong_21 : decode cX5_bigEndianToLong 21 = .ok (.iinc 1 8, 3) := dk_132 1 8 (dk_at dksX5_bigEndianToLong_0 21 rfl rfl)
theorem dX5_bigEndianToLong_24 : decode cX5_bigEndianToLong 24 = .ok (.iinc 5 1, 3) := dk_132 5 1 (dk_at dksX5_bigEndianToLong_1 0 rfl rfl)
theorem dX5_bigEndianToLong_27 : decode cX5_bigEndianToLong 27 = .ok (.goto (-24), 3) := dk_167 255 232 (dk_at dksX5_bigEndianToLong_1 3 rfl rfl)
theorem dX5_bigEndianToLong_30 : decode cX5_bigEndianToLong 30 = .ok (.return_, 1) := dk_177 (dk_at dksX5_bigEndianToLong_1 6 rfl rfl)
abbrev cX5_bigEndianToLong_2 : ByteArray := prog_9_method_4_code
def yX5_bigEndianToLong_2 : MethodName := ⟨RX5, "bigEndianToLong", "([BI)J"⟩
def dkwX5_bigEndianToLong_2_1 : List UInt8 := [133, 20, 0, 13, 127, 129, 173]
abbrev dktX5_bigEndianToLong_2_1 : List UInt8 := dkwX5_bigEndianToLong_2_1 ++ []
def dkwX5_bigEndianToLong_2_0 : List UInt8 := [42, 27, 184, 0, 7, 61, 42, 27, 7, 96, 184, 0, 7, 62, 28, 133, 20, 0, 13, 127, 16, 32, 121, 29]
abbrev dktX5_bigEndianToLong_2_0 : List UInt8 := dkwX5_bigEndianToLong_2_0 ++ dktX5_bigEndianToLong_2_1
theorem dksX5_bigEndianToLong_2_0 : cX5_bigEndianToLong_2.data.toList.drop 0 = dktX5_bigEndianToLong_2_0 := by decide +kernel
theorem dksX5_bigEndianToLong_2_1 : cX5_bigEndianToLong_2.data.toList.drop 24 = dktX5_bigEndianToLong_2_1 := dk_seg dksX5_bigEndianToLong_2_0 24 rfl rfl
theorem dX5_bigEndianToLong_2_0 : decode cX5_bigEndianToLong_2 0 = .ok (.aload_n 0, 1) := dk_42 (dk_at dksX5_bigEndianToLong_2_0 0 rfl rfl)
theorem dX5_bigEndianToLong_2_1 : decode cX5_bigEndianToLong_2 1 = .ok (.iload_n 1, 1) := dk_27 (dk_at dksX5_bigEndianToLong_2_0 1 rfl rfl)
theorem dX5_bigEndianToLong_2_2 : decode cX5_bigEndianToLong_2 2 = .ok (.invokestatic 7, 3) := dk_184 0 7 (dk_at dksX5_bigEndianToLong_2_0 2 rfl rfl)
theorem dX5_bigEndianToLong_2_5 : decode cX5_bigEndianToLong_2 5 = .ok (.istore_n 2, 1) := dk_61 (dk_at dksX5_bigEndianToLong_2_0 5 rfl rfl)
theorem dX5_bigEndianToLong_2_6 : decode cX5_bigEndianToLong_2 6 = .ok (.aload_n 0, 1) := dk_42 (dk_at dksX5_bigEndianToLong_2_0 6 rfl rfl)
theorem dX5_bigEndianToLong_2_7 : decode cX5_bigEndianToLong_2 7 = .ok (.iload_n 1, 1) := dk_27 (dk_at dksX5_bigEndianToLong_2_0 7 rfl rfl)
theorem dX5_bigEndianToLong_2_8 : decode cX5_bigEndianToLong_2 8 = .ok (.iconst 4, 1) := dk_7 (dk_at dksX5_bigEndianToLong_2_0 8 rfl rfl)
theorem dX5_bigEndianToLong_2_9 : decode cX5_bigEndianToLong_2 9 = .ok (.iadd, 1) := dk_96 (dk_at dksX5_bigEndianToLong_2_0 9 rfl rfl)
theorem dX5_bigEndianToLong_2_10 : decode cX5_bigEndianToLong_2 10 = .ok (.invokestatic 7, 3) := dk_184 0 7 (dk_at dksX5_bigEndianToLong_2_0 10 rfl rfl)
theorem dX5_bigEndianToLong_2_13 : decode cX5_bigEndianToLong_2 13 = .ok (.istore_n 3, 1) := dk_62 (dk_at dksX5_bigEndianToLong_2_0 13 rfl rfl)
theorem dX5_bigEndianToLong_2_14 : decode cX5_bigEndianToLong_2 14 = .ok (.iload_n 2, 1) := dk_28 (dk_at dksX5_bigEndianToLong_2_0 14 rfl rfl)
theorem dX5_bigEndianToLong_2_15 : decode cX5_bigEndianToLong_2 15 = .ok (.i2l, 1) := dk_133 (dk_at dksX5_bigEndianToLong_2_0 15 rfl rfl)
theorem dX5_bigEndianToLong_2_16 : decode cX5_bigEndianToLong_2 16 = .ok (.ldc2_w 13, 3) := dk_20 0 13 (dk_at dksX5_bigEndianToLong_2_0 16 rfl rfl)
theorem dX5_bigEndianToLong_2_19 : decode cX5_bigEndianToLong_2 19 = .ok (.land, 1) := dk_127 (dk_at dksX5_bigEndianToLong_2_0 19 rfl rfl)
theorem dX5_bigEndianToLong_2_20 : decode cX5_bigEndianToLong_2 20 = .ok (.bipush 32, 2) := dk_16 32 (dk_at dksX5_bigEndianToLong_2_0 20 rfl rfl)
theorem dX5_bigEndianToLong_2_22 : decode cX5_bigEndianToLong_2 22 = .ok (.lshl, 1) := dk_121 (dk_at dksX5_bigEndianToLong_2_0 22 rfl rfl)
theorem dX5_bigEndianToLong_2_23 : decode cX5_bigEndianToLong_2 23 = .ok (.iload_n 3, 1) := dk_29 (dk_at dksX5_bigEndianToLong_2_0 23 rfl rfl)
theorem dX5_bigEndianToLong_2_24 : decode cX5_bigEndianToLong_2 24 = .ok (.i2l, 1) := dk_133 (dk_at dksX5_bigEndianToLong_2_1 0 rfl rfl)
theorem dX5_bigEndianToLong_2_25 : decode cX5_bigEndianToLong_2 25 = .ok (.ldc2_w 13, 3) := dk_20 0 13 (dk_at dksX5_bigEndianToLong_2_1 1 rfl rfl)
theorem dX5_bigEndianToLong_2_28 : decode cX5_bigEndianToLong_2 28 = .ok (.land, 1) := dk_127 (dk_at dksX5_bigEndianToLong_2_1 4 rfl rfl)
theorem dX5_bigEndianToLong_2_29 : decode cX5_bigEndianToLong_2 29 = .ok (.lor, 1) := dk_129 (dk_at dksX5_bigEndianToLong_2_1 5 rfl rfl)
theorem dX5_bigEndianToLong_2_30 : decode cX5_bigEndianToLong_2 30 = .ok (.lreturn, 1) := dk_173 (dk_at dksX5_bigEndianToLong_2_1 6 rfl rfl)
abbrev cX5_bigEndianToInt : ByteArray := prog_9_method_2_code
def yX5_bigEndianToInt : MethodName := ⟨RX5, "bigEndianToInt", "([BI)I"⟩
def dkwX5_bigEndianToInt_2 : List UInt8 := [17, 0, 255, 126, 128, 61, 28, 172]
abbrev dktX5_bigEndianToInt_2 : List UInt8 := dkwX5_bigEndianToInt_2 ++ []
def dkwX5_bigEndianToInt_1 : List UInt8 := [42, 132, 1, 1, 27, 51, 17, 0, 255, 126, 16, 8, 120, 128, 61, 28, 42, 132, 1, 1, 27, 51]
abbrev dktX5_bigEndianToInt_1 : List UInt8 := dkwX5_bigEndianToInt_1 ++ dktX5_bigEndianToInt_2
def dkwX5_bigEndianToInt_0 : List UInt8 := [42, 27, 51, 16, 24, 120, 61, 28, 42, 132, 1, 1, 27, 51, 17, 0, 255, 126, 16, 16, 120, 128, 61, 28]
abbrev dktX5_bigEndianToInt_0 : List UInt8 := dkwX5_bigEndianToInt_0 ++ dktX5_bigEndianToInt_1
theorem dksX5_bigEndianToInt_0 : cX5_bigEndianToInt.data.toList.drop 0 = dktX5_bigEndianToInt_0 := by decide +kernel
theorem dksX5_bigEndianToInt_1 : cX5_bigEndianToInt.data.toList.drop 24 = dktX5_bigEndianToInt_1 := dk_seg dksX5_bigEndianToInt_0 24 rfl rfl
theorem dksX5_bigEndianToInt_2 : cX5_bigEndianToInt.data.toList.drop 46 = dktX5_bigEndianToInt_2 := dk_seg dksX5_bigEndianToInt_1 22 rfl rfl
theorem dX5_bigEndianToInt_0 : decode cX5_bigEndianToInt 0 = .ok (.aload_n 0, 1) := dk_42 (dk_at dksX5_bigEndianToInt_0 0 rfl rfl)
theorem dX5_bigEndianToInt_1 : decode cX5_bigEndianToInt 1 = .ok (.iload_n 1, 1) := dk_27 (dk_at dksX5_bigEndianToInt_0 1 rfl rfl)
theorem dX5_bigEndianToInt_2 : decode cX5_bigEndianToInt 2 = .ok (.baload, 1) := dk_51 (dk_at dksX5_bigEndianToInt_0 2 rfl rfl)
theorem dX5_bigEndianToInt_3 : decode cX5_bigEndianToInt 3 = .ok (.bipush 24, 2) := dk_16 24 (dk_at dksX5_bigEndianToInt_0 3 rfl rfl)
theorem dX5_bigEndianToInt_5 : decode cX5_bigEndianToInt 5 = .ok (.ishl, 1) := dk_120 (dk_at dksX5_bigEndianToInt_0 5 rfl rfl)
theorem dX5_bigEndianToInt_6 : decode cX5_bigEndianToInt 6 = .ok (.istore_n 2, 1) := dk_61 (dk_at dksX5_bigEndianToInt_0 6 rfl rfl)
theorem dX5_bigEndianToInt_7 : decode cX5_bigEndianToInt 7 = .ok (.iload_n 2, 1) := dk_28 (dk_at dksX5_bigEndianToInt_0 7 rfl rfl)
theorem dX5_bigEndianToInt_8 : decode cX5_bigEndianToInt 8 = .ok (.aload_n 0, 1) := dk_42 (dk_at dksX5_bigEndianToInt_0 8 rfl rfl)
theorem dX5_bigEndianToInt_9 : decode cX5_bigEndianToInt 9 = .ok (.iinc 1 1, 3) := dk_132 1 1 (dk_at dksX5_bigEndianToInt_0 9 rfl rfl)
theorem dX5_bigEndianToInt_12 : decode cX5_bigEndianToInt 12 = .ok (.iload_n 1, 1) := dk_27 (dk_at dksX5_bigEndianToInt_0 12 rfl rfl)
theorem dX5_bigEndianToInt_13 : decode cX5_bigEndianToInt 13 = .ok (.baload, 1) := dk_51 (dk_at dksX5_bigEndianToInt_0 13 rfl rfl)
theorem dX5_bigEndianToInt_14 : decode cX5_bigEndianToInt 14 = .ok (.sipush 255, 3) := dk_17 0 255 (dk_at dksX5_bigEndianToInt_0 14 rfl rfl)
theorem dX5_bigEndianToInt_17 : decode cX5_bigEndianToInt 17 = .ok (.iand, 1) := dk_126 (dk_at dksX5_bigEndianToInt_0 17 rfl rfl)
theorem dX5_bigEndianToInt_18 : decode cX5_bigEndianToInt 18 = .ok (.bipush 16, 2) := dk_16 16 (dk_at dksX5_bigEndianToInt_0 18 rfl rfl)
theorem dX5_bigEndianToInt_20 : decode cX5_bigEndianToInt 20 = .ok (.ishl, 1) := dk_120 (dk_at dksX5_bigEndianToInt_0 20 rfl rfl)
theorem dX5_bigEndianToInt_21 : decode cX5_bigEndianToInt 21 = .ok (.ior, 1) := dk_128 (dk_at dksX5_bigEndianToInt_0 21 rfl rfl)
theorem dX5_bigEndianToInt_22 : decode cX5_bigEndianToInt 22 = .ok (.istore_n 2, 1) := dk_61 (dk_at dksX5_bigEndianToInt_0 22 rfl rfl)
theorem dX5_bigEndianToInt_23 : decode cX5_bigEndianToInt 23 = .ok (.iload_n 2, 1) := dk_28 (dk_at dksX5_bigEndianToInt_0 23 rfl rfl)
theorem dX5_bigEndianToInt_24 : decode cX5_bigEndianToInt 24 = .ok (.aload_n 0, 1) := dk_42 (dk_at dksX5_bigEndianToInt_1 0 rfl rfl)
theorem dX5_bigEndianToInt_25 : decode cX5_bigEndianToInt 25 = .ok (.iinc 1 1, 3) := dk_132 1 1 (dk_at dksX5_bigEndianToInt_1 1 rfl rfl)
theorem dX5_bigEndianToInt_28 : decode cX5_bigEndianToInt 28 = .ok (.iload_n 1, 1) := dk_27 (dk_at dksX5_bigEndianToInt_1 4 rfl rfl)
theorem dX5_bigEndianToInt_29 : decode cX5_bigEndianToInt 29 = .ok (.baload, 1) := dk_51 (dk_at dksX5_bigEndianToInt_1 5 rfl rfl)
theorem dX5_bigEndianToInt_30 : decode cX5_bigEndianToInt 30 = .ok (.sipush 255, 3) := dk_17 0 255 (dk_at dksX5_bigEndianToInt_1 6 rfl rfl)
theorem dX5_bigEndianToInt_33 : decode cX5_bigEndianToInt 33 = .ok (.iand, 1) := dk_126 (dk_at dksX5_bigEndianToInt_1 9 rfl rfl)
theorem dX5_bigEndianToInt_34 : decode cX5_bigEndianToInt 34 = .ok (.bipush 8, 2) := dk_16 8 (dk_at dksX5_bigEndianToInt_1 10 rfl rfl)
theorem dX5_bigEndianToInt_36 : decode cX5_bigEndianToInt 36 = .ok (.ishl, 1) := dk_120 (dk_at dksX5_bigEndianToInt_1 12 rfl rfl)
theorem dX5_bigEndianToInt_37 : decode cX5_bigEndianToInt 37 = .ok (.ior, 1) := dk_128 (dk_at dksX5_bigEndianToInt_1 13 rfl rfl)
theorem dX5_bigEndianToInt_38 : decode cX5_bigEndianToInt 38 = .ok (.istore_n 2, 1) := dk_61 (dk_at dksX5_bigEndianToInt_1 14 rfl rfl)
theorem dX5_bigEndianToInt_39 : decode cX5_bigEndianToInt 39 = .ok (.iload_n 2, 1) := dk_28 (dk_at dksX5_bigEndianToInt_1 15 rfl rfl)
theorem dX5_bigEndianToInt_40 : decode cX5_bigEndianToInt 40 = .ok (.aload_n 0, 1) := dk_42 (dk_at dksX5_bigEndianToInt_1 16 rfl rfl)
theorem dX5_bigEndianToInt_41 : decode cX5_bigEndianToInt 41 = .ok (.iinc 1 1, 3) := dk_132 1 1 (dk_at dksX5_bigEndianToInt_1 17 rfl rfl)
theorem dX5_bigEndianToInt_44 : decode cX5_bigEndianToInt 44 = .ok (.iload_n 1, 1) := dk_27 (dk_at dksX5_bigEndianToInt_1 20 rfl rfl)
theorem dX5_bigEndianToInt_45 : decode cX5_bigEndianToInt 45 = .ok (.baload, 1) := dk_51 (dk_at dksX5_bigEndianToInt_1 21 rfl rfl)
theorem dX5_bigEndianToInt_46 : decode cX5_bigEndianToInt 46 = .ok (.sipush 255, 3) := dk_17 0 255 (dk_at dksX5_bigEndianToInt_2 0 rfl rfl)
theorem dX5_bigEndianToInt_49 : decode cX5_bigEndianToInt 49 = .ok (.iand, 1) := dk_126 (dk_at dksX5_bigEndianToInt_2 3 rfl rfl)
theorem dX5_bigEndianToInt_50 : decode cX5_bigEndianToInt 50 = .ok (.ior, 1) := dk_128 (dk_at dksX5_bigEndianToInt_2 4 rfl rfl)
theorem dX5_bigEndianToInt_51 : decode cX5_bigEndianToInt 51 = .ok (.istore_n 2, 1) := dk_61 (dk_at dksX5_bigEndianToInt_2 5 rfl rfl)
theorem dX5_bigEndianToInt_52 : decode cX5_bigEndianToInt 52 = .ok (.iload_n 2, 1) := dk_28 (dk_at dksX5_bigEndianToInt_2 6 rfl rfl)
theorem dX5_bigEndianToInt_53 : decode cX5_bigEndianToInt 53 = .ok (.ireturn, 1) := dk_172 (dk_at dksX5_bigEndianToInt_2 7 rfl rfl)
abbrev cX5_longToBigEndian : ByteArray := prog_9_method_7_code
def yX5_longToBigEndian : MethodName := ⟨RX5, "longToBigEndian", "([JII[BI)V"⟩
def dkwX5_longToBigEndian_1 : List UInt8 := [132, 5, 1, 167, 255, 232, 177]
abbrev dktX5_longToBigEndian_1 : List UInt8 := dkwX5_longToBigEndian_1 ++ []
def dkwX5_longToBigEndian_0 : List UInt8 := [3, 54, 5, 21, 5, 28, 162, 0, 24, 42, 27, 21, 5, 96, 47, 45, 21, 4, 184, 0, 23, 132, 4, 8]
abbrev dktX5_longToBigEndian_0 : List UInt8 := dkwX5_longToBigEndian_0 ++ dktX5_longToBigEndian_1
theorem dksX5_longToBigEndian_0 : cX5_longToBigEndian.data.toList.drop 0 = dktX5_longToBigEndian_0 := by decide +kernel
theorem dksX5_longToBigEndian_1 : cX5_longToBigEndian.data.toList.drop 24 = dktX5_longToBigEndian_1 := dk_seg dksX5_longToBigEndian_0 24 rfl rfl
theorem dX5_longToBigEndian_0 : decode cX5_longToBigEndian 0 = .ok (.iconst 0, 1) := dk_3 (dk_at dksX5_longToBigEndian_0 0 rfl rfl)
theorem dX5_longToBigEndian_1 : decode cX5_longToBigEndian 1 = .ok (.istore 5, 2) := dk_54 5 (dk_at dksX5_longToBigEndian_0 1 rfl rfl)
theorem dX5_longToBigEndian_3 : decode cX5_longToBigEndian 3 = .ok (.iload 5, 2) := dk_21 5 (dk_at dksX5_longToBigEndian_0 3 rfl rfl)
theorem dX5_longToBigEndian_5 : decode cX5_longToBigEndian 5 = .ok (.iload_n 2, 1) := dk_28 (dk_at dksX5_longToBigEndian_0 5 rfl rfl)
theorem dX5_longToBigEndian_6 : decode cX5_longToBigEndian 6 = .ok (.if_icmp .ge 24, 3) := dk_162 0 24 (dk_at dksX5_longToBigEndian_0 6 rfl rfl)
theorem dX5_longToBigEndian_9 : decode cX5_longToBigEndian 9 = .ok (.aload_n 0, 1) := dk_42 (dk_at dksX5_longToBigEndian_0 9 rfl rfl)
theorem dX5_longToBigEndian_10 : decode cX5_longToBigEndian 10 = .ok (.iload_n 1, 1) := dk_27 (dk_at dksX5_longToBigEndian_0 10 rfl rfl)
theorem dX5_longToBigEndian_11 : decode cX5_longToBigEndian 11 = .ok (.iload 5, 2) := dk_21 5 (dk_at dksX5_longToBigEndian_0 11 rfl rfl)
theorem dX5_longToBigEndian_13 : decode cX5_longToBigEndian 13 = .ok (.iadd, 1) := dk_96 (dk_at dksX5_longToBigEndian_0 13 rfl rfl)
theorem dX5_longToBigEndian_14 : decode cX5_longToBigEndian 14 = .ok (.laload, 1) := dk_47 (dk_at dksX5_longToBigEndian_0 14 rfl rfl)
theorem dX5_longToBigEndian_15 : decode cX5_longToBigEndian 15 = .ok (.aload_n 3, 1) := dk_45 (dk_at dksX5_longToBigEndian_0 15 rfl rfl)
theorem dX5_longToBigEndian_16 : decode cX5_longToBigEndian 16 = .ok (.iload 4, 2) := dk_21 4 (dk_at dksX5_longToBigEndian_0 16 rfl rfl)
theorem dX5_longToBigEndian_18 : decode cX5_longToBigEndian 18 = .ok (.invokestatic 23, 3) := dk_184 0 23 (dk_at dksX5_longToBigEndian_0 18 rfl rfl)
theorem dX5_longToBigEndian_21 : decode cX5_longToBigEndian 21 = .ok (.iinc 4 8, 3) := dk_132 4 8 (dk_at dksX5_longToBigEndian_0 21 rfl rfl)
theorem dX5_longToBigEndian_24 : decode cX5_longToBigEndian 24 = .ok (.iinc 5 1, 3) := dk_132 5 1 (dk_at dksX5_longToBigEndian_1 0 rfl rfl)
theorem dX5_longToBigEndian_27 : decode cX5_longToBigEndian 27 = .ok (.goto (-24), 3) := dk_167 255 232 (dk_at dksX5_longToBigEndian_1 3 rfl rfl)
theorem dX5_longToBigEndian_30 : decode cX5_longToBigEndian 30 = .ok (.return_, 1) := dk_177 (dk_at dksX5_longToBigEndian_1 6 rfl rfl)
abbrev cX5_longToBigEndian_2 : ByteArray := prog_9_method_6_code
def yX5_longToBigEndian_2 : MethodName := ⟨RX5, "longToBigEndian", "(J[BI)V"⟩
def dkwX5_longToBigEndian_2_0 : List UInt8 := [30, 16, 32, 125, 136, 44, 29, 184, 0, 19, 30, 20, 0, 13, 127, 136, 44, 29, 7, 96, 184, 0, 19, 177]
abbrev dktX5_longToBigEndian_2_0 : List UInt8 := dkwX5_longToBigEndian_2_0 ++ []
theorem dksX5_longToBigEndian_2_0 : cX5_longToBigEndian_2.data.toList.drop 0 = dktX5_longToBigEndian_2_0 := by decide +kernel
theorem dX5_longToBigEndian_2_0 : decode cX5_longToBigEndian_2 0 = .ok (.lload_n 0, 1) := dk_30 (dk_at dksX5_longToBigEndian_2_0 0 rfl rfl)
theorem dX5_longToBigEndian_2_1 : decode cX5_longToBigEndian_2 1 = .ok (.bipush 32, 2) := dk_16 32 (dk_at dksX5_longToBigEndian_2_0 1 rfl rfl)
theorem dX5_longToBigEndian_2_3 : decode cX5_longToBigEndian_2 3 = .ok (.lushr, 1) := dk_125 (dk_at dksX5_longToBigEndian_2_0 3 rfl rfl)
theorem dX5_longToBigEndian_2_4 : decode cX5_longToBigEndian_2 4 = .ok (.l2i, 1) := dk_136 (dk_at dksX5_longToBigEndian_2_0 4 rfl rfl)
theorem dX5_longToBigEndian_2_5 : decode cX5_longToBigEndian_2 5 = .ok (.aload_n 2, 1) := dk_44 (dk_at dksX5_longToBigEndian_2_0 5 rfl rfl)
theorem dX5_longToBigEndian_2_6 : decode cX5_longToBigEndian_2 6 = .ok (.iload_n 3, 1) := dk_29 (dk_at dksX5_longToBigEndian_2_0 6 rfl rfl)
theorem dX5_longToBigEndian_2_7 : decode cX5_longToBigEndian_2 7 = .ok (.invokestatic 19, 3) := dk_184 0 19 (dk_at dksX5_longToBigEndian_2_0 7 rfl rfl)
theorem dX5_longToBigEndian_2_10 : decode cX5_longToBigEndian_2 10 = .ok (.lload_n 0, 1) := dk_30 (dk_at dksX5_longToBigEndian_2_0 10 rfl rfl)
theorem dX5_longToBigEndian_2_11 : decode cX5_longToBigEndian_2 11 = .ok (.ldc2_w 13, 3) := dk_20 0 13 (dk_at dksX5_longToBigEndian_2_0 11 rfl rfl)
theorem dX5_longToBigEndian_2_14 : decode cX5_longToBigEndian_2 14 = .ok (.land, 1) := dk_127 (dk_at dksX5_longToBigEndian_2_0 14 rfl rfl)
theorem dX5_longToBigEndian_2_15 : decode cX5_longToBigEndian_2 15 = .ok (.l2i, 1) := dk_136 (dk_at dksX5_longToBigEndian_2_0 15 rfl rfl)
theorem dX5_longToBigEndian_2_16 : decode cX5_longToBigEndian_2 16 = .ok (.aload_n 2, 1) := dk_44 (dk_at dksX5_longToBigEndian_2_0 16 rfl rfl)
theorem dX5_longToBigEndian_2_17 : decode cX5_longToBigEndian_2 17 = .ok (.iload_n 3, 1) := dk_29 (dk_at dksX5_longToBigEndian_2_0 17 rfl rfl)
theorem dX5_longToBigEndian_2_18 : decode cX5_longToBigEndian_2 18 = .ok (.iconst 4, 1) := dk_7 (dk_at dksX5_longToBigEndian_2_0 18 rfl rfl)
theorem dX5_longToBigEndian_2_19 : decode cX5_longToBigEndian_2 19 = .ok (.iadd, 1) := dk_96 (dk_at dksX5_longToBigEndian_2_0 19 rfl rfl)
theorem dX5_longToBigEndian_2_20 : decode cX5_longToBigEndian_2 20 = .ok (.invokestatic 19, 3) := dk_184 0 19 (dk_at dksX5_longToBigEndian_2_0 20 rfl rfl)
theorem dX5_longToBigEndian_2_23 : decode cX5_longToBigEndian_2 23 = .ok (.return_, 1) := dk_177 (dk_at dksX5_longToBigEndian_2_0 23 rfl rfl)
abbrev cX5_intToBigEndian : ByteArray := prog_9_method_3_code
def yX5_intToBigEndian : MethodName := ⟨RX5, "intToBigEndian", "(I[BI)V"⟩
def dkwX5_intToBigEndian_1 : List UInt8 := [26, 16, 8, 124, 145, 84, 43, 132, 2, 1, 28, 26, 145, 84, 177]
abbrev dktX5_intToBigEndian_1 : List UInt8 := dkwX5_intToBigEndian_1 ++ []
def dkwX5_intToBigEndian_0 : List UInt8 := [43, 28, 26, 16, 24, 124, 145, 84, 43, 132, 2, 1, 28, 26, 16, 16, 124, 145, 84, 43, 132, 2, 1, 28]
abbrev dktX5_intToBigEndian_0 : List UInt8 := dkwX5_intToBigEndian_0 ++ dktX5_intToBigEndian_1
theorem dksX5_intToBigEndian_0 : cX5_intToBigEndian.data.toList.drop 0 = dktX5_intToBigEndian_0 := by decide +kernel
theorem dksX5_intToBigEndian_1 : cX5_intToBigEndian.data.toList.drop 24 = dktX5_intToBigEndian_1 := dk_seg dksX5_intToBigEndian_0 24 rfl rfl
theorem dX5_intToBigEndian_0 : decode cX5_intToBigEndian 0 = .ok (.aload_n 1, 1) := dk_43 (dk_at dksX5_intToBigEndian_0 0 rfl rfl)
theorem dX5_intToBigEndian_1 : decode cX5_intToBigEndian 1 = .ok (.iload_n 2, 1) := dk_28 (dk_at dksX5_intToBigEndian_0 1 rfl rfl)
theorem dX5_intToBigEndian_2 : decode cX5_intToBigEndian 2 = .ok (.iload_n 0, 1) := dk_26 (dk_at dksX5_intToBigEndian_0 2 rfl rfl)
theorem dX5_intToBigEndian_3 : decode cX5_intToBigEndian 3 = .ok (.bipush 24, 2) := dk_16 24 (dk_at dksX5_intToBigEndian_0 3 rfl rfl)
theorem dX5_intToBigEndian_5 : decode cX5_intToBigEndian 5 = .ok (.iushr, 1) := dk_124 (dk_at dksX5_intToBigEndian_0 5 rfl rfl)
theorem dX5_intToBigEndian_6 : decode cX5_intToBigEndian 6 = .ok (.i2b, 1) := dk_145 (dk_at dksX5_intToBigEndian_0 6 rfl rfl)
theorem dX5_intToBigEndian_7 : decode cX5_intToBigEndian 7 = .ok (.bastore, 1) := dk_84 (dk_at dksX5_intToBigEndian_0 7 rfl rfl)
theorem dX5_intToBigEndian_8 : decode cX5_intToBigEndian 8 = .ok (.aload_n 1, 1) := dk_43 (dk_at dksX5_intToBigEndian_0 8 rfl rfl)
theorem dX5_intToBigEndian_9 : decode cX5_intToBigEndian 9 = .ok (.iinc 2 1, 3) := dk_132 2 1 (dk_at dksX5_intToBigEndian_0 9 rfl rfl)
theorem dX5_intToBigEndian_12 : decode cX5_intToBigEndian 12 = .ok (.iload_n 2, 1) := dk_28 (dk_at dksX5_intToBigEndian_0 12 rfl rfl)
theorem dX5_intToBigEndian_13 : decode cX5_intToBigEndian 13 = .ok (.iload_n 0, 1) := dk_26 (dk_at dksX5_intToBigEndian_0 13 rfl rfl)
theorem dX5_intToBigEndian_14 : decode cX5_intToBigEndian 14 = .ok (.bipush 16, 2) := dk_16 16 (dk_at dksX5_intToBigEndian_0 14 rfl rfl)
theorem dX5_intToBigEndian_16 : decode cX5_intToBigEndian 16 = .ok (.iushr, 1) := dk_124 (dk_at dksX5_intToBigEndian_0 16 rfl rfl)
theorem dX5_intToBigEndian_17 : decode cX5_intToBigEndian 17 = .ok (.i2b, 1) := dk_145 (dk_at dksX5_intToBigEndian_0 17 rfl rfl)
theorem dX5_intToBigEndian_18 : decode cX5_intToBigEndian 18 = .ok (.bastore, 1) := dk_84 (dk_at dksX5_intToBigEndian_0 18 rfl rfl)
theorem dX5_intToBigEndian_19 : decode cX5_intToBigEndian 19 = .ok (.aload_n 1, 1) := dk_43 (dk_at dksX5_intToBigEndian_0 19 rfl rfl)
theorem dX5_intToBigEndian_20 : decode cX5_intToBigEndian 20 = .ok (.iinc 2 1, 3) := dk_132 2 1 (dk_at dksX5_intToBigEndian_0 20 rfl rfl)
theorem dX5_intToBigEndian_23 : decode cX5_intToBigEndian 23 = .ok (.iload_n 2, 1) := dk_28 (dk_at dksX5_intToBigEndian_0 23 rfl rfl)
theorem dX5_intToBigEndian_24 : decode cX5_intToBigEndian 24 = .ok (.iload_n 0, 1) := dk_26 (dk_at dksX5_intToBigEndian_1 0 rfl rfl)
theorem dX5_intToBigEndian_25 : decode cX5_intToBigEndian 25 = .ok (.bipush 8, 2) := dk_16 8 (dk_at dksX5_intToBigEndian_1 1 rfl rfl)
theorem dX5_intToBigEndian_27 : decode cX5_intToBigEndian 27 = .ok (.iushr, 1) := dk_124 (dk_at dksX5_intToBigEndian_1 3 rfl rfl)
theorem dX5_intToBigEndian_28 : decode cX5_intToBigEndian 28 = .ok (.i2b, 1) := dk_145 (dk_at dksX5_intToBigEndian_1 4 rfl rfl)
theorem dX5_intToBigEndian_29 : decode cX5_intToBigEndian 29 = .ok (.bastore, 1) := dk_84 (dk_at dksX5_intToBigEndian_1 5 rfl rfl)
theorem dX5_intToBigEndian_30 : decode cX5_intToBigEndian 30 = .ok (.aload_n 1, 1) := dk_43 (dk_at dksX5_intToBigEndian_1 6 rfl rfl)
theorem dX5_intToBigEndian_31 : decode cX5_intToBigEndian 31 = .ok (.iinc 2 1, 3) := dk_132 2 1 (dk_at dksX5_intToBigEndian_1 7 rfl rfl)
theorem dX5_intToBigEndian_34 : decode cX5_intToBigEndian 34 = .ok (.iload_n 2, 1) := dk_28 (dk_at dksX5_intToBigEndian_1 10 rfl rfl)
theorem dX5_intToBigEndian_35 : decode cX5_intToBigEndian 35 = .ok (.iload_n 0, 1) := dk_26 (dk_at dksX5_intToBigEndian_1 11 rfl rfl)
theorem dX5_intToBigEndian_36 : decode cX5_intToBigEndian 36 = .ok (.i2b, 1) := dk_145 (dk_at dksX5_intToBigEndian_1 12 rfl rfl)
theorem dX5_intToBigEndian_37 : decode cX5_intToBigEndian 37 = .ok (.bastore, 1) := dk_84 (dk_at dksX5_intToBigEndian_1 13 rfl rfl)
theorem dX5_intToBigEndian_38 : decode cX5_intToBigEndian 38 = .ok (.return_, 1) := dk_177 (dk_at dksX5_intToBigEndian_1 14 rfl rfl)
theorem q5 : (Jvm.Cond.initialized "Pack") ∈ lw_all := lw_g (lw_at lw_m0 5 rfl) rfl
theorem q59 : (Jvm.Cond.static ({ cls := "Pack", name := "bigEndianToLong", desc := "([BI[JII)V" } : Jvm.MethodName)) ∈ lw_all := lw_g (lw_at lw_m0 59 rfl) rfl
theorem q60 : (Jvm.Cond.code ({ cls := "Pack", name := "bigEndianToLong", desc := "([BI[JII)V" } : Jvm.MethodName) prog_9_method_5_code (6 : Nat) (Option.none : Option Jvm.ClassFile.FieldType)) ∈ lw_all := lw_g (lw_at lw_m0 60 rfl) rfl
theorem q61 : (Jvm.Cond.methodLink "Pack" (15 : Nat) ({ cls := "Pack", name := "bigEndianToLong", desc := "([BI)J" } : Jvm.MethodName)) ∈ lw_all := lw_g (lw_at lw_m0 61 rfl) rfl
theorem q62 : (Jvm.Cond.static ({ cls := "Pack", name := "bigEndianToLong", desc := "([BI)J" } : Jvm.MethodName)) ∈ lw_all := lw_g (lw_at lw_m0 62 rfl) rfl
theorem q63 : (Jvm.Cond.code ({ cls := "Pack", name := "bigEndianToLong", desc := "([BI)J" } : Jvm.MethodName) prog_9_method_4_code (4 : Nat) (Option.some Jvm.ClassFile.FieldType.long)) ∈ lw_all := lw_g (lw_at lw_m0 63 rfl) rfl
theorem q64 : (Jvm.Cond.methodLink "Pack" (7 : Nat) ({ cls := "Pack", name := "bigEndianToInt", desc := "([BI)I" } : Jvm.MethodName)) ∈ lw_all := lw_g (lw_at lw_m0 64 rfl) rfl
theorem q65 : (Jvm.Cond.static ({ cls := "Pack", name := "bigEndianToInt", desc := "([BI)I" } : Jvm.MethodName)) ∈ lw_all := lw_g (lw_at lw_m0 65 rfl) rfl
theorem q66 : (Jvm.Cond.code ({ cls := "Pack", name := "bigEndianToInt", desc := "([BI)I" } : Jvm.MethodName) prog_9_method_2_code (3 : Nat) (Option.some Jvm.ClassFile.FieldType.int)) ∈ lw_all := lw_g (lw_at lw_m0 66 rfl) rfl
theorem q67 : (Jvm.Cond.constantLong "Pack" (13 : Nat) (4294967295 : Int64)) ∈ lw_all := lw_g (lw_at lw_m0 67 rfl) rfl
theorem q129 : (Jvm.Cond.static ({ cls := "Pack", name := "longToBigEndian", desc := "([JII[BI)V" } : Jvm.MethodName)) ∈ lw_all := lw_g (lw_at lw_m0 129 rfl) rfl
theorem q130 : (Jvm.Cond.code ({ cls := "Pack", name := "longToBigEndian", desc := "([JII[BI)V" } : Jvm.MethodName) prog_9_method_7_code (6 : Nat) (Option.none : Option Jvm.ClassFile.FieldType)) ∈ lw_all := lw_g (lw_at lw_m0 130 rfl) rfl
theorem q131 : (Jvm.Cond.methodLink "Pack" (23 : Nat) ({ cls := "Pack", name := "longToBigEndian", desc := "(J[BI)V" } : Jvm.MethodName)) ∈ lw_all := lw_g (lw_at lw_m0 131 rfl) rfl
theorem q132 : (Jvm.Cond.static ({ cls := "Pack", name := "longToBigEndian", desc := "(J[BI)V" } : Jvm.MethodName)) ∈ lw_all := lw_g (lw_at lw_m0 132 rfl) rfl
theorem q133 : (Jvm.Cond.code ({ cls := "Pack", name := "longToBigEndian", desc := "(J[BI)V" } : Jvm.MethodName) prog_9_method_6_code (4 : Nat) (Option.none : Option Jvm.ClassFile.FieldType)) ∈ lw_all := lw_g (lw_at lw_m0 133 rfl) rfl
theorem q134 : (Jvm.Cond.methodLink "Pack" (19 : Nat) ({ cls := "Pack", name := "intToBigEndian", desc := "(I[BI)V" } : Jvm.MethodName)) ∈ lw_all := lw_g (lw_at lw_m0 134 rfl) rfl
theorem q135 : (Jvm.Cond.static ({ cls := "Pack", name := "intToBigEndian", desc := "(I[BI)V" } : Jvm.MethodName)) ∈ lw_all := lw_g (lw_at lw_m0 135 rfl) rfl
theorem q136 : (Jvm.Cond.code ({ cls := "Pack", name := "intToBigEndian", desc := "(I[BI)V" } : Jvm.MethodName) prog_9_method_3_code (3 : Nat) (Option.none : Option Jvm.ClassFile.FieldType)) ∈ lw_all := lw_g (lw_at lw_m0 136 rfl) rfl
/-! Longs -/
set_option maxRecDepth 100000
def RX6 : String := "Longs"
abbrev cX6_reverse : ByteArray := prog_7_method_2_code
def yX6_reverse : MethodName := ⟨RX6, "reverse", "(J)J"⟩
theorem dX6_reverse_0 : decode cX6_reverse 0 = .ok (.lload_n 0, 1) := by decide +kernel
theorem dX6_reverse_1 : decode cX6_reverse 1 = .ok (.invokestatic 7, 3) := by decide +kernel
theorem dX6_reverse_4 : decode cX6_reverse 4 = .ok (.lreturn, 1) := by decide +kernel
theorem q6 : (Jvm.Cond.initialized "Longs") ∈ lw_all := lw_g (lw_at lw_m0 6 rfl) rfl
theorem q90 : (Jvm.Cond.static ({ cls := "Longs", name := "reverse", desc := "(J)J" } : Jvm.MethodName)) ∈ lw_all := lw_g (lw_at lw_m0 90 rfl) rfl
theorem q91 : (Jvm.Cond.code ({ cls := "Longs", name := "reverse", desc := "(J)J" } : Jvm.MethodName) prog_7_method_2_code (2 : Nat) (Option.some Jvm.ClassFile.FieldType.long)) ∈ lw_all := lw_g (lw_at lw_m0 91 rfl) rfl
theorem q92 : (Jvm.Cond.methodLink "Longs" (7 : Nat) ({ cls := "java/lang/Long", name := "reverse", desc := "(J)J" } : Jvm.MethodName)) ∈ lw_all := lw_g (lw_at lw_m0 92 rfl) rfl
/-! Interleave -/
set_option maxRecDepth 100000
def RX7 : String := "Interleave"
abbrev cX7_expand64To128Rev : ByteArray := prog_6_method_2_code
def yX7_expand64To128Rev : MethodName := ⟨RX7, "expand64To128Rev", "(J[JI)V"⟩
def dkwX7_expand64To128Rev_2 : List UInt8 := [29, 30, 20, 0, 25, 127, 80, 44, 29, 4, 96, 30, 4, 121, 20, 0, 25, 127, 80, 177]
abbrev dktX7_expand64To128Rev_2 : List UInt8 := dkwX7_expand64To128Rev_2 ++ []
def dkwX7_expand64To128Rev_1 : List UInt8 := [7, 184, 0, 9, 63, 30, 20, 0, 19, 5, 184, 0, 9, 63, 30, 20, 0, 21, 4, 184, 0, 9, 63, 44]
abbrev dktX7_expand64To128Rev_1 : List UInt8 := dkwX7_expand64To128Rev_1 ++ dktX7_expand64To128Rev_2
def dkwX7_expand64To128Rev_0 : List UInt8 := [30, 20, 0, 7, 16, 16, 184, 0, 9, 63, 30, 20, 0, 15, 16, 8, 184, 0, 9, 63, 30, 20, 0, 17]
abbrev dktX7_expand64To128Rev_0 : List UInt8 := dkwX7_expand64To128Rev_0 ++ dktX7_expand64To128Rev_1
theorem dksX7_expand64To128Rev_0 : cX7_expand64To128Rev.data.toList.drop 0 = dktX7_expand64To128Rev_0 := by decide +kernel
theorem dksX7_expand64To128Rev_1 : cX7_expand64To128Rev.data.toList.drop 24 = dktX7_expand64To128Rev_1 := dk_seg dksX7_expand64To128Rev_0 24 rfl rfl
theorem dksX7_expand64To128Rev_2 : cX7_expand64To128Rev.data.toList.drop 48 = dktX7_expand64To128Rev_2 := dk_seg dksX7_expand64To128Rev_1 24 rfl rfl
theorem dX7_expand64To128Rev_0 : decode cX7_expand64To128Rev 0 = .ok (.lload_n 0, 1) := dk_30 (dk_at dksX7_expand64To128Rev_0 0 rfl rfl)
theorem dX7_expand64To128Rev_1 : decode cX7_expand64To128Rev 1 = .ok (.ldc2_w 7, 3) := dk_20 0 7 (dk_at dksX7_expand64To128Rev_0 1 rfl rfl)
theorem dX7_expand64To128Rev_4 : decode cX7_expand64To128Rev 4 = .ok (.bipush 16, 2) := dk_16 16 (dk_at dksX7_expand64To128Rev_0 4 rfl rfl)
theorem dX7_expand64To128Rev_6 : decode cX7_expand64To128Rev 6 = .ok (.invokestatic 9, 3) := dk_184 0 9 (dk_at dksX7_expand64To128Rev_0 6 rfl rfl)
theorem dX7_expand64To128Rev_9 : decode cX7_expand64To128Rev 9 = .ok (.lstore_n 0, 1) := dk_63 (dk_at dksX7_expand64To128Rev_0 9 rfl rfl)
theorem dX7_expand64To128Rev_10 : decode cX7_expand64To128Rev 10 = .ok (.lload_n 0, 1) := dk_30 (dk_at dksX7_expand64To128Rev_0 10 rfl rfl)
theorem dX7_expand64To128Rev_11 : decode cX7_expand64To128Rev 11 = .ok (.ldc2_w 15, 3) := dk_20 0 15 (dk_at dksX7_expand64To128Rev_0 11 rfl rfl)
theorem dX7_expand64To128Rev_14 : decode cX7_expand64To128Rev 14 = .ok (.bipush 8, 2) := dk_16 8 (dk_at dksX7_expand64To128Rev_0 14 rfl rfl)
theorem dX7_expand64To128Rev_16 : decode cX7_expand64To128Rev 16 = .ok (.invokestatic 9, 3) := dk_184 0 9 (dk_at dksX7_expand64To128Rev_0 16 rfl rfl)
theorem dX7_expand64To128Rev_19 : decode cX7_expand64To128Rev 19 = .ok (.lstore_n 0, 1) := dk_63 (dk_at dksX7_expand64To128Rev_0 19 rfl rfl)
theorem dX7_expand64To128Rev_20 : decode cX7_expand64To128Rev 20 = .ok (.lload_n 0, 1) := dk_30 (dk_at dksX7_expand64To128Rev_0 20 rfl rfl)
theorem dX7_expand64To128Rev_21 : decode cX7_expand64To128Rev 21 = .ok (.ldc2_w 17, 3) := dk_20 0 17 (dk_at dksX7_expand64To128Rev_0 21 rfl rfl)
theorem dX7_expand64To128Rev_24 : decode cX7_expand64To128Rev 24 = .ok (.iconst 4, 1) := dk_7 (dk_at dksX7_expand64To128Rev_1 0 rfl rfl)
theorem dX7_expand64To128Rev_25 : decode cX7_expand64To128Rev 25 = .ok (.invokestatic 9, 3) := dk_184 0 9 (dk_at dksX7_expand64To128Rev_1 1 rfl rfl)
theorem dX7_expand64To128Rev_28 : decode cX7_expand64To128Rev 28 = .ok (.lstore_n 0, 1) := dk_63 (dk_at dksX7_expand64To128Rev_1 4 rfl rfl)
theorem dX7_expand64To128Rev_29 : decode cX7_expand64To128Rev 29 = .ok (.lload_n 0, 1) := dk_30 (dk_at dksX7_expand64To128Rev_1 5 rfl rfl)
theorem dX7_expand64To128Rev_30 : decode cX7_expand64To128Rev 30 = .ok (.ldc2_w 19, 3) := dk_20 0 19 (dk_at dksX7_expand64To128Rev_1 6 rfl rfl)
theorem dX7_expand64To128Rev_33 : decode cX7_expand64To128Rev 33 = .ok (.iconst 2, 1) := dk_5 (dk_at dksX7_expand64To128Rev_1 9 rfl rfl)
theorem dX7_expand64To128Rev_34 : decode cX7_expand64To128Rev 34 = .ok (.invokestatic 9, 3) := dk_184 0 9 (dk_at dksX7_expand64To128Rev_1 10 rfl rfl)
theorem dX7_expand64To128Rev_37 : decode cX7_expand64To128Rev 37 = .ok (.lstore_n 0, 1) := dk_63 (dk_at dksX7_expand64To128Rev_1 13 rfl rfl)
theorem dX7_expand64To128Rev_38 : decode cX7_expand64To128Rev 38 = .ok (.lload_n 0, 1) := dk_30 (dk_at dksX7_expand64To128Rev_1 14 rfl rfl)
theorem dX7_expand64To128Rev_39 : decode cX7_expand64To128Rev 39 = .ok (.ldc2_w 21, 3) := dk_20 0 21 (dk_at dksX7_expand64To128Rev_1 15 rfl rfl)
theorem dX7_expand64To128Rev_42 : decode cX7_expand64To128Rev 42 = .ok (.iconst 1, 1) := dk_4 (dk_at dksX7_expand64To128Rev_1 18 rfl rfl)
theorem dX7_expand64To128Rev_43 : decode cX7_expand64To128Rev 43 = .ok (.invokestatic 9, 3) := dk_184 0 9 (dk_at dksX7_expand64To128Rev_1 19 rfl rfl)
theorem dX7_expand64To128Rev_46 : decode cX7_expand64To128Rev 46 = .ok (.lstore_n 0, 1) := dk_63 (dk_at dksX7_expand64To128Rev_1 22 rfl rfl)
theorem dX7_expand64To128Rev_47 : decode cX7_expand64To128Rev 47 = .ok (.aload_n 2, 1) := dk_44 (dk_at dksX7_expand64To128Rev_1 23 rfl rfl)
theorem dX7_expand64To128Rev_48 : decode cX7_expand64To128Rev 48 = .ok (.iload_n 3, 1) := dk_29 (dk_at dksX7_expand64To128Rev_2 0 rfl rfl)
theorem dX7_expand64To128Rev_49 : decode cX7_expand64To128Rev 49 = .ok (.lload_n 0, 1) := dk_30 (dk_at dksX7_expand64To128Rev_2 1 rfl rfl)
theorem dX7_expand64To128Rev_50 : decode cX7_expand64To128Rev 50 = .ok (.ldc2_w 25, 3) := dk_20 0 25 (dk_at dksX7_expand64To128Rev_2 2 rfl rfl)
theorem dX7_expand64To128Rev_53 : decode cX7_expand64To128Rev 53 = .ok (.land, 1) := dk_127 (dk_at dksX7_expand64To128Rev_2 5 rfl rfl)
theorem dX7_expand64To128Rev_54 : decode cX7_expand64To128Rev 54 = .ok (.lastore, 1) := dk_80 (dk_at dksX7_expand64To128Rev_2 6 rfl rfl)
theorem dX7_expand64To128Rev_55 : decode cX7_expand64To128Rev 55 = .ok (.aload_n 2, 1) := dk_44 (dk_at dksX7_expand64To128Rev_2 7 rfl rfl)
theorem dX7_expand64To128Rev_56 : decode cX7_expand64To128Rev 56 = .ok (.iload_n 3, 1) := dk_29 (dk_at dksX7_expand64To128Rev_2 8 rfl rfl)
theorem dX7_expand64To128Rev_57 : decode cX7_expand64To128Rev 57 = .ok (.iconst 1, 1) := dk_4 (dk_at dksX7_expand64To128Rev_2 9 rfl rfl)
theorem dX7_expand64To128Rev_58 : decode cX7_expand64To128Rev 58 = .ok (.iadd, 1) := dk_96 (dk_at dksX7_expand64To128Rev_2 10 rfl rfl)
theorem dX7_expand64To128Rev_59 : decode cX7_expand64To128Rev 59 = .ok (.lload_n 0, 1) := dk_30 (dk_at dksX7_expand64To128Rev_2 11 rfl rfl)
theorem dX7_expand64To128Rev_60 : decode cX7_expand64To128Rev 60 = .ok (.iconst 1, 1) := dk_4 (dk_at dksX7_expand64To128Rev_2 12 rfl rfl)
theorem dX7_expand64To128Rev_61 : decode cX7_expand64To128Rev 61 = .ok (.lshl, 1) := dk_121 (dk_at dksX7_expand64To128Rev_2 13 rfl rfl)
theorem dX7_expand64To128Rev_62 : decode cX7_expand64To128Rev 62 = .ok (.ldc2_w 25, 3) := dk_20 0 25 (dk_at dksX7_expand64To128Rev_2 14 rfl rfl)
theorem dX7_expand64To128Rev_65 : decode cX7_expand64To128Rev 65 = .ok (.land, 1) := dk_127 (dk_at dksX7_expand64To128Rev_2 17 rfl rfl)
theorem dX7_expand64To128Rev_66 : decode cX7_expand64To128Rev 66 = .ok (.lastore, 1) := dk_80 (dk_at dksX7_expand64To128Rev_2 18 rfl rfl)
theorem dX7_expand64To128Rev_67 : decode cX7_expand64To128Rev 67 = .ok (.return_, 1) := dk_177 (dk_at dksX7_expand64To128Rev_2 19 rfl rfl)
theorem q9 : (Jvm.Cond.initialized "Interleave") ∈ lw_all := lw_g (lw_at lw_m0 9 rfl) rfl
theorem q114 : (Jvm.Cond.static ({ cls := "Interleave", name := "expand64To128Rev", desc := "(J[JI)V" } : Jvm.MethodName)) ∈ lw_all := lw_g (lw_at lw_m0 114 rfl) rfl
theorem q115 : (Jvm.Cond.code ({ cls := "Interleave", name := "expand64To128Rev", desc := "(J[JI)V" } : Jvm.MethodName) prog_6_method_2_code (4 : Nat) (Option.none : Option Jvm.ClassFile.FieldType)) ∈ lw_all := lw_g (lw_at lw_m0 115 rfl) rfl
theorem q116 : (Jvm.Cond.constantLong "Interleave" (7 : Nat) (4294901760 : Int64)) ∈ lw_all := lw_g (lw_at lw_m0 116 rfl) rfl
theorem q117 : (Jvm.Cond.methodLink "Interleave" (9 : Nat) ({ cls := "OwnBits", name := "bitPermuteStep", desc := "(JJI)J" } : Jvm.MethodName)) ∈ lw_all := lw_g (lw_at lw_m0 117 rfl) rfl
theorem q120 : (Jvm.Cond.constantLong "Interleave" (15 : Nat) (280375465148160 : Int64)) ∈ lw_all := lw_g (lw_at lw_m0 120 rfl) rfl
theorem q121 : (Jvm.Cond.constantLong "Interleave" (17 : Nat) (67555025218437360 : Int64)) ∈ lw_all := lw_g (lw_at lw_m0 121 rfl) rfl
theorem q122 : (Jvm.Cond.constantLong "Interleave" (19 : Nat) (868082074056920076 : Int64)) ∈ lw_all := lw_g (lw_at lw_m0 122 rfl) rfl
theorem q123 : (Jvm.Cond.constantLong "Interleave" (21 : Nat) (2459565876494606882 : Int64)) ∈ lw_all := lw_g (lw_at lw_m0 123 rfl) rfl
theorem q124 : (Jvm.Cond.constantLong "Interleave" (25 : Nat) (-6148914691236517206 : Int64)) ∈ lw_all := lw_g (lw_at lw_m0 124 rfl) rfl
/-! OwnBits -/
set_option maxRecDepth 100000
def RX8 : String := "OwnBits"
abbrev cX8_bitPermuteStep : ByteArray := prog_8_method_2_code
def yX8_bitPermuteStep : MethodName := ⟨RX8, "bitPermuteStep", "(JJI)J"⟩
def dkwX8_bitPermuteStep_0 : List UInt8 := [30, 30, 21, 4, 125, 131, 32, 127, 55, 5, 22, 5, 22, 5, 21, 4, 121, 131, 30, 131, 173]
abbrev dktX8_bitPermuteStep_0 : List UInt8 := dkwX8_bitPermuteStep_0 ++ []
theorem dksX8_bitPermuteStep_0 : cX8_bitPermuteStep.data.toList.drop 0 = dktX8_bitPermuteStep_0 := by decide +kernel
theorem dX8_bitPermuteStep_0 : decode cX8_bitPermuteStep 0 = .ok (.lload_n 0, 1) := dk_30 (dk_at dksX8_bitPermuteStep_0 0 rfl rfl)
theorem dX8_bitPermuteStep_1 : decode cX8_bitPermuteStep 1 = .ok (.lload_n 0, 1) := dk_30 (dk_at dksX8_bitPermuteStep_0 1 rfl rfl)
theorem dX8_bitPermuteStep_2 : decode cX8_bitPermuteStep 2 = .ok (.iload 4, 2) := dk_21 4 (dk_at dksX8_bitPermuteStep_0 2 rfl rfl)
theorem dX8_bitPermuteStep_4 : decode cX8_bitPermuteStep 4 = .ok (.lushr, 1) := dk_125 (dk_at dksX8_bitPermuteStep_0 4 rfl rfl)
theorem dX8_bitPermuteStep_5 : decode cX8_bitPermuteStep 5 = .ok (.lxor, 1) := dk_131 (dk_at dksX8_bitPermuteStep_0 5 rfl rfl)
theorem dX8_bitPermuteStep_6 : decode cX8_bitPermuteStep 6 = .ok (.lload_n 2, 1) := dk_32 (dk_at dksX8_bitPermuteStep_0 6 rfl rfl)
theorem dX8_bitPermuteStep_7 : decode cX8_bitPermuteStep 7 = .ok (.land, 1) := dk_127 (dk_at dksX8_bitPermuteStep_0 7 rfl rfl)
theorem dX8_bitPermuteStep_8 : decode cX8_bitPermuteStep 8 = .ok (.lstore 5, 2) := dk_55 5 (dk_at dksX8_bitPermuteStep_0 8 rfl rfl)
theorem dX8_bitPermuteStep_10 : decode cX8_bitPermuteStep 10 = .ok (.lload 5, 2) := dk_22 5 (dk_at dksX8_bitPermuteStep_0 10 rfl rfl)
theorem dX8_bitPermuteStep_12 : decode cX8_bitPermuteStep 12 = .ok (.lload 5, 2) := dk_22 5 (dk_at dksX8_bitPermuteStep_0 12 rfl rfl)
theorem dX8_bitPermuteStep_14 : decode cX8_bitPermuteStep 14 = .ok (.iload 4, 2) := dk_21 4 (dk_at dksX8_bitPermuteStep_0 14 rfl rfl)
theorem dX8_bitPermuteStep_16 : decode cX8_bitPermuteStep 16 = .ok (.lshl, 1) := dk_121 (dk_at dksX8_bitPermuteStep_0 16 rfl rfl)
theorem dX8_bitPermuteStep_17 : decode cX8_bitPermuteStep 17 = .ok (.lxor, 1) := dk_131 (dk_at dksX8_bitPermuteStep_0 17 rfl rfl)
theorem dX8_bitPermuteStep_18 : decode cX8_bitPermuteStep 18 = .ok (.lload_n 0, 1) := dk_30 (dk_at dksX8_bitPermuteStep_0 18 rfl rfl)
theorem dX8_bitPermuteStep_19 : decode cX8_bitPermuteStep 19 = .ok (.lxor, 1) := dk_131 (dk_at dksX8_bitPermuteStep_0 19 rfl rfl)
theorem dX8_bitPermuteStep_20 : decode cX8_bitPermuteStep 20 = .ok (.lreturn, 1) := dk_173 (dk_at dksX8_bitPermuteStep_0 20 rfl rfl)
theorem q10 : (Jvm.Cond.initialized "OwnBits") ∈ lw_all := lw_g (lw_at lw_m0 10 rfl) rfl
theorem q118 : (Jvm.Cond.static ({ cls := "OwnBits", name := "bitPermuteStep", desc := "(JJI)J" } : Jvm.MethodName)) ∈ lw_all := lw_g (lw_at lw_m0 118 rfl) rfl
theorem q119 : (Jvm.Cond.code ({ cls := "OwnBits", name := "bitPermuteStep", desc := "(JJI)J" } : Jvm.MethodName) prog_8_method_2_code (7 : Nat) (Option.some Jvm.ClassFile.FieldType.long)) ∈ lw_all := lw_g (lw_at lw_m0 119 rfl) rfl
theorem q7 : (Jvm.Cond.initialized "java/lang/Number") ∈ lw_all := lw_g (lw_at lw_m0 7 rfl) rfl
set_option maxRecDepth 100000
theorem q29 : (Jvm.Cond.arrayClass Jvm.ClassFile.FieldType.byte) ∈ lw_all := lw_g (lw_at lw_m0 29 rfl) rfl
set_option maxRecDepth 100000
theorem q68 : (Jvm.Cond.arrayClass Jvm.ClassFile.FieldType.long) ∈ lw_all := lw_g (lw_at lw_m0 68 rfl) rfl
end
section
/-! GCMUtil -/
set_option maxRecDepth 100000
def RX4 : String := "GCMUtil"
abbrev cX4_asLongs : ByteArray := prog_5_method_4_code
def yX4_asLongs : MethodName := ⟨RX4, "asLongs", "([B)[J"⟩
def dkwX4_asLongs_0 : List UInt8 := [5, 188, 11, 76, 42, 3, 43, 3, 5, 184, 0, 17, 43, 176]
abbrev dktX4_asLongs_0 : List UInt8 := dkwX4_asLongs_0 ++ []
theorem dksX4_asLongs_0 : cX4_asLongs.data.toList.drop 0 = dktX4_asLongs_0 := by decide +kernel
theorem dX4_asLongs_0 : decode cX4_asLongs 0 = .ok (.iconst 2, 1) := dk_5 (dk_at dksX4_asLongs_0 0 rfl rfl)
theorem dX4_asLongs_1 : decode cX4_asLongs 1 = .ok (.newarray .long, 2) := dk_188_11 (dk_at dksX4_asLongs_0 1 rfl rfl)
theorem dX4_asLongs_3 : decode cX4_asLongs 3 = .ok (.astore_n 1, 1) := dk_76 (dk_at dksX4_asLongs_0 3 rfl rfl)
theorem dX4_asLongs_4 : decode cX4_asLongs 4 = .ok (.aload_n 0, 1) := dk_42 (dk_at dksX4_asLongs_0 4 rfl rfl)
theorem dX4_asLongs_5 : decode cX4_asLongs 5 = .ok (.iconst 0, 1) := dk_3 (dk_at dksX4_asLongs_0 5 rfl rfl)
theorem dX4_asLongs_6 : decode cX4_asLongs 6 = .ok (.aload_n 1, 1) := dk_43 (dk_at dksX4_asLongs_0 6 rfl rfl)
theorem dX4_asLongs_7 : decode cX4_asLongs 7 = .ok (.iconst 0, 1) := dk_3 (dk_at dksX4_asLongs_0 7 rfl rfl)
theorem dX4_asLongs_8 : decode cX4_asLongs 8 = .ok (.iconst 2, 1) := dk_5 (dk_at dksX4_asLongs_0 8 rfl rfl)
theorem dX4_asLongs_9 : decode cX4_asLongs 9 = .ok (.invokestatic 17, 3) := dk_184 0 17 (dk_at dksX4_asLongs_0 9 rfl rfl)
theorem dX4_asLongs_12 : decode cX4_asLongs 12 = .ok (.aload_n 1, 1) := dk_43 (dk_at dksX4_asLongs_0 12 rfl rfl)
theorem dX4_asLongs_13 : decode cX4_asLongs 13 = .ok (.areturn, 1) := dk_176 (dk_at dksX4_asLongs_0 13 rfl rfl)
abbrev cX4_oneAsLongs : ByteArray := prog_5_method_2_code
def yX4_oneAsLongs : MethodName := ⟨RX4, "oneAsLongs", "()[J"⟩
def dkwX4_oneAsLongs_0 : List UInt8 := [5, 188, 11, 75, 42, 3, 20, 0, 9, 80, 42, 176]
abbrev dktX4_oneAsLongs_0 : List UInt8 := dkwX4_oneAsLongs_0 ++ []
theorem dksX4_oneAsLongs_0 : cX4_oneAsLongs.data.toList.drop 0 = dktX4_oneAsLongs_0 := by decide +kernel
theorem dX4_oneAsLongs_0 : decode cX4_oneAsLongs 0 = .ok (.iconst 2, 1) := dk_5 (dk_at dksX4_oneAsLongs_0 0 rfl rfl)
theorem dX4_oneAsLongs_1 : decode cX4_oneAsLongs 1 = .ok (.newarray .long, 2) := dk_188_11 (dk_at dksX4_oneAsLongs_0 1 rfl rfl)
theorem dX4_oneAsLongs_3 : decode cX4_oneAsLongs 3 = .ok (.astore_n 0, 1) := dk_75 (dk_at dksX4_oneAsLongs_0 3 rfl rfl)
theorem dX4_oneAsLongs_4 : decode cX4_oneAsLongs 4 = .ok (.aload_n 0, 1) := dk_42 (dk_at dksX4_oneAsLongs_0 4 rfl rfl)
theorem dX4_oneAsLongs_5 : decode cX4_oneAsLongs 5 = .ok (.iconst 0, 1) := dk_3 (dk_at dksX4_oneAsLongs_0 5 rfl rfl)
theorem dX4_oneAsLongs_6 : decode cX4_oneAsLongs 6 = .ok (.ldc2_w 9, 3) := dk_20 0 9 (dk_at dksX4_oneAsLongs_0 6 rfl rfl)
theorem dX4_oneAsLongs_9 : decode cX4_oneAsLongs 9 = .ok (.lastore, 1) := dk_80 (dk_at dksX4_oneAsLongs_0 9 rfl rfl)
theorem dX4_oneAsLongs_10 : decode cX4_oneAsLongs 10 = .ok (.aload_n 0, 1) := dk_42 (dk_at dksX4_oneAsLongs_0 10 rfl rfl)
theorem dX4_oneAsLongs_11 : decode cX4_oneAsLongs 11 = .ok (.areturn, 1) := dk_176 (dk_at dksX4_oneAsLongs_0 11 rfl rfl)
abbrev cX4_copy : ByteArray := prog_5_method_5_code
def yX4_copy : MethodName := ⟨RX4, "copy", "([J[J)V"⟩
def dkwX4_copy_0 : List UInt8 := [43, 3, 42, 3, 47, 80, 43, 4, 42, 4, 47, 80, 177]
abbrev dktX4_copy_0 : List UInt8 := dkwX4_copy_0 ++ []
theorem dksX4_copy_0 : cX4_copy.data.toList.drop 0 = dktX4_copy_0 := by decide +kernel
theorem dX4_copy_0 : decode cX4_copy 0 = .ok (.aload_n 1, 1) := dk_43 (dk_at dksX4_copy_0 0 rfl rfl)
theorem dX4_copy_1 : decode cX4_copy 1 = .ok (.iconst 0, 1) := dk_3 (dk_at dksX4_copy_0 1 rfl rfl)
theorem dX4_copy_2 : decode cX4_copy 2 = .ok (.aload_n 0, 1) := dk_42 (dk_at dksX4_copy_0 2 rfl rfl)
theorem dX4_copy_3 : decode cX4_copy 3 = .ok (.iconst 0, 1) := dk_3 (dk_at dksX4_copy_0 3 rfl rfl)
theorem dX4_copy_4 : decode cX4_copy 4 = .ok (.laload, 1) := dk_47 (dk_at dksX4_copy_0 4 rfl rfl)
theorem dX4_copy_5 : decode cX4_copy 5 = .ok (.lastore, 1) := dk_80 (dk_at dksX4_copy_0 5 rfl rfl)
theorem dX4_copy_6 : decode cX4_copy 6 = .ok (.aload_n 1, 1) := dk_43 (dk_at dksX4_copy_0 6 rfl rfl)
theorem dX4_copy_7 : decode cX4_copy 7 = .ok (.iconst 1, 1) := dk_4 (dk_at dksX4_copy_0 7 rfl rfl)
theorem dX4_copy_8 : decode cX4_copy 8 = .ok (.aload_n 0, 1) := dk_42 (dk_at dksX4_copy_0 8 rfl rfl)
theorem dX4_copy_9 : decode cX4_copy 9 = .ok (.iconst 1, 1) := dk_4 (dk_at dksX4_copy_0 9 rfl rfl)
theorem dX4_copy_10 : decode cX4_copy 10 = .ok (.laload, 1) := dk_47 (dk_at dksX4_copy_0 10 rfl rfl)
theorem dX4_copy_11 : decode cX4_copy 11 = .ok (.lastore, 1) := dk_80 (dk_at dksX4_copy_0 11 rfl rfl)
theorem dX4_copy_12 : decode cX4_copy 12 = .ok (.return_, 1) := dk_177 (dk_at dksX4_copy_0 12 rfl rfl)
abbrev cX4_multiply : ByteArray := prog_5_method_6_code
def yX4_multiply : MethodName := ⟨RX4, "multiply", "([J[J)V"⟩
def dkwX4_multiply_10 : List UInt8 := [22, 34, 16, 57, 121, 131, 131, 55, 32, 42, 3, 22, 30, 80, 42, 4, 22, 32, 80, 177]
abbrev dktX4_multiply_10 : List UInt8 := dkwX4_multiply_10 ++ []
def dkwX4_multiply_9 : List UInt8 := [125, 131, 22, 34, 16, 7, 125, 131, 131, 55, 30, 22, 32, 22, 34, 16, 63, 121, 22, 34, 16, 62, 121, 131]
abbrev dktX4_multiply_9 : List UInt8 := dkwX4_multiply_9 ++ dktX4_multiply_10
def dkwX4_multiply_8 : List UInt8 := [16, 62, 121, 22, 36, 16, 57, 121, 131, 131, 55, 34, 22, 30, 22, 34, 22, 34, 4, 125, 131, 22, 34, 5]
abbrev dktX4_multiply_8 : List UInt8 := dkwX4_multiply_8 ++ dktX4_multiply_9
def dkwX4_multiply_7 : List UInt8 := [22, 36, 4, 125, 131, 22, 36, 5, 125, 131, 22, 36, 16, 7, 125, 131, 131, 55, 32, 22, 34, 22, 36]
abbrev dktX4_multiply_7 : List UInt8 := dkwX4_multiply_7 ++ dktX4_multiply_8
def dkwX4_multiply_6 : List UInt8 := [55, 32, 22, 22, 22, 20, 131, 22, 24, 131, 22, 28, 131, 55, 34, 22, 24, 55, 36, 22, 32, 22, 36]
abbrev dktX4_multiply_6 : List UInt8 := dkwX4_multiply_6 ++ dktX4_multiply_7
def dkwX4_multiply_5 : List UInt8 := [131, 184, 0, 27, 4, 121, 55, 28, 22, 18, 55, 30, 22, 20, 22, 18, 131, 22, 22, 131, 22, 26, 131]
abbrev dktX4_multiply_5 : List UInt8 := dkwX4_multiply_5 ++ dktX4_multiply_6
def dkwX4_multiply_4 : List UInt8 := [22, 12, 131, 22, 14, 22, 16, 131, 184, 0, 27, 184, 0, 21, 55, 26, 32, 22, 4, 131, 22, 6, 22, 8]
abbrev dktX4_multiply_4 : List UInt8 := dkwX4_multiply_4 ++ dktX4_multiply_5
def dkwX4_multiply_3 : List UInt8 := [22, 16, 184, 0, 27, 184, 0, 21, 55, 22, 22, 4, 22, 8, 184, 0, 27, 4, 121, 55, 24, 22, 10]
abbrev dktX4_multiply_3 : List UInt8 := dkwX4_multiply_3 ++ dktX4_multiply_4
def dkwX4_multiply_2 : List UInt8 := [22, 10, 22, 14, 184, 0, 27, 184, 0, 21, 55, 18, 32, 22, 6, 184, 0, 27, 4, 121, 55, 20, 22, 12]
abbrev dktX4_multiply_2 : List UInt8 := dkwX4_multiply_2 ++ dktX4_multiply_3
def dkwX4_multiply_1 : List UInt8 := [55, 10, 22, 4, 184, 0, 21, 55, 12, 22, 6, 184, 0, 21, 55, 14, 22, 8, 184, 0, 21, 55, 16]
abbrev dktX4_multiply_1 : List UInt8 := dkwX4_multiply_1 ++ dktX4_multiply_2
def dkwX4_multiply_0 : List UInt8 := [42, 3, 47, 65, 42, 4, 47, 55, 4, 43, 3, 47, 55, 6, 43, 4, 47, 55, 8, 32, 184, 0, 21]
abbrev dktX4_multiply_0 : List UInt8 := dkwX4_multiply_0 ++ dktX4_multiply_1
theorem dksX4_multiply_0 : cX4_multiply.data.toList.drop 0 = dktX4_multiply_0 := by decide +kernel
theorem dksX4_multiply_1 : cX4_multiply.data.toList.drop 23 = dktX4_multiply_1 := dk_seg dksX4_multiply_0 23 rfl rfl
theorem dksX4_multiply_2 : cX4_multiply.data.toList.drop 46 = dktX4_multiply_2 := dk_seg dksX4_multiply_1 23 rfl rfl
theorem dksX4_multiply_3 : cX4_multiply.data.toList.drop 70 = dktX4_multiply_3 := dk_seg dksX4_multiply_2 24 rfl rfl
theorem dksX4_multiply_4 : cX4_multiply.data.toList.drop 93 = dktX4_multiply_4 := dk_seg dksX4_multiply_3 23 rfl rfl
theorem dksX4_multiply_5 : cX4_multiply.data.toList.drop 117 = dktX4_multiply_5 := dk_seg dksX4_multiply_4 24 rfl rfl
theorem dksX4_multiply_6 : cX4_multiply.data.toList.drop 140 = dktX4_multiply_6 := dk_seg dksX4_multiply_5 23 rfl rfl
theorem dksX4_multiply_7 : cX4_multiply.data.toList.drop 163 = dktX4_multiply_7 := dk_seg dksX4_multiply_6 23 rfl rfl
theorem dksX4_multiply_8 : cX4_multiply.data.toList.drop 186 = dktX4_multiply_8 := dk_seg dksX4_multiply_7 23 rfl rfl
theorem dksX4_multiply_9 : cX4_multiply.data.toList.drop 210 = dktX4_multiply_9 := dk_seg dksX4_multiply_8 24 rfl rfl
theorem dksX4_multiply_10 : cX4_multiply.data.toList.drop 234 = dktX4_multiply_10 := dk_seg dksX4_multiply_9 24 rfl rfl
theorem dX4_multiply_0 : decode cX4_multiply 0 = .ok (.aload_n 0, 1) := dk_42 (dk_at dksX4_multiply_0 0 rfl rfl)
theorem dX4_multiply_1 : decode cX4_multiply 1 = .ok (.iconst 0, 1) := dk_3 (dk_at dksX4_multiply_0 1 rfl rfl)
theorem dX4_multiply_2 : decode cX4_multiply 2 = .ok (.laload, 1) := dk_47 (dk_at dksX4_multiply_0 2 rfl rfl)
theorem dX4_multiply_3 : decode cX4_multiply 3 = .ok (.lstore_n 2, 1) := dk_65 (dk_at dksX4_multiply_0 3 rfl rfl)
theorem dX4_multiply_4 : decode cX4_multiply 4 = .ok (.aload_n 0, 1) := dk_42 (dk_at dksX4_multiply_0 4 rfl rfl)
theorem dX4_multiply_5 : decode cX4_multiply 5 = .ok (.iconst 1, 1) := dk_4 (dk_at dksX4_multiply_0 5 rfl rfl)
theorem dX4_multiply_6 : decode cX4_multiply 6 = .ok (.laload, 1) := dk_47 (dk_at dksX4_multiply_0 6 rfl rfl)
theorem dX4_multiply_7 : decode cX4_multiply 7 = .ok (.lstore 4, 2) := dk_55 4 (dk_at dksX4_multiply_0 7 rfl rfl)
theorem dX4_multiply_9 : decode cX4_multiply 9 = .ok (.aload_n 1, 1) := dk_43 (dk_at dksX4_multiply_0 9 rfl rfl)
theorem dX4_multiply_10 : decode cX4_multiply 10 = .ok (.iconst 0, 1) := dk_3 (dk_at dksX4_multiply_0 10 rfl rfl)
theorem dX4_multiply_11 : decode cX4_multiply 11 = .ok (.laload, 1) := dk_47 (dk_at dksX4_multiply_0 11 rfl rfl)
theorem dX4_multiply_12 : decode cX4_multiply 12 = .ok (.lstore 6, 2) := dk_55 6 (dk_at dksX4_multiply_0 12 rfl rfl)
theorem dX4_multiply_14 : decode cX4_multiply 14 = .ok (.aload_n 1, 1) := dk_43 (dk_at dksX4_multiply_0 14 rfl rfl)
theorem dX4_multiply_15 : decode cX4_multiply 15 = .ok (.iconst 1, 1) := dk_4 (dk_at dksX4_multiply_0 15 rfl rfl)
theorem dX4_multiply_16 : decode cX4_multiply 16 = .ok (.laload, 1) := dk_47 (dk_at dksX4_multiply_0 16 rfl rfl)
theorem dX4_multiply_17 : decode cX4_multiply 17 = .ok (.lstore 8, 2) := dk_55 8 (dk_at dksX4_multiply_0 17 rfl rfl)
theorem dX4_multiply_19 : decode cX4_multiply 19 = .ok (.lload_n 2, 1) := dk_32 (dk_at dksX4_multiply_0 19 rfl rfl)
theorem dX4_multiply_20 : decode cX4_multiply 20 = .ok (.invokestatic 21, 3) := dk_184 0 21 (dk_at dksX4_multiply_0 20 rfl rfl)
theorem dX4_multiply_23 : decode cX4_multiply 23 = .ok (.lstore 10, 2) := dk_55 10 (dk_at dksX4_multiply_1 0 rfl rfl)
theorem dX4_multiply_25 : decode cX4_multiply 25 = .ok (.lload 4, 2) := dk_22 4 (dk_at dksX4_multiply_1 2 rfl rfl)
theorem dX4_multiply_27 : decode cX4_multiply 27 = .ok (.invokestatic 21, 3) := dk_184 0 21 (dk_at dksX4_multiply_1 4 rfl rfl)
theorem dX4_multiply_30 : decode cX4_multiply 30 = .ok (.lstore 12, 2) := dk_55 12 (dk_at dksX4_multiply_1 7 rfl rfl)
theorem dX4_multiply_32 : decode cX4_multiply 32 = .ok (.lload 6, 2) := dk_22 6 (dk_at dksX4_multiply_1 9 rfl rfl)
theorem dX4_multiply_34 : decode cX4_multiply 34 = .ok (.invokestatic 21, 3) := dk_184 0 21 (dk_at dksX4_multiply_1 11 rfl rfl)
theorem dX4_multiply_37 : decode cX4_multiply 37 = .ok (.lstore 14, 2) := dk_55 14 (dk_at dksX4_multiply_1 14 rfl rfl)
theorem dX4_multiply_39 : decode cX4_multiply 39 = .ok (.lload 8, 2) := dk_22 8 (dk_at dksX4_multiply_1 16 rfl rfl)
theorem dX4_multiply_41 : decode cX4_multiply 41 = .ok (.invokestatic 21, 3) := dk_184 0 21 (dk_at dksX4_multiply_1 18 rfl rfl)
theorem dX4_multiply_44 : decode cX4_multiply 44 = .ok (.lstore 16, 2) := dk_55 16 (dk_at dksX4_multiply_1 21 rfl rfl)
theorem dX4_multiply_46 : decode cX4_multiply 46 = .ok (.lload 10, 2) := dk_22 10 (dk_at dksX4_multiply_2 0 rfl rfl)
theorem dX4_multiply_48 : decode cX4_multiply 48 = .ok (.lload 14, 2) := dk_22 14 (dk_at dksX4_multiply_2 2 rfl rfl)
theorem dX4_multiply_50 : decode cX4_multiply 50 = .ok (.invokestatic 27, 3) := dk_184 0 27 (dk_at dksX4_multiply_2 4 rfl rfl)
theorem dX4_multiply_53 : decode cX4_multiply 53 = .ok (.invokestatic 21, 3) := dk_184 0 21 (dk_at dksX4_multiply_2 7 rfl rfl)
theorem dX4_multiply_56 : decode cX4_multiply 56 = .ok (.lstore 18, 2) := dk_55 18 (dk_at dksX4_multiply_2 10 rfl rfl)
theorem dX4_multiply_58 : decode cX4_multiply 58 = .ok (.lload_n 2, 1) := dk_32 (dk_at dksX4_multiply_2 12 rfl rfl)
theorem dX4_multiply_59 : decode cX4_multiply 59 = .ok (.lload 6, 2) := dk_22 6 (dk_at dksX4_multiply_2 13 rfl rfl)
theorem dX4_multiply_61 : decode cX4_multiply 61 = .ok (.invokestatic 27, 3) := dk_184 0 27 (dk_at dksX4_multiply_2 15 rfl rfl)
theorem dX4_multiply_64 : decode cX4_multiply 64 = .ok (.iconst 1, 1) := dk_4 (dk_at dksX4_multiply_2 18 rfl rfl)
theorem dX4_multiply_65 : decode cX4_multiply 65 = .ok (.lshl, 1) := dk_121 (dk_at dksX4_multiply_2 19 rfl rfl)
theorem dX4_multiply_66 : decode cX4_multiply 66 = .ok (.lstore 20, 2) := dk_55 20 (dk_at dksX4_multiply_2 20 rfl rfl)
theorem dX4_multiply_68 : decode cX4_multiply 68 = .ok (.lload 12, 2) := dk_22 12 (dk_at dksX4_multiply_2 22 rfl rfl)
theorem dX4_multiply_70 : decode cX4_multiply 70 = .ok (.lload 16, 2) := dk_22 16 (dk_at dksX4_multiply_3 0 rfl rfl)
theorem dX4_multiply_72 : decode cX4_multiply 72 = .ok (.invokestatic 27, 3) := dk_184 0 27 (dk_at dksX4_multiply_3 2 rfl rfl)
theorem dX4_multiply_75 : decode cX4_multiply 75 = .ok (.invokestatic 21, 3) := dk_184 0 21 (dk_at dksX4_multiply_3 5 rfl rfl)
theorem dX4_multiply_78 : decode cX4_multiply 78 = .ok (.lstore 22, 2) := dk_55 22 (dk_at dksX4_multiply_3 8 rfl rfl)
theorem dX4_multiply_80 : decode cX4_multiply 80 = .ok (.lload 4, 2) := dk_22 4 (dk_at dksX4_multiply_3 10 rfl rfl)
theorem dX4_multiply_82 : decode cX4_multiply 82 = .ok (.lload 8, 2) := dk_22 8 (dk_at dksX4_multiply_3 12 rfl rfl)
theorem dX4_multiply_84 : decode cX4_multiply 84 = .ok (.invokestatic 27, 3) := dk_184 0 27 (dk_at dksX4_multiply_3 14 rfl rfl)
theorem dX4_multiply_87 : decode cX4_multiply 87 = .ok (.iconst 1, 1) := dk_4 (dk_at dksX4_multiply_3 17 rfl rfl)
theorem dX4_multiply_88 : decode cX4_multiply 88 = .ok (.lshl, 1) := dk_121 (dk_at dksX4_multiply_3 18 rfl rfl)
theorem dX4_multiply_89 : decode cX4_multiply 89 = .ok (.lstore 24, 2) := dk_55 24 (dk_at dksX4_multiply_3 19 rfl rfl)
theorem dX4_multiply_91 : decode cX4_multiply 91 = .ok (.lload 10, 2) := dk_22 10 (dk_at dksX4_multiply_3 21 rfl rfl)
theorem dX4_multiply_93 : decode cX4_multiply 93 = .ok (.lload 12, 2) := dk_22 12 (dk_at dksX4_multiply_4 0 rfl rfl)
theorem dX4_multiply_95 : decode cX4_multiply 95 = .ok (.lxor, 1) := dk_131 (dk_at dksX4_multiply_4 2 rfl rfl)
theorem dX4_multiply_96 : decode cX4_multiply 96 = .ok (.lload 14, 2) := dk_22 14 (dk_at dksX4_multiply_4 3 rfl rfl)
theorem dX4_multiply_98 : decode cX4_multiply 98 = .ok (.lload 16, 2) := dk_22 16 (dk_at dksX4_multiply_4 5 rfl rfl)
theorem dX4_multiply_100 : decode cX4_multiply 100 = .ok (.lxor, 1) := dk_131 (dk_at dksX4_multiply_4 7 rfl rfl)
theorem dX4_multiply_101 : decode cX4_multiply 101 = .ok (.invokestatic 27, 3) := dk_184 0 27 (dk_at dksX4_multiply_4 8 rfl rfl)
theorem dX4_multiply_104 : decode cX4_multiply 104 = .ok (.invokestatic 21, 3) := dk_184 0 21 (dk_at dksX4_multiply_4 11 rfl rfl)
theorem dX4_multiply_107 : decode cX4_multiply 107 = .ok (.lstore 26, 2) := dk_55 26 (dk_at dksX4_multiply_4 14 rfl rfl)
theorem dX4_multiply_109 : decode cX4_multiply 109 = .ok (.lload_n 2, 1) := dk_32 (dk_at dksX4_multiply_4 16 rfl rfl)
theorem dX4_multiply_110 : decode cX4_multiply 110 = .ok (.lload 4, 2) := dk_22 4 (dk_at dksX4_multiply_4 17 rfl rfl)
theorem dX4_multiply_112 : decode cX4_multiply 112 = .ok (.lxor, 1) := dk_131 (dk_at dksX4_multiply_4 19 rfl rfl)
theorem dX4_multiply_113 : decode cX4_multiply 113 = .ok (.lload 6, 2) := dk_22 6 (dk_at dksX4_multiply_4 20 rfl rfl)
theorem dX4_multiply_115 : decode cX4_multiply 115 = .ok (.lload 8, 2) := dk_22 8 (dk_at dksX4_multiply_4 22 rfl rfl)
theorem dX4_multiply_117 : decode cX4_multiply 117 = .ok (.lxor, 1) := dk_131 (dk_at dksX4_multiply_5 0 rfl rfl)
theorem dX4_multiply_118 : decode cX4_multiply 118 = .ok (.invokestatic 27, 3) := dk_184 0 27 (dk_at dksX4_multiply_5 1 rfl rfl)
theorem dX4_multiply_121 : decode cX4_multiply 121 = .ok (.iconst 1, 1) := dk_4 (dk_at dksX4_multiply_5 4 rfl rfl)
theorem dX4_multiply_122 : decode cX4_multiply 122 = .ok (.lshl, 1) := dk_121 (dk_at dksX4_multiply_5 5 rfl rfl)
theorem dX4_multiply_123 : decode cX4_multiply 123 = .ok (.lstore 28, 2) := dk_55 28 (dk_at dksX4_multiply_5 6 rfl rfl)
theorem dX4_multiply_125 : decode cX4_multiply 125 = .ok (.lload 18, 2) := dk_22 18 (dk_at dksX4_multiply_5 8 rfl rfl)
theorem dX4_multiply_127 : decode cX4_multiply 127 = .ok (.lstore 30, 2) := dk_55 30 (dk_at dksX4_multiply_5 10 rfl rfl)
theorem dX4_multiply_129 : decode cX4_multiply 129 = .ok (.lload 20, 2) := dk_22 20 (dk_at dksX4_multiply_5 12 rfl rfl)
theorem dX4_multiply_131 : decode cX4_multiply 131 = .ok (.lload 18, 2) := dk_22 18 (dk_at dksX4_multiply_5 14 rfl rfl)
theorem dX4_multiply_133 : decode cX4_multiply 133 = .ok (.lxor, 1) := dk_131 (dk_at dksX4_multiply_5 16 rfl rfl)
theorem dX4_multiply_134 : decode cX4_multiply 134 = .ok (.lload 22, 2) := dk_22 22 (dk_at dksX4_multiply_5 17 rfl rfl)
theorem dX4_multiply_136 : decode cX4_multiply 136 = .ok (.lxor, 1) := dk_131 (dk_at dksX4_multiply_5 19 rfl rfl)
theorem dX4_multiply_137 : decode cX4_multiply 137 = .ok (.lload 26, 2) := dk_22 26 (dk_at dksX4_multiply_5 20 rfl rfl)
theorem dX4_multiply_139 : decode cX4_multiply 139 = .ok (.lxor, 1) := dk_131 (dk_at dksX4_multiply_5 22 rfl rfl)
theorem dX4_multiply_140 : decode cX4_multiply 140 = .ok (.lstore 32, 2) := dk_55 32 (dk_at dksX4_multiply_6 0 rfl rfl)
theorem dX4_multiply_142 : decode cX4_multiply 142 = .ok (.lload 22, 2) := dk_22 22 (dk_at dksX4_multiply_6 2 rfl rfl)
theorem dX4_multiply_144 : decode cX4_multiply 144 = .ok (.lload 20, 2) := dk_22 20 (dk_at dksX4_multiply_6 4 rfl rfl)
theorem dX4_multiply_146 : decode cX4_multiply 146 = .ok (.lxor, 1) := dk_131 (dk_at dksX4_multiply_6 6 rfl rfl)
theorem dX4_multiply_147 : decode cX4_multiply 147 = .ok (.lload 24, 2) := dk_22 24 (dk_at dksX4_multiply_6 7 rfl rfl)
theorem dX4_multiply_149 : decode cX4_multiply 149 = .ok (.lxor, 1) := dk_131 (dk_at dksX4_multiply_6 9 rfl rfl)
theorem dX4_multiply_150 : decode cX4_multiply 150 = .ok (.lload 28, 2) := dk_22 28 (dk_at dksX4_multiply_6 10 rfl rfl)
theorem dX4_multiply_152 : decode cX4_multiply 152 = .ok (.lxor, 1) := dk_131 (dk_at dksX4_multiply_6 12 rfl rfl)
theorem dX4_multiply_153 : decode cX4_multiply 153 = .ok (.lstore 34, 2) := dk_55 34 (dk_at dksX4_multiply_6 13 rfl rfl)
theorem dX4_multiply_155 : decode cX4_multiply 155 = .ok (.lload 24, 2) := dk_22 24 (dk_at dksX4_multiply_6 15 rfl rfl)
theorem dX4_multiply_157 : decode cX4_multiply 157 = .ok (.lstore 36, 2) := dk_55 36 (dk_at dksX4_multiply_6 17 rfl rfl)
theorem dX4_multiply_159 : decode cX4_multiply 159 = .ok (.lload 32, 2) := dk_22 32 (dk_at dksX4_multiply_6 19 rfl rfl)
theorem dX4_multiply_161 : decode cX4_multiply 161 = .ok (.lload 36, 2) := dk_22 36 (dk_at dksX4_multiply_6 21 rfl rfl)
theorem dX4_multiply_163 : decode cX4_multiply 163 = .ok (.lload 36, 2) := dk_22 36 (dk_at dksX4_multiply_7 0 rfl rfl)
theorem dX4_multiply_165 : decode cX4_multiply 165 = .ok (.iconst 1, 1) := dk_4 (dk_at dksX4_multiply_7 2 rfl rfl)
theorem dX4_multiply_166 : decode cX4_multiply 166 = .ok (.lushr, 1) := dk_125 (dk_at dksX4_multiply_7 3 rfl rfl)
theorem dX4_multiply_167 : decode cX4_multiply 167 = .ok (.lxor, 1) := dk_131 (dk_at dksX4_multiply_7 4 rfl rfl)
theorem dX4_multiply_168 : decode cX4_multiply 168 = .ok (.lload 36, 2) := dk_22 36 (dk_at dksX4_multiply_7 5 rfl rfl)
theorem dX4_multiply_170 : decode cX4_multiply 170 = .ok (.iconst 2, 1) := dk_5 (dk_at dksX4_multiply_7 7 rfl rfl)
theorem dX4_multiply_171 : decode cX4_multiply 171 = .ok (.lushr, 1) := dk_125 (dk_at dksX4_multiply_7 8 rfl rfl)
theorem dX4_multiply_172 : decode cX4_multiply 172 = .ok (.lxor, 1) := dk_131 (dk_at dksX4_multiply_7 9 rfl rfl)
theorem dX4_multiply_173 : decode cX4_multiply 173 = .ok (.lload 36, 2) := dk_22 36 (dk_at dksX4_multiply_7 10 rfl rfl)
theorem dX4_multiply_175 : decode cX4_multiply 175 = .ok (.bipush 7, 2) := dk_16 7 (dk_at dksX4_multiply_7 12 rfl rfl)
theorem dX4_multiply_177 : decode cX4_multiply 177 = .ok (.lushr, 1) := dk_125 (dk_at dksX4_multiply_7 14 rfl rfl)
theorem dX4_multiply_178 : decode cX4_multiply 178 = .ok (.lxor, 1) := dk_131 (dk_at dksX4_multiply_7 15 rfl rfl)
theorem dX4_multiply_179 : decode cX4_multiply 179 = .ok (.lxor, 1) := dk_131 (dk_at dksX4_multiply_7 16 rfl rfl)
theorem dX4_multiply_180 : decode cX4_multiply 180 = .ok (.lstore 32, 2) := dk_55 32 (dk_at dksX4_multiply_7 17 rfl rfl)
theorem dX4_multiply_182 : decode cX4_multiply 182 = .ok (.lload 34, 2) := dk_22 34 (dk_at dksX4_multiply_7 19 rfl rfl)
theorem dX4_multiply_184 : decode cX4_multiply 184 = .ok (.lload 36, 2) := dk_22 36 (dk_at dksX4_multiply_7 21 rfl rfl)
theorem dX4_multiply_186 : decode cX4_multiply 186 = .ok (.bipush 62, 2) := dk_16 62 (dk_at dksX4_multiply_8 0 rfl rfl)
theorem dX4_multiply_188 : decode cX4_multiply 188 = .ok (.lshl, 1) := dk_121 (dk_at dksX4_multiply_8 2 rfl rfl)
theorem dX4_multiply_189 : decode cX4_multiply 189 = .ok (.lload 36, 2) := dk_22 36 (dk_at dksX4_multiply_8 3 rfl rfl)
theorem dX4_multiply_191 : decode cX4_multiply 191 = .ok (.bipush 57, 2) := dk_16 57 (dk_at dksX4_multiply_8 5 rfl rfl)
theorem dX4_multiply_193 : decode cX4_multiply 193 = .ok (.lshl, 1) := dk_121 (dk_at dksX4_multiply_8 7 rfl rfl)
theorem dX4_multiply_194 : decode cX4_multiply 194 = .ok (.lxor, 1) := dk_131 (dk_at dksX4_multiply_8 8 rfl rfl)
theorem dX4_multiply_195 : decode cX4_multiply 195 = .ok (.lxor, 1) := dk_131 (dk_at dksX4_multiply_8 9 rfl rfl)
theorem dX4_multiply_196 : decode cX4_multiply 196 = .ok (.lstore 34, 2) := dk_55 34 (dk_at dksX4_multiply_8 10 rfl rfl)
theorem dX4_multiply_198 : decode cX4_multiply 198 = .ok (.lload 30, 2) := dk_22 30 (dk_at dksX4_multiply_8 12 rfl rfl)
theorem dX4_multiply_200 : decode cX4_multiply 200 = .ok (.lload 34, 2) := dk_22 34 (dk_at dksX4_multiply_8 14 rfl rfl)
theorem dX4_multiply_202 : decode cX4_multiply 202 = .ok (.lload 34, 2) := dk_22 34 (dk_at dksX4_multiply_8 16 rfl rfl)
theorem dX4_multiply_204 : decode cX4_multiply 204 = .ok (.iconst 1, 1) := dk_4 (dk_at dksX4_multiply_8 18 rfl rfl)
theorem dX4_multiply_205 : decode cX4_multiply 205 = .ok (.lushr, 1) := dk_125 (dk_at dksX4_multiply_8 19 rfl rfl)
theorem dX4_multiply_206 : decode cX4_multiply 206 = .ok (.lxor, 1) := dk_131 (dk_at dksX4_multiply_8 20 rfl rfl)
theorem dX4_multiply_207 : decode cX4_multiply 207 = .ok (.lload 34, 2) := dk_22 34 (dk_at dksX4_multiply_8 21 rfl rfl)
theorem dX4_multiply_209 : decode cX4_multiply 209 = .ok (.iconst 2, 1) := dk_5 (dk_at dksX4_multiply_8 23 rfl rfl)
theorem dX4_multiply_210 : decode cX4_multiply 210 = .ok (.lushr, 1) := dk_125 (dk_at dksX4_multiply_9 0 rfl rfl)
theorem dX4_multiply_211 : decode cX4_multiply 211 = .ok (.lxor, 1) := dk_131 (dk_at dksX4_multiply_9 1 rfl rfl)
theorem dX4_multiply_212 : decode cX4_multiply 212 = .ok (.lload 34, 2) := dk_22 34 (dk_at dksX4_multiply_9 2 rfl rfl)
theorem dX4_multiply_214 : decode cX4_multiply 214 = .ok (.bipush 7, 2) := dk_16 7 (dk_at dksX4_multiply_9 4 rfl rfl)
theorem dX4_multiply_216 : decode cX4_multiply 216 = .ok (.lushr, 1) := dk_125 (dk_at dksX4_multiply_9 6 rfl rfl)
theorem dX4_multiply_217 : decode cX4_multiply 217 = .ok (.lxor, 1) := dk_131 (dk_at dksX4_multiply_9 7 rfl rfl)
theorem dX4_multiply_218 : decode cX4_multiply 218 = .ok (.lxor, 1) := dk_131 (dk_at dksX4_multiply_9 8 rfl rfl)
theorem dX4_multiply_219 : decode cX4_multiply 219 = .ok (.lstore 30, 2) := dk_55 30 (dk_at dksX4_multiply_9 9 rfl rfl)
theorem dX4_multiply_221 : decode cX4_multiply 221 = .ok (.lload 32, 2) := dk_22 32 (dk_at dksX4_multiply_9 11 rfl rfl)
theorem dX4_multiply_223 : decode cX4_multiply 223 = .ok (.lload 34, 2) := dk_22 34 (dk_at dksX4_multiply_9 13 rfl rfl)
theorem dX4_multiply_225 : decode cX4_multiply 225 = .ok (.bipush 63, 2) := dk_16 63 (dk_at dksX4_multiply_9 15 rfl rfl)
theorem dX4_multiply_227 : decode cX4_multiply 227 = .ok (.lshl, 1) := dk_121 (dk_at dksX4_multiply_9 17 rfl rfl)
theorem dX4_multiply_228 : decode cX4_multiply 228 = .ok (.lload 34, 2) := dk_22 34 (dk_at dksX4_multiply_9 18 rfl rfl)
theorem dX4_multiply_230 : decode cX4_multiply 230 = .ok (.bipush 62, 2) := dk_16 62 (dk_at dksX4_multiply_9 20 rfl rfl)
theorem dX4_multiply_232 : decode cX4_multiply 232 = .ok (.lshl, 1) := dk_121 (dk_at dksX4_multiply_9 22 rfl rfl)
theorem dX4_multiply_233 : decode cX4_multiply 233 = .ok (.lxor, 1) := dk_131 (dk_at dksX4_multiply_9 23 rfl rfl)
theorem dX4_multiply_234 : decode cX4_multiply 234 = .ok (.lload 34, 2) := dk_22 34 (dk_at dksX4_multiply_10 0 rfl rfl)
theorem dX4_multiply_236 : decode cX4_multiply 236 = .ok (.bipush 57, 2) := dk_16 57 (dk_at dksX4_multiply_10 2 rfl rfl)
theorem dX4_multiply_238 : decode cX4_multiply 238 = .ok (.lshl, 1) := dk_121 (dk_at dksX4_multiply_10 4 rfl rfl)
theorem dX4_multiply_239 : decode cX4_multiply 239 = .ok (.lxor, 1) := dk_131 (dk_at dksX4_multiply_10 5 rfl rfl)
theorem dX4_multiply_240 : decode cX4_multiply 240 = .ok (.lxor, 1) := dk_131 (dk_at dksX4_multiply_10 6 rfl rfl)
theorem dX4_multiply_241 : decode cX4_multiply 241 = .ok (.lstore 32, 2) := dk_55 32 (dk_at dksX4_multiply_10 7 rfl rfl)
theorem dX4_multiply_243 : decode cX4_multiply 243 = .ok (.aload_n 0, 1) := dk_42 (dk_at dksX4_multiply_10 9 rfl rfl)
theorem dX4_multiply_244 : decode cX4_multiply 244 = .ok (.iconst 0, 1) := dk_3 (dk_at dksX4_multiply_10 10 rfl rfl)
theorem dX4_multiply_245 : decode cX4_multiply 245 = .ok (.lload 30, 2) := dk_22 30 (dk_at dksX4_multiply_10 11 rfl rfl)
theorem dX4_multiply_247 : decode cX4_multiply 247 = .ok (.lastore, 1) := dk_80 (dk_at dksX4_multiply_10 13 rfl rfl)
theorem dX4_multiply_248 : decode cX4_multiply 248 = .ok (.aload_n 0, 1) := dk_42 (dk_at dksX4_multiply_10 14 rfl rfl)
theorem dX4_multiply_249 : decode cX4_multiply 249 = .ok (.iconst 1, 1) := dk_4 (dk_at dksX4_multiply_10 15 rfl rfl)
theorem dX4_multiply_250 : decode cX4_multiply 250 = .ok (.lload 32, 2) := dk_22 32 (dk_at dksX4_multiply_10 16 rfl rfl)
theorem dX4_multiply_252 : decode cX4_multiply 252 = .ok (.lastore, 1) := dk_80 (dk_at dksX4_multiply_10 18 rfl rfl)
theorem dX4_multiply_253 : decode cX4_multiply 253 = .ok (.return_, 1) := dk_177 (dk_at dksX4_multiply_10 19 rfl rfl)
abbrev cX4_implMul64 : ByteArray := prog_5_method_8_code
def yX4_implMul64 : MethodName := ⟨RX4, "implMul64", "(JJ)J"⟩
def dkwX4_implMul64_8 : List UInt8 := [22, 20, 22, 22, 129, 22, 24, 129, 22, 26, 129, 173]
abbrev dktX4_implMul64_8 : List UInt8 := dkwX4_implMul64_8 ++ []
def dkwX4_implMul64_7 : List UInt8 := [22, 22, 20, 0, 39, 127, 55, 22, 22, 24, 20, 0, 41, 127, 55, 24, 22, 26, 20, 0, 43, 127, 55, 26]
abbrev dktX4_implMul64_7 : List UInt8 := dkwX4_implMul64_7 ++ dktX4_implMul64_8
def dkwX4_implMul64_6 : List UInt8 := [105, 131, 22, 8, 22, 14, 105, 131, 22, 10, 22, 12, 105, 131, 55, 26, 22, 20, 20, 0, 37, 127, 55, 20]
abbrev dktX4_implMul64_6 : List UInt8 := dkwX4_implMul64_6 ++ dktX4_implMul64_7
def dkwX4_implMul64_5 : List UInt8 := [131, 22, 8, 22, 12, 105, 131, 22, 10, 22, 18, 105, 131, 55, 24, 22, 4, 22, 18, 105, 22, 6, 22, 16]
abbrev dktX4_implMul64_5 : List UInt8 := dkwX4_implMul64_5 ++ dktX4_implMul64_6
def dkwX4_implMul64_4 : List UInt8 := [22, 8, 22, 18, 105, 131, 22, 10, 22, 16, 105, 131, 55, 22, 22, 4, 22, 16, 105, 22, 6, 22, 14, 105]
abbrev dktX4_implMul64_4 : List UInt8 := dkwX4_implMul64_4 ++ dktX4_implMul64_5
def dkwX4_implMul64_3 : List UInt8 := [22, 16, 105, 131, 22, 10, 22, 14, 105, 131, 55, 20, 22, 4, 22, 14, 105, 22, 6, 22, 12, 105, 131]
abbrev dktX4_implMul64_3 : List UInt8 := dkwX4_implMul64_3 ++ dktX4_implMul64_4
def dkwX4_implMul64_2 : List UInt8 := [127, 55, 16, 32, 20, 0, 43, 127, 55, 18, 22, 4, 22, 12, 105, 22, 6, 22, 18, 105, 131, 22, 8]
abbrev dktX4_implMul64_2 : List UInt8 := dkwX4_implMul64_2 ++ dktX4_implMul64_3
def dkwX4_implMul64_1 : List UInt8 := [20, 0, 43, 127, 55, 10, 32, 20, 0, 37, 127, 55, 12, 32, 20, 0, 39, 127, 55, 14, 32, 20, 0, 41]
abbrev dktX4_implMul64_1 : List UInt8 := dkwX4_implMul64_1 ++ dktX4_implMul64_2
def dkwX4_implMul64_0 : List UInt8 := [30, 20, 0, 37, 127, 55, 4, 30, 20, 0, 39, 127, 55, 6, 30, 20, 0, 41, 127, 55, 8, 30]
abbrev dktX4_implMul64_0 : List UInt8 := dkwX4_implMul64_0 ++ dktX4_implMul64_1
theorem dksX4_implMul64_0 : cX4_implMul64.data.toList.drop 0 = dktX4_implMul64_0 := by decide +kernel
theorem dksX4_implMul64_1 : cX4_implMul64.data.toList.drop 22 = dktX4_implMul64_1 := dk_seg dksX4_implMul64_0 22 rfl rfl
theorem dksX4_implMul64_2 : cX4_implMul64.data.toList.drop 46 = dktX4_implMul64_2 := dk_seg dksX4_implMul64_1 24 rfl rfl
theorem dksX4_implMul64_3 : cX4_implMul64.data.toList.drop 69 = dktX4_implMul64_3 := dk_seg dksX4_implMul64_2 23 rfl rfl
theorem dksX4_implMul64_4 : cX4_implMul64.data.toList.drop 92 = dktX4_implMul64_4 := dk_seg dksX4_implMul64_3 23 rfl rfl
theorem dksX4_implMul64_5 : cX4_implMul64.data.toList.drop 116 = dktX4_implMul64_5 := dk_seg dksX4_implMul64_4 24 rfl rfl
theorem dksX4_implMul64_6 : cX4_implMul64.data.toList.drop 140 = dktX4_implMul64_6 := dk_seg dksX4_implMul64_5 24 rfl rfl
theorem dksX4_implMul64_7 : cX4_implMul64.data.toList.drop 164 = dktX4_implMul64_7 := dk_seg dksX4_implMul64_6 24 rfl rfl
theorem dksX4_implMul64_8 : cX4_implMul64.data.toList.drop 188 = dktX4_implMul64_8 := dk_seg dksX4_implMul64_7 24 rfl rfl
theorem dX4_implMul64_0 : decode cX4_implMul64 0 = .ok (.lload_n 0, 1) := dk_30 (dk_at dksX4_implMul64_0 0 rfl rfl)
theorem dX4_implMul64_1 : decode cX4_implMul64 1 = .ok (.ldc2_w 37, 3) := dk_20 0 37 (dk_at dksX4_implMul64_0 1 rfl rfl)
theorem dX4_implMul64_4 : decode cX4_implMul64 4 = .ok (.land, 1) := dk_127 (dk_at dksX4_implMul64_0 4 rfl rfl)
theorem dX4_implMul64_5 : decode cX4_implMul64 5 = .ok (.lstore 4, 2) := dk_55 4 (dk_at dksX4_implMul64_0 5 rfl rfl)
theorem dX4_implMul64_7 : decode cX4_implMul64 7 = .ok (.lload_n 0, 1) := dk_30 (dk_at dksX4_implMul64_0 7 rfl rfl)
theorem dX4_implMul64_8 : decode cX4_implMul64 8 = .ok (.ldc2_w 39, 3) := dk_20 0 39 (dk_at dksX4_implMul64_0 8 rfl rfl)
theorem dX4_implMul64_11 : decode cX4_implMul64 11 = .ok (.land, 1) := dk_127 (dk_at dksX4_implMul64_0 11 rfl rfl)
theorem dX4_implMul64_12 : decode cX4_implMul64 12 = .ok (.lstore 6, 2) := dk_55 6 (dk_at dksX4_implMul64_0 12 rfl rfl)
theorem dX4_implMul64_14 : decode cX4_implMul64 14 = .ok (.lload_n 0, 1) := dk_30 (dk_at dksX4_implMul64_0 14 rfl rfl)
theorem dX4_implMul64_15 : decode cX4_implMul64 15 = .ok (.ldc2_w 41, 3) := dk_20 0 41 (dk_at dksX4_implMul64_0 15 rfl rfl)
theorem dX4_implMul64_18 : decode cX4_implMul64 18 = .ok (.land, 1) := dk_127 (dk_at dksX4_implMul64_0 18 rfl rfl)
theorem dX4_implMul64_19 : decode cX4_implMul64 19 = .ok (.lstore 8, 2) := dk_55 8 (dk_at dksX4_implMul64_0 19 rfl rfl)
theorem dX4_implMul64_21 : decode cX4_implMul64 21 = .ok (.lload_n 0, 1) := dk_30 (dk_at dksX4_implMul64_0 21 rfl rfl)
theorem dX4_implMul64_22 : decode cX4_implMul64 22 = .ok (.ldc2_w 43, 3) := dk_20 0 43 (dk_at dksX4_implMul64_1 0 rfl rfl)
theorem dX4_implMul64_25 : decode cX4_implMul64 25 = .ok (.land, 1) := dk_127 (dk_at dksX4_implMul64_1 3 rfl rfl)
theorem dX4_implMul64_26 : decode cX4_implMul64 26 = .ok (.lstore 10, 2) := dk_55 10 (dk_at dksX4_implMul64_1 4 rfl rfl)
theorem dX4_implMul64_28 : decode cX4_implMul64 28 = .ok (.lload_n 2, 1) := dk_32 (dk_at dksX4_implMul64_1 6 rfl rfl)
theorem dX4_implMul64_29 : decode cX4_implMul64 29 = .ok (.ldc2_w 37, 3) := dk_20 0 37 (dk_at dksX4_implMul64_1 7 rfl rfl)
theorem dX4_implMul64_32 : decode cX4_implMul64 32 = .ok (.land, 1) := dk_127 (dk_at dksX4_implMul64_1 10 rfl rfl)
theorem dX4_implMul64_33 : decode cX4_implMul64 33 = .ok (.lstore 12, 2) := dk_55 12 (dk_at dksX4_implMul64_1 11 rfl rfl)
theorem dX4_implMul64_35 : decode cX4_implMul64 35 = .ok (.lload_n 2, 1) := dk_32 (dk_at dksX4_implMul64_1 13 rfl rfl)
theorem dX4_implMul64_36 : decode cX4_implMul64 36 = .ok (.ldc2_w 39, 3) := dk_20 0 39 (dk_at dksX4_implMul64_1 14 rfl rfl)
theorem dX4_implMul64_39 : decode cX4_implMul64 39 = .ok (.land, 1) := dk_127 (dk_at dksX4_implMul64_1 17 rfl rfl)
theorem dX4_implMul64_40 : decode cX4_implMul64 40 = .ok (.lstore 14, 2) := dk_55 14 (dk_at dksX4_implMul64_1 18 rfl rfl)
theorem dX4_implMul64_42 : decode cX4_implMul64 42 = .ok (.lload_n 2, 1) := dk_32 (dk_at dksX4_implMul64_1 20 rfl rfl)
theorem dX4_implMul64_43 : decode cX4_implMul64 43 = .ok (.ldc2_w 41, 3) := dk_20 0 41 (dk_at dksX4_implMul64_1 21 rfl rfl)
theorem dX4_implMul64_46 : decode cX4_implMul64 46 = .ok (.land, 1) := dk_127 (dk_at dksX4_implMul64_2 0 rfl rfl)
theorem dX4_implMul64_47 : decode cX4_implMul64 47 = .ok (.lstore 16, 2) := dk_55 16 (dk_at dksX4_implMul64_2 1 rfl rfl)
theorem dX4_implMul64_49 : decode cX4_implMul64 49 = .ok (.lload_n 2, 1) := dk_32 (dk_at dksX4_implMul64_2 3 rfl rfl)
theorem dX4_implMul64_50 : decode cX4_implMul64 50 = .ok (.ldc2_w 43, 3) := dk_20 0 43 (dk_at dksX4_implMul64_2 4 rfl rfl)
theorem dX4_implMul64_53 : decode cX4_implMul64 53 = .ok (.land, 1) := dk_127 (dk_at dksX4_implMul64_2 7 rfl rfl)
theorem dX4_implMul64_54 : decode cX4_implMul64 54 = .ok (.lstore 18, 2) := dk_55 18 (dk_at dksX4_implMul64_2 8 rfl rfl)
theorem dX4_implMul64_56 : decode cX4_implMul64 56 = .ok (.lload 4, 2) := dk_22 4 (dk_at dksX4_implMul64_2 10 rfl rfl)
theorem dX4_implMul64_58 : decode cX4_implMul64 58 = .ok (.lload 12, 2) := dk_22 12 (dk_at dksX4_implMul64_2 12 rfl rfl)
theorem dX4_implMul64_60 : decode cX4_implMul64 60 = .ok (.lmul, 1) := dk_105 (dk_at dksX4_implMul64_2 14 rfl rfl)
theorem dX4_implMul64_61 : decode cX4_implMul64 61 = .ok (.lload 6, 2) := dk_22 6 (dk_at dksX4_implMul64_2 15 rfl rfl)
theorem dX4_implMul64_63 : decode cX4_implMul64 63 = .ok (.lload 18, 2) := dk_22 18 (dk_at dksX4_implMul64_2 17 rfl rfl)
theorem dX4_implMul64_65 : decode cX4_implMul64 65 = .ok (.lmul, 1) := dk_105 (dk_at dksX4_implMul64_2 19 rfl rfl)
theorem dX4_implMul64_66 : decode cX4_implMul64 66 = .ok (.lxor, 1) := dk_131 (dk_at dksX4_implMul64_2 20 rfl rfl)
theorem dX4_implMul64_67 : decode cX4_implMul64 67 = .ok (.lload 8, 2) := dk_22 8 (dk_at dksX4_implMul64_2 21 rfl rfl)
theorem dX4_implMul64_69 : decode cX4_implMul64 69 = .ok (.lload 16, 2) := dk_22 16 (dk_at dksX4_implMul64_3 0 rfl rfl)
theorem dX4_implMul64_71 : decode cX4_implMul64 71 = .ok (.lmul, 1) := dk_105 (dk_at dksX4_implMul64_3 2 rfl rfl)
theorem dX4_implMul64_72 : decode cX4_implMul64 72 = .ok (.lxor, 1) := dk_131 (dk_at dksX4_implMul64_3 3 rfl rfl)
theorem dX4_implMul64_73 : decode cX4_implMul64 73 = .ok (.lload 10, 2) := dk_22 10 (dk_at dksX4_implMul64_3 4 rfl rfl)
theorem dX4_implMul64_75 : decode cX4_implMul64 75 = .ok (.lload 14, 2) := dk_22 14 (dk_at dksX4_implMul64_3 6 rfl rfl)
theorem dX4_implMul64_77 : decode cX4_implMul64 77 = .ok (.lmul, 1) := dk_105 (dk_at dksX4_implMul64_3 8 rfl rfl)
theorem dX4_implMul64_78 : decode cX4_implMul64 78 = .ok (.lxor, 1) := dk_131 (dk_at dksX4_implMul64_3 9 rfl rfl)
theorem dX4_implMul64_79 : decode cX4_implMul64 79 = .ok (.lstore 20, 2) := dk_55 20 (dk_at dksX4_implMul64_3 10 rfl rfl)
theorem dX4_implMul64_81 : decode cX4_implMul64 81 = .ok (.lload 4, 2) := dk_22 4 (dk_at dksX4_implMul64_3 12 rfl rfl)
theorem dX4_implMul64_83 : decode cX4_implMul64 83 = .ok (.lload 14, 2) := dk_22 14 (dk_at dksX4_implMul64_3 14 rfl rfl)
theorem dX4_implMul64_85 : decode cX4_implMul64 85 = .ok (.lmul, 1) := dk_105 (dk_at dksX4_implMul64_3 16 rfl rfl)
theorem dX4_implMul64_86 : decode cX4_implMul64 86 = .ok (.lload 6, 2) := dk_22 6 (dk_at dksX4_implMul64_3 17 rfl rfl)
theorem dX4_implMul64_88 : decode cX4_implMul64 88 = .ok (.lload 12, 2) := dk_22 12 (dk_at dksX4_implMul64_3 19 rfl rfl)
theorem dX4_implMul64_90 : decode cX4_implMul64 90 = .ok (.lmul, 1) := dk_105 (dk_at dksX4_implMul64_3 21 rfl rfl)
theorem dX4_implMul64_91 : decode cX4_implMul64 91 = .ok (.lxor, 1) := dk_131 (dk_at dksX4_implMul64_3 22 rfl rfl)
theorem dX4_implMul64_92 : decode cX4_implMul64 92 = .ok (.lload 8, 2) := dk_22 8 (dk_at dksX4_implMul64_4 0 rfl rfl)
theorem dX4_implMul64_94 : decode cX4_implMul64 94 = .ok (.lload 18, 2) := dk_22 18 (dk_at dksX4_implMul64_4 2 rfl rfl)
theorem dX4_implMul64_96 : decode cX4_implMul64 96 = .ok (.lmul, 1) := dk_105 (dk_at dksX4_implMul64_4 4 rfl rfl)
theorem dX4_implMul64_97 : decode cX4_implMul64 97 = .ok (.lxor, 1) := dk_131 (dk_at dksX4_implMul64_4 5 rfl rfl)
theorem dX4_implMul64_98 : decode cX4_implMul64 98 = .ok (.lload 10, 2) := dk_22 10 (dk_at dksX4_implMul64_4 6 rfl rfl)
theorem dX4_implMul64_100 : decode cX4_implMul64 100 = .ok (.lload 16, 2) := dk_22 16 (dk_at dksX4_implMul64_4 8 rfl rfl)
theorem dX4_implMul64_102 : decode cX4_implMul64 102 = .ok (.lmul, 1) := dk_105 (dk_at dksX4_implMul64_4 10 rfl rfl)
theorem dX4_implMul64_103 : decode cX4_implMul64 103 = .ok (.lxor, 1) := dk_131 (dk_at dksX4_implMul64_4 11 rfl rfl)
theorem dX4_implMul64_104 : decode cX4_implMul64 104 = .ok (.lstore 22, 2) := dk_55 22 (dk_at dksX4_implMul64_4 12 rfl rfl)
theorem dX4_implMul64_106 : decode cX4_implMul64 106 = .ok (.lload 4, 2) := dk_22 4 (dk_at dksX4_implMul64_4 14 rfl rfl)
theorem dX4_implMul64_108 : decode cX4_implMul64 108 = .ok (.lload 16, 2) := dk_22 16 (dk_at dksX4_implMul64_4 16 rfl rfl)
theorem dX4_implMul64_110 : decode cX4_implMul64 110 = .ok (.lmul, 1) := dk_105 (dk_at dksX4_implMul64_4 18 rfl rfl)
theorem dX4_implMul64_111 : decode cX4_implMul64 111 = .ok (.lload 6, 2) := dk_22 6 (dk_at dksX4_implMul64_4 19 rfl rfl)
theorem dX4_implMul64_113 : decode cX4_implMul64 113 = .ok (.lload 14, 2) := dk_22 14 (dk_at dksX4_implMul64_4 21 rfl rfl)
theorem dX4_implMul64_115 : decode cX4_implMul64 115 = .ok (.lmul, 1) := dk_105 (dk_at dksX4_implMul64_4 23 rfl rfl)
theorem dX4_implMul64_116 : decode cX4_implMul64 116 = .ok (.lxor, 1) := dk_131 (dk_at dksX4_implMul64_5 0 rfl rfl)
theorem dX4_implMul64_117 : decode cX4_implMul64 117 = .ok (.lload 8, 2) := dk_22 8 (dk_at dksX4_implMul64_5 1 rfl rfl)
theorem dX4_implMul64_119 : decode cX4_implMul64 119 = .ok (.lload 12, 2) := dk_22 12 (dk_at dksX4_implMul64_5 3 rfl rfl)
theorem dX4_implMul64_121 : decode cX4_implMul64 121 = .ok (.lmul, 1) := dk_105 (dk_at dksX4_implMul64_5 5 rfl rfl)
theorem dX4_implMul64_122 : decode cX4_implMul64 122 = .ok (.lxor, 1) := dk_131 (dk_at dksX4_implMul64_5 6 rfl rfl)
theorem dX4_implMul64_123 : decode cX4_implMul64 123 = .ok (.lload 10, 2) := dk_22 10 (dk_at dksX4_implMul64_5 7 rfl rfl)
theorem dX4_implMul64_125 : decode cX4_implMul64 125 = .ok (.lload 18, 2) := dk_22 18 (dk_at dksX4_implMul64_5 9 rfl rfl)
theorem dX4_implMul64_127 : decode cX4_implMul64 127 = .ok (.lmul, 1) := dk_105 (dk_at dksX4_implMul64_5 11 rfl rfl)
theorem dX4_implMul64_128 : decode cX4_implMul64 128 = .ok (.lxor, 1) := dk_131 (dk_at dksX4_implMul64_5 12 rfl rfl)
theorem dX4_implMul64_129 : decode cX4_implMul64 129 = .ok (.lstore 24, 2) := dk_55 24 (dk_at dksX4_implMul64_5 13 rfl rfl)
theorem dX4_implMul64_131 : decode cX4_implMul64 131 = .ok (.lload 4, 2) := dk_22 4 (dk_at dksX4_implMul64_5 15 rfl rfl)
theorem dX4_implMul64_133 : decode cX4_implMul64 133 = .ok (.lload 18, 2) := dk_22 18 (dk_at dksX4_implMul64_5 17 rfl rfl)
theorem dX4_implMul64_135 : decode cX4_implMul64 135 = .ok (.lmul, 1) := dk_105 (dk_at dksX4_implMul64_5 19 rfl rfl)
theorem dX4_implMul64_136 : decode cX4_implMul64 136 = .ok (.lload 6, 2) := dk_22 6 (dk_at dksX4_implMul64_5 20 rfl rfl)
theorem dX4_implMul64_138 : decode cX4_implMul64 138 = .ok (.lload 16, 2) := dk_22 16 (dk_at dksX4_implMul64_5 22 rfl rfl)
theorem dX4_implMul64_140 : decode cX4_implMul64 140 = .ok (.lmul, 1) := dk_105 (dk_at dksX4_implMul64_6 0 rfl rfl)
theorem dX4_implMul64_141 : decode cX4_implMul64 141 = .ok (.lxor, 1) := dk_131 (dk_at dksX4_implMul64_6 1 rfl rfl)
theorem dX4_implMul64_142 : decode cX4_implMul64 142 = .ok (.lload 8, 2) := dk_22 8 (dk_at dksX4_implMul64_6 2 rfl rfl)
theorem dX4_implMul64_144 : decode cX4_implMul64 144 = .ok (.lload 14, 2) := dk_22 14 (dk_at dksX4_implMul64_6 4 rfl rfl)
theorem dX4_implMul64_146 : decode cX4_implMul64 146 = .ok (.lmul, 1) := dk_105 (dk_at dksX4_implMul64_6 6 rfl rfl)
theorem dX4_implMul64_147 : decode cX4_implMul64 147 = .ok (.lxor, 1) := dk_131 (dk_at dksX4_implMul64_6 7 rfl rfl)
theorem dX4_implMul64_148 : decode cX4_implMul64 148 = .ok (.lload 10, 2) := dk_22 10 (dk_at dksX4_implMul64_6 8 rfl rfl)
theorem dX4_implMul64_150 : decode cX4_implMul64 150 = .ok (.lload 12, 2) := dk_22 12 (dk_at dksX4_implMul64_6 10 rfl rfl)
theorem dX4_implMul64_152 : decode cX4_implMul64 152 = .ok (.lmul, 1) := dk_105 (dk_at dksX4_implMul64_6 12 rfl rfl)
theorem dX4_implMul64_153 : decode cX4_implMul64 153 = .ok (.lxor, 1) := dk_131 (dk_at dksX4_implMul64_6 13 rfl rfl)
theorem dX4_implMul64_154 : decode cX4_implMul64 154 = .ok (.lstore 26, 2) := dk_55 26 (dk_at dksX4_implMul64_6 14 rfl rfl)
theorem dX4_implMul64_156 : decode cX4_implMul64 156 = .ok (.lload 20, 2) := dk_22 20 (dk_at dksX4_implMul64_6 16 rfl rfl)
theorem dX4_implMul64_158 : decode cX4_implMul64 158 = .ok (.ldc2_w 37, 3) := dk_20 0 37 (dk_at dksX4_implMul64_6 18 rfl rfl)
theorem dX4_implMul64_161 : decode cX4_implMul64 161 = .ok (.land, 1) := dk_127 (dk_at dksX4_implMul64_6 21 rfl rfl)
theorem dX4_implMul64_162 : decode cX4_implMul64 162 = .ok (.lstore 20, 2) := dk_55 20 (dk_at dksX4_implMul64_6 22 rfl rfl)
theorem dX4_implMul64_164 : decode cX4_implMul64 164 = .ok (.lload 22, 2) := dk_22 22 (dk_at dksX4_implMul64_7 0 rfl rfl)
theorem dX4_implMul64_166 : decode cX4_implMul64 166 = .ok (.ldc2_w 39, 3) := dk_20 0 39 (dk_at dksX4_implMul64_7 2 rfl rfl)
theorem dX4_implMul64_169 : decode cX4_implMul64 169 = .ok (.land, 1) := dk_127 (dk_at dksX4_implMul64_7 5 rfl rfl)
theorem dX4_implMul64_170 : decode cX4_implMul64 170 = .ok (.lstore 22, 2) := dk_55 22 (dk_at dksX4_implMul64_7 6 rfl rfl)
theorem dX4_implMul64_172 : decode cX4_implMul64 172 = .ok (.lload 24, 2) := dk_22 24 (dk_at dksX4_implMul64_7 8 rfl rfl)
theorem dX4_implMul64_174 : decode cX4_implMul64 174 = .ok (.ldc2_w 41, 3) := dk_20 0 41 (dk_at dksX4_implMul64_7 10 rfl rfl)
theorem dX4_implMul64_177 : decode cX4_implMul64 177 = .ok (.land, 1) := dk_127 (dk_at dksX4_implMul64_7 13 rfl rfl)
theorem dX4_implMul64_178 : decode cX4_implMul64 178 = .ok (.lstore 24, 2) := dk_55 24 (dk_at dksX4_implMul64_7 14 rfl rfl)
theorem dX4_implMul64_180 : decode cX4_implMul64 180 = .ok (.lload 26, 2) := dk_22 26 (dk_at dksX4_implMul64_7 16 rfl rfl)
theorem dX4_implMul64_182 : decode cX4_implMul64 182 = .ok (.ldc2_w 43, 3) := dk_20 0 43 (dk_at dksX4_implMul64_7 18 rfl rfl)
theorem dX4_implMul64_185 : decode cX4_implMul64 185 = .ok (.land, 1) := dk_127 (dk_at dksX4_implMul64_7 21 rfl rfl)
theorem dX4_implMul64_186 : decode cX4_implMul64 186 = .ok (.lstore 26, 2) := dk_55 26 (dk_at dksX4_implMul64_7 22 rfl rfl)
theorem dX4_implMul64_188 : decode cX4_implMul64 188 = .ok (.lload 20, 2) := dk_22 20 (dk_at dksX4_implMul64_8 0 rfl rfl)
theorem dX4_implMul64_190 : decode cX4_implMul64 190 = .ok (.lload 22, 2) := dk_22 22 (dk_at dksX4_implMul64_8 2 rfl rfl)
theorem dX4_implMul64_192 : decode cX4_implMul64 192 = .ok (.lor, 1) := dk_129 (dk_at dksX4_implMul64_8 4 rfl rfl)
theorem dX4_implMul64_193 : decode cX4_implMul64 193 = .ok (.lload 24, 2) := dk_22 24 (dk_at dksX4_implMul64_8 5 rfl rfl)
theorem dX4_implMul64_195 : decode cX4_implMul64 195 = .ok (.lor, 1) := dk_129 (dk_at dksX4_implMul64_8 7 rfl rfl)
theorem dX4_implMul64_196 : decode cX4_implMul64 196 = .ok (.lload 26, 2) := dk_22 26 (dk_at dksX4_implMul64_8 8 rfl rfl)
theorem dX4_implMul64_198 : decode cX4_implMul64 198 = .ok (.lor, 1) := dk_129 (dk_at dksX4_implMul64_8 10 rfl rfl)
theorem dX4_implMul64_199 : decode cX4_implMul64 199 = .ok (.lreturn, 1) := dk_173 (dk_at dksX4_implMul64_8 11 rfl rfl)
abbrev cX4_square : ByteArray := prog_5_method_7_code
def yX4_square : MethodName := ⟨RX4, "square", "([J[J)V"⟩
def dkwX4_square_5 : List UInt8 := [22, 7, 16, 57, 121, 131, 131, 55, 5, 43, 3, 33, 80, 43, 4, 22, 5, 80, 177]
abbrev dktX4_square_5 : List UInt8 := dkwX4_square_5 ++ []
def dkwX4_square_4 : List UInt8 := [125, 131, 22, 7, 16, 7, 125, 131, 131, 66, 22, 5, 22, 7, 16, 63, 121, 22, 7, 16, 62, 121, 131]
abbrev dktX4_square_4 : List UInt8 := dkwX4_square_4 ++ dktX4_square_5
def dkwX4_square_3 : List UInt8 := [16, 62, 121, 131, 22, 9, 16, 57, 121, 131, 131, 55, 7, 33, 22, 7, 22, 7, 4, 125, 131, 22, 7, 5]
abbrev dktX4_square_3 : List UInt8 := dkwX4_square_3 ++ dktX4_square_4
def dkwX4_square_2 : List UInt8 := [22, 9, 5, 125, 131, 22, 9, 16, 7, 125, 131, 131, 55, 5, 22, 7, 22, 9, 16, 63, 121, 22, 9]
abbrev dktX4_square_2 : List UInt8 := dkwX4_square_2 ++ dktX4_square_3
def dkwX4_square_1 : List UInt8 := [44, 4, 47, 55, 5, 44, 5, 47, 55, 7, 44, 6, 47, 55, 9, 22, 5, 22, 9, 22, 9, 4, 125, 131]
abbrev dktX4_square_1 : List UInt8 := dkwX4_square_1 ++ dktX4_square_2
def dkwX4_square_0 : List UInt8 := [7, 188, 11, 77, 42, 3, 47, 44, 3, 184, 0, 31, 42, 4, 47, 44, 5, 184, 0, 31, 44, 3, 47, 66]
abbrev dktX4_square_0 : List UInt8 := dkwX4_square_0 ++ dktX4_square_1
theorem dksX4_square_0 : cX4_square.data.toList.drop 0 = dktX4_square_0 := by decide +kernel
theorem dksX4_square_1 : cX4_square.data.toList.drop 24 = dktX4_square_1 := dk_seg dksX4_square_0 24 rfl rfl
theorem dksX4_square_2 : cX4_square.data.toList.drop 48 = dktX4_square_2 := dk_seg dksX4_square_1 24 rfl rfl
theorem dksX4_square_3 : cX4_square.data.toList.drop 71 = dktX4_square_3 := dk_seg dksX4_square_2 23 rfl rfl
theorem dksX4_square_4 : cX4_square.data.toList.drop 95 = dktX4_square_4 := dk_seg dksX4_square_3 24 rfl rfl
theorem dksX4_square_5 : cX4_square.data.toList.drop 118 = dktX4_square_5 := dk_seg dksX4_square_4 23 rfl rfl
theorem dX4_square_0 : decode cX4_square 0 = .ok (.iconst 4, 1) := dk_7 (dk_at dksX4_square_0 0 rfl rfl)
theorem dX4_square_1 : decode cX4_square 1 = .ok (.newarray .long, 2) := dk_188_11 (dk_at dksX4_square_0 1 rfl rfl)
theorem dX4_square_3 : decode cX4_square 3 = .ok (.astore_n 2, 1) := dk_77 (dk_at dksX4_square_0 3 rfl rfl)
theorem dX4_square_4 : decode cX4_square 4 = .ok (.aload_n 0, 1) := dk_42 (dk_at dksX4_square_0 4 rfl rfl)
theorem dX4_square_5 : decode cX4_square 5 = .ok (.iconst 0, 1) := dk_3 (dk_at dksX4_square_0 5 rfl rfl)
theorem dX4_square_6 : decode cX4_square 6 = .ok (.laload, 1) := dk_47 (dk_at dksX4_square_0 6 rfl rfl)
theorem dX4_square_7 : decode cX4_square 7 = .ok (.aload_n 2, 1) := dk_44 (dk_at dksX4_square_0 7 rfl rfl)
theorem dX4_square_8 : decode cX4_square 8 = .ok (.iconst 0, 1) := dk_3 (dk_at dksX4_square_0 8 rfl rfl)
theorem dX4_square_9 : decode cX4_square 9 = .ok (.invokestatic 31, 3) := dk_184 0 31 (dk_at dksX4_square_0 9 rfl rfl)
theorem dX4_square_12 : decode cX4_square 12 = .ok (.aload_n 0, 1) := dk_42 (dk_at dksX4_square_0 12 rfl rfl)
theorem dX4_square_13 : decode cX4_square 13 = .ok (.iconst 1, 1) := dk_4 (dk_at dksX4_square_0 13 rfl rfl)
theorem dX4_square_14 : decode cX4_square 14 = .ok (.laload, 1) := dk_47 (dk_at dksX4_square_0 14 rfl rfl)
theorem dX4_square_15 : decode cX4_square 15 = .ok (.aload_n 2, 1) := dk_44 (dk_at dksX4_square_0 15 rfl rfl)
theorem dX4_square_16 : decode cX4_square 16 = .ok (.iconst 2, 1) := dk_5 (dk_at dksX4_square_0 16 rfl rfl)
theorem dX4_square_17 : decode cX4_square 17 = .ok (.invokestatic 31, 3) := dk_184 0 31 (dk_at dksX4_square_0 17 rfl rfl)
theorem dX4_square_20 : decode cX4_square 20 = .ok (.aload_n 2, 1) := dk_44 (dk_at dksX4_square_0 20 rfl rfl)
theorem dX4_square_21 : decode cX4_square 21 = .ok (.iconst 0, 1) := dk_3 (dk_at dksX4_square_0 21 rfl rfl)
theorem dX4_square_22 : decode cX4_square 22 = .ok (.laload, 1) := dk_47 (dk_at dksX4_square_0 22 rfl rfl)
theorem dX4_square_23 : decode cX4_square 23 = .ok (.lstore_n 3, 1) := dk_66 (dk_at dksX4_square_0 23 rfl rfl)
theorem dX4_square_24 : decode cX4_square 24 = .ok (.aload_n 2, 1) := dk_44 (dk_at dksX4_square_1 0 rfl rfl)
theorem dX4_square_25 : decode cX4_square 25 = .ok (.iconst 1, 1) := dk_4 (dk_at dksX4_square_1 1 rfl rfl)
theorem dX4_square_26 : decode cX4_square 26 = .ok (.laload, 1) := dk_47 (dk_at dksX4_square_1 2 rfl rfl)
theorem dX4_square_27 : decode cX4_square 27 = .ok (.lstore 5, 2) := dk_55 5 (dk_at dksX4_square_1 3 rfl rfl)
theorem dX4_square_29 : decode cX4_square 29 = .ok (.aload_n 2, 1) := dk_44 (dk_at dksX4_square_1 5 rfl rfl)
theorem dX4_square_30 : decode cX4_square 30 = .ok (.iconst 2, 1) := dk_5 (dk_at dksX4_square_1 6 rfl rfl)
theorem dX4_square_31 : decode cX4_square 31 = .ok (.laload, 1) := dk_47 (dk_at dksX4_square_1 7 rfl rfl)
theorem dX4_square_32 : decode cX4_square 32 = .ok (.lstore 7, 2) := dk_55 7 (dk_at dksX4_square_1 8 rfl rfl)
theorem dX4_square_34 : decode cX4_square 34 = .ok (.aload_n 2, 1) := dk_44 (dk_at dksX4_square_1 10 rfl rfl)
theorem dX4_square_35 : decode cX4_square 35 = .ok (.iconst 3, 1) := dk_6 (dk_at dksX4_square_1 11 rfl rfl)
theorem dX4_square_36 : decode cX4_square 36 = .ok (.laload, 1) := dk_47 (dk_at dksX4_square_1 12 rfl rfl)
theorem dX4_square_37 : decode cX4_square 37 = .ok (.lstore 9, 2) := dk_55 9 (dk_at dksX4_square_1 13 rfl rfl)
theorem dX4_square_39 : decode cX4_square 39 = .ok (.lload 5, 2) := dk_22 5 (dk_at dksX4_square_1 15 rfl rfl)
theorem dX4_square_41 : decode cX4_square 41 = .ok (.lload 9, 2) := dk_22 9 (dk_at dksX4_square_1 17 rfl rfl)
theorem dX4_square_43 : decode cX4_square 43 = .ok (.lload 9, 2) := dk_22 9 (dk_at dksX4_square_1 19 rfl rfl)
theorem dX4_square_45 : decode cX4_square 45 = .ok (.iconst 1, 1) := dk_4 (dk_at dksX4_square_1 21 rfl rfl)
theorem dX4_square_46 : decode cX4_square 46 = .ok (.lushr, 1) := dk_125 (dk_at dksX4_square_1 22 rfl rfl)
theorem dX4_square_47 : decode cX4_square 47 = .ok (.lxor, 1) := dk_131 (dk_at dksX4_square_1 23 rfl rfl)
theorem dX4_square_48 : decode cX4_square 48 = .ok (.lload 9, 2) := dk_22 9 (dk_at dksX4_square_2 0 rfl rfl)
theorem dX4_square_50 : decode cX4_square 50 = .ok (.iconst 2, 1) := dk_5 (dk_at dksX4_square_2 2 rfl rfl)
theorem dX4_square_51 : decode cX4_square 51 = .ok (.lushr, 1) := dk_125 (dk_at dksX4_square_2 3 rfl rfl)
theorem dX4_square_52 : decode cX4_square 52 = .ok (.lxor, 1) := dk_131 (dk_at dksX4_square_2 4 rfl rfl)
theorem dX4_square_53 : decode cX4_square 53 = .ok (.lload 9, 2) := dk_22 9 (dk_at dksX4_square_2 5 rfl rfl)
theorem dX4_square_55 : decode cX4_square 55 = .ok (.bipush 7, 2) := dk_16 7 (dk_at dksX4_square_2 7 rfl rfl)
theorem dX4_square_57 : decode cX4_square 57 = .ok (.lushr, 1) := dk_125 (dk_at dksX4_square_2 9 rfl rfl)
theorem dX4_square_58 : decode cX4_square 58 = .ok (.lxor, 1) := dk_131 (dk_at dksX4_square_2 10 rfl rfl)
theorem dX4_square_59 : decode cX4_square 59 = .ok (.lxor, 1) := dk_131 (dk_at dksX4_square_2 11 rfl rfl)
theorem dX4_square_60 : decode cX4_square 60 = .ok (.lstore 5, 2) := dk_55 5 (dk_at dksX4_square_2 12 rfl rfl)
theorem dX4_square_62 : decode cX4_square 62 = .ok (.lload 7, 2) := dk_22 7 (dk_at dksX4_square_2 14 rfl rfl)
theorem dX4_square_64 : decode cX4_square 64 = .ok (.lload 9, 2) := dk_22 9 (dk_at dksX4_square_2 16 rfl rfl)
theorem dX4_square_66 : decode cX4_square 66 = .ok (.bipush 63, 2) := dk_16 63 (dk_at dksX4_square_2 18 rfl rfl)
theorem dX4_square_68 : decode cX4_square 68 = .ok (.lshl, 1) := dk_121 (dk_at dksX4_square_2 20 rfl rfl)
theorem dX4_square_69 : decode cX4_square 69 = .ok (.lload 9, 2) := dk_22 9 (dk_at dksX4_square_2 21 rfl rfl)
theorem dX4_square_71 : decode cX4_square 71 = .ok (.bipush 62, 2) := dk_16 62 (dk_at dksX4_square_3 0 rfl rfl)
theorem dX4_square_73 : decode cX4_square 73 = .ok (.lshl, 1) := dk_121 (dk_at dksX4_square_3 2 rfl rfl)
theorem dX4_square_74 : decode cX4_square 74 = .ok (.lxor, 1) := dk_131 (dk_at dksX4_square_3 3 rfl rfl)
theorem dX4_square_75 : decode cX4_square 75 = .ok (.lload 9, 2) := dk_22 9 (dk_at dksX4_square_3 4 rfl rfl)
theorem dX4_square_77 : decode cX4_square 77 = .ok (.bipush 57, 2) := dk_16 57 (dk_at dksX4_square_3 6 rfl rfl)
theorem dX4_square_79 : decode cX4_square 79 = .ok (.lshl, 1) := dk_121 (dk_at dksX4_square_3 8 rfl rfl)
theorem dX4_square_80 : decode cX4_square 80 = .ok (.lxor, 1) := dk_131 (dk_at dksX4_square_3 9 rfl rfl)
theorem dX4_square_81 : decode cX4_square 81 = .ok (.lxor, 1) := dk_131 (dk_at dksX4_square_3 10 rfl rfl)
theorem dX4_square_82 : decode cX4_square 82 = .ok (.lstore 7, 2) := dk_55 7 (dk_at dksX4_square_3 11 rfl rfl)
theorem dX4_square_84 : decode cX4_square 84 = .ok (.lload_n 3, 1) := dk_33 (dk_at dksX4_square_3 13 rfl rfl)
theorem dX4_square_85 : decode cX4_square 85 = .ok (.lload 7, 2) := dk_22 7 (dk_at dksX4_square_3 14 rfl rfl)
theorem dX4_square_87 : decode cX4_square 87 = .ok (.lload 7, 2) := dk_22 7 (dk_at dksX4_square_3 16 rfl rfl)
theorem dX4_square_89 : decode cX4_square 89 = .ok (.iconst 1, 1) := dk_4 (dk_at dksX4_square_3 18 rfl rfl)
theorem dX4_square_90 : decode cX4_square 90 = .ok (.lushr, 1) := dk_125 (dk_at dksX4_square_3 19 rfl rfl)
theorem dX4_square_91 : decode cX4_square 91 = .ok (.lxor, 1) := dk_131 (dk_at dksX4_square_3 20 rfl rfl)
theorem dX4_square_92 : decode cX4_square 92 = .ok (.lload 7, 2) := dk_22 7 (dk_at dksX4_square_3 21 rfl rfl)
theorem dX4_square_94 : decode cX4_square 94 = .ok (.iconst 2, 1) := dk_5 (dk_at dksX4_square_3 23 rfl rfl)
theorem dX4_square_95 : decode cX4_square 95 = .ok (.lushr, 1) := dk_125 (dk_at dksX4_square_4 0 rfl rfl)
theorem dX4_square_96 : decode cX4_square 96 = .ok (.lxor, 1) := dk_131 (dk_at dksX4_square_4 1 rfl rfl)
theorem dX4_square_97 : decode cX4_square 97 = .ok (.lload 7, 2) := dk_22 7 (dk_at dksX4_square_4 2 rfl rfl)
theorem dX4_square_99 : decode cX4_square 99 = .ok (.bipush 7, 2) := dk_16 7 (dk_at dksX4_square_4 4 rfl rfl)
theorem dX4_square_101 : decode cX4_square 101 = .ok (.lushr, 1) := dk_125 (dk_at dksX4_square_4 6 rfl rfl)
theorem dX4_square_102 : decode cX4_square 102 = .ok (.lxor, 1) := dk_131 (dk_at dksX4_square_4 7 rfl rfl)
theorem dX4_square_103 : decode cX4_square 103 = .ok (.lxor, 1) := dk_131 (dk_at dksX4_square_4 8 rfl rfl)
theorem dX4_square_104 : decode cX4_square 104 = .ok (.lstore_n 3, 1) := dk_66 (dk_at dksX4_square_4 9 rfl rfl)
theorem dX4_square_105 : decode cX4_square 105 = .ok (.lload 5, 2) := dk_22 5 (dk_at dksX4_square_4 10 rfl rfl)
theorem dX4_square_107 : decode cX4_square 107 = .ok (.lload 7, 2) := dk_22 7 (dk_at dksX4_square_4 12 rfl rfl)
theorem dX4_square_109 : decode cX4_square 109 = .ok (.bipush 63, 2) := dk_16 63 (dk_at dksX4_square_4 14 rfl rfl)
theorem dX4_square_111 : decode cX4_square 111 = .ok (.lshl, 1) := dk_121 (dk_at dksX4_square_4 16 rfl rfl)
theorem dX4_square_112 : decode cX4_square 112 = .ok (.lload 7, 2) := dk_22 7 (dk_at dksX4_square_4 17 rfl rfl)
theorem dX4_square_114 : decode cX4_square 114 = .ok (.bipush 62, 2) := dk_16 62 (dk_at dksX4_square_4 19 rfl rfl)
theorem dX4_square_116 : decode cX4_square 116 = .ok (.lshl, 1) := dk_121 (dk_at dksX4_square_4 21 rfl rfl)
theorem dX4_square_117 : decode cX4_square 117 = .ok (.lxor, 1) := dk_131 (dk_at dksX4_square_4 22 rfl rfl)
theorem dX4_square_118 : decode cX4_square 118 = .ok (.lload 7, 2) := dk_22 7 (dk_at dksX4_square_5 0 rfl rfl)
theorem dX4_square_120 : decode cX4_square 120 = .ok (.bipush 57, 2) := dk_16 57 (dk_at dksX4_square_5 2 rfl rfl)
theorem dX4_square_122 : decode cX4_square 122 = .ok (.lshl, 1) := dk_121 (dk_at dksX4_square_5 4 rfl rfl)
theorem dX4_square_123 : decode cX4_square 123 = .ok (.lxor, 1) := dk_131 (dk_at dksX4_square_5 5 rfl rfl)
theorem dX4_square_124 : decode cX4_square 124 = .ok (.lxor, 1) := dk_131 (dk_at dksX4_square_5 6 rfl rfl)
theorem dX4_square_125 : decode cX4_square 125 = .ok (.lstore 5, 2) := dk_55 5 (dk_at dksX4_square_5 7 rfl rfl)
theorem dX4_square_127 : decode cX4_square 127 = .ok (.aload_n 1, 1) := dk_43 (dk_at dksX4_square_5 9 rfl rfl)
theorem dX4_square_128 : decode cX4_square 128 = .ok (.iconst 0, 1) := dk_3 (dk_at dksX4_square_5 10 rfl rfl)
theorem dX4_square_129 : decode cX4_square 129 = .ok (.lload_n 3, 1) := dk_33 (dk_at dksX4_square_5 11 rfl rfl)
theorem dX4_square_130 : decode cX4_square 130 = .ok (.lastore, 1) := dk_80 (dk_at dksX4_square_5 12 rfl rfl)
theorem dX4_square_131 : decode cX4_square 131 = .ok (.aload_n 1, 1) := dk_43 (dk_at dksX4_square_5 13 rfl rfl)
theorem dX4_square_132 : decode cX4_square 132 = .ok (.iconst 1, 1) := dk_4 (dk_at dksX4_square_5 14 rfl rfl)
theorem dX4_square_133 : decode cX4_square 133 = .ok (.lload 5, 2) := dk_22 5 (dk_at dksX4_square_5 15 rfl rfl)
theorem dX4_square_135 : decode cX4_square 135 = .ok (.lastore, 1) := dk_80 (dk_at dksX4_square_5 17 rfl rfl)
theorem dX4_square_136 : decode cX4_square 136 = .ok (.return_, 1) := dk_177 (dk_at dksX4_square_5 18 rfl rfl)
abbrev cX4_asBytes : ByteArray := prog_5_method_3_code
def yX4_asBytes : MethodName := ⟨RX4, "asBytes", "([J[B)V"⟩
def dkwX4_asBytes_0 : List UInt8 := [42, 3, 5, 43, 3, 184, 0, 11, 177]
abbrev dktX4_asBytes_0 : List UInt8 := dkwX4_asBytes_0 ++ []
theorem dksX4_asBytes_0 : cX4_asBytes.data.toList.drop 0 = dktX4_asBytes_0 := by decide +kernel
theorem dX4_asBytes_0 : decode cX4_asBytes 0 = .ok (.aload_n 0, 1) := dk_42 (dk_at dksX4_asBytes_0 0 rfl rfl)
theorem dX4_asBytes_1 : decode cX4_asBytes 1 = .ok (.iconst 0, 1) := dk_3 (dk_at dksX4_asBytes_0 1 rfl rfl)
theorem dX4_asBytes_2 : decode cX4_asBytes 2 = .ok (.iconst 2, 1) := dk_5 (dk_at dksX4_asBytes_0 2 rfl rfl)
theorem dX4_asBytes_3 : decode cX4_asBytes 3 = .ok (.aload_n 1, 1) := dk_43 (dk_at dksX4_asBytes_0 3 rfl rfl)
theorem dX4_asBytes_4 : decode cX4_asBytes 4 = .ok (.iconst 0, 1) := dk_3 (dk_at dksX4_asBytes_0 4 rfl rfl)
theorem dX4_asBytes_5 : decode cX4_asBytes 5 = .ok (.invokestatic 11, 3) := dk_184 0 11 (dk_at dksX4_asBytes_0 5 rfl rfl)
theorem dX4_asBytes_8 : decode cX4_asBytes 8 = .ok (.return_, 1) := dk_177 (dk_at dksX4_asBytes_0 8 rfl rfl)
theorem q4 : (Jvm.Cond.initialized "GCMUtil") ∈ lw_all := lw_g (lw_at lw_m0 4 rfl) rfl
theorem q56 : (Jvm.Cond.static ({ cls := "GCMUtil", name := "asLongs", desc := "([B)[J" } : Jvm.MethodName)) ∈ lw_all := lw_g (lw_at lw_m0 56 rfl) rfl
theorem q57 : (Jvm.Cond.code ({ cls := "GCMUtil", name := "asLongs", desc := "([B)[J" } : Jvm.MethodName) prog_5_method_4_code (2 : Nat) (Option.some (Jvm.ClassFile.FieldType.array Jvm.ClassFile.FieldType.long))) ∈ lw_all := lw_g (lw_at lw_m0 57 rfl) rfl
theorem q58 : (Jvm.Cond.methodLink "GCMUtil" (17 : Nat) ({ cls := "Pack", name := "bigEndianToLong", desc := "([BI[JII)V" } : Jvm.MethodName)) ∈ lw_all := lw_g (lw_at lw_m0 58 rfl) rfl
theorem q80 : (Jvm.Cond.static ({ cls := "GCMUtil", name := "oneAsLongs", desc := "()[J" } : Jvm.MethodName)) ∈ lw_all := lw_g (lw_at lw_m0 80 rfl) rfl
theorem q81 : (Jvm.Cond.code ({ cls := "GCMUtil", name := "oneAsLongs", desc := "()[J" } : Jvm.MethodName) prog_5_method_2_code (1 : Nat) (Option.some (Jvm.ClassFile.FieldType.array Jvm.ClassFile.FieldType.long))) ∈ lw_all := lw_g (lw_at lw_m0 81 rfl) rfl
theorem q82 : (Jvm.Cond.constantLong "GCMUtil" (9 : Nat) (-9223372036854775808 : Int64)) ∈ lw_all := lw_g (lw_at lw_m0 82 rfl) rfl
theorem q84 : (Jvm.Cond.static ({ cls := "GCMUtil", name := "copy", desc := "([J[J)V" } : Jvm.MethodName)) ∈ lw_all := lw_g (lw_at lw_m0 84 rfl) rfl
theorem q85 : (Jvm.Cond.code ({ cls := "GCMUtil", name := "copy", desc := "([J[J)V" } : Jvm.MethodName) prog_5_method_5_code (2 : Nat) (Option.none : Option Jvm.ClassFile.FieldType)) ∈ lw_all := lw_g (lw_at lw_m0 85 rfl) rfl
theorem q87 : (Jvm.Cond.static ({ cls := "GCMUtil", name := "multiply", desc := "([J[J)V" } : Jvm.MethodName)) ∈ lw_all := lw_g (lw_at lw_m0 87 rfl) rfl
theorem q88 : (Jvm.Cond.code ({ cls := "GCMUtil", name := "multiply", desc := "([J[J)V" } : Jvm.MethodName) prog_5_method_6_code (38 : Nat) (Option.none : Option Jvm.ClassFile.FieldType)) ∈ lw_all := lw_g (lw_at lw_m0 88 rfl) rfl
theorem q89 : (Jvm.Cond.methodLink "GCMUtil" (21 : Nat) ({ cls := "Longs", name := "reverse", desc := "(J)J" } : Jvm.MethodName)) ∈ lw_all := lw_g (lw_at lw_m0 89 rfl) rfl
theorem q103 : (Jvm.Cond.methodLink "GCMUtil" (27 : Nat) ({ cls := "GCMUtil", name := "implMul64", desc := "(JJ)J" } : Jvm.MethodName)) ∈ lw_all := lw_g (lw_at lw_m0 103 rfl) rfl
theorem q104 : (Jvm.Cond.static ({ cls := "GCMUtil", name := "implMul64", desc := "(JJ)J" } : Jvm.MethodName)) ∈ lw_all := lw_g (lw_at lw_m0 104 rfl) rfl
theorem q105 : (Jvm.Cond.code ({ cls := "GCMUtil", name := "implMul64", desc := "(JJ)J" } : Jvm.MethodName) prog_5_method_8_code (28 : Nat) (Option.some Jvm.ClassFile.FieldType.long)) ∈ lw_all := lw_g (lw_at lw_m0 105 rfl) rfl
theorem q106 : (Jvm.Cond.constantLong "GCMUtil" (37 : Nat) (1229782938247303441 : Int64)) ∈ lw_all := lw_g (lw_at lw_m0 106 rfl) rfl
theorem q107 : (Jvm.Cond.constantLong "GCMUtil" (39 : Nat) (2459565876494606882 : Int64)) ∈ lw_all := lw_g (lw_at lw_m0 107 rfl) rfl
theorem q108 : (Jvm.Cond.constantLong "GCMUtil" (41 : Nat) (4919131752989213764 : Int64)) ∈ lw_all := lw_g (lw_at lw_m0 108 rfl) rfl
theorem q109 : (Jvm.Cond.constantLong "GCMUtil" (43 : Nat) (-8608480567731124088 : Int64)) ∈ lw_all := lw_g (lw_at lw_m0 109 rfl) rfl
theorem q111 : (Jvm.Cond.static ({ cls := "GCMUtil", name := "square", desc := "([J[J)V" } : Jvm.MethodName)) ∈ lw_all := lw_g (lw_at lw_m0 111 rfl) rfl
theorem q112 : (Jvm.Cond.code ({ cls := "GCMUtil", name := "square", desc := "([J[J)V" } : Jvm.MethodName) prog_5_method_7_code (11 : Nat) (Option.none : Option Jvm.ClassFile.FieldType)) ∈ lw_all := lw_g (lw_at lw_m0 112 rfl) rfl
theorem q113 : (Jvm.Cond.methodLink "GCMUtil" (31 : Nat) ({ cls := "Interleave", name := "expand64To128Rev", desc := "(J[JI)V" } : Jvm.MethodName)) ∈ lw_all := lw_g (lw_at lw_m0 113 rfl) rfl
theorem q126 : (Jvm.Cond.static ({ cls := "GCMUtil", name := "asBytes", desc := "([J[B)V" } : Jvm.MethodName)) ∈ lw_all := lw_g (lw_at lw_m0 126 rfl) rfl
theorem q127 : (Jvm.Cond.code ({ cls := "GCMUtil", name := "asBytes", desc := "([J[B)V" } : Jvm.MethodName) prog_5_method_3_code (2 : Nat) (Option.none : Option Jvm.ClassFile.FieldType)) ∈ lw_all := lw_g (lw_at lw_m0 127 rfl) rfl
theorem q128 : (Jvm.Cond.methodLink "GCMUtil" (11 : Nat) ({ cls := "Pack", name := "longToBigEndian", desc := "([JII[BI)V" } : Jvm.MethodName)) ∈ lw_all := lw_g (lw_at lw_m0 128 rfl) rfl
end
section
/-! FieldPowerDeskLaw -/
set_option maxRecDepth 100000
def RX0 : String := "FieldPowerDeskLaw"
abbrev cX0_cell : ByteArray := method_2_code
def yX0_cell : MethodName := ⟨RX0, "cell", "([II)I"⟩
def dkwX0_cell_0 : List UInt8 := [27, 42, 190, 162, 0, 9, 42, 27, 46, 167, 0, 4, 3, 172]
abbrev dktX0_cell_0 : List UInt8 := dkwX0_cell_0 ++ []
theorem dksX0_cell_0 : cX0_cell.data.toList.drop 0 = dktX0_cell_0 := by decide +kernel
theorem dX0_cell_0 : decode cX0_cell 0 = .ok (.iload_n 1, 1) := dk_27 (dk_at dksX0_cell_0 0 rfl rfl)
theorem dX0_cell_1 : decode cX0_cell 1 = .ok (.aload_n 0, 1) := dk_42 (dk_at dksX0_cell_0 1 rfl rfl)
theorem dX0_cell_2 : decode cX0_cell 2 = .ok (.arraylength, 1) := dk_190 (dk_at dksX0_cell_0 2 rfl rfl)
theorem dX0_cell_3 : decode cX0_cell 3 = .ok (.if_icmp .ge 9, 3) := dk_162 0 9 (dk_at dksX0_cell_0 3 rfl rfl)
theorem dX0_cell_6 : decode cX0_cell 6 = .ok (.aload_n 0, 1) := dk_42 (dk_at dksX0_cell_0 6 rfl rfl)
theorem dX0_cell_7 : decode cX0_cell 7 = .ok (.iload_n 1, 1) := dk_27 (dk_at dksX0_cell_0 7 rfl rfl)
theorem dX0_cell_8 : decode cX0_cell 8 = .ok (.iaload, 1) := dk_46 (dk_at dksX0_cell_0 8 rfl rfl)
theorem dX0_cell_9 : decode cX0_cell 9 = .ok (.goto 4, 3) := dk_167 0 4 (dk_at dksX0_cell_0 9 rfl rfl)
theorem dX0_cell_12 : decode cX0_cell 12 = .ok (.iconst 0, 1) := dk_3 (dk_at dksX0_cell_0 12 rfl rfl)
theorem dX0_cell_13 : decode cX0_cell 13 = .ok (.ireturn, 1) := dk_172 (dk_at dksX0_cell_0 13 rfl rfl)
abbrev cX0_shown : ByteArray := method_10_code
def yX0_shown : MethodName := ⟨RX0, "shown", "(LFieldPowerDesk;JJI)Z"⟩
def dkwX0_shown_3 : List UInt8 := [132, 6, 1, 167, 255, 187, 4, 172]
abbrev dktX0_shown_3 : List UInt8 := dkwX0_shown_3 ++ []
def dkwX0_shown_2 : List UInt8 := [167, 0, 13, 33, 16, 120, 16, 8, 21, 7, 104, 100, 125, 20, 0, 71, 127, 136, 159, 0, 5, 3, 172]
abbrev dktX0_shown_2 : List UInt8 := dkwX0_shown_2 ++ dktX0_shown_3
def dkwX0_shown_1 : List UInt8 := [21, 6, 96, 182, 0, 68, 21, 7, 16, 8, 162, 0, 16, 31, 16, 56, 16, 8, 21, 7, 104, 100, 125]
abbrev dktX0_shown_1 : List UInt8 := dkwX0_shown_1 ++ dktX0_shown_2
def dkwX0_shown_0 : List UInt8 := [3, 54, 6, 21, 6, 16, 16, 162, 0, 68, 21, 5, 21, 6, 96, 16, 15, 126, 54, 7, 42, 21, 5]
abbrev dktX0_shown_0 : List UInt8 := dkwX0_shown_0 ++ dktX0_shown_1
theorem dksX0_shown_0 : cX0_shown.data.toList.drop 0 = dktX0_shown_0 := by decide +kernel
theorem dksX0_shown_1 : cX0_shown.data.toList.drop 23 = dktX0_shown_1 := dk_seg dksX0_shown_0 23 rfl rfl
theorem dksX0_shown_2 : cX0_shown.data.toList.drop 46 = dktX0_shown_2 := dk_seg dksX0_shown_1 23 rfl rfl
theorem dksX0_shown_3 : cX0_shown.data.toList.drop 69 = dktX0_shown_3 := dk_seg dksX0_shown_2 23 rfl rfl
theorem dX0_shown_0 : decode cX0_shown 0 = .ok (.iconst 0, 1) := dk_3 (dk_at dksX0_shown_0 0 rfl rfl)
theorem dX0_shown_1 : decode cX0_shown 1 = .ok (.istore 6, 2) := dk_54 6 (dk_at dksX0_shown_0 1 rfl rfl)
theorem dX0_shown_3 : decode cX0_shown 3 = .ok (.iload 6, 2) := dk_21 6 (dk_at dksX0_shown_0 3 rfl rfl)
theorem dX0_shown_5 : decode cX0_shown 5 = .ok (.bipush 16, 2) := dk_16 16 (dk_at dksX0_shown_0 5 rfl rfl)
theorem dX0_shown_7 : decode cX0_shown 7 = .ok (.if_icmp .ge 68, 3) := dk_162 0 68 (dk_at dksX0_shown_0 7 rfl rfl)
theorem dX0_shown_10 : decode cX0_shown 10 = .ok (.iload 5, 2) := dk_21 5 (dk_at dksX0_shown_0 10 rfl rfl)
theorem dX0_shown_12 : decode cX0_shown 12 = .ok (.iload 6, 2) := dk_21 6 (dk_at dksX0_shown_0 12 rfl rfl)
theorem dX0_shown_14 : decode cX0_shown 14 = .ok (.iadd, 1) := dk_96 (dk_at dksX0_shown_0 14 rfl rfl)
theorem dX0_shown_15 : decode cX0_shown 15 = .ok (.bipush 15, 2) := dk_16 15 (dk_at dksX0_shown_0 15 rfl rfl)
theorem dX0_shown_17 : decode cX0_shown 17 = .ok (.iand, 1) := dk_126 (dk_at dksX0_shown_0 17 rfl rfl)
theorem dX0_shown_18 : decode cX0_shown 18 = .ok (.istore 7, 2) := dk_54 7 (dk_at dksX0_shown_0 18 rfl rfl)
theorem dX0_shown_20 : decode cX0_shown 20 = .ok (.aload_n 0, 1) := dk_42 (dk_at dksX0_shown_0 20 rfl rfl)
theorem dX0_shown_21 : decode cX0_shown 21 = .ok (.iload 5, 2) := dk_21 5 (dk_at dksX0_shown_0 21 rfl rfl)
theorem dX0_shown_23 : decode cX0_shown 23 = .ok (.iload 6, 2) := dk_21 6 (dk_at dksX0_shown_1 0 rfl rfl)
theorem dX0_shown_25 : decode cX0_shown 25 = .ok (.iadd, 1) := dk_96 (dk_at dksX0_shown_1 2 rfl rfl)
theorem dX0_shown_26 : decode cX0_shown 26 = .ok (.invokevirtual 68, 3) := dk_182 0 68 (dk_at dksX0_shown_1 3 rfl rfl)
theorem dX0_shown_29 : decode cX0_shown 29 = .ok (.iload 7, 2) := dk_21 7 (dk_at dksX0_shown_1 6 rfl rfl)
theorem dX0_shown_31 : decode cX0_shown 31 = .ok (.bipush 8, 2) := dk_16 8 (dk_at dksX0_shown_1 8 rfl rfl)
theorem dX0_shown_33 : decode cX0_shown 33 = .ok (.if_icmp .ge 16, 3) := dk_162 0 16 (dk_at dksX0_shown_1 10 rfl rfl)
theorem dX0_shown_36 : decode cX0_shown 36 = .ok (.lload_n 1, 1) := dk_31 (dk_at dksX0_shown_1 13 rfl rfl)
theorem dX0_shown_37 : decode cX0_shown 37 = .ok (.bipush 56, 2) := dk_16 56 (dk_at dksX0_shown_1 14 rfl rfl)
theorem dX0_shown_39 : decode cX0_shown 39 = .ok (.bipush 8, 2) := dk_16 8 (dk_at dksX0_shown_1 16 rfl rfl)
theorem dX0_shown_41 : decode cX0_shown 41 = .ok (.iload 7, 2) := dk_21 7 (dk_at dksX0_shown_1 18 rfl rfl)
theorem dX0_shown_43 : decode cX0_shown 43 = .ok (.imul, 1) := dk_104 (dk_at dksX0_shown_1 20 rfl rfl)
theorem dX0_shown_44 : decode cX0_shown 44 = .ok (.isub, 1) := dk_100 (dk_at dksX0_shown_1 21 rfl rfl)
theorem dX0_shown_45 : decode cX0_shown 45 = .ok (.lushr, 1) := dk_125 (dk_at dksX0_shown_1 22 rfl rfl)
theorem dX0_shown_46 : decode cX0_shown 46 = .ok (.goto 13, 3) := dk_167 0 13 (dk_at dksX0_shown_2 0 rfl rfl)
theorem dX0_shown_49 : decode cX0_shown 49 = .ok (.lload_n 3, 1) := dk_33 (dk_at dksX0_shown_2 3 rfl rfl)
theorem dX0_shown_50 : decode cX0_shown 50 = .ok (.bipush 120, 2) := dk_16 120 (dk_at dksX0_shown_2 4 rfl rfl)
theorem dX0_shown_52 : decode cX0_shown 52 = .ok (.bipush 8, 2) := dk_16 8 (dk_at dksX0_shown_2 6 rfl rfl)
theorem dX0_shown_54 : decode cX0_shown 54 = .ok (.iload 7, 2) := dk_21 7 (dk_at dksX0_shown_2 8 rfl rfl)
theorem dX0_shown_56 : decode cX0_shown 56 = .ok (.imul, 1) := dk_104 (dk_at dksX0_shown_2 10 rfl rfl)
theorem dX0_shown_57 : decode cX0_shown 57 = .ok (.isub, 1) := dk_100 (dk_at dksX0_shown_2 11 rfl rfl)
theorem dX0_shown_58 : decode cX0_shown 58 = .ok (.lushr, 1) := dk_125 (dk_at dksX0_shown_2 12 rfl rfl)
theorem dX0_shown_59 : decode cX0_shown 59 = .ok (.ldc2_w 71, 3) := dk_20 0 71 (dk_at dksX0_shown_2 13 rfl rfl)
theorem dX0_shown_62 : decode cX0_shown 62 = .ok (.land, 1) := dk_127 (dk_at dksX0_shown_2 16 rfl rfl)
theorem dX0_shown_63 : decode cX0_shown 63 = .ok (.l2i, 1) := dk_136 (dk_at dksX0_shown_2 17 rfl rfl)
theorem dX0_shown_64 : decode cX0_shown 64 = .ok (.if_icmp .eq 5, 3) := dk_159 0 5 (dk_at dksX0_shown_2 18 rfl rfl)
theorem dX0_shown_67 : decode cX0_shown 67 = .ok (.iconst 0, 1) := dk_3 (dk_at dksX0_shown_2 21 rfl rfl)
theorem dX0_shown_68 : decode cX0_shown 68 = .ok (.ireturn, 1) := dk_172 (dk_at dksX0_shown_2 22 rfl rfl)
theorem dX0_shown_69 : decode cX0_shown 69 = .ok (.iinc 6 1, 3) := dk_132 6 1 (dk_at dksX0_shown_3 0 rfl rfl)
theorem dX0_shown_72 : decode cX0_shown 72 = .ok (.goto (-69), 3) := dk_167 255 187 (dk_at dksX0_shown_3 3 rfl rfl)
theorem dX0_shown_75 : decode cX0_shown 75 = .ok (.iconst 1, 1) := dk_4 (dk_at dksX0_shown_3 6 rfl rfl)
theorem dX0_shown_76 : decode cX0_shown 76 = .ok (.ireturn, 1) := dk_172 (dk_at dksX0_shown_3 7 rfl rfl)
abbrev cX0_turn : ByteArray := method_11_code
def yX0_turn : MethodName := ⟨RX0, "turn", "(LFieldPowerDesk;LFieldPowerDeskLaw$Told;IIIIII)Z"⟩
def dkwX0_turn_8 : List UInt8 := [180, 0, 29, 43, 180, 0, 32, 21, 7, 184, 0, 84, 153, 0, 7, 4, 167, 0, 4, 3, 172]
abbrev dktX0_turn_8 : List UInt8 := dkwX0_turn_8 ++ []
def dkwX0_turn_7 : List UInt8 := [167, 0, 15, 42, 43, 3, 29, 16, 31, 126, 184, 0, 79, 54, 8, 21, 8, 153, 0, 24, 42, 43]
abbrev dktX0_turn_7 : List UInt8 := dkwX0_turn_7 ++ dktX0_turn_8
def dkwX0_turn_6 : List UInt8 := [167, 0, 38, 42, 43, 184, 0, 82, 42, 43, 184, 0, 76, 42, 43, 29, 21, 4, 184, 0, 79, 54, 8]
abbrev dktX0_turn_6 : List UInt8 := dkwX0_turn_6 ++ dktX0_turn_7
def dkwX0_turn_5 : List UInt8 := [126, 124, 184, 0, 79, 54, 8, 167, 0, 54, 42, 43, 184, 0, 82, 167, 0, 46, 42, 43, 184, 0, 76]
abbrev dktX0_turn_5 : List UInt8 := dkwX0_turn_5 ++ dktX0_turn_6
def dkwX0_turn_4 : List UInt8 := [43, 29, 21, 4, 184, 0, 79, 54, 8, 167, 0, 76, 42, 43, 29, 16, 15, 126, 21, 4, 21, 5, 16, 31]
abbrev dktX0_turn_4 : List UInt8 := dkwX0_turn_4 ++ dktX0_turn_5
def dkwX0_turn_3 : List UInt8 := [184, 0, 73, 42, 43, 184, 0, 76, 42, 43, 28, 6, 122, 21, 7, 184, 0, 79, 54, 8, 167, 0, 89, 42]
abbrev dktX0_turn_3 : List UInt8 := dkwX0_turn_3 ++ dktX0_turn_4
def dkwX0_turn_2 : List UInt8 := [42, 43, 29, 21, 4, 21, 5, 21, 6, 184, 0, 73, 167, 0, 121, 42, 43, 29, 21, 4, 21, 5, 21, 6]
abbrev dktX0_turn_2 : List UInt8 := dkwX0_turn_2 ++ dktX0_turn_3
def dkwX0_turn_1 : List UInt8 := [170, 0, 0, 0, 162, 0, 0, 0, 0, 0, 0, 0, 6, 0, 0, 0, 41, 0, 0, 0, 56, 0, 0, 0, 88, 0, 0, 0, 101, 0, 0, 0, 123, 0, 0, 0, 131, 0, 0, 0, 139]
abbrev dktX0_turn_1 : List UInt8 := dkwX0_turn_1 ++ dktX0_turn_2
def dkwX0_turn_0 : List UInt8 := [4, 54, 8, 28, 16, 7, 126]
abbrev dktX0_turn_0 : List UInt8 := dkwX0_turn_0 ++ dktX0_turn_1
theorem dksX0_turn_0 : cX0_turn.data.toList.drop 0 = dktX0_turn_0 := by decide +kernel
theorem dksX0_turn_1 : cX0_turn.data.toList.drop 7 = dktX0_turn_1 := dk_seg dksX0_turn_0 7 rfl rfl
theorem dksX0_turn_2 : cX0_turn.data.toList.drop 48 = dktX0_turn_2 := dk_seg dksX0_turn_1 41 rfl rfl
theorem dksX0_turn_3 : cX0_turn.data.toList.drop 72 = dktX0_turn_3 := dk_seg dksX0_turn_2 24 rfl rfl
theorem dksX0_turn_4 : cX0_turn.data.toList.drop 96 = dktX0_turn_4 := dk_seg dksX0_turn_3 24 rfl rfl
theorem dksX0_turn_5 : cX0_turn.data.toList.drop 120 = dktX0_turn_5 := dk_seg dksX0_turn_4 24 rfl rfl
theorem dksX0_turn_6 : cX0_turn.data.toList.drop 143 = dktX0_turn_6 := dk_seg dksX0_turn_5 23 rfl rfl
theorem dksX0_turn_7 : cX0_turn.data.toList.drop 166 = dktX0_turn_7 := dk_seg dksX0_turn_6 23 rfl rfl
theorem dksX0_turn_8 : cX0_turn.data.toList.drop 188 = dktX0_turn_8 := dk_seg dksX0_turn_7 22 rfl rfl
theorem dX0_turn_0 : decode cX0_turn 0 = .ok (.iconst 1, 1) := dk_4 (dk_at dksX0_turn_0 0 rfl rfl)
theorem dX0_turn_1 : decode cX0_turn 1 = .ok (.istore 8, 2) := dk_54 8 (dk_at dksX0_turn_0 1 rfl rfl)
theorem dX0_turn_3 : decode cX0_turn 3 = .ok (.iload_n 2, 1) := dk_28 (dk_at dksX0_turn_0 3 rfl rfl)
theorem dX0_turn_4 : decode cX0_turn 4 = .ok (.bipush 7, 2) := dk_16 7 (dk_at dksX0_turn_0 4 rfl rfl)
theorem dX0_turn_6 : decode cX0_turn 6 = .ok (.iand, 1) := dk_126 (dk_at dksX0_turn_0 6 rfl rfl)
theorem dX0_turn_7 : decode cX0_turn 7 = .ok (.tableswitch 162 0 6 #[41, 56, 88, 101, 123, 131, 139], 41) := by decide +kernel
theorem dX0_turn_48 : decode cX0_turn 48 = .ok (.aload_n 0, 1) := dk_42 (dk_at dksX0_turn_2 0 rfl rfl)
theorem dX0_turn_49 : decode cX0_turn 49 = .ok (.aload_n 1, 1) := dk_43 (dk_at dksX0_turn_2 1 rfl rfl)
theorem dX0_turn_50 : decode cX0_turn 50 = .ok (.iload_n 3, 1) := dk_29 (dk_at dksX0_turn_2 2 rfl rfl)
theorem dX0_turn_51 : decode cX0_turn 51 = .ok (.iload 4, 2) := dk_21 4 (dk_at dksX0_turn_2 3 rfl rfl)
theorem dX0_turn_53 : decode cX0_turn 53 = .ok (.iload 5, 2) := dk_21 5 (dk_at dksX0_turn_2 5 rfl rfl)
theorem dX0_turn_55 : decode cX0_turn 55 = .ok (.iload 6, 2) := dk_21 6 (dk_at dksX0_turn_2 7 rfl rfl)
theorem dX0_turn_57 : decode cX0_turn 57 = .ok (.invokestatic 73, 3) := dk_184 0 73 (dk_at dksX0_turn_2 9 rfl rfl)
theorem dX0_turn_60 : decode cX0_turn 60 = .ok (.goto 121, 3) := dk_167 0 121 (dk_at dksX0_turn_2 12 rfl rfl)
theorem dX0_turn_63 : decode cX0_turn 63 = .ok (.aload_n 0, 1) := dk_42 (dk_at dksX0_turn_2 15 rfl rfl)
theorem dX0_turn_64 : decode cX0_turn 64 = .ok (.aload_n 1, 1) := dk_43 (dk_at dksX0_turn_2 16 rfl rfl)
theorem dX0_turn_65 : decode cX0_turn 65 = .ok (.iload_n 3, 1) := dk_29 (dk_at dksX0_turn_2 17 rfl rfl)
theorem dX0_turn_66 : decode cX0_turn 66 = .ok (.iload 4, 2) := dk_21 4 (dk_at dksX0_turn_2 18 rfl rfl)
theorem dX0_turn_68 : decode cX0_turn 68 = .ok (.iload 5, 2) := dk_21 5 (dk_at dksX0_turn_2 20 rfl rfl)
theorem dX0_turn_70 : decode cX0_turn 70 = .ok (.iload 6, 2) := dk_21 6 (dk_at dksX0_turn_2 22 rfl rfl)
theorem dX0_turn_72 : decode cX0_turn 72 = .ok (.invokestatic 73, 3) := dk_184 0 73 (dk_at dksX0_turn_3 0 rfl rfl)
theorem dX0_turn_75 : decode cX0_turn 75 = .ok (.aload_n 0, 1) := dk_42 (dk_at dksX0_turn_3 3 rfl rfl)
theorem dX0_turn_76 : decode cX0_turn 76 = .ok (.aload_n 1, 1) := dk_43 (dk_at dksX0_turn_3 4 rfl rfl)
theorem dX0_turn_77 : decode cX0_turn 77 = .ok (.invokestatic 76, 3) := dk_184 0 76 (dk_at dksX0_turn_3 5 rfl rfl)
theorem dX0_turn_80 : decode cX0_turn 80 = .ok (.aload_n 0, 1) := dk_42 (dk_at dksX0_turn_3 8 rfl rfl)
theorem dX0_turn_81 : decode cX0_turn 81 = .ok (.aload_n 1, 1) := dk_43 (dk_at dksX0_turn_3 9 rfl rfl)
theorem dX0_turn_82 : decode cX0_turn 82 = .ok (.iload_n 2, 1) := dk_28 (dk_at dksX0_turn_3 10 rfl rfl)
theorem dX0_turn_83 : decode cX0_turn 83 = .ok (.iconst 3, 1) := dk_6 (dk_at dksX0_turn_3 11 rfl rfl)
theorem dX0_turn_84 : decode cX0_turn 84 = .ok (.ishr, 1) := dk_122 (dk_at dksX0_turn_3 12 rfl rfl)
theorem dX0_turn_85 : decode cX0_turn 85 = .ok (.iload 7, 2) := dk_21 7 (dk_at dksX0_turn_3 13 rfl rfl)
theorem dX0_turn_87 : decode cX0_turn 87 = .ok (.invokestatic 79, 3) := dk_184 0 79 (dk_at dksX0_turn_3 15 rfl rfl)
theorem dX0_turn_90 : decode cX0_turn 90 = .ok (.istore 8, 2) := dk_54 8 (dk_at dksX0_turn_3 18 rfl rfl)
theorem dX0_turn_92 : decode cX0_turn 92 = .ok (.goto 89, 3) := dk_167 0 89 (dk_at dksX0_turn_3 20 rfl rfl)
theorem dX0_turn_95 : decode cX0_turn 95 = .ok (.aload_n 0, 1) := dk_42 (dk_at dksX0_turn_3 23 rfl rfl)
theorem dX0_turn_96 : decode cX0_turn 96 = .ok (.aload_n 1, 1) := dk_43 (dk_at dksX0_turn_4 0 rfl rfl)
theorem dX0_turn_97 : decode cX0_turn 97 = .ok (.iload_n 3, 1) := dk_29 (dk_at dksX0_turn_4 1 rfl rfl)
theorem dX0_turn_98 : decode cX0_turn 98 = .ok (.iload 4, 2) := dk_21 4 (dk_at dksX0_turn_4 2 rfl rfl)
theorem dX0_turn_100 : decode cX0_turn 100 = .ok (.invokestatic 79, 3) := dk_184 0 79 (dk_at dksX0_turn_4 4 rfl rfl)
theorem dX0_turn_103 : decode cX0_turn 103 = .ok (.istore 8, 2) := dk_54 8 (dk_at dksX0_turn_4 7 rfl rfl)
theorem dX0_turn_105 : decode cX0_turn 105 = .ok (.goto 76, 3) := dk_167 0 76 (dk_at dksX0_turn_4 9 rfl rfl)
theorem dX0_turn_108 : decode cX0_turn 108 = .ok (.aload_n 0, 1) := dk_42 (dk_at dksX0_turn_4 12 rfl rfl)
theorem dX0_turn_109 : decode cX0_turn 109 = .ok (.aload_n 1, 1) := dk_43 (dk_at dksX0_turn_4 13 rfl rfl)
theorem dX0_turn_110 : decode cX0_turn 110 = .ok (.iload_n 3, 1) := dk_29 (dk_at dksX0_turn_4 14 rfl rfl)
theorem dX0_turn_111 : decode cX0_turn 111 = .ok (.bipush 15, 2) := dk_16 15 (dk_at dksX0_turn_4 15 rfl rfl)
theorem dX0_turn_113 : decode cX0_turn 113 = .ok (.iand, 1) := dk_126 (dk_at dksX0_turn_4 17 rfl rfl)
theorem dX0_turn_114 : decode cX0_turn 114 = .ok (.iload 4, 2) := dk_21 4 (dk_at dksX0_turn_4 18 rfl rfl)
theorem dX0_turn_116 : decode cX0_turn 116 = .ok (.iload 5, 2) := dk_21 5 (dk_at dksX0_turn_4 20 rfl rfl)
theorem dX0_turn_118 : decode cX0_turn 118 = .ok (.bipush 31, 2) := dk_16 31 (dk_at dksX0_turn_4 22 rfl rfl)
theorem dX0_turn_120 : decode cX0_turn 120 = .ok (.iand, 1) := dk_126 (dk_at dksX0_turn_5 0 rfl rfl)
theorem dX0_turn_121 : decode cX0_turn 121 = .ok (.iushr, 1) := dk_124 (dk_at dksX0_turn_5 1 rfl rfl)
theorem dX0_turn_122 : decode cX0_turn 122 = .ok (.invokestatic 79, 3) := dk_184 0 79 (dk_at dksX0_turn_5 2 rfl rfl)
theorem dX0_turn_125 : decode cX0_turn 125 = .ok (.istore 8, 2) := dk_54 8 (dk_at dksX0_turn_5 5 rfl rfl)
theorem dX0_turn_127 : decode cX0_turn 127 = .ok (.goto 54, 3) := dk_167 0 54 (dk_at dksX0_turn_5 7 rfl rfl)
theorem dX0_turn_130 : decode cX0_turn 130 = .ok (.aload_n 0, 1) := dk_42 (dk_at dksX0_turn_5 10 rfl rfl)
theorem dX0_turn_131 : decode cX0_turn 131 = .ok (.aload_n 1, 1) := dk_43 (dk_at dksX0_turn_5 11 rfl rfl)
theorem dX0_turn_132 : decode cX0_turn 132 = .ok (.invokestatic 82, 3) := dk_184 0 82 (dk_at dksX0_turn_5 12 rfl rfl)
theorem dX0_turn_135 : decode cX0_turn 135 = .ok (.goto 46, 3) := dk_167 0 46 (dk_at dksX0_turn_5 15 rfl rfl)
theorem dX0_turn_138 : decode cX0_turn 138 = .ok (.aload_n 0, 1) := dk_42 (dk_at dksX0_turn_5 18 rfl rfl)
theorem dX0_turn_139 : decode cX0_turn 139 = .ok (.aload_n 1, 1) := dk_43 (dk_at dksX0_turn_5 19 rfl rfl)
theorem dX0_turn_140 : decode cX0_turn 140 = .ok (.invokestatic 76, 3) := dk_184 0 76 (dk_at dksX0_turn_5 20 rfl rfl)
theorem dX0_turn_143 : decode cX0_turn 143 = .ok (.goto 38, 3) := dk_167 0 38 (dk_at dksX0_turn_6 0 rfl rfl)
theorem dX0_turn_146 : decode cX0_turn 146 = .ok (.aload_n 0, 1) := dk_42 (dk_at dksX0_turn_6 3 rfl rfl)
theorem dX0_turn_147 : decode cX0_turn 147 = .ok (.aload_n 1, 1) := dk_43 (dk_at dksX0_turn_6 4 rfl rfl)
theorem dX0_turn_148 : decode cX0_turn 148 = .ok (.invokestatic 82, 3) := dk_184 0 82 (dk_at dksX0_turn_6 5 rfl rfl)
theorem dX0_turn_151 : decode cX0_turn 151 = .ok (.aload_n 0, 1) := dk_42 (dk_at dksX0_turn_6 8 rfl rfl)
theorem dX0_turn_152 : decode cX0_turn 152 = .ok (.aload_n 1, 1) := dk_43 (dk_at dksX0_turn_6 9 rfl rfl)
theorem dX0_turn_153 : decode cX0_turn 153 = .ok (.invokestatic 76, 3) := dk_184 0 76 (dk_at dksX0_turn_6 10 rfl rfl)
theorem dX0_turn_156 : decode cX0_turn 156 = .ok (.aload_n 0, 1) := dk_42 (dk_at dksX0_turn_6 13 rfl rfl)
theorem dX0_turn_157 : decode cX0_turn 157 = .ok (.aload_n 1, 1) := dk_43 (dk_at dksX0_turn_6 14 rfl rfl)
theorem dX0_turn_158 : decode cX0_turn 158 = .ok (.iload_n 3, 1) := dk_29 (dk_at dksX0_turn_6 15 rfl rfl)
theorem dX0_turn_159 : decode cX0_turn 159 = .ok (.iload 4, 2) := dk_21 4 (dk_at dksX0_turn_6 16 rfl rfl)
theorem dX0_turn_161 : decode cX0_turn 161 = .ok (.invokestatic 79, 3) := dk_184 0 79 (dk_at dksX0_turn_6 18 rfl rfl)
theorem dX0_turn_164 : decode cX0_turn 164 = .ok (.istore 8, 2) := dk_54 8 (dk_at dksX0_turn_6 21 rfl rfl)
theorem dX0_turn_166 : decode cX0_turn 166 = .ok (.goto 15, 3) := dk_167 0 15 (dk_at dksX0_turn_7 0 rfl rfl)
theorem dX0_turn_169 : decode cX0_turn 169 = .ok (.aload_n 0, 1) := dk_42 (dk_at dksX0_turn_7 3 rfl rfl)
theorem dX0_turn_170 : decode cX0_turn 170 = .ok (.aload_n 1, 1) := dk_43 (dk_at dksX0_turn_7 4 rfl rfl)
theorem dX0_turn_171 : decode cX0_turn 171 = .ok (.iconst 0, 1) := dk_3 (dk_at dksX0_turn_7 5 rfl rfl)
theorem dX0_turn_172 : decode cX0_turn 172 = .ok (.iload_n 3, 1) := dk_29 (dk_at dksX0_turn_7 6 rfl rfl)
theorem dX0_turn_173 : decode cX0_turn 173 = .ok (.bipush 31, 2) := dk_16 31 (dk_at dksX0_turn_7 7 rfl rfl)
theorem dX0_turn_175 : decode cX0_turn 175 = .ok (.iand, 1) := dk_126 (dk_at dksX0_turn_7 9 rfl rfl)
theorem dX0_turn_176 : decode cX0_turn 176 = .ok (.invokestatic 79, 3) := dk_184 0 79 (dk_at dksX0_turn_7 10 rfl rfl)
theorem dX0_turn_179 : decode cX0_turn 179 = .ok (.istore 8, 2) := dk_54 8 (dk_at dksX0_turn_7 13 rfl rfl)
theorem dX0_turn_181 : decode cX0_turn 181 = .ok (.iload 8, 2) := dk_21 8 (dk_at dksX0_turn_7 15 rfl rfl)
theorem dX0_turn_183 : decode cX0_turn 183 = .ok (.ifCond .eq 24, 3) := dk_153 0 24 (dk_at dksX0_turn_7 17 rfl rfl)
theorem dX0_turn_186 : decode cX0_turn 186 = .ok (.aload_n 0, 1) := dk_42 (dk_at dksX0_turn_7 20 rfl rfl)
theorem dX0_turn_187 : decode cX0_turn 187 = .ok (.aload_n 1, 1) := dk_43 (dk_at dksX0_turn_7 21 rfl rfl)
theorem dX0_turn_188 : decode cX0_turn 188 = .ok (.getfield 29, 3) := dk_180 0 29 (dk_at dksX0_turn_8 0 rfl rfl)
theorem dX0_turn_191 : decode cX0_turn 191 = .ok (.aload_n 1, 1) := dk_43 (dk_at dksX0_turn_8 3 rfl rfl)
theorem dX0_turn_192 : decode cX0_turn 192 = .ok (.getfield 32, 3) := dk_180 0 32 (dk_at dksX0_turn_8 4 rfl rfl)
theorem dX0_turn_195 : decode cX0_turn 195 = .ok (.iload 7, 2) := dk_21 7 (dk_at dksX0_turn_8 7 rfl rfl)
theorem dX0_turn_197 : decode cX0_turn 197 = .ok (.invokestatic 84, 3) := dk_184 0 84 (dk_at dksX0_turn_8 9 rfl rfl)
theorem dX0_turn_200 : decode cX0_turn 200 = .ok (.ifCond .eq 7, 3) := dk_153 0 7 (dk_at dksX0_turn_8 12 rfl rfl)
theorem dX0_turn_203 : decode cX0_turn 203 = .ok (.iconst 1, 1) := dk_4 (dk_at dksX0_turn_8 15 rfl rfl)
theorem dX0_turn_204 : decode cX0_turn 204 = .ok (.goto 4, 3) := dk_167 0 4 (dk_at dksX0_turn_8 16 rfl rfl)
theorem dX0_turn_207 : decode cX0_turn 207 = .ok (.iconst 0, 1) := dk_3 (dk_at dksX0_turn_8 19 rfl rfl)
theorem dX0_turn_208 : decode cX0_turn 208 = .ok (.ireturn, 1) := dk_172 (dk_at dksX0_turn_8 20 rfl rfl)
abbrev cX0_base : ByteArray := method_6_code
def yX0_base : MethodName := ⟨RX0, "base", "(LFieldPowerDesk;LFieldPowerDeskLaw$Told;IIII)V"⟩
def dkwX0_base_1 : List UInt8 := [181, 0, 41, 43, 21, 4, 133, 16, 32, 121, 21, 5, 133, 20, 0, 10, 127, 129, 181, 0, 43, 177]
abbrev dktX0_base_1 : List UInt8 := dkwX0_base_1 ++ []
def dkwX0_base_0 : List UInt8 := [42, 28, 29, 21, 4, 21, 5, 182, 0, 35, 43, 28, 133, 16, 32, 121, 29, 133, 20, 0, 10, 127, 129]
abbrev dktX0_base_0 : List UInt8 := dkwX0_base_0 ++ dktX0_base_1
theorem dksX0_base_0 : cX0_base.data.toList.drop 0 = dktX0_base_0 := by decide +kernel
theorem dksX0_base_1 : cX0_base.data.toList.drop 23 = dktX0_base_1 := dk_seg dksX0_base_0 23 rfl rfl
theorem dX0_base_0 : decode cX0_base 0 = .ok (.aload_n 0, 1) := dk_42 (dk_at dksX0_base_0 0 rfl rfl)
theorem dX0_base_1 : decode cX0_base 1 = .ok (.iload_n 2, 1) := dk_28 (dk_at dksX0_base_0 1 rfl rfl)
theorem dX0_base_2 : decode cX0_base 2 = .ok (.iload_n 3, 1) := dk_29 (dk_at dksX0_base_0 2 rfl rfl)
theorem dX0_base_3 : decode cX0_base 3 = .ok (.iload 4, 2) := dk_21 4 (dk_at dksX0_base_0 3 rfl rfl)
theorem dX0_base_5 : decode cX0_base 5 = .ok (.iload 5, 2) := dk_21 5 (dk_at dksX0_base_0 5 rfl rfl)
theorem dX0_base_7 : decode cX0_base 7 = .ok (.invokevirtual 35, 3) := dk_182 0 35 (dk_at dksX0_base_0 7 rfl rfl)
theorem dX0_base_10 : decode cX0_base 10 = .ok (.aload_n 1, 1) := dk_43 (dk_at dksX0_base_0 10 rfl rfl)
theorem dX0_base_11 : decode cX0_base 11 = .ok (.iload_n 2, 1) := dk_28 (dk_at dksX0_base_0 11 rfl rfl)
theorem dX0_base_12 : decode cX0_base 12 = .ok (.i2l, 1) := dk_133 (dk_at dksX0_base_0 12 rfl rfl)
theorem dX0_base_13 : decode cX0_base 13 = .ok (.bipush 32, 2) := dk_16 32 (dk_at dksX0_base_0 13 rfl rfl)
theorem dX0_base_15 : decode cX0_base 15 = .ok (.lshl, 1) := dk_121 (dk_at dksX0_base_0 15 rfl rfl)
theorem dX0_base_16 : decode cX0_base 16 = .ok (.iload_n 3, 1) := dk_29 (dk_at dksX0_base_0 16 rfl rfl)
theorem dX0_base_17 : decode cX0_base 17 = .ok (.i2l, 1) := dk_133 (dk_at dksX0_base_0 17 rfl rfl)
theorem dX0_base_18 : decode cX0_base 18 = .ok (.ldc2_w 10, 3) := dk_20 0 10 (dk_at dksX0_base_0 18 rfl rfl)
theorem dX0_base_21 : decode cX0_base 21 = .ok (.land, 1) := dk_127 (dk_at dksX0_base_0 21 rfl rfl)
theorem dX0_base_22 : decode cX0_base 22 = .ok (.lor, 1) := dk_129 (dk_at dksX0_base_0 22 rfl rfl)
theorem dX0_base_23 : decode cX0_base 23 = .ok (.putfield 41, 3) := dk_181 0 41 (dk_at dksX0_base_1 0 rfl rfl)
theorem dX0_base_26 : decode cX0_base 26 = .ok (.aload_n 1, 1) := dk_43 (dk_at dksX0_base_1 3 rfl rfl)
theorem dX0_base_27 : decode cX0_base 27 = .ok (.iload 4, 2) := dk_21 4 (dk_at dksX0_base_1 4 rfl rfl)
theorem dX0_base_29 : decode cX0_base 29 = .ok (.i2l, 1) := dk_133 (dk_at dksX0_base_1 6 rfl rfl)
theorem dX0_base_30 : decode cX0_base 30 = .ok (.bipush 32, 2) := dk_16 32 (dk_at dksX0_base_1 7 rfl rfl)
theorem dX0_base_32 : decode cX0_base 32 = .ok (.lshl, 1) := dk_121 (dk_at dksX0_base_1 9 rfl rfl)
theorem dX0_base_33 : decode cX0_base 33 = .ok (.iload 5, 2) := dk_21 5 (dk_at dksX0_base_1 10 rfl rfl)
theorem dX0_base_35 : decode cX0_base 35 = .ok (.i2l, 1) := dk_133 (dk_at dksX0_base_1 12 rfl rfl)
theorem dX0_base_36 : decode cX0_base 36 = .ok (.ldc2_w 10, 3) := dk_20 0 10 (dk_at dksX0_base_1 13 rfl rfl)
theorem dX0_base_39 : decode cX0_base 39 = .ok (.land, 1) := dk_127 (dk_at dksX0_base_1 16 rfl rfl)
theorem dX0_base_40 : decode cX0_base 40 = .ok (.lor, 1) := dk_129 (dk_at dksX0_base_1 17 rfl rfl)
theorem dX0_base_41 : decode cX0_base 41 = .ok (.putfield 43, 3) := dk_181 0 43 (dk_at dksX0_base_1 18 rfl rfl)
theorem dX0_base_44 : decode cX0_base 44 = .ok (.return_, 1) := dk_177 (dk_at dksX0_base_1 21 rfl rfl)
abbrev cX0_begin : ByteArray := method_7_code
def yX0_begin : MethodName := ⟨RX0, "begin", "(LFieldPowerDesk;LFieldPowerDeskLaw$Told;)V"⟩
def dkwX0_begin_1 : List UInt8 := [181, 0, 49, 177]
abbrev dktX0_begin_1 : List UInt8 := dkwX0_begin_1 ++ []
def dkwX0_begin_0 : List UInt8 := [42, 182, 0, 46, 43, 43, 180, 0, 41, 181, 0, 20, 43, 43, 180, 0, 43, 181, 0, 26, 43, 4]
abbrev dktX0_begin_0 : List UInt8 := dkwX0_begin_0 ++ dktX0_begin_1
theorem dksX0_begin_0 : cX0_begin.data.toList.drop 0 = dktX0_begin_0 := by decide +kernel
theorem dksX0_begin_1 : cX0_begin.data.toList.drop 22 = dktX0_begin_1 := dk_seg dksX0_begin_0 22 rfl rfl
theorem dX0_begin_0 : decode cX0_begin 0 = .ok (.aload_n 0, 1) := dk_42 (dk_at dksX0_begin_0 0 rfl rfl)
theorem dX0_begin_1 : decode cX0_begin 1 = .ok (.invokevirtual 46, 3) := dk_182 0 46 (dk_at dksX0_begin_0 1 rfl rfl)
theorem dX0_begin_4 : decode cX0_begin 4 = .ok (.aload_n 1, 1) := dk_43 (dk_at dksX0_begin_0 4 rfl rfl)
theorem dX0_begin_5 : decode cX0_begin 5 = .ok (.aload_n 1, 1) := dk_43 (dk_at dksX0_begin_0 5 rfl rfl)
theorem dX0_begin_6 : decode cX0_begin 6 = .ok (.getfield 41, 3) := dk_180 0 41 (dk_at dksX0_begin_0 6 rfl rfl)
theorem dX0_begin_9 : decode cX0_begin 9 = .ok (.putfield 20, 3) := dk_181 0 20 (dk_at dksX0_begin_0 9 rfl rfl)
theorem dX0_begin_12 : decode cX0_begin 12 = .ok (.aload_n 1, 1) := dk_43 (dk_at dksX0_begin_0 12 rfl rfl)
theorem dX0_begin_13 : decode cX0_begin 13 = .ok (.aload_n 1, 1) := dk_43 (dk_at dksX0_begin_0 13 rfl rfl)
theorem dX0_begin_14 : decode cX0_begin 14 = .ok (.getfield 43, 3) := dk_180 0 43 (dk_at dksX0_begin_0 14 rfl rfl)
theorem dX0_begin_17 : decode cX0_begin 17 = .ok (.putfield 26, 3) := dk_181 0 26 (dk_at dksX0_begin_0 17 rfl rfl)
theorem dX0_begin_20 : decode cX0_begin 20 = .ok (.aload_n 1, 1) := dk_43 (dk_at dksX0_begin_0 20 rfl rfl)
theorem dX0_begin_21 : decode cX0_begin 21 = .ok (.iconst 1, 1) := dk_4 (dk_at dksX0_begin_0 21 rfl rfl)
theorem dX0_begin_22 : decode cX0_begin 22 = .ok (.putfield 49, 3) := dk_181 0 49 (dk_at dksX0_begin_1 0 rfl rfl)
theorem dX0_begin_25 : decode cX0_begin 25 = .ok (.return_, 1) := dk_177 (dk_at dksX0_begin_1 3 rfl rfl)
abbrev cX0_power : ByteArray := method_8_code
def yX0_power : MethodName := ⟨RX0, "power", "(LFieldPowerDesk;LFieldPowerDeskLaw$Told;II)Z"⟩
def dkwX0_power_1 : List UInt8 := [29, 184, 0, 57, 184, 0, 61, 4, 172]
abbrev dktX0_power_1 : List UInt8 := dkwX0_power_1 ++ []
def dkwX0_power_0 : List UInt8 := [42, 28, 29, 182, 0, 53, 43, 180, 0, 49, 159, 0, 5, 3, 172, 43, 180, 0, 49, 153, 0, 12, 43, 28]
abbrev dktX0_power_0 : List UInt8 := dkwX0_power_0 ++ dktX0_power_1
theorem dksX0_power_0 : cX0_power.data.toList.drop 0 = dktX0_power_0 := by decide +kernel
theorem dksX0_power_1 : cX0_power.data.toList.drop 24 = dktX0_power_1 := dk_seg dksX0_power_0 24 rfl rfl
theorem dX0_power_0 : decode cX0_power 0 = .ok (.aload_n 0, 1) := dk_42 (dk_at dksX0_power_0 0 rfl rfl)
theorem dX0_power_1 : decode cX0_power 1 = .ok (.iload_n 2, 1) := dk_28 (dk_at dksX0_power_0 1 rfl rfl)
theorem dX0_power_2 : decode cX0_power 2 = .ok (.iload_n 3, 1) := dk_29 (dk_at dksX0_power_0 2 rfl rfl)
theorem dX0_power_3 : decode cX0_power 3 = .ok (.invokevirtual 53, 3) := dk_182 0 53 (dk_at dksX0_power_0 3 rfl rfl)
theorem dX0_power_6 : decode cX0_power 6 = .ok (.aload_n 1, 1) := dk_43 (dk_at dksX0_power_0 6 rfl rfl)
theorem dX0_power_7 : decode cX0_power 7 = .ok (.getfield 49, 3) := dk_180 0 49 (dk_at dksX0_power_0 7 rfl rfl)
theorem dX0_power_10 : decode cX0_power 10 = .ok (.if_icmp .eq 5, 3) := dk_159 0 5 (dk_at dksX0_power_0 10 rfl rfl)
theorem dX0_power_13 : decode cX0_power 13 = .ok (.iconst 0, 1) := dk_3 (dk_at dksX0_power_0 13 rfl rfl)
theorem dX0_power_14 : decode cX0_power 14 = .ok (.ireturn, 1) := dk_172 (dk_at dksX0_power_0 14 rfl rfl)
theorem dX0_power_15 : decode cX0_power 15 = .ok (.aload_n 1, 1) := dk_43 (dk_at dksX0_power_0 15 rfl rfl)
theorem dX0_power_16 : decode cX0_power 16 = .ok (.getfield 49, 3) := dk_180 0 49 (dk_at dksX0_power_0 16 rfl rfl)
theorem dX0_power_19 : decode cX0_power 19 = .ok (.ifCond .eq 12, 3) := dk_153 0 12 (dk_at dksX0_power_0 19 rfl rfl)
theorem dX0_power_22 : decode cX0_power 22 = .ok (.aload_n 1, 1) := dk_43 (dk_at dksX0_power_0 22 rfl rfl)
theorem dX0_power_23 : decode cX0_power 23 = .ok (.iload_n 2, 1) := dk_28 (dk_at dksX0_power_0 23 rfl rfl)
theorem dX0_power_24 : decode cX0_power 24 = .ok (.iload_n 3, 1) := dk_29 (dk_at dksX0_power_1 0 rfl rfl)
theorem dX0_power_25 : decode cX0_power 25 = .ok (.invokestatic 57, 3) := dk_184 0 57 (dk_at dksX0_power_1 1 rfl rfl)
theorem dX0_power_28 : decode cX0_power 28 = .ok (.invokestatic 61, 3) := dk_184 0 61 (dk_at dksX0_power_1 4 rfl rfl)
theorem dX0_power_31 : decode cX0_power 31 = .ok (.iconst 1, 1) := dk_4 (dk_at dksX0_power_1 7 rfl rfl)
theorem dX0_power_32 : decode cX0_power 32 = .ok (.ireturn, 1) := dk_172 (dk_at dksX0_power_1 8 rfl rfl)
abbrev cX0_exponent : ByteArray := method_4_code
def yX0_exponent : MethodName := ⟨RX0, "exponent", "(II)J"⟩
def dkwX0_exponent_0 : List UInt8 := [26, 18, 9, 126, 133, 16, 32, 121, 27, 133, 20, 0, 10, 127, 129, 173]
abbrev dktX0_exponent_0 : List UInt8 := dkwX0_exponent_0 ++ []
theorem dksX0_exponent_0 : cX0_exponent.data.toList.drop 0 = dktX0_exponent_0 := by decide +kernel
theorem dX0_exponent_0 : decode cX0_exponent 0 = .ok (.iload_n 0, 1) := dk_26 (dk_at dksX0_exponent_0 0 rfl rfl)
theorem dX0_exponent_1 : decode cX0_exponent 1 = .ok (.ldc 9, 2) := dk_18 9 (dk_at dksX0_exponent_0 1 rfl rfl)
theorem dX0_exponent_3 : decode cX0_exponent 3 = .ok (.iand, 1) := dk_126 (dk_at dksX0_exponent_0 3 rfl rfl)
theorem dX0_exponent_4 : decode cX0_exponent 4 = .ok (.i2l, 1) := dk_133 (dk_at dksX0_exponent_0 4 rfl rfl)
theorem dX0_exponent_5 : decode cX0_exponent 5 = .ok (.bipush 32, 2) := dk_16 32 (dk_at dksX0_exponent_0 5 rfl rfl)
theorem dX0_exponent_7 : decode cX0_exponent 7 = .ok (.lshl, 1) := dk_121 (dk_at dksX0_exponent_0 7 rfl rfl)
theorem dX0_exponent_8 : decode cX0_exponent 8 = .ok (.iload_n 1, 1) := dk_27 (dk_at dksX0_exponent_0 8 rfl rfl)
theorem dX0_exponent_9 : decode cX0_exponent 9 = .ok (.i2l, 1) := dk_133 (dk_at dksX0_exponent_0 9 rfl rfl)
theorem dX0_exponent_10 : decode cX0_exponent 10 = .ok (.ldc2_w 10, 3) := dk_20 0 10 (dk_at dksX0_exponent_0 10 rfl rfl)
theorem dX0_exponent_13 : decode cX0_exponent 13 = .ok (.land, 1) := dk_127 (dk_at dksX0_exponent_0 13 rfl rfl)
theorem dX0_exponent_14 : decode cX0_exponent 14 = .ok (.lor, 1) := dk_129 (dk_at dksX0_exponent_0 14 rfl rfl)
theorem dX0_exponent_15 : decode cX0_exponent 15 = .ok (.lreturn, 1) := dk_173 (dk_at dksX0_exponent_0 15 rfl rfl)
abbrev cX0_raise : ByteArray := method_5_code
def yX0_raise : MethodName := ⟨RX0, "raise", "(LFieldPowerDeskLaw$Told;J)V"⟩
def dkwX0_raise_4 : List UInt8 := [4, 47, 181, 0, 32, 177]
abbrev dktX0_raise_4 : List UInt8 := dkwX0_raise_4 ++ []
def dkwX0_raise_3 : List UInt8 := [3, 47, 45, 4, 47, 184, 0, 14, 78, 132, 4, 255, 167, 255, 192, 42, 45, 3, 47, 181, 0, 29, 42, 45]
abbrev dktX0_raise_3 : List UInt8 := dkwX0_raise_3 ++ dktX0_raise_4
def dkwX0_raise_2 : List UInt8 := [184, 0, 14, 78, 31, 21, 4, 125, 10, 127, 10, 148, 154, 0, 21, 42, 180, 0, 20, 42, 180, 0, 26, 45]
abbrev dktX0_raise_2 : List UInt8 := dkwX0_raise_2 ++ dktX0_raise_3
def dkwX0_raise_1 : List UInt8 := [21, 4, 4, 96, 125, 9, 148, 153, 0, 19, 45, 3, 47, 45, 4, 47, 45, 3, 47, 45, 4, 47]
abbrev dktX0_raise_1 : List UInt8 := dkwX0_raise_1 ++ dktX0_raise_2
def dkwX0_raise_0 : List UInt8 := [5, 188, 11, 89, 3, 20, 0, 12, 80, 89, 4, 9, 80, 78, 16, 62, 54, 4, 21, 4, 155, 0, 65, 31]
abbrev dktX0_raise_0 : List UInt8 := dkwX0_raise_0 ++ dktX0_raise_1
theorem dksX0_raise_0 : cX0_raise.data.toList.drop 0 = dktX0_raise_0 := by decide +kernel
theorem dksX0_raise_1 : cX0_raise.data.toList.drop 24 = dktX0_raise_1 := dk_seg dksX0_raise_0 24 rfl rfl
theorem dksX0_raise_2 : cX0_raise.data.toList.drop 46 = dktX0_raise_2 := dk_seg dksX0_raise_1 22 rfl rfl
theorem dksX0_raise_3 : cX0_raise.data.toList.drop 70 = dktX0_raise_3 := dk_seg dksX0_raise_2 24 rfl rfl
theorem dksX0_raise_4 : cX0_raise.data.toList.drop 94 = dktX0_raise_4 := dk_seg dksX0_raise_3 24 rfl rfl
theorem dX0_raise_0 : decode cX0_raise 0 = .ok (.iconst 2, 1) := dk_5 (dk_at dksX0_raise_0 0 rfl rfl)
theorem dX0_raise_1 : decode cX0_raise 1 = .ok (.newarray .long, 2) := dk_188_11 (dk_at dksX0_raise_0 1 rfl rfl)
theorem dX0_raise_3 : decode cX0_raise 3 = .ok (.dup, 1) := dk_89 (dk_at dksX0_raise_0 3 rfl rfl)
theorem dX0_raise_4 : decode cX0_raise 4 = .ok (.iconst 0, 1) := dk_3 (dk_at dksX0_raise_0 4 rfl rfl)
theorem dX0_raise_5 : decode cX0_raise 5 = .ok (.ldc2_w 12, 3) := dk_20 0 12 (dk_at dksX0_raise_0 5 rfl rfl)
theorem dX0_raise_8 : decode cX0_raise 8 = .ok (.lastore, 1) := dk_80 (dk_at dksX0_raise_0 8 rfl rfl)
theorem dX0_raise_9 : decode cX0_raise 9 = .ok (.dup, 1) := dk_89 (dk_at dksX0_raise_0 9 rfl rfl)
theorem dX0_raise_10 : decode cX0_raise 10 = .ok (.iconst 1, 1) := dk_4 (dk_at dksX0_raise_0 10 rfl rfl)
theorem dX0_raise_11 : decode cX0_raise 11 = .ok (.lconst 0, 1) := dk_9 (dk_at dksX0_raise_0 11 rfl rfl)
theorem dX0_raise_12 : decode cX0_raise 12 = .ok (.lastore, 1) := dk_80 (dk_at dksX0_raise_0 12 rfl rfl)
theorem dX0_raise_13 : decode cX0_raise 13 = .ok (.astore_n 3, 1) := dk_78 (dk_at dksX0_raise_0 13 rfl rfl)
theorem dX0_raise_14 : decode cX0_raise 14 = .ok (.bipush 62, 2) := dk_16 62 (dk_at dksX0_raise_0 14 rfl rfl)
theorem dX0_raise_16 : decode cX0_raise 16 = .ok (.istore 4, 2) := dk_54 4 (dk_at dksX0_raise_0 16 rfl rfl)
theorem dX0_raise_18 : decode cX0_raise 18 = .ok (.iload 4, 2) := dk_21 4 (dk_at dksX0_raise_0 18 rfl rfl)
theorem dX0_raise_20 : decode cX0_raise 20 = .ok (.ifCond .lt 65, 3) := dk_155 0 65 (dk_at dksX0_raise_0 20 rfl rfl)
theorem dX0_raise_23 : decode cX0_raise 23 = .ok (.lload_n 1, 1) := dk_31 (dk_at dksX0_raise_0 23 rfl rfl)
theorem dX0_raise_24 : decode cX0_raise 24 = .ok (.iload 4, 2) := dk_21 4 (dk_at dksX0_raise_1 0 rfl rfl)
theorem dX0_raise_26 : decode cX0_raise 26 = .ok (.iconst 1, 1) := dk_4 (dk_at dksX0_raise_1 2 rfl rfl)
theorem dX0_raise_27 : decode cX0_raise 27 = .ok (.iadd, 1) := dk_96 (dk_at dksX0_raise_1 3 rfl rfl)
theorem dX0_raise_28 : decode cX0_raise 28 = .ok (.lushr, 1) := dk_125 (dk_at dksX0_raise_1 4 rfl rfl)
theorem dX0_raise_29 : decode cX0_raise 29 = .ok (.lconst 0, 1) := dk_9 (dk_at dksX0_raise_1 5 rfl rfl)
theorem dX0_raise_30 : decode cX0_raise 30 = .ok (.lcmp, 1) := dk_148 (dk_at dksX0_raise_1 6 rfl rfl)
theorem dX0_raise_31 : decode cX0_raise 31 = .ok (.ifCond .eq 19, 3) := dk_153 0 19 (dk_at dksX0_raise_1 7 rfl rfl)
theorem dX0_raise_34 : decode cX0_raise 34 = .ok (.aload_n 3, 1) := dk_45 (dk_at dksX0_raise_1 10 rfl rfl)
theorem dX0_raise_35 : decode cX0_raise 35 = .ok (.iconst 0, 1) := dk_3 (dk_at dksX0_raise_1 11 rfl rfl)
theorem dX0_raise_36 : decode cX0_raise 36 = .ok (.laload, 1) := dk_47 (dk_at dksX0_raise_1 12 rfl rfl)
theorem dX0_raise_37 : decode cX0_raise 37 = .ok (.aload_n 3, 1) := dk_45 (dk_at dksX0_raise_1 13 rfl rfl)
theorem dX0_raise_38 : decode cX0_raise 38 = .ok (.iconst 1, 1) := dk_4 (dk_at dksX0_raise_1 14 rfl rfl)
theorem dX0_raise_39 : decode cX0_raise 39 = .ok (.laload, 1) := dk_47 (dk_at dksX0_raise_1 15 rfl rfl)
theorem dX0_raise_40 : decode cX0_raise 40 = .ok (.aload_n 3, 1) := dk_45 (dk_at dksX0_raise_1 16 rfl rfl)
theorem dX0_raise_41 : decode cX0_raise 41 = .ok (.iconst 0, 1) := dk_3 (dk_at dksX0_raise_1 17 rfl rfl)
theorem dX0_raise_42 : decode cX0_raise 42 = .ok (.laload, 1) := dk_47 (dk_at dksX0_raise_1 18 rfl rfl)
theorem dX0_raise_43 : decode cX0_raise 43 = .ok (.aload_n 3, 1) := dk_45 (dk_at dksX0_raise_1 19 rfl rfl)
theorem dX0_raise_44 : decode cX0_raise 44 = .ok (.iconst 1, 1) := dk_4 (dk_at dksX0_raise_1 20 rfl rfl)
theorem dX0_raise_45 : decode cX0_raise 45 = .ok (.laload, 1) := dk_47 (dk_at dksX0_raise_1 21 rfl rfl)
theorem dX0_raise_46 : decode cX0_raise 46 = .ok (.invokestatic 14, 3) := dk_184 0 14 (dk_at dksX0_raise_2 0 rfl rfl)
theorem dX0_raise_49 : decode cX0_raise 49 = .ok (.astore_n 3, 1) := dk_78 (dk_at dksX0_raise_2 3 rfl rfl)
theorem dX0_raise_50 : decode cX0_raise 50 = .ok (.lload_n 1, 1) := dk_31 (dk_at dksX0_raise_2 4 rfl rfl)
theorem dX0_raise_51 : decode cX0_raise 51 = .ok (.iload 4, 2) := dk_21 4 (dk_at dksX0_raise_2 5 rfl rfl)
theorem dX0_raise_53 : decode cX0_raise 53 = .ok (.lushr, 1) := dk_125 (dk_at dksX0_raise_2 7 rfl rfl)
theorem dX0_raise_54 : decode cX0_raise 54 = .ok (.lconst 1, 1) := dk_10 (dk_at dksX0_raise_2 8 rfl rfl)
theorem dX0_raise_55 : decode cX0_raise 55 = .ok (.land, 1) := dk_127 (dk_at dksX0_raise_2 9 rfl rfl)
theorem dX0_raise_56 : decode cX0_raise 56 = .ok (.lconst 1, 1) := dk_10 (dk_at dksX0_raise_2 10 rfl rfl)
theorem dX0_raise_57 : decode cX0_raise 57 = .ok (.lcmp, 1) := dk_148 (dk_at dksX0_raise_2 11 rfl rfl)
theorem dX0_raise_58 : decode cX0_raise 58 = .ok (.ifCond .ne 21, 3) := dk_154 0 21 (dk_at dksX0_raise_2 12 rfl rfl)
theorem dX0_raise_61 : decode cX0_raise 61 = .ok (.aload_n 0, 1) := dk_42 (dk_at dksX0_raise_2 15 rfl rfl)
theorem dX0_raise_62 : decode cX0_raise 62 = .ok (.getfield 20, 3) := dk_180 0 20 (dk_at dksX0_raise_2 16 rfl rfl)
theorem dX0_raise_65 : decode cX0_raise 65 = .ok (.aload_n 0, 1) := dk_42 (dk_at dksX0_raise_2 19 rfl rfl)
theorem dX0_raise_66 : decode cX0_raise 66 = .ok (.getfield 26, 3) := dk_180 0 26 (dk_at dksX0_raise_2 20 rfl rfl)
theorem dX0_raise_69 : decode cX0_raise 69 = .ok (.aload_n 3, 1) := dk_45 (dk_at dksX0_raise_2 23 rfl rfl)
theorem dX0_raise_70 : decode cX0_raise 70 = .ok (.iconst 0, 1) := dk_3 (dk_at dksX0_raise_3 0 rfl rfl)
theorem dX0_raise_71 : decode cX0_raise 71 = .ok (.laload, 1) := dk_47 (dk_at dksX0_raise_3 1 rfl rfl)
theorem dX0_raise_72 : decode cX0_raise 72 = .ok (.aload_n 3, 1) := dk_45 (dk_at dksX0_raise_3 2 rfl rfl)
theorem dX0_raise_73 : decode cX0_raise 73 = .ok (.iconst 1, 1) := dk_4 (dk_at dksX0_raise_3 3 rfl rfl)
theorem dX0_raise_74 : decode cX0_raise 74 = .ok (.laload, 1) := dk_47 (dk_at dksX0_raise_3 4 rfl rfl)
theorem dX0_raise_75 : decode cX0_raise 75 = .ok (.invokestatic 14, 3) := dk_184 0 14 (dk_at dksX0_raise_3 5 rfl rfl)
theorem dX0_raise_78 : decode cX0_raise 78 = .ok (.astore_n 3, 1) := dk_78 (dk_at dksX0_raise_3 8 rfl rfl)
theorem dX0_raise_79 : decode cX0_raise 79 = .ok (.iinc 4 (-1), 3) := dk_132 4 255 (dk_at dksX0_raise_3 9 rfl rfl)
theorem dX0_raise_82 : decode cX0_raise 82 = .ok (.goto (-64), 3) := dk_167 255 192 (dk_at dksX0_raise_3 12 rfl rfl)
theorem dX0_raise_85 : decode cX0_raise 85 = .ok (.aload_n 0, 1) := dk_42 (dk_at dksX0_raise_3 15 rfl rfl)
theorem dX0_raise_86 : decode cX0_raise 86 = .ok (.aload_n 3, 1) := dk_45 (dk_at dksX0_raise_3 16 rfl rfl)
theorem dX0_raise_87 : decode cX0_raise 87 = .ok (.iconst 0, 1) := dk_3 (dk_at dksX0_raise_3 17 rfl rfl)
theorem dX0_raise_88 : decode cX0_raise 88 = .ok (.laload, 1) := dk_47 (dk_at dksX0_raise_3 18 rfl rfl)
theorem dX0_raise_89 : decode cX0_raise 89 = .ok (.putfield 29, 3) := dk_181 0 29 (dk_at dksX0_raise_3 19 rfl rfl)
theorem dX0_raise_92 : decode cX0_raise 92 = .ok (.aload_n 0, 1) := dk_42 (dk_at dksX0_raise_3 22 rfl rfl)
theorem dX0_raise_93 : decode cX0_raise 93 = .ok (.aload_n 3, 1) := dk_45 (dk_at dksX0_raise_3 23 rfl rfl)
theorem dX0_raise_94 : decode cX0_raise 94 = .ok (.iconst 1, 1) := dk_4 (dk_at dksX0_raise_4 0 rfl rfl)
theorem dX0_raise_95 : decode cX0_raise 95 = .ok (.laload, 1) := dk_47 (dk_at dksX0_raise_4 1 rfl rfl)
theorem dX0_raise_96 : decode cX0_raise 96 = .ok (.putfield 32, 3) := dk_181 0 32 (dk_at dksX0_raise_4 2 rfl rfl)
theorem dX0_raise_99 : decode cX0_raise 99 = .ok (.return_, 1) := dk_177 (dk_at dksX0_raise_4 5 rfl rfl)
abbrev cX0_product : ByteArray := method_3_code
def yX0_product : MethodName := ⟨RX0, "product", "(JJJJ)[J"⟩
def dkwX0_product_5 : List UInt8 := [22, 8, 80, 89, 4, 22, 10, 80, 176]
abbrev dktX0_product_5 : List UInt8 := dkwX0_product_5 ++ []
def dkwX0_product_4 : List UInt8 := [153, 0, 9, 20, 0, 7, 167, 0, 4, 9, 131, 55, 4, 132, 12, 1, 167, 255, 153, 5, 188, 11, 89, 3]
abbrev dktX0_product_4 : List UInt8 := dkwX0_product_4 ++ dktX0_product_5
def dkwX0_product_3 : List UInt8 := [167, 0, 4, 3, 54, 13, 22, 6, 4, 125, 22, 4, 16, 63, 121, 129, 55, 6, 22, 4, 4, 125, 21, 13]
abbrev dktX0_product_3 : List UInt8 := dkwX0_product_3 ++ dktX0_product_4
def dkwX0_product_2 : List UInt8 := [22, 8, 22, 4, 131, 55, 8, 22, 10, 22, 6, 131, 55, 10, 22, 6, 10, 127, 10, 148, 154, 0, 7, 4]
abbrev dktX0_product_2 : List UInt8 := dkwX0_product_2 ++ dktX0_product_3
def dkwX0_product_1 : List UInt8 := [30, 16, 63, 21, 12, 100, 125, 167, 0, 10, 32, 16, 127, 21, 12, 100, 125, 10, 127, 10, 148, 154, 0, 17]
abbrev dktX0_product_1 : List UInt8 := dkwX0_product_1 ++ dktX0_product_2
def dkwX0_product_0 : List UInt8 := [9, 55, 8, 9, 55, 10, 3, 54, 12, 21, 12, 17, 0, 128, 162, 0, 101, 21, 12, 16, 64, 162, 0, 13]
abbrev dktX0_product_0 : List UInt8 := dkwX0_product_0 ++ dktX0_product_1
theorem dksX0_product_0 : cX0_product.data.toList.drop 0 = dktX0_product_0 := by decide +kernel
theorem dksX0_product_1 : cX0_product.data.toList.drop 24 = dktX0_product_1 := dk_seg dksX0_product_0 24 rfl rfl
theorem dksX0_product_2 : cX0_product.data.toList.drop 48 = dktX0_product_2 := dk_seg dksX0_product_1 24 rfl rfl
theorem dksX0_product_3 : cX0_product.data.toList.drop 72 = dktX0_product_3 := dk_seg dksX0_product_2 24 rfl rfl
theorem dksX0_product_4 : cX0_product.data.toList.drop 96 = dktX0_product_4 := dk_seg dksX0_product_3 24 rfl rfl
theorem dksX0_product_5 : cX0_product.data.toList.drop 120 = dktX0_product_5 := dk_seg dksX0_product_4 24 rfl rfl
theorem dX0_product_0 : decode cX0_product 0 = .ok (.lconst 0, 1) := dk_9 (dk_at dksX0_product_0 0 rfl rfl)
theorem dX0_product_1 : decode cX0_product 1 = .ok (.lstore 8, 2) := dk_55 8 (dk_at dksX0_product_0 1 rfl rfl)
theorem dX0_product_3 : decode cX0_product 3 = .ok (.lconst 0, 1) := dk_9 (dk_at dksX0_product_0 3 rfl rfl)
theorem dX0_product_4 : decode cX0_product 4 = .ok (.lstore 10, 2) := dk_55 10 (dk_at dksX0_product_0 4 rfl rfl)
theorem dX0_product_6 : decode cX0_product 6 = .ok (.iconst 0, 1) := dk_3 (dk_at dksX0_product_0 6 rfl rfl)
theorem dX0_product_7 : decode cX0_product 7 = .ok (.istore 12, 2) := dk_54 12 (dk_at dksX0_product_0 7 rfl rfl)
theorem dX0_product_9 : decode cX0_product 9 = .ok (.iload 12, 2) := dk_21 12 (dk_at dksX0_product_0 9 rfl rfl)
theorem dX0_product_11 : decode cX0_product 11 = .ok (.sipush 128, 3) := dk_17 0 128 (dk_at dksX0_product_0 11 rfl rfl)
theorem dX0_product_14 : decode cX0_product 14 = .ok (.if_icmp .ge 101, 3) := dk_162 0 101 (dk_at dksX0_product_0 14 rfl rfl)
theorem dX0_product_17 : decode cX0_product 17 = .ok (.iload 12, 2) := dk_21 12 (dk_at dksX0_product_0 17 rfl rfl)
theorem dX0_product_19 : decode cX0_product 19 = .ok (.bipush 64, 2) := dk_16 64 (dk_at dksX0_product_0 19 rfl rfl)
theorem dX0_product_21 : decode cX0_product 21 = .ok (.if_icmp .ge 13, 3) := dk_162 0 13 (dk_at dksX0_product_0 21 rfl rfl)
theorem dX0_product_24 : decode cX0_product 24 = .ok (.lload_n 0, 1) := dk_30 (dk_at dksX0_product_1 0 rfl rfl)
theorem dX0_product_25 : decode cX0_product 25 = .ok (.bipush 63, 2) := dk_16 63 (dk_at dksX0_product_1 1 rfl rfl)
theorem dX0_product_27 : decode cX0_product 27 = .ok (.iload 12, 2) := dk_21 12 (dk_at dksX0_product_1 3 rfl rfl)
theorem dX0_product_29 : decode cX0_product 29 = .ok (.isub, 1) := dk_100 (dk_at dksX0_product_1 5 rfl rfl)
theorem dX0_product_30 : decode cX0_product 30 = .ok (.lushr, 1) := dk_125 (dk_at dksX0_product_1 6 rfl rfl)
theorem dX0_product_31 : decode cX0_product 31 = .ok (.goto 10, 3) := dk_167 0 10 (dk_at dksX0_product_1 7 rfl rfl)
theorem dX0_product_34 : decode cX0_product 34 = .ok (.lload_n 2, 1) := dk_32 (dk_at dksX0_product_1 10 rfl rfl)
theorem dX0_product_35 : decode cX0_product 35 = .ok (.bipush 127, 2) := dk_16 127 (dk_at dksX0_product_1 11 rfl rfl)
theorem dX0_product_37 : decode cX0_product 37 = .ok (.iload 12, 2) := dk_21 12 (dk_at dksX0_product_1 13 rfl rfl)
theorem dX0_product_39 : decode cX0_product 39 = .ok (.isub, 1) := dk_100 (dk_at dksX0_product_1 15 rfl rfl)
theorem dX0_product_40 : decode cX0_product 40 = .ok (.lushr, 1) := dk_125 (dk_at dksX0_product_1 16 rfl rfl)
theorem dX0_product_41 : decode cX0_product 41 = .ok (.lconst 1, 1) := dk_10 (dk_at dksX0_product_1 17 rfl rfl)
theorem dX0_product_42 : decode cX0_product 42 = .ok (.land, 1) := dk_127 (dk_at dksX0_product_1 18 rfl rfl)
theorem dX0_product_43 : decode cX0_product 43 = .ok (.lconst 1, 1) := dk_10 (dk_at dksX0_product_1 19 rfl rfl)
theorem dX0_product_44 : decode cX0_product 44 = .ok (.lcmp, 1) := dk_148 (dk_at dksX0_product_1 20 rfl rfl)
theorem dX0_product_45 : decode cX0_product 45 = .ok (.ifCond .ne 17, 3) := dk_154 0 17 (dk_at dksX0_product_1 21 rfl rfl)
theorem dX0_product_48 : decode cX0_product 48 = .ok (.lload 8, 2) := dk_22 8 (dk_at dksX0_product_2 0 rfl rfl)
theorem dX0_product_50 : decode cX0_product 50 = .ok (.lload 4, 2) := dk_22 4 (dk_at dksX0_product_2 2 rfl rfl)
theorem dX0_product_52 : decode cX0_product 52 = .ok (.lxor, 1) := dk_131 (dk_at dksX0_product_2 4 rfl rfl)
theorem dX0_product_53 : decode cX0_product 53 = .ok (.lstore 8, 2) := dk_55 8 (dk_at dksX0_product_2 5 rfl rfl)
theorem dX0_product_55 : decode cX0_product 55 = .ok (.lload 10, 2) := dk_22 10 (dk_at dksX0_product_2 7 rfl rfl)
theorem dX0_product_57 : decode cX0_product 57 = .ok (.lload 6, 2) := dk_22 6 (dk_at dksX0_product_2 9 rfl rfl)
theorem dX0_product_59 : decode cX0_product 59 = .ok (.lxor, 1) := dk_131 (dk_at dksX0_product_2 11 rfl rfl)
theorem dX0_product_60 : decode cX0_product 60 = .ok (.lstore 10, 2) := dk_55 10 (dk_at dksX0_product_2 12 rfl rfl)
theorem dX0_product_62 : decode cX0_product 62 = .ok (.lload 6, 2) := dk_22 6 (dk_at dksX0_product_2 14 rfl rfl)
theorem dX0_product_64 : decode cX0_product 64 = .ok (.lconst 1, 1) := dk_10 (dk_at dksX0_product_2 16 rfl rfl)
theorem dX0_product_65 : decode cX0_product 65 = .ok (.land, 1) := dk_127 (dk_at dksX0_product_2 17 rfl rfl)
theorem dX0_product_66 : decode cX0_product 66 = .ok (.lconst 1, 1) := dk_10 (dk_at dksX0_product_2 18 rfl rfl)
theorem dX0_product_67 : decode cX0_product 67 = .ok (.lcmp, 1) := dk_148 (dk_at dksX0_product_2 19 rfl rfl)
theorem dX0_product_68 : decode cX0_product 68 = .ok (.ifCond .ne 7, 3) := dk_154 0 7 (dk_at dksX0_product_2 20 rfl rfl)
theorem dX0_product_71 : decode cX0_product 71 = .ok (.iconst 1, 1) := dk_4 (dk_at dksX0_product_2 23 rfl rfl)
theorem dX0_product_72 : decode cX0_product 72 = .ok (.goto 4, 3) := dk_167 0 4 (dk_at dksX0_product_3 0 rfl rfl)
theorem dX0_product_75 : decode cX0_product 75 = .ok (.iconst 0, 1) := dk_3 (dk_at dksX0_product_3 3 rfl rfl)
theorem dX0_product_76 : decode cX0_product 76 = .ok (.istore 13, 2) := dk_54 13 (dk_at dksX0_product_3 4 rfl rfl)
theorem dX0_product_78 : decode cX0_product 78 = .ok (.lload 6, 2) := dk_22 6 (dk_at dksX0_product_3 6 rfl rfl)
theorem dX0_product_80 : decode cX0_product 80 = .ok (.iconst 1, 1) := dk_4 (dk_at dksX0_product_3 8 rfl rfl)
theorem dX0_product_81 : decode cX0_product 81 = .ok (.lushr, 1) := dk_125 (dk_at dksX0_product_3 9 rfl rfl)
theorem dX0_product_82 : decode cX0_product 82 = .ok (.lload 4, 2) := dk_22 4 (dk_at dksX0_product_3 10 rfl rfl)
theorem dX0_product_84 : decode cX0_product 84 = .ok (.bipush 63, 2) := dk_16 63 (dk_at dksX0_product_3 12 rfl rfl)
theorem dX0_product_86 : decode cX0_product 86 = .ok (.lshl, 1) := dk_121 (dk_at dksX0_product_3 14 rfl rfl)
theorem dX0_product_87 : decode cX0_product 87 = .ok (.lor, 1) := dk_129 (dk_at dksX0_product_3 15 rfl rfl)
theorem dX0_product_88 : decode cX0_product 88 = .ok (.lstore 6, 2) := dk_55 6 (dk_at dksX0_product_3 16 rfl rfl)
theorem dX0_product_90 : decode cX0_product 90 = .ok (.lload 4, 2) := dk_22 4 (dk_at dksX0_product_3 18 rfl rfl)
theorem dX0_product_92 : decode cX0_product 92 = .ok (.iconst 1, 1) := dk_4 (dk_at dksX0_product_3 20 rfl rfl)
theorem dX0_product_93 : decode cX0_product 93 = .ok (.lushr, 1) := dk_125 (dk_at dksX0_product_3 21 rfl rfl)
theorem dX0_product_94 : decode cX0_product 94 = .ok (.iload 13, 2) := dk_21 13 (dk_at dksX0_product_3 22 rfl rfl)
theorem dX0_product_96 : decode cX0_product 96 = .ok (.ifCond .eq 9, 3) := dk_153 0 9 (dk_at dksX0_product_4 0 rfl rfl)
theorem dX0_product_99 : decode cX0_product 99 = .ok (.ldc2_w 7, 3) := dk_20 0 7 (dk_at dksX0_product_4 3 rfl rfl)
theorem dX0_product_102 : decode cX0_product 102 = .ok (.goto 4, 3) := dk_167 0 4 (dk_at dksX0_product_4 6 rfl rfl)
theorem dX0_product_105 : decode cX0_product 105 = .ok (.lconst 0, 1) := dk_9 (dk_at dksX0_product_4 9 rfl rfl)
theorem dX0_product_106 : decode cX0_product 106 = .ok (.lxor, 1) := dk_131 (dk_at dksX0_product_4 10 rfl rfl)
theorem dX0_product_107 : decode cX0_product 107 = .ok (.lstore 4, 2) := dk_55 4 (dk_at dksX0_product_4 11 rfl rfl)
theorem dX0_product_109 : decode cX0_product 109 = .ok (.iinc 12 1, 3) := dk_132 12 1 (dk_at dksX0_product_4 13 rfl rfl)
theorem dX0_product_112 : decode cX0_product 112 = .ok (.goto (-103), 3) := dk_167 255 153 (dk_at dksX0_product_4 16 rfl rfl)
theorem dX0_product_115 : decode cX0_product 115 = .ok (.iconst 2, 1) := dk_5 (dk_at dksX0_product_4 19 rfl rfl)
theorem dX0_product_116 : decode cX0_product 116 = .ok (.newarray .long, 2) := dk_188_11 (dk_at dksX0_product_4 20 rfl rfl)
theorem dX0_product_118 : decode cX0_product 118 = .ok (.dup, 1) := dk_89 (dk_at dksX0_product_4 22 rfl rfl)
theorem dX0_product_119 : decode cX0_product 119 = .ok (.iconst 0, 1) := dk_3 (dk_at dksX0_product_4 23 rfl rfl)
theorem dX0_product_120 : decode cX0_product 120 = .ok (.lload 8, 2) := dk_22 8 (dk_at dksX0_product_5 0 rfl rfl)
theorem dX0_product_122 : decode cX0_product 122 = .ok (.lastore, 1) := dk_80 (dk_at dksX0_product_5 2 rfl rfl)
theorem dX0_product_123 : decode cX0_product 123 = .ok (.dup, 1) := dk_89 (dk_at dksX0_product_5 3 rfl rfl)
theorem dX0_product_124 : decode cX0_product 124 = .ok (.iconst 1, 1) := dk_4 (dk_at dksX0_product_5 4 rfl rfl)
theorem dX0_product_125 : decode cX0_product 125 = .ok (.lload 10, 2) := dk_22 10 (dk_at dksX0_product_5 5 rfl rfl)
theorem dX0_product_127 : decode cX0_product 127 = .ok (.lastore, 1) := dk_80 (dk_at dksX0_product_5 7 rfl rfl)
theorem dX0_product_128 : decode cX0_product 128 = .ok (.areturn, 1) := dk_176 (dk_at dksX0_product_5 8 rfl rfl)
abbrev cX0_again : ByteArray := method_9_code
def yX0_again : MethodName := ⟨RX0, "again", "(LFieldPowerDesk;LFieldPowerDeskLaw$Told;)V"⟩
def dkwX0_again_0 : List UInt8 := [42, 182, 0, 65, 43, 43, 180, 0, 29, 181, 0, 41, 43, 43, 180, 0, 32, 181, 0, 43, 177]
abbrev dktX0_again_0 : List UInt8 := dkwX0_again_0 ++ []
theorem dksX0_again_0 : cX0_again.data.toList.drop 0 = dktX0_again_0 := by decide +kernel
theorem dX0_again_0 : decode cX0_again 0 = .ok (.aload_n 0, 1) := dk_42 (dk_at dksX0_again_0 0 rfl rfl)
theorem dX0_again_1 : decode cX0_again 1 = .ok (.invokevirtual 65, 3) := dk_182 0 65 (dk_at dksX0_again_0 1 rfl rfl)
theorem dX0_again_4 : decode cX0_again 4 = .ok (.aload_n 1, 1) := dk_43 (dk_at dksX0_again_0 4 rfl rfl)
theorem dX0_again_5 : decode cX0_again 5 = .ok (.aload_n 1, 1) := dk_43 (dk_at dksX0_again_0 5 rfl rfl)
theorem dX0_again_6 : decode cX0_again 6 = .ok (.getfield 29, 3) := dk_180 0 29 (dk_at dksX0_again_0 6 rfl rfl)
theorem dX0_again_9 : decode cX0_again 9 = .ok (.putfield 41, 3) := dk_181 0 41 (dk_at dksX0_again_0 9 rfl rfl)
theorem dX0_again_12 : decode cX0_again 12 = .ok (.aload_n 1, 1) := dk_43 (dk_at dksX0_again_0 12 rfl rfl)
theorem dX0_again_13 : decode cX0_again 13 = .ok (.aload_n 1, 1) := dk_43 (dk_at dksX0_again_0 13 rfl rfl)
theorem dX0_again_14 : decode cX0_again 14 = .ok (.getfield 32, 3) := dk_180 0 32 (dk_at dksX0_again_0 14 rfl rfl)
theorem dX0_again_17 : decode cX0_again 17 = .ok (.putfield 43, 3) := dk_181 0 43 (dk_at dksX0_again_0 17 rfl rfl)
theorem dX0_again_20 : decode cX0_again 20 = .ok (.return_, 1) := dk_177 (dk_at dksX0_again_0 20 rfl rfl)
abbrev cX0_more : ByteArray := method_12_code
def yX0_more : MethodName := ⟨RX0, "more", "(LFieldPowerDesk;II)Z"⟩
def dkwX0_more_0 : List UInt8 := [42, 182, 0, 65, 42, 182, 0, 46, 42, 27, 28, 182, 0, 53, 172]
abbrev dktX0_more_0 : List UInt8 := dkwX0_more_0 ++ []
theorem dksX0_more_0 : cX0_more.data.toList.drop 0 = dktX0_more_0 := by decide +kernel
theorem dX0_more_0 : decode cX0_more 0 = .ok (.aload_n 0, 1) := dk_42 (dk_at dksX0_more_0 0 rfl rfl)
theorem dX0_more_1 : decode cX0_more 1 = .ok (.invokevirtual 65, 3) := dk_182 0 65 (dk_at dksX0_more_0 1 rfl rfl)
theorem dX0_more_4 : decode cX0_more 4 = .ok (.aload_n 0, 1) := dk_42 (dk_at dksX0_more_0 4 rfl rfl)
theorem dX0_more_5 : decode cX0_more 5 = .ok (.invokevirtual 46, 3) := dk_182 0 46 (dk_at dksX0_more_0 5 rfl rfl)
theorem dX0_more_8 : decode cX0_more 8 = .ok (.aload_n 0, 1) := dk_42 (dk_at dksX0_more_0 8 rfl rfl)
theorem dX0_more_9 : decode cX0_more 9 = .ok (.iload_n 1, 1) := dk_27 (dk_at dksX0_more_0 9 rfl rfl)
theorem dX0_more_10 : decode cX0_more 10 = .ok (.iload_n 2, 1) := dk_28 (dk_at dksX0_more_0 10 rfl rfl)
theorem dX0_more_11 : decode cX0_more 11 = .ok (.invokevirtual 53, 3) := dk_182 0 53 (dk_at dksX0_more_0 11 rfl rfl)
theorem dX0_more_14 : decode cX0_more 14 = .ok (.ireturn, 1) := dk_172 (dk_at dksX0_more_0 14 rfl rfl)
theorem q0 : (Jvm.Cond.initialized "FieldPowerDeskLaw") ∈ lw_all := lw_g (lw_at lw_m0 0 rfl) rfl
theorem q11 : (Jvm.Cond.classLink "FieldPowerDeskLaw" (36 : Nat) "FieldPowerDesk") ∈ lw_all := lw_g (lw_at lw_m0 11 rfl) rfl
theorem q13 : (Jvm.Cond.methodLink "FieldPowerDeskLaw" (88 : Nat) ({ cls := "FieldPowerDesk", name := "<init>", desc := "()V" } : Jvm.MethodName)) ∈ lw_all := lw_g (lw_at lw_m0 13 rfl) rfl
theorem q30 : (Jvm.Cond.methodLink "FieldPowerDeskLaw" (35 : Nat) ({ cls := "FieldPowerDesk", name := "base", desc := "(IIII)V" } : Jvm.MethodName)) ∈ lw_all := lw_g (lw_at lw_m0 30 rfl) rfl
theorem q37 : (Jvm.Cond.methodLink "FieldPowerDeskLaw" (46 : Nat) ({ cls := "FieldPowerDesk", name := "begin", desc := "()V" } : Jvm.MethodName)) ∈ lw_all := lw_g (lw_at lw_m0 37 rfl) rfl
theorem q69 : (Jvm.Cond.methodLink "FieldPowerDeskLaw" (53 : Nat) ({ cls := "FieldPowerDesk", name := "power", desc := "(II)Z" } : Jvm.MethodName)) ∈ lw_all := lw_g (lw_at lw_m0 69 rfl) rfl
theorem q137 : (Jvm.Cond.classLink "FieldPowerDeskLaw" (21 : Nat) "FieldPowerDeskLaw$Told") ∈ lw_all := lw_g (lw_at lw_m0 137 rfl) rfl
theorem q139 : (Jvm.Cond.methodLink "FieldPowerDeskLaw" (89 : Nat) ({ cls := "FieldPowerDeskLaw$Told", name := "<init>", desc := "()V" } : Jvm.MethodName)) ∈ lw_all := lw_g (lw_at lw_m0 139 rfl) rfl
theorem q143 : (Jvm.Cond.fieldLink "FieldPowerDeskLaw" (41 : Nat) "FieldPowerDeskLaw$Told" "base" "J") ∈ lw_all := lw_g (lw_at lw_m0 143 rfl) rfl
theorem q144 : (Jvm.Cond.fieldLink "FieldPowerDeskLaw" (43 : Nat) "FieldPowerDeskLaw$Told" "base2" "J") ∈ lw_all := lw_g (lw_at lw_m0 144 rfl) rfl
theorem q145 : (Jvm.Cond.fieldLink "FieldPowerDeskLaw" (20 : Nat) "FieldPowerDeskLaw$Told" "element" "J") ∈ lw_all := lw_g (lw_at lw_m0 145 rfl) rfl
theorem q146 : (Jvm.Cond.fieldLink "FieldPowerDeskLaw" (26 : Nat) "FieldPowerDeskLaw$Told" "element2" "J") ∈ lw_all := lw_g (lw_at lw_m0 146 rfl) rfl
theorem q147 : (Jvm.Cond.fieldLink "FieldPowerDeskLaw" (29 : Nat) "FieldPowerDeskLaw$Told" "out" "J") ∈ lw_all := lw_g (lw_at lw_m0 147 rfl) rfl
theorem q148 : (Jvm.Cond.fieldLink "FieldPowerDeskLaw" (32 : Nat) "FieldPowerDeskLaw$Told" "out2" "J") ∈ lw_all := lw_g (lw_at lw_m0 148 rfl) rfl
theorem q149 : (Jvm.Cond.fieldLink "FieldPowerDeskLaw" (49 : Nat) "FieldPowerDeskLaw$Told" "begun" "Z") ∈ lw_all := lw_g (lw_at lw_m0 149 rfl) rfl
theorem q165 : (Jvm.Cond.methodLink "FieldPowerDeskLaw" (90 : Nat) ({ cls := "FieldPowerDeskLaw", name := "cell", desc := "([II)I" } : Jvm.MethodName)) ∈ lw_all := lw_g (lw_at lw_m0 165 rfl) rfl
theorem q166 : (Jvm.Cond.static ({ cls := "FieldPowerDeskLaw", name := "cell", desc := "([II)I" } : Jvm.MethodName)) ∈ lw_all := lw_g (lw_at lw_m0 166 rfl) rfl
theorem q167 : (Jvm.Cond.code ({ cls := "FieldPowerDeskLaw", name := "cell", desc := "([II)I" } : Jvm.MethodName) method_2_code (2 : Nat) (Option.some Jvm.ClassFile.FieldType.int)) ∈ lw_all := lw_g (lw_at lw_m0 167 rfl) rfl
theorem q168 : (Jvm.Cond.methodLink "FieldPowerDeskLaw" (84 : Nat) ({ cls := "FieldPowerDeskLaw", name := "shown", desc := "(LFieldPowerDesk;JJI)Z" } : Jvm.MethodName)) ∈ lw_all := lw_g (lw_at lw_m0 168 rfl) rfl
theorem q169 : (Jvm.Cond.static ({ cls := "FieldPowerDeskLaw", name := "shown", desc := "(LFieldPowerDesk;JJI)Z" } : Jvm.MethodName)) ∈ lw_all := lw_g (lw_at lw_m0 169 rfl) rfl
theorem q170 : (Jvm.Cond.code ({ cls := "FieldPowerDeskLaw", name := "shown", desc := "(LFieldPowerDesk;JJI)Z" } : Jvm.MethodName) method_10_code (8 : Nat) (Option.some Jvm.ClassFile.FieldType.boolean)) ∈ lw_all := lw_g (lw_at lw_m0 170 rfl) rfl
theorem q171 : (Jvm.Cond.methodLink "FieldPowerDeskLaw" (68 : Nat) ({ cls := "FieldPowerDesk", name := "out", desc := "(I)I" } : Jvm.MethodName)) ∈ lw_all := lw_g (lw_at lw_m0 171 rfl) rfl
theorem q175 : (Jvm.Cond.constantLong "FieldPowerDeskLaw" (71 : Nat) (255 : Int64)) ∈ lw_all := lw_g (lw_at lw_m0 175 rfl) rfl
theorem q176 : (Jvm.Cond.methodLink "FieldPowerDeskLaw" (94 : Nat) ({ cls := "FieldPowerDeskLaw", name := "turn", desc := "(LFieldPowerDesk;LFieldPowerDeskLaw$Told;IIIIII)Z" } : Jvm.MethodName)) ∈ lw_all := lw_g (lw_at lw_m0 176 rfl) rfl
theorem q177 : (Jvm.Cond.static ({ cls := "FieldPowerDeskLaw", name := "turn", desc := "(LFieldPowerDesk;LFieldPowerDeskLaw$Told;IIIIII)Z" } : Jvm.MethodName)) ∈ lw_all := lw_g (lw_at lw_m0 177 rfl) rfl
theorem q178 : (Jvm.Cond.code ({ cls := "FieldPowerDeskLaw", name := "turn", desc := "(LFieldPowerDesk;LFieldPowerDeskLaw$Told;IIIIII)Z" } : Jvm.MethodName) method_11_code (9 : Nat) (Option.some Jvm.ClassFile.FieldType.boolean)) ∈ lw_all := lw_g (lw_at lw_m0 178 rfl) rfl
theorem q179 : (Jvm.Cond.methodLink "FieldPowerDeskLaw" (73 : Nat) ({ cls := "FieldPowerDeskLaw", name := "base", desc := "(LFieldPowerDesk;LFieldPowerDeskLaw$Told;IIII)V" } : Jvm.MethodName)) ∈ lw_all := lw_g (lw_at lw_m0 179 rfl) rfl
theorem q180 : (Jvm.Cond.static ({ cls := "FieldPowerDeskLaw", name := "base", desc := "(LFieldPowerDesk;LFieldPowerDeskLaw$Told;IIII)V" } : Jvm.MethodName)) ∈ lw_all := lw_g (lw_at lw_m0 180 rfl) rfl
theorem q181 : (Jvm.Cond.code ({ cls := "FieldPowerDeskLaw", name := "base", desc := "(LFieldPowerDesk;LFieldPowerDeskLaw$Told;IIII)V" } : Jvm.MethodName) method_6_code (6 : Nat) (Option.none : Option Jvm.ClassFile.FieldType)) ∈ lw_all := lw_g (lw_at lw_m0 181 rfl) rfl
theorem q182 : (Jvm.Cond.constantLong "FieldPowerDeskLaw" (10 : Nat) (4294967295 : Int64)) ∈ lw_all := lw_g (lw_at lw_m0 182 rfl) rfl
theorem q183 : (Jvm.Cond.methodLink "FieldPowerDeskLaw" (76 : Nat) ({ cls := "FieldPowerDeskLaw", name := "begin", desc := "(LFieldPowerDesk;LFieldPowerDeskLaw$Told;)V" } : Jvm.MethodName)) ∈ lw_all := lw_g (lw_at lw_m0 183 rfl) rfl
theorem q184 : (Jvm.Cond.static ({ cls := "FieldPowerDeskLaw", name := "begin", desc := "(LFieldPowerDesk;LFieldPowerDeskLaw$Told;)V" } : Jvm.MethodName)) ∈ lw_all := lw_g (lw_at lw_m0 184 rfl) rfl
theorem q185 : (Jvm.Cond.code ({ cls := "FieldPowerDeskLaw", name := "begin", desc := "(LFieldPowerDesk;LFieldPowerDeskLaw$Told;)V" } : Jvm.MethodName) method_7_code (2 : Nat) (Option.none : Option Jvm.ClassFile.FieldType)) ∈ lw_all := lw_g (lw_at lw_m0 185 rfl) rfl
theorem q186 : (Jvm.Cond.methodLink "FieldPowerDeskLaw" (79 : Nat) ({ cls := "FieldPowerDeskLaw", name := "power", desc := "(LFieldPowerDesk;LFieldPowerDeskLaw$Told;II)Z" } : Jvm.MethodName)) ∈ lw_all := lw_g (lw_at lw_m0 186 rfl) rfl
theorem q187 : (Jvm.Cond.static ({ cls := "FieldPowerDeskLaw", name := "power", desc := "(LFieldPowerDesk;LFieldPowerDeskLaw$Told;II)Z" } : Jvm.MethodName)) ∈ lw_all := lw_g (lw_at lw_m0 187 rfl) rfl
theorem q188 : (Jvm.Cond.code ({ cls := "FieldPowerDeskLaw", name := "power", desc := "(LFieldPowerDesk;LFieldPowerDeskLaw$Told;II)Z" } : Jvm.MethodName) method_8_code (4 : Nat) (Option.some Jvm.ClassFile.FieldType.boolean)) ∈ lw_all := lw_g (lw_at lw_m0 188 rfl) rfl
theorem q189 : (Jvm.Cond.methodLink "FieldPowerDeskLaw" (57 : Nat) ({ cls := "FieldPowerDeskLaw", name := "exponent", desc := "(II)J" } : Jvm.MethodName)) ∈ lw_all := lw_g (lw_at lw_m0 189 rfl) rfl
theorem q190 : (Jvm.Cond.static ({ cls := "FieldPowerDeskLaw", name := "exponent", desc := "(II)J" } : Jvm.MethodName)) ∈ lw_all := lw_g (lw_at lw_m0 190 rfl) rfl
theorem q191 : (Jvm.Cond.code ({ cls := "FieldPowerDeskLaw", name := "exponent", desc := "(II)J" } : Jvm.MethodName) method_4_code (2 : Nat) (Option.some Jvm.ClassFile.FieldType.long)) ∈ lw_all := lw_g (lw_at lw_m0 191 rfl) rfl
theorem q192 : (Jvm.Cond.constant "FieldPowerDeskLaw" (9 : Nat) (2147483647 : Int32)) ∈ lw_all := lw_g (lw_at lw_m0 192 rfl) rfl
theorem q193 : (Jvm.Cond.methodLink "FieldPowerDeskLaw" (61 : Nat) ({ cls := "FieldPowerDeskLaw", name := "raise", desc := "(LFieldPowerDeskLaw$Told;J)V" } : Jvm.MethodName)) ∈ lw_all := lw_g (lw_at lw_m0 193 rfl) rfl
theorem q194 : (Jvm.Cond.static ({ cls := "FieldPowerDeskLaw", name := "raise", desc := "(LFieldPowerDeskLaw$Told;J)V" } : Jvm.MethodName)) ∈ lw_all := lw_g (lw_at lw_m0 194 rfl) rfl
theorem q195 : (Jvm.Cond.code ({ cls := "FieldPowerDeskLaw", name := "raise", desc := "(LFieldPowerDeskLaw$Told;J)V" } : Jvm.MethodName) method_5_code (5 : Nat) (Option.none : Option Jvm.ClassFile.FieldType)) ∈ lw_all := lw_g (lw_at lw_m0 195 rfl) rfl
theorem q196 : (Jvm.Cond.constantLong "FieldPowerDeskLaw" (12 : Nat) (-9223372036854775808 : Int64)) ∈ lw_all := lw_g (lw_at lw_m0 196 rfl) rfl
theorem q197 : (Jvm.Cond.methodLink "FieldPowerDeskLaw" (14 : Nat) ({ cls := "FieldPowerDeskLaw", name := "product", desc := "(JJJJ)[J" } : Jvm.MethodName)) ∈ lw_all := lw_g (lw_at lw_m0 197 rfl) rfl
theorem q198 : (Jvm.Cond.static ({ cls := "FieldPowerDeskLaw", name := "product", desc := "(JJJJ)[J" } : Jvm.MethodName)) ∈ lw_all := lw_g (lw_at lw_m0 198 rfl) rfl
theorem q199 : (Jvm.Cond.code ({ cls := "FieldPowerDeskLaw", name := "product", desc := "(JJJJ)[J" } : Jvm.MethodName) method_3_code (14 : Nat) (Option.some (Jvm.ClassFile.FieldType.array Jvm.ClassFile.FieldType.long))) ∈ lw_all := lw_g (lw_at lw_m0 199 rfl) rfl
theorem q200 : (Jvm.Cond.constantLong "FieldPowerDeskLaw" (7 : Nat) (-2233785415175766016 : Int64)) ∈ lw_all := lw_g (lw_at lw_m0 200 rfl) rfl
theorem q201 : (Jvm.Cond.methodLink "FieldPowerDeskLaw" (82 : Nat) ({ cls := "FieldPowerDeskLaw", name := "again", desc := "(LFieldPowerDesk;LFieldPowerDeskLaw$Told;)V" } : Jvm.MethodName)) ∈ lw_all := lw_g (lw_at lw_m0 201 rfl) rfl
theorem q202 : (Jvm.Cond.static ({ cls := "FieldPowerDeskLaw", name := "again", desc := "(LFieldPowerDesk;LFieldPowerDeskLaw$Told;)V" } : Jvm.MethodName)) ∈ lw_all := lw_g (lw_at lw_m0 202 rfl) rfl
theorem q203 : (Jvm.Cond.code ({ cls := "FieldPowerDeskLaw", name := "again", desc := "(LFieldPowerDesk;LFieldPowerDeskLaw$Told;)V" } : Jvm.MethodName) method_9_code (2 : Nat) (Option.none : Option Jvm.ClassFile.FieldType)) ∈ lw_all := lw_g (lw_at lw_m0 203 rfl) rfl
theorem q204 : (Jvm.Cond.methodLink "FieldPowerDeskLaw" (65 : Nat) ({ cls := "FieldPowerDesk", name := "again", desc := "()V" } : Jvm.MethodName)) ∈ lw_all := lw_g (lw_at lw_m0 204 rfl) rfl
theorem q208 : (Jvm.Cond.methodLink "FieldPowerDeskLaw" (99 : Nat) ({ cls := "FieldPowerDeskLaw", name := "more", desc := "(LFieldPowerDesk;II)Z" } : Jvm.MethodName)) ∈ lw_all := lw_g (lw_at lw_m0 208 rfl) rfl
theorem q209 : (Jvm.Cond.static ({ cls := "FieldPowerDeskLaw", name := "more", desc := "(LFieldPowerDesk;II)Z" } : Jvm.MethodName)) ∈ lw_all := lw_g (lw_at lw_m0 209 rfl) rfl
theorem q210 : (Jvm.Cond.code ({ cls := "FieldPowerDeskLaw", name := "more", desc := "(LFieldPowerDesk;II)Z" } : Jvm.MethodName) method_12_code (3 : Nat) (Option.some Jvm.ClassFile.FieldType.boolean)) ∈ lw_all := lw_g (lw_at lw_m0 210 rfl) rfl
theorem q211 : (Jvm.Cond.constant "FieldPowerDeskLaw" (98 : Nat) (1073741824 : Int32)) ∈ lw_all := lw_g (lw_at lw_m0 211 rfl) rfl
/-! the law's own entry -/
set_option maxRecDepth 100000
abbrev cL_law : ByteArray := code
def dkwL_law_11 : List UInt8 := [44, 20, 0, 12, 9, 21, 6, 184, 0, 84, 153, 0, 7, 4, 167, 0, 4, 3, 172]
abbrev dktL_law_11 : List UInt8 := dkwL_law_11 ++ []
def dkwL_law_10 : List UInt8 := [184, 0, 84, 153, 0, 38, 44, 2, 2, 184, 0, 99, 153, 0, 29, 44, 3, 3, 184, 0, 99, 153, 0, 20]
abbrev dktL_law_10 : List UInt8 := dkwL_law_10 ++ dktL_law_11
def dkwL_law_9 : List UInt8 := [184, 0, 99, 153, 0, 61, 44, 3, 16, 16, 184, 0, 99, 153, 0, 51, 44, 22, 8, 22, 10, 21, 5]
abbrev dktL_law_9 : List UInt8 := dkwL_law_9 ++ dktL_law_10
def dkwL_law_8 : List UInt8 := [154, 0, 5, 3, 172, 44, 182, 0, 46, 44, 18, 98, 3, 182, 0, 53, 153, 0, 71, 44, 18, 98, 3]
abbrev dktL_law_8 : List UInt8 := dkwL_law_8 ++ dktL_law_9
def dkwL_law_7 : List UInt8 := [21, 7, 182, 0, 35, 44, 21, 4, 21, 5, 182, 0, 53, 154, 0, 14, 44, 9, 9, 21, 4, 184, 0, 84]
abbrev dktL_law_7 : List UInt8 := dkwL_law_7 ++ dktL_law_8
def dkwL_law_6 : List UInt8 := [21, 6, 133, 16, 32, 121, 21, 7, 133, 20, 0, 10, 127, 129, 55, 10, 44, 21, 4, 21, 5, 21, 6]
abbrev dktL_law_6 : List UInt8 := dkwL_law_6 ++ dktL_law_7
def dkwL_law_5 : List UInt8 := [42, 6, 184, 0, 90, 54, 7, 21, 4, 133, 16, 32, 121, 21, 5, 133, 20, 0, 10, 127, 129, 55, 8]
abbrev dktL_law_5 : List UInt8 := dkwL_law_5 ++ dktL_law_6
def dkwL_law_4 : List UInt8 := [167, 255, 190, 42, 3, 184, 0, 90, 54, 4, 42, 4, 184, 0, 90, 54, 5, 42, 5, 184, 0, 90, 54, 6]
abbrev dktL_law_4 : List UInt8 := dkwL_law_4 ++ dktL_law_5
def dkwL_law_3 : List UInt8 := [184, 0, 90, 42, 21, 4, 8, 96, 184, 0, 90, 184, 0, 94, 154, 0, 5, 3, 172, 132, 4, 6]
abbrev dktL_law_3 : List UInt8 := dkwL_law_3 ++ dktL_law_4
def dkwL_law_2 : List UInt8 := [184, 0, 90, 42, 21, 4, 5, 96, 184, 0, 90, 42, 21, 4, 6, 96, 184, 0, 90, 42, 21, 4, 7, 96]
abbrev dktL_law_2 : List UInt8 := dkwL_law_2 ++ dktL_law_3
def dkwL_law_1 : List UInt8 := [3, 54, 4, 21, 4, 16, 60, 162, 0, 65, 43, 45, 42, 21, 4, 184, 0, 90, 42, 21, 4, 4, 96]
abbrev dktL_law_1 : List UInt8 := dkwL_law_1 ++ dktL_law_2
def dkwL_law_0 : List UInt8 := [187, 0, 36, 89, 183, 0, 88, 76, 187, 0, 36, 89, 183, 0, 88, 77, 187, 0, 21, 89, 183, 0, 89, 78]
abbrev dktL_law_0 : List UInt8 := dkwL_law_0 ++ dktL_law_1
theorem dksL_law_0 : cL_law.data.toList.drop 0 = dktL_law_0 := by decide +kernel
theorem dksL_law_1 : cL_law.data.toList.drop 24 = dktL_law_1 := dk_seg dksL_law_0 24 rfl rfl
theorem dksL_law_2 : cL_law.data.toList.drop 47 = dktL_law_2 := dk_seg dksL_law_1 23 rfl rfl
theorem dksL_law_3 : cL_law.data.toList.drop 71 = dktL_law_3 := dk_seg dksL_law_2 24 rfl rfl
theorem dksL_law_4 : cL_law.data.toList.drop 93 = dktL_law_4 := dk_seg dksL_law_3 22 rfl rfl
theorem dksL_law_5 : cL_law.data.toList.drop 117 = dktL_law_5 := dk_seg dksL_law_4 24 rfl rfl
theorem dksL_law_6 : cL_law.data.toList.drop 140 = dktL_law_6 := dk_seg dksL_law_5 23 rfl rfl
theorem dksL_law_7 : cL_law.data.toList.drop 163 = dktL_law_7 := dk_seg dksL_law_6 23 rfl rfl
theorem dksL_law_8 : cL_law.data.toList.drop 187 = dktL_law_8 := dk_seg dksL_law_7 24 rfl rfl
theorem dksL_law_9 : cL_law.data.toList.drop 210 = dktL_law_9 := dk_seg dksL_law_8 23 rfl rfl
theorem dksL_law_10 : cL_law.data.toList.drop 233 = dktL_law_10 := dk_seg dksL_law_9 23 rfl rfl
theorem dksL_law_11 : cL_law.data.toList.drop 257 = dktL_law_11 := dk_seg dksL_law_10 24 rfl rfl
theorem dL_law_0 : decode cL_law 0 = .ok (.new 36, 3) := dk_187 0 36 (dk_at dksL_law_0 0 rfl rfl)
theorem dL_law_3 : decode cL_law 3 = .ok (.dup, 1) := dk_89 (dk_at dksL_law_0 3 rfl rfl)
theorem dL_law_4 : decode cL_law 4 = .ok (.invokespecial 88, 3) := dk_183 0 88 (dk_at dksL_law_0 4 rfl rfl)
theorem dL_law_7 : decode cL_law 7 = .ok (.astore_n 1, 1) := dk_76 (dk_at dksL_law_0 7 rfl rfl)
theorem dL_law_8 : decode cL_law 8 = .ok (.new 36, 3) := dk_187 0 36 (dk_at dksL_law_0 8 rfl rfl)
theorem dL_law_11 : decode cL_law 11 = .ok (.dup, 1) := dk_89 (dk_at dksL_law_0 11 rfl rfl)
theorem dL_law_12 : decode cL_law 12 = .ok (.invokespecial 88, 3) := dk_183 0 88 (dk_at dksL_law_0 12 rfl rfl)
theorem dL_law_15 : decode cL_law 15 = .ok (.astore_n 2, 1) := dk_77 (dk_at dksL_law_0 15 rfl rfl)
theorem dL_law_16 : decode cL_law 16 = .ok (.new 21, 3) := dk_187 0 21 (dk_at dksL_law_0 16 rfl rfl)
theorem dL_law_19 : decode cL_law 19 = .ok (.dup, 1) := dk_89 (dk_at dksL_law_0 19 rfl rfl)
theorem dL_law_20 : decode cL_law 20 = .ok (.invokespecial 89, 3) := dk_183 0 89 (dk_at dksL_law_0 20 rfl rfl)
theorem dL_law_23 : decode cL_law 23 = .ok (.astore_n 3, 1) := dk_78 (dk_at dksL_law_0 23 rfl rfl)
theorem dL_law_24 : decode cL_law 24 = .ok (.iconst 0, 1) := dk_3 (dk_at dksL_law_1 0 rfl rfl)
theorem dL_law_25 : decode cL_law 25 = .ok (.istore 4, 2) := dk_54 4 (dk_at dksL_law_1 1 rfl rfl)
theorem dL_law_27 : decode cL_law 27 = .ok (.iload 4, 2) := dk_21 4 (dk_at dksL_law_1 3 rfl rfl)
theorem dL_law_29 : decode cL_law 29 = .ok (.bipush 60, 2) := dk_16 60 (dk_at dksL_law_1 5 rfl rfl)
theorem dL_law_31 : decode cL_law 31 = .ok (.if_icmp .ge 65, 3) := dk_162 0 65 (dk_at dksL_law_1 7 rfl rfl)
theorem dL_law_34 : decode cL_law 34 = .ok (.aload_n 1, 1) := dk_43 (dk_at dksL_law_1 10 rfl rfl)
theorem dL_law_35 : decode cL_law 35 = .ok (.aload_n 3, 1) := dk_45 (dk_at dksL_law_1 11 rfl rfl)
theorem dL_law_36 : decode cL_law 36 = .ok (.aload_n 0, 1) := dk_42 (dk_at dksL_law_1 12 rfl rfl)
theorem dL_law_37 : decode cL_law 37 = .ok (.iload 4, 2) := dk_21 4 (dk_at dksL_law_1 13 rfl rfl)
theorem dL_law_39 : decode cL_law 39 = .ok (.invokestatic 90, 3) := dk_184 0 90 (dk_at dksL_law_1 15 rfl rfl)
theorem dL_law_42 : decode cL_law 42 = .ok (.aload_n 0, 1) := dk_42 (dk_at dksL_law_1 18 rfl rfl)
theorem dL_law_43 : decode cL_law 43 = .ok (.iload 4, 2) := dk_21 4 (dk_at dksL_law_1 19 rfl rfl)
theorem dL_law_45 : decode cL_law 45 = .ok (.iconst 1, 1) := dk_4 (dk_at dksL_law_1 21 rfl rfl)
theorem dL_law_46 : decode cL_law 46 = .ok (.iadd, 1) := dk_96 (dk_at dksL_law_1 22 rfl rfl)
theorem dL_law_47 : decode cL_law 47 = .ok (.invokestatic 90, 3) := dk_184 0 90 (dk_at dksL_law_2 0 rfl rfl)
theorem dL_law_50 : decode cL_law 50 = .ok (.aload_n 0, 1) := dk_42 (dk_at dksL_law_2 3 rfl rfl)
theorem dL_law_51 : decode cL_law 51 = .ok (.iload 4, 2) := dk_21 4 (dk_at dksL_law_2 4 rfl rfl)
theorem dL_law_53 : decode cL_law 53 = .ok (.iconst 2, 1) := dk_5 (dk_at dksL_law_2 6 rfl rfl)
theorem dL_law_54 : decode cL_law 54 = .ok (.iadd, 1) := dk_96 (dk_at dksL_law_2 7 rfl rfl)
theorem dL_law_55 : decode cL_law 55 = .ok (.invokestatic 90, 3) := dk_184 0 90 (dk_at dksL_law_2 8 rfl rfl)
theorem dL_law_58 : decode cL_law 58 = .ok (.aload_n 0, 1) := dk_42 (dk_at dksL_law_2 11 rfl rfl)
theorem dL_law_59 : decode cL_law 59 = .ok (.iload 4, 2) := dk_21 4 (dk_at dksL_law_2 12 rfl rfl)
theorem dL_law_61 : decode cL_law 61 = .ok (.iconst 3, 1) := dk_6 (dk_at dksL_law_2 14 rfl rfl)
theorem dL_law_62 : decode cL_law 62 = .ok (.iadd, 1) := dk_96 (dk_at dksL_law_2 15 rfl rfl)
theorem dL_law_63 : decode cL_law 63 = .ok (.invokestatic 90, 3) := dk_184 0 90 (dk_at dksL_law_2 16 rfl rfl)
theorem dL_law_66 : decode cL_law 66 = .ok (.aload_n 0, 1) := dk_42 (dk_at dksL_law_2 19 rfl rfl)
theorem dL_law_67 : decode cL_law 67 = .ok (.iload 4, 2) := dk_21 4 (dk_at dksL_law_2 20 rfl rfl)
theorem dL_law_69 : decode cL_law 69 = .ok (.iconst 4, 1) := dk_7 (dk_at dksL_law_2 22 rfl rfl)
theorem dL_law_70 : decode cL_law 70 = .ok (.iadd, 1) := dk_96 (dk_at dksL_law_2 23 rfl rfl)
theorem dL_law_71 : decode cL_law 71 = .ok (.invokestatic 90, 3) := dk_184 0 90 (dk_at dksL_law_3 0 rfl rfl)
theorem dL_law_74 : decode cL_law 74 = .ok (.aload_n 0, 1) := dk_42 (dk_at dksL_law_3 3 rfl rfl)
theorem dL_law_75 : decode cL_law 75 = .ok (.iload 4, 2) := dk_21 4 (dk_at dksL_law_3 4 rfl rfl)
theorem dL_law_77 : decode cL_law 77 = .ok (.iconst 5, 1) := dk_8 (dk_at dksL_law_3 6 rfl rfl)
theorem dL_law_78 : decode cL_law 78 = .ok (.iadd, 1) := dk_96 (dk_at dksL_law_3 7 rfl rfl)
theorem dL_law_79 : decode cL_law 79 = .ok (.invokestatic 90, 3) := dk_184 0 90 (dk_at dksL_law_3 8 rfl rfl)
theorem dL_law_82 : decode cL_law 82 = .ok (.invokestatic 94, 3) := dk_184 0 94 (dk_at dksL_law_3 11 rfl rfl)
theorem dL_law_85 : decode cL_law 85 = .ok (.ifCond .ne 5, 3) := dk_154 0 5 (dk_at dksL_law_3 14 rfl rfl)
theorem dL_law_88 : decode cL_law 88 = .ok (.iconst 0, 1) := dk_3 (dk_at dksL_law_3 17 rfl rfl)
theorem dL_law_89 : decode cL_law 89 = .ok (.ireturn, 1) := dk_172 (dk_at dksL_law_3 18 rfl rfl)
theorem dL_law_90 : decode cL_law 90 = .ok (.iinc 4 6, 3) := dk_132 4 6 (dk_at dksL_law_3 19 rfl rfl)
theorem dL_law_93 : decode cL_law 93 = .ok (.goto (-66), 3) := dk_167 255 190 (dk_at dksL_law_4 0 rfl rfl)
theorem dL_law_96 : decode cL_law 96 = .ok (.aload_n 0, 1) := dk_42 (dk_at dksL_law_4 3 rfl rfl)
theorem dL_law_97 : decode cL_law 97 = .ok (.iconst 0, 1) := dk_3 (dk_at dksL_law_4 4 rfl rfl)
theorem dL_law_98 : decode cL_law 98 = .ok (.invokestatic 90, 3) := dk_184 0 90 (dk_at dksL_law_4 5 rfl rfl)
theorem dL_law_101 : decode cL_law 101 = .ok (.istore 4, 2) := dk_54 4 (dk_at dksL_law_4 8 rfl rfl)
theorem dL_law_103 : decode cL_law 103 = .ok (.aload_n 0, 1) := dk_42 (dk_at dksL_law_4 10 rfl rfl)
theorem dL_law_104 : decode cL_law 104 = .ok (.iconst 1, 1) := dk_4 (dk_at dksL_law_4 11 rfl rfl)
theorem dL_law_105 : decode cL_law 105 = .ok (.invokestatic 90, 3) := dk_184 0 90 (dk_at dksL_law_4 12 rfl rfl)
theorem dL_law_108 : decode cL_law 108 = .ok (.istore 5, 2) := dk_54 5 (dk_at dksL_law_4 15 rfl rfl)
theorem dL_law_110 : decode cL_law 110 = .ok (.aload_n 0, 1) := dk_42 (dk_at dksL_law_4 17 rfl rfl)
theorem dL_law_111 : decode cL_law 111 = .ok (.iconst 2, 1) := dk_5 (dk_at dksL_law_4 18 rfl rfl)
theorem dL_law_112 : decode cL_law 112 = .ok (.invokestatic 90, 3) := dk_184 0 90 (dk_at dksL_law_4 19 rfl rfl)
theorem dL_law_115 : decode cL_law 115 = .ok (.istore 6, 2) := dk_54 6 (dk_at dksL_law_4 22 rfl rfl)
theorem dL_law_117 : decode cL_law 117 = .ok (.aload_n 0, 1) := dk_42 (dk_at dksL_law_5 0 rfl rfl)
theorem dL_law_118 : decode cL_law 118 = .ok (.iconst 3, 1) := dk_6 (dk_at dksL_law_5 1 rfl rfl)
theorem dL_law_119 : decode cL_law 119 = .ok (.invokestatic 90, 3) := dk_184 0 90 (dk_at dksL_law_5 2 rfl rfl)
theorem dL_law_122 : decode cL_law 122 = .ok (.istore 7, 2) := dk_54 7 (dk_at dksL_law_5 5 rfl rfl)
theorem dL_law_124 : decode cL_law 124 = .ok (.iload 4, 2) := dk_21 4 (dk_at dksL_law_5 7 rfl rfl)
theorem dL_law_126 : decode cL_law 126 = .ok (.i2l, 1) := dk_133 (dk_at dksL_law_5 9 rfl rfl)
theorem dL_law_127 : decode cL_law 127 = .ok (.bipush 32, 2) := dk_16 32 (dk_at dksL_law_5 10 rfl rfl)
theorem dL_law_129 : decode cL_law 129 = .ok (.lshl, 1) := dk_121 (dk_at dksL_law_5 12 rfl rfl)
theorem dL_law_130 : decode cL_law 130 = .ok (.iload 5, 2) := dk_21 5 (dk_at dksL_law_5 13 rfl rfl)
theorem dL_law_132 : decode cL_law 132 = .ok (.i2l, 1) := dk_133 (dk_at dksL_law_5 15 rfl rfl)
theorem dL_law_133 : decode cL_law 133 = .ok (.ldc2_w 10, 3) := dk_20 0 10 (dk_at dksL_law_5 16 rfl rfl)
theorem dL_law_136 : decode cL_law 136 = .ok (.land, 1) := dk_127 (dk_at dksL_law_5 19 rfl rfl)
theorem dL_law_137 : decode cL_law 137 = .ok (.lor, 1) := dk_129 (dk_at dksL_law_5 20 rfl rfl)
theorem dL_law_138 : decode cL_law 138 = .ok (.lstore 8, 2) := dk_55 8 (dk_at dksL_law_5 21 rfl rfl)
theorem dL_law_140 : decode cL_law 140 = .ok (.iload 6, 2) := dk_21 6 (dk_at dksL_law_6 0 rfl rfl)
theorem dL_law_142 : decode cL_law 142 = .ok (.i2l, 1) := dk_133 (dk_at dksL_law_6 2 rfl rfl)
theorem dL_law_143 : decode cL_law 143 = .ok (.bipush 32, 2) := dk_16 32 (dk_at dksL_law_6 3 rfl rfl)
theorem dL_law_145 : decode cL_law 145 = .ok (.lshl, 1) := dk_121 (dk_at dksL_law_6 5 rfl rfl)
theorem dL_law_146 : decode cL_law 146 = .ok (.iload 7, 2) := dk_21 7 (dk_at dksL_law_6 6 rfl rfl)
theorem dL_law_148 : decode cL_law 148 = .ok (.i2l, 1) := dk_133 (dk_at dksL_law_6 8 rfl rfl)
theorem dL_law_149 : decode cL_law 149 = .ok (.ldc2_w 10, 3) := dk_20 0 10 (dk_at dksL_law_6 9 rfl rfl)
theorem dL_law_152 : decode cL_law 152 = .ok (.land, 1) := dk_127 (dk_at dksL_law_6 12 rfl rfl)
theorem dL_law_153 : decode cL_law 153 = .ok (.lor, 1) := dk_129 (dk_at dksL_law_6 13 rfl rfl)
theorem dL_law_154 : decode cL_law 154 = .ok (.lstore 10, 2) := dk_55 10 (dk_at dksL_law_6 14 rfl rfl)
theorem dL_law_156 : decode cL_law 156 = .ok (.aload_n 2, 1) := dk_44 (dk_at dksL_law_6 16 rfl rfl)
theorem dL_law_157 : decode cL_law 157 = .ok (.iload 4, 2) := dk_21 4 (dk_at dksL_law_6 17 rfl rfl)
theorem dL_law_159 : decode cL_law 159 = .ok (.iload 5, 2) := dk_21 5 (dk_at dksL_law_6 19 rfl rfl)
theorem dL_law_161 : decode cL_law 161 = .ok (.iload 6, 2) := dk_21 6 (dk_at dksL_law_6 21 rfl rfl)
theorem dL_law_163 : decode cL_law 163 = .ok (.iload 7, 2) := dk_21 7 (dk_at dksL_law_7 0 rfl rfl)
theorem dL_law_165 : decode cL_law 165 = .ok (.invokevirtual 35, 3) := dk_182 0 35 (dk_at dksL_law_7 2 rfl rfl)
theorem dL_law_168 : decode cL_law 168 = .ok (.aload_n 2, 1) := dk_44 (dk_at dksL_law_7 5 rfl rfl)
theorem dL_law_169 : decode cL_law 169 = .ok (.iload 4, 2) := dk_21 4 (dk_at dksL_law_7 6 rfl rfl)
theorem dL_law_171 : decode cL_law 171 = .ok (.iload 5, 2) := dk_21 5 (dk_at dksL_law_7 8 rfl rfl)
theorem dL_law_173 : decode cL_law 173 = .ok (.invokevirtual 53, 3) := dk_182 0 53 (dk_at dksL_law_7 10 rfl rfl)
theorem dL_law_176 : decode cL_law 176 = .ok (.ifCond .ne 14, 3) := dk_154 0 14 (dk_at dksL_law_7 13 rfl rfl)
theorem dL_law_179 : decode cL_law 179 = .ok (.aload_n 2, 1) := dk_44 (dk_at dksL_law_7 16 rfl rfl)
theorem dL_law_180 : decode cL_law 180 = .ok (.lconst 0, 1) := dk_9 (dk_at dksL_law_7 17 rfl rfl)
theorem dL_law_181 : decode cL_law 181 = .ok (.lconst 0, 1) := dk_9 (dk_at dksL_law_7 18 rfl rfl)
theorem dL_law_182 : decode cL_law 182 = .ok (.iload 4, 2) := dk_21 4 (dk_at dksL_law_7 19 rfl rfl)
theorem dL_law_184 : decode cL_law 184 = .ok (.invokestatic 84, 3) := dk_184 0 84 (dk_at dksL_law_7 21 rfl rfl)
theorem dL_law_187 : decode cL_law 187 = .ok (.ifCond .ne 5, 3) := dk_154 0 5 (dk_at dksL_law_8 0 rfl rfl)
theorem dL_law_190 : decode cL_law 190 = .ok (.iconst 0, 1) := dk_3 (dk_at dksL_law_8 3 rfl rfl)
theorem dL_law_191 : decode cL_law 191 = .ok (.ireturn, 1) := dk_172 (dk_at dksL_law_8 4 rfl rfl)
theorem dL_law_192 : decode cL_law 192 = .ok (.aload_n 2, 1) := dk_44 (dk_at dksL_law_8 5 rfl rfl)
theorem dL_law_193 : decode cL_law 193 = .ok (.invokevirtual 46, 3) := dk_182 0 46 (dk_at dksL_law_8 6 rfl rfl)
theorem dL_law_196 : decode cL_law 196 = .ok (.aload_n 2, 1) := dk_44 (dk_at dksL_law_8 9 rfl rfl)
theorem dL_law_197 : decode cL_law 197 = .ok (.ldc 98, 2) := dk_18 98 (dk_at dksL_law_8 10 rfl rfl)
theorem dL_law_199 : decode cL_law 199 = .ok (.iconst 0, 1) := dk_3 (dk_at dksL_law_8 12 rfl rfl)
theorem dL_law_200 : decode cL_law 200 = .ok (.invokevirtual 53, 3) := dk_182 0 53 (dk_at dksL_law_8 13 rfl rfl)
theorem dL_law_203 : decode cL_law 203 = .ok (.ifCond .eq 71, 3) := dk_153 0 71 (dk_at dksL_law_8 16 rfl rfl)
theorem dL_law_206 : decode cL_law 206 = .ok (.aload_n 2, 1) := dk_44 (dk_at dksL_law_8 19 rfl rfl)
theorem dL_law_207 : decode cL_law 207 = .ok (.ldc 98, 2) := dk_18 98 (dk_at dksL_law_8 20 rfl rfl)
theorem dL_law_209 : decode cL_law 209 = .ok (.iconst 0, 1) := dk_3 (dk_at dksL_law_8 22 rfl rfl)
theorem dL_law_210 : decode cL_law 210 = .ok (.invokestatic 99, 3) := dk_184 0 99 (dk_at dksL_law_9 0 rfl rfl)
theorem dL_law_213 : decode cL_law 213 = .ok (.ifCond .eq 61, 3) := dk_153 0 61 (dk_at dksL_law_9 3 rfl rfl)
theorem dL_law_216 : decode cL_law 216 = .ok (.aload_n 2, 1) := dk_44 (dk_at dksL_law_9 6 rfl rfl)
theorem dL_law_217 : decode cL_law 217 = .ok (.iconst 0, 1) := dk_3 (dk_at dksL_law_9 7 rfl rfl)
theorem dL_law_218 : decode cL_law 218 = .ok (.bipush 16, 2) := dk_16 16 (dk_at dksL_law_9 8 rfl rfl)
theorem dL_law_220 : decode cL_law 220 = .ok (.invokestatic 99, 3) := dk_184 0 99 (dk_at dksL_law_9 10 rfl rfl)
theorem dL_law_223 : decode cL_law 223 = .ok (.ifCond .eq 51, 3) := dk_153 0 51 (dk_at dksL_law_9 13 rfl rfl)
theorem dL_law_226 : decode cL_law 226 = .ok (.aload_n 2, 1) := dk_44 (dk_at dksL_law_9 16 rfl rfl)
theorem dL_law_227 : decode cL_law 227 = .ok (.lload 8, 2) := dk_22 8 (dk_at dksL_law_9 17 rfl rfl)
theorem dL_law_229 : decode cL_law 229 = .ok (.lload 10, 2) := dk_22 10 (dk_at dksL_law_9 19 rfl rfl)
theorem dL_law_231 : decode cL_law 231 = .ok (.iload 5, 2) := dk_21 5 (dk_at dksL_law_9 21 rfl rfl)
theorem dL_law_233 : decode cL_law 233 = .ok (.invokestatic 84, 3) := dk_184 0 84 (dk_at dksL_law_10 0 rfl rfl)
theorem dL_law_236 : decode cL_law 236 = .ok (.ifCond .eq 38, 3) := dk_153 0 38 (dk_at dksL_law_10 3 rfl rfl)
theorem dL_law_239 : decode cL_law 239 = .ok (.aload_n 2, 1) := dk_44 (dk_at dksL_law_10 6 rfl rfl)
theorem dL_law_240 : decode cL_law 240 = .ok (.iconst (-1), 1) := dk_2 (dk_at dksL_law_10 7 rfl rfl)
theorem dL_law_241 : decode cL_law 241 = .ok (.iconst (-1), 1) := dk_2 (dk_at dksL_law_10 8 rfl rfl)
theorem dL_law_242 : decode cL_law 242 = .ok (.invokestatic 99, 3) := dk_184 0 99 (dk_at dksL_law_10 9 rfl rfl)
theorem dL_law_245 : decode cL_law 245 = .ok (.ifCond .eq 29, 3) := dk_153 0 29 (dk_at dksL_law_10 12 rfl rfl)
theorem dL_law_248 : decode cL_law 248 = .ok (.aload_n 2, 1) := dk_44 (dk_at dksL_law_10 15 rfl rfl)
theorem dL_law_249 : decode cL_law 249 = .ok (.iconst 0, 1) := dk_3 (dk_at dksL_law_10 16 rfl rfl)
theorem dL_law_250 : decode cL_law 250 = .ok (.iconst 0, 1) := dk_3 (dk_at dksL_law_10 17 rfl rfl)
theorem dL_law_251 : decode cL_law 251 = .ok (.invokestatic 99, 3) := dk_184 0 99 (dk_at dksL_law_10 18 rfl rfl)
theorem dL_law_254 : decode cL_law 254 = .ok (.ifCond .eq 20, 3) := dk_153 0 20 (dk_at dksL_law_10 21 rfl rfl)
theorem dL_law_257 : decode cL_law 257 = .ok (.aload_n 2, 1) := dk_44 (dk_at dksL_law_11 0 rfl rfl)
theorem dL_law_258 : decode cL_law 258 = .ok (.ldc2_w 12, 3) := dk_20 0 12 (dk_at dksL_law_11 1 rfl rfl)
theorem dL_law_261 : decode cL_law 261 = .ok (.lconst 0, 1) := dk_9 (dk_at dksL_law_11 4 rfl rfl)
theorem dL_law_262 : decode cL_law 262 = .ok (.iload 6, 2) := dk_21 6 (dk_at dksL_law_11 5 rfl rfl)
theorem dL_law_264 : decode cL_law 264 = .ok (.invokestatic 84, 3) := dk_184 0 84 (dk_at dksL_law_11 7 rfl rfl)
theorem dL_law_267 : decode cL_law 267 = .ok (.ifCond .eq 7, 3) := dk_153 0 7 (dk_at dksL_law_11 10 rfl rfl)
theorem dL_law_270 : decode cL_law 270 = .ok (.iconst 1, 1) := dk_4 (dk_at dksL_law_11 13 rfl rfl)
theorem dL_law_271 : decode cL_law 271 = .ok (.goto 4, 3) := dk_167 0 4 (dk_at dksL_law_11 14 rfl rfl)
theorem dL_law_274 : decode cL_law 274 = .ok (.iconst 0, 1) := dk_3 (dk_at dksL_law_11 17 rfl rfl)
theorem dL_law_275 : decode cL_law 275 = .ok (.ireturn, 1) := dk_172 (dk_at dksL_law_11 18 rfl rfl)
end
section
/-! THE WORLD OF THIS CLAIM: its three classes, its two array classes; a contract's start and end in one form; a call in one row -/
abbrev vwCl : List vw_C := [(RX1, TX1, 3), (RX2, TX2, 7), (RX3, TX3, 1)]
abbrev z_G : Type := va_G × ClassId × ClassId
abbrev zKT (G : z_G) : List (ClassId × FieldType) := [(G.2.1, .byte), (G.2.2, .long)]
abbrev zK (G : z_G) (U : State) : Prop := va_K G.1 vwCl (zKT G) U
abbrev zPre (G : z_G) (as : List Value) (sz : Nat) (ws : va_W) : Array Value → State → Prop := va_Pc as (fun U => U.heap.size = sz ∧ va_P G.1 vwCl ws U.heap ∧ zK G U ∧ va_D (fun _ => True) ws)
abbrev zEnd (G : z_G) (A : Nat → Prop) (ws : va_W) (t : State) : Prop := va_P G.1 vwCl ws t.heap ∧ zK G t ∧ va_D A ws
abbrev zQl {S : Type} (G : z_G) (post : Int64 → S → Prop) (w : S → va_W) (A : Nat → Prop) : Array Value → State → Outcome → State → Prop := va_Ql post (fun u t => zEnd G A (w u) t) A
abbrev zQi {S : Type} (G : z_G) (post : Int32 → S → Prop) (w : S → va_W) (A : Nat → Prop) : Array Value → State → Outcome → State → Prop := va_Qi post (fun u t => zEnd G A (w u) t) A
abbrev zQv {S : Type} (G : z_G) (post : S → Prop) (w : S → va_W) (A : Nat → Prop) : Array Value → State → Outcome → State → Prop := va_Qv post (fun u t => zEnd G A (w u) t) A
abbrev zQr {S : Type} (G : z_G) (post : S → Prop) (w : S → Nat → va_W) (A : Nat → Prop) : Array Value → State → Outcome → State → Prop := va_Qr post (fun u a t => zEnd G A (w u a) t) A
/-- a method's entry -/
theorem z_met {l : Launch} {y : MethodName} {cc : ByteArray} {maxL : Nat} {ret : Option FieldType} {rm : Room} {G : z_G} {as : List Value} {ws : va_W} {mc ms sz : Nat} (QK : (Nat → Prop) → Array Value → State → Outcome → State → Prop)
    (hy : plainName y.cls = true) (hlen : (lg_sl as).length ≤ maxL)
    (body : ∀ (p : Program) (e : Env) (s : State) (m : MethodId) (below : List Frame) (meth : Method) (c : Code) (A : Nat → Prop) (H : Heap) (ls : Array Slot),
      p.tables.exec = Jvm.exec → c.code = cc → meth.sig.returnType = ret → meth.locks = false → c.maxLocals = maxL → s.vm.findClass y.cls = some m.cls → meth.name = y.name → (∀ w ∈ lw_all, w.before as.toArray s = true) →
      zK G s → va_P G.1 vwCl ws H → va_D A ws → (∀ q : Nat, s.heap.size ≤ q → A q) → va_S A s.heap H [] → lv_has ls maxL (lv_args 0 as) →
      W p l e rm s m as.toArray below meth c H [] 0 0 (MQ below (QK A) as.toArray s mc ms A) (F0 m 0 ls [])) :
    Met l y (ws_ y cc maxL ret) rm (zPre G as sz ws) (QK (va_A ws sz)) mc ms (va_A ws sz) := by
  refine Met.ofW (cc := cc) (maxL := maxL) (ret := ret) hy rfl ?_
  intro p e s m args below meth c s₁ B hml hv
  obtain ⟨rfl, hsz, hP, hK, hD0⟩ := hv
  subst hsz
  have hts := atoms_spec (ws := ws_ y cc maxL ret) B.pre
  have hl := lv_entry as (n := maxL) hlen
  rw [lg_entry_eq]
  exact body p e s m below meth c _ _ _ B.exec B.bytes B.returns B.notSynchronized hml (findClass_of_methodNamed B.named) (name_of_methodNamed B.named B.method).1 (fun w h => hts w (List.mem_cons_of_mem _ h)) hK hP (hD0.self (sz := s.heap.size)) (fun q h => Or.inr h) va_S.rf hl
section ZR
variable {p : Program} {l : Launch} {e : Env} {R : Room} {s : State} {m : MethodId} {args : Array Value} {below : List Frame} {meth : Method} {c : Code} {H : Heap} {locs : List Loc} {cells slots : Nat}
variable {cc : ByteArray} {pc : Nat} {ls : Array Slot} {G : z_G} {A : Nat → Prop} {ws : va_W} {mc ms : Nat}
theorem z_lret {S : Type} {post : Int64 → S → Prop} {w : S → va_W} (u : S) {v : Int64} (hx : p.tables.exec = Jvm.exec) (hb : c.code = cc) (hr : meth.sig.returnType = some .long) (hlocks : meth.locks = false) (hK : zK G s) (hP : va_P G.1 vwCl ws H) (hD : va_D A ws) (hS : va_S A s.heap H locs) (hw : w u = ws) (hpost : post v u) (hc : cells ≤ mc) (hs : slots ≤ ms) (hdg : decode cc pc = .ok (.lreturn, 1)) :
    W p l e R s m args below meth c H locs cells slots (MQ below (zQl G post w A) args s mc ms A) (F0 m pc ls [.long v]) := by
  subst hw
  refine W.widen (k := mc) (n := ms) hc hs ?_
  exact W.lret hx hb hr (fun t ht hW => ⟨⟨v, u, rfl, hpost, by rw [ht]; exact hP, va_K.moved hW.alike hK, hD⟩, hS.F ht⟩) hS.2.2 hdg
theorem z_iret {S : Type} {post : Int32 → S → Prop} {w : S → va_W} (u : S) {v : Int32} (hx : p.tables.exec = Jvm.exec) (hb : c.code = cc) (hr : meth.sig.returnType = some .int) (hlocks : meth.locks = false) (hK : zK G s) (hP : va_P G.1 vwCl ws H) (hD : va_D A ws) (hS : va_S A s.heap H locs) (hw : w u = ws) (hpost : post v u) (hc : cells ≤ mc) (hs : slots ≤ ms) (hdg : decode cc pc = .ok (.ireturn, 1)) :
    W p l e R s m args below meth c H locs cells slots (MQ below (zQi G post w A) args s mc ms A) (F0 m pc ls [.int v]) := by
  subst hw
  refine W.widen (k := mc) (n := ms) hc hs ?_
  exact W.iret hx hb hr (fun t ht hW => ⟨⟨v, u, rfl, hpost, by rw [ht]; exact hP, va_K.moved hW.alike hK, hD⟩, hS.F ht⟩) hS.2.2 hdg
theorem z_zret {S : Type} {post : Int32 → S → Prop} {w : S → va_W} (u : S) {v : Int32} (hx : p.tables.exec = Jvm.exec) (hb : c.code = cc) (hr : meth.sig.returnType = some .boolean) (hlocks : meth.locks = false) (hn : narrow .boolean (.int v) = .int v) (hK : zK G s) (hP : va_P G.1 vwCl ws H) (hD : va_D A ws) (hS : va_S A s.heap H locs) (hw : w u = ws) (hpost : post v u) (hc : cells ≤ mc) (hs : slots ≤ ms) (hdg : decode cc pc = .ok (.ireturn, 1)) :
    W p l e R s m args below meth c H locs cells slots (MQ below (zQi G post w A) args s mc ms A) (F0 m pc ls [.int v]) := by
  subst hw
  refine W.widen (k := mc) (n := ms) hc hs ?_
  exact W.zret hx hb hr hn (fun t ht hW => ⟨⟨v, u, rfl, hpost, by rw [ht]; exact hP, va_K.moved hW.alike hK, hD⟩, hS.F ht⟩) hS.2.2 hdg
theorem z_vret {S : Type} {post : S → Prop} {w : S → va_W} (u : S) (hx : p.tables.exec = Jvm.exec) (hb : c.code = cc) (hr : meth.sig.returnType = none) (hlocks : meth.locks = false) (hK : zK G s) (hP : va_P G.1 vwCl ws H) (hD : va_D A ws) (hS : va_S A s.heap H locs) (hw : w u = ws) (hpost : post u) (hc : cells ≤ mc) (hs : slots ≤ ms) (hdg : decode cc pc = .ok (.return_, 1)) :
    W p l e R s m args below meth c H locs cells slots (MQ below (zQv G post w A) args s mc ms A) (F0 m pc ls []) := by
  subst hw
  refine W.widen (k := mc) (n := ms) hc hs ?_
  exact W.vret hx hb hr (fun t ht hW => ⟨⟨u, rfl, hpost, by rw [ht]; exact hP, va_K.moved hW.alike hK, hD⟩, hS.F ht⟩) hS.2.2 hdg
theorem z_aret {S : Type} {post : S → Prop} {w : S → Nat → va_W} (u : S) {a : Nat} {rt : FieldType} (hx : p.tables.exec = Jvm.exec) (hb : c.code = cc) (hr : meth.sig.returnType = some (.array rt)) (hlocks : meth.locks = false) (hK : zK G s) (hP : va_P G.1 vwCl ws H) (hD : va_D A ws) (hS : va_S A s.heap H locs) (hw : w u a = ws) (hpost : post u) (hc : cells ≤ mc) (hs : slots ≤ ms) (hdg : decode cc pc = .ok (.areturn, 1)) :
    W p l e R s m args below meth c H locs cells slots (MQ below (zQr G post w A) args s mc ms A) (F0 m pc ls [.ref a]) := by
  subst hw
  refine W.widen (k := mc) (n := ms) hc hs ?_
  exact W.aret hx hb hr (Or.inr ⟨rt, rfl⟩) (Or.inr ⟨a, rfl⟩) (fun t ht hW => ⟨⟨u, a, rfl, hpost, by rw [ht]; exact hP, va_K.moved hW.alike hK, hD⟩, hS.F ht⟩) hS.2.2 hdg
end ZR
/-- how a world falls into the callee's cells and the rest -/
def z_Sp (ws wc wr : va_W) : Prop :=
  (∀ (D : va_G) (H : Heap), va_P D vwCl ws H → va_P D vwCl wc H) ∧ (∀ A : Nat → Prop, va_D A ws → va_D A wc) ∧
  (∀ (A0 : Nat → Prop) (H0 H : Heap) (locs : List Loc), va_D A0 ws → va_S A0 H0 H locs → (∀ q, H0.size ≤ q → A0 q) → ∀ q, va_A wc H.size q → A0 q) ∧
  (∀ (D : va_G) (A0 : Nat → Prop) (H H1 : Heap) (w1 : va_W), va_P D vwCl ws H → va_D A0 ws → (∀ q : Nat, q < H.size → ¬ va_A wc H.size q → H1[q]? = H[q]?) → (∀ q, va_A wc H.size q → A0 q) → va_P D vwCl w1 H1 → va_D (va_A wc H.size) w1 → va_P D vwCl (wr ++ w1) H1 ∧ va_D A0 (wr ++ w1))
theorem z_ix {ws wc wr : va_W} (isC isR : List Nat) (h1 : isC.filterMap (fun i => ws[i]?) = wc) (hC : isC.map (fun i => ws[i]?) = wc.map some) (hR : isR.map (fun i => ws[i]?) = wr.map some) (hnC : va_nd isC = true) (hn : va_nd isR = true) (hdis : ∀ i ∈ isR, i ∉ isC) : z_Sp ws wc wr :=
  ⟨fun _ _ hP => hP.sub isC h1, fun _ hD => hD.sub isC hnC hC, fun _ _ _ _ hD hS hA => va_free hD hS hA isC hC, fun _ _ _ _ _ hP hD hk hF hP1 hD1 => va_join hP hD isC isR hC hR hn hdis hk hF hP1 hD1⟩
theorem z_whole (ws : va_W) : z_Sp ws ws [] :=
  ⟨fun _ _ hP => hP, fun _ hD => hD, fun A0 H0 H locs hD hS hA q h => by
    rcases h with ⟨k, e, h⟩ | h
    · exact hD.2 k (q, e) h
    · exact hA q (Nat.le_trans hS.1 h), fun _ _ _ _ _ _ _ _ hF hP1 hD1 => ⟨hP1, hD1.weaken (fun _ q _ h => hF q.1 h)⟩⟩
theorem z_none (ws : va_W) : z_Sp ws [] ws :=
  ⟨fun _ _ _ k q h => by simp at h, fun _ _ => ⟨fun i j p q h => by simp at h, fun k q h => by simp at h⟩, fun A0 H0 H locs hD hS hA q h => by
    rcases h with ⟨k, e, h⟩ | h
    · simp at h
    · exact hA q (Nat.le_trans hS.1 h), fun D A0 H H1 w1 hP hD hk hF hP1 hD1 => by
    have hk2 : ∀ (k : Nat) (q : Nat × va_E), ws[k]? = some q → H1[q.1]? = H[q.1]? := fun k q hq => hk q.1 (hP k q hq).lt (fun z => by
      rcases z with ⟨i, e, z⟩ | z
      · simp at z
      · exact absurd (hP k q hq).lt (Nat.not_lt.mpr z))
    refine ⟨(hP.kept hk2).app hP1, hD.app (hD1.weaken (fun _ q _ h => hF q.1 h)) (fun i j p q hp hq h => ?_)⟩
    have g1 := (hP i p hp).lt
    rcases hD1.2 j q hq with ⟨i2, e, z⟩ | z
    · simp at z
    · rw [← h] at z
      exact absurd g1 (Nat.not_lt.mpr z)⟩
theorem z_blind {G : z_G} {As : List Value} {sz : Nat} {wc : va_W} : FrameBlind (zPre G As sz wc) := fun a U g mk q => by
  obtain ⟨q0, q1, qP, qK, qD⟩ := q
  exact ⟨q0, q1, qP, va_K.moved (u := U) (U := U.calling g mk a) (Vm.Alike.refl U.vm) qK, qD⟩
theorem z_preS {G : z_G} {As : List Value} {wc ws : va_W} {s : State} {H : Heap} {A : Nat → Prop} (hK : zK G s) (hP : va_P G.1 vwCl wc H) (hD : va_D A wc) : PreS s H (zPre G As H.size wc) As :=
  ⟨z_blind, fun U hU hW => ⟨rfl, by rw [hU], by rw [hU]; exact hP, va_K.moved hW.alike hK, hD.weaken (fun _ _ _ _ => trivial)⟩⟩
section ZC
variable {p : Program} {l : Launch} {e : Env} {R : Room} {s : State} {m : MethodId} {args : Array Value} {below : List Frame} {meth : Method} {c : Code} {H H0 : Heap} {locs : List Loc} {cells slots : Nat} {Q : State → Prop}
variable {cc bytes : ByteArray} {pc : Nat} {ls : Array Slot} {G : z_G} {A : Nat → Prop} {ws wc wr : va_W} {mc ms n nL maxL index : Nat} {own : String} {y : MethodName} {ret : Option FieldType} {rm : Room} {As rest st0 : List Value} {b : Nat} {C : String}
theorem z_Sl {S : Type} {post : Int64 → S → Prop} {w : S → va_W} (F : CallFix p m c cc nL s args lw_all own) (hM : Met l y (ws_ y bytes maxL ret) rm (zPre G As H.size wc) (zQl G post w (va_A wc H.size)) mc ms (va_A wc H.size)) (cw : CallB R s args own index y bytes maxL ret (ws_ y bytes maxL ret) rm mc ms n ∧ (Cond.static y).before args s = true)
    (hK : zK G s) (hP : va_P G.1 vwCl ws H) (hD : va_D A ws) (hS : va_S A H0 H locs) (hA : ∀ q, H0.size ≤ q → A q) (sp : z_Sp ws wc wr) (hn : As.length = n) (hsize : ls.size = nL) (hst : st0 = As.reverse ++ rest) (hW : (rest.map fun v => v.category).sum ≤ 8) (hdg : decode cc pc = .ok (.invokestatic index, 3)) (hf : cells + mc ≤ R.cells ∧ slots + ms ≤ R.slots)
    (kk : ∀ (r : Int64) (u : S) (H1 : Heap) (locs1 : List Loc), post r u → va_P G.1 vwCl (wr ++ w u) H1 → va_D A (wr ++ w u) → va_S A H0 H1 locs1 → W p l e R s m args below meth c H1 locs1 (cells + mc) (slots + ms) Q (F0 m (pc + 3) ls (.long r :: rest))) :
    W p l e R s m args below meth c H locs cells slots Q (F0 m pc ls st0) := by
  have hFc := sp.2.2.1 A H0 H locs hD hS hA
  refine va_calll (va_runS F hM cw (z_preS (ws := ws) hK (sp.1 _ _ hP) (sp.2.1 _ hD)) rfl hn hsize hst (lv_room hW) hdg hf) hS (fun q _ h => hFc q h) hFc (fun r u t H1 locs1 ht hvm hw hB hz1 hk1 hS1 => ?_)
  obtain ⟨hP1, hK1, hD1⟩ := hB
  rw [ht] at hP1
  obtain ⟨hP2, hD2⟩ := sp.2.2.2 _ _ _ _ _ hP hD hk1 hFc hP1 hD1
  exact kk r u H1 locs1 hw hP2 hD2 hS1
theorem z_Si {S : Type} {post : Int32 → S → Prop} {w : S → va_W} (F : CallFix p m c cc nL s args lw_all own) (hM : Met l y (ws_ y bytes maxL ret) rm (zPre G As H.size wc) (zQi G post w (va_A wc H.size)) mc ms (va_A wc H.size)) (cw : CallB R s args own index y bytes maxL ret (ws_ y bytes maxL ret) rm mc ms n ∧ (Cond.static y).before args s = true)
    (hK : zK G s) (hP : va_P G.1 vwCl ws H) (hD : va_D A ws) (hS : va_S A H0 H locs) (hA : ∀ q, H0.size ≤ q → A q) (sp : z_Sp ws wc wr) (hn : As.length = n) (hsize : ls.size = nL) (hst : st0 = As.reverse ++ rest) (hW : (rest.map fun v => v.category).sum ≤ 8) (hdg : decode cc pc = .ok (.invokestatic index, 3)) (hf : cells + mc ≤ R.cells ∧ slots + ms ≤ R.slots)
    (kk : ∀ (r : Int32) (u : S) (H1 : Heap) (locs1 : List Loc), post r u → va_P G.1 vwCl (wr ++ w u) H1 → va_D A (wr ++ w u) → va_S A H0 H1 locs1 → W p l e R s m args below meth c H1 locs1 (cells + mc) (slots + ms) Q (F0 m (pc + 3) ls (.int r :: rest))) :
    W p l e R s m args below meth c H locs cells slots Q (F0 m pc ls st0) := by
  have hFc := sp.2.2.1 A H0 H locs hD hS hA
  refine va_calli (va_runS F hM cw (z_preS (ws := ws) hK (sp.1 _ _ hP) (sp.2.1 _ hD)) rfl hn hsize hst (lv_room hW) hdg hf) hS (fun q _ h => hFc q h) hFc (fun r u t H1 locs1 ht hvm hw hB hz1 hk1 hS1 => ?_)
  obtain ⟨hP1, hK1, hD1⟩ := hB
  rw [ht] at hP1
  obtain ⟨hP2, hD2⟩ := sp.2.2.2 _ _ _ _ _ hP hD hk1 hFc hP1 hD1
  exact kk r u H1 locs1 hw hP2 hD2 hS1
theorem z_Sv {S : Type} {post : S → Prop} {w : S → va_W} (F : CallFix p m c cc nL s args lw_all own) (hM : Met l y (ws_ y bytes maxL ret) rm (zPre G As H.size wc) (zQv G post w (va_A wc H.size)) mc ms (va_A wc H.size)) (cw : CallB R s args own index y bytes maxL ret (ws_ y bytes maxL ret) rm mc ms n ∧ (Cond.static y).before args s = true)
    (hK : zK G s) (hP : va_P G.1 vwCl ws H) (hD : va_D A ws) (hS : va_S A H0 H locs) (hA : ∀ q, H0.size ≤ q → A q) (sp : z_Sp ws wc wr) (hn : As.length = n) (hsize : ls.size = nL) (hst : st0 = As.reverse ++ rest) (hW : (rest.map fun v => v.category).sum ≤ 8) (hdg : decode cc pc = .ok (.invokestatic index, 3)) (hf : cells + mc ≤ R.cells ∧ slots + ms ≤ R.slots)
    (kk : ∀ (u : S) (H1 : Heap) (locs1 : List Loc), post u → va_P G.1 vwCl (wr ++ w u) H1 → va_D A (wr ++ w u) → va_S A H0 H1 locs1 → W p l e R s m args below meth c H1 locs1 (cells + mc) (slots + ms) Q (F0 m (pc + 3) ls rest)) :
    W p l e R s m args below meth c H locs cells slots Q (F0 m pc ls st0) := by
  have hFc := sp.2.2.1 A H0 H locs hD hS hA
  refine va_callv (va_runS F hM cw (z_preS (ws := ws) hK (sp.1 _ _ hP) (sp.2.1 _ hD)) rfl hn hsize hst (lv_room hW) hdg hf) hS (fun q _ h => hFc q h) hFc (fun u t H1 locs1 ht hvm hw hB hz1 hk1 hS1 => ?_)
  obtain ⟨hP1, hK1, hD1⟩ := hB
  rw [ht] at hP1
  obtain ⟨hP2, hD2⟩ := sp.2.2.2 _ _ _ _ _ hP hD hk1 hFc hP1 hD1
  exact kk u H1 locs1 hw hP2 hD2 hS1
theorem z_Sr {S : Type} {post : S → Prop} {w : S → Nat → va_W} (F : CallFix p m c cc nL s args lw_all own) (hM : Met l y (ws_ y bytes maxL ret) rm (zPre G As H.size wc) (zQr G post w (va_A wc H.size)) mc ms (va_A wc H.size)) (cw : CallB R s args own index y bytes maxL ret (ws_ y bytes maxL ret) rm mc ms n ∧ (Cond.static y).before args s = true)
    (hK : zK G s) (hP : va_P G.1 vwCl ws H) (hD : va_D A ws) (hS : va_S A H0 H locs) (hA : ∀ q, H0.size ≤ q → A q) (sp : z_Sp ws wc wr) (hn : As.length = n) (hsize : ls.size = nL) (hst : st0 = As.reverse ++ rest) (hW : (rest.map fun v => v.category).sum ≤ 8) (hdg : decode cc pc = .ok (.invokestatic index, 3)) (hf : cells + mc ≤ R.cells ∧ slots + ms ≤ R.slots)
    (kk : ∀ (u : S) (a : Nat) (H1 : Heap) (locs1 : List Loc), post u → va_P G.1 vwCl (wr ++ w u a) H1 → va_D A (wr ++ w u a) → va_S A H0 H1 locs1 → W p l e R s m args below meth c H1 locs1 (cells + mc) (slots + ms) Q (F0 m (pc + 3) ls (.ref a :: rest))) :
    W p l e R s m args below meth c H locs cells slots Q (F0 m pc ls st0) := by
  have hFc := sp.2.2.1 A H0 H locs hD hS hA
  refine va_callr (va_runS F hM cw (z_preS (ws := ws) hK (sp.1 _ _ hP) (sp.2.1 _ hD)) rfl hn hsize hst (lv_room hW) hdg hf) hS (fun q _ h => hFc q h) hFc (fun u a t H1 locs1 ht hvm hw hB hz1 hk1 hS1 => ?_)
  obtain ⟨hP1, hK1, hD1⟩ := hB
  rw [ht] at hP1
  obtain ⟨hP2, hD2⟩ := sp.2.2.2 _ _ _ _ _ hP hD hk1 hFc hP1 hD1
  exact kk u a H1 locs1 hw hP2 hD2 hS1
theorem z_Vi {S : Type} {post : Int32 → S → Prop} {w : S → va_W} (F : CallFix p m c cc nL s args lw_all own) (hM : Met l y (ws_ y bytes maxL ret) rm (zPre G (.ref b :: As) H.size wc) (zQi G post w (va_A wc H.size)) mc ms (va_A wc H.size)) (cw : CallW R s args own C index y bytes maxL ret (ws_ y bytes maxL ret) rm mc ms n)
    (hK : zK G s) (hP : va_P G.1 vwCl ws H) (hD : va_D A ws) (hS : va_S A H0 H locs) (hA : ∀ q, H0.size ≤ q → A q) (sp : z_Sp ws wc wr) (ci q0 : Nat) {T : u_T} {N : Nat} {fs : List Value} (hci : vwCl[ci]? = some (C, T, N)) (hq0 : wc[q0]? = some (b, .inr (ci, fs))) (hn : As.length = n) (hsize : ls.size = nL) (hst : st0 = As.reverse ++ .ref b :: rest) (hW : (rest.map fun v => v.category).sum ≤ 8) (hdg : decode cc pc = .ok (.invokevirtual index, 3)) (hf : cells + mc ≤ R.cells ∧ slots + ms ≤ R.slots)
    (kk : ∀ (r : Int32) (u : S) (H1 : Heap) (locs1 : List Loc), post r u → va_P G.1 vwCl (wr ++ w u) H1 → va_D A (wr ++ w u) → va_S A H0 H1 locs1 → W p l e R s m args below meth c H1 locs1 (cells + mc) (slots + ms) Q (F0 m (pc + 3) ls (.int r :: rest))) :
    W p l e R s m args below meth c H locs cells slots Q (F0 m pc ls st0) := by
  have hFc := sp.2.2.1 A H0 H locs hD hS hA
  have hPS := z_preS (ws := ws) (As := .ref b :: As) hK (sp.1 _ _ hP) (sp.2.1 _ hD)
  refine va_calli (va_runV F hM cw ⟨hPS.1, va_recv hK (sp.1 _ _ hP) hci hq0, hPS.2⟩ rfl hn hsize hst (lv_room hW) hdg hf) hS (fun q _ h => hFc q h) hFc (fun r u t H1 locs1 ht hvm hw hB hz1 hk1 hS1 => ?_)
  obtain ⟨hP1, hK1, hD1⟩ := hB
  rw [ht] at hP1
  obtain ⟨hP2, hD2⟩ := sp.2.2.2 _ _ _ _ _ hP hD hk1 hFc hP1 hD1
  exact kk r u H1 locs1 hw hP2 hD2 hS1
theorem z_Vv {S : Type} {post : S → Prop} {w : S → va_W} (F : CallFix p m c cc nL s args lw_all own) (hM : Met l y (ws_ y bytes maxL ret) rm (zPre G (.ref b :: As) H.size wc) (zQv G post w (va_A wc H.size)) mc ms (va_A wc H.size)) (cw : CallW R s args own C index y bytes maxL ret (ws_ y bytes maxL ret) rm mc ms n)
    (hK : zK G s) (hP : va_P G.1 vwCl ws H) (hD : va_D A ws) (hS : va_S A H0 H locs) (hA : ∀ q, H0.size ≤ q → A q) (sp : z_Sp ws wc wr) (ci q0 : Nat) {T : u_T} {N : Nat} {fs : List Value} (hci : vwCl[ci]? = some (C, T, N)) (hq0 : wc[q0]? = some (b, .inr (ci, fs))) (hn : As.length = n) (hsize : ls.size = nL) (hst : st0 = As.reverse ++ .ref b :: rest) (hW : (rest.map fun v => v.category).sum ≤ 8) (hdg : decode cc pc = .ok (.invokevirtual index, 3)) (hf : cells + mc ≤ R.cells ∧ slots + ms ≤ R.slots)
    (kk : ∀ (u : S) (H1 : Heap) (locs1 : List Loc), post u → va_P G.1 vwCl (wr ++ w u) H1 → va_D A (wr ++ w u) → va_S A H0 H1 locs1 → W p l e R s m args below meth c H1 locs1 (cells + mc) (slots + ms) Q (F0 m (pc + 3) ls rest)) :
    W p l e R s m args below meth c H locs cells slots Q (F0 m pc ls st0) := by
  have hFc := sp.2.2.1 A H0 H locs hD hS hA
  have hPS := z_preS (ws := ws) (As := .ref b :: As) hK (sp.1 _ _ hP) (sp.2.1 _ hD)
  refine va_callv (va_runV F hM cw ⟨hPS.1, va_recv hK (sp.1 _ _ hP) hci hq0, hPS.2⟩ rfl hn hsize hst (lv_room hW) hdg hf) hS (fun q _ h => hFc q h) hFc (fun u t H1 locs1 ht hvm hw hB hz1 hk1 hS1 => ?_)
  obtain ⟨hP1, hK1, hD1⟩ := hB
  rw [ht] at hP1
  obtain ⟨hP2, hD2⟩ := sp.2.2.2 _ _ _ _ _ hP hD hk1 hFc hP1 hD1
  exact kk u H1 locs1 hw hP2 hD2 hS1
theorem z_Iv {S : Type} {post : S → Prop} {w : S → va_W} (F : CallFix p m c cc nL s args lw_all own) (hM : Met l y (ws_ y bytes maxL none) rm (zPre G (.ref b :: As) H.size wc) (zQv G post w (va_A wc H.size)) mc ms (va_A wc H.size)) (cw : CallB R s args own index y bytes maxL none (ws_ y bytes maxL none) rm mc ms n ∧ y.name = "<init>" ∧ (Cond.instanceMethod y).before args s = true)
    (hK : zK G s) (hP : va_P G.1 vwCl ws H) (hD : va_D A ws) (hS : va_S A H0 H locs) (hA : ∀ q, H0.size ≤ q → A q) (sp : z_Sp ws wc wr) (hn : As.length = n) (hsize : ls.size = nL) (hst : st0 = As.reverse ++ .ref b :: rest) (hW : (rest.map fun v => v.category).sum ≤ 8) (hdg : decode cc pc = .ok (.invokespecial index, 3)) (hf : cells + mc ≤ R.cells ∧ slots + ms ≤ R.slots)
    (kk : ∀ (u : S) (H1 : Heap) (locs1 : List Loc), post u → va_P G.1 vwCl (wr ++ w u) H1 → va_D A (wr ++ w u) → va_S A H0 H1 locs1 → W p l e R s m args below meth c H1 locs1 (cells + mc) (slots + ms) Q (F0 m (pc + 3) ls rest)) :
    W p l e R s m args below meth c H locs cells slots Q (F0 m pc ls st0) := by
  have hFc := sp.2.2.1 A H0 H locs hD hS hA
  have hPS := z_preS (ws := ws) (As := .ref b :: As) hK (sp.1 _ _ hP) (sp.2.1 _ hD)
  refine va_callv (va_runI F hM cw hPS rfl hn hsize hst (lv_room hW) hdg hf) hS (fun q _ h => hFc q h) hFc (fun u t H1 locs1 ht hvm hw hB hz1 hk1 hS1 => ?_)
  obtain ⟨hP1, hK1, hD1⟩ := hB
  rw [ht] at hP1
  obtain ⟨hP2, hD2⟩ := sp.2.2.2 _ _ _ _ _ hP hD hk1 hFc hP1 hD1
  exact kk u H1 locs1 hw hP2 hD2 hS1
end ZC
end
section
/-! WHAT THE BYTECODE'S SHIFTS ANSWER, the arrays of this claim by their contents, and their rows -/
def jlshl (x : Int64) (k : Int32) : Int64 := x <<< (k.toInt64 &&& 63)
def jlushr (x : Int64) (k : Int32) : Int64 := (x.toUInt64 >>> (k.toInt64.toUInt64 &&& Int64.toUInt64 63)).toInt64
def jiushr (x : Int32) (k : Int32) : Int32 := (x.toUInt32 >>> (k.toUInt32 &&& Int32.toUInt32 31)).toInt32
def L2 (a b : Int64) : Nat → Int64 := fun j => if j = 0 then a else if j = 1 then b else 0
def L4 (a b c d : Int64) : Nat → Int64 := fun j => if j = 0 then a else if j = 1 then b else if j = 2 then c else if j = 3 then d else 0
theorem L2_s0 (a b x : Int64) : vp_updL (L2 a b) 0 x = L2 x b := by
  funext j
  unfold vp_updL L2
  by_cases h : j = 0 <;> simp [h]
theorem L2_s1 (a b x : Int64) : vp_updL (L2 a b) 1 x = L2 a x := by
  funext j
  unfold vp_updL L2
  by_cases h : j = 0
  · simp [h]
  · by_cases h1 : j = 1 <;> simp [h, h1]
theorem L2_z : L2 0 0 = fun _ => 0 := by
  funext j
  unfold L2
  by_cases h : j = 0
  · simp [h]
  · by_cases h1 : j = 1 <;> simp [h1]
theorem L4_z : L4 0 0 0 0 = fun _ => 0 := by
  funext j
  unfold L4
  by_cases h : j = 0
  · simp [h]
  · by_cases h1 : j = 1
    · simp [h1]
    · by_cases h2 : j = 2
      · simp [h2]
      · by_cases h3 : j = 3 <;> simp [h3]
theorem L4_lo (a b c d x y : Int64) : vp_updL (vp_updL (L4 a b c d) 0 x) 1 y = L4 x y c d := by
  funext j
  unfold vp_updL L4
  by_cases h : j = 0
  · simp [h]
  · by_cases h1 : j = 1 <;> simp [h, h1]
theorem L4_hi (a b c d x y : Int64) : vp_updL (vp_updL (L4 a b c d) 2 x) 3 y = L4 a b x y := by
  funext j
  unfold vp_updL L4
  by_cases h : j = 0
  · simp [h]
  · by_cases h1 : j = 1
    · simp [h1]
    · by_cases h2 : j = 2
      · simp [h2]
      · by_cases h3 : j = 3 <;> simp [h, h1, h2, h3]
/-- the k-th byte of a word, the first the highest, as Java's byte -/
def jb (w : Int32) (k : Nat) : Int32 := if k = 0 then (jiushr w (nI 24)).toInt8.toInt32 else if k = 1 then (jiushr w (nI 16)).toInt8.toInt32 else if k = 2 then (jiushr w (nI 8)).toInt8.toInt32 else w.toInt8.toInt32
theorem jb_b (x : Int32) : x.toInt8.toInt32.toInt8.toInt32 = x.toInt8.toInt32 := by simp
/-- a word's four bytes written from place k on -/
def wr (f : Nat → Int32) (k : Nat) (w : Int32) : Nat → Int32 := upd (upd (upd (upd f k (jb w 0)) (k + 1) (jb w 1)) (k + 2) (jb w 2)) (k + 3) (jb w 3)
/-- sixteen bytes out of four words -/
def Bw (a b c d : Int32) : Nat → Int32 := fun j => if j < 4 then jb a j else if j < 8 then jb b (j - 4) else if j < 12 then jb c (j - 8) else if j < 16 then jb d (j - 12) else 0
theorem z16 {j : Nat} (h : j < 16) : j = 0 ∨ j = 1 ∨ j = 2 ∨ j = 3 ∨ j = 4 ∨ j = 5 ∨ j = 6 ∨ j = 7 ∨ j = 8 ∨ j = 9 ∨ j = 10 ∨ j = 11 ∨ j = 12 ∨ j = 13 ∨ j = 14 ∨ j = 15 := by omega
theorem Bw_out (a b c d : Int32) {j : Nat} (h : ¬ j < 16) : Bw a b c d j = 0 := by
  unfold Bw
  rw [if_neg (by omega), if_neg (by omega), if_neg (by omega), if_neg h]
theorem wr_out (f : Nat → Int32) (k : Nat) (w : Int32) {j : Nat} (h : j < k ∨ k + 3 < j) : wr f k w j = f j := by
  unfold wr upd
  rw [if_neg (by omega), if_neg (by omega), if_neg (by omega), if_neg (by omega)]
theorem wr_0 (a b c d w : Int32) : wr (Bw a b c d) 0 w = Bw w b c d := by
  funext j
  by_cases h : j < 16
  · rcases z16 h with rfl | rfl | rfl | rfl | rfl | rfl | rfl | rfl | rfl | rfl | rfl | rfl | rfl | rfl | rfl | rfl <;> simp [wr, upd, Bw]
  · rw [wr_out _ _ _ (by omega), Bw_out _ _ _ _ h, Bw_out _ _ _ _ h]
theorem wr_4 (a b c d w : Int32) : wr (Bw a b c d) 4 w = Bw a w c d := by
  funext j
  by_cases h : j < 16
  · rcases z16 h with rfl | rfl | rfl | rfl | rfl | rfl | rfl | rfl | rfl | rfl | rfl | rfl | rfl | rfl | rfl | rfl <;> simp [wr, upd, Bw]
  · rw [wr_out _ _ _ (by omega), Bw_out _ _ _ _ h, Bw_out _ _ _ _ h]
theorem wr_8 (a b c d w : Int32) : wr (Bw a b c d) 8 w = Bw a b w d := by
  funext j
  by_cases h : j < 16
  · rcases z16 h with rfl | rfl | rfl | rfl | rfl | rfl | rfl | rfl | rfl | rfl | rfl | rfl | rfl | rfl | rfl | rfl <;> simp [wr, upd, Bw]
  · rw [wr_out _ _ _ (by omega), Bw_out _ _ _ _ h, Bw_out _ _ _ _ h]
theorem wr_12 (a b c d w : Int32) : wr (Bw a b c d) 12 w = Bw a b c w := by
  funext j
  by_cases h : j < 16
  · rcases z16 h with rfl | rfl | rfl | rfl | rfl | rfl | rfl | rfl | rfl | rfl | rfl | rfl | rfl | rfl | rfl | rfl <;> simp [wr, upd, Bw]
  · rw [wr_out _ _ _ (by omega), Bw_out _ _ _ _ h, Bw_out _ _ _ _ h]
theorem Bw_z : Bw 0 0 0 0 = fun _ => 0 := by
  funext j
  by_cases h : j < 16
  · rcases z16 h with rfl | rfl | rfl | rfl | rfl | rfl | rfl | rfl | rfl | rfl | rfl | rfl | rfl | rfl | rfl | rfl <;> decide +kernel
  · exact Bw_out _ _ _ _ h
abbrev zB (G : z_G) (f : Nat → Int32) : va_E := .inl (G.2.1, 16, .inl f)
abbrev zF (G : z_G) (n : Nat) (f : Nat → Int64) : va_E := .inl (G.2.2, n, .inr (.inl f))
abbrev zL2 (G : z_G) (a b : Int64) : va_E := zF G 2 (L2 a b)
abbrev zL4 (G : z_G) (a b c d : Int64) : va_E := zF G 4 (L4 a b c d)
section ZA
variable {p : Program} {l : Launch} {e : Env} {R : Room} {s : State} {m : MethodId} {args : Array Value} {below : List Frame} {meth : Method} {c : Code} {H : Heap} {locs : List Loc} {cells slots : Nat} {Q : State → Prop}
variable {cc : ByteArray} {pc : Nat} {ls : Array Slot} {rest : List Value} {G : z_G} {A : Nat → Prop} {ws : va_W} {H0 : Heap} {a : Nat}
theorem z_bald (hx : p.tables.exec = Jvm.exec) (hb : c.code = cc) (hK : zK G s) (hP : va_P G.1 vwCl ws H) (q0 k : Nat) {f : Nat → Int32} (ha : ws[q0]? = some (a, zB G f)) (hk : k < 16) {v : Int32} (hv : f k = v) (hdg : decode cc pc = .ok (.baload, 1))
    (kk : W p l e R s m args below meth c H locs cells slots Q (F0 m (pc + 1) ls (.int v :: rest))) : W p l e R s m args below meth c H locs cells slots Q (F0 m pc ls (.int (nI k) :: .ref a :: rest)) := by
  subst hv
  refine va_bald hx hb hK hP q0 0 ha rfl (vp_in_nI hk (by decide)) hdg ?_
  rw [nI_clamp (show k < 2 ^ 31 by omega)]
  exact kk
theorem z_bast (hx : p.tables.exec = Jvm.exec) (hb : c.code = cc) (hK : zK G s) (hP : va_P G.1 vwCl ws H) (hD : va_D A ws) (hS : va_S A H0 H locs) (q0 k : Nat) {f g : Nat → Int32} (ha : ws[q0]? = some (a, zB G f)) (hk : k < 16) {x : Int32} (hg : upd f k x.toInt8.toInt32 = g) (hdg : decode cc pc = .ok (.bastore, 1))
    (kk : ∀ (H1 : Heap) (locs1 : List Loc), va_P G.1 vwCl (ws.set q0 (a, zB G g)) H1 → va_D A (ws.set q0 (a, zB G g)) → va_S A H0 H1 locs1 → W p l e R s m args below meth c H1 locs1 cells slots Q (F0 m (pc + 1) ls rest)) : W p l e R s m args below meth c H locs cells slots Q (F0 m pc ls (.int x :: .int (nI k) :: .ref a :: rest)) := by
  subst hg
  refine va_bast hx hb hK hP hD hS q0 0 ha rfl (vp_in_nI hk (by decide)) hdg ?_
  rw [nI_clamp (show k < 2 ^ 31 by omega), vp_nar_byte]
  exact kk
theorem z_lald (hx : p.tables.exec = Jvm.exec) (hb : c.code = cc) (hK : zK G s) (hP : va_P G.1 vwCl ws H) (q0 k : Nat) {n : Nat} {f : Nat → Int64} (ha : ws[q0]? = some (a, zF G n f)) (hk : k < n) (hn : n < 16) {v : Int64} (hv : f k = v) (hdg : decode cc pc = .ok (.laload, 1))
    (kk : W p l e R s m args below meth c H locs cells slots Q (F0 m (pc + 1) ls (.long v :: rest))) : W p l e R s m args below meth c H locs cells slots Q (F0 m pc ls (.int (nI k) :: .ref a :: rest)) := by
  subst hv
  refine va_lald hx hb hK hP q0 1 ha rfl (vp_in_nI hk (by omega)) hdg ?_
  rw [nI_clamp (show k < 2 ^ 31 by omega)]
  exact kk
theorem z_last (hx : p.tables.exec = Jvm.exec) (hb : c.code = cc) (hK : zK G s) (hP : va_P G.1 vwCl ws H) (hD : va_D A ws) (hS : va_S A H0 H locs) (q0 k : Nat) {n : Nat} {f g : Nat → Int64} (ha : ws[q0]? = some (a, zF G n f)) (hk : k < n) (hn : n < 16) {x : Int64} (hg : vp_updL f k x = g) (hdg : decode cc pc = .ok (.lastore, 1))
    (kk : ∀ (H1 : Heap) (locs1 : List Loc), va_P G.1 vwCl (ws.set q0 (a, zF G n g)) H1 → va_D A (ws.set q0 (a, zF G n g)) → va_S A H0 H1 locs1 → W p l e R s m args below meth c H1 locs1 cells slots Q (F0 m (pc + 1) ls rest)) : W p l e R s m args below meth c H locs cells slots Q (F0 m pc ls (.long x :: .int (nI k) :: .ref a :: rest)) := by
  subst hg
  refine va_last hx hb hK hP hD hS q0 1 ha rfl (vp_in_nI hk (by omega)) hdg ?_
  rw [nI_clamp (show k < 2 ^ 31 by omega)]
  exact kk
theorem z_newB (hx : p.tables.exec = Jvm.exec) (hb : c.code = cc) (hts : ∀ w ∈ lw_all, w.before args s = true) (hK : zK G s) (hP : va_P G.1 vwCl ws H) (hD : va_D A ws) (hS : va_S A H0 H locs) (hA : ∀ q, H0.size ≤ q → A q) (hcells : cells + 1 ≤ R.cells) (hslots : slots + 16 ≤ R.slots) (hdg : decode cc pc = .ok (.newarray .byte, 2))
    (kk : ∀ (q : Nat) (H1 : Heap), va_P G.1 vwCl (ws ++ [(q, zB G (Bw 0 0 0 0))]) H1 → va_D A (ws ++ [(q, zB G (Bw 0 0 0 0))]) → va_S A H0 H1 locs → W p l e R s m args below meth c H1 locs (cells + 1) (slots + 16) Q (F0 m (pc + 2) ls (.ref q :: rest))) : W p l e R s m args below meth c H locs cells slots Q (F0 m pc ls (.int (nI 16) :: rest)) := by
  refine va_newa (atype := .byte) (ty := .byte) (N' := 16) (a0 := (16, .inl (Bw 0 0 0 0))) hx hb (hts _ q29) rfl hK hP hD hS hA (fun cA => by rw [Bw_z]; rfl) (by decide +kernel) (by decide +kernel) (by decide +kernel) hcells hslots hdg (fun q cA H1 hK1 hP1 hD1 hS1 => ?_)
  have e : cA = G.2.1 := Option.some.inj ((va_nm_byte (hK1.2 2 _ rfl).2).symm.trans (va_nm_byte (hK.2 0 _ rfl).2))
  subst e
  exact kk q H1 hP1 hD1 hS1
theorem z_newL (hx : p.tables.exec = Jvm.exec) (hb : c.code = cc) (hts : ∀ w ∈ lw_all, w.before args s = true) (hK : zK G s) (hP : va_P G.1 vwCl ws H) (hD : va_D A ws) (hS : va_S A H0 H locs) (hA : ∀ q, H0.size ≤ q → A q) (N : Nat) {g : Nat → Int64} (hg : g = fun _ => 0) (hN : N < 16) (hcells : cells + 1 ≤ R.cells) (hslots : slots + N ≤ R.slots) (hdg : decode cc pc = .ok (.newarray .long, 2))
    (kk : ∀ (q : Nat) (H1 : Heap), va_P G.1 vwCl (ws ++ [(q, zF G N g)]) H1 → va_D A (ws ++ [(q, zF G N g)]) → va_S A H0 H1 locs → W p l e R s m args below meth c H1 locs (cells + 1) (slots + N) Q (F0 m (pc + 2) ls (.ref q :: rest))) : W p l e R s m args below meth c H locs cells slots Q (F0 m pc ls (.int (nI N) :: rest)) := by
  refine va_newa (atype := .long) (ty := .long) (N' := N) (a0 := (N, .inr (.inl g))) hx hb (hts _ q68) rfl hK hP hD hS hA (fun cA => by rw [hg]; rfl) (nI_pos (by omega)) (nI_clamp (by omega)) (by show N * 8 ≤ 536870912; omega) hcells hslots hdg (fun q cA H1 hK1 hP1 hD1 hS1 => ?_)
  have e : cA = G.2.2 := Option.some.inj ((va_nm_long (hK1.2 2 _ rfl).2).symm.trans (va_nm_long (hK.2 1 _ rfl).2))
  subst e
  exact kk q H1 hP1 hD1 hS1
end ZA
end
section
/-! shifts of longs as shifts of bits -/
theorem jlushr_bv (x : Int64) (k : Nat) (hk : k < 64) : (jlushr x (nI k)).toBitVec = x.toBitVec >>> k := by
  have h : ∀ k, k < 64 → ((nI k).toInt64.toUInt64 &&& Int64.toUInt64 63).toNat = k := by decide +kernel
  apply BitVec.eq_of_toNat_eq
  show (x.toUInt64 >>> ((nI k).toInt64.toUInt64 &&& Int64.toUInt64 63)).toNat = _
  rw [UInt64.toNat_shiftRight, h k hk, Nat.mod_eq_of_lt hk, BitVec.toNat_ushiftRight]
  rfl
theorem jlshl_bv (x : Int64) (k : Nat) (hk : k < 64) : (jlshl x (nI k)).toBitVec = x.toBitVec <<< k := by
  have h : ∀ k, k < 64 → (((nI k).toInt64 &&& 63).toBitVec.smod 64).toNat = k := by decide +kernel
  show x.toBitVec <<< (((nI k).toInt64 &&& 63).toBitVec.smod 64).toNat = _
  rw [h k hk]
theorem jsh1_nat (x : Int64) : (jlushr x (nI 1)).toBitVec.toNat = x.toBitVec.toNat / 2 := by
  rw [jlushr_bv x 1 (by decide), BitVec.toNat_ushiftRight, Nat.shiftRight_eq_div_pow]
theorem jpos_nat {x : Int64} (h : 0 < x) : x.toBitVec.toNat ≠ 0 := by
  intro e
  have e1 : x.toBitVec = 0#64 := BitVec.eq_of_toNat_eq (by rw [e]; rfl)
  have e2 : x = 0 := Int64.toBitVec_inj.mp e1
  rw [e2] at h
  exact absurd h (by decide)
theorem z_half {x n : Nat} (h : x < 2 ^ (n + 1)) : x / 2 < 2 ^ n := by
  rw [Nat.pow_succ] at h
  omega
end
section
/-! LEAVES: methods on numbers alone; each answers its word in Lean (j..) -/
def jrevB (x : Int64) : Int64 :=
  let y1 : Int64 := ((jlshl (x &&& 71777214294589695) (nI 8)) ||| ((jlushr x (nI 8)) &&& 71777214294589695))
  ((((jlshl y1 (nI 48)) ||| (jlshl (y1 &&& 4294901760) (nI 16))) ||| ((jlushr y1 (nI 16)) &&& 4294901760)) ||| (jlushr y1 (nI 48)))
set_option maxHeartbeats 4000000 in
set_option maxRecDepth 100000 in
/-- Long.reverseBytes -/
theorem met_reverseBytes (l : Launch) (G : z_G) (sz : Nat) (x : Int64) : Met l yJ0_reverseBytes (ws_ yJ0_reverseBytes cJ0_reverseBytes 2 (some .long)) ({ frames := 0, cells := 0, slots := 0, locals := 0 }) (zPre G [.long x] sz []) (zQl G (fun (r : Int64) (u : Unit) => r = jrevB x) (fun (u : Unit) => []) (va_A [] sz)) 0 0 (va_A [] sz) := by
  refine z_met (QK := zQl G (fun (r : Int64) (u : Unit) => r = jrevB x) (fun (u : Unit) => [])) (by decide) (Nat.le_of_ble_eq_true rfl) ?_
  intro p e s m below meth c A H ls hx hb hr hlocks hml hown hin hts hK hP hD hA hS hl
  have hown : s.vm.findClass RJ0 = some m.cls := hown
  have hl : lv_has ls 2 [(0, .long x)] := hl
  refine lv_lload_n hx hb dJ0_reverseBytes_0 rfl (lv_at hl 0 rfl) ?_
  refine lv_ldc2 (v := 71777214294589695) hx hb hown (hts _ q101) dJ0_reverseBytes_1 ?_
  refine lv_land hx hb dJ0_reverseBytes_4 ?_
  refine lv_bipush (v := nI 8) hx hb dJ0_reverseBytes_5 (by decide) ?_
  refine lv_lshl (v := (jlshl (x &&& 71777214294589695) (nI 8))) hx hb dJ0_reverseBytes_7 rfl ?_
  refine lv_lload_n hx hb dJ0_reverseBytes_8 rfl (lv_at hl 0 rfl) ?_
  refine lv_bipush (v := nI 8) hx hb dJ0_reverseBytes_9 (by decide) ?_
  refine lv_lushr (v := (jlushr x (nI 8))) hx hb dJ0_reverseBytes_11 rfl ?_
  refine lv_ldc2 (v := 71777214294589695) hx hb hown (hts _ q101) dJ0_reverseBytes_12 ?_
  refine lv_land hx hb dJ0_reverseBytes_15 ?_
  refine lv_lor hx hb dJ0_reverseBytes_16 ?_
  refine lv_topl (fun y1 ey1 => ?_)
  refine lv_lstore_n (lv' := [(0, .long y1)]) hx hb dJ0_reverseBytes_17 rfl hl (by decide) rfl (fun ls hl => ?_)
  refine lv_lload_n hx hb dJ0_reverseBytes_18 rfl (lv_at hl 0 rfl) ?_
  refine lv_bipush (v := nI 48) hx hb dJ0_reverseBytes_19 (by decide) ?_
  refine lv_lshl (v := (jlshl y1 (nI 48))) hx hb dJ0_reverseBytes_21 rfl ?_
  refine lv_lload_n hx hb dJ0_reverseBytes_22 rfl (lv_at hl 0 rfl) ?_
  refine lv_ldc2 (v := 4294901760) hx hb hown (hts _ q102) dJ0_reverseBytes_23 ?_
  refine lv_land hx hb dJ0_reverseBytes_26 ?_
  refine lv_bipush (v := nI 16) hx hb dJ0_reverseBytes_27 (by decide) ?_
  refine lv_lshl (v := (jlshl (y1 &&& 4294901760) (nI 16))) hx hb dJ0_reverseBytes_29 rfl ?_
  refine lv_lor hx hb dJ0_reverseBytes_30 ?_
  refine lv_lload_n hx hb dJ0_reverseBytes_31 rfl (lv_at hl 0 rfl) ?_
  refine lv_bipush (v := nI 16) hx hb dJ0_reverseBytes_32 (by decide) ?_
  refine lv_lushr (v := (jlushr y1 (nI 16))) hx hb dJ0_reverseBytes_34 rfl ?_
  refine lv_ldc2 (v := 4294901760) hx hb hown (hts _ q102) dJ0_reverseBytes_35 ?_
  refine lv_land hx hb dJ0_reverseBytes_38 ?_
  refine lv_lor hx hb dJ0_reverseBytes_39 ?_
  refine lv_lload_n hx hb dJ0_reverseBytes_40 rfl (lv_at hl 0 rfl) ?_
  refine lv_bipush (v := nI 48) hx hb dJ0_reverseBytes_41 (by decide) ?_
  refine lv_lushr (v := (jlushr y1 (nI 48))) hx hb dJ0_reverseBytes_43 rfl ?_
  refine lv_lor hx hb dJ0_reverseBytes_44 ?_
  exact z_lret () hx hb hr hlocks hK hP hD hS rfl (by subst ey1; rfl) (Nat.le_of_ble_eq_true rfl) (Nat.le_of_ble_eq_true rfl) dJ0_reverseBytes_45
def jrev (x : Int64) : Int64 :=
  let y1 : Int64 := ((jlshl (x &&& 6148914691236517205) (nI 1)) ||| ((jlushr x (nI 1)) &&& 6148914691236517205))
  let y2 : Int64 := ((jlshl (y1 &&& 3689348814741910323) (nI 2)) ||| ((jlushr y1 (nI 2)) &&& 3689348814741910323))
  let y3 : Int64 := ((jlshl (y2 &&& 1085102592571150095) (nI 4)) ||| ((jlushr y2 (nI 4)) &&& 1085102592571150095))
  let r4 : Int64 := jrevB y3
  r4
set_option maxHeartbeats 4000000 in
set_option maxRecDepth 100000 in
/-- Long.reverse -/
theorem met_reverse (l : Launch) (G : z_G) (sz : Nat) (x : Int64) : Met l yJ0_reverse (ws_ yJ0_reverse cJ0_reverse 2 (some .long)) ({ frames := 1, cells := 0, slots := 0, locals := 21 }) (zPre G [.long x] sz []) (zQl G (fun (r : Int64) (u : Unit) => r = jrev x) (fun (u : Unit) => []) (va_A [] sz)) 0 0 (va_A [] sz) := by
  refine z_met (QK := zQl G (fun (r : Int64) (u : Unit) => r = jrev x) (fun (u : Unit) => [])) (by decide) (Nat.le_of_ble_eq_true rfl) ?_
  intro p e s m below meth c A H ls hx hb hr hlocks hml hown hin hts hK hP hD hA hS hl
  have hown : s.vm.findClass RJ0 = some m.cls := hown
  have hl : lv_has ls 2 [(0, .long x)] := hl
  refine lv_lload_n hx hb dJ0_reverse_0 rfl (lv_at hl 0 rfl) ?_
  refine lv_ldc2 (v := 6148914691236517205) hx hb hown (hts _ q95) dJ0_reverse_1 ?_
  refine lv_land hx hb dJ0_reverse_4 ?_
  refine lv_iconst (v := nI 1) hx hb dJ0_reverse_5 (by decide) ?_
  refine lv_lshl (v := (jlshl (x &&& 6148914691236517205) (nI 1))) hx hb dJ0_reverse_6 rfl ?_
  refine lv_lload_n hx hb dJ0_reverse_7 rfl (lv_at hl 0 rfl) ?_
  refine lv_iconst (v := nI 1) hx hb dJ0_reverse_8 (by decide) ?_
  refine lv_lushr (v := (jlushr x (nI 1))) hx hb dJ0_reverse_9 rfl ?_
  refine lv_ldc2 (v := 6148914691236517205) hx hb hown (hts _ q95) dJ0_reverse_10 ?_
  refine lv_land hx hb dJ0_reverse_13 ?_
  refine lv_lor hx hb dJ0_reverse_14 ?_
  refine lv_topl (fun y1 ey1 => ?_)
  refine lv_lstore_n (lv' := [(0, .long y1)]) hx hb dJ0_reverse_15 rfl hl (by decide) rfl (fun ls hl => ?_)
  refine lv_lload_n hx hb dJ0_reverse_16 rfl (lv_at hl 0 rfl) ?_
  refine lv_ldc2 (v := 3689348814741910323) hx hb hown (hts _ q96) dJ0_reverse_17 ?_
  refine lv_land hx hb dJ0_reverse_20 ?_
  refine lv_iconst (v := nI 2) hx hb dJ0_reverse_21 (by decide) ?_
  refine lv_lshl (v := (jlshl (y1 &&& 3689348814741910323) (nI 2))) hx hb dJ0_reverse_22 rfl ?_
  refine lv_lload_n hx hb dJ0_reverse_23 rfl (lv_at hl 0 rfl) ?_
  refine lv_iconst (v := nI 2) hx hb dJ0_reverse_24 (by decide) ?_
  refine lv_lushr (v := (jlushr y1 (nI 2))) hx hb dJ0_reverse_25 rfl ?_
  refine lv_ldc2 (v := 3689348814741910323) hx hb hown (hts _ q96) dJ0_reverse_26 ?_
  refine lv_land hx hb dJ0_reverse_29 ?_
  refine lv_lor hx hb dJ0_reverse_30 ?_
  refine lv_topl (fun y2 ey2 => ?_)
  refine lv_lstore_n (lv' := [(0, .long y2)]) hx hb dJ0_reverse_31 rfl hl (by decide) rfl (fun ls hl => ?_)
  refine lv_lload_n hx hb dJ0_reverse_32 rfl (lv_at hl 0 rfl) ?_
  refine lv_ldc2 (v := 1085102592571150095) hx hb hown (hts _ q97) dJ0_reverse_33 ?_
  refine lv_land hx hb dJ0_reverse_36 ?_
  refine lv_iconst (v := nI 4) hx hb dJ0_reverse_37 (by decide) ?_
  refine lv_lshl (v := (jlshl (y2 &&& 1085102592571150095) (nI 4))) hx hb dJ0_reverse_38 rfl ?_
  refine lv_lload_n hx hb dJ0_reverse_39 rfl (lv_at hl 0 rfl) ?_
  refine lv_iconst (v := nI 4) hx hb dJ0_reverse_40 (by decide) ?_
  refine lv_lushr (v := (jlushr y2 (nI 4))) hx hb dJ0_reverse_41 rfl ?_
  refine lv_ldc2 (v := 1085102592571150095) hx hb hown (hts _ q97) dJ0_reverse_42 ?_
  refine lv_land hx hb dJ0_reverse_45 ?_
  refine lv_lor hx hb dJ0_reverse_46 ?_
  refine lv_topl (fun y3 ey3 => ?_)
  refine lv_lstore_n (lv' := [(0, .long y3)]) hx hb dJ0_reverse_47 rfl hl (by decide) rfl (fun ls hl => ?_)
  refine lv_lload_n hx hb dJ0_reverse_48 rfl (lv_at hl 0 rfl) ?_
  refine z_Sl (As := [.long y3]) (rest := []) (wc := []) (wr := []) ⟨hx, hb, hml, hown, hts⟩ (met_reverseBytes l G H.size y3) (va_cwS 1 hts (lw_S q98 q99 q8 q100) rfl rfl rfl (by decide +kernel) ⟨Nat.le_of_ble_eq_true rfl, Nat.le_of_ble_eq_true rfl⟩) hK hP hD hS hA (z_none _) rfl hl.1 rfl (Nat.le_of_ble_eq_true rfl) dJ0_reverse_49 ⟨Nat.le_of_ble_eq_true rfl, Nat.le_of_ble_eq_true rfl⟩ (fun r4 u H locs hw hP hD hS => ?_)
  have hP : va_P G.1 vwCl [] H := hP
  have hD : va_D A [] := hD
  have er4 : r4 = jrevB y3 := hw
  exact z_lret () hx hb hr hlocks hK hP hD hS rfl (by subst er4; subst ey3; subst ey2; subst ey1; rfl) (Nat.le_of_ble_eq_true rfl) (Nat.le_of_ble_eq_true rfl) dJ0_reverse_52
def jlrev (x : Int64) : Int64 :=
  let r1 : Int64 := jrev x
  r1
set_option maxHeartbeats 4000000 in
set_option maxRecDepth 100000 in
/-- Longs.reverse -/
theorem met_lreverse (l : Launch) (G : z_G) (sz : Nat) (x : Int64) : Met l yX6_reverse (ws_ yX6_reverse cX6_reverse 2 (some .long)) ({ frames := 2, cells := 0, slots := 0, locals := 42 }) (zPre G [.long x] sz []) (zQl G (fun (r : Int64) (u : Unit) => r = jlrev x) (fun (u : Unit) => []) (va_A [] sz)) 0 0 (va_A [] sz) := by
  refine z_met (QK := zQl G (fun (r : Int64) (u : Unit) => r = jlrev x) (fun (u : Unit) => [])) (by decide) (Nat.le_of_ble_eq_true rfl) ?_
  intro p e s m below meth c A H ls hx hb hr hlocks hml hown hin hts hK hP hD hA hS hl
  have hown : s.vm.findClass RX6 = some m.cls := hown
  have hl : lv_has ls 2 [(0, .long x)] := hl
  refine lv_lload_n hx hb dX6_reverse_0 rfl (lv_at hl 0 rfl) ?_
  refine z_Sl (As := [.long x]) (rest := []) (wc := []) (wr := []) ⟨hx, hb, hml, hown, hts⟩ (met_reverse l G H.size x) (va_cwS 1 hts (lw_S q92 q93 q8 q94) rfl rfl rfl (by decide +kernel) ⟨Nat.le_of_ble_eq_true rfl, Nat.le_of_ble_eq_true rfl⟩) hK hP hD hS hA (z_none _) rfl hl.1 rfl (Nat.le_of_ble_eq_true rfl) dX6_reverse_1 ⟨Nat.le_of_ble_eq_true rfl, Nat.le_of_ble_eq_true rfl⟩ (fun r1 u H locs hw hP hD hS => ?_)
  have hP : va_P G.1 vwCl [] H := hP
  have hD : va_D A [] := hD
  have er1 : r1 = jrev x := hw
  exact z_lret () hx hb hr hlocks hK hP hD hS rfl (by subst er1; rfl) (Nat.le_of_ble_eq_true rfl) (Nat.le_of_ble_eq_true rfl) dX6_reverse_4
def jbps (x : Int64) (mk : Int64) (sh : Int32) : Int64 :=
  let y1 : Int64 := ((x ^^^ (jlushr x sh)) &&& mk)
  ((y1 ^^^ (jlshl y1 sh)) ^^^ x)
set_option maxHeartbeats 4000000 in
set_option maxRecDepth 100000 in
/-- OwnBits.bitPermuteStep -/
theorem met_bps (l : Launch) (G : z_G) (sz : Nat) (x : Int64) (mk : Int64) (sh : Int32) : Met l yX8_bitPermuteStep (ws_ yX8_bitPermuteStep cX8_bitPermuteStep 7 (some .long)) ({ frames := 0, cells := 0, slots := 0, locals := 0 }) (zPre G [.long x, .long mk, .int sh] sz []) (zQl G (fun (r : Int64) (u : Unit) => r = jbps x mk sh) (fun (u : Unit) => []) (va_A [] sz)) 0 0 (va_A [] sz) := by
  refine z_met (QK := zQl G (fun (r : Int64) (u : Unit) => r = jbps x mk sh) (fun (u : Unit) => [])) (by decide) (Nat.le_of_ble_eq_true rfl) ?_
  intro p e s m below meth c A H ls hx hb hr hlocks hml hown hin hts hK hP hD hA hS hl
  have hown : s.vm.findClass RX8 = some m.cls := hown
  have hl : lv_has ls 7 [(0, .long x), (2, .long mk), (4, .int sh)] := hl
  refine lv_lload_n hx hb dX8_bitPermuteStep_0 rfl (lv_at hl 0 rfl) ?_
  refine lv_lload_n hx hb dX8_bitPermuteStep_1 rfl (lv_at hl 0 rfl) ?_
  refine lv_iload hx hb dX8_bitPermuteStep_2 (lv_at hl 2 rfl) ?_
  refine lv_lushr (v := (jlushr x sh)) hx hb dX8_bitPermuteStep_4 rfl ?_
  refine lv_lxor hx hb dX8_bitPermuteStep_5 ?_
  refine lv_lload_n hx hb dX8_bitPermuteStep_6 rfl (lv_at hl 1 rfl) ?_
  refine lv_land hx hb dX8_bitPermuteStep_7 ?_
  refine lv_topl (fun y1 ey1 => ?_)
  refine lv_lstore (lv' := [(5, .long y1), (0, .long x), (2, .long mk), (4, .int sh)]) hx hb dX8_bitPermuteStep_8 hl (by decide) rfl (fun ls hl => ?_)
  refine lv_lload hx hb dX8_bitPermuteStep_10 (lv_at hl 0 rfl) ?_
  refine lv_lload hx hb dX8_bitPermuteStep_12 (lv_at hl 0 rfl) ?_
  refine lv_iload hx hb dX8_bitPermuteStep_14 (lv_at hl 3 rfl) ?_
  refine lv_lshl (v := (jlshl y1 sh)) hx hb dX8_bitPermuteStep_16 rfl ?_
  refine lv_lxor hx hb dX8_bitPermuteStep_17 ?_
  refine lv_lload_n hx hb dX8_bitPermuteStep_18 rfl (lv_at hl 1 rfl) ?_
  refine lv_lxor hx hb dX8_bitPermuteStep_19 ?_
  exact z_lret () hx hb hr hlocks hK hP hD hS rfl (by subst ey1; rfl) (Nat.le_of_ble_eq_true rfl) (Nat.le_of_ble_eq_true rfl) dX8_bitPermuteStep_20
def jimpl (x : Int64) (y : Int64) : Int64 :=
  let y1 : Int64 := (x &&& 1229782938247303441)
  let y2 : Int64 := (x &&& 2459565876494606882)
  let y3 : Int64 := (x &&& 4919131752989213764)
  let y4 : Int64 := (x &&& (-8608480567731124088))
  let y5 : Int64 := (y &&& 1229782938247303441)
  let y6 : Int64 := (y &&& 2459565876494606882)
  let y7 : Int64 := (y &&& 4919131752989213764)
  let y8 : Int64 := (y &&& (-8608480567731124088))
  let y9 : Int64 := ((((y1 * y5) ^^^ (y2 * y8)) ^^^ (y3 * y7)) ^^^ (y4 * y6))
  let y10 : Int64 := ((((y1 * y6) ^^^ (y2 * y5)) ^^^ (y3 * y8)) ^^^ (y4 * y7))
  let y11 : Int64 := ((((y1 * y7) ^^^ (y2 * y6)) ^^^ (y3 * y5)) ^^^ (y4 * y8))
  let y12 : Int64 := ((((y1 * y8) ^^^ (y2 * y7)) ^^^ (y3 * y6)) ^^^ (y4 * y5))
  let y13 : Int64 := (y9 &&& 1229782938247303441)
  let y14 : Int64 := (y10 &&& 2459565876494606882)
  let y15 : Int64 := (y11 &&& 4919131752989213764)
  let y16 : Int64 := (y12 &&& (-8608480567731124088))
  (((y13 ||| y14) ||| y15) ||| y16)
set_option maxHeartbeats 4000000 in
set_option maxRecDepth 100000 in
/-- GCMUtil.implMul64 -/
theorem met_impl (l : Launch) (G : z_G) (sz : Nat) (x : Int64) (y : Int64) : Met l yX4_implMul64 (ws_ yX4_implMul64 cX4_implMul64 28 (some .long)) ({ frames := 0, cells := 0, slots := 0, locals := 0 }) (zPre G [.long x, .long y] sz []) (zQl G (fun (r : Int64) (u : Unit) => r = jimpl x y) (fun (u : Unit) => []) (va_A [] sz)) 0 0 (va_A [] sz) := by
  refine z_met (QK := zQl G (fun (r : Int64) (u : Unit) => r = jimpl x y) (fun (u : Unit) => [])) (by decide) (Nat.le_of_ble_eq_true rfl) ?_
  intro p e s m below meth c A H ls hx hb hr hlocks hml hown hin hts hK hP hD hA hS hl
  have hown : s.vm.findClass RX4 = some m.cls := hown
  have hl : lv_has ls 28 [(0, .long x), (2, .long y)] := hl
  refine lv_lload_n hx hb dX4_implMul64_0 rfl (lv_at hl 0 rfl) ?_
  refine lv_ldc2 (v := 1229782938247303441) hx hb hown (hts _ q106) dX4_implMul64_1 ?_
  refine lv_land hx hb dX4_implMul64_4 ?_
  refine lv_topl (fun y1 ey1 => ?_)
  refine lv_lstore (lv' := [(4, .long y1), (0, .long x), (2, .long y)]) hx hb dX4_implMul64_5 hl (by decide) rfl (fun ls hl => ?_)
  refine lv_lload_n hx hb dX4_implMul64_7 rfl (lv_at hl 1 rfl) ?_
  refine lv_ldc2 (v := 2459565876494606882) hx hb hown (hts _ q107) dX4_implMul64_8 ?_
  refine lv_land hx hb dX4_implMul64_11 ?_
  refine lv_topl (fun y2 ey2 => ?_)
  refine lv_lstore (lv' := [(6, .long y2), (4, .long y1), (0, .long x), (2, .long y)]) hx hb dX4_implMul64_12 hl (by decide) rfl (fun ls hl => ?_)
  refine lv_lload_n hx hb dX4_implMul64_14 rfl (lv_at hl 2 rfl) ?_
  refine lv_ldc2 (v := 4919131752989213764) hx hb hown (hts _ q108) dX4_implMul64_15 ?_
  refine lv_land hx hb dX4_implMul64_18 ?_
  refine lv_topl (fun y3 ey3 => ?_)
  refine lv_lstore (lv' := [(8, .long y3), (6, .long y2), (4, .long y1), (0, .long x), (2, .long y)]) hx hb dX4_implMul64_19 hl (by decide) rfl (fun ls hl => ?_)
  refine lv_lload_n hx hb dX4_implMul64_21 rfl (lv_at hl 3 rfl) ?_
  refine lv_ldc2 (v := (-8608480567731124088)) hx hb hown (hts _ q109) dX4_implMul64_22 ?_
  refine lv_land hx hb dX4_implMul64_25 ?_
  refine lv_topl (fun y4 ey4 => ?_)
  refine lv_lstore (lv' := [(10, .long y4), (8, .long y3), (6, .long y2), (4, .long y1), (0, .long x), (2, .long y)]) hx hb dX4_implMul64_26 hl (by decide) rfl (fun ls hl => ?_)
  refine lv_lload_n hx hb dX4_implMul64_28 rfl (lv_at hl 5 rfl) ?_
  refine lv_ldc2 (v := 1229782938247303441) hx hb hown (hts _ q106) dX4_implMul64_29 ?_
  refine lv_land hx hb dX4_implMul64_32 ?_
  refine lv_topl (fun y5 ey5 => ?_)
  refine lv_lstore (lv' := [(12, .long y5), (10, .long y4), (8, .long y3), (6, .long y2), (4, .long y1), (0, .long x), (2, .long y)]) hx hb dX4_implMul64_33 hl (by decide) rfl (fun ls hl => ?_)
  refine lv_lload_n hx hb dX4_implMul64_35 rfl (lv_at hl 6 rfl) ?_
  refine lv_ldc2 (v := 2459565876494606882) hx hb hown (hts _ q107) dX4_implMul64_36 ?_
  refine lv_land hx hb dX4_implMul64_39 ?_
  refine lv_topl (fun y6 ey6 => ?_)
  refine lv_lstore (lv' := [(14, .long y6), (12, .long y5), (10, .long y4), (8, .long y3), (6, .long y2), (4, .long y1), (0, .long x), (2, .long y)]) hx hb dX4_implMul64_40 hl (by decide) rfl (fun ls hl => ?_)
  refine lv_lload_n hx hb dX4_implMul64_42 rfl (lv_at hl 7 rfl) ?_
  refine lv_ldc2 (v := 4919131752989213764) hx hb hown (hts _ q108) dX4_implMul64_43 ?_
  refine lv_land hx hb dX4_implMul64_46 ?_
  refine lv_topl (fun y7 ey7 => ?_)
  refine lv_lstore (lv' := [(16, .long y7), (14, .long y6), (12, .long y5), (10, .long y4), (8, .long y3), (6, .long y2), (4, .long y1), (0, .long x), (2, .long y)]) hx hb dX4_implMul64_47 hl (by decide) rfl (fun ls hl => ?_)
  refine lv_lload_n hx hb dX4_implMul64_49 rfl (lv_at hl 8 rfl) ?_
  refine lv_ldc2 (v := (-8608480567731124088)) hx hb hown (hts _ q109) dX4_implMul64_50 ?_
  refine lv_land hx hb dX4_implMul64_53 ?_
  refine lv_topl (fun y8 ey8 => ?_)
  refine lv_lstore (lv' := [(18, .long y8), (16, .long y7), (14, .long y6), (12, .long y5), (10, .long y4), (8, .long y3), (6, .long y2), (4, .long y1), (0, .long x), (2, .long y)]) hx hb dX4_implMul64_54 hl (by decide) rfl (fun ls hl => ?_)
  refine lv_lload hx hb dX4_implMul64_56 (lv_at hl 7 rfl) ?_
  refine lv_lload hx hb dX4_implMul64_58 (lv_at hl 3 rfl) ?_
  refine lv_lmul hx hb dX4_implMul64_60 ?_
  refine lv_lload hx hb dX4_implMul64_61 (lv_at hl 6 rfl) ?_
  refine lv_lload hx hb dX4_implMul64_63 (lv_at hl 0 rfl) ?_
  refine lv_lmul hx hb dX4_implMul64_65 ?_
  refine lv_lxor hx hb dX4_implMul64_66 ?_
  refine lv_lload hx hb dX4_implMul64_67 (lv_at hl 5 rfl) ?_
  refine lv_lload hx hb dX4_implMul64_69 (lv_at hl 1 rfl) ?_
  refine lv_lmul hx hb dX4_implMul64_71 ?_
  refine lv_lxor hx hb dX4_implMul64_72 ?_
  refine lv_lload hx hb dX4_implMul64_73 (lv_at hl 4 rfl) ?_
  refine lv_lload hx hb dX4_implMul64_75 (lv_at hl 2 rfl) ?_
  refine lv_lmul hx hb dX4_implMul64_77 ?_
  refine lv_lxor hx hb dX4_implMul64_78 ?_
  refine lv_topl (fun y9 ey9 => ?_)
  refine lv_lstore (lv' := [(20, .long y9), (18, .long y8), (16, .long y7), (14, .long y6), (12, .long y5), (10, .long y4), (8, .long y3), (6, .long y2), (4, .long y1), (0, .long x), (2, .long y)]) hx hb dX4_implMul64_79 hl (by decide) rfl (fun ls hl => ?_)
  refine lv_lload hx hb dX4_implMul64_81 (lv_at hl 8 rfl) ?_
  refine lv_lload hx hb dX4_implMul64_83 (lv_at hl 3 rfl) ?_
  refine lv_lmul hx hb dX4_implMul64_85 ?_
  refine lv_lload hx hb dX4_implMul64_86 (lv_at hl 7 rfl) ?_
  refine lv_lload hx hb dX4_implMul64_88 (lv_at hl 4 rfl) ?_
  refine lv_lmul hx hb dX4_implMul64_90 ?_
  refine lv_lxor hx hb dX4_implMul64_91 ?_
  refine lv_lload hx hb dX4_implMul64_92 (lv_at hl 6 rfl) ?_
  refine lv_lload hx hb dX4_implMul64_94 (lv_at hl 1 rfl) ?_
  refine lv_lmul hx hb dX4_implMul64_96 ?_
  refine lv_lxor hx hb dX4_implMul64_97 ?_
  refine lv_lload hx hb dX4_implMul64_98 (lv_at hl 5 rfl) ?_
  refine lv_lload hx hb dX4_implMul64_100 (lv_at hl 2 rfl) ?_
  refine lv_lmul hx hb dX4_implMul64_102 ?_
  refine lv_lxor hx hb dX4_implMul64_103 ?_
  refine lv_topl (fun y10 ey10 => ?_)
  refine lv_lstore (lv' := [(22, .long y10), (20, .long y9), (18, .long y8), (16, .long y7), (14, .long y6), (12, .long y5), (10, .long y4), (8, .long y3), (6, .long y2), (4, .long y1), (0, .long x), (2, .long y)]) hx hb dX4_implMul64_104 hl (by decide) rfl (fun ls hl => ?_)
  refine lv_lload hx hb dX4_implMul64_106 (lv_at hl 9 rfl) ?_
  refine lv_lload hx hb dX4_implMul64_108 (lv_at hl 3 rfl) ?_
  refine lv_lmul hx hb dX4_implMul64_110 ?_
  refine lv_lload hx hb dX4_implMul64_111 (lv_at hl 8 rfl) ?_
  refine lv_lload hx hb dX4_implMul64_113 (lv_at hl 4 rfl) ?_
  refine lv_lmul hx hb dX4_implMul64_115 ?_
  refine lv_lxor hx hb dX4_implMul64_116 ?_
  refine lv_lload hx hb dX4_implMul64_117 (lv_at hl 7 rfl) ?_
  refine lv_lload hx hb dX4_implMul64_119 (lv_at hl 5 rfl) ?_
  refine lv_lmul hx hb dX4_implMul64_121 ?_
  refine lv_lxor hx hb dX4_implMul64_122 ?_
  refine lv_lload hx hb dX4_implMul64_123 (lv_at hl 6 rfl) ?_
  refine lv_lload hx hb dX4_implMul64_125 (lv_at hl 2 rfl) ?_
  refine lv_lmul hx hb dX4_implMul64_127 ?_
  refine lv_lxor hx hb dX4_implMul64_128 ?_
  refine lv_topl (fun y11 ey11 => ?_)
  refine lv_lstore (lv' := [(24, .long y11), (22, .long y10), (20, .long y9), (18, .long y8), (16, .long y7), (14, .long y6), (12, .long y5), (10, .long y4), (8, .long y3), (6, .long y2), (4, .long y1), (0, .long x), (2, .long y)]) hx hb dX4_implMul64_129 hl (by decide) rfl (fun ls hl => ?_)
  refine lv_lload hx hb dX4_implMul64_131 (lv_at hl 10 rfl) ?_
  refine lv_lload hx hb dX4_implMul64_133 (lv_at hl 3 rfl) ?_
  refine lv_lmul hx hb dX4_implMul64_135 ?_
  refine lv_lload hx hb dX4_implMul64_136 (lv_at hl 9 rfl) ?_
  refine lv_lload hx hb dX4_implMul64_138 (lv_at hl 4 rfl) ?_
  refine lv_lmul hx hb dX4_implMul64_140 ?_
  refine lv_lxor hx hb dX4_implMul64_141 ?_
  refine lv_lload hx hb dX4_implMul64_142 (lv_at hl 8 rfl) ?_
  refine lv_lload hx hb dX4_implMul64_144 (lv_at hl 5 rfl) ?_
  refine lv_lmul hx hb dX4_implMul64_146 ?_
  refine lv_lxor hx hb dX4_implMul64_147 ?_
  refine lv_lload hx hb dX4_implMul64_148 (lv_at hl 7 rfl) ?_
  refine lv_lload hx hb dX4_implMul64_150 (lv_at hl 6 rfl) ?_
  refine lv_lmul hx hb dX4_implMul64_152 ?_
  refine lv_lxor hx hb dX4_implMul64_153 ?_
  refine lv_topl (fun y12 ey12 => ?_)
  refine lv_lstore (lv' := [(26, .long y12), (24, .long y11), (22, .long y10), (20, .long y9), (18, .long y8), (16, .long y7), (14, .long y6), (12, .long y5), (10, .long y4), (8, .long y3), (6, .long y2), (4, .long y1), (0, .long x), (2, .long y)]) hx hb dX4_implMul64_154 hl (by decide) rfl (fun ls hl => ?_)
  refine lv_lload hx hb dX4_implMul64_156 (lv_at hl 3 rfl) ?_
  refine lv_ldc2 (v := 1229782938247303441) hx hb hown (hts _ q106) dX4_implMul64_158 ?_
  refine lv_land hx hb dX4_implMul64_161 ?_
  refine lv_topl (fun y13 ey13 => ?_)
  refine lv_lstore (lv' := [(20, .long y13), (26, .long y12), (24, .long y11), (22, .long y10), (18, .long y8), (16, .long y7), (14, .long y6), (12, .long y5), (10, .long y4), (8, .long y3), (6, .long y2), (4, .long y1), (0, .long x), (2, .long y)]) hx hb dX4_implMul64_162 hl (by decide) rfl (fun ls hl => ?_)
  refine lv_lload hx hb dX4_implMul64_164 (lv_at hl 3 rfl) ?_
  refine lv_ldc2 (v := 2459565876494606882) hx hb hown (hts _ q107) dX4_implMul64_166 ?_
  refine lv_land hx hb dX4_implMul64_169 ?_
  refine lv_topl (fun y14 ey14 => ?_)
  refine lv_lstore (lv' := [(22, .long y14), (20, .long y13), (26, .long y12), (24, .long y11), (18, .long y8), (16, .long y7), (14, .long y6), (12, .long y5), (10, .long y4), (8, .long y3), (6, .long y2), (4, .long y1), (0, .long x), (2, .long y)]) hx hb dX4_implMul64_170 hl (by decide) rfl (fun ls hl => ?_)
  refine lv_lload hx hb dX4_implMul64_172 (lv_at hl 3 rfl) ?_
  refine lv_ldc2 (v := 4919131752989213764) hx hb hown (hts _ q108) dX4_implMul64_174 ?_
  refine lv_land hx hb dX4_implMul64_177 ?_
  refine lv_topl (fun y15 ey15 => ?_)
  refine lv_lstore (lv' := [(24, .long y15), (22, .long y14), (20, .long y13), (26, .long y12), (18, .long y8), (16, .long y7), (14, .long y6), (12, .long y5), (10, .long y4), (8, .long y3), (6, .long y2), (4, .long y1), (0, .long x), (2, .long y)]) hx hb dX4_implMul64_178 hl (by decide) rfl (fun ls hl => ?_)
  refine lv_lload hx hb dX4_implMul64_180 (lv_at hl 3 rfl) ?_
  refine lv_ldc2 (v := (-8608480567731124088)) hx hb hown (hts _ q109) dX4_implMul64_182 ?_
  refine lv_land hx hb dX4_implMul64_185 ?_
  refine lv_topl (fun y16 ey16 => ?_)
  refine lv_lstore (lv' := [(26, .long y16), (24, .long y15), (22, .long y14), (20, .long y13), (18, .long y8), (16, .long y7), (14, .long y6), (12, .long y5), (10, .long y4), (8, .long y3), (6, .long y2), (4, .long y1), (0, .long x), (2, .long y)]) hx hb dX4_implMul64_186 hl (by decide) rfl (fun ls hl => ?_)
  refine lv_lload hx hb dX4_implMul64_188 (lv_at hl 3 rfl) ?_
  refine lv_lload hx hb dX4_implMul64_190 (lv_at hl 2 rfl) ?_
  refine lv_lor hx hb dX4_implMul64_192 ?_
  refine lv_lload hx hb dX4_implMul64_193 (lv_at hl 1 rfl) ?_
  refine lv_lor hx hb dX4_implMul64_195 ?_
  refine lv_lload hx hb dX4_implMul64_196 (lv_at hl 0 rfl) ?_
  refine lv_lor hx hb dX4_implMul64_198 ?_
  exact z_lret () hx hb hr hlocks hK hP hD hS rfl (by subst ey16; subst ey15; subst ey14; subst ey13; subst ey12; subst ey11; subst ey10; subst ey9; subst ey8; subst ey7; subst ey6; subst ey5; subst ey4; subst ey3; subst ey2; subst ey1; rfl) (Nat.le_of_ble_eq_true rfl) (Nat.le_of_ble_eq_true rfl) dX4_implMul64_199
def jexp (hi : Int32) (lo : Int32) : Int64 :=
  ((jlshl ((hi &&& 2147483647).toInt64) (nI 32)) ||| (lo.toInt64 &&& 4294967295))
set_option maxHeartbeats 4000000 in
set_option maxRecDepth 100000 in
/-- FieldPowerDeskLaw.exponent -/
theorem met_exponent (l : Launch) (G : z_G) (sz : Nat) (hi : Int32) (lo : Int32) : Met l yX0_exponent (ws_ yX0_exponent cX0_exponent 2 (some .long)) ({ frames := 0, cells := 0, slots := 0, locals := 0 }) (zPre G [.int hi, .int lo] sz []) (zQl G (fun (r : Int64) (u : Unit) => r = jexp hi lo) (fun (u : Unit) => []) (va_A [] sz)) 0 0 (va_A [] sz) := by
  refine z_met (QK := zQl G (fun (r : Int64) (u : Unit) => r = jexp hi lo) (fun (u : Unit) => [])) (by decide) (Nat.le_of_ble_eq_true rfl) ?_
  intro p e s m below meth c A H ls hx hb hr hlocks hml hown hin hts hK hP hD hA hS hl
  have hown : s.vm.findClass RX0 = some m.cls := hown
  have hl : lv_has ls 2 [(0, .int hi), (1, .int lo)] := hl
  refine lv_iload_n hx hb dX0_exponent_0 rfl (lv_at hl 0 rfl) ?_
  refine lv_ldc (v := 2147483647) hx hb hown (hts _ q192) dX0_exponent_1 ?_
  refine lv_iand hx hb dX0_exponent_3 ?_
  refine lv_i2l (v := (hi &&& 2147483647).toInt64) hx hb dX0_exponent_4 rfl ?_
  refine lv_bipush (v := nI 32) hx hb dX0_exponent_5 (by decide) ?_
  refine lv_lshl (v := (jlshl ((hi &&& 2147483647).toInt64) (nI 32))) hx hb dX0_exponent_7 rfl ?_
  refine lv_iload_n hx hb dX0_exponent_8 rfl (lv_at hl 1 rfl) ?_
  refine lv_i2l (v := lo.toInt64) hx hb dX0_exponent_9 rfl ?_
  refine lv_ldc2 (v := 4294967295) hx hb hown (hts _ q182) dX0_exponent_10 ?_
  refine lv_land hx hb dX0_exponent_13 ?_
  refine lv_lor hx hb dX0_exponent_14 ?_
  exact z_lret () hx hb hr hlocks hK hP hD hS rfl (by rfl) (Nat.le_of_ble_eq_true rfl) (Nat.le_of_ble_eq_true rfl) dX0_exponent_15
end
section
/-! Pack: bytes to words and back -/
def jB2I (b0 b1 b2 b3 : Int32) : Int32 :=
  (((b0 <<< (nI 24 &&& 31)) ||| ((b1 &&& nI 255) <<< (nI 16 &&& 31))) ||| ((b2 &&& nI 255) <<< (nI 8 &&& 31))) ||| (b3 &&& nI 255)
def jB2L (f : Nat → Int32) (k : Nat) : Int64 :=
  (jlshl ((jB2I (f k) (f (k + 1)) (f (k + 2)) (f (k + 3))).toInt64 &&& 4294967295) (nI 32)) ||| ((jB2I (f (k + 4)) (f (k + 5)) (f (k + 6)) (f (k + 7))).toInt64 &&& 4294967295)
def jhi (n : Int64) : Int32 := (jlushr n (nI 32)).toInt32
def jlo (n : Int64) : Int32 := (n &&& 4294967295).toInt32
set_option maxHeartbeats 4000000 in
set_option maxRecDepth 100000 in
/-- Pack.bigEndianToInt(bs, k) -/
theorem met_b2i (l : Launch) (G : z_G) (sz : Nat) (h : Nat) (f : Nat → Int32) (k : Nat) (hk : k ≤ 12) : Met l yX5_bigEndianToInt (ws_ yX5_bigEndianToInt cX5_bigEndianToInt 3 (some .int)) ({ frames := 0, cells := 0, slots := 0, locals := 0 }) (zPre G [.ref h, .int (nI k)] sz [(h, zB G f)]) (zQi G (fun (r : Int32) (u : Unit) => r = jB2I (f k) (f (k + 1)) (f (k + 2)) (f (k + 3))) (fun (u : Unit) => [(h, zB G f)]) (va_A [(h, zB G f)] sz)) 0 0 (va_A [(h, zB G f)] sz) := by
  refine z_met (QK := zQi G (fun (r : Int32) (u : Unit) => r = jB2I (f k) (f (k + 1)) (f (k + 2)) (f (k + 3))) (fun (u : Unit) => [(h, zB G f)])) (by decide) (Nat.le_of_ble_eq_true rfl) ?_
  intro p e s m below meth c A H ls hx hb hr hlocks hml hown hin hts hK hP hD hA hS hl
  have hown : s.vm.findClass RX5 = some m.cls := hown
  have hl : lv_has ls 3 [(0, .ref h), (1, .int (nI k))] := hl
  refine lv_aload_n hx hb dX5_bigEndianToInt_0 rfl (lv_at hl 0 rfl) ?_
  refine lv_iload_n hx hb dX5_bigEndianToInt_1 rfl (lv_at hl 1 rfl) ?_
  refine z_bald (v := (f k)) hx hb hK hP 0 k rfl (by omega) rfl dX5_bigEndianToInt_2 ?_
  refine lv_bipush (v := nI 24) hx hb dX5_bigEndianToInt_3 (by decide) ?_
  refine lv_ishl hx hb dX5_bigEndianToInt_5 ?_
  refine lv_topi (fun y1 ey1 => ?_)
  refine lv_istore_n (lv' := [(2, .int y1), (0, .ref h), (1, .int (nI k))]) hx hb dX5_bigEndianToInt_6 rfl hl (by decide) rfl (fun ls hl => ?_)
  refine lv_iload_n hx hb dX5_bigEndianToInt_7 rfl (lv_at hl 0 rfl) ?_
  refine lv_aload_n hx hb dX5_bigEndianToInt_8 rfl (lv_at hl 1 rfl) ?_
  refine lv_iinc (v := nI (k + 1)) (lv' := [(1, .int (nI (k + 1))), (2, .int y1), (0, .ref h)]) hx hb dX5_bigEndianToInt_9 hl (k := 2) rfl (nI_add _ _) (by decide) rfl (fun ls hl => ?_)
  refine lv_iload_n hx hb dX5_bigEndianToInt_12 rfl (lv_at hl 0 rfl) ?_
  refine z_bald (v := (f (k + 1))) hx hb hK hP 0 (k + 1) rfl (by omega) rfl dX5_bigEndianToInt_13 ?_
  refine lv_sipush (v := nI 255) hx hb dX5_bigEndianToInt_14 (by decide) ?_
  refine lv_iand hx hb dX5_bigEndianToInt_17 ?_
  refine lv_bipush (v := nI 16) hx hb dX5_bigEndianToInt_18 (by decide) ?_
  refine lv_ishl hx hb dX5_bigEndianToInt_20 ?_
  refine lv_ior hx hb dX5_bigEndianToInt_21 ?_
  refine lv_topi (fun y2 ey2 => ?_)
  refine lv_istore_n (lv' := [(2, .int y2), (1, .int (nI (k + 1))), (0, .ref h)]) hx hb dX5_bigEndianToInt_22 rfl hl (by decide) rfl (fun ls hl => ?_)
  refine lv_iload_n hx hb dX5_bigEndianToInt_23 rfl (lv_at hl 0 rfl) ?_
  refine lv_aload_n hx hb dX5_bigEndianToInt_24 rfl (lv_at hl 2 rfl) ?_
  refine lv_iinc (v := nI (k + 2)) (lv' := [(1, .int (nI (k + 2))), (2, .int y2), (0, .ref h)]) hx hb dX5_bigEndianToInt_25 hl (k := 1) rfl (nI_add _ _) (by decide) rfl (fun ls hl => ?_)
  refine lv_iload_n hx hb dX5_bigEndianToInt_28 rfl (lv_at hl 0 rfl) ?_
  refine z_bald (v := (f (k + 2))) hx hb hK hP 0 (k + 2) rfl (by omega) rfl dX5_bigEndianToInt_29 ?_
  refine lv_sipush (v := nI 255) hx hb dX5_bigEndianToInt_30 (by decide) ?_
  refine lv_iand hx hb dX5_bigEndianToInt_33 ?_
  refine lv_bipush (v := nI 8) hx hb dX5_bigEndianToInt_34 (by decide) ?_
  refine lv_ishl hx hb dX5_bigEndianToInt_36 ?_
  refine lv_ior hx hb dX5_bigEndianToInt_37 ?_
  refine lv_topi (fun y3 ey3 => ?_)
  refine lv_istore_n (lv' := [(2, .int y3), (1, .int (nI (k + 2))), (0, .ref h)]) hx hb dX5_bigEndianToInt_38 rfl hl (by decide) rfl (fun ls hl => ?_)
  refine lv_iload_n hx hb dX5_bigEndianToInt_39 rfl (lv_at hl 0 rfl) ?_
  refine lv_aload_n hx hb dX5_bigEndianToInt_40 rfl (lv_at hl 2 rfl) ?_
  refine lv_iinc (v := nI (k + 3)) (lv' := [(1, .int (nI (k + 3))), (2, .int y3), (0, .ref h)]) hx hb dX5_bigEndianToInt_41 hl (k := 1) rfl (nI_add _ _) (by decide) rfl (fun ls hl => ?_)
  refine lv_iload_n hx hb dX5_bigEndianToInt_44 rfl (lv_at hl 0 rfl) ?_
  refine z_bald (v := (f (k + 3))) hx hb hK hP 0 (k + 3) rfl (by omega) rfl dX5_bigEndianToInt_45 ?_
  refine lv_sipush (v := nI 255) hx hb dX5_bigEndianToInt_46 (by decide) ?_
  refine lv_iand hx hb dX5_bigEndianToInt_49 ?_
  refine lv_ior hx hb dX5_bigEndianToInt_50 ?_
  refine lv_topi (fun y4 ey4 => ?_)
  refine lv_istore_n (lv' := [(2, .int y4), (1, .int (nI (k + 3))), (0, .ref h)]) hx hb dX5_bigEndianToInt_51 rfl hl (by decide) rfl (fun ls hl => ?_)
  refine lv_iload_n hx hb dX5_bigEndianToInt_52 rfl (lv_at hl 0 rfl) ?_
  exact z_iret () hx hb hr hlocks hK hP hD hS rfl (by subst ey4; subst ey3; subst ey2; subst ey1; rfl) (Nat.le_of_ble_eq_true rfl) (Nat.le_of_ble_eq_true rfl) dX5_bigEndianToInt_53
set_option maxHeartbeats 4000000 in
set_option maxRecDepth 100000 in
/-- Pack.bigEndianToLong(bs, k) -/
theorem met_b2l (l : Launch) (G : z_G) (sz : Nat) (h : Nat) (f : Nat → Int32) (k : Nat) (hk : k ≤ 8) : Met l yX5_bigEndianToLong_2 (ws_ yX5_bigEndianToLong_2 cX5_bigEndianToLong_2 4 (some .long)) ({ frames := 1, cells := 0, slots := 0, locals := 22 }) (zPre G [.ref h, .int (nI k)] sz [(h, zB G f)]) (zQl G (fun (r : Int64) (u : Unit) => r = jB2L f k) (fun (u : Unit) => [(h, zB G f)]) (va_A [(h, zB G f)] sz)) 0 0 (va_A [(h, zB G f)] sz) := by
  refine z_met (QK := zQl G (fun (r : Int64) (u : Unit) => r = jB2L f k) (fun (u : Unit) => [(h, zB G f)])) (by decide) (Nat.le_of_ble_eq_true rfl) ?_
  intro p e s m below meth c A H ls hx hb hr hlocks hml hown hin hts hK hP hD hA hS hl
  have hown : s.vm.findClass RX5 = some m.cls := hown
  have hl : lv_has ls 4 [(0, .ref h), (1, .int (nI k))] := hl
  refine lv_aload_n hx hb dX5_bigEndianToLong_2_0 rfl (lv_at hl 0 rfl) ?_
  refine lv_iload_n hx hb dX5_bigEndianToLong_2_1 rfl (lv_at hl 1 rfl) ?_
  refine z_Si (As := [.ref h, .int (nI k)]) (rest := []) (wc := [(h, zB G f)]) (wr := []) ⟨hx, hb, hml, hown, hts⟩ (met_b2i l G H.size h f k (by omega)) (va_cwS 2 hts (lw_S q64 q65 q5 q66) rfl rfl rfl (by decide +kernel) ⟨Nat.le_of_ble_eq_true rfl, Nat.le_of_ble_eq_true rfl⟩) hK hP hD hS hA (z_whole _) rfl hl.1 rfl (Nat.le_of_ble_eq_true rfl) dX5_bigEndianToLong_2_2 ⟨Nat.le_of_ble_eq_true rfl, Nat.le_of_ble_eq_true rfl⟩ (fun r1 u H locs hw hP hD hS => ?_)
  have hP : va_P G.1 vwCl [(h, zB G f)] H := hP
  have hD : va_D A [(h, zB G f)] := hD
  have er1 : r1 = jB2I (f k) (f (k + 1)) (f (k + 2)) (f (k + 3)) := hw
  refine lv_istore_n (lv' := [(2, .int r1), (0, .ref h), (1, .int (nI k))]) hx hb dX5_bigEndianToLong_2_5 rfl hl (by decide) rfl (fun ls hl => ?_)
  refine lv_aload_n hx hb dX5_bigEndianToLong_2_6 rfl (lv_at hl 1 rfl) ?_
  refine lv_iload_n hx hb dX5_bigEndianToLong_2_7 rfl (lv_at hl 2 rfl) ?_
  refine lv_iconst (v := nI 4) hx hb dX5_bigEndianToLong_2_8 (by decide) ?_
  refine lv_iadd hx hb dX5_bigEndianToLong_2_9 ?_
  rw [nI_add]
  refine z_Si (As := [.ref h, .int (nI (k + 4))]) (rest := []) (wc := [(h, zB G f)]) (wr := []) ⟨hx, hb, hml, hown, hts⟩ (met_b2i l G H.size h f (k + 4) (by omega)) (va_cwS 2 hts (lw_S q64 q65 q5 q66) rfl rfl rfl (by decide +kernel) ⟨Nat.le_of_ble_eq_true rfl, Nat.le_of_ble_eq_true rfl⟩) hK hP hD hS hA (z_whole _) rfl hl.1 rfl (Nat.le_of_ble_eq_true rfl) dX5_bigEndianToLong_2_10 ⟨Nat.le_of_ble_eq_true rfl, Nat.le_of_ble_eq_true rfl⟩ (fun r2 u H locs hw hP hD hS => ?_)
  have hP : va_P G.1 vwCl [(h, zB G f)] H := hP
  have hD : va_D A [(h, zB G f)] := hD
  have er2 : r2 = jB2I (f (k + 4)) (f (k + 5)) (f (k + 6)) (f (k + 7)) := hw
  refine lv_istore_n (lv' := [(3, .int r2), (2, .int r1), (0, .ref h), (1, .int (nI k))]) hx hb dX5_bigEndianToLong_2_13 rfl hl (by decide) rfl (fun ls hl => ?_)
  refine lv_iload_n hx hb dX5_bigEndianToLong_2_14 rfl (lv_at hl 1 rfl) ?_
  refine lv_i2l (v := r1.toInt64) hx hb dX5_bigEndianToLong_2_15 rfl ?_
  refine lv_ldc2 (v := 4294967295) hx hb hown (hts _ q67) dX5_bigEndianToLong_2_16 ?_
  refine lv_land hx hb dX5_bigEndianToLong_2_19 ?_
  refine lv_bipush (v := nI 32) hx hb dX5_bigEndianToLong_2_20 (by decide) ?_
  refine lv_lshl (v := (jlshl (r1.toInt64 &&& 4294967295) (nI 32))) hx hb dX5_bigEndianToLong_2_22 rfl ?_
  refine lv_iload_n hx hb dX5_bigEndianToLong_2_23 rfl (lv_at hl 0 rfl) ?_
  refine lv_i2l (v := r2.toInt64) hx hb dX5_bigEndianToLong_2_24 rfl ?_
  refine lv_ldc2 (v := 4294967295) hx hb hown (hts _ q67) dX5_bigEndianToLong_2_25 ?_
  refine lv_land hx hb dX5_bigEndianToLong_2_28 ?_
  refine lv_lor hx hb dX5_bigEndianToLong_2_29 ?_
  exact z_lret () hx hb hr hlocks hK hP hD hS rfl (by subst er2; subst er1; rfl) (Nat.le_of_ble_eq_true rfl) (Nat.le_of_ble_eq_true rfl) dX5_bigEndianToLong_2_30
set_option maxHeartbeats 4000000 in
set_option maxRecDepth 100000 in
/-- Pack.bigEndianToLong(bs, 0, ns, 0, 2) -/
theorem met_b2ls (l : Launch) (G : z_G) (sz : Nat) (h h2 : Nat) (f : Nat → Int32) (a b : Int64) : Met l yX5_bigEndianToLong (ws_ yX5_bigEndianToLong cX5_bigEndianToLong 6 none) ({ frames := 2, cells := 0, slots := 0, locals := 45 }) (zPre G [.ref h, .int (nI 0), .ref h2, .int (nI 0), .int (nI 2)] sz [(h, zB G f), (h2, zL2 G a b)]) (zQv G (fun (u : Unit) => True) (fun (u : Unit) => [(h2, zL2 G (jB2L f 0) (jB2L f 8)), (h, zB G f)]) (va_A [(h, zB G f), (h2, zL2 G a b)] sz)) 0 0 (va_A [(h, zB G f), (h2, zL2 G a b)] sz) := by
  refine z_met (QK := zQv G (fun (u : Unit) => True) (fun (u : Unit) => [(h2, zL2 G (jB2L f 0) (jB2L f 8)), (h, zB G f)])) (by decide) (Nat.le_of_ble_eq_true rfl) ?_
  intro p e s m below meth c A H ls hx hb hr hlocks hml hown hin hts hK hP hD hA hS hl
  have hown : s.vm.findClass RX5 = some m.cls := hown
  have hl : lv_has ls 6 [(0, .ref h), (1, .int (nI 0)), (2, .ref h2), (3, .int (nI 0)), (4, .int (nI 2))] := hl
  refine lv_iconst (v := nI 0) hx hb dX5_bigEndianToLong_0 (by decide) ?_
  refine lv_istore (lv' := [(5, .int (nI 0)), (0, .ref h), (1, .int (nI 0)), (2, .ref h2), (3, .int (nI 0)), (4, .int (nI 2))]) hx hb dX5_bigEndianToLong_1 hl (by decide) rfl (fun ls hl => ?_)
  refine lv_iload hx hb dX5_bigEndianToLong_3 (lv_at hl 0 rfl) ?_
  refine lv_iload hx hb dX5_bigEndianToLong_5 (lv_at hl 5 rfl) ?_
  refine lv_icmp_ge (tgt := 30) hx hb dX5_bigEndianToLong_7 (by decide) (fun c_ => absurd c_ (by decide +kernel)) (fun _ => ?_)
  refine lv_aload_n hx hb dX5_bigEndianToLong_10 rfl (lv_at hl 3 rfl) ?_
  refine lv_iload_n hx hb dX5_bigEndianToLong_11 rfl (lv_at hl 4 rfl) ?_
  refine lv_iload hx hb dX5_bigEndianToLong_12 (lv_at hl 0 rfl) ?_
  refine lv_iadd hx hb dX5_bigEndianToLong_14 ?_
  rw [show nI 0 + nI 0 = nI 0 from nI_add 0 0]
  refine lv_aload_n hx hb dX5_bigEndianToLong_15 rfl (lv_at hl 1 rfl) ?_
  refine lv_iload_n hx hb dX5_bigEndianToLong_16 rfl (lv_at hl 2 rfl) ?_
  refine z_Sl (As := [.ref h, .int (nI 0)]) (rest := [.int (nI 0), .ref h2]) (wc := [(h, zB G f)]) (wr := [(h2, zL2 G a b)]) ⟨hx, hb, hml, hown, hts⟩ (met_b2l l G H.size h f 0 (by decide)) (va_cwS 2 hts (lw_S q61 q62 q5 q63) rfl rfl rfl (by decide +kernel) ⟨Nat.le_of_ble_eq_true rfl, Nat.le_of_ble_eq_true rfl⟩) hK hP hD hS hA (z_ix [0] [1] rfl rfl rfl rfl rfl (by decide)) rfl hl.1 rfl (Nat.le_of_ble_eq_true rfl) dX5_bigEndianToLong_17 ⟨Nat.le_of_ble_eq_true rfl, Nat.le_of_ble_eq_true rfl⟩ (fun r1 u H locs hw hP hD hS => ?_)
  have hP : va_P G.1 vwCl [(h2, zL2 G a b), (h, zB G f)] H := hP
  have hD : va_D A [(h2, zL2 G a b), (h, zB G f)] := hD
  have er1 : r1 = jB2L f 0 := hw
  refine z_last (g := L2 r1 b) hx hb hK hP hD hS 0 0 rfl (by decide) (by decide) (L2_s0 _ _ _) dX5_bigEndianToLong_20 (fun H locs hP hD hS => ?_)
  have hP : va_P G.1 vwCl [(h2, zL2 G r1 b), (h, zB G f)] H := hP
  have hD : va_D A [(h2, zL2 G r1 b), (h, zB G f)] := hD
  refine lv_iinc (v := nI 8) (lv' := [(1, .int (nI 8)), (5, .int (nI 0)), (0, .ref h), (2, .ref h2), (3, .int (nI 0)), (4, .int (nI 2))]) hx hb dX5_bigEndianToLong_21 hl (k := 2) rfl (by decide) (by decide) rfl (fun ls hl => ?_)
  refine lv_iinc (v := nI 1) (lv' := [(5, .int (nI 1)), (1, .int (nI 8)), (0, .ref h), (2, .ref h2), (3, .int (nI 0)), (4, .int (nI 2))]) hx hb dX5_bigEndianToLong_24 hl (k := 1) rfl (by decide) (by decide) rfl (fun ls hl => ?_)
  refine lv_goto (tgt := 3) hx hb dX5_bigEndianToLong_27 (by decide) ?_
  refine lv_iload hx hb dX5_bigEndianToLong_3 (lv_at hl 0 rfl) ?_
  refine lv_iload hx hb dX5_bigEndianToLong_5 (lv_at hl 5 rfl) ?_
  refine lv_icmp_ge (tgt := 30) hx hb dX5_bigEndianToLong_7 (by decide) (fun c_ => absurd c_ (by decide +kernel)) (fun _ => ?_)
  refine lv_aload_n hx hb dX5_bigEndianToLong_10 rfl (lv_at hl 3 rfl) ?_
  refine lv_iload_n hx hb dX5_bigEndianToLong_11 rfl (lv_at hl 4 rfl) ?_
  refine lv_iload hx hb dX5_bigEndianToLong_12 (lv_at hl 0 rfl) ?_
  refine lv_iadd hx hb dX5_bigEndianToLong_14 ?_
  rw [show nI 0 + nI 1 = nI 1 from nI_add 0 1]
  refine lv_aload_n hx hb dX5_bigEndianToLong_15 rfl (lv_at hl 2 rfl) ?_
  refine lv_iload_n hx hb dX5_bigEndianToLong_16 rfl (lv_at hl 1 rfl) ?_
  refine z_Sl (As := [.ref h, .int (nI 8)]) (rest := [.int (nI 1), .ref h2]) (wc := [(h, zB G f)]) (wr := [(h2, zL2 G r1 b)]) ⟨hx, hb, hml, hown, hts⟩ (met_b2l l G H.size h f 8 (by decide)) (va_cwS 2 hts (lw_S q61 q62 q5 q63) rfl rfl rfl (by decide +kernel) ⟨Nat.le_of_ble_eq_true rfl, Nat.le_of_ble_eq_true rfl⟩) hK hP hD hS hA (z_ix [1] [0] rfl rfl rfl rfl rfl (by decide)) rfl hl.1 rfl (Nat.le_of_ble_eq_true rfl) dX5_bigEndianToLong_17 ⟨Nat.le_of_ble_eq_true rfl, Nat.le_of_ble_eq_true rfl⟩ (fun r2 u H locs hw hP hD hS => ?_)
  have hP : va_P G.1 vwCl [(h2, zL2 G r1 b), (h, zB G f)] H := hP
  have hD : va_D A [(h2, zL2 G r1 b), (h, zB G f)] := hD
  have er2 : r2 = jB2L f 8 := hw
  refine z_last (g := L2 r1 r2) hx hb hK hP hD hS 0 1 rfl (by decide) (by decide) (L2_s1 _ _ _) dX5_bigEndianToLong_20 (fun H locs hP hD hS => ?_)
  have hP : va_P G.1 vwCl [(h2, zL2 G r1 r2), (h, zB G f)] H := hP
  have hD : va_D A [(h2, zL2 G r1 r2), (h, zB G f)] := hD
  refine lv_iinc (v := nI 16) (lv' := [(1, .int (nI 16)), (5, .int (nI 1)), (0, .ref h), (2, .ref h2), (3, .int (nI 0)), (4, .int (nI 2))]) hx hb dX5_bigEndianToLong_21 hl (k := 1) rfl (by decide) (by decide) rfl (fun ls hl => ?_)
  refine lv_iinc (v := nI 2) (lv' := [(5, .int (nI 2)), (1, .int (nI 16)), (0, .ref h), (2, .ref h2), (3, .int (nI 0)), (4, .int (nI 2))]) hx hb dX5_bigEndianToLong_24 hl (k := 1) rfl (by decide) (by decide) rfl (fun ls hl => ?_)
  refine lv_goto (tgt := 3) hx hb dX5_bigEndianToLong_27 (by decide) ?_
  refine lv_iload hx hb dX5_bigEndianToLong_3 (lv_at hl 0 rfl) ?_
  refine lv_iload hx hb dX5_bigEndianToLong_5 (lv_at hl 5 rfl) ?_
  refine lv_icmp_ge (tgt := 30) hx hb dX5_bigEndianToLong_7 (by decide) (fun _ => ?_) (fun c_ => absurd (by decide +kernel) c_)
  exact z_vret () hx hb hr hlocks hK hP hD hS (by subst er2; subst er1; rfl) trivial (Nat.le_of_ble_eq_true rfl) (Nat.le_of_ble_eq_true rfl) dX5_bigEndianToLong_30
set_option maxHeartbeats 4000000 in
set_option maxRecDepth 100000 in
/-- Pack.intToBigEndian(n, bs, k) -/
theorem met_i2b (l : Launch) (G : z_G) (sz : Nat) (n : Int32) (h : Nat) (f : Nat → Int32) (k : Nat) (hk : k ≤ 12) : Met l yX5_intToBigEndian (ws_ yX5_intToBigEndian cX5_intToBigEndian 3 none) ({ frames := 0, cells := 0, slots := 0, locals := 0 }) (zPre G [.int n, .ref h, .int (nI k)] sz [(h, zB G f)]) (zQv G (fun (u : Unit) => True) (fun (u : Unit) => [(h, zB G (wr f k n))]) (va_A [(h, zB G f)] sz)) 0 0 (va_A [(h, zB G f)] sz) := by
  refine z_met (QK := zQv G (fun (u : Unit) => True) (fun (u : Unit) => [(h, zB G (wr f k n))])) (by decide) (Nat.le_of_ble_eq_true rfl) ?_
  intro p e s m below meth c A H ls hx hb hr hlocks hml hown hin hts hK hP hD hA hS hl
  have hown : s.vm.findClass RX5 = some m.cls := hown
  have hl : lv_has ls 3 [(0, .int n), (1, .ref h), (2, .int (nI k))] := hl
  refine lv_aload_n hx hb dX5_intToBigEndian_0 rfl (lv_at hl 1 rfl) ?_
  refine lv_iload_n hx hb dX5_intToBigEndian_1 rfl (lv_at hl 2 rfl) ?_
  refine lv_iload_n hx hb dX5_intToBigEndian_2 rfl (lv_at hl 0 rfl) ?_
  refine lv_bipush (v := nI 24) hx hb dX5_intToBigEndian_3 (by decide) ?_
  refine lv_iushr (v := (jiushr n (nI 24))) hx hb dX5_intToBigEndian_5 rfl ?_
  refine lv_i2b (v := (jiushr n (nI 24)).toInt8.toInt32) hx hb dX5_intToBigEndian_6 rfl ?_
  refine z_bast (g := (upd f k (jb n 0))) hx hb hK hP hD hS 0 k rfl (by omega) (by rw [jb_b]; rfl) dX5_intToBigEndian_7 (fun H locs hP hD hS => ?_)
  have hP : va_P G.1 vwCl [(h, zB G (upd f k (jb n 0)))] H := hP
  have hD : va_D A [(h, zB G (upd f k (jb n 0)))] := hD
  refine lv_aload_n hx hb dX5_intToBigEndian_8 rfl (lv_at hl 1 rfl) ?_
  refine lv_iinc (v := nI (k + 1)) (lv' := [(2, .int (nI (k + 1))), (0, .int n), (1, .ref h)]) hx hb dX5_intToBigEndian_9 hl (k := 2) rfl (nI_add _ _) (by decide) rfl (fun ls hl => ?_)
  refine lv_iload_n hx hb dX5_intToBigEndian_12 rfl (lv_at hl 0 rfl) ?_
  refine lv_iload_n hx hb dX5_intToBigEndian_13 rfl (lv_at hl 1 rfl) ?_
  refine lv_bipush (v := nI 16) hx hb dX5_intToBigEndian_14 (by decide) ?_
  refine lv_iushr (v := (jiushr n (nI 16))) hx hb dX5_intToBigEndian_16 rfl ?_
  refine lv_i2b (v := (jiushr n (nI 16)).toInt8.toInt32) hx hb dX5_intToBigEndian_17 rfl ?_
  refine z_bast (g := (upd (upd f k (jb n 0)) (k + 1) (jb n 1))) hx hb hK hP hD hS 0 (k + 1) rfl (by omega) (by rw [jb_b]; rfl) dX5_intToBigEndian_18 (fun H locs hP hD hS => ?_)
  have hP : va_P G.1 vwCl [(h, zB G (upd (upd f k (jb n 0)) (k + 1) (jb n 1)))] H := hP
  have hD : va_D A [(h, zB G (upd (upd f k (jb n 0)) (k + 1) (jb n 1)))] := hD
  refine lv_aload_n hx hb dX5_intToBigEndian_19 rfl (lv_at hl 2 rfl) ?_
  refine lv_iinc (v := nI (k + 2)) (lv' := [(2, .int (nI (k + 2))), (0, .int n), (1, .ref h)]) hx hb dX5_intToBigEndian_20 hl (k := 0) rfl (nI_add _ _) (by decide) rfl (fun ls hl => ?_)
  refine lv_iload_n hx hb dX5_intToBigEndian_23 rfl (lv_at hl 0 rfl) ?_
  refine lv_iload_n hx hb dX5_intToBigEndian_24 rfl (lv_at hl 1 rfl) ?_
  refine lv_bipush (v := nI 8) hx hb dX5_intToBigEndian_25 (by decide) ?_
  refine lv_iushr (v := (jiushr n (nI 8))) hx hb dX5_intToBigEndian_27 rfl ?_
  refine lv_i2b (v := (jiushr n (nI 8)).toInt8.toInt32) hx hb dX5_intToBigEndian_28 rfl ?_
  refine z_bast (g := (upd (upd (upd f k (jb n 0)) (k + 1) (jb n 1)) (k + 2) (jb n 2))) hx hb hK hP hD hS 0 (k + 2) rfl (by omega) (by rw [jb_b]; rfl) dX5_intToBigEndian_29 (fun H locs hP hD hS => ?_)
  have hP : va_P G.1 vwCl [(h, zB G (upd (upd (upd f k (jb n 0)) (k + 1) (jb n 1)) (k + 2) (jb n 2)))] H := hP
  have hD : va_D A [(h, zB G (upd (upd (upd f k (jb n 0)) (k + 1) (jb n 1)) (k + 2) (jb n 2)))] := hD
  refine lv_aload_n hx hb dX5_intToBigEndian_30 rfl (lv_at hl 2 rfl) ?_
  refine lv_iinc (v := nI (k + 3)) (lv' := [(2, .int (nI (k + 3))), (0, .int n), (1, .ref h)]) hx hb dX5_intToBigEndian_31 hl (k := 0) rfl (nI_add _ _) (by decide) rfl (fun ls hl => ?_)
  refine lv_iload_n hx hb dX5_intToBigEndian_34 rfl (lv_at hl 0 rfl) ?_
  refine lv_iload_n hx hb dX5_intToBigEndian_35 rfl (lv_at hl 1 rfl) ?_
  refine lv_i2b (v := n.toInt8.toInt32) hx hb dX5_intToBigEndian_36 rfl ?_
  refine z_bast (g := (wr f k n)) hx hb hK hP hD hS 0 (k + 3) rfl (by omega) (by rw [jb_b]; rfl) dX5_intToBigEndian_37 (fun H locs hP hD hS => ?_)
  have hP : va_P G.1 vwCl [(h, zB G (wr f k n))] H := hP
  have hD : va_D A [(h, zB G (wr f k n))] := hD
  exact z_vret () hx hb hr hlocks hK hP hD hS rfl trivial (Nat.le_of_ble_eq_true rfl) (Nat.le_of_ble_eq_true rfl) dX5_intToBigEndian_38
set_option maxHeartbeats 4000000 in
set_option maxRecDepth 100000 in
/-- Pack.longToBigEndian(n, bs, k) -/
theorem met_l2b (l : Launch) (G : z_G) (sz : Nat) (n : Int64) (h : Nat) (f : Nat → Int32) (k : Nat) (hk : k ≤ 8) : Met l yX5_longToBigEndian_2 (ws_ yX5_longToBigEndian_2 cX5_longToBigEndian_2 4 none) ({ frames := 1, cells := 0, slots := 0, locals := 22 }) (zPre G [.long n, .ref h, .int (nI k)] sz [(h, zB G f)]) (zQv G (fun (u : Unit) => True) (fun (u : Unit) => [(h, zB G (wr (wr f k (jhi n)) (k + 4) (jlo n)))]) (va_A [(h, zB G f)] sz)) 0 0 (va_A [(h, zB G f)] sz) := by
  refine z_met (QK := zQv G (fun (u : Unit) => True) (fun (u : Unit) => [(h, zB G (wr (wr f k (jhi n)) (k + 4) (jlo n)))])) (by decide) (Nat.le_of_ble_eq_true rfl) ?_
  intro p e s m below meth c A H ls hx hb hr hlocks hml hown hin hts hK hP hD hA hS hl
  have hown : s.vm.findClass RX5 = some m.cls := hown
  have hl : lv_has ls 4 [(0, .long n), (2, .ref h), (3, .int (nI k))] := hl
  refine lv_lload_n hx hb dX5_longToBigEndian_2_0 rfl (lv_at hl 0 rfl) ?_
  refine lv_bipush (v := nI 32) hx hb dX5_longToBigEndian_2_1 (by decide) ?_
  refine lv_lushr (v := (jlushr n (nI 32))) hx hb dX5_longToBigEndian_2_3 rfl ?_
  refine lv_l2i (v := (jlushr n (nI 32)).toInt32) hx hb dX5_longToBigEndian_2_4 rfl ?_
  refine lv_aload_n hx hb dX5_longToBigEndian_2_5 rfl (lv_at hl 1 rfl) ?_
  refine lv_iload_n hx hb dX5_longToBigEndian_2_6 rfl (lv_at hl 2 rfl) ?_
  refine z_Sv (As := [.int ((jlushr n (nI 32)).toInt32), .ref h, .int (nI k)]) (rest := []) (wc := [(h, zB G f)]) (wr := []) ⟨hx, hb, hml, hown, hts⟩ (met_i2b l G H.size ((jlushr n (nI 32)).toInt32) h f k (by omega)) (va_cwS 3 hts (lw_S q134 q135 q5 q136) rfl rfl rfl (by decide +kernel) ⟨Nat.le_of_ble_eq_true rfl, Nat.le_of_ble_eq_true rfl⟩) hK hP hD hS hA (z_whole _) rfl hl.1 rfl (Nat.le_of_ble_eq_true rfl) dX5_longToBigEndian_2_7 ⟨Nat.le_of_ble_eq_true rfl, Nat.le_of_ble_eq_true rfl⟩ (fun u H locs hw hP hD hS => ?_)
  have hP : va_P G.1 vwCl [(h, zB G (wr f k ((jlushr n (nI 32)).toInt32)))] H := hP
  have hD : va_D A [(h, zB G (wr f k ((jlushr n (nI 32)).toInt32)))] := hD
  refine lv_lload_n hx hb dX5_longToBigEndian_2_10 rfl (lv_at hl 0 rfl) ?_
  refine lv_ldc2 (v := 4294967295) hx hb hown (hts _ q67) dX5_longToBigEndian_2_11 ?_
  refine lv_land hx hb dX5_longToBigEndian_2_14 ?_
  refine lv_l2i (v := (n &&& 4294967295).toInt32) hx hb dX5_longToBigEndian_2_15 rfl ?_
  refine lv_aload_n hx hb dX5_longToBigEndian_2_16 rfl (lv_at hl 1 rfl) ?_
  refine lv_iload_n hx hb dX5_longToBigEndian_2_17 rfl (lv_at hl 2 rfl) ?_
  refine lv_iconst (v := nI 4) hx hb dX5_longToBigEndian_2_18 (by decide) ?_
  refine lv_iadd hx hb dX5_longToBigEndian_2_19 ?_
  rw [nI_add]
  refine z_Sv (As := [.int ((n &&& 4294967295).toInt32), .ref h, .int (nI (k + 4))]) (rest := []) (wc := [(h, zB G (wr f k ((jlushr n (nI 32)).toInt32)))]) (wr := []) ⟨hx, hb, hml, hown, hts⟩ (met_i2b l G H.size ((n &&& 4294967295).toInt32) h (wr f k ((jlushr n (nI 32)).toInt32)) (k + 4) (by omega)) (va_cwS 3 hts (lw_S q134 q135 q5 q136) rfl rfl rfl (by decide +kernel) ⟨Nat.le_of_ble_eq_true rfl, Nat.le_of_ble_eq_true rfl⟩) hK hP hD hS hA (z_whole _) rfl hl.1 rfl (Nat.le_of_ble_eq_true rfl) dX5_longToBigEndian_2_20 ⟨Nat.le_of_ble_eq_true rfl, Nat.le_of_ble_eq_true rfl⟩ (fun u H locs hw hP hD hS => ?_)
  have hP : va_P G.1 vwCl [(h, zB G (wr (wr f k ((jlushr n (nI 32)).toInt32)) (k + 4) ((n &&& 4294967295).toInt32)))] H := hP
  have hD : va_D A [(h, zB G (wr (wr f k ((jlushr n (nI 32)).toInt32)) (k + 4) ((n &&& 4294967295).toInt32)))] := hD
  exact z_vret () hx hb hr hlocks hK hP hD hS rfl trivial (Nat.le_of_ble_eq_true rfl) (Nat.le_of_ble_eq_true rfl) dX5_longToBigEndian_2_23
set_option maxHeartbeats 4000000 in
set_option maxRecDepth 100000 in
/-- Pack.longToBigEndian(ns, 0, 2, bs, 0) -/
theorem met_l2bs (l : Launch) (G : z_G) (sz : Nat) (h2 h : Nat) (a b : Int64) (w0 w1 w2 w3 : Int32) : Met l yX5_longToBigEndian (ws_ yX5_longToBigEndian cX5_longToBigEndian 6 none) ({ frames := 2, cells := 0, slots := 0, locals := 45 }) (zPre G [.ref h2, .int (nI 0), .int (nI 2), .ref h, .int (nI 0)] sz [(h2, zL2 G a b), (h, zB G (Bw w0 w1 w2 w3))]) (zQv G (fun (u : Unit) => True) (fun (u : Unit) => [(h2, zL2 G a b), (h, zB G (Bw (jhi a) (jlo a) (jhi b) (jlo b)))]) (va_A [(h2, zL2 G a b), (h, zB G (Bw w0 w1 w2 w3))] sz)) 0 0 (va_A [(h2, zL2 G a b), (h, zB G (Bw w0 w1 w2 w3))] sz) := by
  refine z_met (QK := zQv G (fun (u : Unit) => True) (fun (u : Unit) => [(h2, zL2 G a b), (h, zB G (Bw (jhi a) (jlo a) (jhi b) (jlo b)))])) (by decide) (Nat.le_of_ble_eq_true rfl) ?_
  intro p e s m below meth c A H ls hx hb hr hlocks hml hown hin hts hK hP hD hA hS hl
  have hown : s.vm.findClass RX5 = some m.cls := hown
  have hl : lv_has ls 6 [(0, .ref h2), (1, .int (nI 0)), (2, .int (nI 2)), (3, .ref h), (4, .int (nI 0))] := hl
  refine lv_iconst (v := nI 0) hx hb dX5_longToBigEndian_0 (by decide) ?_
  refine lv_istore (lv' := [(5, .int (nI 0)), (0, .ref h2), (1, .int (nI 0)), (2, .int (nI 2)), (3, .ref h), (4, .int (nI 0))]) hx hb dX5_longToBigEndian_1 hl (by decide) rfl (fun ls hl => ?_)
  refine lv_iload hx hb dX5_longToBigEndian_3 (lv_at hl 0 rfl) ?_
  refine lv_iload_n hx hb dX5_longToBigEndian_5 rfl (lv_at hl 3 rfl) ?_
  refine lv_icmp_ge (tgt := 30) hx hb dX5_longToBigEndian_6 (by decide) (fun c_ => absurd c_ (by decide +kernel)) (fun _ => ?_)
  refine lv_aload_n hx hb dX5_longToBigEndian_9 rfl (lv_at hl 1 rfl) ?_
  refine lv_iload_n hx hb dX5_longToBigEndian_10 rfl (lv_at hl 2 rfl) ?_
  refine lv_iload hx hb dX5_longToBigEndian_11 (lv_at hl 0 rfl) ?_
  refine lv_iadd hx hb dX5_longToBigEndian_13 ?_
  rw [show nI 0 + nI 0 = nI 0 from nI_add 0 0]
  refine z_lald (v := a) hx hb hK hP 0 0 rfl (by decide) (by decide) rfl dX5_longToBigEndian_14 ?_
  refine lv_aload_n hx hb dX5_longToBigEndian_15 rfl (lv_at hl 4 rfl) ?_
  refine lv_iload hx hb dX5_longToBigEndian_16 (lv_at hl 5 rfl) ?_
  refine z_Sv (As := [.long a, .ref h, .int (nI 0)]) (rest := []) (wc := [(h, zB G (Bw w0 w1 w2 w3))]) (wr := [(h2, zL2 G a b)]) ⟨hx, hb, hml, hown, hts⟩ (met_l2b l G H.size a h (Bw w0 w1 w2 w3) 0 (by decide)) (va_cwS 3 hts (lw_S q131 q132 q5 q133) rfl rfl rfl (by decide +kernel) ⟨Nat.le_of_ble_eq_true rfl, Nat.le_of_ble_eq_true rfl⟩) hK hP hD hS hA (z_ix [1] [0] rfl rfl rfl rfl rfl (by decide)) rfl hl.1 rfl (Nat.le_of_ble_eq_true rfl) dX5_longToBigEndian_18 ⟨Nat.le_of_ble_eq_true rfl, Nat.le_of_ble_eq_true rfl⟩ (fun u H locs hw hP hD hS => ?_)
  have hP : va_P G.1 vwCl [(h2, zL2 G a b), (h, zB G (wr (wr (Bw w0 w1 w2 w3) 0 (jhi a)) 4 (jlo a)))] H := hP
  have hD : va_D A [(h2, zL2 G a b), (h, zB G (wr (wr (Bw w0 w1 w2 w3) 0 (jhi a)) 4 (jlo a)))] := hD
  rw [wr_0, wr_4] at hP hD
  have hP : va_P G.1 vwCl [(h2, zL2 G a b), (h, zB G (Bw (jhi a) (jlo a) w2 w3))] H := hP
  have hD : va_D A [(h2, zL2 G a b), (h, zB G (Bw (jhi a) (jlo a) w2 w3))] := hD
  refine lv_iinc (v := nI 8) (lv' := [(4, .int (nI 8)), (5, .int (nI 0)), (0, .ref h2), (1, .int (nI 0)), (2, .int (nI 2)), (3, .ref h)]) hx hb dX5_longToBigEndian_21 hl (k := 5) rfl (by decide) (by decide) rfl (fun ls hl => ?_)
  refine lv_iinc (v := nI 1) (lv' := [(5, .int (nI 1)), (4, .int (nI 8)), (0, .ref h2), (1, .int (nI 0)), (2, .int (nI 2)), (3, .ref h)]) hx hb dX5_longToBigEndian_24 hl (k := 1) rfl (by decide) (by decide) rfl (fun ls hl => ?_)
  refine lv_goto (tgt := 3) hx hb dX5_longToBigEndian_27 (by decide) ?_
  refine lv_iload hx hb dX5_longToBigEndian_3 (lv_at hl 0 rfl) ?_
  refine lv_iload_n hx hb dX5_longToBigEndian_5 rfl (lv_at hl 4 rfl) ?_
  refine lv_icmp_ge (tgt := 30) hx hb dX5_longToBigEndian_6 (by decide) (fun c_ => absurd c_ (by decide +kernel)) (fun _ => ?_)
  refine lv_aload_n hx hb dX5_longToBigEndian_9 rfl (lv_at hl 2 rfl) ?_
  refine lv_iload_n hx hb dX5_longToBigEndian_10 rfl (lv_at hl 3 rfl) ?_
  refine lv_iload hx hb dX5_longToBigEndian_11 (lv_at hl 0 rfl) ?_
  refine lv_iadd hx hb dX5_longToBigEndian_13 ?_
  rw [show nI 0 + nI 1 = nI 1 from nI_add 0 1]
  refine z_lald (v := b) hx hb hK hP 0 1 rfl (by decide) (by decide) rfl dX5_longToBigEndian_14 ?_
  refine lv_aload_n hx hb dX5_longToBigEndian_15 rfl (lv_at hl 5 rfl) ?_
  refine lv_iload hx hb dX5_longToBigEndian_16 (lv_at hl 1 rfl) ?_
  refine z_Sv (As := [.long b, .ref h, .int (nI 8)]) (rest := []) (wc := [(h, zB G (Bw (jhi a) (jlo a) w2 w3))]) (wr := [(h2, zL2 G a b)]) ⟨hx, hb, hml, hown, hts⟩ (met_l2b l G H.size b h (Bw (jhi a) (jlo a) w2 w3) 8 (by decide)) (va_cwS 3 hts (lw_S q131 q132 q5 q133) rfl rfl rfl (by decide +kernel) ⟨Nat.le_of_ble_eq_true rfl, Nat.le_of_ble_eq_true rfl⟩) hK hP hD hS hA (z_ix [1] [0] rfl rfl rfl rfl rfl (by decide)) rfl hl.1 rfl (Nat.le_of_ble_eq_true rfl) dX5_longToBigEndian_18 ⟨Nat.le_of_ble_eq_true rfl, Nat.le_of_ble_eq_true rfl⟩ (fun u H locs hw hP hD hS => ?_)
  have hP : va_P G.1 vwCl [(h2, zL2 G a b), (h, zB G (wr (wr (Bw (jhi a) (jlo a) w2 w3) 8 (jhi b)) 12 (jlo b)))] H := hP
  have hD : va_D A [(h2, zL2 G a b), (h, zB G (wr (wr (Bw (jhi a) (jlo a) w2 w3) 8 (jhi b)) 12 (jlo b)))] := hD
  rw [wr_8, wr_12] at hP hD
  have hP : va_P G.1 vwCl [(h2, zL2 G a b), (h, zB G (Bw (jhi a) (jlo a) (jhi b) (jlo b)))] H := hP
  have hD : va_D A [(h2, zL2 G a b), (h, zB G (Bw (jhi a) (jlo a) (jhi b) (jlo b)))] := hD
  refine lv_iinc (v := nI 16) (lv' := [(4, .int (nI 16)), (5, .int (nI 1)), (0, .ref h2), (1, .int (nI 0)), (2, .int (nI 2)), (3, .ref h)]) hx hb dX5_longToBigEndian_21 hl (k := 1) rfl (by decide) (by decide) rfl (fun ls hl => ?_)
  refine lv_iinc (v := nI 2) (lv' := [(5, .int (nI 2)), (4, .int (nI 16)), (0, .ref h2), (1, .int (nI 0)), (2, .int (nI 2)), (3, .ref h)]) hx hb dX5_longToBigEndian_24 hl (k := 1) rfl (by decide) (by decide) rfl (fun ls hl => ?_)
  refine lv_goto (tgt := 3) hx hb dX5_longToBigEndian_27 (by decide) ?_
  refine lv_iload hx hb dX5_longToBigEndian_3 (lv_at hl 0 rfl) ?_
  refine lv_iload_n hx hb dX5_longToBigEndian_5 rfl (lv_at hl 4 rfl) ?_
  refine lv_icmp_ge (tgt := 30) hx hb dX5_longToBigEndian_6 (by decide) (fun _ => ?_) (fun c_ => absurd (by decide +kernel) c_)
  exact z_vret () hx hb hr hlocks hK hP hD hS rfl trivial (Nat.le_of_ble_eq_true rfl) (Nat.le_of_ble_eq_true rfl) dX5_longToBigEndian_30
end
section
/-! Interleave and GCMUtil -/
def jper (x : Int64) : Int64 :=
  let r1 : Int64 := jbps x 4294901760 (nI 16)
  let r2 : Int64 := jbps r1 280375465148160 (nI 8)
  let r3 : Int64 := jbps r2 67555025218437360 (nI 4)
  let r4 : Int64 := jbps r3 868082074056920076 (nI 2)
  let r5 : Int64 := jbps r4 2459565876494606882 (nI 1)
  r5
def jx0 (x : Int64) : Int64 := jper x &&& (-6148914691236517206)
def jx1 (x : Int64) : Int64 := jlshl (jper x) (nI 1) &&& (-6148914691236517206)
set_option maxHeartbeats 4000000 in
set_option maxRecDepth 100000 in
/-- Interleave.expand64To128Rev(x, z, k) -/
theorem met_expand (l : Launch) (G : z_G) (sz : Nat) (x : Int64) (h : Nat) (f : Nat → Int64) (k : Nat) (hk : k ≤ 2) : Met l yX7_expand64To128Rev (ws_ yX7_expand64To128Rev cX7_expand64To128Rev 4 none) ({ frames := 1, cells := 0, slots := 0, locals := 26 }) (zPre G [.long x, .ref h, .int (nI k)] sz [(h, zF G 4 f)]) (zQv G (fun (u : Unit) => True) (fun (u : Unit) => [(h, zF G 4 (vp_updL (vp_updL f k (jx0 x)) (k + 1) (jx1 x)))]) (va_A [(h, zF G 4 f)] sz)) 0 0 (va_A [(h, zF G 4 f)] sz) := by
  refine z_met (QK := zQv G (fun (u : Unit) => True) (fun (u : Unit) => [(h, zF G 4 (vp_updL (vp_updL f k (jx0 x)) (k + 1) (jx1 x)))])) (by decide) (Nat.le_of_ble_eq_true rfl) ?_
  intro p e s m below meth c A H ls hx hb hr hlocks hml hown hin hts hK hP hD hA hS hl
  have hown : s.vm.findClass RX7 = some m.cls := hown
  have hl : lv_has ls 4 [(0, .long x), (2, .ref h), (3, .int (nI k))] := hl
  refine lv_lload_n hx hb dX7_expand64To128Rev_0 rfl (lv_at hl 0 rfl) ?_
  refine lv_ldc2 (v := 4294901760) hx hb hown (hts _ q116) dX7_expand64To128Rev_1 ?_
  refine lv_bipush (v := nI 16) hx hb dX7_expand64To128Rev_4 (by decide) ?_
  refine z_Sl (As := [.long x, .long 4294901760, .int (nI 16)]) (rest := []) (wc := []) (wr := [(h, zF G 4 f)]) ⟨hx, hb, hml, hown, hts⟩ (met_bps l G H.size x 4294901760 (nI 16)) (va_cwS 3 hts (lw_S q117 q118 q10 q119) rfl rfl rfl (by decide +kernel) ⟨Nat.le_of_ble_eq_true rfl, Nat.le_of_ble_eq_true rfl⟩) hK hP hD hS hA (z_none _) rfl hl.1 rfl (Nat.le_of_ble_eq_true rfl) dX7_expand64To128Rev_6 ⟨Nat.le_of_ble_eq_true rfl, Nat.le_of_ble_eq_true rfl⟩ (fun r1 u H locs hw hP hD hS => ?_)
  have hP : va_P G.1 vwCl [(h, zF G 4 f)] H := hP
  have hD : va_D A [(h, zF G 4 f)] := hD
  have er1 : r1 = jbps x 4294901760 (nI 16) := hw
  refine lv_lstore_n (lv' := [(0, .long r1), (2, .ref h), (3, .int (nI k))]) hx hb dX7_expand64To128Rev_9 rfl hl (by decide) rfl (fun ls hl => ?_)
  refine lv_lload_n hx hb dX7_expand64To128Rev_10 rfl (lv_at hl 0 rfl) ?_
  refine lv_ldc2 (v := 280375465148160) hx hb hown (hts _ q120) dX7_expand64To128Rev_11 ?_
  refine lv_bipush (v := nI 8) hx hb dX7_expand64To128Rev_14 (by decide) ?_
  refine z_Sl (As := [.long r1, .long 280375465148160, .int (nI 8)]) (rest := []) (wc := []) (wr := [(h, zF G 4 f)]) ⟨hx, hb, hml, hown, hts⟩ (met_bps l G H.size r1 280375465148160 (nI 8)) (va_cwS 3 hts (lw_S q117 q118 q10 q119) rfl rfl rfl (by decide +kernel) ⟨Nat.le_of_ble_eq_true rfl, Nat.le_of_ble_eq_true rfl⟩) hK hP hD hS hA (z_none _) rfl hl.1 rfl (Nat.le_of_ble_eq_true rfl) dX7_expand64To128Rev_16 ⟨Nat.le_of_ble_eq_true rfl, Nat.le_of_ble_eq_true rfl⟩ (fun r2 u H locs hw hP hD hS => ?_)
  have hP : va_P G.1 vwCl [(h, zF G 4 f)] H := hP
  have hD : va_D A [(h, zF G 4 f)] := hD
  have er2 : r2 = jbps r1 280375465148160 (nI 8) := hw
  refine lv_lstore_n (lv' := [(0, .long r2), (2, .ref h), (3, .int (nI k))]) hx hb dX7_expand64To128Rev_19 rfl hl (by decide) rfl (fun ls hl => ?_)
  refine lv_lload_n hx hb dX7_expand64To128Rev_20 rfl (lv_at hl 0 rfl) ?_
  refine lv_ldc2 (v := 67555025218437360) hx hb hown (hts _ q121) dX7_expand64To128Rev_21 ?_
  refine lv_iconst (v := nI 4) hx hb dX7_expand64To128Rev_24 (by decide) ?_
  refine z_Sl (As := [.long r2, .long 67555025218437360, .int (nI 4)]) (rest := []) (wc := []) (wr := [(h, zF G 4 f)]) ⟨hx, hb, hml, hown, hts⟩ (met_bps l G H.size r2 67555025218437360 (nI 4)) (va_cwS 3 hts (lw_S q117 q118 q10 q119) rfl rfl rfl (by decide +kernel) ⟨Nat.le_of_ble_eq_true rfl, Nat.le_of_ble_eq_true rfl⟩) hK hP hD hS hA (z_none _) rfl hl.1 rfl (Nat.le_of_ble_eq_true rfl) dX7_expand64To128Rev_25 ⟨Nat.le_of_ble_eq_true rfl, Nat.le_of_ble_eq_true rfl⟩ (fun r3 u H locs hw hP hD hS => ?_)
  have hP : va_P G.1 vwCl [(h, zF G 4 f)] H := hP
  have hD : va_D A [(h, zF G 4 f)] := hD
  have er3 : r3 = jbps r2 67555025218437360 (nI 4) := hw
  refine lv_lstore_n (lv' := [(0, .long r3), (2, .ref h), (3, .int (nI k))]) hx hb dX7_expand64To128Rev_28 rfl hl (by decide) rfl (fun ls hl => ?_)
  refine lv_lload_n hx hb dX7_expand64To128Rev_29 rfl (lv_at hl 0 rfl) ?_
  refine lv_ldc2 (v := 868082074056920076) hx hb hown (hts _ q122) dX7_expand64To128Rev_30 ?_
  refine lv_iconst (v := nI 2) hx hb dX7_expand64To128Rev_33 (by decide) ?_
  refine z_Sl (As := [.long r3, .long 868082074056920076, .int (nI 2)]) (rest := []) (wc := []) (wr := [(h, zF G 4 f)]) ⟨hx, hb, hml, hown, hts⟩ (met_bps l G H.size r3 868082074056920076 (nI 2)) (va_cwS 3 hts (lw_S q117 q118 q10 q119) rfl rfl rfl (by decide +kernel) ⟨Nat.le_of_ble_eq_true rfl, Nat.le_of_ble_eq_true rfl⟩) hK hP hD hS hA (z_none _) rfl hl.1 rfl (Nat.le_of_ble_eq_true rfl) dX7_expand64To128Rev_34 ⟨Nat.le_of_ble_eq_true rfl, Nat.le_of_ble_eq_true rfl⟩ (fun r4 u H locs hw hP hD hS => ?_)
  have hP : va_P G.1 vwCl [(h, zF G 4 f)] H := hP
  have hD : va_D A [(h, zF G 4 f)] := hD
  have er4 : r4 = jbps r3 868082074056920076 (nI 2) := hw
  refine lv_lstore_n (lv' := [(0, .long r4), (2, .ref h), (3, .int (nI k))]) hx hb dX7_expand64To128Rev_37 rfl hl (by decide) rfl (fun ls hl => ?_)
  refine lv_lload_n hx hb dX7_expand64To128Rev_38 rfl (lv_at hl 0 rfl) ?_
  refine lv_ldc2 (v := 2459565876494606882) hx hb hown (hts _ q123) dX7_expand64To128Rev_39 ?_
  refine lv_iconst (v := nI 1) hx hb dX7_expand64To128Rev_42 (by decide) ?_
  refine z_Sl (As := [.long r4, .long 2459565876494606882, .int (nI 1)]) (rest := []) (wc := []) (wr := [(h, zF G 4 f)]) ⟨hx, hb, hml, hown, hts⟩ (met_bps l G H.size r4 2459565876494606882 (nI 1)) (va_cwS 3 hts (lw_S q117 q118 q10 q119) rfl rfl rfl (by decide +kernel) ⟨Nat.le_of_ble_eq_true rfl, Nat.le_of_ble_eq_true rfl⟩) hK hP hD hS hA (z_none _) rfl hl.1 rfl (Nat.le_of_ble_eq_true rfl) dX7_expand64To128Rev_43 ⟨Nat.le_of_ble_eq_true rfl, Nat.le_of_ble_eq_true rfl⟩ (fun r5 u H locs hw hP hD hS => ?_)
  have hP : va_P G.1 vwCl [(h, zF G 4 f)] H := hP
  have hD : va_D A [(h, zF G 4 f)] := hD
  have er5 : r5 = jbps r4 2459565876494606882 (nI 1) := hw
  refine lv_lstore_n (lv' := [(0, .long r5), (2, .ref h), (3, .int (nI k))]) hx hb dX7_expand64To128Rev_46 rfl hl (by decide) rfl (fun ls hl => ?_)
  refine lv_aload_n hx hb dX7_expand64To128Rev_47 rfl (lv_at hl 1 rfl) ?_
  refine lv_iload_n hx hb dX7_expand64To128Rev_48 rfl (lv_at hl 2 rfl) ?_
  refine lv_lload_n hx hb dX7_expand64To128Rev_49 rfl (lv_at hl 0 rfl) ?_
  refine lv_ldc2 (v := (-6148914691236517206)) hx hb hown (hts _ q124) dX7_expand64To128Rev_50 ?_
  refine lv_land hx hb dX7_expand64To128Rev_53 ?_
  refine z_last (g := vp_updL f k (r5 &&& (-6148914691236517206))) hx hb hK hP hD hS 0 k rfl (by omega) (by decide) rfl dX7_expand64To128Rev_54 (fun H locs hP hD hS => ?_)
  have hP : va_P G.1 vwCl [(h, zF G 4 (vp_updL f k (r5 &&& (-6148914691236517206))))] H := hP
  have hD : va_D A [(h, zF G 4 (vp_updL f k (r5 &&& (-6148914691236517206))))] := hD
  refine lv_aload_n hx hb dX7_expand64To128Rev_55 rfl (lv_at hl 1 rfl) ?_
  refine lv_iload_n hx hb dX7_expand64To128Rev_56 rfl (lv_at hl 2 rfl) ?_
  refine lv_iconst (v := nI 1) hx hb dX7_expand64To128Rev_57 (by decide) ?_
  refine lv_iadd hx hb dX7_expand64To128Rev_58 ?_
  rw [nI_add]
  refine lv_lload_n hx hb dX7_expand64To128Rev_59 rfl (lv_at hl 0 rfl) ?_
  refine lv_iconst (v := nI 1) hx hb dX7_expand64To128Rev_60 (by decide) ?_
  refine lv_lshl (v := (jlshl r5 (nI 1))) hx hb dX7_expand64To128Rev_61 rfl ?_
  refine lv_ldc2 (v := (-6148914691236517206)) hx hb hown (hts _ q124) dX7_expand64To128Rev_62 ?_
  refine lv_land hx hb dX7_expand64To128Rev_65 ?_
  refine z_last (g := vp_updL (vp_updL f k (r5 &&& (-6148914691236517206))) (k + 1) ((jlshl r5 (nI 1)) &&& (-6148914691236517206))) hx hb hK hP hD hS 0 (k + 1) rfl (by omega) (by decide) rfl dX7_expand64To128Rev_66 (fun H locs hP hD hS => ?_)
  have hP : va_P G.1 vwCl [(h, zF G 4 (vp_updL (vp_updL f k (r5 &&& (-6148914691236517206))) (k + 1) ((jlshl r5 (nI 1)) &&& (-6148914691236517206))))] H := hP
  have hD : va_D A [(h, zF G 4 (vp_updL (vp_updL f k (r5 &&& (-6148914691236517206))) (k + 1) ((jlshl r5 (nI 1)) &&& (-6148914691236517206))))] := hD
  exact z_vret () hx hb hr hlocks hK hP hD hS (by subst er5; subst er4; subst er3; subst er2; subst er1; rfl) trivial (Nat.le_of_ble_eq_true rfl) (Nat.le_of_ble_eq_true rfl) dX7_expand64To128Rev_67
set_option maxHeartbeats 4000000 in
set_option maxRecDepth 100000 in
/-- GCMUtil.oneAsLongs() -/
theorem met_one (l : Launch) (G : z_G) (sz : Nat) : Met l yX4_oneAsLongs (ws_ yX4_oneAsLongs cX4_oneAsLongs 1 (some (.array .long))) ({ frames := 0, cells := 1, slots := 2, locals := 0 }) (zPre G [] sz []) (zQr G (fun (u : Unit) => True) (fun (u : Unit) (a : Nat) => [(a, zL2 G (-9223372036854775808) 0)]) (va_A [] sz)) 1 2 (va_A [] sz) := by
  refine z_met (QK := zQr G (fun (u : Unit) => True) (fun (u : Unit) (a : Nat) => [(a, zL2 G (-9223372036854775808) 0)])) (by decide) (Nat.le_of_ble_eq_true rfl) ?_
  intro p e s m below meth c A H ls hx hb hr hlocks hml hown hin hts hK hP hD hA hS hl
  have hown : s.vm.findClass RX4 = some m.cls := hown
  have hl : lv_has ls 1 [] := hl
  refine lv_iconst (v := nI 2) hx hb dX4_oneAsLongs_0 (by decide) ?_
  refine z_newL (g := L2 0 0) hx hb hts hK hP hD hS hA 2 L2_z (by decide) (Nat.le_of_ble_eq_true rfl) (Nat.le_of_ble_eq_true rfl) dX4_oneAsLongs_1 (fun q1 H hP hD hS => ?_)
  have hP : va_P G.1 vwCl [(q1, zL2 G 0 0)] H := hP
  have hD : va_D A [(q1, zL2 G 0 0)] := hD
  refine lv_astore_n (lv' := [(0, .ref q1)]) hx hb dX4_oneAsLongs_3 rfl hl (by decide) rfl (fun ls hl => ?_)
  refine lv_aload_n hx hb dX4_oneAsLongs_4 rfl (lv_at hl 0 rfl) ?_
  refine lv_iconst (v := nI 0) hx hb dX4_oneAsLongs_5 (by decide) ?_
  refine lv_ldc2 (v := (-9223372036854775808)) hx hb hown (hts _ q82) dX4_oneAsLongs_6 ?_
  refine z_last (g := L2 (-9223372036854775808) 0) hx hb hK hP hD hS 0 0 rfl (by decide) (by decide) (L2_s0 _ _ _) dX4_oneAsLongs_9 (fun H locs hP hD hS => ?_)
  have hP : va_P G.1 vwCl [(q1, zL2 G (-9223372036854775808) 0)] H := hP
  have hD : va_D A [(q1, zL2 G (-9223372036854775808) 0)] := hD
  refine lv_aload_n hx hb dX4_oneAsLongs_10 rfl (lv_at hl 0 rfl) ?_
  exact z_aret () hx hb hr hlocks hK hP hD hS rfl trivial (Nat.le_of_ble_eq_true rfl) (Nat.le_of_ble_eq_true rfl) dX4_oneAsLongs_11
set_option maxHeartbeats 4000000 in
set_option maxRecDepth 100000 in
/-- GCMUtil.copy(x, z) -/
theorem met_copy (l : Launch) (G : z_G) (sz : Nat) (h h2 : Nat) (a b c0 c1 : Int64) : Met l yX4_copy (ws_ yX4_copy cX4_copy 2 none) ({ frames := 0, cells := 0, slots := 0, locals := 0 }) (zPre G [.ref h, .ref h2] sz [(h, zL2 G a b), (h2, zL2 G c0 c1)]) (zQv G (fun (u : Unit) => True) (fun (u : Unit) => [(h, zL2 G a b), (h2, zL2 G a b)]) (va_A [(h, zL2 G a b), (h2, zL2 G c0 c1)] sz)) 0 0 (va_A [(h, zL2 G a b), (h2, zL2 G c0 c1)] sz) := by
  refine z_met (QK := zQv G (fun (u : Unit) => True) (fun (u : Unit) => [(h, zL2 G a b), (h2, zL2 G a b)])) (by decide) (Nat.le_of_ble_eq_true rfl) ?_
  intro p e s m below meth c A H ls hx hb hr hlocks hml hown hin hts hK hP hD hA hS hl
  have hown : s.vm.findClass RX4 = some m.cls := hown
  have hl : lv_has ls 2 [(0, .ref h), (1, .ref h2)] := hl
  refine lv_aload_n hx hb dX4_copy_0 rfl (lv_at hl 1 rfl) ?_
  refine lv_iconst (v := nI 0) hx hb dX4_copy_1 (by decide) ?_
  refine lv_aload_n hx hb dX4_copy_2 rfl (lv_at hl 0 rfl) ?_
  refine lv_iconst (v := nI 0) hx hb dX4_copy_3 (by decide) ?_
  refine z_lald (v := a) hx hb hK hP 0 0 rfl (by decide) (by decide) rfl dX4_copy_4 ?_
  refine z_last (g := L2 a c1) hx hb hK hP hD hS 1 0 rfl (by decide) (by decide) (L2_s0 _ _ _) dX4_copy_5 (fun H locs hP hD hS => ?_)
  have hP : va_P G.1 vwCl [(h, zL2 G a b), (h2, zL2 G a c1)] H := hP
  have hD : va_D A [(h, zL2 G a b), (h2, zL2 G a c1)] := hD
  refine lv_aload_n hx hb dX4_copy_6 rfl (lv_at hl 1 rfl) ?_
  refine lv_iconst (v := nI 1) hx hb dX4_copy_7 (by decide) ?_
  refine lv_aload_n hx hb dX4_copy_8 rfl (lv_at hl 0 rfl) ?_
  refine lv_iconst (v := nI 1) hx hb dX4_copy_9 (by decide) ?_
  refine z_lald (v := b) hx hb hK hP 0 1 rfl (by decide) (by decide) rfl dX4_copy_10 ?_
  refine z_last (g := L2 a b) hx hb hK hP hD hS 1 1 rfl (by decide) (by decide) (L2_s1 _ _ _) dX4_copy_11 (fun H locs hP hD hS => ?_)
  have hP : va_P G.1 vwCl [(h, zL2 G a b), (h2, zL2 G a b)] H := hP
  have hD : va_D A [(h, zL2 G a b), (h2, zL2 G a b)] := hD
  exact z_vret () hx hb hr hlocks hK hP hD hS rfl trivial (Nat.le_of_ble_eq_true rfl) (Nat.le_of_ble_eq_true rfl) dX4_copy_12
set_option maxHeartbeats 4000000 in
set_option maxRecDepth 100000 in
/-- GCMUtil.asBytes(x, z) -/
theorem met_asBytes (l : Launch) (G : z_G) (sz : Nat) (h2 h : Nat) (a b : Int64) (w0 w1 w2 w3 : Int32) : Met l yX4_asBytes (ws_ yX4_asBytes cX4_asBytes 2 none) ({ frames := 3, cells := 0, slots := 0, locals := 70 }) (zPre G [.ref h2, .ref h] sz [(h2, zL2 G a b), (h, zB G (Bw w0 w1 w2 w3))]) (zQv G (fun (u : Unit) => True) (fun (u : Unit) => [(h2, zL2 G a b), (h, zB G (Bw (jhi a) (jlo a) (jhi b) (jlo b)))]) (va_A [(h2, zL2 G a b), (h, zB G (Bw w0 w1 w2 w3))] sz)) 0 0 (va_A [(h2, zL2 G a b), (h, zB G (Bw w0 w1 w2 w3))] sz) := by
  refine z_met (QK := zQv G (fun (u : Unit) => True) (fun (u : Unit) => [(h2, zL2 G a b), (h, zB G (Bw (jhi a) (jlo a) (jhi b) (jlo b)))])) (by decide) (Nat.le_of_ble_eq_true rfl) ?_
  intro p e s m below meth c A H ls hx hb hr hlocks hml hown hin hts hK hP hD hA hS hl
  have hown : s.vm.findClass RX4 = some m.cls := hown
  have hl : lv_has ls 2 [(0, .ref h2), (1, .ref h)] := hl
  refine lv_aload_n hx hb dX4_asBytes_0 rfl (lv_at hl 0 rfl) ?_
  refine lv_iconst (v := nI 0) hx hb dX4_asBytes_1 (by decide) ?_
  refine lv_iconst (v := nI 2) hx hb dX4_asBytes_2 (by decide) ?_
  refine lv_aload_n hx hb dX4_asBytes_3 rfl (lv_at hl 1 rfl) ?_
  refine lv_iconst (v := nI 0) hx hb dX4_asBytes_4 (by decide) ?_
  refine z_Sv (As := [.ref h2, .int (nI 0), .int (nI 2), .ref h, .int (nI 0)]) (rest := []) (wc := [(h2, zL2 G a b), (h, zB G (Bw w0 w1 w2 w3))]) (wr := []) ⟨hx, hb, hml, hown, hts⟩ (met_l2bs l G H.size h2 h a b w0 w1 w2 w3) (va_cwS 5 hts (lw_S q128 q129 q5 q130) rfl rfl rfl (by decide +kernel) ⟨Nat.le_of_ble_eq_true rfl, Nat.le_of_ble_eq_true rfl⟩) hK hP hD hS hA (z_whole _) rfl hl.1 rfl (Nat.le_of_ble_eq_true rfl) dX4_asBytes_5 ⟨Nat.le_of_ble_eq_true rfl, Nat.le_of_ble_eq_true rfl⟩ (fun u H locs hw hP hD hS => ?_)
  have hP : va_P G.1 vwCl [(h2, zL2 G a b), (h, zB G (Bw (jhi a) (jlo a) (jhi b) (jlo b)))] H := hP
  have hD : va_D A [(h2, zL2 G a b), (h, zB G (Bw (jhi a) (jlo a) (jhi b) (jlo b)))] := hD
  exact z_vret () hx hb hr hlocks hK hP hD hS rfl trivial (Nat.le_of_ble_eq_true rfl) (Nat.le_of_ble_eq_true rfl) dX4_asBytes_8
set_option maxHeartbeats 4000000 in
set_option maxRecDepth 100000 in
/-- GCMUtil.asLongs(x) -/
theorem met_asLongs (l : Launch) (G : z_G) (sz : Nat) (h : Nat) (f : Nat → Int32) : Met l yX4_asLongs (ws_ yX4_asLongs cX4_asLongs 2 (some (.array .long))) ({ frames := 3, cells := 1, slots := 2, locals := 70 }) (zPre G [.ref h] sz [(h, zB G f)]) (zQr G (fun (u : Unit) => True) (fun (u : Unit) (a : Nat) => [(a, zL2 G (jB2L f 0) (jB2L f 8)), (h, zB G f)]) (va_A [(h, zB G f)] sz)) 1 2 (va_A [(h, zB G f)] sz) := by
  refine z_met (QK := zQr G (fun (u : Unit) => True) (fun (u : Unit) (a : Nat) => [(a, zL2 G (jB2L f 0) (jB2L f 8)), (h, zB G f)])) (by decide) (Nat.le_of_ble_eq_true rfl) ?_
  intro p e s m below meth c A H ls hx hb hr hlocks hml hown hin hts hK hP hD hA hS hl
  have hown : s.vm.findClass RX4 = some m.cls := hown
  have hl : lv_has ls 2 [(0, .ref h)] := hl
  refine lv_iconst (v := nI 2) hx hb dX4_asLongs_0 (by decide) ?_
  refine z_newL (g := L2 0 0) hx hb hts hK hP hD hS hA 2 L2_z (by decide) (Nat.le_of_ble_eq_true rfl) (Nat.le_of_ble_eq_true rfl) dX4_asLongs_1 (fun q1 H hP hD hS => ?_)
  have hP : va_P G.1 vwCl [(h, zB G f), (q1, zL2 G 0 0)] H := hP
  have hD : va_D A [(h, zB G f), (q1, zL2 G 0 0)] := hD
  refine lv_astore_n (lv' := [(1, .ref q1), (0, .ref h)]) hx hb dX4_asLongs_3 rfl hl (by decide) rfl (fun ls hl => ?_)
  refine lv_aload_n hx hb dX4_asLongs_4 rfl (lv_at hl 1 rfl) ?_
  refine lv_iconst (v := nI 0) hx hb dX4_asLongs_5 (by decide) ?_
  refine lv_aload_n hx hb dX4_asLongs_6 rfl (lv_at hl 0 rfl) ?_
  refine lv_iconst (v := nI 0) hx hb dX4_asLongs_7 (by decide) ?_
  refine lv_iconst (v := nI 2) hx hb dX4_asLongs_8 (by decide) ?_
  refine z_Sv (As := [.ref h, .int (nI 0), .ref q1, .int (nI 0), .int (nI 2)]) (rest := []) (wc := [(h, zB G f), (q1, zL2 G 0 0)]) (wr := []) ⟨hx, hb, hml, hown, hts⟩ (met_b2ls l G H.size h q1 f 0 0) (va_cwS 5 hts (lw_S q58 q59 q5 q60) rfl rfl rfl (by decide +kernel) ⟨Nat.le_of_ble_eq_true rfl, Nat.le_of_ble_eq_true rfl⟩) hK hP hD hS hA (z_whole _) rfl hl.1 rfl (Nat.le_of_ble_eq_true rfl) dX4_asLongs_9 ⟨Nat.le_of_ble_eq_true rfl, Nat.le_of_ble_eq_true rfl⟩ (fun u H locs hw hP hD hS => ?_)
  have hP : va_P G.1 vwCl [(q1, zL2 G (jB2L f 0) (jB2L f 8)), (h, zB G f)] H := hP
  have hD : va_D A [(q1, zL2 G (jB2L f 0) (jB2L f 8)), (h, zB G f)] := hD
  refine lv_aload_n hx hb dX4_asLongs_12 rfl (lv_at hl 0 rfl) ?_
  exact z_aret () hx hb hr hlocks hK hP hD hS rfl trivial (Nat.le_of_ble_eq_true rfl) (Nat.le_of_ble_eq_true rfl) dX4_asLongs_13
def jmul (x0 x1 y0 y1 : Int64) : Int64 × Int64 :=
  let r1 : Int64 := jlrev x0
  let r2 : Int64 := jlrev x1
  let r3 : Int64 := jlrev y0
  let r4 : Int64 := jlrev y1
  let r5 : Int64 := jimpl r1 r3
  let r6 : Int64 := jlrev r5
  let r7 : Int64 := jimpl x0 y0
  let z8 : Int64 := (jlshl r7 (nI 1))
  let r9 : Int64 := jimpl r2 r4
  let r10 : Int64 := jlrev r9
  let r11 : Int64 := jimpl x1 y1
  let z12 : Int64 := (jlshl r11 (nI 1))
  let r13 : Int64 := jimpl (r1 ^^^ r2) (r3 ^^^ r4)
  let r14 : Int64 := jlrev r13
  let r15 : Int64 := jimpl (x0 ^^^ x1) (y0 ^^^ y1)
  let z16 : Int64 := (jlshl r15 (nI 1))
  let z17 : Int64 := (((z8 ^^^ r6) ^^^ r10) ^^^ r14)
  let z18 : Int64 := (((r10 ^^^ z8) ^^^ z12) ^^^ z16)
  let z19 : Int64 := (z17 ^^^ (((z12 ^^^ (jlushr z12 (nI 1))) ^^^ (jlushr z12 (nI 2))) ^^^ (jlushr z12 (nI 7))))
  let z20 : Int64 := (z18 ^^^ ((jlshl z12 (nI 62)) ^^^ (jlshl z12 (nI 57))))
  let z21 : Int64 := (r6 ^^^ (((z20 ^^^ (jlushr z20 (nI 1))) ^^^ (jlushr z20 (nI 2))) ^^^ (jlushr z20 (nI 7))))
  let z22 : Int64 := (z19 ^^^ (((jlshl z20 (nI 63)) ^^^ (jlshl z20 (nI 62))) ^^^ (jlshl z20 (nI 57))))
  (z21, z22)
set_option maxHeartbeats 4000000 in
set_option maxRecDepth 100000 in
/-- GCMUtil.multiply(x, y) -/
theorem met_multiply (l : Launch) (G : z_G) (sz : Nat) (h h2 : Nat) (x0 x1 y0 y1 : Int64) : Met l yX4_multiply (ws_ yX4_multiply cX4_multiply 38 none) ({ frames := 3, cells := 0, slots := 0, locals := 63 }) (zPre G [.ref h, .ref h2] sz [(h, zL2 G x0 x1), (h2, zL2 G y0 y1)]) (zQv G (fun (u : Unit) => True) (fun (u : Unit) => [(h, zL2 G (jmul x0 x1 y0 y1).1 (jmul x0 x1 y0 y1).2), (h2, zL2 G y0 y1)]) (va_A [(h, zL2 G x0 x1), (h2, zL2 G y0 y1)] sz)) 0 0 (va_A [(h, zL2 G x0 x1), (h2, zL2 G y0 y1)] sz) := by
  refine z_met (QK := zQv G (fun (u : Unit) => True) (fun (u : Unit) => [(h, zL2 G (jmul x0 x1 y0 y1).1 (jmul x0 x1 y0 y1).2), (h2, zL2 G y0 y1)])) (by decide) (Nat.le_of_ble_eq_true rfl) ?_
  intro p e s m below meth c A H ls hx hb hr hlocks hml hown hin hts hK hP hD hA hS hl
  have hown : s.vm.findClass RX4 = some m.cls := hown
  have hl : lv_has ls 38 [(0, .ref h), (1, .ref h2)] := hl
  refine lv_aload_n hx hb dX4_multiply_0 rfl (lv_at hl 0 rfl) ?_
  refine lv_iconst (v := nI 0) hx hb dX4_multiply_1 (by decide) ?_
  refine z_lald (v := x0) hx hb hK hP 0 0 rfl (by decide) (by decide) rfl dX4_multiply_2 ?_
  refine lv_lstore_n (lv' := [(2, .long x0), (0, .ref h), (1, .ref h2)]) hx hb dX4_multiply_3 rfl hl (by decide) rfl (fun ls hl => ?_)
  refine lv_aload_n hx hb dX4_multiply_4 rfl (lv_at hl 1 rfl) ?_
  refine lv_iconst (v := nI 1) hx hb dX4_multiply_5 (by decide) ?_
  refine z_lald (v := x1) hx hb hK hP 0 1 rfl (by decide) (by decide) rfl dX4_multiply_6 ?_
  refine lv_lstore (lv' := [(4, .long x1), (2, .long x0), (0, .ref h), (1, .ref h2)]) hx hb dX4_multiply_7 hl (by decide) rfl (fun ls hl => ?_)
  refine lv_aload_n hx hb dX4_multiply_9 rfl (lv_at hl 3 rfl) ?_
  refine lv_iconst (v := nI 0) hx hb dX4_multiply_10 (by decide) ?_
  refine z_lald (v := y0) hx hb hK hP 1 0 rfl (by decide) (by decide) rfl dX4_multiply_11 ?_
  refine lv_lstore (lv' := [(6, .long y0), (4, .long x1), (2, .long x0), (0, .ref h), (1, .ref h2)]) hx hb dX4_multiply_12 hl (by decide) rfl (fun ls hl => ?_)
  refine lv_aload_n hx hb dX4_multiply_14 rfl (lv_at hl 4 rfl) ?_
  refine lv_iconst (v := nI 1) hx hb dX4_multiply_15 (by decide) ?_
  refine z_lald (v := y1) hx hb hK hP 1 1 rfl (by decide) (by decide) rfl dX4_multiply_16 ?_
  refine lv_lstore (lv' := [(8, .long y1), (6, .long y0), (4, .long x1), (2, .long x0), (0, .ref h), (1, .ref h2)]) hx hb dX4_multiply_17 hl (by decide) rfl (fun ls hl => ?_)
  refine lv_lload_n hx hb dX4_multiply_19 rfl (lv_at hl 3 rfl) ?_
  refine z_Sl (As := [.long x0]) (rest := []) (wc := []) (wr := [(h, zL2 G x0 x1), (h2, zL2 G y0 y1)]) ⟨hx, hb, hml, hown, hts⟩ (met_lreverse l G H.size x0) (va_cwS 1 hts (lw_S q89 q90 q6 q91) rfl rfl rfl (by decide +kernel) ⟨Nat.le_of_ble_eq_true rfl, Nat.le_of_ble_eq_true rfl⟩) hK hP hD hS hA (z_none _) rfl hl.1 rfl (Nat.le_of_ble_eq_true rfl) dX4_multiply_20 ⟨Nat.le_of_ble_eq_true rfl, Nat.le_of_ble_eq_true rfl⟩ (fun r1 u H locs hw hP hD hS => ?_)
  have hP : va_P G.1 vwCl [(h, zL2 G x0 x1), (h2, zL2 G y0 y1)] H := hP
  have hD : va_D A [(h, zL2 G x0 x1), (h2, zL2 G y0 y1)] := hD
  have er1 : r1 = jlrev x0 := hw
  refine lv_lstore (lv' := [(10, .long r1), (8, .long y1), (6, .long y0), (4, .long x1), (2, .long x0), (0, .ref h), (1, .ref h2)]) hx hb dX4_multiply_23 hl (by decide) rfl (fun ls hl => ?_)
  refine lv_lload hx hb dX4_multiply_25 (lv_at hl 3 rfl) ?_
  refine z_Sl (As := [.long x1]) (rest := []) (wc := []) (wr := [(h, zL2 G x0 x1), (h2, zL2 G y0 y1)]) ⟨hx, hb, hml, hown, hts⟩ (met_lreverse l G H.size x1) (va_cwS 1 hts (lw_S q89 q90 q6 q91) rfl rfl rfl (by decide +kernel) ⟨Nat.le_of_ble_eq_true rfl, Nat.le_of_ble_eq_true rfl⟩) hK hP hD hS hA (z_none _) rfl hl.1 rfl (Nat.le_of_ble_eq_true rfl) dX4_multiply_27 ⟨Nat.le_of_ble_eq_true rfl, Nat.le_of_ble_eq_true rfl⟩ (fun r2 u H locs hw hP hD hS => ?_)
  have hP : va_P G.1 vwCl [(h, zL2 G x0 x1), (h2, zL2 G y0 y1)] H := hP
  have hD : va_D A [(h, zL2 G x0 x1), (h2, zL2 G y0 y1)] := hD
  have er2 : r2 = jlrev x1 := hw
  refine lv_lstore (lv' := [(12, .long r2), (10, .long r1), (8, .long y1), (6, .long y0), (4, .long x1), (2, .long x0), (0, .ref h), (1, .ref h2)]) hx hb dX4_multiply_30 hl (by decide) rfl (fun ls hl => ?_)
  refine lv_lload hx hb dX4_multiply_32 (lv_at hl 3 rfl) ?_
  refine z_Sl (As := [.long y0]) (rest := []) (wc := []) (wr := [(h, zL2 G x0 x1), (h2, zL2 G y0 y1)]) ⟨hx, hb, hml, hown, hts⟩ (met_lreverse l G H.size y0) (va_cwS 1 hts (lw_S q89 q90 q6 q91) rfl rfl rfl (by decide +kernel) ⟨Nat.le_of_ble_eq_true rfl, Nat.le_of_ble_eq_true rfl⟩) hK hP hD hS hA (z_none _) rfl hl.1 rfl (Nat.le_of_ble_eq_true rfl) dX4_multiply_34 ⟨Nat.le_of_ble_eq_true rfl, Nat.le_of_ble_eq_true rfl⟩ (fun r3 u H locs hw hP hD hS => ?_)
  have hP : va_P G.1 vwCl [(h, zL2 G x0 x1), (h2, zL2 G y0 y1)] H := hP
  have hD : va_D A [(h, zL2 G x0 x1), (h2, zL2 G y0 y1)] := hD
  have er3 : r3 = jlrev y0 := hw
  refine lv_lstore (lv' := [(14, .long r3), (12, .long r2), (10, .long r1), (8, .long y1), (6, .long y0), (4, .long x1), (2, .long x0), (0, .ref h), (1, .ref h2)]) hx hb dX4_multiply_37 hl (by decide) rfl (fun ls hl => ?_)
  refine lv_lload hx hb dX4_multiply_39 (lv_at hl 3 rfl) ?_
  refine z_Sl (As := [.long y1]) (rest := []) (wc := []) (wr := [(h, zL2 G x0 x1), (h2, zL2 G y0 y1)]) ⟨hx, hb, hml, hown, hts⟩ (met_lreverse l G H.size y1) (va_cwS 1 hts (lw_S q89 q90 q6 q91) rfl rfl rfl (by decide +kernel) ⟨Nat.le_of_ble_eq_true rfl, Nat.le_of_ble_eq_true rfl⟩) hK hP hD hS hA (z_none _) rfl hl.1 rfl (Nat.le_of_ble_eq_true rfl) dX4_multiply_41 ⟨Nat.le_of_ble_eq_true rfl, Nat.le_of_ble_eq_true rfl⟩ (fun r4 u H locs hw hP hD hS => ?_)
  have hP : va_P G.1 vwCl [(h, zL2 G x0 x1), (h2, zL2 G y0 y1)] H := hP
  have hD : va_D A [(h, zL2 G x0 x1), (h2, zL2 G y0 y1)] := hD
  have er4 : r4 = jlrev y1 := hw
  refine lv_lstore (lv' := [(16, .long r4), (14, .long r3), (12, .long r2), (10, .long r1), (8, .long y1), (6, .long y0), (4, .long x1), (2, .long x0), (0, .ref h), (1, .ref h2)]) hx hb dX4_multiply_44 hl (by decide) rfl (fun ls hl => ?_)
  refine lv_lload hx hb dX4_multiply_46 (lv_at hl 3 rfl) ?_
  refine lv_lload hx hb dX4_multiply_48 (lv_at hl 1 rfl) ?_
  refine z_Sl (As := [.long r1, .long r3]) (rest := []) (wc := []) (wr := [(h, zL2 G x0 x1), (h2, zL2 G y0 y1)]) ⟨hx, hb, hml, hown, hts⟩ (met_impl l G H.size r1 r3) (va_cwS 2 hts (lw_S q103 q104 q4 q105) rfl rfl rfl (by decide +kernel) ⟨Nat.le_of_ble_eq_true rfl, Nat.le_of_ble_eq_true rfl⟩) hK hP hD hS hA (z_none _) rfl hl.1 rfl (Nat.le_of_ble_eq_true rfl) dX4_multiply_50 ⟨Nat.le_of_ble_eq_true rfl, Nat.le_of_ble_eq_true rfl⟩ (fun r5 u H locs hw hP hD hS => ?_)
  have hP : va_P G.1 vwCl [(h, zL2 G x0 x1), (h2, zL2 G y0 y1)] H := hP
  have hD : va_D A [(h, zL2 G x0 x1), (h2, zL2 G y0 y1)] := hD
  have er5 : r5 = jimpl r1 r3 := hw
  refine z_Sl (As := [.long r5]) (rest := []) (wc := []) (wr := [(h, zL2 G x0 x1), (h2, zL2 G y0 y1)]) ⟨hx, hb, hml, hown, hts⟩ (met_lreverse l G H.size r5) (va_cwS 1 hts (lw_S q89 q90 q6 q91) rfl rfl rfl (by decide +kernel) ⟨Nat.le_of_ble_eq_true rfl, Nat.le_of_ble_eq_true rfl⟩) hK hP hD hS hA (z_none _) rfl hl.1 rfl (Nat.le_of_ble_eq_true rfl) dX4_multiply_53 ⟨Nat.le_of_ble_eq_true rfl, Nat.le_of_ble_eq_true rfl⟩ (fun r6 u H locs hw hP hD hS => ?_)
  have hP : va_P G.1 vwCl [(h, zL2 G x0 x1), (h2, zL2 G y0 y1)] H := hP
  have hD : va_D A [(h, zL2 G x0 x1), (h2, zL2 G y0 y1)] := hD
  have er6 : r6 = jlrev r5 := hw
  refine lv_lstore (lv' := [(18, .long r6), (16, .long r4), (14, .long r3), (12, .long r2), (10, .long r1), (8, .long y1), (6, .long y0), (4, .long x1), (2, .long x0), (0, .ref h), (1, .ref h2)]) hx hb dX4_multiply_56 hl (by decide) rfl (fun ls hl => ?_)
  refine lv_lload_n hx hb dX4_multiply_58 rfl (lv_at hl 8 rfl) ?_
  refine lv_lload hx hb dX4_multiply_59 (lv_at hl 6 rfl) ?_
  refine z_Sl (As := [.long x0, .long y0]) (rest := []) (wc := []) (wr := [(h, zL2 G x0 x1), (h2, zL2 G y0 y1)]) ⟨hx, hb, hml, hown, hts⟩ (met_impl l G H.size x0 y0) (va_cwS 2 hts (lw_S q103 q104 q4 q105) rfl rfl rfl (by decide +kernel) ⟨Nat.le_of_ble_eq_true rfl, Nat.le_of_ble_eq_true rfl⟩) hK hP hD hS hA (z_none _) rfl hl.1 rfl (Nat.le_of_ble_eq_true rfl) dX4_multiply_61 ⟨Nat.le_of_ble_eq_true rfl, Nat.le_of_ble_eq_true rfl⟩ (fun r7 u H locs hw hP hD hS => ?_)
  have hP : va_P G.1 vwCl [(h, zL2 G x0 x1), (h2, zL2 G y0 y1)] H := hP
  have hD : va_D A [(h, zL2 G x0 x1), (h2, zL2 G y0 y1)] := hD
  have er7 : r7 = jimpl x0 y0 := hw
  refine lv_iconst (v := nI 1) hx hb dX4_multiply_64 (by decide) ?_
  refine lv_lshl (v := (jlshl r7 (nI 1))) hx hb dX4_multiply_65 rfl ?_
  refine lv_topl (fun z8 ez8 => ?_)
  refine lv_lstore (lv' := [(20, .long z8), (18, .long r6), (16, .long r4), (14, .long r3), (12, .long r2), (10, .long r1), (8, .long y1), (6, .long y0), (4, .long x1), (2, .long x0), (0, .ref h), (1, .ref h2)]) hx hb dX4_multiply_66 hl (by decide) rfl (fun ls hl => ?_)
  refine lv_lload hx hb dX4_multiply_68 (lv_at hl 4 rfl) ?_
  refine lv_lload hx hb dX4_multiply_70 (lv_at hl 2 rfl) ?_
  refine z_Sl (As := [.long r2, .long r4]) (rest := []) (wc := []) (wr := [(h, zL2 G x0 x1), (h2, zL2 G y0 y1)]) ⟨hx, hb, hml, hown, hts⟩ (met_impl l G H.size r2 r4) (va_cwS 2 hts (lw_S q103 q104 q4 q105) rfl rfl rfl (by decide +kernel) ⟨Nat.le_of_ble_eq_true rfl, Nat.le_of_ble_eq_true rfl⟩) hK hP hD hS hA (z_none _) rfl hl.1 rfl (Nat.le_of_ble_eq_true rfl) dX4_multiply_72 ⟨Nat.le_of_ble_eq_true rfl, Nat.le_of_ble_eq_true rfl⟩ (fun r9 u H locs hw hP hD hS => ?_)
  have hP : va_P G.1 vwCl [(h, zL2 G x0 x1), (h2, zL2 G y0 y1)] H := hP
  have hD : va_D A [(h, zL2 G x0 x1), (h2, zL2 G y0 y1)] := hD
  have er9 : r9 = jimpl r2 r4 := hw
  refine z_Sl (As := [.long r9]) (rest := []) (wc := []) (wr := [(h, zL2 G x0 x1), (h2, zL2 G y0 y1)]) ⟨hx, hb, hml, hown, hts⟩ (met_lreverse l G H.size r9) (va_cwS 1 hts (lw_S q89 q90 q6 q91) rfl rfl rfl (by decide +kernel) ⟨Nat.le_of_ble_eq_true rfl, Nat.le_of_ble_eq_true rfl⟩) hK hP hD hS hA (z_none _) rfl hl.1 rfl (Nat.le_of_ble_eq_true rfl) dX4_multiply_75 ⟨Nat.le_of_ble_eq_true rfl, Nat.le_of_ble_eq_true rfl⟩ (fun r10 u H locs hw hP hD hS => ?_)
  have hP : va_P G.1 vwCl [(h, zL2 G x0 x1), (h2, zL2 G y0 y1)] H := hP
  have hD : va_D A [(h, zL2 G x0 x1), (h2, zL2 G y0 y1)] := hD
  have er10 : r10 = jlrev r9 := hw
  refine lv_lstore (lv' := [(22, .long r10), (20, .long z8), (18, .long r6), (16, .long r4), (14, .long r3), (12, .long r2), (10, .long r1), (8, .long y1), (6, .long y0), (4, .long x1), (2, .long x0), (0, .ref h), (1, .ref h2)]) hx hb dX4_multiply_78 hl (by decide) rfl (fun ls hl => ?_)
  refine lv_lload hx hb dX4_multiply_80 (lv_at hl 9 rfl) ?_
  refine lv_lload hx hb dX4_multiply_82 (lv_at hl 7 rfl) ?_
  refine z_Sl (As := [.long x1, .long y1]) (rest := []) (wc := []) (wr := [(h, zL2 G x0 x1), (h2, zL2 G y0 y1)]) ⟨hx, hb, hml, hown, hts⟩ (met_impl l G H.size x1 y1) (va_cwS 2 hts (lw_S q103 q104 q4 q105) rfl rfl rfl (by decide +kernel) ⟨Nat.le_of_ble_eq_true rfl, Nat.le_of_ble_eq_true rfl⟩) hK hP hD hS hA (z_none _) rfl hl.1 rfl (Nat.le_of_ble_eq_true rfl) dX4_multiply_84 ⟨Nat.le_of_ble_eq_true rfl, Nat.le_of_ble_eq_true rfl⟩ (fun r11 u H locs hw hP hD hS => ?_)
  have hP : va_P G.1 vwCl [(h, zL2 G x0 x1), (h2, zL2 G y0 y1)] H := hP
  have hD : va_D A [(h, zL2 G x0 x1), (h2, zL2 G y0 y1)] := hD
  have er11 : r11 = jimpl x1 y1 := hw
  refine lv_iconst (v := nI 1) hx hb dX4_multiply_87 (by decide) ?_
  refine lv_lshl (v := (jlshl r11 (nI 1))) hx hb dX4_multiply_88 rfl ?_
  refine lv_topl (fun z12 ez12 => ?_)
  refine lv_lstore (lv' := [(24, .long z12), (22, .long r10), (20, .long z8), (18, .long r6), (16, .long r4), (14, .long r3), (12, .long r2), (10, .long r1), (8, .long y1), (6, .long y0), (4, .long x1), (2, .long x0), (0, .ref h), (1, .ref h2)]) hx hb dX4_multiply_89 hl (by decide) rfl (fun ls hl => ?_)
  refine lv_lload hx hb dX4_multiply_91 (lv_at hl 7 rfl) ?_
  refine lv_lload hx hb dX4_multiply_93 (lv_at hl 6 rfl) ?_
  refine lv_lxor hx hb dX4_multiply_95 ?_
  refine lv_lload hx hb dX4_multiply_96 (lv_at hl 5 rfl) ?_
  refine lv_lload hx hb dX4_multiply_98 (lv_at hl 4 rfl) ?_
  refine lv_lxor hx hb dX4_multiply_100 ?_
  refine z_Sl (As := [.long (r1 ^^^ r2), .long (r3 ^^^ r4)]) (rest := []) (wc := []) (wr := [(h, zL2 G x0 x1), (h2, zL2 G y0 y1)]) ⟨hx, hb, hml, hown, hts⟩ (met_impl l G H.size (r1 ^^^ r2) (r3 ^^^ r4)) (va_cwS 2 hts (lw_S q103 q104 q4 q105) rfl rfl rfl (by decide +kernel) ⟨Nat.le_of_ble_eq_true rfl, Nat.le_of_ble_eq_true rfl⟩) hK hP hD hS hA (z_none _) rfl hl.1 rfl (Nat.le_of_ble_eq_true rfl) dX4_multiply_101 ⟨Nat.le_of_ble_eq_true rfl, Nat.le_of_ble_eq_true rfl⟩ (fun r13 u H locs hw hP hD hS => ?_)
  have hP : va_P G.1 vwCl [(h, zL2 G x0 x1), (h2, zL2 G y0 y1)] H := hP
  have hD : va_D A [(h, zL2 G x0 x1), (h2, zL2 G y0 y1)] := hD
  have er13 : r13 = jimpl (r1 ^^^ r2) (r3 ^^^ r4) := hw
  refine z_Sl (As := [.long r13]) (rest := []) (wc := []) (wr := [(h, zL2 G x0 x1), (h2, zL2 G y0 y1)]) ⟨hx, hb, hml, hown, hts⟩ (met_lreverse l G H.size r13) (va_cwS 1 hts (lw_S q89 q90 q6 q91) rfl rfl rfl (by decide +kernel) ⟨Nat.le_of_ble_eq_true rfl, Nat.le_of_ble_eq_true rfl⟩) hK hP hD hS hA (z_none _) rfl hl.1 rfl (Nat.le_of_ble_eq_true rfl) dX4_multiply_104 ⟨Nat.le_of_ble_eq_true rfl, Nat.le_of_ble_eq_true rfl⟩ (fun r14 u H locs hw hP hD hS => ?_)
  have hP : va_P G.1 vwCl [(h, zL2 G x0 x1), (h2, zL2 G y0 y1)] H := hP
  have hD : va_D A [(h, zL2 G x0 x1), (h2, zL2 G y0 y1)] := hD
  have er14 : r14 = jlrev r13 := hw
  refine lv_lstore (lv' := [(26, .long r14), (24, .long z12), (22, .long r10), (20, .long z8), (18, .long r6), (16, .long r4), (14, .long r3), (12, .long r2), (10, .long r1), (8, .long y1), (6, .long y0), (4, .long x1), (2, .long x0), (0, .ref h), (1, .ref h2)]) hx hb dX4_multiply_107 hl (by decide) rfl (fun ls hl => ?_)
  refine lv_lload_n hx hb dX4_multiply_109 rfl (lv_at hl 12 rfl) ?_
  refine lv_lload hx hb dX4_multiply_110 (lv_at hl 11 rfl) ?_
  refine lv_lxor hx hb dX4_multiply_112 ?_
  refine lv_lload hx hb dX4_multiply_113 (lv_at hl 10 rfl) ?_
  refine lv_lload hx hb dX4_multiply_115 (lv_at hl 9 rfl) ?_
  refine lv_lxor hx hb dX4_multiply_117 ?_
  refine z_Sl (As := [.long (x0 ^^^ x1), .long (y0 ^^^ y1)]) (rest := []) (wc := []) (wr := [(h, zL2 G x0 x1), (h2, zL2 G y0 y1)]) ⟨hx, hb, hml, hown, hts⟩ (met_impl l G H.size (x0 ^^^ x1) (y0 ^^^ y1)) (va_cwS 2 hts (lw_S q103 q104 q4 q105) rfl rfl rfl (by decide +kernel) ⟨Nat.le_of_ble_eq_true rfl, Nat.le_of_ble_eq_true rfl⟩) hK hP hD hS hA (z_none _) rfl hl.1 rfl (Nat.le_of_ble_eq_true rfl) dX4_multiply_118 ⟨Nat.le_of_ble_eq_true rfl, Nat.le_of_ble_eq_true rfl⟩ (fun r15 u H locs hw hP hD hS => ?_)
  have hP : va_P G.1 vwCl [(h, zL2 G x0 x1), (h2, zL2 G y0 y1)] H := hP
  have hD : va_D A [(h, zL2 G x0 x1), (h2, zL2 G y0 y1)] := hD
  have er15 : r15 = jimpl (x0 ^^^ x1) (y0 ^^^ y1) := hw
  refine lv_iconst (v := nI 1) hx hb dX4_multiply_121 (by decide) ?_
  refine lv_lshl (v := (jlshl r15 (nI 1))) hx hb dX4_multiply_122 rfl ?_
  refine lv_topl (fun z16 ez16 => ?_)
  refine lv_lstore (lv' := [(28, .long z16), (26, .long r14), (24, .long z12), (22, .long r10), (20, .long z8), (18, .long r6), (16, .long r4), (14, .long r3), (12, .long r2), (10, .long r1), (8, .long y1), (6, .long y0), (4, .long x1), (2, .long x0), (0, .ref h), (1, .ref h2)]) hx hb dX4_multiply_123 hl (by decide) rfl (fun ls hl => ?_)
  refine lv_lload hx hb dX4_multiply_125 (lv_at hl 5 rfl) ?_
  refine lv_lstore (lv' := [(30, .long r6), (28, .long z16), (26, .long r14), (24, .long z12), (22, .long r10), (20, .long z8), (18, .long r6), (16, .long r4), (14, .long r3), (12, .long r2), (10, .long r1), (8, .long y1), (6, .long y0), (4, .long x1), (2, .long x0), (0, .ref h), (1, .ref h2)]) hx hb dX4_multiply_127 hl (by decide) rfl (fun ls hl => ?_)
  refine lv_lload hx hb dX4_multiply_129 (lv_at hl 5 rfl) ?_
  refine lv_lload hx hb dX4_multiply_131 (lv_at hl 6 rfl) ?_
  refine lv_lxor hx hb dX4_multiply_133 ?_
  refine lv_lload hx hb dX4_multiply_134 (lv_at hl 4 rfl) ?_
  refine lv_lxor hx hb dX4_multiply_136 ?_
  refine lv_lload hx hb dX4_multiply_137 (lv_at hl 2 rfl) ?_
  refine lv_lxor hx hb dX4_multiply_139 ?_
  refine lv_topl (fun z17 ez17 => ?_)
  refine lv_lstore (lv' := [(32, .long z17), (30, .long r6), (28, .long z16), (26, .long r14), (24, .long z12), (22, .long r10), (20, .long z8), (18, .long r6), (16, .long r4), (14, .long r3), (12, .long r2), (10, .long r1), (8, .long y1), (6, .long y0), (4, .long x1), (2, .long x0), (0, .ref h), (1, .ref h2)]) hx hb dX4_multiply_140 hl (by decide) rfl (fun ls hl => ?_)
  refine lv_lload hx hb dX4_multiply_142 (lv_at hl 5 rfl) ?_
  refine lv_lload hx hb dX4_multiply_144 (lv_at hl 6 rfl) ?_
  refine lv_lxor hx hb dX4_multiply_146 ?_
  refine lv_lload hx hb dX4_multiply_147 (lv_at hl 4 rfl) ?_
  refine lv_lxor hx hb dX4_multiply_149 ?_
  refine lv_lload hx hb dX4_multiply_150 (lv_at hl 2 rfl) ?_
  refine lv_lxor hx hb dX4_multiply_152 ?_
  refine lv_topl (fun z18 ez18 => ?_)
  refine lv_lstore (lv' := [(34, .long z18), (32, .long z17), (30, .long r6), (28, .long z16), (26, .long r14), (24, .long z12), (22, .long r10), (20, .long z8), (18, .long r6), (16, .long r4), (14, .long r3), (12, .long r2), (10, .long r1), (8, .long y1), (6, .long y0), (4, .long x1), (2, .long x0), (0, .ref h), (1, .ref h2)]) hx hb dX4_multiply_153 hl (by decide) rfl (fun ls hl => ?_)
  refine lv_lload hx hb dX4_multiply_155 (lv_at hl 5 rfl) ?_
  refine lv_lstore (lv' := [(36, .long z12), (34, .long z18), (32, .long z17), (30, .long r6), (28, .long z16), (26, .long r14), (24, .long z12), (22, .long r10), (20, .long z8), (18, .long r6), (16, .long r4), (14, .long r3), (12, .long r2), (10, .long r1), (8, .long y1), (6, .long y0), (4, .long x1), (2, .long x0), (0, .ref h), (1, .ref h2)]) hx hb dX4_multiply_157 hl (by decide) rfl (fun ls hl => ?_)
  refine lv_lload hx hb dX4_multiply_159 (lv_at hl 2 rfl) ?_
  refine lv_lload hx hb dX4_multiply_161 (lv_at hl 0 rfl) ?_
  refine lv_lload hx hb dX4_multiply_163 (lv_at hl 0 rfl) ?_
  refine lv_iconst (v := nI 1) hx hb dX4_multiply_165 (by decide) ?_
  refine lv_lushr (v := (jlushr z12 (nI 1))) hx hb dX4_multiply_166 rfl ?_
  refine lv_lxor hx hb dX4_multiply_167 ?_
  refine lv_lload hx hb dX4_multiply_168 (lv_at hl 0 rfl) ?_
  refine lv_iconst (v := nI 2) hx hb dX4_multiply_170 (by decide) ?_
  refine lv_lushr (v := (jlushr z12 (nI 2))) hx hb dX4_multiply_171 rfl ?_
  refine lv_lxor hx hb dX4_multiply_172 ?_
  refine lv_lload hx hb dX4_multiply_173 (lv_at hl 0 rfl) ?_
  refine lv_bipush (v := nI 7) hx hb dX4_multiply_175 (by decide) ?_
  refine lv_lushr (v := (jlushr z12 (nI 7))) hx hb dX4_multiply_177 rfl ?_
  refine lv_lxor hx hb dX4_multiply_178 ?_
  refine lv_lxor hx hb dX4_multiply_179 ?_
  refine lv_topl (fun z19 ez19 => ?_)
  refine lv_lstore (lv' := [(32, .long z19), (36, .long z12), (34, .long z18), (30, .long r6), (28, .long z16), (26, .long r14), (24, .long z12), (22, .long r10), (20, .long z8), (18, .long r6), (16, .long r4), (14, .long r3), (12, .long r2), (10, .long r1), (8, .long y1), (6, .long y0), (4, .long x1), (2, .long x0), (0, .ref h), (1, .ref h2)]) hx hb dX4_multiply_180 hl (by decide) rfl (fun ls hl => ?_)
  refine lv_lload hx hb dX4_multiply_182 (lv_at hl 2 rfl) ?_
  refine lv_lload hx hb dX4_multiply_184 (lv_at hl 1 rfl) ?_
  refine lv_bipush (v := nI 62) hx hb dX4_multiply_186 (by decide) ?_
  refine lv_lshl (v := (jlshl z12 (nI 62))) hx hb dX4_multiply_188 rfl ?_
  refine lv_lload hx hb dX4_multiply_189 (lv_at hl 1 rfl) ?_
  refine lv_bipush (v := nI 57) hx hb dX4_multiply_191 (by decide) ?_
  refine lv_lshl (v := (jlshl z12 (nI 57))) hx hb dX4_multiply_193 rfl ?_
  refine lv_lxor hx hb dX4_multiply_194 ?_
  refine lv_lxor hx hb dX4_multiply_195 ?_
  refine lv_topl (fun z20 ez20 => ?_)
  refine lv_lstore (lv' := [(34, .long z20), (32, .long z19), (36, .long z12), (30, .long r6), (28, .long z16), (26, .long r14), (24, .long z12), (22, .long r10), (20, .long z8), (18, .long r6), (16, .long r4), (14, .long r3), (12, .long r2), (10, .long r1), (8, .long y1), (6, .long y0), (4, .long x1), (2, .long x0), (0, .ref h), (1, .ref h2)]) hx hb dX4_multiply_196 hl (by decide) rfl (fun ls hl => ?_)
  refine lv_lload hx hb dX4_multiply_198 (lv_at hl 3 rfl) ?_
  refine lv_lload hx hb dX4_multiply_200 (lv_at hl 0 rfl) ?_
  refine lv_lload hx hb dX4_multiply_202 (lv_at hl 0 rfl) ?_
  refine lv_iconst (v := nI 1) hx hb dX4_multiply_204 (by decide) ?_
  refine lv_lushr (v := (jlushr z20 (nI 1))) hx hb dX4_multiply_205 rfl ?_
  refine lv_lxor hx hb dX4_multiply_206 ?_
  refine lv_lload hx hb dX4_multiply_207 (lv_at hl 0 rfl) ?_
  refine lv_iconst (v := nI 2) hx hb dX4_multiply_209 (by decide) ?_
  refine lv_lushr (v := (jlushr z20 (nI 2))) hx hb dX4_multiply_210 rfl ?_
  refine lv_lxor hx hb dX4_multiply_211 ?_
  refine lv_lload hx hb dX4_multiply_212 (lv_at hl 0 rfl) ?_
  refine lv_bipush (v := nI 7) hx hb dX4_multiply_214 (by decide) ?_
  refine lv_lushr (v := (jlushr z20 (nI 7))) hx hb dX4_multiply_216 rfl ?_
  refine lv_lxor hx hb dX4_multiply_217 ?_
  refine lv_lxor hx hb dX4_multiply_218 ?_
  refine lv_topl (fun z21 ez21 => ?_)
  refine lv_lstore (lv' := [(30, .long z21), (34, .long z20), (32, .long z19), (36, .long z12), (28, .long z16), (26, .long r14), (24, .long z12), (22, .long r10), (20, .long z8), (18, .long r6), (16, .long r4), (14, .long r3), (12, .long r2), (10, .long r1), (8, .long y1), (6, .long y0), (4, .long x1), (2, .long x0), (0, .ref h), (1, .ref h2)]) hx hb dX4_multiply_219 hl (by decide) rfl (fun ls hl => ?_)
  refine lv_lload hx hb dX4_multiply_221 (lv_at hl 2 rfl) ?_
  refine lv_lload hx hb dX4_multiply_223 (lv_at hl 1 rfl) ?_
  refine lv_bipush (v := nI 63) hx hb dX4_multiply_225 (by decide) ?_
  refine lv_lshl (v := (jlshl z20 (nI 63))) hx hb dX4_multiply_227 rfl ?_
  refine lv_lload hx hb dX4_multiply_228 (lv_at hl 1 rfl) ?_
  refine lv_bipush (v := nI 62) hx hb dX4_multiply_230 (by decide) ?_
  refine lv_lshl (v := (jlshl z20 (nI 62))) hx hb dX4_multiply_232 rfl ?_
  refine lv_lxor hx hb dX4_multiply_233 ?_
  refine lv_lload hx hb dX4_multiply_234 (lv_at hl 1 rfl) ?_
  refine lv_bipush (v := nI 57) hx hb dX4_multiply_236 (by decide) ?_
  refine lv_lshl (v := (jlshl z20 (nI 57))) hx hb dX4_multiply_238 rfl ?_
  refine lv_lxor hx hb dX4_multiply_239 ?_
  refine lv_lxor hx hb dX4_multiply_240 ?_
  refine lv_topl (fun z22 ez22 => ?_)
  refine lv_lstore (lv' := [(32, .long z22), (30, .long z21), (34, .long z20), (36, .long z12), (28, .long z16), (26, .long r14), (24, .long z12), (22, .long r10), (20, .long z8), (18, .long r6), (16, .long r4), (14, .long r3), (12, .long r2), (10, .long r1), (8, .long y1), (6, .long y0), (4, .long x1), (2, .long x0), (0, .ref h), (1, .ref h2)]) hx hb dX4_multiply_241 hl (by decide) rfl (fun ls hl => ?_)
  refine lv_aload_n hx hb dX4_multiply_243 rfl (lv_at hl 18 rfl) ?_
  refine lv_iconst (v := nI 0) hx hb dX4_multiply_244 (by decide) ?_
  refine lv_lload hx hb dX4_multiply_245 (lv_at hl 1 rfl) ?_
  refine z_last (g := L2 z21 x1) hx hb hK hP hD hS 0 0 rfl (by decide) (by decide) (L2_s0 _ _ _) dX4_multiply_247 (fun H locs hP hD hS => ?_)
  have hP : va_P G.1 vwCl [(h, zL2 G z21 x1), (h2, zL2 G y0 y1)] H := hP
  have hD : va_D A [(h, zL2 G z21 x1), (h2, zL2 G y0 y1)] := hD
  refine lv_aload_n hx hb dX4_multiply_248 rfl (lv_at hl 18 rfl) ?_
  refine lv_iconst (v := nI 1) hx hb dX4_multiply_249 (by decide) ?_
  refine lv_lload hx hb dX4_multiply_250 (lv_at hl 0 rfl) ?_
  refine z_last (g := L2 z21 z22) hx hb hK hP hD hS 0 1 rfl (by decide) (by decide) (L2_s1 _ _ _) dX4_multiply_252 (fun H locs hP hD hS => ?_)
  have hP : va_P G.1 vwCl [(h, zL2 G z21 z22), (h2, zL2 G y0 y1)] H := hP
  have hD : va_D A [(h, zL2 G z21 z22), (h2, zL2 G y0 y1)] := hD
  exact z_vret () hx hb hr hlocks hK hP hD hS (by subst ez22; subst ez21; subst ez20; subst ez19; subst ez18; subst ez17; subst ez16; subst er15; subst er14; subst er13; subst ez12; subst er11; subst er10; subst er9; subst ez8; subst er7; subst er6; subst er5; subst er4; subst er3; subst er2; subst er1; rfl) trivial (Nat.le_of_ble_eq_true rfl) (Nat.le_of_ble_eq_true rfl) dX4_multiply_253
def jsq (x0 x1 : Int64) : Int64 × Int64 :=
  let z4 : Int64 := jx0 x0
  let z5 : Int64 := jx1 x0
  let z6 : Int64 := jx0 x1
  let z7 : Int64 := jx1 x1
  let z8 : Int64 := (z5 ^^^ (((z7 ^^^ (jlushr z7 (nI 1))) ^^^ (jlushr z7 (nI 2))) ^^^ (jlushr z7 (nI 7))))
  let z9 : Int64 := (z6 ^^^ (((jlshl z7 (nI 63)) ^^^ (jlshl z7 (nI 62))) ^^^ (jlshl z7 (nI 57))))
  let z10 : Int64 := (z4 ^^^ (((z9 ^^^ (jlushr z9 (nI 1))) ^^^ (jlushr z9 (nI 2))) ^^^ (jlushr z9 (nI 7))))
  let z11 : Int64 := (z8 ^^^ (((jlshl z9 (nI 63)) ^^^ (jlshl z9 (nI 62))) ^^^ (jlshl z9 (nI 57))))
  (z10, z11)
set_option maxHeartbeats 4000000 in
set_option maxRecDepth 100000 in
/-- GCMUtil.square(x, x) -/
theorem met_square (l : Launch) (G : z_G) (sz : Nat) (h : Nat) (x0 x1 : Int64) : Met l yX4_square (ws_ yX4_square cX4_square 11 none) ({ frames := 2, cells := 1, slots := 4, locals := 49 }) (zPre G [.ref h, .ref h] sz [(h, zL2 G x0 x1)]) (zQv G (fun (u : Unit) => True) (fun (u : Unit) => [(h, zL2 G (jsq x0 x1).1 (jsq x0 x1).2)]) (va_A [(h, zL2 G x0 x1)] sz)) 1 4 (va_A [(h, zL2 G x0 x1)] sz) := by
  refine z_met (QK := zQv G (fun (u : Unit) => True) (fun (u : Unit) => [(h, zL2 G (jsq x0 x1).1 (jsq x0 x1).2)])) (by decide) (Nat.le_of_ble_eq_true rfl) ?_
  intro p e s m below meth c A H ls hx hb hr hlocks hml hown hin hts hK hP hD hA hS hl
  have hown : s.vm.findClass RX4 = some m.cls := hown
  have hl : lv_has ls 11 [(0, .ref h), (1, .ref h)] := hl
  refine lv_iconst (v := nI 4) hx hb dX4_square_0 (by decide) ?_
  refine z_newL (g := L4 0 0 0 0) hx hb hts hK hP hD hS hA 4 L4_z (by decide) (Nat.le_of_ble_eq_true rfl) (Nat.le_of_ble_eq_true rfl) dX4_square_1 (fun q1 H hP hD hS => ?_)
  have hP : va_P G.1 vwCl [(h, zL2 G x0 x1), (q1, zL4 G 0 0 0 0)] H := hP
  have hD : va_D A [(h, zL2 G x0 x1), (q1, zL4 G 0 0 0 0)] := hD
  refine lv_astore_n (lv' := [(2, .ref q1), (0, .ref h), (1, .ref h)]) hx hb dX4_square_3 rfl hl (by decide) rfl (fun ls hl => ?_)
  refine lv_aload_n hx hb dX4_square_4 rfl (lv_at hl 1 rfl) ?_
  refine lv_iconst (v := nI 0) hx hb dX4_square_5 (by decide) ?_
  refine z_lald (v := x0) hx hb hK hP 0 0 rfl (by decide) (by decide) rfl dX4_square_6 ?_
  refine lv_aload_n hx hb dX4_square_7 rfl (lv_at hl 0 rfl) ?_
  refine lv_iconst (v := nI 0) hx hb dX4_square_8 (by decide) ?_
  refine z_Sv (As := [.long x0, .ref q1, .int (nI 0)]) (rest := []) (wc := [(q1, zL4 G 0 0 0 0)]) (wr := [(h, zL2 G x0 x1)]) ⟨hx, hb, hml, hown, hts⟩ (met_expand l G H.size x0 q1 (L4 0 0 0 0) 0 (by decide)) (va_cwS 3 hts (lw_S q113 q114 q9 q115) rfl rfl rfl (by decide +kernel) ⟨Nat.le_of_ble_eq_true rfl, Nat.le_of_ble_eq_true rfl⟩) hK hP hD hS hA (z_ix [1] [0] rfl rfl rfl rfl rfl (by decide)) rfl hl.1 rfl (Nat.le_of_ble_eq_true rfl) dX4_square_9 ⟨Nat.le_of_ble_eq_true rfl, Nat.le_of_ble_eq_true rfl⟩ (fun u H locs hw hP hD hS => ?_)
  have hP : va_P G.1 vwCl [(h, zL2 G x0 x1), (q1, zF G 4 (vp_updL (vp_updL (L4 0 0 0 0) 0 (jx0 x0)) 1 (jx1 x0)))] H := hP
  have hD : va_D A [(h, zL2 G x0 x1), (q1, zF G 4 (vp_updL (vp_updL (L4 0 0 0 0) 0 (jx0 x0)) 1 (jx1 x0)))] := hD
  rw [L4_lo] at hP hD
  have hP : va_P G.1 vwCl [(h, zL2 G x0 x1), (q1, zL4 G (jx0 x0) (jx1 x0) 0 0)] H := hP
  have hD : va_D A [(h, zL2 G x0 x1), (q1, zL4 G (jx0 x0) (jx1 x0) 0 0)] := hD
  refine lv_aload_n hx hb dX4_square_12 rfl (lv_at hl 1 rfl) ?_
  refine lv_iconst (v := nI 1) hx hb dX4_square_13 (by decide) ?_
  refine z_lald (v := x1) hx hb hK hP 0 1 rfl (by decide) (by decide) rfl dX4_square_14 ?_
  refine lv_aload_n hx hb dX4_square_15 rfl (lv_at hl 0 rfl) ?_
  refine lv_iconst (v := nI 2) hx hb dX4_square_16 (by decide) ?_
  refine z_Sv (As := [.long x1, .ref q1, .int (nI 2)]) (rest := []) (wc := [(q1, zL4 G (jx0 x0) (jx1 x0) 0 0)]) (wr := [(h, zL2 G x0 x1)]) ⟨hx, hb, hml, hown, hts⟩ (met_expand l G H.size x1 q1 (L4 (jx0 x0) (jx1 x0) 0 0) 2 (by decide)) (va_cwS 3 hts (lw_S q113 q114 q9 q115) rfl rfl rfl (by decide +kernel) ⟨Nat.le_of_ble_eq_true rfl, Nat.le_of_ble_eq_true rfl⟩) hK hP hD hS hA (z_ix [1] [0] rfl rfl rfl rfl rfl (by decide)) rfl hl.1 rfl (Nat.le_of_ble_eq_true rfl) dX4_square_17 ⟨Nat.le_of_ble_eq_true rfl, Nat.le_of_ble_eq_true rfl⟩ (fun u H locs hw hP hD hS => ?_)
  have hP : va_P G.1 vwCl [(h, zL2 G x0 x1), (q1, zF G 4 (vp_updL (vp_updL (L4 (jx0 x0) (jx1 x0) 0 0) 2 (jx0 x1)) 3 (jx1 x1)))] H := hP
  have hD : va_D A [(h, zL2 G x0 x1), (q1, zF G 4 (vp_updL (vp_updL (L4 (jx0 x0) (jx1 x0) 0 0) 2 (jx0 x1)) 3 (jx1 x1)))] := hD
  rw [L4_hi] at hP hD
  have hP : va_P G.1 vwCl [(h, zL2 G x0 x1), (q1, zL4 G (jx0 x0) (jx1 x0) (jx0 x1) (jx1 x1))] H := hP
  have hD : va_D A [(h, zL2 G x0 x1), (q1, zL4 G (jx0 x0) (jx1 x0) (jx0 x1) (jx1 x1))] := hD
  refine lv_aload_n hx hb dX4_square_20 rfl (lv_at hl 0 rfl) ?_
  refine lv_iconst (v := nI 0) hx hb dX4_square_21 (by decide) ?_
  refine z_lald (v := jx0 x0) hx hb hK hP 1 0 rfl (by decide) (by decide) rfl dX4_square_22 ?_
  refine lv_topl (fun z4 ez4 => ?_)
  refine lv_lstore_n (lv' := [(3, .long z4), (2, .ref q1), (0, .ref h), (1, .ref h)]) hx hb dX4_square_23 rfl hl (by decide) rfl (fun ls hl => ?_)
  refine lv_aload_n hx hb dX4_square_24 rfl (lv_at hl 1 rfl) ?_
  refine lv_iconst (v := nI 1) hx hb dX4_square_25 (by decide) ?_
  refine z_lald (v := jx1 x0) hx hb hK hP 1 1 rfl (by decide) (by decide) rfl dX4_square_26 ?_
  refine lv_topl (fun z5 ez5 => ?_)
  refine lv_lstore (lv' := [(5, .long z5), (3, .long z4), (2, .ref q1), (0, .ref h), (1, .ref h)]) hx hb dX4_square_27 hl (by decide) rfl (fun ls hl => ?_)
  refine lv_aload_n hx hb dX4_square_29 rfl (lv_at hl 2 rfl) ?_
  refine lv_iconst (v := nI 2) hx hb dX4_square_30 (by decide) ?_
  refine z_lald (v := jx0 x1) hx hb hK hP 1 2 rfl (by decide) (by decide) rfl dX4_square_31 ?_
  refine lv_topl (fun z6 ez6 => ?_)
  refine lv_lstore (lv' := [(7, .long z6), (5, .long z5), (3, .long z4), (2, .ref q1), (0, .ref h), (1, .ref h)]) hx hb dX4_square_32 hl (by decide) rfl (fun ls hl => ?_)
  refine lv_aload_n hx hb dX4_square_34 rfl (lv_at hl 3 rfl) ?_
  refine lv_iconst (v := nI 3) hx hb dX4_square_35 (by decide) ?_
  refine z_lald (v := jx1 x1) hx hb hK hP 1 3 rfl (by decide) (by decide) rfl dX4_square_36 ?_
  refine lv_topl (fun z7 ez7 => ?_)
  refine lv_lstore (lv' := [(9, .long z7), (7, .long z6), (5, .long z5), (3, .long z4), (2, .ref q1), (0, .ref h), (1, .ref h)]) hx hb dX4_square_37 hl (by decide) rfl (fun ls hl => ?_)
  refine lv_lload hx hb dX4_square_39 (lv_at hl 2 rfl) ?_
  refine lv_lload hx hb dX4_square_41 (lv_at hl 0 rfl) ?_
  refine lv_lload hx hb dX4_square_43 (lv_at hl 0 rfl) ?_
  refine lv_iconst (v := nI 1) hx hb dX4_square_45 (by decide) ?_
  refine lv_lushr (v := (jlushr z7 (nI 1))) hx hb dX4_square_46 rfl ?_
  refine lv_lxor hx hb dX4_square_47 ?_
  refine lv_lload hx hb dX4_square_48 (lv_at hl 0 rfl) ?_
  refine lv_iconst (v := nI 2) hx hb dX4_square_50 (by decide) ?_
  refine lv_lushr (v := (jlushr z7 (nI 2))) hx hb dX4_square_51 rfl ?_
  refine lv_lxor hx hb dX4_square_52 ?_
  refine lv_lload hx hb dX4_square_53 (lv_at hl 0 rfl) ?_
  refine lv_bipush (v := nI 7) hx hb dX4_square_55 (by decide) ?_
  refine lv_lushr (v := (jlushr z7 (nI 7))) hx hb dX4_square_57 rfl ?_
  refine lv_lxor hx hb dX4_square_58 ?_
  refine lv_lxor hx hb dX4_square_59 ?_
  refine lv_topl (fun z8 ez8 => ?_)
  refine lv_lstore (lv' := [(5, .long z8), (9, .long z7), (7, .long z6), (3, .long z4), (2, .ref q1), (0, .ref h), (1, .ref h)]) hx hb dX4_square_60 hl (by decide) rfl (fun ls hl => ?_)
  refine lv_lload hx hb dX4_square_62 (lv_at hl 2 rfl) ?_
  refine lv_lload hx hb dX4_square_64 (lv_at hl 1 rfl) ?_
  refine lv_bipush (v := nI 63) hx hb dX4_square_66 (by decide) ?_
  refine lv_lshl (v := (jlshl z7 (nI 63))) hx hb dX4_square_68 rfl ?_
  refine lv_lload hx hb dX4_square_69 (lv_at hl 1 rfl) ?_
  refine lv_bipush (v := nI 62) hx hb dX4_square_71 (by decide) ?_
  refine lv_lshl (v := (jlshl z7 (nI 62))) hx hb dX4_square_73 rfl ?_
  refine lv_lxor hx hb dX4_square_74 ?_
  refine lv_lload hx hb dX4_square_75 (lv_at hl 1 rfl) ?_
  refine lv_bipush (v := nI 57) hx hb dX4_square_77 (by decide) ?_
  refine lv_lshl (v := (jlshl z7 (nI 57))) hx hb dX4_square_79 rfl ?_
  refine lv_lxor hx hb dX4_square_80 ?_
  refine lv_lxor hx hb dX4_square_81 ?_
  refine lv_topl (fun z9 ez9 => ?_)
  refine lv_lstore (lv' := [(7, .long z9), (5, .long z8), (9, .long z7), (3, .long z4), (2, .ref q1), (0, .ref h), (1, .ref h)]) hx hb dX4_square_82 hl (by decide) rfl (fun ls hl => ?_)
  refine lv_lload_n hx hb dX4_square_84 rfl (lv_at hl 3 rfl) ?_
  refine lv_lload hx hb dX4_square_85 (lv_at hl 0 rfl) ?_
  refine lv_lload hx hb dX4_square_87 (lv_at hl 0 rfl) ?_
  refine lv_iconst (v := nI 1) hx hb dX4_square_89 (by decide) ?_
  refine lv_lushr (v := (jlushr z9 (nI 1))) hx hb dX4_square_90 rfl ?_
  refine lv_lxor hx hb dX4_square_91 ?_
  refine lv_lload hx hb dX4_square_92 (lv_at hl 0 rfl) ?_
  refine lv_iconst (v := nI 2) hx hb dX4_square_94 (by decide) ?_
  refine lv_lushr (v := (jlushr z9 (nI 2))) hx hb dX4_square_95 rfl ?_
  refine lv_lxor hx hb dX4_square_96 ?_
  refine lv_lload hx hb dX4_square_97 (lv_at hl 0 rfl) ?_
  refine lv_bipush (v := nI 7) hx hb dX4_square_99 (by decide) ?_
  refine lv_lushr (v := (jlushr z9 (nI 7))) hx hb dX4_square_101 rfl ?_
  refine lv_lxor hx hb dX4_square_102 ?_
  refine lv_lxor hx hb dX4_square_103 ?_
  refine lv_topl (fun z10 ez10 => ?_)
  refine lv_lstore_n (lv' := [(3, .long z10), (7, .long z9), (5, .long z8), (9, .long z7), (2, .ref q1), (0, .ref h), (1, .ref h)]) hx hb dX4_square_104 rfl hl (by decide) rfl (fun ls hl => ?_)
  refine lv_lload hx hb dX4_square_105 (lv_at hl 2 rfl) ?_
  refine lv_lload hx hb dX4_square_107 (lv_at hl 1 rfl) ?_
  refine lv_bipush (v := nI 63) hx hb dX4_square_109 (by decide) ?_
  refine lv_lshl (v := (jlshl z9 (nI 63))) hx hb dX4_square_111 rfl ?_
  refine lv_lload hx hb dX4_square_112 (lv_at hl 1 rfl) ?_
  refine lv_bipush (v := nI 62) hx hb dX4_square_114 (by decide) ?_
  refine lv_lshl (v := (jlshl z9 (nI 62))) hx hb dX4_square_116 rfl ?_
  refine lv_lxor hx hb dX4_square_117 ?_
  refine lv_lload hx hb dX4_square_118 (lv_at hl 1 rfl) ?_
  refine lv_bipush (v := nI 57) hx hb dX4_square_120 (by decide) ?_
  refine lv_lshl (v := (jlshl z9 (nI 57))) hx hb dX4_square_122 rfl ?_
  refine lv_lxor hx hb dX4_square_123 ?_
  refine lv_lxor hx hb dX4_square_124 ?_
  refine lv_topl (fun z11 ez11 => ?_)
  refine lv_lstore (lv' := [(5, .long z11), (3, .long z10), (7, .long z9), (9, .long z7), (2, .ref q1), (0, .ref h), (1, .ref h)]) hx hb dX4_square_125 hl (by decide) rfl (fun ls hl => ?_)
  refine lv_aload_n hx hb dX4_square_127 rfl (lv_at hl 6 rfl) ?_
  refine lv_iconst (v := nI 0) hx hb dX4_square_128 (by decide) ?_
  refine lv_lload_n hx hb dX4_square_129 rfl (lv_at hl 1 rfl) ?_
  refine z_last (g := L2 z10 x1) hx hb hK hP hD hS 0 0 rfl (by decide) (by decide) (L2_s0 _ _ _) dX4_square_130 (fun H locs hP hD hS => ?_)
  have hP : va_P G.1 vwCl [(h, zL2 G z10 x1), (q1, zL4 G (jx0 x0) (jx1 x0) (jx0 x1) (jx1 x1))] H := hP
  have hD : va_D A [(h, zL2 G z10 x1), (q1, zL4 G (jx0 x0) (jx1 x0) (jx0 x1) (jx1 x1))] := hD
  refine lv_aload_n hx hb dX4_square_131 rfl (lv_at hl 6 rfl) ?_
  refine lv_iconst (v := nI 1) hx hb dX4_square_132 (by decide) ?_
  refine lv_lload hx hb dX4_square_133 (lv_at hl 0 rfl) ?_
  refine z_last (g := L2 z10 z11) hx hb hK hP hD hS 0 1 rfl (by decide) (by decide) (L2_s1 _ _ _) dX4_square_135 (fun H locs hP hD hS => ?_)
  have hP : va_P G.1 vwCl [(h, zL2 G z10 z11), (q1, zL4 G (jx0 x0) (jx1 x0) (jx0 x1) (jx1 x1))] H := hP
  have hD : va_D A [(h, zL2 G z10 z11), (q1, zL4 G (jx0 x0) (jx1 x0) (jx0 x1) (jx1 x1))] := hD
  have hP := hP.sub (ws' := [(h, zL2 G z10 z11)]) [0] rfl
  have hD := hD.sub (ws' := [(h, zL2 G z10 z11)]) [0] (by decide) rfl
  exact z_vret () hx hb hr hlocks hK hP hD hS (by subst ez11; subst ez10; subst ez9; subst ez8; subst ez7; subst ez6; subst ez5; subst ez4; rfl) trivial (Nat.le_of_ble_eq_true rfl) (Nat.le_of_ble_eq_true rfl) dX4_square_136
end
section
/-! BasicGCMExponentiator -/
set_option maxHeartbeats 4000000 in
set_option maxRecDepth 100000 in
/-- BasicGCMExponentiator() -/
theorem met_exp_init (l : Launch) (G : z_G) (sz : Nat) (h : Nat) (v : Value) : Met l yX3_init (ws_ yX3_init cX3_init 1 none) ({ frames := 1, cells := 0, slots := 0, locals := 12 }) (zPre G [.ref h] sz [(h, .inr (2, [v]))]) (zQv G (fun (u : Unit) => True) (fun (u : Unit) => [(h, .inr (2, [v]))]) (va_A [(h, .inr (2, [v]))] sz)) 0 0 (va_A [(h, .inr (2, [v]))] sz) := by
  refine z_met (QK := zQv G (fun (u : Unit) => True) (fun (u : Unit) => [(h, .inr (2, [v]))])) (by decide) (Nat.le_of_ble_eq_true rfl) ?_
  intro p e s m below meth c A H ls hx hb hr hlocks hml hown hin hts hK hP hD hA hS hl
  have hown : s.vm.findClass RX3 = some m.cls := hown
  have hl : lv_has ls 1 [(0, .ref h)] := hl
  refine lv_aload_n hx hb dX3_init_0 rfl (lv_at hl 0 rfl) ?_
  refine W.objInit hx hb hown (hts _ q46) (hts _ q17) (hts _ q18) rfl (by rw [hml]; exact hl.1) rfl dX3_init_1 (Nat.le_of_ble_eq_true rfl) (Nat.le_of_ble_eq_true rfl) ?_
  refine W.eq (g2 := F0 m 4 ls []) rfl ?_
  exact z_vret () hx hb hr hlocks hK hP hD hS rfl trivial (Nat.le_of_ble_eq_true rfl) (Nat.le_of_ble_eq_true rfl) dX3_init_4
set_option maxHeartbeats 4000000 in
set_option maxRecDepth 100000 in
/-- BasicGCMExponentiator.init(x) -/
theorem met_exp_init2 (l : Launch) (G : z_G) (sz : Nat) (r h : Nat) (f : Nat → Int32) (v : Value) : Met l yX3_init_2 (ws_ yX3_init_2 cX3_init_2 2 none) ({ frames := 4, cells := 1, slots := 2, locals := 91 }) (zPre G [.ref r, .ref h] sz [(r, .inr (2, [v])), (h, zB G f)]) (zQv G (fun (u : Nat) => True) (fun (u : Nat) => [(r, .inr (2, [.ref u])), (u, zL2 G (jB2L f 0) (jB2L f 8)), (h, zB G f)]) (va_A [(r, .inr (2, [v])), (h, zB G f)] sz)) 1 2 (va_A [(r, .inr (2, [v])), (h, zB G f)] sz) := by
  refine z_met (QK := zQv G (fun (u : Nat) => True) (fun (u : Nat) => [(r, .inr (2, [.ref u])), (u, zL2 G (jB2L f 0) (jB2L f 8)), (h, zB G f)])) (by decide) (Nat.le_of_ble_eq_true rfl) ?_
  intro p e s m below meth c A H ls hx hb hr hlocks hml hown hin hts hK hP hD hA hS hl
  have hown : s.vm.findClass RX3 = some m.cls := hown
  have hl : lv_has ls 2 [(0, .ref r), (1, .ref h)] := hl
  refine lv_aload_n hx hb dX3_init_2_0 rfl (lv_at hl 0 rfl) ?_
  refine lv_aload_n hx hb dX3_init_2_1 rfl (lv_at hl 1 rfl) ?_
  refine z_Sr (As := [.ref h]) (rest := [.ref r]) (wc := [(h, zB G f)]) (wr := [(r, .inr (2, [v]))]) ⟨hx, hb, hml, hown, hts⟩ (met_asLongs l G H.size h f) (va_cwS 1 hts (lw_S q55 q56 q4 q57) rfl rfl rfl (by decide +kernel) ⟨Nat.le_of_ble_eq_true rfl, Nat.le_of_ble_eq_true rfl⟩) hK hP hD hS hA (z_ix [1] [0] rfl rfl rfl rfl rfl (by decide)) rfl hl.1 rfl (Nat.le_of_ble_eq_true rfl) dX3_init_2_2 ⟨Nat.le_of_ble_eq_true rfl, Nat.le_of_ble_eq_true rfl⟩ (fun u q1 H locs hw hP hD hS => ?_)
  have hP : va_P G.1 vwCl [(r, .inr (2, [v])), (q1, zL2 G (jB2L f 0) (jB2L f 8)), (h, zB G f)] H := hP
  have hD : va_D A [(r, .inr (2, [v])), (q1, zL2 G (jB2L f 0) (jB2L f 8)), (h, zB G f)] := hD
  refine va_put (D := G.1) (ci := 2) (v := .ref q1) (ty := .array .long) (C := RX3) (T := TX3) (N := 1) hx hb hts in_X3 tyX3 tyX3_ok nmX3 hown hK hP hD hS 0 rfl rfl 0 (by decide) (hts _ q47) (fun _ h9 => h9) rfl (by decide +kernel) rfl rfl (Nat.le_of_ble_eq_true rfl) dX3_init_2_5 (fun H locs hP hD hS => ?_)
  have hP : va_P G.1 vwCl [(r, .inr (2, [.ref q1])), (q1, zL2 G (jB2L f 0) (jB2L f 8)), (h, zB G f)] H := hP
  have hD : va_D A [(r, .inr (2, [.ref q1])), (q1, zL2 G (jB2L f 0) (jB2L f 8)), (h, zB G f)] := hD
  exact z_vret q1 hx hb hr hlocks hK hP hD hS rfl trivial (Nat.le_of_ble_eq_true rfl) (Nat.le_of_ble_eq_true rfl) dX3_init_2_8
def jEl : Nat → Int64 → Int64 × Int64 → Int64 × Int64 → Int64 × Int64
  | 0, _, y, _ => y
  | n + 1, pw, y, q => if 0 < pw then jEl n (jlushr pw (nI 1)) (if pw &&& 1 = 0 then y else jmul y.1 y.2 q.1 q.2) (jsq q.1 q.2) else y
theorem jEl_stop {n : Nat} {pw : Int64} {y q : Int64 × Int64} (h : ¬ 0 < pw) : jEl n pw y q = y := by
  cases n with
  | zero => rfl
  | succ n => rw [jEl, if_neg h]
def jE (pw e0 e1 : Int64) : Int64 × Int64 := jEl 63 pw ((-9223372036854775808), 0) (e0, e1)
set_option maxHeartbeats 4000000 in
set_option maxRecDepth 100000 in
/-- BasicGCMExponentiator.exponentiateX(pow, out) -/
theorem met_expX (l : Launch) (G : z_G) (sz : Nat) (r ax ho : Nat) (e0 e1 pw : Int64) (w0 w1 w2 w3 : Int32) (hpw : pw.toBitVec.toNat < 2 ^ 63) : Met l yX3_exponentiateX (ws_ yX3_exponentiateX cX3_exponentiateX 6 none) ({ frames := 4, cells := 65, slots := 256, locals := 120 }) (zPre G [.ref r, .long pw, .ref ho] sz [(r, .inr (2, [.ref ax])), (ax, zL2 G e0 e1), (ho, zB G (Bw w0 w1 w2 w3))]) (zQv G (fun (u : Unit) => True) (fun (u : Unit) => [(r, .inr (2, [.ref ax])), (ax, zL2 G e0 e1), (ho, zB G (Bw (jhi (jE pw e0 e1).1) (jlo (jE pw e0 e1).1) (jhi (jE pw e0 e1).2) (jlo (jE pw e0 e1).2)))]) (va_A [(r, .inr (2, [.ref ax])), (ax, zL2 G e0 e1), (ho, zB G (Bw w0 w1 w2 w3))] sz)) 65 256 (va_A [(r, .inr (2, [.ref ax])), (ax, zL2 G e0 e1), (ho, zB G (Bw w0 w1 w2 w3))] sz) := by
  refine z_met (QK := zQv G (fun (u : Unit) => True) (fun (u : Unit) => [(r, .inr (2, [.ref ax])), (ax, zL2 G e0 e1), (ho, zB G (Bw (jhi (jE pw e0 e1).1) (jlo (jE pw e0 e1).1) (jhi (jE pw e0 e1).2) (jlo (jE pw e0 e1).2)))])) (by decide) (Nat.le_of_ble_eq_true rfl) ?_
  intro p e s m below meth c A H ls hx hb hr hlocks hml hown hin hts hK hP hD hA hS hl
  have hown : s.vm.findClass RX3 = some m.cls := hown
  have hl : lv_has ls 6 [(0, .ref r), (1, .long pw), (3, .ref ho)] := hl
  have fin : ∀ (k n qy : Nat) (y0 y1 : Int64), (y0, y1) = jE pw e0 e1 → k ≤ 65 → n ≤ 256 → ∀ (H : Heap) (locs : List Loc), va_P G.1 vwCl [(r, .inr (2, [.ref ax])), (ax, zL2 G e0 e1), (ho, zB G (Bw w0 w1 w2 w3)), (qy, zL2 G y0 y1)] H → va_D A [(r, .inr (2, [.ref ax])), (ax, zL2 G e0 e1), (ho, zB G (Bw w0 w1 w2 w3)), (qy, zL2 G y0 y1)] → va_S A s.heap H locs → ∀ ls : Array Slot, lv_has ls 6 [(3, .ref ho), (4, .ref qy)] → W p l e ({ frames := 4, cells := 65, slots := 256, locals := 120 } : Room) s m ([.ref r, .long pw, .ref ho] : List Value).toArray below meth c H locs (k) (n) (MQ below (zQv G (fun (u : Unit) => True) (fun (u : Unit) => [(r, .inr (2, [.ref ax])), (ax, zL2 G e0 e1), (ho, zB G (Bw (jhi (jE pw e0 e1).1) (jlo (jE pw e0 e1).1) (jhi (jE pw e0 e1).2) (jlo (jE pw e0 e1).2)))]) A) ([.ref r, .long pw, .ref ho] : List Value).toArray s 65 256 A) (F0 m 57 ls []) := by
    intro k n qy y0 y1 hy hk hn H locs hP hD hS ls hl
    refine lv_aload hx hb dX3_exponentiateX_57 (lv_at hl 1 rfl) ?_
    refine lv_aload_n hx hb dX3_exponentiateX_59 rfl (lv_at hl 0 rfl) ?_
    refine z_Sv (As := [.ref qy, .ref ho]) (rest := []) (wc := [(qy, zL2 G y0 y1), (ho, zB G (Bw w0 w1 w2 w3))]) (wr := [(r, .inr (2, [.ref ax])), (ax, zL2 G e0 e1)]) ⟨hx, hb, hml, hown, hts⟩ (met_asBytes l G H.size qy ho y0 y1 w0 w1 w2 w3) (va_cwS 2 hts (lw_S q125 q126 q4 q127) rfl rfl rfl (by decide +kernel) ⟨Nat.le_of_ble_eq_true rfl, Nat.le_of_ble_eq_true rfl⟩) hK hP hD hS hA (z_ix [3, 2] [0, 1] rfl rfl rfl rfl rfl (by decide)) rfl hl.1 rfl (Nat.le_of_ble_eq_true rfl) dX3_exponentiateX_60 ⟨by show k + 0 ≤ 65; omega, by show n + 0 ≤ 256; omega⟩ (fun u H locs hw hP hD hS => ?_)
    have hP : va_P G.1 vwCl [(r, .inr (2, [.ref ax])), (ax, zL2 G e0 e1), (qy, zL2 G y0 y1), (ho, zB G (Bw (jhi y0) (jlo y0) (jhi y1) (jlo y1)))] H := hP
    have hD : va_D A [(r, .inr (2, [.ref ax])), (ax, zL2 G e0 e1), (qy, zL2 G y0 y1), (ho, zB G (Bw (jhi y0) (jlo y0) (jhi y1) (jlo y1)))] := hD
    have hP := hP.sub (ws' := [(r, .inr (2, [.ref ax])), (ax, zL2 G e0 e1), (ho, zB G (Bw (jhi y0) (jlo y0) (jhi y1) (jlo y1)))]) [0, 1, 3] rfl
    have hD := hD.sub (ws' := [(r, .inr (2, [.ref ax])), (ax, zL2 G e0 e1), (ho, zB G (Bw (jhi y0) (jlo y0) (jhi y1) (jlo y1)))]) [0, 1, 3] (by decide) rfl
    exact z_vret () hx hb hr hlocks hK hP hD hS (by first | (rw [← hy]; done) | (rw [← hy]; rfl)) trivial hk hn dX3_exponentiateX_63
  have loop : ∀ (n i : Nat) (pv y0 y1 p0 p1 : Int64) (qy qp : Nat), i + (n + 1) = 63 → 0 < pv → pv.toBitVec.toNat < 2 ^ (n + 1) → jEl (n + 1) pv (y0, y1) (p0, p1) = jE pw e0 e1 → ∀ (H : Heap) (locs : List Loc), va_P G.1 vwCl [(r, .inr (2, [.ref ax])), (ax, zL2 G e0 e1), (ho, zB G (Bw w0 w1 w2 w3)), (qy, zL2 G y0 y1), (qp, zL2 G p0 p1)] H → va_D A [(r, .inr (2, [.ref ax])), (ax, zL2 G e0 e1), (ho, zB G (Bw w0 w1 w2 w3)), (qy, zL2 G y0 y1), (qp, zL2 G p0 p1)] → va_S A s.heap H locs → ∀ ls : Array Slot, lv_has ls 6 [(0, .ref r), (1, .long pv), (3, .ref ho), (4, .ref qy), (5, .ref qp)] → W p l e ({ frames := 4, cells := 65, slots := 256, locals := 120 } : Room) s m ([.ref r, .long pw, .ref ho] : List Value).toArray below meth c H locs (2 + i) (4 + 4 * i) (MQ below (zQv G (fun (u : Unit) => True) (fun (u : Unit) => [(r, .inr (2, [.ref ax])), (ax, zL2 G e0 e1), (ho, zB G (Bw (jhi (jE pw e0 e1).1) (jlo (jE pw e0 e1).1) (jhi (jE pw e0 e1).2) (jlo (jE pw e0 e1).2)))]) A) ([.ref r, .long pw, .ref ho] : List Value).toArray s 65 256 A) (F0 m 25 ls []) := by
    intro n
    induction n with
    | zero =>
      intro i pv y0 y1 p0 p1 qy qp hi hpos hlt hj H locs hP hD hS ls hl
      rw [jEl, if_pos hpos] at hj
      have jn : ∀ (j : Int64 × Int64), jEl 0 (jlushr pv (nI 1)) j (jsq p0 p1) = jE pw e0 e1 → ∀ (H : Heap) (locs : List Loc), va_P G.1 vwCl [(r, .inr (2, [.ref ax])), (ax, zL2 G e0 e1), (ho, zB G (Bw w0 w1 w2 w3)), (qy, zL2 G j.1 j.2), (qp, zL2 G p0 p1)] H → va_D A [(r, .inr (2, [.ref ax])), (ax, zL2 G e0 e1), (ho, zB G (Bw w0 w1 w2 w3)), (qy, zL2 G j.1 j.2), (qp, zL2 G p0 p1)] → va_S A s.heap H locs → W p l e ({ frames := 4, cells := 65, slots := 256, locals := 120 } : Room) s m ([.ref r, .long pw, .ref ho] : List Value).toArray below meth c H locs (2 + i) (4 + 4 * i) (MQ below (zQv G (fun (u : Unit) => True) (fun (u : Unit) => [(r, .inr (2, [.ref ax])), (ax, zL2 G e0 e1), (ho, zB G (Bw (jhi (jE pw e0 e1).1) (jlo (jE pw e0 e1).1) (jhi (jE pw e0 e1).2) (jlo (jE pw e0 e1).2)))]) A) ([.ref r, .long pw, .ref ho] : List Value).toArray s 65 256 A) (F0 m 40 ls []) := by
        intro j hj H locs hP hD hS
        refine lv_aload hx hb dX3_exponentiateX_40 (lv_at hl 4 rfl) ?_
        refine lv_aload hx hb dX3_exponentiateX_42 (lv_at hl 4 rfl) ?_
        refine z_Sv (As := [.ref qp, .ref qp]) (rest := []) (wc := [(qp, zL2 G p0 p1)]) (wr := [(r, .inr (2, [.ref ax])), (ax, zL2 G e0 e1), (ho, zB G (Bw w0 w1 w2 w3)), (qy, zL2 G j.1 j.2)]) ⟨hx, hb, hml, hown, hts⟩ (met_square l G H.size qp p0 p1) (va_cwS 2 hts (lw_S q110 q111 q4 q112) rfl rfl rfl (by decide +kernel) ⟨Nat.le_of_ble_eq_true rfl, Nat.le_of_ble_eq_true rfl⟩) hK hP hD hS hA (z_ix [4] [0, 1, 2, 3] rfl rfl rfl rfl rfl (by decide)) rfl hl.1 rfl (Nat.le_of_ble_eq_true rfl) dX3_exponentiateX_44 ⟨by show 2 + i + 1 ≤ 65; omega, by show 4 + 4 * i + 4 ≤ 256; omega⟩ (fun u H locs hw hP hD hS => ?_)
        have hP : va_P G.1 vwCl [(r, .inr (2, [.ref ax])), (ax, zL2 G e0 e1), (ho, zB G (Bw w0 w1 w2 w3)), (qy, zL2 G j.1 j.2), (qp, zL2 G ((jsq p0 p1).1) ((jsq p0 p1).2))] H := hP
        have hD : va_D A [(r, .inr (2, [.ref ax])), (ax, zL2 G e0 e1), (ho, zB G (Bw w0 w1 w2 w3)), (qy, zL2 G j.1 j.2), (qp, zL2 G ((jsq p0 p1).1) ((jsq p0 p1).2))] := hD
        refine lv_lload_n hx hb dX3_exponentiateX_47 rfl (lv_at hl 1 rfl) ?_
        refine lv_iconst (v := nI 1) hx hb dX3_exponentiateX_48 (by decide) ?_
        refine lv_lushr (v := (jlushr pv (nI 1))) hx hb dX3_exponentiateX_49 rfl ?_
        refine lv_topl (fun y2 ey2 => ?_)
        refine lv_lstore_n (lv' := [(1, .long y2), (0, .ref r), (3, .ref ho), (4, .ref qy), (5, .ref qp)]) hx hb dX3_exponentiateX_50 rfl hl (by decide) rfl (fun ls hl => ?_)
        refine lv_lload_n hx hb dX3_exponentiateX_51 rfl (lv_at hl 0 rfl) ?_
        refine lv_lconst (v := 0) hx hb dX3_exponentiateX_52 (by decide) ?_
        refine W.lcmp hx hb dX3_exponentiateX_53 ?_
        have hnat : y2.toBitVec.toNat = pv.toBitVec.toNat / 2 := by rw [ey2]; exact jsh1_nat pv
        rw [← ey2] at hj
        refine lv_if_gt (tgt := 25) hx hb dX3_exponentiateX_54 (by decide) (fun c_ => ?_) (fun c_ => ?_)
        · exact absurd hnat (by have := jpos_nat ((lg_cmp_gt _ _).mp c_); omega)
        · rw [jEl_stop (fun h => c_ ((lg_cmp_gt _ _).mpr h))] at hj
          exact fin _ _ qy j.1 j.2 hj (by omega) (by omega) _ _ (hP.sub [0, 1, 2, 3] rfl) (hD.sub [0, 1, 2, 3] (by decide) rfl) hS ls (lv_sub hl [2, 3] rfl)
      refine lv_lload_n hx hb dX3_exponentiateX_25 rfl (lv_at hl 1 rfl) ?_
      refine lv_lconst (v := 1) hx hb dX3_exponentiateX_26 (by decide) ?_
      refine lv_land hx hb dX3_exponentiateX_27 ?_
      refine lv_lconst (v := 0) hx hb dX3_exponentiateX_28 (by decide) ?_
      refine W.lcmp hx hb dX3_exponentiateX_29 ?_
      refine lv_if_eq (tgt := 40) hx hb dX3_exponentiateX_30 (by decide) (fun c_ => ?_) (fun c_ => ?_)
      · rw [if_pos ((lg_cmp_eq _ _).mp c_)] at hj
        exact jn (y0, y1) hj _ _ hP hD hS
      · rw [if_neg (fun h => c_ ((lg_cmp_eq _ _).mpr h))] at hj
        refine lv_aload hx hb dX3_exponentiateX_33 (lv_at hl 3 rfl) ?_
        refine lv_aload hx hb dX3_exponentiateX_35 (lv_at hl 4 rfl) ?_
        refine z_Sv (As := [.ref qy, .ref qp]) (rest := []) (wc := [(qy, zL2 G y0 y1), (qp, zL2 G p0 p1)]) (wr := [(r, .inr (2, [.ref ax])), (ax, zL2 G e0 e1), (ho, zB G (Bw w0 w1 w2 w3))]) ⟨hx, hb, hml, hown, hts⟩ (met_multiply l G H.size qy qp y0 y1 p0 p1) (va_cwS 2 hts (lw_S q86 q87 q4 q88) rfl rfl rfl (by decide +kernel) ⟨Nat.le_of_ble_eq_true rfl, Nat.le_of_ble_eq_true rfl⟩) hK hP hD hS hA (z_ix [3, 4] [0, 1, 2] rfl rfl rfl rfl rfl (by decide)) rfl hl.1 rfl (Nat.le_of_ble_eq_true rfl) dX3_exponentiateX_37 ⟨by show 2 + i + 0 ≤ 65; omega, by show 4 + 4 * i + 0 ≤ 256; omega⟩ (fun u H locs hw hP hD hS => ?_)
        have hP : va_P G.1 vwCl [(r, .inr (2, [.ref ax])), (ax, zL2 G e0 e1), (ho, zB G (Bw w0 w1 w2 w3)), (qy, zL2 G ((jmul y0 y1 p0 p1).1) ((jmul y0 y1 p0 p1).2)), (qp, zL2 G p0 p1)] H := hP
        have hD : va_D A [(r, .inr (2, [.ref ax])), (ax, zL2 G e0 e1), (ho, zB G (Bw w0 w1 w2 w3)), (qy, zL2 G ((jmul y0 y1 p0 p1).1) ((jmul y0 y1 p0 p1).2)), (qp, zL2 G p0 p1)] := hD
        exact jn (jmul y0 y1 p0 p1) hj _ _ hP hD hS
    | succ n ih =>
      intro i pv y0 y1 p0 p1 qy qp hi hpos hlt hj H locs hP hD hS ls hl
      rw [jEl, if_pos hpos] at hj
      have jn : ∀ (j : Int64 × Int64), jEl (n + 1) (jlushr pv (nI 1)) j (jsq p0 p1) = jE pw e0 e1 → ∀ (H : Heap) (locs : List Loc), va_P G.1 vwCl [(r, .inr (2, [.ref ax])), (ax, zL2 G e0 e1), (ho, zB G (Bw w0 w1 w2 w3)), (qy, zL2 G j.1 j.2), (qp, zL2 G p0 p1)] H → va_D A [(r, .inr (2, [.ref ax])), (ax, zL2 G e0 e1), (ho, zB G (Bw w0 w1 w2 w3)), (qy, zL2 G j.1 j.2), (qp, zL2 G p0 p1)] → va_S A s.heap H locs → W p l e ({ frames := 4, cells := 65, slots := 256, locals := 120 } : Room) s m ([.ref r, .long pw, .ref ho] : List Value).toArray below meth c H locs (2 + i) (4 + 4 * i) (MQ below (zQv G (fun (u : Unit) => True) (fun (u : Unit) => [(r, .inr (2, [.ref ax])), (ax, zL2 G e0 e1), (ho, zB G (Bw (jhi (jE pw e0 e1).1) (jlo (jE pw e0 e1).1) (jhi (jE pw e0 e1).2) (jlo (jE pw e0 e1).2)))]) A) ([.ref r, .long pw, .ref ho] : List Value).toArray s 65 256 A) (F0 m 40 ls []) := by
        intro j hj H locs hP hD hS
        refine lv_aload hx hb dX3_exponentiateX_40 (lv_at hl 4 rfl) ?_
        refine lv_aload hx hb dX3_exponentiateX_42 (lv_at hl 4 rfl) ?_
        refine z_Sv (As := [.ref qp, .ref qp]) (rest := []) (wc := [(qp, zL2 G p0 p1)]) (wr := [(r, .inr (2, [.ref ax])), (ax, zL2 G e0 e1), (ho, zB G (Bw w0 w1 w2 w3)), (qy, zL2 G j.1 j.2)]) ⟨hx, hb, hml, hown, hts⟩ (met_square l G H.size qp p0 p1) (va_cwS 2 hts (lw_S q110 q111 q4 q112) rfl rfl rfl (by decide +kernel) ⟨Nat.le_of_ble_eq_true rfl, Nat.le_of_ble_eq_true rfl⟩) hK hP hD hS hA (z_ix [4] [0, 1, 2, 3] rfl rfl rfl rfl rfl (by decide)) rfl hl.1 rfl (Nat.le_of_ble_eq_true rfl) dX3_exponentiateX_44 ⟨by show 2 + i + 1 ≤ 65; omega, by show 4 + 4 * i + 4 ≤ 256; omega⟩ (fun u H locs hw hP hD hS => ?_)
        have hP : va_P G.1 vwCl [(r, .inr (2, [.ref ax])), (ax, zL2 G e0 e1), (ho, zB G (Bw w0 w1 w2 w3)), (qy, zL2 G j.1 j.2), (qp, zL2 G ((jsq p0 p1).1) ((jsq p0 p1).2))] H := hP
        have hD : va_D A [(r, .inr (2, [.ref ax])), (ax, zL2 G e0 e1), (ho, zB G (Bw w0 w1 w2 w3)), (qy, zL2 G j.1 j.2), (qp, zL2 G ((jsq p0 p1).1) ((jsq p0 p1).2))] := hD
        refine lv_lload_n hx hb dX3_exponentiateX_47 rfl (lv_at hl 1 rfl) ?_
        refine lv_iconst (v := nI 1) hx hb dX3_exponentiateX_48 (by decide) ?_
        refine lv_lushr (v := (jlushr pv (nI 1))) hx hb dX3_exponentiateX_49 rfl ?_
        refine lv_topl (fun y2 ey2 => ?_)
        refine lv_lstore_n (lv' := [(1, .long y2), (0, .ref r), (3, .ref ho), (4, .ref qy), (5, .ref qp)]) hx hb dX3_exponentiateX_50 rfl hl (by decide) rfl (fun ls hl => ?_)
        refine lv_lload_n hx hb dX3_exponentiateX_51 rfl (lv_at hl 0 rfl) ?_
        refine lv_lconst (v := 0) hx hb dX3_exponentiateX_52 (by decide) ?_
        refine W.lcmp hx hb dX3_exponentiateX_53 ?_
        have hnat : y2.toBitVec.toNat = pv.toBitVec.toNat / 2 := by rw [ey2]; exact jsh1_nat pv
        rw [← ey2] at hj
        refine lv_if_gt (tgt := 25) hx hb dX3_exponentiateX_54 (by decide) (fun c_ => ?_) (fun c_ => ?_)
        · refine W.widen (k := 2 + (i + 1)) (n := 4 + 4 * (i + 1)) (by omega) (by omega) ?_
          exact ih (i + 1) y2 j.1 j.2 (jsq p0 p1).1 (jsq p0 p1).2 qy qp (by omega) ((lg_cmp_gt _ _).mp c_) (by rw [hnat]; exact z_half hlt) hj _ _ (hP.sub [0, 1, 2, 3, 4] rfl) (hD.sub [0, 1, 2, 3, 4] (by decide) rfl) hS ls (lv_sub hl [1, 0, 2, 3, 4] rfl)
        · rw [jEl_stop (fun h => c_ ((lg_cmp_gt _ _).mpr h))] at hj
          exact fin _ _ qy j.1 j.2 hj (by omega) (by omega) _ _ (hP.sub [0, 1, 2, 3] rfl) (hD.sub [0, 1, 2, 3] (by decide) rfl) hS ls (lv_sub hl [2, 3] rfl)
      refine lv_lload_n hx hb dX3_exponentiateX_25 rfl (lv_at hl 1 rfl) ?_
      refine lv_lconst (v := 1) hx hb dX3_exponentiateX_26 (by decide) ?_
      refine lv_land hx hb dX3_exponentiateX_27 ?_
      refine lv_lconst (v := 0) hx hb dX3_exponentiateX_28 (by decide) ?_
      refine W.lcmp hx hb dX3_exponentiateX_29 ?_
      refine lv_if_eq (tgt := 40) hx hb dX3_exponentiateX_30 (by decide) (fun c_ => ?_) (fun c_ => ?_)
      · rw [if_pos ((lg_cmp_eq _ _).mp c_)] at hj
        exact jn (y0, y1) hj _ _ hP hD hS
      · rw [if_neg (fun h => c_ ((lg_cmp_eq _ _).mpr h))] at hj
        refine lv_aload hx hb dX3_exponentiateX_33 (lv_at hl 3 rfl) ?_
        refine lv_aload hx hb dX3_exponentiateX_35 (lv_at hl 4 rfl) ?_
        refine z_Sv (As := [.ref qy, .ref qp]) (rest := []) (wc := [(qy, zL2 G y0 y1), (qp, zL2 G p0 p1)]) (wr := [(r, .inr (2, [.ref ax])), (ax, zL2 G e0 e1), (ho, zB G (Bw w0 w1 w2 w3))]) ⟨hx, hb, hml, hown, hts⟩ (met_multiply l G H.size qy qp y0 y1 p0 p1) (va_cwS 2 hts (lw_S q86 q87 q4 q88) rfl rfl rfl (by decide +kernel) ⟨Nat.le_of_ble_eq_true rfl, Nat.le_of_ble_eq_true rfl⟩) hK hP hD hS hA (z_ix [3, 4] [0, 1, 2] rfl rfl rfl rfl rfl (by decide)) rfl hl.1 rfl (Nat.le_of_ble_eq_true rfl) dX3_exponentiateX_37 ⟨by show 2 + i + 0 ≤ 65; omega, by show 4 + 4 * i + 0 ≤ 256; omega⟩ (fun u H locs hw hP hD hS => ?_)
        have hP : va_P G.1 vwCl [(r, .inr (2, [.ref ax])), (ax, zL2 G e0 e1), (ho, zB G (Bw w0 w1 w2 w3)), (qy, zL2 G ((jmul y0 y1 p0 p1).1) ((jmul y0 y1 p0 p1).2)), (qp, zL2 G p0 p1)] H := hP
        have hD : va_D A [(r, .inr (2, [.ref ax])), (ax, zL2 G e0 e1), (ho, zB G (Bw w0 w1 w2 w3)), (qy, zL2 G ((jmul y0 y1 p0 p1).1) ((jmul y0 y1 p0 p1).2)), (qp, zL2 G p0 p1)] := hD
        exact jn (jmul y0 y1 p0 p1) hj _ _ hP hD hS
  refine z_Sr (As := []) (rest := []) (wc := []) (wr := [(r, .inr (2, [.ref ax])), (ax, zL2 G e0 e1), (ho, zB G (Bw w0 w1 w2 w3))]) ⟨hx, hb, hml, hown, hts⟩ (met_one l G H.size) (va_cwS 0 hts (lw_S q79 q80 q4 q81) rfl rfl rfl (by decide +kernel) ⟨Nat.le_of_ble_eq_true rfl, Nat.le_of_ble_eq_true rfl⟩) hK hP hD hS hA (z_none _) rfl hl.1 rfl (Nat.le_of_ble_eq_true rfl) dX3_exponentiateX_0 ⟨Nat.le_of_ble_eq_true rfl, Nat.le_of_ble_eq_true rfl⟩ (fun u q1 H locs hw hP hD hS => ?_)
  have hP : va_P G.1 vwCl [(r, .inr (2, [.ref ax])), (ax, zL2 G e0 e1), (ho, zB G (Bw w0 w1 w2 w3)), (q1, zL2 G (-9223372036854775808) 0)] H := hP
  have hD : va_D A [(r, .inr (2, [.ref ax])), (ax, zL2 G e0 e1), (ho, zB G (Bw w0 w1 w2 w3)), (q1, zL2 G (-9223372036854775808) 0)] := hD
  refine lv_astore (lv' := [(4, .ref q1), (0, .ref r), (1, .long pw), (3, .ref ho)]) hx hb dX3_exponentiateX_3 hl (by decide) rfl (fun ls hl => ?_)
  refine lv_lload_n hx hb dX3_exponentiateX_5 rfl (lv_at hl 2 rfl) ?_
  refine lv_lconst (v := 0) hx hb dX3_exponentiateX_6 (by decide) ?_
  refine W.lcmp hx hb dX3_exponentiateX_7 ?_
  refine lv_if_le (tgt := 57) hx hb dX3_exponentiateX_8 (by decide) (fun c_ => ?_) (fun c_ => ?_)
  · exact fin _ _ q1 _ _ (by rw [jE, jEl_stop (fun h => absurd ((lg_cmp_le _ _).mp c_) (Int64.not_le.mpr h))]) (Nat.le_of_ble_eq_true rfl) (Nat.le_of_ble_eq_true rfl) _ _ hP hD hS ls (lv_sub hl [3, 0] rfl)
  · have hpos : 0 < pw := Int64.not_le.mp (fun h => c_ ((lg_cmp_le _ _).mpr h))
    refine lv_iconst (v := nI 2) hx hb dX3_exponentiateX_11 (by decide) ?_
    refine z_newL (g := L2 0 0) hx hb hts hK hP hD hS hA 2 L2_z (by decide) (Nat.le_of_ble_eq_true rfl) (Nat.le_of_ble_eq_true rfl) dX3_exponentiateX_12 (fun q2 H hP hD hS => ?_)
    have hP : va_P G.1 vwCl [(r, .inr (2, [.ref ax])), (ax, zL2 G e0 e1), (ho, zB G (Bw w0 w1 w2 w3)), (q1, zL2 G (-9223372036854775808) 0), (q2, zL2 G 0 0)] H := hP
    have hD : va_D A [(r, .inr (2, [.ref ax])), (ax, zL2 G e0 e1), (ho, zB G (Bw w0 w1 w2 w3)), (q1, zL2 G (-9223372036854775808) 0), (q2, zL2 G 0 0)] := hD
    refine lv_astore (lv' := [(5, .ref q2), (4, .ref q1), (0, .ref r), (1, .long pw), (3, .ref ho)]) hx hb dX3_exponentiateX_14 hl (by decide) rfl (fun ls hl => ?_)
    refine lv_aload_n hx hb dX3_exponentiateX_16 rfl (lv_at hl 2 rfl) ?_
    refine va_get (D := G.1) (ci := 2) (v := .ref ax) (C := RX3) (T := TX3) (N := 1) hx hb hts in_X3 hown hK hP 0 rfl rfl 0 (by decide) (hts _ q47) (fun _ h9 => h9) rfl dX3_exponentiateX_17 ?_
    refine lv_aload hx hb dX3_exponentiateX_20 (lv_at hl 0 rfl) ?_
    refine z_Sv (As := [.ref ax, .ref q2]) (rest := []) (wc := [(ax, zL2 G e0 e1), (q2, zL2 G 0 0)]) (wr := [(r, .inr (2, [.ref ax])), (ho, zB G (Bw w0 w1 w2 w3)), (q1, zL2 G (-9223372036854775808) 0)]) ⟨hx, hb, hml, hown, hts⟩ (met_copy l G H.size ax q2 e0 e1 0 0) (va_cwS 2 hts (lw_S q83 q84 q4 q85) rfl rfl rfl (by decide +kernel) ⟨Nat.le_of_ble_eq_true rfl, Nat.le_of_ble_eq_true rfl⟩) hK hP hD hS hA (z_ix [1, 4] [0, 2, 3] rfl rfl rfl rfl rfl (by decide)) rfl hl.1 rfl (Nat.le_of_ble_eq_true rfl) dX3_exponentiateX_22 ⟨Nat.le_of_ble_eq_true rfl, Nat.le_of_ble_eq_true rfl⟩ (fun u H locs hw hP hD hS => ?_)
    have hP : va_P G.1 vwCl [(r, .inr (2, [.ref ax])), (ho, zB G (Bw w0 w1 w2 w3)), (q1, zL2 G (-9223372036854775808) 0), (ax, zL2 G e0 e1), (q2, zL2 G e0 e1)] H := hP
    have hD : va_D A [(r, .inr (2, [.ref ax])), (ho, zB G (Bw w0 w1 w2 w3)), (q1, zL2 G (-9223372036854775808) 0), (ax, zL2 G e0 e1), (q2, zL2 G e0 e1)] := hD
    refine W.widen (k := 2 + 0) (n := 4 + 4 * 0) (Nat.le_of_ble_eq_true rfl) (Nat.le_of_ble_eq_true rfl) ?_
    exact loop 62 0 pw _ _ e0 e1 q1 q2 rfl hpos hpw rfl _ _ (hP.sub [0, 3, 1, 2, 4] rfl) (hD.sub [0, 3, 1, 2, 4] (by decide) rfl) hS ls (lv_sub hl [2, 3, 4, 1, 0] rfl)
end
section
/-! bytes, words and longs by their bits -/
theorem jsshr_bv (w : Int32) (k : Nat) (hk : k < 32) : (w >>> (nI k &&& 31)).toBitVec = w.toBitVec.sshiftRight k := by
  have h : ∀ k, k < 32 → ((nI k &&& 31).toBitVec.smod 32).toNat = k := by decide +kernel
  show w.toBitVec.sshiftRight ((nI k &&& 31).toBitVec.smod 32).toNat = _
  rw [h k hk]
theorem jishl_bv (w : Int32) (k : Nat) (hk : k < 32) : (w <<< (nI k &&& 31)).toBitVec = w.toBitVec <<< k := by
  have h : ∀ k, k < 32 → ((nI k &&& 31).toBitVec.smod 32).toNat = k := by decide +kernel
  show w.toBitVec <<< ((nI k &&& 31).toBitVec.smod 32).toNat = _
  rw [h k hk]
theorem jiushr_bv (w : Int32) (k : Nat) (hk : k < 32) : (jiushr w (nI k)).toBitVec = w.toBitVec >>> k := by
  have h : ∀ k, k < 32 → ((nI k).toUInt32 &&& Int32.toUInt32 31).toNat = k := by decide +kernel
  apply BitVec.eq_of_toNat_eq
  show (w.toUInt32 >>> ((nI k).toUInt32 &&& Int32.toUInt32 31)).toNat = _
  rw [UInt32.toNat_shiftRight, h k hk, Nat.mod_eq_of_lt hk, BitVec.toNat_ushiftRight]
  rfl
abbrev bI (w : Int32) (i : Nat) : Bool := w.toBitVec.getLsbD i
abbrev bL (n : Int64) (i : Nat) : Bool := n.toBitVec.getLsbD i
theorem bI_ext {a b : Int32} (h : ∀ i, i < 32 → bI a i = bI b i) : a = b := Int32.toBitVec_inj.mp (BitVec.eq_of_getLsbD_eq h)
theorem bL_ext {a b : Int64} (h : ∀ i, i < 64 → bL a i = bL b i) : a = b := Int64.toBitVec_inj.mp (BitVec.eq_of_getLsbD_eq h)
theorem jb8 (w : Int32) (k : Nat) (hk : k ≤ 24) : (w >>> (nI k &&& 31)).toInt8.toInt32 = (jiushr w (nI k)).toInt8.toInt32 := by
  congr 1
  apply Int8.toBitVec_inj.mp
  rw [Int32.toBitVec_toInt8, Int32.toBitVec_toInt8, jsshr_bv _ _ (by omega), jiushr_bv _ _ (by omega)]
  apply BitVec.eq_of_getLsbD_eq
  intro i hi
  rw [BitVec.getLsbD_signExtend, BitVec.getLsbD_signExtend, BitVec.getLsbD_sshiftRight, BitVec.getLsbD_ushiftRight, if_pos (show i < 32 by omega), if_pos (show i < 32 by omega), if_pos (show k + i < 32 by omega)]
  simp [show ¬ 32 ≤ i by omega]
theorem jbyte_bit (x : Int32) (i : Nat) (hi : i < 8) : bI x.toInt8.toInt32 i = bI x i := by
  show (x.toInt8.toInt32.toBitVec).getLsbD i = _
  rw [Int8.toBitVec_toInt32, Int32.toBitVec_toInt8, BitVec.getLsbD_signExtend, if_pos hi, BitVec.getLsbD_signExtend, if_pos (show i < 32 by omega)]
  simp [show i < 32 by omega, hi]
theorem jb_bit (w : Int32) (k : Nat) (hk : k < 4) (i : Nat) (hi : i < 8) : bI (jb w k) i = bI w (24 - 8 * k + i) := by
  have h : k = 0 ∨ k = 1 ∨ k = 2 ∨ k = 3 := by omega
  rcases h with rfl | rfl | rfl | rfl
  · rw [show jb w 0 = (jiushr w (nI 24)).toInt8.toInt32 from rfl, jbyte_bit _ _ hi]
    show (jiushr w (nI 24)).toBitVec.getLsbD i = _
    rw [jiushr_bv _ _ (by decide), BitVec.getLsbD_ushiftRight]
  · rw [show jb w 1 = (jiushr w (nI 16)).toInt8.toInt32 from rfl, jbyte_bit _ _ hi]
    show (jiushr w (nI 16)).toBitVec.getLsbD i = _
    rw [jiushr_bv _ _ (by decide), BitVec.getLsbD_ushiftRight]
  · rw [show jb w 2 = (jiushr w (nI 8)).toInt8.toInt32 from rfl, jbyte_bit _ _ hi]
    show (jiushr w (nI 8)).toBitVec.getLsbD i = _
    rw [jiushr_bv _ _ (by decide), BitVec.getLsbD_ushiftRight]
  · rw [show jb w 3 = w.toInt8.toInt32 from rfl, jbyte_bit _ _ hi]
    show _ = w.toBitVec.getLsbD (0 + i)
    rw [Nat.zero_add]
theorem m255 (j : Nat) : bI (nI 255) j = decide (j < 8) := by
  by_cases h : j < 32
  · have h1 : ∀ j, j < 32 → bI (nI 255) j = decide (j < 8) := by decide +kernel
    exact h1 j h
  · show (nI 255).toBitVec.getLsbD j = _
    rw [BitVec.getLsbD_of_ge _ _ (by omega)]
    simp; omega
theorem m255L (j : Nat) : bL 255 j = decide (j < 8) := by
  by_cases h : j < 64
  · have h1 : ∀ j, j < 64 → bL 255 j = decide (j < 8) := by decide +kernel
    exact h1 j h
  · show (255 : Int64).toBitVec.getLsbD j = _
    rw [BitVec.getLsbD_of_ge _ _ (by omega)]
    simp; omega
theorem mLo (j : Nat) : bL 4294967295 j = decide (j < 32) := by
  by_cases h : j < 64
  · have h1 : ∀ j, j < 64 → bL 4294967295 j = decide (j < 32) := by decide +kernel
    exact h1 j h
  · show (4294967295 : Int64).toBitVec.getLsbD j = _
    rw [BitVec.getLsbD_of_ge _ _ (by omega)]
    simp; omega
theorem bI_or (a b : Int32) (i : Nat) : bI (a ||| b) i = (bI a i || bI b i) := by
  show (a ||| b).toBitVec.getLsbD i = _
  rw [Int32.toBitVec_or, BitVec.getLsbD_or]
theorem bI_and (a b : Int32) (i : Nat) : bI (a &&& b) i = (bI a i && bI b i) := by
  show (a &&& b).toBitVec.getLsbD i = _
  rw [Int32.toBitVec_and, BitVec.getLsbD_and]
theorem bL_or (a b : Int64) (i : Nat) : bL (a ||| b) i = (bL a i || bL b i) := by
  show (a ||| b).toBitVec.getLsbD i = _
  rw [Int64.toBitVec_or, BitVec.getLsbD_or]
theorem bL_and (a b : Int64) (i : Nat) : bL (a &&& b) i = (bL a i && bL b i) := by
  show (a &&& b).toBitVec.getLsbD i = _
  rw [Int64.toBitVec_and, BitVec.getLsbD_and]
theorem bI_shl (a : Int32) (k : Nat) (hk : k < 32) (i : Nat) : bI (a <<< (nI k &&& 31)) i = (decide (i < 32) && !decide (i < k) && bI a (i - k)) := by
  show (a <<< (nI k &&& 31)).toBitVec.getLsbD i = _
  rw [jishl_bv _ _ hk, BitVec.getLsbD_shiftLeft]
theorem bL_shl (a : Int64) (k : Nat) (hk : k < 64) (i : Nat) : bL (jlshl a (nI k)) i = (decide (i < 64) && !decide (i < k) && bL a (i - k)) := by
  show (jlshl a (nI k)).toBitVec.getLsbD i = _
  rw [jlshl_bv _ _ hk, BitVec.getLsbD_shiftLeft]
theorem bL_shr (a : Int64) (k : Nat) (hk : k < 64) (i : Nat) : bL (jlushr a (nI k)) i = bL a (k + i) := by
  show (jlushr a (nI k)).toBitVec.getLsbD i = _
  rw [jlushr_bv _ _ hk, BitVec.getLsbD_ushiftRight]
theorem bL_ext32 (a : Int32) (i : Nat) (hi : i < 32) : bL a.toInt64 i = bI a i := by
  show a.toInt64.toBitVec.getLsbD i = _
  rw [Int32.toBitVec_toInt64, BitVec.getLsbD_signExtend, if_pos hi]
  simp [show i < 64 by omega]
theorem bI_cut (a : Int64) (i : Nat) (hi : i < 32) : bI a.toInt32 i = bL a i := by
  show a.toInt32.toBitVec.getLsbD i = _
  rw [Int64.toBitVec_toInt32, BitVec.getLsbD_signExtend, if_pos (show i < 64 by omega)]
  simp [hi]
theorem jB2I_jb (w : Int32) : jB2I (jb w 0) (jb w 1) (jb w 2) (jb w 3) = w := by
  apply bI_ext
  intro i hi
  unfold jB2I
  rw [bI_or, bI_or, bI_or, bI_shl _ _ (by decide), bI_shl _ _ (by decide), bI_shl _ _ (by decide), bI_and, bI_and, bI_and, m255, m255, m255]
  by_cases h1 : i < 8
  · rw [jb_bit w 3 (by decide) i h1]
    simp [h1, show i < 16 by omega, show i < 24 by omega]
  · by_cases h2 : i < 16
    · rw [jb_bit w 2 (by decide) (i - 8) (by omega), show 24 - 8 * 2 + (i - 8) = i by omega]
      simp [h1, h2, show i < 24 by omega, show i - 8 < 8 by omega, hi]
    · by_cases h3 : i < 24
      · rw [jb_bit w 1 (by decide) (i - 16) (by omega), show 24 - 8 * 1 + (i - 16) = i by omega]
        simp [h1, h2, h3, show ¬ i - 8 < 8 by omega, show i - 16 < 8 by omega, hi]
      · rw [jb_bit w 0 (by decide) (i - 24) (by omega), show 24 - 8 * 0 + (i - 24) = i by omega]
        simp [h1, h2, h3, show ¬ i - 8 < 8 by omega, show ¬ i - 16 < 8 by omega, hi]
def j64 (hi lo : Int32) : Int64 := jlshl hi.toInt64 (nI 32) ||| (lo.toInt64 &&& 4294967295)
theorem j64_bit (a b : Int32) (i : Nat) (hi : i < 64) : bL (j64 a b) i = if i < 32 then bI b i else bI a (i - 32) := by
  unfold j64
  rw [bL_or, bL_and, bL_shl _ _ (by decide), mLo]
  by_cases h : i < 32
  · rw [if_pos h, bL_ext32 b i h]
    simp [h]
  · rw [if_neg h, bL_ext32 a (i - 32) (by omega)]
    simp [h, hi]
theorem jhi_bit (n : Int64) (i : Nat) (hi : i < 32) : bI (jhi n) i = bL n (32 + i) := by
  unfold jhi
  rw [bI_cut _ _ hi, bL_shr _ _ (by decide)]
theorem jlo_bit (n : Int64) (i : Nat) (hi : i < 32) : bI (jlo n) i = bL n i := by
  unfold jlo
  rw [bI_cut _ _ hi, bL_and, mLo]
  simp [hi]
theorem jhi_j64 (a b : Int32) : jhi (j64 a b) = a := bI_ext fun i hi => by
  rw [jhi_bit _ _ hi, j64_bit _ _ _ (by omega), if_neg (by omega), show 32 + i - 32 = i by omega]
theorem jlo_j64 (a b : Int32) : jlo (j64 a b) = b := bI_ext fun i hi => by
  rw [jlo_bit _ _ hi, j64_bit _ _ _ (by omega), if_pos hi]
theorem j64_hl (n : Int64) : j64 (jhi n) (jlo n) = n := bL_ext fun i hi => by
  rw [j64_bit _ _ _ hi]
  by_cases h : i < 32
  · rw [if_pos h, jlo_bit _ _ h]
  · rw [if_neg h, jhi_bit _ _ (by omega), show 32 + (i - 32) = i by omega]
theorem jB2L_w (f : Nat → Int32) (k : Nat) (a b : Int32) (h0 : f k = jb a 0) (h1 : f (k + 1) = jb a 1) (h2 : f (k + 2) = jb a 2) (h3 : f (k + 3) = jb a 3) (h4 : f (k + 4) = jb b 0) (h5 : f (k + 5) = jb b 1) (h6 : f (k + 6) = jb b 2) (h7 : f (k + 7) = jb b 3) : jB2L f k = j64 a b := by
  unfold jB2L
  rw [h0, h1, h2, h3, h4, h5, h6, h7, jB2I_jb, jB2I_jb]
  apply bL_ext
  intro i hi
  unfold j64
  rw [bL_or, bL_or, bL_shl _ _ (by decide), bL_shl _ _ (by decide), bL_and a.toInt64, mLo]
  by_cases h : i < 32
  · simp [h]
  · simp [h, show i - 32 < 32 by omega]
theorem jB2L_0 (a b c d : Int32) : jB2L (Bw a b c d) 0 = j64 a b := by
  apply jB2L_w <;> simp [Bw]
theorem jB2L_8 (a b c d : Int32) : jB2L (Bw a b c d) 8 = j64 c d := by
  apply jB2L_w <;> simp [Bw]
abbrev zby (x y : Int64) : Nat → Int32 := Bw (jhi x) (jlo x) (jhi y) (jlo y)
theorem zby_0 (x y : Int64) : jB2L (zby x y) 0 = x := by rw [jB2L_0, j64_hl]
theorem zby_8 (x y : Int64) : jB2L (zby x y) 8 = y := by rw [jB2L_8, j64_hl]
theorem zby_64 (a b c d : Int32) : zby (j64 a b) (j64 c d) = Bw a b c d := by
  unfold zby
  rw [jhi_j64, jlo_j64, jhi_j64, jlo_j64]
theorem jb_n (w : Int32) (k : Nat) : (jb w k).toInt8.toInt32 = jb w k := by
  unfold jb
  split
  · rw [jb_b]
  · split
    · rw [jb_b]
    · split
      · rw [jb_b]
      · rw [jb_b]
theorem Bw_n (a b c d : Int32) (j : Nat) : (Bw a b c d j).toInt8.toInt32 = Bw a b c d j := by
  unfold Bw
  split
  · rw [jb_n]
  · split
    · rw [jb_n]
    · split
      · rw [jb_n]
      · split
        · rw [jb_n]
        · rfl
theorem jexp_64 (hi lo : Int32) : jexp hi lo = j64 (hi &&& 2147483647) lo := rfl
theorem jexp_lt (hi lo : Int32) : (jexp hi lo).toBitVec.toNat < 2 ^ 63 := by
  apply Nat.lt_pow_two_of_testBit
  intro i h
  show bL (jexp hi lo) i = false
  by_cases h2 : i < 64
  · have e : i = 63 := by omega
    subst e
    have m : bI 2147483647 31 = false := by decide +kernel
    rw [jexp_64, j64_bit _ _ _ (by decide), if_neg (by decide), bI_and, show 63 - 32 = 31 from rfl, m, Bool.and_false]
  · exact BitVec.getLsbD_of_ge _ _ (by omega)
/-- copying: the first i places are f's, the others still g's -/
def cp (f g : Nat → Int32) (i : Nat) : Nat → Int32 := fun j => if j < i then f j else g j
theorem cp_0 (f g : Nat → Int32) : cp f g 0 = g := by
  funext j
  unfold cp
  rw [if_neg (by omega)]
theorem cp_s (f g : Nat → Int32) (i : Nat) : upd (cp f g i) i (f i) = cp f g (i + 1) := by
  funext j
  unfold upd cp
  by_cases h : j = i
  · rw [if_pos h, if_pos (by omega), h]
  · rw [if_neg h]
    by_cases h2 : j < i
    · rw [if_pos h2, if_pos (by omega)]
    · rw [if_neg h2, if_neg (by omega)]
theorem cp_16 (a b c d a' b' c' d' : Int32) : cp (Bw a b c d) (Bw a' b' c' d') 16 = Bw a b c d := by
  funext j
  unfold cp
  by_cases h : j < 16
  · rw [if_pos h]
  · rw [if_neg h, Bw_out _ _ _ _ h, Bw_out _ _ _ _ h]
/-- what the law's 'shown' compares -/
def jsh (z z2 : Int64) (k : Nat) : Int64 := if k < 8 then jlushr z (nI (56 - 8 * k)) else jlushr z2 (nI (120 - 8 * k))
theorem jhb (n : Int64) (k i : Nat) (hk : k < 4) (hi : i < 8) : bI (jb (jhi n) k) i = bL n (56 - 8 * k + i) := by
  rw [jb_bit _ _ hk _ hi, jhi_bit _ _ (by omega), show 32 + (24 - 8 * k + i) = 56 - 8 * k + i by omega]
theorem jlb (n : Int64) (k i : Nat) (hk : k < 4) (hi : i < 8) : bI (jb (jlo n) k) i = bL n (24 - 8 * k + i) := by
  rw [jb_bit _ _ hk _ hi, jlo_bit _ _ (by omega)]
theorem zby_bit (z z2 : Int64) (k i : Nat) (hk : k < 16) (hi : i < 8) : bI (zby z z2 k) i = bL (jsh z z2 k) i := by
  unfold zby Bw jsh
  by_cases h1 : k < 4
  · rw [if_pos h1, if_pos (by omega), jhb _ _ _ h1 hi, bL_shr _ _ (by omega)]
  · by_cases h2 : k < 8
    · rw [if_neg h1, if_pos h2, if_pos h2, jlb _ _ _ (by omega) hi, bL_shr _ _ (by omega), show 24 - 8 * (k - 4) + i = 56 - 8 * k + i by omega]
    · by_cases h3 : k < 12
      · rw [if_neg h1, if_neg h2, if_pos h3, if_neg h2, jhb _ _ _ (by omega) hi, bL_shr _ _ (by omega), show 56 - 8 * (k - 8) + i = 120 - 8 * k + i by omega]
      · rw [if_neg h1, if_neg h2, if_neg h3, if_pos hk, if_neg h2, jlb _ _ _ (by omega) hi, bL_shr _ _ (by omega), show 24 - 8 * (k - 12) + i = 120 - 8 * k + i by omega]
theorem zby_show (z z2 : Int64) (k : Nat) (hk : k < 16) : zby z z2 k &&& nI 255 = (jsh z z2 k &&& 255).toInt32 := by
  apply bI_ext
  intro i hi
  rw [bI_and, m255, bI_cut _ _ hi, bL_and, m255L]
  by_cases h : i < 8
  · rw [zby_bit _ _ _ _ hk h]
  · simp [h]
theorem nI_sub {k i : Nat} (h : i ≤ k) : nI k - nI i = nI (k - i) := by
  have e : nI k = nI (k - i) + nI i := by rw [nI_add, Nat.sub_add_cancel h]
  rw [e]
  exact Int32.add_sub_cancel _ _
theorem nI_mul (a b : Nat) : nI a * nI b = nI (a * b) := (Int32.ofNat_mul a b).symm
theorem nI_and15 (x : Int32) : ∃ k, k < 16 ∧ x &&& nI 15 = nI k := by
  refine ⟨x.toBitVec.toNat % 16, Nat.mod_lt _ (by decide), ?_⟩
  apply Int32.toBitVec_inj.mp
  apply BitVec.eq_of_toNat_eq
  rw [Int32.toBitVec_and, BitVec.toNat_and, show (nI 15).toBitVec.toNat = 2 ^ 4 - 1 from by decide +kernel, Nat.and_two_pow_sub_one_eq_mod]
  show _ = (BitVec.ofNat 32 (x.toBitVec.toNat % 16)).toNat
  rw [BitVec.toNat_ofNat, Nat.mod_eq_of_lt (by omega : x.toBitVec.toNat % 16 < 2 ^ 32)]
end
section
/-! FieldPowerDesk -/
set_option maxHeartbeats 4000000 in
set_option maxRecDepth 100000 in
/-- FieldPowerDesk() -/
theorem met_desk_init (l : Launch) (G : z_G) (sz : Nat) (d : Nat) (v : Value) : Met l yX1_init (ws_ yX1_init cX1_init 1 none) ({ frames := 1, cells := 2, slots := 32, locals := 12 }) (zPre G [.ref d] sz [(d, .inr (0, [.null, .null, v]))]) (zQv G (fun (u : (Nat × Nat)) => True) (fun (u : (Nat × Nat)) => [(d, .inr (0, [.ref u.1, .ref u.2, v])), (u.1, zB G (Bw 0 0 0 0)), (u.2, zB G (Bw 0 0 0 0))]) (va_A [(d, .inr (0, [.null, .null, v]))] sz)) 2 32 (va_A [(d, .inr (0, [.null, .null, v]))] sz) := by
  refine z_met (QK := zQv G (fun (u : (Nat × Nat)) => True) (fun (u : (Nat × Nat)) => [(d, .inr (0, [.ref u.1, .ref u.2, v])), (u.1, zB G (Bw 0 0 0 0)), (u.2, zB G (Bw 0 0 0 0))])) (by decide) (Nat.le_of_ble_eq_true rfl) ?_
  intro p e s m below meth c A H ls hx hb hr hlocks hml hown hin hts hK hP hD hA hS hl
  have hown : s.vm.findClass RX1 = some m.cls := hown
  have hl : lv_has ls 1 [(0, .ref d)] := hl
  refine lv_aload_n hx hb dX1_init_0 rfl (lv_at hl 0 rfl) ?_
  refine W.objInit hx hb hown (hts _ q16) (hts _ q17) (hts _ q18) rfl (by rw [hml]; exact hl.1) rfl dX1_init_1 (Nat.le_of_ble_eq_true rfl) (Nat.le_of_ble_eq_true rfl) ?_
  refine W.eq (g2 := F0 m 4 ls []) rfl ?_
  refine lv_aload_n hx hb dX1_init_4 rfl (lv_at hl 0 rfl) ?_
  refine lv_bipush (v := nI 16) hx hb dX1_init_5 (by decide) ?_
  refine z_newB hx hb hts hK hP hD hS hA (Nat.le_of_ble_eq_true rfl) (Nat.le_of_ble_eq_true rfl) dX1_init_7 (fun q1 H hP hD hS => ?_)
  have hP : va_P G.1 vwCl [(d, .inr (0, [.null, .null, v])), (q1, zB G (Bw 0 0 0 0))] H := hP
  have hD : va_D A [(d, .inr (0, [.null, .null, v])), (q1, zB G (Bw 0 0 0 0))] := hD
  refine va_putF (D := G.1) (ci := 0) (v := .ref q1) (ty := .array .byte) (C := RX1) (T := TX1) (N := 3) hx hb hts in_X1 tyX1 tyX1_ok nmX1 hown hK hP hD hS 0 rfl rfl 0 (by decide) (hts _ q19) (fun _ h9 => h9) rfl hin rfl (by decide +kernel) rfl rfl (Nat.le_of_ble_eq_true rfl) dX1_init_9 (fun H locs hP hD hS => ?_)
  have hP : va_P G.1 vwCl [(d, .inr (0, [.ref q1, .null, v])), (q1, zB G (Bw 0 0 0 0))] H := hP
  have hD : va_D A [(d, .inr (0, [.ref q1, .null, v])), (q1, zB G (Bw 0 0 0 0))] := hD
  refine lv_aload_n hx hb dX1_init_12 rfl (lv_at hl 0 rfl) ?_
  refine lv_bipush (v := nI 16) hx hb dX1_init_13 (by decide) ?_
  refine z_newB hx hb hts hK hP hD hS hA (Nat.le_of_ble_eq_true rfl) (Nat.le_of_ble_eq_true rfl) dX1_init_15 (fun q2 H hP hD hS => ?_)
  have hP : va_P G.1 vwCl [(d, .inr (0, [.ref q1, .null, v])), (q1, zB G (Bw 0 0 0 0)), (q2, zB G (Bw 0 0 0 0))] H := hP
  have hD : va_D A [(d, .inr (0, [.ref q1, .null, v])), (q1, zB G (Bw 0 0 0 0)), (q2, zB G (Bw 0 0 0 0))] := hD
  refine va_putF (D := G.1) (ci := 0) (v := .ref q2) (ty := .array .byte) (C := RX1) (T := TX1) (N := 3) hx hb hts in_X1 tyX1 tyX1_ok nmX1 hown hK hP hD hS 0 rfl rfl 1 (by decide) (hts _ q20) (fun _ h9 => h9) rfl hin rfl (by decide +kernel) rfl rfl (Nat.le_of_ble_eq_true rfl) dX1_init_17 (fun H locs hP hD hS => ?_)
  have hP : va_P G.1 vwCl [(d, .inr (0, [.ref q1, .ref q2, v])), (q1, zB G (Bw 0 0 0 0)), (q2, zB G (Bw 0 0 0 0))] H := hP
  have hD : va_D A [(d, .inr (0, [.ref q1, .ref q2, v])), (q1, zB G (Bw 0 0 0 0)), (q2, zB G (Bw 0 0 0 0))] := hD
  exact z_vret (q1, q2) hx hb hr hlocks hK hP hD hS rfl trivial (Nat.le_of_ble_eq_true rfl) (Nat.le_of_ble_eq_true rfl) dX1_init_20
set_option maxHeartbeats 4000000 in
set_option maxRecDepth 100000 in
/-- FieldPowerDesk.word(h, k, n) -/
theorem met_word (l : Launch) (G : z_G) (sz : Nat) (n : Int32) (h : Nat) (f : Nat → Int32) (k : Nat) (hk : k ≤ 12) : Met l yX1_word (ws_ yX1_word cX1_word 3 none) ({ frames := 0, cells := 0, slots := 0, locals := 0 }) (zPre G [.ref h, .int (nI k), .int n] sz [(h, zB G f)]) (zQv G (fun (u : Unit) => True) (fun (u : Unit) => [(h, zB G (wr f k n))]) (va_A [(h, zB G f)] sz)) 0 0 (va_A [(h, zB G f)] sz) := by
  refine z_met (QK := zQv G (fun (u : Unit) => True) (fun (u : Unit) => [(h, zB G (wr f k n))])) (by decide) (Nat.le_of_ble_eq_true rfl) ?_
  intro p e s m below meth c A H ls hx hb hr hlocks hml hown hin hts hK hP hD hA hS hl
  have hown : s.vm.findClass RX1 = some m.cls := hown
  have hl : lv_has ls 3 [(0, .ref h), (1, .int (nI k)), (2, .int n)] := hl
  refine lv_aload_n hx hb dX1_word_0 rfl (lv_at hl 0 rfl) ?_
  refine lv_iload_n hx hb dX1_word_1 rfl (lv_at hl 1 rfl) ?_
  refine lv_iload_n hx hb dX1_word_2 rfl (lv_at hl 2 rfl) ?_
  refine lv_bipush (v := nI 24) hx hb dX1_word_3 (by decide) ?_
  refine lv_ishr hx hb dX1_word_5 ?_
  refine lv_i2b (v := (n >>> ((nI 24) &&& 31)).toInt8.toInt32) hx hb dX1_word_6 rfl ?_
  refine z_bast (g := (upd f k (jb n 0))) hx hb hK hP hD hS 0 k rfl (by omega) (by rw [jb_b, jb8 n 24 (by decide)]; rfl) dX1_word_7 (fun H locs hP hD hS => ?_)
  have hP : va_P G.1 vwCl [(h, zB G (upd f k (jb n 0)))] H := hP
  have hD : va_D A [(h, zB G (upd f k (jb n 0)))] := hD
  refine lv_aload_n hx hb dX1_word_8 rfl (lv_at hl 0 rfl) ?_
  refine lv_iload_n hx hb dX1_word_9 rfl (lv_at hl 1 rfl) ?_
  refine lv_iconst (v := nI 1) hx hb dX1_word_10 (by decide) ?_
  refine lv_iadd hx hb dX1_word_11 ?_
  rw [nI_add]
  refine lv_iload_n hx hb dX1_word_12 rfl (lv_at hl 2 rfl) ?_
  refine lv_bipush (v := nI 16) hx hb dX1_word_13 (by decide) ?_
  refine lv_ishr hx hb dX1_word_15 ?_
  refine lv_i2b (v := (n >>> ((nI 16) &&& 31)).toInt8.toInt32) hx hb dX1_word_16 rfl ?_
  refine z_bast (g := (upd (upd f k (jb n 0)) (k + 1) (jb n 1))) hx hb hK hP hD hS 0 (k + 1) rfl (by omega) (by rw [jb_b, jb8 n 16 (by decide)]; rfl) dX1_word_17 (fun H locs hP hD hS => ?_)
  have hP : va_P G.1 vwCl [(h, zB G (upd (upd f k (jb n 0)) (k + 1) (jb n 1)))] H := hP
  have hD : va_D A [(h, zB G (upd (upd f k (jb n 0)) (k + 1) (jb n 1)))] := hD
  refine lv_aload_n hx hb dX1_word_18 rfl (lv_at hl 0 rfl) ?_
  refine lv_iload_n hx hb dX1_word_19 rfl (lv_at hl 1 rfl) ?_
  refine lv_iconst (v := nI 2) hx hb dX1_word_20 (by decide) ?_
  refine lv_iadd hx hb dX1_word_21 ?_
  rw [nI_add]
  refine lv_iload_n hx hb dX1_word_22 rfl (lv_at hl 2 rfl) ?_
  refine lv_bipush (v := nI 8) hx hb dX1_word_23 (by decide) ?_
  refine lv_ishr hx hb dX1_word_25 ?_
  refine lv_i2b (v := (n >>> ((nI 8) &&& 31)).toInt8.toInt32) hx hb dX1_word_26 rfl ?_
  refine z_bast (g := (upd (upd (upd f k (jb n 0)) (k + 1) (jb n 1)) (k + 2) (jb n 2))) hx hb hK hP hD hS 0 (k + 2) rfl (by omega) (by rw [jb_b, jb8 n 8 (by decide)]; rfl) dX1_word_27 (fun H locs hP hD hS => ?_)
  have hP : va_P G.1 vwCl [(h, zB G (upd (upd (upd f k (jb n 0)) (k + 1) (jb n 1)) (k + 2) (jb n 2)))] H := hP
  have hD : va_D A [(h, zB G (upd (upd (upd f k (jb n 0)) (k + 1) (jb n 1)) (k + 2) (jb n 2)))] := hD
  refine lv_aload_n hx hb dX1_word_28 rfl (lv_at hl 0 rfl) ?_
  refine lv_iload_n hx hb dX1_word_29 rfl (lv_at hl 1 rfl) ?_
  refine lv_iconst (v := nI 3) hx hb dX1_word_30 (by decide) ?_
  refine lv_iadd hx hb dX1_word_31 ?_
  rw [nI_add]
  refine lv_iload_n hx hb dX1_word_32 rfl (lv_at hl 2 rfl) ?_
  refine lv_i2b (v := n.toInt8.toInt32) hx hb dX1_word_33 rfl ?_
  refine z_bast (g := (wr f k n)) hx hb hK hP hD hS 0 (k + 3) rfl (by omega) (by rw [jb_b]; rfl) dX1_word_34 (fun H locs hP hD hS => ?_)
  have hP : va_P G.1 vwCl [(h, zB G (wr f k n))] H := hP
  have hD : va_D A [(h, zB G (wr f k n))] := hD
  exact z_vret () hx hb hr hlocks hK hP hD hS rfl trivial (Nat.le_of_ble_eq_true rfl) (Nat.le_of_ble_eq_true rfl) dX1_word_35
set_option maxHeartbeats 4000000 in
set_option maxRecDepth 100000 in
/-- FieldPowerDesk.base(a, b, c, f) -/
theorem met_desk_base (l : Launch) (G : z_G) (sz : Nat) (d ab ho : Nat) (v : Value) (w0 w1 w2 w3 a b c f : Int32) : Met l yX1_base (ws_ yX1_base cX1_base 5 none) ({ frames := 1, cells := 0, slots := 0, locals := 22 }) (zPre G [.ref d, .int a, .int b, .int c, .int f] sz [(d, .inr (0, [.ref ab, .ref ho, v])), (ab, zB G (Bw w0 w1 w2 w3))]) (zQv G (fun (u : Unit) => True) (fun (u : Unit) => [(d, .inr (0, [.ref ab, .ref ho, v])), (ab, zB G (Bw a b c f))]) (va_A [(d, .inr (0, [.ref ab, .ref ho, v])), (ab, zB G (Bw w0 w1 w2 w3))] sz)) 0 0 (va_A [(d, .inr (0, [.ref ab, .ref ho, v])), (ab, zB G (Bw w0 w1 w2 w3))] sz) := by
  refine z_met (QK := zQv G (fun (u : Unit) => True) (fun (u : Unit) => [(d, .inr (0, [.ref ab, .ref ho, v])), (ab, zB G (Bw a b c f))])) (by decide) (Nat.le_of_ble_eq_true rfl) ?_
  intro p e s m below meth c_ A H ls hx hb hr hlocks hml hown hin hts hK hP hD hA hS hl
  have hown : s.vm.findClass RX1 = some m.cls := hown
  have hl : lv_has ls 5 [(0, .ref d), (1, .int a), (2, .int b), (3, .int c), (4, .int f)] := hl
  refine lv_aload_n hx hb dX1_base_0 rfl (lv_at hl 0 rfl) ?_
  refine va_get (D := G.1) (ci := 0) (v := .ref ab) (C := RX1) (T := TX1) (N := 3) hx hb hts in_X1 hown hK hP 0 rfl rfl 0 (by decide) (hts _ q19) (fun _ h9 => h9) rfl dX1_base_1 ?_
  refine lv_iconst (v := nI 0) hx hb dX1_base_4 (by decide) ?_
  refine lv_iload_n hx hb dX1_base_5 rfl (lv_at hl 1 rfl) ?_
  refine z_Sv (As := [.ref ab, .int (nI 0), .int a]) (rest := []) (wc := [(ab, zB G (Bw w0 w1 w2 w3))]) (wr := [(d, .inr (0, [.ref ab, .ref ho, v]))]) ⟨hx, hb, hml, hown, hts⟩ (met_word l G H.size a ab (Bw w0 w1 w2 w3) 0 (by decide)) (va_cwS 3 hts (lw_S q34 q35 q1 q36) rfl rfl rfl (by decide +kernel) ⟨Nat.le_of_ble_eq_true rfl, Nat.le_of_ble_eq_true rfl⟩) hK hP hD hS hA (z_ix [1] [0] rfl rfl rfl rfl rfl (by decide)) rfl hl.1 rfl (Nat.le_of_ble_eq_true rfl) dX1_base_6 ⟨Nat.le_of_ble_eq_true rfl, Nat.le_of_ble_eq_true rfl⟩ (fun u H locs hw hP hD hS => ?_)
  have hP : va_P G.1 vwCl [(d, .inr (0, [.ref ab, .ref ho, v])), (ab, zB G (wr (Bw w0 w1 w2 w3) 0 a))] H := hP
  have hD : va_D A [(d, .inr (0, [.ref ab, .ref ho, v])), (ab, zB G (wr (Bw w0 w1 w2 w3) 0 a))] := hD
  rw [wr_0] at hP hD
  have hP : va_P G.1 vwCl [(d, .inr (0, [.ref ab, .ref ho, v])), (ab, zB G (Bw a w1 w2 w3))] H := hP
  have hD : va_D A [(d, .inr (0, [.ref ab, .ref ho, v])), (ab, zB G (Bw a w1 w2 w3))] := hD
  refine lv_aload_n hx hb dX1_base_9 rfl (lv_at hl 0 rfl) ?_
  refine va_get (D := G.1) (ci := 0) (v := .ref ab) (C := RX1) (T := TX1) (N := 3) hx hb hts in_X1 hown hK hP 0 rfl rfl 0 (by decide) (hts _ q19) (fun _ h9 => h9) rfl dX1_base_10 ?_
  refine lv_iconst (v := nI 4) hx hb dX1_base_13 (by decide) ?_
  refine lv_iload_n hx hb dX1_base_14 rfl (lv_at hl 2 rfl) ?_
  refine z_Sv (As := [.ref ab, .int (nI 4), .int b]) (rest := []) (wc := [(ab, zB G (Bw a w1 w2 w3))]) (wr := [(d, .inr (0, [.ref ab, .ref ho, v]))]) ⟨hx, hb, hml, hown, hts⟩ (met_word l G H.size b ab (Bw a w1 w2 w3) 4 (by decide)) (va_cwS 3 hts (lw_S q34 q35 q1 q36) rfl rfl rfl (by decide +kernel) ⟨Nat.le_of_ble_eq_true rfl, Nat.le_of_ble_eq_true rfl⟩) hK hP hD hS hA (z_ix [1] [0] rfl rfl rfl rfl rfl (by decide)) rfl hl.1 rfl (Nat.le_of_ble_eq_true rfl) dX1_base_15 ⟨Nat.le_of_ble_eq_true rfl, Nat.le_of_ble_eq_true rfl⟩ (fun u H locs hw hP hD hS => ?_)
  have hP : va_P G.1 vwCl [(d, .inr (0, [.ref ab, .ref ho, v])), (ab, zB G (wr (Bw a w1 w2 w3) 4 b))] H := hP
  have hD : va_D A [(d, .inr (0, [.ref ab, .ref ho, v])), (ab, zB G (wr (Bw a w1 w2 w3) 4 b))] := hD
  rw [wr_4] at hP hD
  have hP : va_P G.1 vwCl [(d, .inr (0, [.ref ab, .ref ho, v])), (ab, zB G (Bw a b w2 w3))] H := hP
  have hD : va_D A [(d, .inr (0, [.ref ab, .ref ho, v])), (ab, zB G (Bw a b w2 w3))] := hD
  refine lv_aload_n hx hb dX1_base_18 rfl (lv_at hl 0 rfl) ?_
  refine va_get (D := G.1) (ci := 0) (v := .ref ab) (C := RX1) (T := TX1) (N := 3) hx hb hts in_X1 hown hK hP 0 rfl rfl 0 (by decide) (hts _ q19) (fun _ h9 => h9) rfl dX1_base_19 ?_
  refine lv_bipush (v := nI 8) hx hb dX1_base_22 (by decide) ?_
  refine lv_iload_n hx hb dX1_base_24 rfl (lv_at hl 3 rfl) ?_
  refine z_Sv (As := [.ref ab, .int (nI 8), .int c]) (rest := []) (wc := [(ab, zB G (Bw a b w2 w3))]) (wr := [(d, .inr (0, [.ref ab, .ref ho, v]))]) ⟨hx, hb, hml, hown, hts⟩ (met_word l G H.size c ab (Bw a b w2 w3) 8 (by decide)) (va_cwS 3 hts (lw_S q34 q35 q1 q36) rfl rfl rfl (by decide +kernel) ⟨Nat.le_of_ble_eq_true rfl, Nat.le_of_ble_eq_true rfl⟩) hK hP hD hS hA (z_ix [1] [0] rfl rfl rfl rfl rfl (by decide)) rfl hl.1 rfl (Nat.le_of_ble_eq_true rfl) dX1_base_25 ⟨Nat.le_of_ble_eq_true rfl, Nat.le_of_ble_eq_true rfl⟩ (fun u H locs hw hP hD hS => ?_)
  have hP : va_P G.1 vwCl [(d, .inr (0, [.ref ab, .ref ho, v])), (ab, zB G (wr (Bw a b w2 w3) 8 c))] H := hP
  have hD : va_D A [(d, .inr (0, [.ref ab, .ref ho, v])), (ab, zB G (wr (Bw a b w2 w3) 8 c))] := hD
  rw [wr_8] at hP hD
  have hP : va_P G.1 vwCl [(d, .inr (0, [.ref ab, .ref ho, v])), (ab, zB G (Bw a b c w3))] H := hP
  have hD : va_D A [(d, .inr (0, [.ref ab, .ref ho, v])), (ab, zB G (Bw a b c w3))] := hD
  refine lv_aload_n hx hb dX1_base_28 rfl (lv_at hl 0 rfl) ?_
  refine va_get (D := G.1) (ci := 0) (v := .ref ab) (C := RX1) (T := TX1) (N := 3) hx hb hts in_X1 hown hK hP 0 rfl rfl 0 (by decide) (hts _ q19) (fun _ h9 => h9) rfl dX1_base_29 ?_
  refine lv_bipush (v := nI 12) hx hb dX1_base_32 (by decide) ?_
  refine lv_iload hx hb dX1_base_34 (lv_at hl 4 rfl) ?_
  refine z_Sv (As := [.ref ab, .int (nI 12), .int f]) (rest := []) (wc := [(ab, zB G (Bw a b c w3))]) (wr := [(d, .inr (0, [.ref ab, .ref ho, v]))]) ⟨hx, hb, hml, hown, hts⟩ (met_word l G H.size f ab (Bw a b c w3) 12 (by decide)) (va_cwS 3 hts (lw_S q34 q35 q1 q36) rfl rfl rfl (by decide +kernel) ⟨Nat.le_of_ble_eq_true rfl, Nat.le_of_ble_eq_true rfl⟩) hK hP hD hS hA (z_ix [1] [0] rfl rfl rfl rfl rfl (by decide)) rfl hl.1 rfl (Nat.le_of_ble_eq_true rfl) dX1_base_36 ⟨Nat.le_of_ble_eq_true rfl, Nat.le_of_ble_eq_true rfl⟩ (fun u H locs hw hP hD hS => ?_)
  have hP : va_P G.1 vwCl [(d, .inr (0, [.ref ab, .ref ho, v])), (ab, zB G (wr (Bw a b c w3) 12 f))] H := hP
  have hD : va_D A [(d, .inr (0, [.ref ab, .ref ho, v])), (ab, zB G (wr (Bw a b c w3) 12 f))] := hD
  rw [wr_12] at hP hD
  have hP : va_P G.1 vwCl [(d, .inr (0, [.ref ab, .ref ho, v])), (ab, zB G (Bw a b c f))] H := hP
  have hD : va_D A [(d, .inr (0, [.ref ab, .ref ho, v])), (ab, zB G (Bw a b c f))] := hD
  exact z_vret () hx hb hr hlocks hK hP hD hS rfl trivial (Nat.le_of_ble_eq_true rfl) (Nat.le_of_ble_eq_true rfl) dX1_base_39
set_option maxHeartbeats 4000000 in
set_option maxRecDepth 100000 in
/-- FieldPowerDesk.again() -/
theorem met_desk_again (l : Launch) (G : z_G) (sz : Nat) (d ab ho : Nat) (v : Value) (w0 w1 w2 w3 x0 x1 x2 x3 : Int32) : Met l yX1_again (ws_ yX1_again cX1_again 2 none) ({ frames := 0, cells := 0, slots := 0, locals := 0 }) (zPre G [.ref d] sz [(d, .inr (0, [.ref ab, .ref ho, v])), (ab, zB G (Bw w0 w1 w2 w3)), (ho, zB G (Bw x0 x1 x2 x3))]) (zQv G (fun (u : Unit) => True) (fun (u : Unit) => [(d, .inr (0, [.ref ab, .ref ho, v])), (ab, zB G (Bw x0 x1 x2 x3)), (ho, zB G (Bw x0 x1 x2 x3))]) (va_A [(d, .inr (0, [.ref ab, .ref ho, v])), (ab, zB G (Bw w0 w1 w2 w3)), (ho, zB G (Bw x0 x1 x2 x3))] sz)) 0 0 (va_A [(d, .inr (0, [.ref ab, .ref ho, v])), (ab, zB G (Bw w0 w1 w2 w3)), (ho, zB G (Bw x0 x1 x2 x3))] sz) := by
  refine z_met (QK := zQv G (fun (u : Unit) => True) (fun (u : Unit) => [(d, .inr (0, [.ref ab, .ref ho, v])), (ab, zB G (Bw x0 x1 x2 x3)), (ho, zB G (Bw x0 x1 x2 x3))])) (by decide) (Nat.le_of_ble_eq_true rfl) ?_
  intro p e s m below meth c_ A H ls hx hb hr hlocks hml hown hin hts hK hP hD hA hS hl
  have hown : s.vm.findClass RX1 = some m.cls := hown
  have hl : lv_has ls 2 [(0, .ref d)] := hl
  have loop : ∀ (n i : Nat), i + n = 16 → (∀ (H : Heap) (locs : List Loc), va_P G.1 vwCl [(d, .inr (0, [.ref ab, .ref ho, v])), (ab, zB G (cp (Bw x0 x1 x2 x3) (Bw w0 w1 w2 w3) 16)), (ho, zB G (Bw x0 x1 x2 x3))] H → va_D A [(d, .inr (0, [.ref ab, .ref ho, v])), (ab, zB G (cp (Bw x0 x1 x2 x3) (Bw w0 w1 w2 w3) 16)), (ho, zB G (Bw x0 x1 x2 x3))] → va_S A s.heap H locs → ∀ ls : Array Slot, lv_has ls 2 [(0, .ref d), (1, .int (nI 16))] → W p l e ({ frames := 0, cells := 0, slots := 0, locals := 0 } : Room) s m ([.ref d] : List Value).toArray below meth c_ H locs 0 0 (MQ below (zQv G (fun (u : Unit) => True) (fun (u : Unit) => [(d, .inr (0, [.ref ab, .ref ho, v])), (ab, zB G (Bw x0 x1 x2 x3)), (ho, zB G (Bw x0 x1 x2 x3))]) A) ([.ref d] : List Value).toArray s 0 0 A) (F0 m 26 ls [])) → ∀ (H : Heap) (locs : List Loc), va_P G.1 vwCl [(d, .inr (0, [.ref ab, .ref ho, v])), (ab, zB G (cp (Bw x0 x1 x2 x3) (Bw w0 w1 w2 w3) i)), (ho, zB G (Bw x0 x1 x2 x3))] H → va_D A [(d, .inr (0, [.ref ab, .ref ho, v])), (ab, zB G (cp (Bw x0 x1 x2 x3) (Bw w0 w1 w2 w3) i)), (ho, zB G (Bw x0 x1 x2 x3))] → va_S A s.heap H locs → ∀ ls : Array Slot, lv_has ls 2 [(0, .ref d), (1, .int (nI i))] → W p l e ({ frames := 0, cells := 0, slots := 0, locals := 0 } : Room) s m ([.ref d] : List Value).toArray below meth c_ H locs 0 0 (MQ below (zQv G (fun (u : Unit) => True) (fun (u : Unit) => [(d, .inr (0, [.ref ab, .ref ho, v])), (ab, zB G (Bw x0 x1 x2 x3)), (ho, zB G (Bw x0 x1 x2 x3))]) A) ([.ref d] : List Value).toArray s 0 0 A) (F0 m 2 ls []) := by
    intro n
    induction n with
    | zero =>
      intro i hi fin H locs hP hD hS ls hl
      refine lv_iload_n hx hb dX1_again_2 rfl (lv_at hl 1 rfl) ?_
      refine lv_bipush (v := nI 16) hx hb dX1_again_3 (by decide) ?_
      have e16 : i = 16 := by omega
      subst e16
      refine lv_icmp_ge (tgt := 26) hx hb dX1_again_5 (by decide) (fun _ => ?_) (fun c_ => absurd (by decide +kernel) c_)
      exact fin H locs hP hD hS ls (lv_sub hl [0, 1] rfl)
    | succ n ih =>
      intro i hi fin H locs hP hD hS ls hl
      refine lv_iload_n hx hb dX1_again_2 rfl (lv_at hl 1 rfl) ?_
      refine lv_bipush (v := nI 16) hx hb dX1_again_3 (by decide) ?_
      refine lv_icmp_ge (tgt := 26) hx hb dX1_again_5 (by decide) (fun c_ => absurd c_ (nI_ge (by omega) (by decide))) (fun _ => ?_)
      refine lv_aload_n hx hb dX1_again_8 rfl (lv_at hl 0 rfl) ?_
      refine va_get (D := G.1) (ci := 0) (v := .ref ab) (C := RX1) (T := TX1) (N := 3) hx hb hts in_X1 hown hK hP 0 rfl rfl 0 (by decide) (hts _ q19) (fun _ h9 => h9) rfl dX1_again_9 ?_
      refine lv_iload_n hx hb dX1_again_12 rfl (lv_at hl 1 rfl) ?_
      refine lv_aload_n hx hb dX1_again_13 rfl (lv_at hl 0 rfl) ?_
      refine va_get (D := G.1) (ci := 0) (v := .ref ho) (C := RX1) (T := TX1) (N := 3) hx hb hts in_X1 hown hK hP 0 rfl rfl 1 (by decide) (hts _ q20) (fun _ h9 => h9) rfl dX1_again_14 ?_
      refine lv_iload_n hx hb dX1_again_17 rfl (lv_at hl 1 rfl) ?_
      refine z_bald (v := (Bw x0 x1 x2 x3) i) hx hb hK hP 2 i rfl (by omega) rfl dX1_again_18 ?_
      refine z_bast (g := cp (Bw x0 x1 x2 x3) (Bw w0 w1 w2 w3) (i + 1)) hx hb hK hP hD hS 1 i rfl (by omega) (by rw [Bw_n]; exact cp_s _ _ _) dX1_again_19 (fun H locs hP hD hS => ?_)
      have hP : va_P G.1 vwCl [(d, .inr (0, [.ref ab, .ref ho, v])), (ab, zB G (cp (Bw x0 x1 x2 x3) (Bw w0 w1 w2 w3) (i + 1))), (ho, zB G (Bw x0 x1 x2 x3))] H := hP
      have hD : va_D A [(d, .inr (0, [.ref ab, .ref ho, v])), (ab, zB G (cp (Bw x0 x1 x2 x3) (Bw w0 w1 w2 w3) (i + 1))), (ho, zB G (Bw x0 x1 x2 x3))] := hD
      refine lv_iinc (v := nI (i + 1)) (lv' := [(1, .int (nI (i + 1))), (0, .ref d)]) hx hb dX1_again_20 hl (k := 1) rfl (nI_add _ _) (by decide) rfl (fun ls hl => ?_)
      refine lv_goto (tgt := 2) hx hb dX1_again_23 (by decide) ?_
      exact ih (i + 1) (by omega) fin H locs hP hD hS ls (lv_sub hl [1, 0] rfl)
  refine lv_iconst (v := nI 0) hx hb dX1_again_0 (by decide) ?_
  refine lv_istore_n (lv' := [(1, .int (nI 0)), (0, .ref d)]) hx hb dX1_again_1 rfl hl (by decide) rfl (fun ls hl => ?_)
  refine loop 16 0 rfl (fun H locs hP hD hS ls hl => ?_) H [] (by rw [cp_0]; exact hP) (by rw [cp_0]; exact hD) hS ls (lv_sub hl [1, 0] rfl)
  rw [cp_16] at hP hD
  exact z_vret () hx hb hr hlocks hK hP hD hS rfl trivial (Nat.le_of_ble_eq_true rfl) (Nat.le_of_ble_eq_true rfl) dX1_again_26
set_option maxHeartbeats 4000000 in
set_option maxRecDepth 100000 in
/-- FieldPowerDesk.begin() -/
theorem met_desk_begin (l : Launch) (G : z_G) (sz : Nat) (d ab ho : Nat) (v : Value) (w0 w1 w2 w3 : Int32) : Met l yX1_begin (ws_ yX1_begin cX1_begin 3 none) ({ frames := 5, cells := 3, slots := 19, locals := 112 }) (zPre G [.ref d] sz [(d, .inr (0, [.ref ab, .ref ho, v])), (ab, zB G (Bw w0 w1 w2 w3))]) (zQv G (fun (u : (Nat × Nat)) => True) (fun (u : (Nat × Nat)) => [(d, .inr (0, [.ref ab, .ref ho, .ref u.1])), (ab, zB G (Bw w0 w1 w2 w3)), (u.1, .inr (2, [.ref u.2])), (u.2, zL2 G (j64 w0 w1) (j64 w2 w3))]) (va_A [(d, .inr (0, [.ref ab, .ref ho, v])), (ab, zB G (Bw w0 w1 w2 w3))] sz)) 3 19 (va_A [(d, .inr (0, [.ref ab, .ref ho, v])), (ab, zB G (Bw w0 w1 w2 w3))] sz) := by
  refine z_met (QK := zQv G (fun (u : (Nat × Nat)) => True) (fun (u : (Nat × Nat)) => [(d, .inr (0, [.ref ab, .ref ho, .ref u.1])), (ab, zB G (Bw w0 w1 w2 w3)), (u.1, .inr (2, [.ref u.2])), (u.2, zL2 G (j64 w0 w1) (j64 w2 w3))])) (by decide) (Nat.le_of_ble_eq_true rfl) ?_
  intro p e s m below meth c_ A H ls hx hb hr hlocks hml hown hin hts hK hP hD hA hS hl
  have hown : s.vm.findClass RX1 = some m.cls := hown
  have hl : lv_has ls 3 [(0, .ref d)] := hl
  refine lv_bipush (v := nI 16) hx hb dX1_begin_0 (by decide) ?_
  refine z_newB hx hb hts hK hP hD hS hA (Nat.le_of_ble_eq_true rfl) (Nat.le_of_ble_eq_true rfl) dX1_begin_2 (fun q1 H hP hD hS => ?_)
  have hP : va_P G.1 vwCl [(d, .inr (0, [.ref ab, .ref ho, v])), (ab, zB G (Bw w0 w1 w2 w3)), (q1, zB G (Bw 0 0 0 0))] H := hP
  have hD : va_D A [(d, .inr (0, [.ref ab, .ref ho, v])), (ab, zB G (Bw w0 w1 w2 w3)), (q1, zB G (Bw 0 0 0 0))] := hD
  refine lv_astore_n (lv' := [(1, .ref q1), (0, .ref d)]) hx hb dX1_begin_4 rfl hl (by decide) rfl (fun ls hl => ?_)
  refine lv_iconst (v := nI 0) hx hb dX1_begin_5 (by decide) ?_
  refine lv_istore_n (lv' := [(2, .int (nI 0)), (1, .ref q1), (0, .ref d)]) hx hb dX1_begin_6 rfl hl (by decide) rfl (fun ls hl => ?_)
  have loop : ∀ (n i : Nat), i + n = 16 → (∀ (H : Heap) (locs : List Loc), va_P G.1 vwCl [(d, .inr (0, [.ref ab, .ref ho, v])), (ab, zB G (Bw w0 w1 w2 w3)), (q1, zB G (cp (Bw w0 w1 w2 w3) (Bw 0 0 0 0) 16))] H → va_D A [(d, .inr (0, [.ref ab, .ref ho, v])), (ab, zB G (Bw w0 w1 w2 w3)), (q1, zB G (cp (Bw w0 w1 w2 w3) (Bw 0 0 0 0) 16))] → va_S A s.heap H locs → ∀ ls : Array Slot, lv_has ls 3 [(0, .ref d), (1, .ref q1), (2, .int (nI 16))] → W p l e ({ frames := 5, cells := 3, slots := 19, locals := 112 } : Room) s m ([.ref d] : List Value).toArray below meth c_ H locs 1 16 (MQ below (zQv G (fun (u : Nat × Nat) => True) (fun (u : Nat × Nat) => [(d, .inr (0, [.ref ab, .ref ho, .ref u.1])), (ab, zB G (Bw w0 w1 w2 w3)), (u.1, .inr (2, [.ref u.2])), (u.2, zL2 G (j64 w0 w1) (j64 w2 w3))]) A) ([.ref d] : List Value).toArray s 3 19 A) (F0 m 28 ls [])) → ∀ (H : Heap) (locs : List Loc), va_P G.1 vwCl [(d, .inr (0, [.ref ab, .ref ho, v])), (ab, zB G (Bw w0 w1 w2 w3)), (q1, zB G (cp (Bw w0 w1 w2 w3) (Bw 0 0 0 0) i))] H → va_D A [(d, .inr (0, [.ref ab, .ref ho, v])), (ab, zB G (Bw w0 w1 w2 w3)), (q1, zB G (cp (Bw w0 w1 w2 w3) (Bw 0 0 0 0) i))] → va_S A s.heap H locs → ∀ ls : Array Slot, lv_has ls 3 [(0, .ref d), (1, .ref q1), (2, .int (nI i))] → W p l e ({ frames := 5, cells := 3, slots := 19, locals := 112 } : Room) s m ([.ref d] : List Value).toArray below meth c_ H locs 1 16 (MQ below (zQv G (fun (u : Nat × Nat) => True) (fun (u : Nat × Nat) => [(d, .inr (0, [.ref ab, .ref ho, .ref u.1])), (ab, zB G (Bw w0 w1 w2 w3)), (u.1, .inr (2, [.ref u.2])), (u.2, zL2 G (j64 w0 w1) (j64 w2 w3))]) A) ([.ref d] : List Value).toArray s 3 19 A) (F0 m 7 ls []) := by
    intro n
    induction n with
    | zero =>
      intro i hi fin H locs hP hD hS ls hl
      refine lv_iload_n hx hb dX1_begin_7 rfl (lv_at hl 2 rfl) ?_
      refine lv_bipush (v := nI 16) hx hb dX1_begin_8 (by decide) ?_
      have e16 : i = 16 := by omega
      subst e16
      refine lv_icmp_ge (tgt := 28) hx hb dX1_begin_10 (by decide) (fun _ => ?_) (fun c_ => absurd (by decide +kernel) c_)
      exact fin H locs hP hD hS ls (lv_sub hl [0, 1, 2] rfl)
    | succ n ih =>
      intro i hi fin H locs hP hD hS ls hl
      refine lv_iload_n hx hb dX1_begin_7 rfl (lv_at hl 2 rfl) ?_
      refine lv_bipush (v := nI 16) hx hb dX1_begin_8 (by decide) ?_
      refine lv_icmp_ge (tgt := 28) hx hb dX1_begin_10 (by decide) (fun c_ => absurd c_ (nI_ge (by omega) (by decide))) (fun _ => ?_)
      refine lv_aload_n hx hb dX1_begin_13 rfl (lv_at hl 1 rfl) ?_
      refine lv_iload_n hx hb dX1_begin_14 rfl (lv_at hl 2 rfl) ?_
      refine lv_aload_n hx hb dX1_begin_15 rfl (lv_at hl 0 rfl) ?_
      refine va_get (D := G.1) (ci := 0) (v := .ref ab) (C := RX1) (T := TX1) (N := 3) hx hb hts in_X1 hown hK hP 0 rfl rfl 0 (by decide) (hts _ q19) (fun _ h9 => h9) rfl dX1_begin_16 ?_
      refine lv_iload_n hx hb dX1_begin_19 rfl (lv_at hl 2 rfl) ?_
      refine z_bald (v := (Bw w0 w1 w2 w3) i) hx hb hK hP 1 i rfl (by omega) rfl dX1_begin_20 ?_
      refine z_bast (g := cp (Bw w0 w1 w2 w3) (Bw 0 0 0 0) (i + 1)) hx hb hK hP hD hS 2 i rfl (by omega) (by rw [Bw_n]; exact cp_s _ _ _) dX1_begin_21 (fun H locs hP hD hS => ?_)
      have hP : va_P G.1 vwCl [(d, .inr (0, [.ref ab, .ref ho, v])), (ab, zB G (Bw w0 w1 w2 w3)), (q1, zB G (cp (Bw w0 w1 w2 w3) (Bw 0 0 0 0) (i + 1)))] H := hP
      have hD : va_D A [(d, .inr (0, [.ref ab, .ref ho, v])), (ab, zB G (Bw w0 w1 w2 w3)), (q1, zB G (cp (Bw w0 w1 w2 w3) (Bw 0 0 0 0) (i + 1)))] := hD
      refine lv_iinc (v := nI (i + 1)) (lv' := [(2, .int (nI (i + 1))), (0, .ref d), (1, .ref q1)]) hx hb dX1_begin_22 hl (k := 2) rfl (nI_add _ _) (by decide) rfl (fun ls hl => ?_)
      refine lv_goto (tgt := 7) hx hb dX1_begin_25 (by decide) ?_
      exact ih (i + 1) (by omega) fin H locs hP hD hS ls (lv_sub hl [1, 2, 0] rfl)
  refine W.widen (k := 1) (n := 16) (Nat.le_of_ble_eq_true rfl) (Nat.le_of_ble_eq_true rfl) ?_
  refine loop 16 0 rfl (fun H locs hP hD hS ls hl => ?_) H [] (by rw [cp_0]; exact hP) (by rw [cp_0]; exact hD) hS ls (lv_sub hl [2, 1, 0] rfl)
  rw [cp_16] at hP hD
  have hP : va_P G.1 vwCl [(d, .inr (0, [.ref ab, .ref ho, v])), (ab, zB G (Bw w0 w1 w2 w3)), (q1, zB G (Bw w0 w1 w2 w3))] H := hP
  have hD : va_D A [(d, .inr (0, [.ref ab, .ref ho, v])), (ab, zB G (Bw w0 w1 w2 w3)), (q1, zB G (Bw w0 w1 w2 w3))] := hD
  refine lv_aload_n hx hb dX1_begin_28 rfl (lv_at hl 0 rfl) ?_
  refine va_new (D := G.1) (ci := 2) (fs := [.null]) (C := RX3) (T := TX3) (N := 1) hx hb hts in_X3 tyX3 tyX3_ok hown (hts _ q41) (hts _ q42) (hts _ q3) hK hP hD hS hA rfl (fun j hj => by rcases (show j = 0 by omega) with rfl; rfl) (Nat.le_of_ble_eq_true rfl) (Nat.le_of_ble_eq_true rfl) dX1_begin_29 (fun q2 H hP hD hS => ?_)
  have hP : va_P G.1 vwCl [(d, .inr (0, [.ref ab, .ref ho, v])), (ab, zB G (Bw w0 w1 w2 w3)), (q1, zB G (Bw w0 w1 w2 w3)), (q2, .inr (2, [.null]))] H := hP
  have hD : va_D A [(d, .inr (0, [.ref ab, .ref ho, v])), (ab, zB G (Bw w0 w1 w2 w3)), (q1, zB G (Bw w0 w1 w2 w3)), (q2, .inr (2, [.null]))] := hD
  refine lv_dup hx hb dX1_begin_32 rfl ?_
  refine z_Iv (As := []) (rest := [.ref q2, .ref d]) (wc := [(q2, .inr (2, [.null]))]) (wr := [(d, .inr (0, [.ref ab, .ref ho, v])), (ab, zB G (Bw w0 w1 w2 w3)), (q1, zB G (Bw w0 w1 w2 w3))]) ⟨hx, hb, hml, hown, hts⟩ (met_exp_init l G H.size q2 .null) (cwI 0 hts (lw_meth q45) rfl rfl rfl (hts _ q3) (hts _ q43) (hts _ q44) rfl (by decide +kernel) ⟨Nat.le_of_ble_eq_true rfl, Nat.le_of_ble_eq_true rfl⟩) hK hP hD hS hA (z_ix [3] [0, 1, 2] rfl rfl rfl rfl rfl (by decide)) rfl hl.1 rfl (Nat.le_of_ble_eq_true rfl) dX1_begin_33 ⟨Nat.le_of_ble_eq_true rfl, Nat.le_of_ble_eq_true rfl⟩ (fun u H locs hw hP hD hS => ?_)
  have hP : va_P G.1 vwCl [(d, .inr (0, [.ref ab, .ref ho, v])), (ab, zB G (Bw w0 w1 w2 w3)), (q1, zB G (Bw w0 w1 w2 w3)), (q2, .inr (2, [.null]))] H := hP
  have hD : va_D A [(d, .inr (0, [.ref ab, .ref ho, v])), (ab, zB G (Bw w0 w1 w2 w3)), (q1, zB G (Bw w0 w1 w2 w3)), (q2, .inr (2, [.null]))] := hD
  refine va_put (D := G.1) (ci := 0) (v := .ref q2) (ty := .object "BasicGCMExponentiator") (C := RX1) (T := TX1) (N := 3) hx hb hts in_X1 tyX1 tyX1_ok nmX1 hown hK hP hD hS 0 rfl rfl 2 (by decide) (hts _ q21) (fun _ h9 => h9) rfl (by decide +kernel) rfl rfl (Nat.le_of_ble_eq_true rfl) dX1_begin_36 (fun H locs hP hD hS => ?_)
  have hP : va_P G.1 vwCl [(d, .inr (0, [.ref ab, .ref ho, .ref q2])), (ab, zB G (Bw w0 w1 w2 w3)), (q1, zB G (Bw w0 w1 w2 w3)), (q2, .inr (2, [.null]))] H := hP
  have hD : va_D A [(d, .inr (0, [.ref ab, .ref ho, .ref q2])), (ab, zB G (Bw w0 w1 w2 w3)), (q1, zB G (Bw w0 w1 w2 w3)), (q2, .inr (2, [.null]))] := hD
  refine lv_aload_n hx hb dX1_begin_39 rfl (lv_at hl 0 rfl) ?_
  refine va_get (D := G.1) (ci := 0) (v := .ref q2) (C := RX1) (T := TX1) (N := 3) hx hb hts in_X1 hown hK hP 0 rfl rfl 2 (by decide) (hts _ q21) (fun _ h9 => h9) rfl dX1_begin_40 ?_
  refine lv_aload_n hx hb dX1_begin_43 rfl (lv_at hl 1 rfl) ?_
  refine z_Vv (As := [.ref q1]) (rest := []) (wc := [(q2, .inr (2, [.null])), (q1, zB G (Bw w0 w1 w2 w3))]) (wr := [(d, .inr (0, [.ref ab, .ref ho, .ref q2])), (ab, zB G (Bw w0 w1 w2 w3))]) ⟨hx, hb, hml, hown, hts⟩ (met_exp_init2 l G H.size q2 q1 (Bw w0 w1 w2 w3) .null) (cwV 1 hts (lw_V q51 q52 q53 q3 q54) rfl rfl rfl (by decide +kernel) ⟨Nat.le_of_ble_eq_true rfl, Nat.le_of_ble_eq_true rfl⟩) hK hP hD hS hA (z_ix [3, 2] [0, 1] rfl rfl rfl rfl rfl (by decide)) 2 0 (T := TX3) (N := 1) rfl rfl rfl hl.1 rfl (Nat.le_of_ble_eq_true rfl) dX1_begin_44 ⟨Nat.le_of_ble_eq_true rfl, Nat.le_of_ble_eq_true rfl⟩ (fun u H locs hw hP hD hS => ?_)
  have hP : va_P G.1 vwCl [(d, .inr (0, [.ref ab, .ref ho, .ref q2])), (ab, zB G (Bw w0 w1 w2 w3)), (q2, .inr (2, [.ref u])), (u, zL2 G (jB2L (Bw w0 w1 w2 w3) 0) (jB2L (Bw w0 w1 w2 w3) 8)), (q1, zB G (Bw w0 w1 w2 w3))] H := hP
  have hD : va_D A [(d, .inr (0, [.ref ab, .ref ho, .ref q2])), (ab, zB G (Bw w0 w1 w2 w3)), (q2, .inr (2, [.ref u])), (u, zL2 G (jB2L (Bw w0 w1 w2 w3) 0) (jB2L (Bw w0 w1 w2 w3) 8)), (q1, zB G (Bw w0 w1 w2 w3))] := hD
  rw [jB2L_0, jB2L_8] at hP hD
  have hP := hP.sub (ws' := [(d, .inr (0, [.ref ab, .ref ho, .ref q2])), (ab, zB G (Bw w0 w1 w2 w3)), (q2, .inr (2, [.ref u])), (u, zL2 G (j64 w0 w1) (j64 w2 w3))]) [0, 1, 2, 3] rfl
  have hD := hD.sub (ws' := [(d, .inr (0, [.ref ab, .ref ho, .ref q2])), (ab, zB G (Bw w0 w1 w2 w3)), (q2, .inr (2, [.ref u])), (u, zL2 G (j64 w0 w1) (j64 w2 w3))]) [0, 1, 2, 3] (by decide) rfl
  exact z_vret (q2, u) hx hb hr hlocks hK hP hD hS rfl trivial (Nat.le_of_ble_eq_true rfl) (Nat.le_of_ble_eq_true rfl) dX1_begin_47
set_option maxHeartbeats 4000000 in
set_option maxRecDepth 100000 in
/-- FieldPowerDesk.power(hi, lo), no element -/
theorem met_desk_power0 (l : Launch) (G : z_G) (sz : Nat) (d : Nat) (v0 v1 : Value) (hi lo : Int32) : Met l yX1_power (ws_ yX1_power cX1_power 3 (some .boolean)) ({ frames := 5, cells := 65, slots := 256, locals := 145 }) (zPre G [.ref d, .int hi, .int lo] sz [(d, .inr (0, [v0, v1, .null]))]) (zQi G (fun (r : Int32) (u : Unit) => r = nI 0) (fun (u : Unit) => [(d, .inr (0, [v0, v1, .null]))]) (va_A [(d, .inr (0, [v0, v1, .null]))] sz)) 65 256 (va_A [(d, .inr (0, [v0, v1, .null]))] sz) := by
  refine z_met (QK := zQi G (fun (r : Int32) (u : Unit) => r = nI 0) (fun (u : Unit) => [(d, .inr (0, [v0, v1, .null]))])) (by decide) (Nat.le_of_ble_eq_true rfl) ?_
  intro p e s m below meth c A H ls hx hb hr hlocks hml hown hin hts hK hP hD hA hS hl
  have hown : s.vm.findClass RX1 = some m.cls := hown
  have hl : lv_has ls 3 [(0, .ref d), (1, .int hi), (2, .int lo)] := hl
  refine lv_aload_n hx hb dX1_power_0 rfl (lv_at hl 0 rfl) ?_
  refine va_get (D := G.1) (ci := 0) (v := .null) (C := RX1) (T := TX1) (N := 3) hx hb hts in_X1 hown hK hP 0 rfl rfl 2 (by decide) (hts _ q21) (fun _ h9 => h9) rfl dX1_power_1 ?_
  refine lv_ifnonnullN hx hb dX1_power_4 ?_
  refine lv_iconst (v := nI 0) hx hb dX1_power_7 (by decide) ?_
  exact z_zret () hx hb hr hlocks rfl hK hP hD hS rfl rfl (Nat.le_of_ble_eq_true rfl) (Nat.le_of_ble_eq_true rfl) dX1_power_8
set_option maxHeartbeats 4000000 in
set_option maxRecDepth 100000 in
/-- FieldPowerDesk.power(hi, lo) -/
theorem met_desk_power1 (l : Launch) (G : z_G) (sz : Nat) (d ho r ax : Nat) (v0 : Value) (hi lo : Int32) (e0 e1 : Int64) (w0 w1 w2 w3 : Int32) : Met l yX1_power (ws_ yX1_power cX1_power 3 (some .boolean)) ({ frames := 5, cells := 65, slots := 256, locals := 145 }) (zPre G [.ref d, .int hi, .int lo] sz [(d, .inr (0, [v0, .ref ho, .ref r])), (ho, zB G (Bw w0 w1 w2 w3)), (r, .inr (2, [.ref ax])), (ax, zL2 G e0 e1)]) (zQi G (fun (r_ : Int32) (u : Unit) => r_ = nI 1) (fun (u : Unit) => [(d, .inr (0, [v0, .ref ho, .ref r])), (ho, zB G (Bw (jhi (jE (jexp hi lo) e0 e1).1) (jlo (jE (jexp hi lo) e0 e1).1) (jhi (jE (jexp hi lo) e0 e1).2) (jlo (jE (jexp hi lo) e0 e1).2))), (r, .inr (2, [.ref ax])), (ax, zL2 G e0 e1)]) (va_A [(d, .inr (0, [v0, .ref ho, .ref r])), (ho, zB G (Bw w0 w1 w2 w3)), (r, .inr (2, [.ref ax])), (ax, zL2 G e0 e1)] sz)) 65 256 (va_A [(d, .inr (0, [v0, .ref ho, .ref r])), (ho, zB G (Bw w0 w1 w2 w3)), (r, .inr (2, [.ref ax])), (ax, zL2 G e0 e1)] sz) := by
  refine z_met (QK := zQi G (fun (r_ : Int32) (u : Unit) => r_ = nI 1) (fun (u : Unit) => [(d, .inr (0, [v0, .ref ho, .ref r])), (ho, zB G (Bw (jhi (jE (jexp hi lo) e0 e1).1) (jlo (jE (jexp hi lo) e0 e1).1) (jhi (jE (jexp hi lo) e0 e1).2) (jlo (jE (jexp hi lo) e0 e1).2))), (r, .inr (2, [.ref ax])), (ax, zL2 G e0 e1)])) (by decide) (Nat.le_of_ble_eq_true rfl) ?_
  intro p e s m below meth c A H ls hx hb hr hlocks hml hown hin hts hK hP hD hA hS hl
  have hown : s.vm.findClass RX1 = some m.cls := hown
  have hl : lv_has ls 3 [(0, .ref d), (1, .int hi), (2, .int lo)] := hl
  refine lv_aload_n hx hb dX1_power_0 rfl (lv_at hl 0 rfl) ?_
  refine va_get (D := G.1) (ci := 0) (v := .ref r) (C := RX1) (T := TX1) (N := 3) hx hb hts in_X1 hown hK hP 0 rfl rfl 2 (by decide) (hts _ q21) (fun _ h9 => h9) rfl dX1_power_1 ?_
  refine lv_ifnonnull (tgt := 9) hx hb dX1_power_4 (by decide) ?_
  refine lv_aload_n hx hb dX1_power_9 rfl (lv_at hl 0 rfl) ?_
  refine va_get (D := G.1) (ci := 0) (v := .ref r) (C := RX1) (T := TX1) (N := 3) hx hb hts in_X1 hown hK hP 0 rfl rfl 2 (by decide) (hts _ q21) (fun _ h9 => h9) rfl dX1_power_10 ?_
  refine lv_iload_n hx hb dX1_power_13 rfl (lv_at hl 1 rfl) ?_
  refine lv_ldc (v := 2147483647) hx hb hown (hts _ q73) dX1_power_14 ?_
  refine lv_iand hx hb dX1_power_16 ?_
  refine lv_i2l (v := (hi &&& 2147483647).toInt64) hx hb dX1_power_17 rfl ?_
  refine lv_bipush (v := nI 32) hx hb dX1_power_18 (by decide) ?_
  refine lv_lshl (v := (jlshl ((hi &&& 2147483647).toInt64) (nI 32))) hx hb dX1_power_20 rfl ?_
  refine lv_iload_n hx hb dX1_power_21 rfl (lv_at hl 2 rfl) ?_
  refine lv_i2l (v := lo.toInt64) hx hb dX1_power_22 rfl ?_
  refine lv_ldc2 (v := 4294967295) hx hb hown (hts _ q74) dX1_power_23 ?_
  refine lv_land hx hb dX1_power_26 ?_
  refine lv_lor hx hb dX1_power_27 ?_
  refine lv_topl (fun y1 ey1 => ?_)
  have ey1 : y1 = jexp hi lo := ey1
  subst ey1
  refine lv_aload_n hx hb dX1_power_28 rfl (lv_at hl 0 rfl) ?_
  refine va_get (D := G.1) (ci := 0) (v := .ref ho) (C := RX1) (T := TX1) (N := 3) hx hb hts in_X1 hown hK hP 0 rfl rfl 1 (by decide) (hts _ q20) (fun _ h9 => h9) rfl dX1_power_29 ?_
  refine z_Vv (As := [.long (jexp hi lo), .ref ho]) (rest := []) (wc := [(r, .inr (2, [.ref ax])), (ax, zL2 G e0 e1), (ho, zB G (Bw w0 w1 w2 w3))]) (wr := [(d, .inr (0, [v0, .ref ho, .ref r]))]) ⟨hx, hb, hml, hown, hts⟩ (met_expX l G H.size r ax ho e0 e1 (jexp hi lo) w0 w1 w2 w3 (jexp_lt hi lo)) (cwV 2 hts (lw_V q75 q76 q77 q3 q78) rfl rfl rfl (by decide +kernel) ⟨Nat.le_of_ble_eq_true rfl, Nat.le_of_ble_eq_true rfl⟩) hK hP hD hS hA (z_ix [2, 3, 1] [0] rfl rfl rfl rfl rfl (by decide)) 2 0 (T := TX3) (N := 1) rfl rfl rfl hl.1 rfl (Nat.le_of_ble_eq_true rfl) dX1_power_32 ⟨Nat.le_of_ble_eq_true rfl, Nat.le_of_ble_eq_true rfl⟩ (fun u H locs hw hP hD hS => ?_)
  have hP : va_P G.1 vwCl [(d, .inr (0, [v0, .ref ho, .ref r])), (r, .inr (2, [.ref ax])), (ax, zL2 G e0 e1), (ho, zB G (Bw (jhi (jE (jexp hi lo) e0 e1).1) (jlo (jE (jexp hi lo) e0 e1).1) (jhi (jE (jexp hi lo) e0 e1).2) (jlo (jE (jexp hi lo) e0 e1).2)))] H := hP
  have hD : va_D A [(d, .inr (0, [v0, .ref ho, .ref r])), (r, .inr (2, [.ref ax])), (ax, zL2 G e0 e1), (ho, zB G (Bw (jhi (jE (jexp hi lo) e0 e1).1) (jlo (jE (jexp hi lo) e0 e1).1) (jhi (jE (jexp hi lo) e0 e1).2) (jlo (jE (jexp hi lo) e0 e1).2)))] := hD
  refine lv_iconst (v := nI 1) hx hb dX1_power_35 (by decide) ?_
  have hP := hP.sub (ws' := [(d, .inr (0, [v0, .ref ho, .ref r])), (ho, zB G (Bw (jhi (jE (jexp hi lo) e0 e1).1) (jlo (jE (jexp hi lo) e0 e1).1) (jhi (jE (jexp hi lo) e0 e1).2) (jlo (jE (jexp hi lo) e0 e1).2))), (r, .inr (2, [.ref ax])), (ax, zL2 G e0 e1)]) [0, 3, 1, 2] rfl
  have hD := hD.sub (ws' := [(d, .inr (0, [v0, .ref ho, .ref r])), (ho, zB G (Bw (jhi (jE (jexp hi lo) e0 e1).1) (jlo (jE (jexp hi lo) e0 e1).1) (jhi (jE (jexp hi lo) e0 e1).2) (jlo (jE (jexp hi lo) e0 e1).2))), (r, .inr (2, [.ref ax])), (ax, zL2 G e0 e1)]) [0, 3, 1, 2] (by decide) rfl
  exact z_zret () hx hb hr hlocks rfl hK hP hD hS rfl rfl (Nat.le_of_ble_eq_true rfl) (Nat.le_of_ble_eq_true rfl) dX1_power_36
set_option maxHeartbeats 4000000 in
set_option maxRecDepth 100000 in
/-- FieldPowerDesk.out(i) -/
theorem met_desk_out (l : Launch) (G : z_G) (sz : Nat) (d ho : Nat) (v0 v2 : Value) (f : Nat → Int32) (i : Int32) (k : Nat) (hk16 : k < 16) (hk : i &&& nI 15 = nI k) : Met l yX1_out (ws_ yX1_out cX1_out 2 (some .int)) ({ frames := 0, cells := 0, slots := 0, locals := 0 }) (zPre G [.ref d, .int i] sz [(d, .inr (0, [v0, .ref ho, v2])), (ho, zB G f)]) (zQi G (fun (r : Int32) (u : Unit) => r = f k &&& nI 255) (fun (u : Unit) => [(d, .inr (0, [v0, .ref ho, v2])), (ho, zB G f)]) (va_A [(d, .inr (0, [v0, .ref ho, v2])), (ho, zB G f)] sz)) 0 0 (va_A [(d, .inr (0, [v0, .ref ho, v2])), (ho, zB G f)] sz) := by
  refine z_met (QK := zQi G (fun (r : Int32) (u : Unit) => r = f k &&& nI 255) (fun (u : Unit) => [(d, .inr (0, [v0, .ref ho, v2])), (ho, zB G f)])) (by decide) (Nat.le_of_ble_eq_true rfl) ?_
  intro p e s m below meth c A H ls hx hb hr hlocks hml hown hin hts hK hP hD hA hS hl
  have hown : s.vm.findClass RX1 = some m.cls := hown
  have hl : lv_has ls 2 [(0, .ref d), (1, .int i)] := hl
  refine lv_aload_n hx hb dX1_out_0 rfl (lv_at hl 0 rfl) ?_
  refine va_get (D := G.1) (ci := 0) (v := .ref ho) (C := RX1) (T := TX1) (N := 3) hx hb hts in_X1 hown hK hP 0 rfl rfl 1 (by decide) (hts _ q20) (fun _ h9 => h9) rfl dX1_out_1 ?_
  refine lv_iload_n hx hb dX1_out_4 rfl (lv_at hl 1 rfl) ?_
  refine lv_bipush (v := nI 15) hx hb dX1_out_5 (by decide) ?_
  refine lv_iand hx hb dX1_out_7 ?_
  rw [hk]
  refine z_bald (v := (f k)) hx hb hK hP 1 k rfl hk16 rfl dX1_out_8 ?_
  refine lv_sipush (v := nI 255) hx hb dX1_out_9 (by decide) ?_
  refine lv_iand hx hb dX1_out_12 ?_
  exact z_iret () hx hb hr hlocks hK hP hD hS rfl rfl (Nat.le_of_ble_eq_true rfl) (Nat.le_of_ble_eq_true rfl) dX1_out_13
end
section
/-! FieldPowerDeskLaw: Told, product, raise -/
set_option maxHeartbeats 4000000 in
set_option maxRecDepth 100000 in
/-- Told() -/
theorem met_told_init (l : Launch) (G : z_G) (sz : Nat) (h : Nat) (f0 f1 f2 f3 f4 f5 f6 : Value) : Met l yX2_init (ws_ yX2_init cX2_init 1 none) ({ frames := 1, cells := 0, slots := 0, locals := 12 }) (zPre G [.ref h] sz [(h, .inr (1, [f0, f1, f2, f3, f4, f5, f6]))]) (zQv G (fun (u : Unit) => True) (fun (u : Unit) => [(h, .inr (1, [f0, f1, f2, f3, f4, f5, f6]))]) (va_A [(h, .inr (1, [f0, f1, f2, f3, f4, f5, f6]))] sz)) 0 0 (va_A [(h, .inr (1, [f0, f1, f2, f3, f4, f5, f6]))] sz) := by
  refine z_met (QK := zQv G (fun (u : Unit) => True) (fun (u : Unit) => [(h, .inr (1, [f0, f1, f2, f3, f4, f5, f6]))])) (by decide) (Nat.le_of_ble_eq_true rfl) ?_
  intro p e s m below meth c A H ls hx hb hr hlocks hml hown hin hts hK hP hD hA hS hl
  have hown : s.vm.findClass RX2 = some m.cls := hown
  have hl : lv_has ls 1 [(0, .ref h)] := hl
  refine lv_aload_n hx hb dX2_init_0 rfl (lv_at hl 0 rfl) ?_
  refine W.objInit hx hb hown (hts _ q142) (hts _ q17) (hts _ q18) rfl (by rw [hml]; exact hl.1) rfl dX2_init_1 (Nat.le_of_ble_eq_true rfl) (Nat.le_of_ble_eq_true rfl) ?_
  refine W.eq (g2 := F0 m 4 ls []) rfl ?_
  exact z_vret () hx hb hr hlocks hK hP hD hS rfl trivial (Nat.le_of_ble_eq_true rfl) (Nat.le_of_ble_eq_true rfl) dX2_init_4
/-- the i-th coefficient of (a, a2), as the law reads it -/
def jPt (a a2 : Int64) (i : Nat) : Int64 := (if i < 64 then jlushr a (nI (63 - i)) else jlushr a2 (nI (127 - i))) &&& 1
def jXl (b b2 : Int64) : Int64 := jlushr b2 (nI 1) ||| jlshl b (nI 63)
def jXh (b b2 : Int64) : Int64 := jlushr b (nI 1) ^^^ (if b2 &&& 1 = 1 then (-2233785415175766016) else 0)
def jPl (a a2 : Int64) : Nat → Nat → Int64 → Int64 → Int64 → Int64 → Int64 × Int64
  | 0, _, z, z2, _, _ => (z, z2)
  | n + 1, i, z, z2, b, b2 => jPl a a2 n (i + 1) (if jPt a a2 i = 1 then z ^^^ b else z) (if jPt a a2 i = 1 then z2 ^^^ b2 else z2) (jXh b b2) (jXl b b2)
def jP (a a2 b b2 : Int64) : Int64 × Int64 := jPl a a2 128 0 0 0 b b2
set_option maxHeartbeats 4000000 in
set_option maxRecDepth 100000 in
/-- FieldPowerDeskLaw.product -/
theorem met_product (l : Launch) (G : z_G) (sz : Nat) (a a2 b0 b20 : Int64) : Met l yX0_product (ws_ yX0_product cX0_product 14 (some (.array .long))) ({ frames := 0, cells := 1, slots := 2, locals := 0 }) (zPre G [.long a, .long a2, .long b0, .long b20] sz []) (zQr G (fun (u : Unit) => True) (fun (u : Unit) (r : Nat) => [(r, zL2 G (jP a a2 b0 b20).1 (jP a a2 b0 b20).2)]) (va_A [] sz)) 1 2 (va_A [] sz) := by
  refine z_met (QK := zQr G (fun (u : Unit) => True) (fun (u : Unit) (r : Nat) => [(r, zL2 G (jP a a2 b0 b20).1 (jP a a2 b0 b20).2)])) (by decide) (Nat.le_of_ble_eq_true rfl) ?_

  intro p e s m below meth c A H ls hx hb hr hlocks hml hown hin hts hK hP hD hA hS hl
  have hown : s.vm.findClass RX0 = some m.cls := hown
  have hl : lv_has ls 14 [(0, .long a), (2, .long a2), (4, .long b0), (6, .long b20)] := hl
  have loop : ∀ (n i : Nat) (z z2 b b2 : Int64), i + n = 128 → jPl a a2 n i z z2 b b2 = jP a a2 b0 b20 → ∀ ls : Array Slot, lv_has ls 14 [(0, .long a), (2, .long a2), (4, .long b), (6, .long b2), (8, .long z), (10, .long z2), (12, .int (nI i))] → W p l e ({ frames := 0, cells := 1, slots := 2, locals := 0 } : Room) s m ([.long a, .long a2, .long b0, .long b20] : List Value).toArray below meth c H [] (0) (0) (MQ below (zQr G (fun (u : Unit) => True) (fun (u : Unit) (r : Nat) => [(r, zL2 G (jP a a2 b0 b20).1 (jP a a2 b0 b20).2)]) A) ([.long a, .long a2, .long b0, .long b20] : List Value).toArray s 1 2 A) (F0 m 9 ls []) := by
    intro n
    induction n with
    | zero =>
      intro i z z2 b b2 hi hj ls hl
      have e128 : i = 128 := by omega
      subst e128
      refine lv_iload hx hb dX0_product_9 (lv_at hl 6 rfl) ?_
      refine lv_sipush (v := nI 128) hx hb dX0_product_11 (by decide) ?_
      refine lv_icmp_ge (tgt := 115) hx hb dX0_product_14 (by decide) (fun _ => ?_) (fun c_ => absurd (by decide +kernel) c_)
      refine lv_iconst (v := nI 2) hx hb dX0_product_115 (by decide) ?_
      refine z_newL (g := L2 0 0) hx hb hts hK hP hD hS hA 2 L2_z (by decide) (Nat.le_of_ble_eq_true rfl) (Nat.le_of_ble_eq_true rfl) dX0_product_116 (fun q1 H hP hD hS => ?_)
      have hP : va_P G.1 vwCl [(q1, zL2 G 0 0)] H := hP
      have hD : va_D A [(q1, zL2 G 0 0)] := hD
      refine lv_dup hx hb dX0_product_118 rfl ?_
      refine lv_iconst (v := nI 0) hx hb dX0_product_119 (by decide) ?_
      refine lv_lload hx hb dX0_product_120 (lv_at hl 4 rfl) ?_
      refine z_last (g := L2 z 0) hx hb hK hP hD hS 0 0 rfl (by decide) (by decide) (L2_s0 _ _ _) dX0_product_122 (fun H locs hP hD hS => ?_)
      have hP : va_P G.1 vwCl [(q1, zL2 G z 0)] H := hP
      have hD : va_D A [(q1, zL2 G z 0)] := hD
      refine lv_dup hx hb dX0_product_123 rfl ?_
      refine lv_iconst (v := nI 1) hx hb dX0_product_124 (by decide) ?_
      refine lv_lload hx hb dX0_product_125 (lv_at hl 5 rfl) ?_
      refine z_last (g := L2 z z2) hx hb hK hP hD hS 0 1 rfl (by decide) (by decide) (L2_s1 _ _ _) dX0_product_127 (fun H locs hP hD hS => ?_)
      have hP : va_P G.1 vwCl [(q1, zL2 G z z2)] H := hP
      have hD : va_D A [(q1, zL2 G z z2)] := hD
      exact z_aret () hx hb hr hlocks hK hP hD hS (by rw [← hj]; rfl) trivial (Nat.le_of_ble_eq_true rfl) (Nat.le_of_ble_eq_true rfl) dX0_product_128
    | succ n ih =>
      intro i z z2 b b2 hi hj ls hl
      rw [jPl] at hj
      have jn2 : ∀ (u u2 : Int64), jPl a a2 n (i + 1) u u2 (jXh b b2) (jXl b b2) = jP a a2 b0 b20 → ∀ ls : Array Slot, lv_has ls 14 [(0, .long a), (2, .long a2), (4, .long b), (6, .long b2), (8, .long u), (10, .long u2), (12, .int (nI i))] → W p l e ({ frames := 0, cells := 1, slots := 2, locals := 0 } : Room) s m ([.long a, .long a2, .long b0, .long b20] : List Value).toArray below meth c H [] (0) (0) (MQ below (zQr G (fun (u : Unit) => True) (fun (u : Unit) (r : Nat) => [(r, zL2 G (jP a a2 b0 b20).1 (jP a a2 b0 b20).2)]) A) ([.long a, .long a2, .long b0, .long b20] : List Value).toArray s 1 2 A) (F0 m 62 ls []) := by
        intro u u2 hj ls hl
        refine lv_lload hx hb dX0_product_62 (lv_at hl 3 rfl) ?_
        refine lv_lconst (v := 1) hx hb dX0_product_64 (by decide) ?_
        refine lv_land hx hb dX0_product_65 ?_
        refine lv_lconst (v := 1) hx hb dX0_product_66 (by decide) ?_
        refine W.lcmp hx hb dX0_product_67 ?_
        refine lv_if_ne (tgt := 75) hx hb dX0_product_68 (by decide) (fun c_ => ?_) (fun c_ => ?_)
        · refine lv_iconst (v := nI 0) hx hb dX0_product_75 (by decide) ?_
          refine lv_istore (lv' := [(13, .int (nI 0)), (0, .long a), (2, .long a2), (4, .long b), (6, .long b2), (8, .long u), (10, .long u2), (12, .int (nI i))]) hx hb dX0_product_76 hl (by decide) rfl (fun ls hl => ?_)
          refine lv_lload hx hb dX0_product_78 (lv_at hl 4 rfl) ?_
          refine lv_iconst (v := nI 1) hx hb dX0_product_80 (by decide) ?_
          refine lv_lushr (v := (jlushr b2 (nI 1))) hx hb dX0_product_81 rfl ?_
          refine lv_lload hx hb dX0_product_82 (lv_at hl 3 rfl) ?_
          refine lv_bipush (v := nI 63) hx hb dX0_product_84 (by decide) ?_
          refine lv_lshl (v := (jlshl b (nI 63))) hx hb dX0_product_86 rfl ?_
          refine lv_lor hx hb dX0_product_87 ?_
          refine lv_topl (fun y1 ey1 => ?_)
          refine lv_lstore (lv' := [(6, .long y1), (13, .int (nI 0)), (0, .long a), (2, .long a2), (4, .long b), (8, .long u), (10, .long u2), (12, .int (nI i))]) hx hb dX0_product_88 hl (by decide) rfl (fun ls hl => ?_)
          refine lv_lload hx hb dX0_product_90 (lv_at hl 4 rfl) ?_
          refine lv_iconst (v := nI 1) hx hb dX0_product_92 (by decide) ?_
          refine lv_lushr (v := (jlushr b (nI 1))) hx hb dX0_product_93 rfl ?_
          refine lv_iload hx hb dX0_product_94 (lv_at hl 1 rfl) ?_
          refine lv_if_eq (tgt := 105) hx hb dX0_product_96 (by decide) (fun _ => ?_) (fun c9 => absurd (by decide) c9)
          refine lv_lconst (v := 0) hx hb dX0_product_105 (by decide) ?_
          refine lv_lxor hx hb dX0_product_106 ?_
          refine lv_topl (fun y2 ey2 => ?_)
          refine lv_lstore (lv' := [(4, .long y2), (6, .long y1), (13, .int (nI 0)), (0, .long a), (2, .long a2), (8, .long u), (10, .long u2), (12, .int (nI i))]) hx hb dX0_product_107 hl (by decide) rfl (fun ls hl => ?_)
          refine lv_iinc (v := nI (i + 1)) (lv' := [(12, .int (nI (i + 1))), (4, .long y2), (6, .long y1), (13, .int (nI 0)), (0, .long a), (2, .long a2), (8, .long u), (10, .long u2)]) hx hb dX0_product_109 hl (k := 7) rfl (nI_add _ _) (by decide) rfl (fun ls hl => ?_)
          refine lv_goto (tgt := 9) hx hb dX0_product_112 (by decide) ?_
          have hb1 : ¬ b2 &&& 1 = 1 := fun h => c_ ((lg_cmp_eq _ _).mpr h)
          have h1 : y2 = jXh b b2 := by rw [ey2]; unfold jXh; rw [if_neg hb1]
          have h2 : y1 = jXl b b2 := ey1
          rw [← h1, ← h2] at hj
          exact ih (i + 1) u u2 y2 y1 (by omega) hj ls (lv_sub hl [4, 5, 1, 2, 6, 7, 0] rfl)
        · refine lv_iconst (v := nI 1) hx hb dX0_product_71 (by decide) ?_
          refine lv_goto (tgt := 76) hx hb dX0_product_72 (by decide) ?_
          refine lv_istore (lv' := [(13, .int (nI 1)), (0, .long a), (2, .long a2), (4, .long b), (6, .long b2), (8, .long u), (10, .long u2), (12, .int (nI i))]) hx hb dX0_product_76 hl (by decide) rfl (fun ls hl => ?_)
          refine lv_lload hx hb dX0_product_78 (lv_at hl 4 rfl) ?_
          refine lv_iconst (v := nI 1) hx hb dX0_product_80 (by decide) ?_
          refine lv_lushr (v := (jlushr b2 (nI 1))) hx hb dX0_product_81 rfl ?_
          refine lv_lload hx hb dX0_product_82 (lv_at hl 3 rfl) ?_
          refine lv_bipush (v := nI 63) hx hb dX0_product_84 (by decide) ?_
          refine lv_lshl (v := (jlshl b (nI 63))) hx hb dX0_product_86 rfl ?_
          refine lv_lor hx hb dX0_product_87 ?_
          refine lv_topl (fun y1 ey1 => ?_)
          refine lv_lstore (lv' := [(6, .long y1), (13, .int (nI 1)), (0, .long a), (2, .long a2), (4, .long b), (8, .long u), (10, .long u2), (12, .int (nI i))]) hx hb dX0_product_88 hl (by decide) rfl (fun ls hl => ?_)
          refine lv_lload hx hb dX0_product_90 (lv_at hl 4 rfl) ?_
          refine lv_iconst (v := nI 1) hx hb dX0_product_92 (by decide) ?_
          refine lv_lushr (v := (jlushr b (nI 1))) hx hb dX0_product_93 rfl ?_
          refine lv_iload hx hb dX0_product_94 (lv_at hl 1 rfl) ?_
          refine lv_if_eq (tgt := 105) hx hb dX0_product_96 (by decide) (fun c9 => absurd c9 (by decide)) (fun _ => ?_)
          refine lv_ldc2 (v := (-2233785415175766016)) hx hb hown (hts _ q200) dX0_product_99 ?_
          refine lv_goto (tgt := 106) hx hb dX0_product_102 (by decide) ?_
          refine lv_lxor hx hb dX0_product_106 ?_
          refine lv_topl (fun y2 ey2 => ?_)
          refine lv_lstore (lv' := [(4, .long y2), (6, .long y1), (13, .int (nI 1)), (0, .long a), (2, .long a2), (8, .long u), (10, .long u2), (12, .int (nI i))]) hx hb dX0_product_107 hl (by decide) rfl (fun ls hl => ?_)
          refine lv_iinc (v := nI (i + 1)) (lv' := [(12, .int (nI (i + 1))), (4, .long y2), (6, .long y1), (13, .int (nI 1)), (0, .long a), (2, .long a2), (8, .long u), (10, .long u2)]) hx hb dX0_product_109 hl (k := 7) rfl (nI_add _ _) (by decide) rfl (fun ls hl => ?_)
          refine lv_goto (tgt := 9) hx hb dX0_product_112 (by decide) ?_
          have hb1 : b2 &&& 1 = 1 := (lg_cmp_eq _ _).mp c_
          have h1 : y2 = jXh b b2 := by rw [ey2]; unfold jXh; rw [if_pos hb1]
          have h2 : y1 = jXl b b2 := ey1
          rw [← h1, ← h2] at hj
          exact ih (i + 1) u u2 y2 y1 (by omega) hj ls (lv_sub hl [4, 5, 1, 2, 6, 7, 0] rfl)
      have jn1 : ∀ (x : Int64), x &&& 1 = jPt a a2 i → ∀ ls : Array Slot, lv_has ls 14 [(0, .long a), (2, .long a2), (4, .long b), (6, .long b2), (8, .long z), (10, .long z2), (12, .int (nI i))] → W p l e ({ frames := 0, cells := 1, slots := 2, locals := 0 } : Room) s m ([.long a, .long a2, .long b0, .long b20] : List Value).toArray below meth c H [] (0) (0) (MQ below (zQr G (fun (u : Unit) => True) (fun (u : Unit) (r : Nat) => [(r, zL2 G (jP a a2 b0 b20).1 (jP a a2 b0 b20).2)]) A) ([.long a, .long a2, .long b0, .long b20] : List Value).toArray s 1 2 A) (F0 m 41 ls [.long x]) := by
        intro x hx1 ls hl
        refine lv_lconst (v := 1) hx hb dX0_product_41 (by decide) ?_
        refine lv_land hx hb dX0_product_42 ?_
        refine lv_lconst (v := 1) hx hb dX0_product_43 (by decide) ?_
        refine W.lcmp hx hb dX0_product_44 ?_
        refine lv_if_ne (tgt := 62) hx hb dX0_product_45 (by decide) (fun c_ => ?_) (fun c_ => ?_)
        · have h1 : ¬ jPt a a2 i = 1 := fun h => c_ ((lg_cmp_eq _ _).mpr (hx1.trans h))
          rw [if_neg h1, if_neg h1] at hj
          exact jn2 z z2 hj ls (lv_sub hl [0, 1, 2, 3, 4, 5, 6] rfl)
        · have h1 : jPt a a2 i = 1 := hx1.symm.trans ((lg_cmp_eq _ _).mp c_)
          rw [if_pos h1, if_pos h1] at hj
          refine lv_lload hx hb dX0_product_48 (lv_at hl 4 rfl) ?_
          refine lv_lload hx hb dX0_product_50 (lv_at hl 2 rfl) ?_
          refine lv_lxor hx hb dX0_product_52 ?_
          refine lv_topl (fun y1 ey1 => ?_)
          refine lv_lstore (lv' := [(8, .long y1), (0, .long a), (2, .long a2), (4, .long b), (6, .long b2), (10, .long z2), (12, .int (nI i))]) hx hb dX0_product_53 hl (by decide) rfl (fun ls hl => ?_)
          refine lv_lload hx hb dX0_product_55 (lv_at hl 5 rfl) ?_
          refine lv_lload hx hb dX0_product_57 (lv_at hl 4 rfl) ?_
          refine lv_lxor hx hb dX0_product_59 ?_
          refine lv_topl (fun y2 ey2 => ?_)
          refine lv_lstore (lv' := [(10, .long y2), (8, .long y1), (0, .long a), (2, .long a2), (4, .long b), (6, .long b2), (12, .int (nI i))]) hx hb dX0_product_60 hl (by decide) rfl (fun ls hl => ?_)
          rw [← ey1, ← ey2] at hj
          exact jn2 y1 y2 hj ls (lv_sub hl [2, 3, 4, 5, 1, 0, 6] rfl)
      refine lv_iload hx hb dX0_product_9 (lv_at hl 6 rfl) ?_
      refine lv_sipush (v := nI 128) hx hb dX0_product_11 (by decide) ?_
      refine lv_icmp_ge (tgt := 115) hx hb dX0_product_14 (by decide) (fun c_ => absurd c_ (nI_ge (by omega) (by decide))) (fun _ => ?_)
      refine lv_iload hx hb dX0_product_17 (lv_at hl 6 rfl) ?_
      refine lv_bipush (v := nI 64) hx hb dX0_product_19 (by decide) ?_
      refine lv_icmp_ge (tgt := 34) hx hb dX0_product_21 (by decide) (fun c_ => ?_) (fun c_ => ?_)
      · refine lv_lload_n hx hb dX0_product_34 rfl (lv_at hl 1 rfl) ?_
        refine lv_bipush (v := nI 127) hx hb dX0_product_35 (by decide) ?_
        refine lv_iload hx hb dX0_product_37 (lv_at hl 6 rfl) ?_
        refine lv_isub hx hb dX0_product_39 ?_
        rw [nI_sub (show i ≤ 127 by omega)]
        refine lv_lushr (v := (jlushr a2 (nI (127 - i)))) hx hb dX0_product_40 rfl ?_
        exact jn1 _ (by unfold jPt; rw [if_neg (by have := (nI_leI (by decide) (by omega)).mp c_; omega)]) ls hl
      · have hi64 : i < 64 := Nat.lt_of_not_le (fun h => c_ ((nI_leI (by decide) (by omega)).mpr h))
        refine lv_lload_n hx hb dX0_product_24 rfl (lv_at hl 0 rfl) ?_
        refine lv_bipush (v := nI 63) hx hb dX0_product_25 (by decide) ?_
        refine lv_iload hx hb dX0_product_27 (lv_at hl 6 rfl) ?_
        refine lv_isub hx hb dX0_product_29 ?_
        rw [nI_sub (show i ≤ 63 by omega)]
        refine lv_lushr (v := (jlushr a (nI (63 - i)))) hx hb dX0_product_30 rfl ?_
        refine lv_goto (tgt := 41) hx hb dX0_product_31 (by decide) ?_
        exact jn1 _ (by unfold jPt; rw [if_pos hi64]) ls hl
  refine lv_lconst (v := 0) hx hb dX0_product_0 (by decide) ?_
  refine lv_lstore (lv' := [(8, .long 0), (0, .long a), (2, .long a2), (4, .long b0), (6, .long b20)]) hx hb dX0_product_1 hl (by decide) rfl (fun ls hl => ?_)
  refine lv_lconst (v := 0) hx hb dX0_product_3 (by decide) ?_
  refine lv_lstore (lv' := [(10, .long 0), (8, .long 0), (0, .long a), (2, .long a2), (4, .long b0), (6, .long b20)]) hx hb dX0_product_4 hl (by decide) rfl (fun ls hl => ?_)
  refine lv_iconst (v := nI 0) hx hb dX0_product_6 (by decide) ?_
  refine lv_istore (lv' := [(12, .int (nI 0)), (10, .long 0), (8, .long 0), (0, .long a), (2, .long a2), (4, .long b0), (6, .long b20)]) hx hb dX0_product_7 hl (by decide) rfl (fun ls hl => ?_)
  exact loop 128 0 0 0 b0 b20 rfl rfl ls (lv_sub hl [3, 4, 5, 6, 2, 1, 0] rfl)
def jRl (e e0 e1 : Int64) : Nat → Int64 × Int64 → Int64 × Int64
  | 0, z => z
  | n + 1, z => jRl e e0 e1 n (if jlushr e (nI n) &&& 1 = 1 then jP e0 e1 (if jlushr e (nI (n + 1)) = 0 then z else jP z.1 z.2 z.1 z.2).1 (if jlushr e (nI (n + 1)) = 0 then z else jP z.1 z.2 z.1 z.2).2 else (if jlushr e (nI (n + 1)) = 0 then z else jP z.1 z.2 z.1 z.2))
def jR (e e0 e1 : Int64) : Int64 × Int64 := jRl e e0 e1 63 ((-9223372036854775808), 0)
def jRk : Nat → Int32
  | 0 => -1
  | n + 1 => nI n
theorem jRk_dec (n : Nat) : nI n + Int32.ofInt (-1) = jRk n := by
  cases n with
  | zero => decide +kernel
  | succ n =>
    show _ = nI n
    rw [← nI_pred n, Int32.sub_eq_add_neg]
    rfl
set_option maxHeartbeats 4000000 in
set_option maxRecDepth 100000 in
/-- FieldPowerDeskLaw.raise -/
theorem met_raise (l : Launch) (G : z_G) (sz : Nat) (t : Nat) (b0 b1 e0 e1 o0 o1 ex : Int64) (bg : Value) : Met l yX0_raise (ws_ yX0_raise cX0_raise 5 none) ({ frames := 1, cells := 127, slots := 254, locals := 33 }) (zPre G [.ref t, .long ex] sz [(t, .inr (1, [.long b0, .long b1, .long e0, .long e1, .long o0, .long o1, bg]))]) (zQv G (fun (u : Unit) => True) (fun (u : Unit) => [(t, .inr (1, [.long b0, .long b1, .long e0, .long e1, .long ((jR ex e0 e1).1), .long ((jR ex e0 e1).2), bg]))]) (va_A [(t, .inr (1, [.long b0, .long b1, .long e0, .long e1, .long o0, .long o1, bg]))] sz)) 127 254 (va_A [(t, .inr (1, [.long b0, .long b1, .long e0, .long e1, .long o0, .long o1, bg]))] sz) := by
  refine z_met (QK := zQv G (fun (u : Unit) => True) (fun (u : Unit) => [(t, .inr (1, [.long b0, .long b1, .long e0, .long e1, .long ((jR ex e0 e1).1), .long ((jR ex e0 e1).2), bg]))])) (by decide) (Nat.le_of_ble_eq_true rfl) ?_
  intro p e s m below meth c A H ls hx hb hr hlocks hml hown hin hts hK hP hD hA hS hl
  have hown : s.vm.findClass RX0 = some m.cls := hown
  have hl : lv_has ls 5 [(0, .ref t), (1, .long ex)] := hl
  have loop : ∀ (n i qz : Nat) (z : Int64 × Int64), i + n = 63 → jRl ex e0 e1 n z = jR ex e0 e1 → ∀ (H : Heap) (locs : List Loc), va_P G.1 vwCl [(t, .inr (1, [.long b0, .long b1, .long e0, .long e1, .long o0, .long o1, bg])), (qz, zL2 G z.1 z.2)] H → va_D A [(t, .inr (1, [.long b0, .long b1, .long e0, .long e1, .long o0, .long o1, bg])), (qz, zL2 G z.1 z.2)] → va_S A s.heap H locs → ∀ ls : Array Slot, lv_has ls 5 [(0, .ref t), (1, .long ex), (3, .ref qz), (4, .int (jRk n))] → W p l e ({ frames := 1, cells := 127, slots := 254, locals := 33 } : Room) s m ([.ref t, .long ex] : List Value).toArray below meth c H locs (1 + 2 * i) (2 + 4 * i) (MQ below (zQv G (fun (u : Unit) => True) (fun (u : Unit) => [(t, .inr (1, [.long b0, .long b1, .long e0, .long e1, .long ((jR ex e0 e1).1), .long ((jR ex e0 e1).2), bg]))]) A) ([.ref t, .long ex] : List Value).toArray s 127 254 A) (F0 m 18 ls []) := by
    intro n
    induction n with
    | zero =>
      intro i qz z hi hj H locs hP hD hS ls hl
      have hl : lv_has ls 5 [(0, .ref t), (1, .long ex), (3, .ref qz), (4, .int (-1))] := hl
      refine lv_iload hx hb dX0_raise_18 (lv_at hl 3 rfl) ?_
      refine lv_if_lt (tgt := 85) hx hb dX0_raise_20 (by decide) (fun _ => ?_) (fun c_ => absurd (by decide) c_)
      refine lv_aload_n hx hb dX0_raise_85 rfl (lv_at hl 0 rfl) ?_
      refine lv_aload_n hx hb dX0_raise_86 rfl (lv_at hl 2 rfl) ?_
      refine lv_iconst (v := nI 0) hx hb dX0_raise_87 (by decide) ?_
      refine z_lald (v := z.1) hx hb hK hP 1 0 rfl (by decide) (by decide) rfl dX0_raise_88 ?_
      refine va_put (D := G.1) (ci := 1) (v := .long z.1) (ty := .long) (C := RX2) (T := TX2) (N := 7) hx hb hts in_X2 tyX2 tyX2_ok nmX2 hown hK hP hD hS 0 rfl rfl 4 (by decide) (hts _ q147) (fun _ h9 => h9) rfl (by decide +kernel) rfl rfl (Nat.le_of_ble_eq_true rfl) dX0_raise_89 (fun H locs hP hD hS => ?_)
      have hP : va_P G.1 vwCl [(t, .inr (1, [.long b0, .long b1, .long e0, .long e1, .long z.1, .long o1, bg])), (qz, zL2 G z.1 z.2)] H := hP
      have hD : va_D A [(t, .inr (1, [.long b0, .long b1, .long e0, .long e1, .long z.1, .long o1, bg])), (qz, zL2 G z.1 z.2)] := hD
      refine lv_aload_n hx hb dX0_raise_92 rfl (lv_at hl 0 rfl) ?_
      refine lv_aload_n hx hb dX0_raise_93 rfl (lv_at hl 2 rfl) ?_
      refine lv_iconst (v := nI 1) hx hb dX0_raise_94 (by decide) ?_
      refine z_lald (v := z.2) hx hb hK hP 1 1 rfl (by decide) (by decide) rfl dX0_raise_95 ?_
      refine va_put (D := G.1) (ci := 1) (v := .long z.2) (ty := .long) (C := RX2) (T := TX2) (N := 7) hx hb hts in_X2 tyX2 tyX2_ok nmX2 hown hK hP hD hS 0 rfl rfl 5 (by decide) (hts _ q148) (fun _ h9 => h9) rfl (by decide +kernel) rfl rfl (Nat.le_of_ble_eq_true rfl) dX0_raise_96 (fun H locs hP hD hS => ?_)
      have hP : va_P G.1 vwCl [(t, .inr (1, [.long b0, .long b1, .long e0, .long e1, .long z.1, .long z.2, bg])), (qz, zL2 G z.1 z.2)] H := hP
      have hD : va_D A [(t, .inr (1, [.long b0, .long b1, .long e0, .long e1, .long z.1, .long z.2, bg])), (qz, zL2 G z.1 z.2)] := hD
      have hP := hP.sub (ws' := [(t, .inr (1, [.long b0, .long b1, .long e0, .long e1, .long z.1, .long z.2, bg]))]) [0] rfl
      have hD := hD.sub (ws' := [(t, .inr (1, [.long b0, .long b1, .long e0, .long e1, .long z.1, .long z.2, bg]))]) [0] (by decide) rfl
      exact z_vret () hx hb hr hlocks hK hP hD hS (by rw [← hj]; rfl) trivial (by omega) (by omega) dX0_raise_99
    | succ n ih =>
      intro i qz z hi hj H locs hP hD hS ls hl
      rw [jRl] at hj
      have jn2 : ∀ (qz : Nat) (z : Int64 × Int64), jRl ex e0 e1 n z = jR ex e0 e1 → ∀ (H : Heap) (locs : List Loc), va_P G.1 vwCl [(t, .inr (1, [.long b0, .long b1, .long e0, .long e1, .long o0, .long o1, bg])), (qz, zL2 G z.1 z.2)] H → va_D A [(t, .inr (1, [.long b0, .long b1, .long e0, .long e1, .long o0, .long o1, bg])), (qz, zL2 G z.1 z.2)] → va_S A s.heap H locs → ∀ ls : Array Slot, lv_has ls 5 [(0, .ref t), (1, .long ex), (3, .ref qz), (4, .int (nI n))] → W p l e ({ frames := 1, cells := 127, slots := 254, locals := 33 } : Room) s m ([.ref t, .long ex] : List Value).toArray below meth c H locs (1 + 2 * (i + 1)) (2 + 4 * (i + 1)) (MQ below (zQv G (fun (u : Unit) => True) (fun (u : Unit) => [(t, .inr (1, [.long b0, .long b1, .long e0, .long e1, .long ((jR ex e0 e1).1), .long ((jR ex e0 e1).2), bg]))]) A) ([.ref t, .long ex] : List Value).toArray s 127 254 A) (F0 m 79 ls []) := by
        intro qz z hj H locs hP hD hS ls hl
        refine lv_iinc (v := jRk n) (lv' := [(4, .int (jRk n)), (0, .ref t), (1, .long ex), (3, .ref qz)]) hx hb dX0_raise_79 hl (k := 3) rfl (jRk_dec n) (by decide) rfl (fun ls hl => ?_)
        refine lv_goto (tgt := 18) hx hb dX0_raise_82 (by decide) ?_
        exact ih (i + 1) qz z (by omega) hj H locs hP hD hS ls (lv_sub hl [1, 2, 3, 0] rfl)
      have jn1 : ∀ (qz : Nat) (z : Int64 × Int64), jRl ex e0 e1 n (if jlushr ex (nI n) &&& 1 = 1 then jP e0 e1 z.1 z.2 else z) = jR ex e0 e1 → ∀ (H : Heap) (locs : List Loc), va_P G.1 vwCl [(t, .inr (1, [.long b0, .long b1, .long e0, .long e1, .long o0, .long o1, bg])), (qz, zL2 G z.1 z.2)] H → va_D A [(t, .inr (1, [.long b0, .long b1, .long e0, .long e1, .long o0, .long o1, bg])), (qz, zL2 G z.1 z.2)] → va_S A s.heap H locs → ∀ ls : Array Slot, lv_has ls 5 [(0, .ref t), (1, .long ex), (3, .ref qz), (4, .int (nI n))] → W p l e ({ frames := 1, cells := 127, slots := 254, locals := 33 } : Room) s m ([.ref t, .long ex] : List Value).toArray below meth c H locs (1 + 2 * i + 1) (2 + 4 * i + 2) (MQ below (zQv G (fun (u : Unit) => True) (fun (u : Unit) => [(t, .inr (1, [.long b0, .long b1, .long e0, .long e1, .long ((jR ex e0 e1).1), .long ((jR ex e0 e1).2), bg]))]) A) ([.ref t, .long ex] : List Value).toArray s 127 254 A) (F0 m 50 ls []) := by
        intro qz z hj H locs hP hD hS ls hl
        refine lv_lload_n hx hb dX0_raise_50 rfl (lv_at hl 1 rfl) ?_
        refine lv_iload hx hb dX0_raise_51 (lv_at hl 3 rfl) ?_
        refine lv_lushr (v := (jlushr ex (nI n))) hx hb dX0_raise_53 rfl ?_
        refine lv_lconst (v := 1) hx hb dX0_raise_54 (by decide) ?_
        refine lv_land hx hb dX0_raise_55 ?_
        refine lv_lconst (v := 1) hx hb dX0_raise_56 (by decide) ?_
        refine W.lcmp hx hb dX0_raise_57 ?_
        refine lv_if_ne (tgt := 79) hx hb dX0_raise_58 (by decide) (fun c_ => ?_) (fun c_ => ?_)
        · rw [if_neg (fun h => c_ ((lg_cmp_eq _ _).mpr h))] at hj
          refine W.widen (k := 1 + 2 * (i + 1)) (n := 2 + 4 * (i + 1)) (by omega) (by omega) ?_
          exact jn2 qz z hj H locs hP hD hS ls hl
        · rw [if_pos ((lg_cmp_eq _ _).mp c_)] at hj
          refine lv_aload_n hx hb dX0_raise_61 rfl (lv_at hl 0 rfl) ?_
          refine va_get (D := G.1) (ci := 1) (v := .long e0) (C := RX2) (T := TX2) (N := 7) hx hb hts in_X2 hown hK hP 0 rfl rfl 2 (by decide) (hts _ q145) (fun _ h9 => h9) rfl dX0_raise_62 ?_
          refine lv_aload_n hx hb dX0_raise_65 rfl (lv_at hl 0 rfl) ?_
          refine va_get (D := G.1) (ci := 1) (v := .long e1) (C := RX2) (T := TX2) (N := 7) hx hb hts in_X2 hown hK hP 0 rfl rfl 3 (by decide) (hts _ q146) (fun _ h9 => h9) rfl dX0_raise_66 ?_
          refine lv_aload_n hx hb dX0_raise_69 rfl (lv_at hl 2 rfl) ?_
          refine lv_iconst (v := nI 0) hx hb dX0_raise_70 (by decide) ?_
          refine z_lald (v := z.1) hx hb hK hP 1 0 rfl (by decide) (by decide) rfl dX0_raise_71 ?_
          refine lv_aload_n hx hb dX0_raise_72 rfl (lv_at hl 2 rfl) ?_
          refine lv_iconst (v := nI 1) hx hb dX0_raise_73 (by decide) ?_
          refine z_lald (v := z.2) hx hb hK hP 1 1 rfl (by decide) (by decide) rfl dX0_raise_74 ?_
          refine z_Sr (As := [.long e0, .long e1, .long z.1, .long z.2]) (rest := []) (wc := []) (wr := [(t, .inr (1, [.long b0, .long b1, .long e0, .long e1, .long o0, .long o1, bg])), (qz, zL2 G z.1 z.2)]) ⟨hx, hb, hml, hown, hts⟩ (met_product l G H.size e0 e1 z.1 z.2) (va_cwS 4 hts (lw_S q197 q198 q0 q199) rfl rfl rfl (by decide +kernel) ⟨Nat.le_of_ble_eq_true rfl, Nat.le_of_ble_eq_true rfl⟩) hK hP hD hS hA (z_none _) rfl hl.1 rfl (Nat.le_of_ble_eq_true rfl) dX0_raise_75 ⟨by show 1 + 2 * i + 1 + 1 ≤ 127; omega, by show 2 + 4 * i + 2 + 2 ≤ 254; omega⟩ (fun u q1 H locs hw hP hD hS => ?_)
          have hP : va_P G.1 vwCl [(t, .inr (1, [.long b0, .long b1, .long e0, .long e1, .long o0, .long o1, bg])), (qz, zL2 G z.1 z.2), (q1, zL2 G ((jP e0 e1 z.1 z.2).1) ((jP e0 e1 z.1 z.2).2))] H := hP
          have hD : va_D A [(t, .inr (1, [.long b0, .long b1, .long e0, .long e1, .long o0, .long o1, bg])), (qz, zL2 G z.1 z.2), (q1, zL2 G ((jP e0 e1 z.1 z.2).1) ((jP e0 e1 z.1 z.2).2))] := hD
          refine lv_astore_n (lv' := [(3, .ref q1), (0, .ref t), (1, .long ex), (4, .int (nI n))]) hx hb dX0_raise_78 rfl hl (by decide) rfl (fun ls hl => ?_)
          have hP := hP.sub (ws' := [(t, .inr (1, [.long b0, .long b1, .long e0, .long e1, .long o0, .long o1, bg])), (q1, zL2 G ((jP e0 e1 z.1 z.2).1) ((jP e0 e1 z.1 z.2).2))]) [0, 2] rfl
          have hD := hD.sub (ws' := [(t, .inr (1, [.long b0, .long b1, .long e0, .long e1, .long o0, .long o1, bg])), (q1, zL2 G ((jP e0 e1 z.1 z.2).1) ((jP e0 e1 z.1 z.2).2))]) [0, 2] (by decide) rfl
          refine W.widen (k := 1 + 2 * (i + 1)) (n := 2 + 4 * (i + 1)) (by omega) (by omega) ?_
          exact jn2 q1 (jP e0 e1 z.1 z.2) hj H locs hP hD hS ls (lv_sub hl [1, 2, 0, 3] rfl)
      have hl : lv_has ls 5 [(0, .ref t), (1, .long ex), (3, .ref qz), (4, .int (nI n))] := hl
      refine lv_iload hx hb dX0_raise_18 (lv_at hl 3 rfl) ?_
      refine lv_if_lt (tgt := 85) hx hb dX0_raise_20 (by decide) (fun c_ => absurd c_ (nI_pos (by omega))) (fun _ => ?_)
      refine lv_lload_n hx hb dX0_raise_23 rfl (lv_at hl 1 rfl) ?_
      refine lv_iload hx hb dX0_raise_24 (lv_at hl 3 rfl) ?_
      refine lv_iconst (v := nI 1) hx hb dX0_raise_26 (by decide) ?_
      refine lv_iadd hx hb dX0_raise_27 ?_
      rw [nI_add]
      refine lv_lushr (v := (jlushr ex (nI (n + 1)))) hx hb dX0_raise_28 rfl ?_
      refine lv_lconst (v := 0) hx hb dX0_raise_29 (by decide) ?_
      refine W.lcmp hx hb dX0_raise_30 ?_
      refine lv_if_eq (tgt := 50) hx hb dX0_raise_31 (by decide) (fun c_ => ?_) (fun c_ => ?_)
      · rw [if_pos ((lg_cmp_eq _ _).mp c_)] at hj
        refine W.widen (k := 1 + 2 * i + 1) (n := 2 + 4 * i + 2) (by omega) (by omega) ?_
        exact jn1 qz z hj H locs hP hD hS ls hl
      · rw [if_neg (fun h => c_ ((lg_cmp_eq _ _).mpr h))] at hj
        refine lv_aload_n hx hb dX0_raise_34 rfl (lv_at hl 2 rfl) ?_
        refine lv_iconst (v := nI 0) hx hb dX0_raise_35 (by decide) ?_
        refine z_lald (v := z.1) hx hb hK hP 1 0 rfl (by decide) (by decide) rfl dX0_raise_36 ?_
        refine lv_aload_n hx hb dX0_raise_37 rfl (lv_at hl 2 rfl) ?_
        refine lv_iconst (v := nI 1) hx hb dX0_raise_38 (by decide) ?_
        refine z_lald (v := z.2) hx hb hK hP 1 1 rfl (by decide) (by decide) rfl dX0_raise_39 ?_
        refine lv_aload_n hx hb dX0_raise_40 rfl (lv_at hl 2 rfl) ?_
        refine lv_iconst (v := nI 0) hx hb dX0_raise_41 (by decide) ?_
        refine z_lald (v := z.1) hx hb hK hP 1 0 rfl (by decide) (by decide) rfl dX0_raise_42 ?_
        refine lv_aload_n hx hb dX0_raise_43 rfl (lv_at hl 2 rfl) ?_
        refine lv_iconst (v := nI 1) hx hb dX0_raise_44 (by decide) ?_
        refine z_lald (v := z.2) hx hb hK hP 1 1 rfl (by decide) (by decide) rfl dX0_raise_45 ?_
        refine z_Sr (As := [.long z.1, .long z.2, .long z.1, .long z.2]) (rest := []) (wc := []) (wr := [(t, .inr (1, [.long b0, .long b1, .long e0, .long e1, .long o0, .long o1, bg])), (qz, zL2 G z.1 z.2)]) ⟨hx, hb, hml, hown, hts⟩ (met_product l G H.size z.1 z.2 z.1 z.2) (va_cwS 4 hts (lw_S q197 q198 q0 q199) rfl rfl rfl (by decide +kernel) ⟨Nat.le_of_ble_eq_true rfl, Nat.le_of_ble_eq_true rfl⟩) hK hP hD hS hA (z_none _) rfl hl.1 rfl (Nat.le_of_ble_eq_true rfl) dX0_raise_46 ⟨by show 1 + 2 * i + 1 ≤ 127; omega, by show 2 + 4 * i + 2 ≤ 254; omega⟩ (fun u q1 H locs hw hP hD hS => ?_)
        have hP : va_P G.1 vwCl [(t, .inr (1, [.long b0, .long b1, .long e0, .long e1, .long o0, .long o1, bg])), (qz, zL2 G z.1 z.2), (q1, zL2 G ((jP z.1 z.2 z.1 z.2).1) ((jP z.1 z.2 z.1 z.2).2))] H := hP
        have hD : va_D A [(t, .inr (1, [.long b0, .long b1, .long e0, .long e1, .long o0, .long o1, bg])), (qz, zL2 G z.1 z.2), (q1, zL2 G ((jP z.1 z.2 z.1 z.2).1) ((jP z.1 z.2 z.1 z.2).2))] := hD
        refine lv_astore_n (lv' := [(3, .ref q1), (0, .ref t), (1, .long ex), (4, .int (nI n))]) hx hb dX0_raise_49 rfl hl (by decide) rfl (fun ls hl => ?_)
        have hP := hP.sub (ws' := [(t, .inr (1, [.long b0, .long b1, .long e0, .long e1, .long o0, .long o1, bg])), (q1, zL2 G ((jP z.1 z.2 z.1 z.2).1) ((jP z.1 z.2 z.1 z.2).2))]) [0, 2] rfl
        have hD := hD.sub (ws' := [(t, .inr (1, [.long b0, .long b1, .long e0, .long e1, .long o0, .long o1, bg])), (q1, zL2 G ((jP z.1 z.2 z.1 z.2).1) ((jP z.1 z.2 z.1 z.2).2))]) [0, 2] (by decide) rfl
        exact jn1 q1 (jP z.1 z.2 z.1 z.2) hj H locs hP hD hS ls (lv_sub hl [1, 2, 0, 3] rfl)
  refine lv_iconst (v := nI 2) hx hb dX0_raise_0 (by decide) ?_
  refine z_newL (g := L2 0 0) hx hb hts hK hP hD hS hA 2 L2_z (by decide) (Nat.le_of_ble_eq_true rfl) (Nat.le_of_ble_eq_true rfl) dX0_raise_1 (fun q1 H hP hD hS => ?_)
  have hP : va_P G.1 vwCl [(t, .inr (1, [.long b0, .long b1, .long e0, .long e1, .long o0, .long o1, bg])), (q1, zL2 G 0 0)] H := hP
  have hD : va_D A [(t, .inr (1, [.long b0, .long b1, .long e0, .long e1, .long o0, .long o1, bg])), (q1, zL2 G 0 0)] := hD
  refine lv_dup hx hb dX0_raise_3 rfl ?_
  refine lv_iconst (v := nI 0) hx hb dX0_raise_4 (by decide) ?_
  refine lv_ldc2 (v := (-9223372036854775808)) hx hb hown (hts _ q196) dX0_raise_5 ?_
  refine z_last (g := L2 (-9223372036854775808) 0) hx hb hK hP hD hS 1 0 rfl (by decide) (by decide) (L2_s0 _ _ _) dX0_raise_8 (fun H locs hP hD hS => ?_)
  have hP : va_P G.1 vwCl [(t, .inr (1, [.long b0, .long b1, .long e0, .long e1, .long o0, .long o1, bg])), (q1, zL2 G (-9223372036854775808) 0)] H := hP
  have hD : va_D A [(t, .inr (1, [.long b0, .long b1, .long e0, .long e1, .long o0, .long o1, bg])), (q1, zL2 G (-9223372036854775808) 0)] := hD
  refine lv_dup hx hb dX0_raise_9 rfl ?_
  refine lv_iconst (v := nI 1) hx hb dX0_raise_10 (by decide) ?_
  refine lv_lconst (v := 0) hx hb dX0_raise_11 (by decide) ?_
  refine z_last (g := L2 (-9223372036854775808) 0) hx hb hK hP hD hS 1 1 rfl (by decide) (by decide) (L2_s1 _ _ _) dX0_raise_12 (fun H locs hP hD hS => ?_)
  have hP : va_P G.1 vwCl [(t, .inr (1, [.long b0, .long b1, .long e0, .long e1, .long o0, .long o1, bg])), (q1, zL2 G (-9223372036854775808) 0)] H := hP
  have hD : va_D A [(t, .inr (1, [.long b0, .long b1, .long e0, .long e1, .long o0, .long o1, bg])), (q1, zL2 G (-9223372036854775808) 0)] := hD
  refine lv_astore_n (lv' := [(3, .ref q1), (0, .ref t), (1, .long ex)]) hx hb dX0_raise_13 rfl hl (by decide) rfl (fun ls hl => ?_)
  refine lv_bipush (v := nI 62) hx hb dX0_raise_14 (by decide) ?_
  refine lv_istore (lv' := [(4, .int (nI 62)), (3, .ref q1), (0, .ref t), (1, .long ex)]) hx hb dX0_raise_16 hl (by decide) rfl (fun ls hl => ?_)
  refine W.widen (k := 1 + 2 * 0) (n := 2 + 4 * 0) (Nat.le_of_ble_eq_true rfl) (Nat.le_of_ble_eq_true rfl) ?_
  exact loop 63 0 q1 ((-9223372036854775808), 0) rfl rfl H _ hP hD hS ls (lv_sub hl [2, 3, 1, 0] rfl)
end
section
/-! THE FIELD: polynomials over two elements modulo 1 + a + a^2 + a^7 + a^128, bit i from the left the coefficient of a^i -/
abbrev gV : Type := BitVec 128
def gS {w : Nat} (c : Bool) (v : BitVec w) : BitVec w := if c then v else 0#w
theorem gS_x {w : Nat} (c d : Bool) (v : BitVec w) : gS (c ^^ d) v = gS c v ^^^ gS d v := by
  cases c <;> cases d <;> simp [gS]
theorem gS_a {w : Nat} (c : Bool) (u v : BitVec w) : gS c (u ^^^ v) = gS c u ^^^ gS c v := by
  cases c <;> simp [gS]
theorem gS_and {w : Nat} (c d : Bool) (v : BitVec w) : gS (c && d) v = gS c (gS d v) := by
  cases c <;> cases d <;> simp [gS]
theorem gS_0 {w : Nat} (c : Bool) : gS c (0#w) = 0#w := by
  cases c <;> simp [gS]
theorem gS_f {w : Nat} (v : BitVec w) : gS false v = 0#w := rfl
def gLin {w v : Nat} (f : BitVec w → BitVec v) : Prop := ∀ a b, f (a ^^^ b) = f a ^^^ f b
theorem gLin.z {w v : Nat} {f : BitVec w → BitVec v} (h : gLin f) : f 0#w = 0#v := by
  have e := h 0#w 0#w
  rw [BitVec.xor_self, BitVec.xor_self] at e
  exact e
theorem gLin.s {w v : Nat} {f : BitVec w → BitVec v} (h : gLin f) (c : Bool) (x : BitVec w) : f (gS c x) = gS c (f x) := by
  cases c
  · exact h.z
  · rfl
def gsum {w : Nat} (f : Nat → BitVec w) : Nat → BitVec w
  | 0 => 0#w
  | n + 1 => gsum f n ^^^ f n
theorem gsum_x {w : Nat} (f g : Nat → BitVec w) (n : Nat) : gsum (fun i => f i ^^^ g i) n = gsum f n ^^^ gsum g n := by
  induction n with
  | zero => simp [gsum]
  | succ n ih =>
    simp only [gsum, ih]
    ac_rfl
theorem gsum_f {w v : Nat} {F : BitVec w → BitVec v} (h : gLin F) (f : Nat → BitVec w) (n : Nat) : F (gsum f n) = gsum (fun i => F (f i)) n := by
  induction n with
  | zero => exact h.z
  | succ n ih => simp only [gsum, h _ _, ih]
theorem gsum_c {w : Nat} {f g : Nat → BitVec w} {n : Nat} (h : ∀ i, i < n → f i = g i) : gsum f n = gsum g n := by
  induction n with
  | zero => rfl
  | succ n ih =>
    simp only [gsum]
    rw [ih (fun i hi => h i (by omega)), h n (by omega)]
theorem gsum_0 {w : Nat} (f : Nat → BitVec w) (n : Nat) : gsum f (n + 1) = f 0 ^^^ gsum (fun i => f (i + 1)) n := by
  induction n with
  | zero => simp [gsum]
  | succ n ih =>
    rw [gsum, ih, gsum, BitVec.xor_assoc]
theorem gsum_app {w : Nat} (f : Nat → BitVec w) (m n : Nat) : gsum f (m + n) = gsum f m ^^^ gsum (fun i => f (m + i)) n := by
  induction n with
  | zero => simp [gsum]
  | succ n ih =>
    rw [← Nat.add_assoc, gsum, ih, gsum, BitVec.xor_assoc]
theorem gsum_zero {w : Nat} {f : Nat → BitVec w} (n : Nat) (h : ∀ i, i < n → f i = 0#w) : gsum f n = 0#w := by
  induction n with
  | zero => rfl
  | succ n ih =>
    rw [gsum, ih (fun i hi => h i (by omega)), h n (by omega), BitVec.xor_self]
def gu (w i : Nat) : BitVec w := BitVec.twoPow w (w - 1 - i)
theorem gu_bit {w n j : Nat} (c : Bool) (hn : n < w) (hj : j < w) : (gS c (gu w n)).getMsbD j = (c && decide (j = n)) := by
  cases c
  · simp [gS]
  · show (gu w n).getMsbD j = _
    rw [gu, BitVec.getMsbD_twoPow, show w - (w - 1 - n) - 1 = n by omega]
    simp
    omega
theorem gdec {w : Nat} (v : BitVec w) : gsum (fun i => gS (v.getMsbD i) (gu w i)) w = v := by
  have key : ∀ n, n ≤ w → ∀ j, j < w → (gsum (fun i => gS (v.getMsbD i) (gu w i)) n).getMsbD j = (decide (j < n) && v.getMsbD j) := by
    intro n
    induction n with
    | zero => intro _ j hj; simp [gsum]
    | succ n ih =>
      intro hn j hj
      rw [gsum, BitVec.getMsbD_xor, ih (by omega) j hj, gu_bit _ (by omega) hj]
      by_cases h : j = n
      · subst h; simp
      · by_cases h2 : j < n
        · simp [h, h2, show j < n + 1 by omega]
        · simp [h, h2, show ¬ j < n + 1 by omega]
  apply BitVec.eq_of_getMsbD_eq
  intro i hi
  rw [key w (Nat.le_refl w) i hi]
  simp [hi]
theorem gext {w v : Nat} {F : BitVec w → BitVec v} (h : gLin F) (x : BitVec w) : F x = gsum (fun i => gS (x.getMsbD i) (F (gu w i))) w := by
  have e : F x = F (gsum (fun i => gS (x.getMsbD i) (gu w i)) w) := by rw [gdec]
  rw [e, gsum_f h]
  exact gsum_c (fun i _ => h.s _ _)
theorem gext2 {w v : Nat} {F K : BitVec w → BitVec v} (hF : gLin F) (hK : gLin K) (h : ∀ i, i < w → F (gu w i) = K (gu w i)) (x : BitVec w) : F x = K x := by
  rw [gext hF, gext hK]
  exact gsum_c (fun i hi => by rw [h i hi])
def gR : gV := 0xE1000000000000000000000000000000#128
def gX (v : gV) : gV := (v >>> 1) ^^^ gS (v.getLsbD 0) gR
theorem gX_l : gLin gX := by
  intro a b
  unfold gX
  rw [BitVec.ushiftRight_xor_distrib, BitVec.getLsbD_xor, gS_x]
  ac_rfl
def gXn : Nat → gV → gV
  | 0, v => v
  | n + 1, v => gX (gXn n v)
theorem gXn_l (n : Nat) : gLin (gXn n) := by
  induction n with
  | zero => intro a b; rfl
  | succ n ih => intro a b; simp only [gXn]; rw [ih, gX_l]
theorem gXn_c (n : Nat) (v : gV) : gXn n (gX v) = gX (gXn n v) := by
  induction n with
  | zero => rfl
  | succ n ih => simp only [gXn]; rw [ih]
def g1 : gV := gu 128 0
theorem gX_u : ∀ i, i < 127 → gX (gu 128 i) = gu 128 (i + 1) := by decide +kernel
theorem gXn_u {i : Nat} (h : i < 128) : gXn i g1 = gu 128 i := by
  induction i with
  | zero => rfl
  | succ i ih => rw [gXn, ih (by omega), gX_u i (by omega)]
def gE (A : Nat → Bool) (N : Nat) (v : gV) : gV := gsum (fun i => gS (A i) (gXn i v)) N
theorem gE_l (A : Nat → Bool) (N : Nat) : gLin (gE A N) := by
  intro a b
  unfold gE
  rw [← gsum_x]
  exact gsum_c (fun i _ => by rw [gXn_l, gS_a])
theorem gE_x (A B : Nat → Bool) (N : Nat) (v : gV) : gE (fun i => A i ^^ B i) N v = gE A N v ^^^ gE B N v := by
  unfold gE
  rw [← gsum_x]
  exact gsum_c (fun i _ => by rw [gS_x])
theorem gE_c {A B : Nat → Bool} {N : Nat} (v : gV) (h : ∀ i, i < N → A i = B i) : gE A N v = gE B N v := by
  unfold gE
  exact gsum_c (fun i hi => by rw [h i hi])
theorem gE_X (A : Nat → Bool) (N : Nat) (v : gV) : gE A N (gX v) = gX (gE A N v) := by
  unfold gE
  rw [gsum_f gX_l]
  exact gsum_c (fun i _ => by rw [gXn_c, gX_l.s])
theorem gE_s (A : Nat → Bool) (N : Nat) (v : gV) : gE A (N + 1) v = gS (A 0) v ^^^ gX (gE (fun i => A (i + 1)) N v) := by
  unfold gE
  rw [gsum_0, gsum_f gX_l]
  congr 1
  exact gsum_c (fun i _ => by rw [gX_l.s]; rfl)
theorem gE_tail {A : Nat → Bool} {m : Nat} (h : ∀ i, m ≤ i → A i = false) (k : Nat) (v : gV) : gE A (m + k) v = gE A m v := by
  unfold gE
  rw [gsum_app, gsum_zero k (fun i _ => by rw [h (m + i) (by omega)]; rfl), BitVec.xor_zero]
theorem gE_z (N : Nat) (v : gV) : gE (fun _ => false) N v = 0#128 := gsum_zero N (fun _ _ => rfl)
theorem gE_b (c : Bool) (A : Nat → Bool) (N : Nat) (v : gV) : gE (fun i => c && A i) N v = gS c (gE A N v) := by
  cases c
  · simpa [gS] using gE_z N v
  · rfl
theorem gE_Xn (A : Nat → Bool) (N j : Nat) (v : gV) : gE A N (gXn j v) = gXn j (gE A N v) := by
  induction j with
  | zero => rfl
  | succ j ih => simp only [gXn]; rw [gE_X, ih]
theorem gE_E (A B : Nat → Bool) (N M : Nat) (v : gV) : gE A N (gE B M v) = gE B M (gE A N v) := by
  have e : gE A N (gE B M v) = gsum (fun j => gE A N (gS (B j) (gXn j v))) M := gsum_f (gE_l A N) _ M
  rw [e]
  exact gsum_c (fun j _ => by rw [(gE_l A N).s, gE_Xn])
theorem gE_g1 (v : gV) : gE v.getMsbD 128 g1 = v := by
  have e : gE v.getMsbD 128 g1 = gsum (fun i => gS (v.getMsbD i) (gu 128 i)) 128 := gsum_c (fun i hi => by rw [gXn_u hi])
  rw [e, gdec]
/-- the product, by its definition -/
def gM (a b : gV) : gV := gE a.getMsbD 128 b
theorem gM_1 (a : gV) : gM a g1 = a := gE_g1 a
theorem gM_comm (a b : gV) : gM a b = gM b a := by
  have e1 : gM a b = gE a.getMsbD 128 (gE b.getMsbD 128 g1) := by rw [gE_g1]; rfl
  have e2 : gM b a = gE b.getMsbD 128 (gE a.getMsbD 128 g1) := by rw [gE_g1]; rfl
  rw [e1, e2, gE_E]
theorem g1_M (a : gV) : gM g1 a = a := by rw [gM_comm, gM_1]
theorem gM_assoc (a b c : gV) : gM (gM a b) c = gM a (gM b c) := by
  rw [gM_comm (gM a b) c, gM_comm b c]
  exact gE_E _ _ _ _ _
theorem gM_l (a : gV) : gLin (gM a) := gE_l _ _
theorem gM_lr (a b c : gV) : gM (a ^^^ b) c = gM a c ^^^ gM b c := by
  rw [gM_comm, gM_l, gM_comm c a, gM_comm c b]
/-- powers -/
def gP (v : gV) : Nat → gV
  | 0 => g1
  | n + 1 => gM (gP v n) v
theorem gP_add (v : gV) (m n : Nat) : gP v (m + n) = gM (gP v m) (gP v n) := by
  induction n with
  | zero => exact (gM_1 _).symm
  | succ n ih =>
    rw [← Nat.add_assoc]
    simp only [gP]
    rw [ih, gM_assoc]
theorem gP_mul (v : gV) (m n : Nat) : gP (gP v m) n = gP v (m * n) := by
  induction n with
  | zero => rfl
  | succ n ih =>
    rw [Nat.mul_succ, gP_add v, ← ih]
    rfl
theorem gP_1 (v : gV) : gP v 1 = v := g1_M v
theorem gP_2 (v : gV) : gP v 2 = gM v v := by
  show gM (gP v 1) v = _
  rw [gP_1]
theorem gP_sq (v : gV) (k : Nat) : gP (gM v v) k = gP v (2 * k) := by
  rw [← gP_2, gP_mul]
/-- squaring, n times -/
def gQ : Nat → gV → gV
  | 0, v => v
  | n + 1, v => gM (gQ n v) (gQ n v)
theorem gQ_P (n : Nat) (v : gV) : gQ n v = gP v (2 ^ n) := by
  induction n with
  | zero => exact (gP_1 v).symm
  | succ n ih =>
    rw [gQ, ih, Nat.pow_succ, Nat.mul_two, gP_add]
theorem gQ_l (n : Nat) : gLin (gQ n) := by
  induction n with
  | zero => intro a b; rfl
  | succ n ih =>
    intro a b
    simp only [gQ]
    rw [ih, gM_lr, gM_l, gM_l, gM_comm (gQ n b) (gQ n a), BitVec.xor_assoc, ← BitVec.xor_assoc (gM (gQ n a) (gQ n b)), BitVec.xor_self, BitVec.zero_xor]
theorem gQ_M (n : Nat) (a b : gV) : gQ n (gM a b) = gM (gQ n a) (gQ n b) := by
  induction n with
  | zero => rfl
  | succ n ih =>
    simp only [gQ]
    rw [ih, gM_assoc, ← gM_assoc (gQ n b) (gQ n a), gM_comm (gQ n b) (gQ n a), gM_assoc (gQ n a) (gQ n b), ← gM_assoc (gQ n a) (gQ n a)]
theorem gM_u {i : Nat} (h : i < 128) (v : gV) : gM (gu 128 i) v = gXn i v := by
  rw [gM_comm, ← gXn_u h]
  show gE v.getMsbD 128 (gXn i g1) = _
  rw [gE_Xn, gE_g1]
theorem gQ_g1 (n : Nat) : gQ n g1 = g1 := by
  induction n with
  | zero => rfl
  | succ n ih => rw [gQ, ih, gM_1]
/-- once the generator is a fixed point of n squarings, all are -/
theorem gQ_all (n : Nat) (h : gQ n (gu 128 1) = gu 128 1) (v : gV) : gQ n v = v := by
  refine gext2 (K := fun x => x) (gQ_l n) (fun _ _ => rfl) ?_ v
  intro i
  induction i with
  | zero => intro _; exact gQ_g1 n
  | succ i ih =>
    intro hi
    have e : gu 128 (i + 1) = gM (gu 128 1) (gu 128 i) := by
      rw [gM_u (by decide)]
      exact (gX_u i (by omega)).symm
    rw [e, gQ_M, h, ih (by omega)]
end
section
/-! THE CARRY-LESS PRODUCT out of whole products with holes -/
/-- the sum over i ≤ n of p i and q (n - i) -/
def xc (q : Nat → Bool) : Nat → (Nat → Bool) → Bool
  | 0, p => p 0 && q 0
  | n + 1, p => (p 0 && q (n + 1)) ^^ xc q n (fun i => p (i + 1))
def nc (g : Nat → Nat) : Nat → (Nat → Nat) → Nat
  | 0, f => f 0 * g 0
  | n + 1, f => f 0 * g (n + 1) + nc g n (fun i => f (i + 1))
def ns (f : Nat → Nat) : Nat → Nat
  | 0 => 0
  | n + 1 => ns f n + f n * 2 ^ n
theorem ns_0 (f : Nat → Nat) (n : Nat) : ns f (n + 1) = f 0 + 2 * ns (fun i => f (i + 1)) n := by
  induction n with
  | zero => simp [ns]
  | succ n ih =>
    have e : f (n + 1) * 2 ^ (n + 1) = 2 * (f (n + 1) * 2 ^ n) := by
      rw [Nat.pow_succ, ← Nat.mul_assoc, Nat.mul_comm]
    rw [ns, ih, ns, e]
    omega
theorem ns_lin (a : Nat) (g h : Nat → Nat) (N : Nat) : ns (fun n => a * g n + h n) N = a * ns g N + ns h N := by
  induction N with
  | zero => simp [ns]
  | succ N ih =>
    simp only [ns]
    rw [ih, Nat.add_mul, Nat.mul_add, Nat.mul_assoc]
    omega
theorem ns_conv (N : Nat) : ∀ (f g : Nat → Nat), (ns f N * ns g N) % 2 ^ N = ns (fun n => nc g n f) N % 2 ^ N := by
  induction N with
  | zero => intro f g; simp [Nat.mod_one]
  | succ N ih =>
    intro f g
    have e1 : ns (fun n => nc g n f) (N + 1) = f 0 * ns g (N + 1) + 2 * ns (fun n => nc g n (fun i => f (i + 1))) N := by
      rw [ns_0]
      show f 0 * g 0 + 2 * ns (fun n => f 0 * g (n + 1) + nc g n (fun i => f (i + 1))) N = _
      rw [ns_lin (f 0) (fun n => g (n + 1)), ns_0 g, Nat.mul_add, Nat.mul_add, ← Nat.mul_assoc, ← Nat.mul_assoc, Nat.mul_comm 2 (f 0)]
      omega
    have e2 : ns f (N + 1) * ns g (N + 1) = (f 0 * ns g (N + 1) + 2 * (ns (fun i => f (i + 1)) N * ns g N)) + 2 ^ (N + 1) * (ns (fun i => f (i + 1)) N * g N) := by
      rw [ns_0 f, Nat.add_mul, Nat.add_assoc]
      congr 1
      rw [ns, Nat.mul_add, Nat.pow_succ]
      generalize ns (fun i => f (i + 1)) N = F
      generalize ns g N = K
      generalize g N = y
      generalize 2 ^ N = T
      have h1 : 2 * F * (y * T) = T * 2 * (F * y) := by
        rw [Nat.mul_comm T 2, Nat.mul_assoc, Nat.mul_assoc, ← Nat.mul_assoc F y T, Nat.mul_comm T (F * y)]
      rw [h1, Nat.mul_assoc]
    rw [e1, e2, Nat.add_mul_mod_self_left, Nat.add_mod, Nat.add_mod (f 0 * ns g (N + 1)) (2 * ns _ N)]
    congr 2
    rw [Nat.pow_succ, Nat.mul_comm (2 ^ N) 2, Nat.mul_mod_mul_left, Nat.mul_mod_mul_left, ih]
theorem ns_bits (x N : Nat) : ns (fun i => (x.testBit i).toNat) N = x % 2 ^ N := by
  induction N with
  | zero => simp [ns, Nat.mod_one]
  | succ N ih => rw [ns, ih, Nat.toNat_testBit, Nat.mod_pow_succ, Nat.mul_comm]
theorem ns_split (f : Nat → Nat) (n k : Nat) : ∃ R, ns f (n + 1 + k) = ns f n + 2 ^ n * (f n + 2 * R) := by
  induction k with
  | zero => exact ⟨0, by rw [Nat.add_zero, ns, Nat.mul_zero, Nat.add_zero, Nat.mul_comm]⟩
  | succ k ih =>
    obtain ⟨R, h⟩ := ih
    refine ⟨R + 2 ^ k * f (n + 1 + k), ?_⟩
    rw [← Nat.add_assoc, ns, h, Nat.mul_add 2, ← Nat.add_assoc (f n), Nat.mul_add (2 ^ n) (f n + 2 * R), ← Nat.add_assoc]
    congr 1
    rw [Nat.pow_add, Nat.pow_succ]
    generalize 2 ^ n = T
    generalize 2 ^ k = S
    generalize f (n + 1 + k) = y
    rw [Nat.mul_comm y, Nat.mul_assoc, Nat.mul_assoc]
theorem ns_bit {f : Nat → Nat} {n N : Nat} (hn : n < N) (h : ns f n < 2 ^ n) : (ns f N).testBit n = decide (f n % 2 = 1) := by
  obtain ⟨R, e⟩ := ns_split f n (N - (n + 1))
  rw [show n + 1 + (N - (n + 1)) = N by omega] at e
  rw [Nat.testBit_eq_decide_div_mod_eq, e, Nat.add_mul_div_left _ _ (Nat.two_pow_pos n), Nat.div_eq_of_lt h, Nat.zero_add]
  congr 2
  omega
theorem nc_par (q : Nat → Bool) (n : Nat) : ∀ p : Nat → Bool, nc (fun j => (q j).toNat) n (fun i => (p i).toNat) % 2 = 1 ↔ xc q n p = true := by
  induction n with
  | zero =>
    intro p
    simp only [nc, xc]
    cases p 0 <;> cases q 0 <;> simp
  | succ n ih =>
    intro p
    have h := ih (fun i => p (i + 1))
    simp only [nc, xc]
    generalize nc (fun j => (q j).toNat) n (fun i => (p (i + 1)).toNat) = y at h ⊢
    generalize xc q n (fun i => p (i + 1)) = c at h ⊢
    cases p 0 <;> cases q (n + 1) <;> cases c <;> simp at h ⊢ <;> omega
theorem nc_res (g : Nat → Nat) (b : Nat) (hg : ∀ j, g j ≠ 0 → (j + b) % 4 = 0) (m : Nat) : ∀ (f : Nat → Nat) (a : Nat), (∀ i, f i ≠ 0 → (i + a) % 4 = 0) → nc g m f ≠ 0 → (m + a + b) % 4 = 0 := by
  induction m with
  | zero =>
    intro f a hf h
    simp only [nc] at h
    have h1 := hf 0 (fun e => h (by rw [e, Nat.zero_mul]))
    have h2 := hg 0 (fun e => h (by rw [e, Nat.mul_zero]))
    omega
  | succ m ih =>
    intro f a hf h
    simp only [nc] at h
    by_cases h3 : nc g m (fun i => f (i + 1)) = 0
    · rw [h3, Nat.add_zero] at h
      have h1 := hf 0 (fun e => h (by rw [e, Nat.zero_mul]))
      have h2 := hg (m + 1) (fun e => h (by rw [e, Nat.mul_zero]))
      omega
    · have h4 := ih (fun i => f (i + 1)) (a + 1) (fun i hi => by have := hf (i + 1) hi; omega) h3
      omega
def cb : Nat → Nat → Nat
  | 0, a => if a % 4 = 0 then 1 else 0
  | m + 1, a => (if a % 4 = 0 then 1 else 0) + cb m (a + 1)
theorem cb_le : ∀ a, a < 4 → ∀ m, m < 60 → cb m a ≤ 15 := by decide +kernel
theorem nc_le (g : Nat → Nat) (hg : ∀ j, g j ≤ 1) (m : Nat) : ∀ (f : Nat → Nat) (a : Nat), (∀ i, f i ≤ 1) → (∀ i, f i ≠ 0 → (i + a) % 4 = 0) → nc g m f ≤ cb m a := by
  have one : ∀ (x y a : Nat), x ≤ 1 → y ≤ 1 → (x ≠ 0 → (0 + a) % 4 = 0) → x * y ≤ if a % 4 = 0 then 1 else 0 := by
    intro x y a hx hy h
    by_cases e : x = 0
    · rw [e, Nat.zero_mul]; exact Nat.zero_le _
    · have h1 := h e
      rw [Nat.zero_add] at h1
      rw [if_pos h1]
      have h2 := Nat.mul_le_mul hx hy
      omega
  induction m with
  | zero =>
    intro f a h1 hf
    simp only [nc, cb]
    exact one _ _ _ (h1 0) (hg 0) (hf 0)
  | succ m ih =>
    intro f a h1 hf
    simp only [nc, cb]
    exact Nat.add_le_add (one _ _ _ (h1 0) (hg _) (hf 0)) (ih _ (a + 1) (fun i => h1 (i + 1)) (fun i hi => by have := hf (i + 1) hi; omega))
theorem ns_4 (C : Nat → Nat) (n : Nat) : ns C (n + 4) = ns C n + C n * 2 ^ n + C (n + 1) * 2 ^ (n + 1) + C (n + 2) * 2 ^ (n + 2) + C (n + 3) * 2 ^ (n + 3) := rfl
theorem ns_small {C : Nat → Nat} {r : Nat} (hr : r < 4) (hz : ∀ m, C m ≠ 0 → m % 4 = r) (hb : ∀ m, m < 60 → C m ≤ 15) : ∀ k, 4 * k + r < 64 → ns C (4 * k + r) < 2 ^ (4 * k + r) := by
  have z : ∀ m, m % 4 ≠ r → C m = 0 := fun m h => Decidable.byContradiction fun e => h (hz m e)
  intro k
  induction k with
  | zero =>
    intro _
    rw [Nat.mul_zero, Nat.zero_add]
    have h : r = 0 ∨ r = 1 ∨ r = 2 ∨ r = 3 := by omega
    rcases h with h | h | h | h <;> subst h
    · simp [ns]
    · simp [ns, z 0 (by decide)]
    · simp [ns, z 0 (by decide), z 1 (by decide)]
    · simp [ns, z 0 (by decide), z 1 (by decide), z 2 (by decide)]
  | succ k ih =>
    intro h
    have h1 := ih (by omega)
    have h2 := hb (4 * k + r) (by omega)
    rw [show 4 * (k + 1) + r = 4 * k + r + 4 by omega, ns_4, z (4 * k + r + 1) (by omega), z (4 * k + r + 2) (by omega), z (4 * k + r + 3) (by omega), Nat.pow_add 2 (4 * k + r) 4]
    generalize ns C (4 * k + r) = S at h1 ⊢
    generalize C (4 * k + r) = y at h2 ⊢
    generalize 2 ^ (4 * k + r) = T at h1 ⊢
    have h3 : y * T ≤ 15 * T := Nat.mul_le_mul_right T h2
    omega
/-- a product of two words with bits at every fourth place: no carry reaches the places asked -/
theorem hole (x y : BitVec 64) {a b n : Nat} (ha : a < 4) (hx : ∀ i, x.getLsbD i = true → (i + a) % 4 = 0) (hy : ∀ i, y.getLsbD i = true → (i + b) % 4 = 0) (hn : n < 64) (h : (n + a + b) % 4 = 0) : (x * y).getLsbD n = xc y.getLsbD n x.getLsbD := by
  have hf : ∀ i, (x.getLsbD i).toNat ≠ 0 → (i + a) % 4 = 0 := fun i e => hx i (by cases h : x.getLsbD i <;> simp_all)
  have hg : ∀ i, (y.getLsbD i).toNat ≠ 0 → (i + b) % 4 = 0 := fun i e => hy i (by cases h : y.getLsbD i <;> simp_all)
  have e1 : x.toNat = ns (fun i => (x.getLsbD i).toNat) 64 := by
    have := ns_bits x.toNat 64
    rw [Nat.mod_eq_of_lt x.isLt] at this
    exact this.symm
  have e2 : y.toNat = ns (fun i => (y.getLsbD i).toNat) 64 := by
    have := ns_bits y.toNat 64
    rw [Nat.mod_eq_of_lt y.isLt] at this
    exact this.symm
  rw [← BitVec.testBit_toNat, BitVec.toNat_mul, e1, e2, ns_conv, Nat.testBit_mod_two_pow]
  have hlt : ns (fun n => nc (fun i => (y.getLsbD i).toNat) n (fun i => (x.getLsbD i).toNat)) n < 2 ^ n := by
    have hk : 4 * (n / 4) + n % 4 = n := Nat.div_add_mod n 4
    have hs := ns_small (C := fun n => nc (fun i => (y.getLsbD i).toNat) n (fun i => (x.getLsbD i).toNat)) (r := n % 4) (Nat.mod_lt _ (by decide)) (fun m hm => by
      have := nc_res _ b hg m _ a hf hm
      omega) (fun m hm => Nat.le_trans (nc_le _ (fun j => by cases y.getLsbD j <;> decide) m _ a (fun j => by cases x.getLsbD j <;> decide) hf) (cb_le a ha m hm)) (n / 4) (by omega)
    rw [hk] at hs
    exact hs
  rw [ns_bit hn hlt, decide_eq_true hn, Bool.true_and]
  exact Bool.eq_iff_iff.mpr (by rw [decide_eq_true_iff]; exact nc_par y.getLsbD n x.getLsbD)
end
section
/-! CONVOLUTIONS, and what implMul64 and reverse answer, bit by bit -/
theorem xc_p (q : Nat → Bool) (n : Nat) : ∀ p r : Nat → Bool, xc q n (fun i => p i ^^ r i) = (xc q n p ^^ xc q n r) := by
  induction n with
  | zero =>
    intro p r
    simp only [xc]
    cases p 0 <;> cases r 0 <;> cases q 0 <;> rfl
  | succ n ih =>
    intro p r
    simp only [xc]
    rw [ih (fun i => p (i + 1)) (fun i => r (i + 1))]
    generalize xc q n (fun i => p (i + 1)) = a
    generalize xc q n (fun i => r (i + 1)) = b
    cases p 0 <;> cases r 0 <;> cases q (n + 1) <;> cases a <;> cases b <;> rfl
theorem xc_q (q t : Nat → Bool) (n : Nat) : ∀ p : Nat → Bool, xc (fun i => q i ^^ t i) n p = (xc q n p ^^ xc t n p) := by
  induction n with
  | zero =>
    intro p
    simp only [xc]
    cases p 0 <;> cases q 0 <;> cases t 0 <;> rfl
  | succ n ih =>
    intro p
    simp only [xc]
    rw [ih]
    generalize xc q n (fun i => p (i + 1)) = a
    generalize xc t n (fun i => p (i + 1)) = b
    cases p 0 <;> cases q (n + 1) <;> cases t (n + 1) <;> cases a <;> cases b <;> rfl
theorem xc_c {q t : Nat → Bool} {n : Nat} : ∀ {p r : Nat → Bool}, (∀ i, i ≤ n → (p i && q (n - i)) = (r i && t (n - i))) → xc q n p = xc t n r := by
  induction n with
  | zero =>
    intro p r h
    exact h 0 (Nat.le_refl 0)
  | succ n ih =>
    intro p r h
    simp only [xc]
    rw [ih (p := fun i => p (i + 1)) (r := fun i => r (i + 1)) (fun i hi => by
      have := h (i + 1) (by omega)
      rwa [Nat.add_sub_add_right] at this)]
    congr 1
    exact h 0 (by omega)
theorem xc_z {q : Nat → Bool} {n : Nat} {p : Nat → Bool} (h : ∀ i, i ≤ n → (p i && q (n - i)) = false) : xc q n p = false := by
  have e : xc q n p = xc q n (fun _ => false) := xc_c (fun i hi => by rw [h i hi]; rfl)
  rw [e]
  clear e h
  induction n with
  | zero => rfl
  | succ n ih => simp only [xc, ih]; rfl
def xs (h : Nat → Bool) : Nat → Bool
  | 0 => false
  | n + 1 => xs h n ^^ h n
theorem xs_0 (h : Nat → Bool) (n : Nat) : xs h (n + 1) = (h 0 ^^ xs (fun i => h (i + 1)) n) := by
  induction n with
  | zero => simp [xs]
  | succ n ih => rw [xs, ih, xs, Bool.xor_assoc]
theorem xs_app (h : Nat → Bool) (m n : Nat) : xs h (m + n) = (xs h m ^^ xs (fun i => h (m + i)) n) := by
  induction n with
  | zero => simp [xs]
  | succ n ih => rw [← Nat.add_assoc, xs, ih, xs, Bool.xor_assoc]
theorem xs_c {h k : Nat → Bool} {n : Nat} (e : ∀ i, i < n → h i = k i) : xs h n = xs k n := by
  induction n with
  | zero => rfl
  | succ n ih => rw [xs, xs, ih (fun i hi => e i (by omega)), e n (by omega)]
theorem xs_z {h : Nat → Bool} {n : Nat} (e : ∀ i, i < n → h i = false) : xs h n = false := by
  induction n with
  | zero => rfl
  | succ n ih => rw [xs, ih (fun i hi => e i (by omega)), e n (by omega)]; rfl
theorem xs_rev (n : Nat) : ∀ h : Nat → Bool, xs h n = xs (fun i => h (n - 1 - i)) n := by
  induction n with
  | zero => intro h; rfl
  | succ n ih =>
    intro h
    rw [xs_0 (fun i => h (n + 1 - 1 - i)), xs, ih h, Bool.xor_comm]
    congr 1
    exact xs_c (fun i hi => by congr 1; omega)
theorem xc_xs (q : Nat → Bool) (n : Nat) : ∀ p : Nat → Bool, xc q n p = xs (fun i => p i && q (n - i)) (n + 1) := by
  induction n with
  | zero => intro p; simp [xc, xs]
  | succ n ih =>
    intro p
    rw [xs_0, xc, ih]
    congr 1
    exact xs_c (fun i hi => by rw [Nat.add_sub_add_right])
/-- moved by 64 places -/
def sh (p : Nat → Bool) : Nat → Bool := fun i => if i < 64 then false else p (i - 64)
theorem xc_shp (q p : Nat → Bool) (n : Nat) : xc q n (sh p) = if n < 64 then false else xc q (n - 64) p := by
  by_cases h : n < 64
  · rw [if_pos h]
    exact xc_z (fun i hi => by rw [sh, if_pos (by omega)]; rfl)
  · rw [if_neg h, xc_xs, xc_xs, show n + 1 = 64 + (n - 64 + 1) by omega, xs_app, xs_z (fun i hi => by rw [sh, if_pos hi]; rfl), Bool.false_xor]
    exact xs_c (fun i hi => by rw [sh, if_neg (by omega), show 64 + i - 64 = i by omega, show n - (64 + i) = n - 64 - i by omega])
theorem xc_shq (q p : Nat → Bool) (n : Nat) : xc (sh q) n p = if n < 64 then false else xc q (n - 64) p := by
  by_cases h : n < 64
  · rw [if_pos h]
    exact xc_z (fun i hi => by rw [sh, if_pos (by omega), Bool.and_false])
  · rw [if_neg h, xc_xs, xc_xs, show n + 1 = (n - 64 + 1) + 64 by omega, xs_app, xs_z (h := fun i => p (n - 64 + 1 + i) && sh q (n - (n - 64 + 1 + i))) (fun i hi => by rw [sh, if_pos (by omega), Bool.and_false]), Bool.xor_false]
    exact xs_c (fun i hi => by rw [sh, if_neg (by omega), show n - i - 64 = n - 64 - i by omega])
theorem xc_deg {q p : Nat → Bool} {n : Nat} (hp : ∀ i, 64 ≤ i → p i = false) (hq : ∀ i, 64 ≤ i → q i = false) (hn : 127 ≤ n) : xc q n p = false := by
  refine xc_z (fun i hi => ?_)
  by_cases h : i < 64
  · rw [hq (n - i) (by omega), Bool.and_false]
  · rw [hp i (by omega), Bool.false_and]
theorem bL_xor (a b : Int64) (i : Nat) : bL (a ^^^ b) i = (bL a i ^^ bL b i) := by
  show (a ^^^ b).toBitVec.getLsbD i = _
  rw [Int64.toBitVec_xor, BitVec.getLsbD_xor]
theorem bL_out (a : Int64) {i : Nat} (h : 64 ≤ i) : bL a i = false := BitVec.getLsbD_of_ge _ _ h
/-- the masks: every fourth bit -/
def mk4 (M : Int64) (c : Nat) : Prop := ∀ i, bL M i = (decide (i < 64) && decide (i % 4 = c))
theorem mk4_of {M : Int64} {c : Nat} (h : ∀ i, i < 64 → bL M i = decide (i % 4 = c)) : mk4 M c := by
  intro i
  by_cases hi : i < 64
  · rw [h i hi]; simp [hi]
  · rw [bL_out _ (by omega)]; simp [hi]
theorem mk0 : mk4 1229782938247303441 0 := mk4_of (by decide +kernel)
theorem mk1 : mk4 2459565876494606882 1 := mk4_of (by decide +kernel)
theorem mk2 : mk4 4919131752989213764 2 := mk4_of (by decide +kernel)
theorem mk3 : mk4 (-8608480567731124088) 3 := mk4_of (by decide +kernel)
theorem jprod (x y : Int64) {Ma Mb : Int64} {a b n : Nat} (hMa : mk4 Ma a) (hMb : mk4 Mb b) (ha : a < 4) (hb : b < 4) (hn : n < 64) (h : n % 4 = (a + b) % 4) : bL ((x &&& Ma) * (y &&& Mb)) n = xc (bL y) n (fun i => bL x i && decide (i % 4 = a)) := by
  have e : bL ((x &&& Ma) * (y &&& Mb)) n = xc (bL (y &&& Mb)) n (bL (x &&& Ma)) := by
    show ((x &&& Ma) * (y &&& Mb)).toBitVec.getLsbD n = _
    rw [Int64.toBitVec_mul]
    exact hole _ _ (a := (4 - a) % 4) (b := (4 - b) % 4) (by omega) (fun i hi => by
      have h1 : bL (x &&& Ma) i = true := hi
      rw [bL_and, hMa] at h1
      simp at h1
      omega) (fun i hi => by
      have h1 : bL (y &&& Mb) i = true := hi
      rw [bL_and, hMb] at h1
      simp at h1
      omega) hn (by omega)
  rw [e]
  refine xc_c (fun i hi => ?_)
  rw [bL_and, bL_and, hMa, hMb, decide_eq_true (show i < 64 by omega), decide_eq_true (show n - i < 64 by omega)]
  by_cases h1 : i % 4 = a
  · simp [h1, show (n - i) % 4 = b by omega]
  · simp [h1]
theorem xc_four (q p : Nat → Bool) (n : Nat) : (((xc q n (fun i => p i && decide (i % 4 = 0)) ^^ xc q n (fun i => p i && decide (i % 4 = 1))) ^^ xc q n (fun i => p i && decide (i % 4 = 2))) ^^ xc q n (fun i => p i && decide (i % 4 = 3))) = xc q n p := by
  rw [← xc_p, ← xc_p, ← xc_p]
  refine xc_c (fun i _ => ?_)
  congr 1
  have h : i % 4 = 0 ∨ i % 4 = 1 ∨ i % 4 = 2 ∨ i % 4 = 3 := by omega
  rcases h with h | h | h | h <;> simp [h]
/-- implMul64: the low 64 bits of the carry-less product -/
theorem jimpl_bit (x y : Int64) (n : Nat) (hn : n < 64) : bL (jimpl x y) n = xc (bL y) n (bL x) := by
  simp only [jimpl]
  rw [bL_or, bL_or, bL_or, bL_and, bL_and, bL_and, bL_and, mk0, mk1, mk2, mk3, decide_eq_true hn, Bool.true_and, Bool.true_and, Bool.true_and, Bool.true_and]
  have h : n % 4 = 0 ∨ n % 4 = 1 ∨ n % 4 = 2 ∨ n % 4 = 3 := by omega
  rcases h with h | h | h | h
  · rw [decide_eq_true h, decide_eq_false (show ¬ n % 4 = 1 by omega), decide_eq_false (show ¬ n % 4 = 2 by omega), decide_eq_false (show ¬ n % 4 = 3 by omega), Bool.and_true, Bool.and_false, Bool.and_false, Bool.and_false, Bool.or_false, Bool.or_false, Bool.or_false, bL_xor, bL_xor, bL_xor, jprod x y mk0 mk0 (by decide) (by decide) hn (by omega), jprod x y mk1 mk3 (by decide) (by decide) hn (by omega), jprod x y mk2 mk2 (by decide) (by decide) hn (by omega), jprod x y mk3 mk1 (by decide) (by decide) hn (by omega)]
    exact xc_four _ _ _
  · rw [decide_eq_true h, decide_eq_false (show ¬ n % 4 = 0 by omega), decide_eq_false (show ¬ n % 4 = 2 by omega), decide_eq_false (show ¬ n % 4 = 3 by omega), Bool.and_true, Bool.and_false, Bool.and_false, Bool.and_false, Bool.or_false, Bool.or_false, Bool.false_or, bL_xor, bL_xor, bL_xor, jprod x y mk0 mk1 (by decide) (by decide) hn (by omega), jprod x y mk1 mk0 (by decide) (by decide) hn (by omega), jprod x y mk2 mk3 (by decide) (by decide) hn (by omega), jprod x y mk3 mk2 (by decide) (by decide) hn (by omega)]
    exact xc_four _ _ _
  · rw [decide_eq_true h, decide_eq_false (show ¬ n % 4 = 0 by omega), decide_eq_false (show ¬ n % 4 = 1 by omega), decide_eq_false (show ¬ n % 4 = 3 by omega), Bool.and_true, Bool.and_false, Bool.and_false, Bool.and_false, Bool.or_false, Bool.or_false, Bool.false_or, bL_xor, bL_xor, bL_xor, jprod x y mk0 mk2 (by decide) (by decide) hn (by omega), jprod x y mk1 mk1 (by decide) (by decide) hn (by omega), jprod x y mk2 mk0 (by decide) (by decide) hn (by omega), jprod x y mk3 mk3 (by decide) (by decide) hn (by omega)]
    exact xc_four _ _ _
  · rw [decide_eq_true h, decide_eq_false (show ¬ n % 4 = 0 by omega), decide_eq_false (show ¬ n % 4 = 1 by omega), decide_eq_false (show ¬ n % 4 = 2 by omega), Bool.and_true, Bool.and_false, Bool.and_false, Bool.and_false, Bool.or_false, Bool.or_false, Bool.false_or, bL_xor, bL_xor, bL_xor, jprod x y mk0 mk3 (by decide) (by decide) hn (by omega), jprod x y mk1 mk2 (by decide) (by decide) hn (by omega), jprod x y mk2 mk1 (by decide) (by decide) hn (by omega), jprod x y mk3 mk0 (by decide) (by decide) hn (by omega)]
    exact xc_four _ _ _
/-- one step of Long.reverse: blocks of k bits change places -/
def swf (M : Int64) (k i : Nat) : Nat := if bL M i then k + i else i - k
theorem jswap (x M : Int64) (k : Nat) (hk : k < 64) (h : ∀ i, i < 64 → (bL M i = true ∧ (k ≤ i → bL M (i - k) = false)) ∨ (bL M i = false ∧ k ≤ i ∧ bL M (i - k) = true)) (i : Nat) (hi : i < 64) : bL (jlshl (x &&& M) (nI k) ||| (jlushr x (nI k) &&& M)) i = bL x (swf M k i) := by
  rw [bL_or, bL_and, bL_shl _ _ hk, bL_shr _ _ hk, bL_and]
  unfold swf
  rcases h i hi with ⟨h1, h2⟩ | ⟨h1, h2, h3⟩
  · rw [h1, if_pos rfl]
    by_cases h4 : k ≤ i
    · rw [h2 h4]; simp
    · simp [show i < k by omega]
  · rw [h1, h3, if_neg (by decide)]
    simp [hi, show ¬ i < k by omega]
def f48 (i : Nat) : Nat := if i < 16 then 48 + i else if i < 32 then 16 + i else if i < 48 then i - 16 else i - 48
theorem mC (j : Nat) : bL 4294901760 j = (decide (16 ≤ j) && decide (j < 32)) := by
  by_cases h : j < 64
  · have h1 : ∀ j, j < 64 → bL 4294901760 j = (decide (16 ≤ j) && decide (j < 32)) := by decide +kernel
    exact h1 j h
  · rw [bL_out _ (by omega)]
    simp; omega
theorem jfin (y : Int64) (i : Nat) (hi : i < 64) : bL ((((jlshl y (nI 48)) ||| (jlshl (y &&& 4294901760) (nI 16))) ||| ((jlushr y (nI 16)) &&& 4294901760)) ||| (jlushr y (nI 48))) i = bL y (f48 i) := by
  rw [bL_or, bL_or, bL_or, bL_shl _ _ (by decide), bL_shl _ _ (by decide), bL_and, bL_and, bL_shr _ _ (by decide), bL_shr _ _ (by decide), mC, mC]
  unfold f48
  by_cases h1 : i < 16
  · simp [h1, show i < 48 by omega, show ¬ 16 ≤ i by omega]
  · by_cases h2 : i < 32
    · rw [bL_out y (show 64 ≤ 48 + i by omega)]
      simp [h1, h2, show i < 48 by omega, show 16 ≤ i by omega, show ¬ 16 ≤ i - 16 by omega]
    · by_cases h3 : i < 48
      · rw [bL_out y (show 64 ≤ 48 + i by omega)]
        simp [h1, h2, h3, hi, show 16 ≤ i - 16 by omega, show i - 16 < 32 by omega]
      · rw [bL_out y (show 64 ≤ 48 + i by omega)]
        simp [h1, h2, h3, hi, show ¬ i - 16 < 32 by omega]
theorem sw1 : ∀ i, i < 64 → (bL 6148914691236517205 i = true ∧ (1 ≤ i → bL 6148914691236517205 (i - 1) = false)) ∨ (bL 6148914691236517205 i = false ∧ 1 ≤ i ∧ bL 6148914691236517205 (i - 1) = true) := by decide +kernel
theorem sw2 : ∀ i, i < 64 → (bL 3689348814741910323 i = true ∧ (2 ≤ i → bL 3689348814741910323 (i - 2) = false)) ∨ (bL 3689348814741910323 i = false ∧ 2 ≤ i ∧ bL 3689348814741910323 (i - 2) = true) := by decide +kernel
theorem sw4 : ∀ i, i < 64 → (bL 1085102592571150095 i = true ∧ (4 ≤ i → bL 1085102592571150095 (i - 4) = false)) ∨ (bL 1085102592571150095 i = false ∧ 4 ≤ i ∧ bL 1085102592571150095 (i - 4) = true) := by decide +kernel
theorem sw8 : ∀ i, i < 64 → (bL 71777214294589695 i = true ∧ (8 ≤ i → bL 71777214294589695 (i - 8) = false)) ∨ (bL 71777214294589695 i = false ∧ 8 ≤ i ∧ bL 71777214294589695 (i - 8) = true) := by decide +kernel
theorem sw_lt : ∀ i, i < 64 → f48 i < 64 ∧ swf 71777214294589695 8 (f48 i) < 64 ∧ swf 1085102592571150095 4 (swf 71777214294589695 8 (f48 i)) < 64 ∧ swf 3689348814741910323 2 (swf 1085102592571150095 4 (swf 71777214294589695 8 (f48 i))) < 64 ∧ swf 6148914691236517205 1 (swf 3689348814741910323 2 (swf 1085102592571150095 4 (swf 71777214294589695 8 (f48 i)))) = 63 - i := by decide +kernel
theorem jlrev_bit (x : Int64) (i : Nat) (hi : i < 64) : bL (jlrev x) i = bL x (63 - i) := by
  obtain ⟨h1, h2, h3, h4, h5⟩ := sw_lt i hi
  simp only [jlrev, jrev, jrevB]
  rw [jfin _ _ hi, jswap _ _ 8 (by decide) sw8 _ h1, jswap _ _ 4 (by decide) sw4 _ h2, jswap _ _ 2 (by decide) sw2 _ h3, jswap _ _ 1 (by decide) sw1 _ h4, h5]
/-- bits from the left -/
abbrev mL (x : Int64) (i : Nat) : Bool := x.toBitVec.getMsbD i
theorem mL_b (x : Int64) {i : Nat} (h : i < 64) : mL x i = bL x (63 - i) := by
  show x.toBitVec.getMsbD i = _
  rw [BitVec.getMsbD_eq_getLsbD]
  simp [h]
theorem mL_out (x : Int64) (i : Nat) (h : 64 ≤ i) : mL x i = false := by
  show x.toBitVec.getMsbD i = _
  rw [BitVec.getMsbD_eq_getLsbD]
  simp [show ¬ i < 64 by omega]
theorem jlow (u v : Int64) (n : Nat) (hn : n < 64) : mL (jlrev (jimpl (jlrev u) (jlrev v))) n = xc (mL v) n (mL u) := by
  rw [mL_b _ hn, jlrev_bit _ _ (by omega), show 63 - (63 - n) = n by omega, jimpl_bit _ _ _ hn]
  exact xc_c (fun i hi => by rw [jlrev_bit _ _ (by omega), jlrev_bit _ _ (by omega), mL_b _ (by omega), mL_b _ (by omega)])
theorem jhigh (u v : Int64) (n : Nat) (hn : n < 64) : mL (jlshl (jimpl u v) (nI 1)) n = xc (mL v) (64 + n) (mL u) := by
  rw [mL_b _ hn, bL_shl _ _ (by decide), xc_xs, show 64 + n + 1 = (n + 1) + ((63 - n) + (n + 1)) by omega, xs_app _ (n + 1), xs_app _ (63 - n)]
  rw [xs_z (h := fun i => mL u i && mL v (64 + n - i)) (n := n + 1) (fun i hi => by rw [mL_out v _ (by omega), Bool.and_false]), Bool.false_xor]
  rw [xs_z (h := fun i => mL u (n + 1 + (63 - n + i)) && mL v (64 + n - (n + 1 + (63 - n + i)))) (n := n + 1) (fun i hi => by rw [mL_out u _ (by omega), Bool.false_and]), Bool.xor_false]
  by_cases h : n < 63
  · rw [decide_eq_true (show 63 - n < 64 by omega), decide_eq_false (show ¬ 63 - n < 1 by omega), jimpl_bit _ _ _ (show 63 - n - 1 < 64 by omega), xc_xs, show 63 - n - 1 + 1 = 63 - n by omega, xs_rev]
    show (true && !false && _) = _
    rw [Bool.not_false, Bool.true_and, Bool.true_and]
    exact xs_c (fun i hi => by rw [mL_b u (by omega), mL_b v (by omega), show 63 - (n + 1 + i) = 63 - n - 1 - i by omega, show 63 - (64 + n - (n + 1 + i)) = 63 - n - 1 - (63 - n - 1 - i) by omega])
  · have e : n = 63 := by omega
    subst e
    rfl
end
section
/-! GCMUtil.multiply and square are the product of the field -/
theorem bx4 {w : Nat} (a b c d : BitVec w) : (a ^^^ b) ^^^ (c ^^^ d) = (a ^^^ c) ^^^ (b ^^^ d) := by ac_rfl
theorem bx2 {w : Nat} {a b c d : BitVec w} (h1 : a = c) (h2 : b = d) : a ^^^ b = c ^^^ d := by rw [h1, h2]
theorem bxI {a b c d : Int64} (h1 : a = c) (h2 : b = d) : a ^^^ b = c ^^^ d := by rw [h1, h2]
/-- two words, one element -/
def gJ (a b : BitVec 64) : gV := a ++ b
theorem gJ_bit (a b : BitVec 64) (i : Nat) : (gJ a b).getMsbD i = if i < 64 then a.getMsbD i else b.getMsbD (i - 64) := by
  show (a ++ b).getMsbD i = _
  rw [BitVec.getMsbD_append]
  by_cases h : i < 64
  · rw [if_neg (by omega), if_pos h]
  · rw [if_pos (by omega), if_neg h]
theorem gJ_x (a b c d : BitVec 64) : gJ a b ^^^ gJ c d = gJ (a ^^^ c) (b ^^^ d) := by
  apply BitVec.eq_of_getMsbD_eq
  intro i hi
  rw [BitVec.getMsbD_xor, gJ_bit, gJ_bit, gJ_bit]
  by_cases h : i < 64
  · rw [if_pos h, if_pos h, if_pos h, BitVec.getMsbD_xor]
  · rw [if_neg h, if_neg h, if_neg h, BitVec.getMsbD_xor]
theorem gJ_inj {a b c d : BitVec 64} (h : gJ a b = gJ c d) : a = c ∧ b = d := by
  constructor
  · apply BitVec.eq_of_getMsbD_eq
    intro i hi
    have e := congrArg (fun v : gV => v.getMsbD i) h
    simp only [gJ_bit] at e
    rw [if_pos hi, if_pos hi] at e
    exact e
  · apply BitVec.eq_of_getMsbD_eq
    intro i hi
    have e := congrArg (fun v : gV => v.getMsbD (64 + i)) h
    simp only [gJ_bit] at e
    rw [if_neg (by omega), if_neg (by omega), show 64 + i - 64 = i by omega] at e
    exact e
def gJp (p : Int64 × Int64) : gV := gJ p.1.toBitVec p.2.toBitVec
theorem gJp_inj {p q : Int64 × Int64} (h : gJp p = gJp q) : p = q := by
  obtain ⟨h1, h2⟩ := gJ_inj h
  exact Prod.ext (Int64.toBitVec_inj.mp h1) (Int64.toBitVec_inj.mp h2)
def gF1 (z : BitVec 64) : BitVec 64 := ((z ^^^ z >>> 1) ^^^ z >>> 2) ^^^ z >>> 7
def gF2 (z : BitVec 64) : BitVec 64 := (z <<< 63 ^^^ z <<< 62) ^^^ z <<< 57
theorem gF1_l : gLin gF1 := by
  intro a b
  unfold gF1
  rw [BitVec.ushiftRight_xor_distrib, BitVec.ushiftRight_xor_distrib, BitVec.ushiftRight_xor_distrib, bx4 a b, bx4 (a ^^^ a >>> 1), bx4 ((a ^^^ a >>> 1) ^^^ a >>> 2)]
theorem gF2_l : gLin gF2 := by
  intro a b
  unfold gF2
  rw [BitVec.shiftLeft_xor_distrib, BitVec.shiftLeft_xor_distrib, BitVec.shiftLeft_xor_distrib, bx4 (a <<< 63), bx4 (a <<< 63 ^^^ a <<< 62)]
/-- the reduction of four words -/
def gZ (z0 z1 z2 z3 : BitVec 64) : gV := gJ (z0 ^^^ gF1 (z2 ^^^ gF2 z3)) ((z1 ^^^ gF1 z3) ^^^ gF2 (z2 ^^^ gF2 z3))
theorem gZ_x (a b c d a' b' c' d' : BitVec 64) : gZ (a ^^^ a') (b ^^^ b') (c ^^^ c') (d ^^^ d') = gZ a b c d ^^^ gZ a' b' c' d' := by
  unfold gZ
  rw [gJ_x, gF2_l d d', bx4 c c', gF1_l, gF2_l, gF1_l d d', bx4 a a', bx4 b b', bx4 (b ^^^ gF1 d)]
def gZu (n : Nat) : gV := gZ (if n / 64 = 0 then gu 64 (n % 64) else 0#64) (if n / 64 = 1 then gu 64 (n % 64) else 0#64) (if n / 64 = 2 then gu 64 (n % 64) else 0#64) (if n / 64 = 3 then gu 64 (n % 64) else 0#64)
theorem gZu_0 : gZu 0 = g1 := by decide +kernel
theorem gZu_s : ∀ n, n < 255 → gZu (n + 1) = gX (gZu n) := by decide +kernel
theorem gZu_n {n : Nat} (h : n < 256) : gZu n = gXn n g1 := by
  induction n with
  | zero => exact gZu_0
  | succ n ih => rw [gZu_s n (by omega), ih (by omega)]; rfl
theorem gZ_0 {i : Nat} (h : i < 64) : gZ (gu 64 i) 0#64 0#64 0#64 = gXn i g1 := by
  rw [← gZu_n (show i < 256 by omega)]
  unfold gZu
  rw [show i / 64 = 0 by omega, show i % 64 = i by omega]
  rfl
theorem gZ_1 {i : Nat} (h : i < 64) : gZ 0#64 (gu 64 i) 0#64 0#64 = gXn (64 + i) g1 := by
  rw [← gZu_n (show 64 + i < 256 by omega)]
  unfold gZu
  rw [show (64 + i) / 64 = 1 by omega, show (64 + i) % 64 = i by omega]
  rfl
theorem gZ_2 {i : Nat} (h : i < 64) : gZ 0#64 0#64 (gu 64 i) 0#64 = gXn (64 + (64 + i)) g1 := by
  rw [← gZu_n (show 64 + (64 + i) < 256 by omega)]
  unfold gZu
  rw [show (64 + (64 + i)) / 64 = 2 by omega, show (64 + (64 + i)) % 64 = i by omega]
  rfl
theorem gZ_3 {i : Nat} (h : i < 64) : gZ 0#64 0#64 0#64 (gu 64 i) = gXn (64 + (64 + (64 + i))) g1 := by
  rw [← gZu_n (show 64 + (64 + (64 + i)) < 256 by omega)]
  unfold gZu
  rw [show (64 + (64 + (64 + i))) / 64 = 3 by omega, show (64 + (64 + (64 + i))) % 64 = i by omega]
  rfl
theorem gZ_l0 : gLin (fun z => gZ z 0#64 0#64 0#64) := by
  intro x y
  have h := gZ_x x 0#64 0#64 0#64 y 0#64 0#64 0#64
  rwa [BitVec.xor_self] at h
theorem gZ_l1 : gLin (fun z => gZ 0#64 z 0#64 0#64) := by
  intro x y
  have h := gZ_x 0#64 x 0#64 0#64 0#64 y 0#64 0#64
  rwa [BitVec.xor_self] at h
theorem gZ_l2 : gLin (fun z => gZ 0#64 0#64 z 0#64) := by
  intro x y
  have h := gZ_x 0#64 0#64 x 0#64 0#64 0#64 y 0#64
  rwa [BitVec.xor_self] at h
theorem gZ_l3 : gLin (fun z => gZ 0#64 0#64 0#64 z) := by
  intro x y
  have h := gZ_x 0#64 0#64 0#64 x 0#64 0#64 0#64 y
  rwa [BitVec.xor_self] at h
/-- the coefficients of four words -/
def gc4 (a b c d : BitVec 64) (n : Nat) : Bool := if n < 64 then a.getMsbD n else if n < 128 then b.getMsbD (n - 64) else if n < 192 then c.getMsbD (n - 128) else d.getMsbD (n - 192)
theorem gZ_E (a b c d : BitVec 64) : gZ a b c d = gE (gc4 a b c d) 256 g1 := by
  have e : gZ a b c d = gZ a 0#64 0#64 0#64 ^^^ (gZ 0#64 b 0#64 0#64 ^^^ (gZ 0#64 0#64 c 0#64 ^^^ gZ 0#64 0#64 0#64 d)) := by
    rw [← gZ_x, ← gZ_x, ← gZ_x]
    simp
  unfold gE
  rw [e, show 256 = 64 + (64 + (64 + 64)) from rfl, gsum_app, gsum_app, gsum_app]
  refine bx2 ?_ (bx2 ?_ (bx2 ?_ ?_))
  · rw [gext gZ_l0]
    exact gsum_c (fun i hi => by rw [gZ_0 hi, gc4, if_pos hi])
  · rw [gext gZ_l1]
    exact gsum_c (fun i hi => by rw [gZ_1 hi, gc4, if_neg (by omega), if_pos (by omega), show 64 + i - 64 = i by omega])
  · rw [gext gZ_l2]
    exact gsum_c (fun i hi => by rw [gZ_2 hi, gc4, if_neg (by omega), if_neg (by omega), if_pos (by omega), show 64 + (64 + i) - 128 = i by omega])
  · rw [gext gZ_l3]
    exact gsum_c (fun i hi => by rw [gZ_3 hi, gc4, if_neg (by omega), if_neg (by omega), if_neg (by omega), show 64 + (64 + (64 + i)) - 192 = i by omega])
/-- a product's coefficients, summed, are the sums in turn -/
theorem gE_conv {B : Nat → Bool} {b : Nat} (hB : ∀ i, b ≤ i → B i = false) (v : gV) (a : Nat) : ∀ (A : Nat → Bool) (N : Nat), (∀ i, a ≤ i → A i = false) → a + b ≤ N → gE (fun n => xc B n A) N v = gE A a (gE B b v) := by
  induction a with
  | zero =>
    intro A N hA _
    have e : gE (fun n => xc B n A) N v = gE (fun _ => false) N v := gE_c v (fun n _ => xc_z (fun i _ => by rw [hA i (by omega), Bool.false_and]))
    rw [e, gE_z]
    rfl
  | succ a ih =>
    intro A N hA hN
    obtain ⟨M, rfl⟩ : ∃ M, N = M + 1 := ⟨N - 1, by omega⟩
    rw [gE_s, gE_s]
    have e : gE (fun i => xc B (i + 1) A) M v = gE (fun i => A 0 && B (i + 1)) M v ^^^ gE (fun n => xc B n (fun i => A (i + 1))) M v := gE_x _ _ M v
    rw [e, ih (fun i => A (i + 1)) M (fun i hi => hA (i + 1) (by omega)) (by omega), gX_l, ← BitVec.xor_assoc]
    refine bx2 ?_ rfl
    have e2 : gS (xc B 0 A) v ^^^ gX (gE (fun i => A 0 && B (i + 1)) M v) = gE (fun i => A 0 && B i) (M + 1) v := (gE_s (fun i => A 0 && B i) M v).symm
    rw [e2, gE_b, show M + 1 = b + (M + 1 - b) by omega, gE_tail hB]
/-! the two halves of a product of words -/
def wlo (u v : Int64) : Int64 := jlrev (jimpl (jlrev u) (jlrev v))
def whi (u v : Int64) : Int64 := jlshl (jimpl u v) (nI 1)
theorem jlrev_x (a b : Int64) : jlrev a ^^^ jlrev b = jlrev (a ^^^ b) := bL_ext fun i hi => by
  rw [bL_xor, jlrev_bit _ _ hi, jlrev_bit _ _ hi, jlrev_bit _ _ hi, bL_xor]
theorem mL_x (a b : Int64) : mL (a ^^^ b) = fun i => mL a i ^^ mL b i := by
  funext i
  show (a ^^^ b).toBitVec.getMsbD i = _
  rw [Int64.toBitVec_xor, BitVec.getMsbD_xor]
theorem gJp_bit (p : Int64 × Int64) : (gJp p).getMsbD = fun i => mL p.1 i ^^ sh (mL p.2) i := by
  funext i
  show (gJ p.1.toBitVec p.2.toBitVec).getMsbD i = _
  rw [gJ_bit]
  unfold sh
  by_cases h : i < 64
  · rw [if_pos h, if_pos h, Bool.xor_false]
  · rw [if_neg h, if_neg h, mL_out _ _ (by omega), Bool.false_xor]
/-- the sixteen ways: coefficients of the whole product by words -/
theorem xc_words (u0 u1 v0 v1 : Nat → Bool) (n : Nat) : xc (fun i => v0 i ^^ sh v1 i) n (fun i => u0 i ^^ sh u1 i) = ((xc v0 n u0 ^^ (if n < 64 then false else xc v1 (n - 64) u0)) ^^ ((if n < 64 then false else xc v0 (n - 64) u1) ^^ (if n < 64 then false else if n - 64 < 64 then false else xc v1 (n - 64 - 64) u1))) := by
  rw [xc_p, xc_q, xc_q, xc_shq, xc_shp, xc_shp, xc_shq]
def jF1 (z : Int64) : Int64 := ((z ^^^ jlushr z (nI 1)) ^^^ jlushr z (nI 2)) ^^^ jlushr z (nI 7)
def jF2 (z : Int64) : Int64 := (jlshl z (nI 63) ^^^ jlshl z (nI 62)) ^^^ jlshl z (nI 57)
theorem jF1_bv (z : Int64) : (jF1 z).toBitVec = gF1 z.toBitVec := by
  unfold jF1 gF1
  rw [Int64.toBitVec_xor, Int64.toBitVec_xor, Int64.toBitVec_xor, jlushr_bv _ _ (by decide), jlushr_bv _ _ (by decide), jlushr_bv _ _ (by decide)]
theorem jF2_bv (z : Int64) : (jF2 z).toBitVec = gF2 z.toBitVec := by
  unfold jF2 gF2
  rw [Int64.toBitVec_xor, Int64.toBitVec_xor, jlshl_bv _ _ (by decide), jlshl_bv _ _ (by decide), jlshl_bv _ _ (by decide)]
theorem jred (z0 z1 z2 z3 : Int64) : gJp (z0 ^^^ jF1 (z2 ^^^ jF2 z3), (z1 ^^^ jF1 z3) ^^^ jF2 (z2 ^^^ jF2 z3)) = gZ z0.toBitVec z1.toBitVec z2.toBitVec z3.toBitVec := by
  show gJ (z0 ^^^ jF1 (z2 ^^^ jF2 z3)).toBitVec ((z1 ^^^ jF1 z3) ^^^ jF2 (z2 ^^^ jF2 z3)).toBitVec = _
  unfold gZ
  rw [Int64.toBitVec_xor, jF1_bv, Int64.toBitVec_xor, jF2_bv, Int64.toBitVec_xor, Int64.toBitVec_xor, jF1_bv, jF2_bv, Int64.toBitVec_xor, jF2_bv]
theorem jtop (r : Int64) : jlshl (jlshl r (nI 1)) (nI 62) ^^^ jlshl (jlshl r (nI 1)) (nI 57) = jF2 (jlshl r (nI 1)) := by
  unfold jF2
  have e : jlshl (jlshl r (nI 1)) (nI 63) = 0 := bL_ext fun i hi => by
    rw [bL_shl _ _ (by decide), bL_shl _ _ (by decide)]
    have z : bL 0 i = false := by
      show (0 : Int64).toBitVec.getLsbD i = false
      simp
    rw [z]
    by_cases h : i < 63
    · simp [h]
    · simp [show i - 63 < 1 by omega]
  rw [e]
  refine bxI ?_ rfl
  exact bL_ext fun i hi => by
    rw [bL_xor]
    have z : bL 0 i = false := by
      show (0 : Int64).toBitVec.getLsbD i = false
      simp
    rw [z, Bool.false_xor]
theorem jmul_Z (x0 x1 y0 y1 : Int64) : gJp (jmul x0 x1 y0 y1) = gZ (wlo x0 y0).toBitVec (((whi x0 y0 ^^^ wlo x0 y0) ^^^ wlo x1 y1) ^^^ wlo (x0 ^^^ x1) (y0 ^^^ y1)).toBitVec (((wlo x1 y1 ^^^ whi x0 y0) ^^^ whi x1 y1) ^^^ whi (x0 ^^^ x1) (y0 ^^^ y1)).toBitVec (whi x1 y1).toBitVec := by
  rw [← jred]
  simp only [jmul]
  rw [jtop, jlrev_x, jlrev_x]
  rfl
theorem jmul_c (x0 x1 y0 y1 : Int64) (n : Nat) (hn : n < 256) : gc4 (wlo x0 y0).toBitVec (((whi x0 y0 ^^^ wlo x0 y0) ^^^ wlo x1 y1) ^^^ wlo (x0 ^^^ x1) (y0 ^^^ y1)).toBitVec (((wlo x1 y1 ^^^ whi x0 y0) ^^^ whi x1 y1) ^^^ whi (x0 ^^^ x1) (y0 ^^^ y1)).toBitVec (whi x1 y1).toBitVec n = xc (gJp (y0, y1)).getMsbD n (gJp (x0, x1)).getMsbD := by
  rw [gJp_bit, gJp_bit, xc_words]
  show gc4 _ _ _ _ n = ((xc (mL y0) n (mL x0) ^^ (if n < 64 then false else xc (mL y1) (n - 64) (mL x0))) ^^ ((if n < 64 then false else xc (mL y0) (n - 64) (mL x1)) ^^ (if n < 64 then false else if n - 64 < 64 then false else xc (mL y1) (n - 64 - 64) (mL x1))))
  unfold gc4
  by_cases h1 : n < 64
  · rw [if_pos h1, if_pos h1, if_pos h1, if_pos h1, Bool.xor_false, Bool.xor_false, Bool.xor_false]
    exact jlow x0 y0 n h1
  · rw [if_neg h1, if_neg h1, if_neg h1, if_neg h1]
    by_cases h2 : n < 128
    · obtain ⟨m, rfl⟩ : ∃ m, n = 64 + m := ⟨n - 64, by omega⟩
      rw [if_pos h2, if_pos (show 64 + m - 64 < 64 by omega), show 64 + m - 64 = m by omega]
      show mL (((whi x0 y0 ^^^ wlo x0 y0) ^^^ wlo x1 y1) ^^^ wlo (x0 ^^^ x1) (y0 ^^^ y1)) m = _
      rw [mL_x, mL_x, mL_x]
      show (((mL (whi x0 y0) m ^^ mL (wlo x0 y0) m) ^^ mL (wlo x1 y1) m) ^^ mL (wlo (x0 ^^^ x1) (y0 ^^^ y1)) m) = _
      rw [show mL (whi x0 y0) m = _ from jhigh x0 y0 m (by omega), show mL (wlo x0 y0) m = _ from jlow x0 y0 m (by omega), show mL (wlo x1 y1) m = _ from jlow x1 y1 m (by omega), show mL (wlo (x0 ^^^ x1) (y0 ^^^ y1)) m = _ from jlow _ _ m (by omega), mL_x, mL_x, xc_p, xc_q, xc_q]
      generalize xc (mL y0) (64 + m) (mL x0) = a
      generalize xc (mL y0) m (mL x0) = b
      generalize xc (mL y1) m (mL x0) = c
      generalize xc (mL y0) m (mL x1) = d
      generalize xc (mL y1) m (mL x1) = f
      cases a <;> cases b <;> cases c <;> cases d <;> cases f <;> rfl
    · rw [if_neg h2, if_neg (show ¬ n - 64 < 64 by omega), xc_deg (q := mL y0) (p := mL x0) (mL_out _) (mL_out _) (show 127 ≤ n by omega)]
      by_cases h3 : n < 192
      · obtain ⟨m, rfl⟩ : ∃ m, n = 128 + m := ⟨n - 128, by omega⟩
        rw [if_pos h3, show 128 + m - 64 - 64 = m by omega, show 128 + m - 64 = 64 + m by omega, show 128 + m - 128 = m by omega]
        show mL (((wlo x1 y1 ^^^ whi x0 y0) ^^^ whi x1 y1) ^^^ whi (x0 ^^^ x1) (y0 ^^^ y1)) m = _
        rw [mL_x, mL_x, mL_x]
        show (((mL (wlo x1 y1) m ^^ mL (whi x0 y0) m) ^^ mL (whi x1 y1) m) ^^ mL (whi (x0 ^^^ x1) (y0 ^^^ y1)) m) = _
        rw [show mL (whi x0 y0) m = _ from jhigh x0 y0 m (by omega), show mL (wlo x1 y1) m = _ from jlow x1 y1 m (by omega), show mL (whi x1 y1) m = _ from jhigh x1 y1 m (by omega), show mL (whi (x0 ^^^ x1) (y0 ^^^ y1)) m = _ from jhigh _ _ m (by omega), mL_x, mL_x, xc_p, xc_q, xc_q]
        generalize xc (mL y1) m (mL x1) = a
        generalize xc (mL y0) (64 + m) (mL x0) = b
        generalize xc (mL y1) (64 + m) (mL x0) = c
        generalize xc (mL y0) (64 + m) (mL x1) = d
        generalize xc (mL y1) (64 + m) (mL x1) = f
        cases a <;> cases b <;> cases c <;> cases d <;> cases f <;> rfl
      · obtain ⟨m, rfl⟩ : ∃ m, n = 192 + m := ⟨n - 192, by omega⟩
        rw [if_neg h3, show 192 + m - 64 - 64 = 64 + m by omega, show 192 + m - 192 = m by omega, xc_deg (q := mL y1) (p := mL x0) (mL_out _) (mL_out _) (show 127 ≤ 192 + m - 64 by omega), xc_deg (q := mL y0) (p := mL x1) (mL_out _) (mL_out _) (show 127 ≤ 192 + m - 64 by omega), Bool.false_xor, Bool.false_xor, Bool.false_xor]
        exact jhigh x1 y1 m (by omega)
theorem gV_out (v : gV) (i : Nat) (h : 128 ≤ i) : v.getMsbD i = false := by
  rw [BitVec.getMsbD_eq_getLsbD]
  simp [show ¬ i < 128 by omega]
/-- GCMUtil.multiply is the product -/
theorem jmul_M (x0 x1 y0 y1 : Int64) : gJp (jmul x0 x1 y0 y1) = gM (gJp (x0, x1)) (gJp (y0, y1)) := by
  rw [jmul_Z, gZ_E, gE_c g1 (jmul_c x0 x1 y0 y1), gE_conv (b := 128) (gV_out _) g1 128 _ 256 (gV_out _) (by decide), gE_g1]
  rfl
/-! square -/
def bst (x m : BitVec 64) (s : Nat) : BitVec 64 := (((x ^^^ x >>> s) &&& m) ^^^ ((x ^^^ x >>> s) &&& m) <<< s) ^^^ x
theorem and_l (m : BitVec 64) : gLin (fun x => x &&& m) := by
  intro a b
  apply BitVec.eq_of_getLsbD_eq
  intro i hi
  show ((a ^^^ b) &&& m).getLsbD i = ((a &&& m) ^^^ (b &&& m)).getLsbD i
  rw [BitVec.getLsbD_and, BitVec.getLsbD_xor, BitVec.getLsbD_xor, BitVec.getLsbD_and, BitVec.getLsbD_and]
  cases a.getLsbD i <;> cases b.getLsbD i <;> cases m.getLsbD i <;> rfl
theorem bst_l (m : BitVec 64) (s : Nat) : gLin (fun x => bst x m s) := by
  intro a b
  have e : ((a ^^^ b) ^^^ (a ^^^ b) >>> s) &&& m = ((a ^^^ a >>> s) &&& m) ^^^ ((b ^^^ b >>> s) &&& m) := by
    rw [BitVec.ushiftRight_xor_distrib, bx4]
    exact and_l m _ _
  show bst (a ^^^ b) m s = bst a m s ^^^ bst b m s
  unfold bst
  rw [e, BitVec.shiftLeft_xor_distrib]
  ac_rfl
def bper (x : BitVec 64) : BitVec 64 := bst (bst (bst (bst (bst x (4294901760 : Int64).toBitVec 16) (280375465148160 : Int64).toBitVec 8) (67555025218437360 : Int64).toBitVec 4) (868082074056920076 : Int64).toBitVec 2) (2459565876494606882 : Int64).toBitVec 1
theorem bst_x (a b m : BitVec 64) (s : Nat) : bst (a ^^^ b) m s = bst a m s ^^^ bst b m s := bst_l m s a b
theorem bper_l : gLin bper := by
  intro a b
  unfold bper
  rw [bst_x, bst_x, bst_x, bst_x, bst_x]
theorem jbps_bv (x m : Int64) (s : Nat) (hs : s < 64) : (jbps x m (nI s)).toBitVec = bst x.toBitVec m.toBitVec s := by
  simp only [jbps]
  rw [Int64.toBitVec_xor, Int64.toBitVec_xor, jlshl_bv _ _ hs, Int64.toBitVec_and, Int64.toBitVec_xor, jlushr_bv _ _ hs]
  rfl
theorem jper_bv (x : Int64) : (jper x).toBitVec = bper x.toBitVec := by
  simp only [jper]
  rw [jbps_bv _ _ _ (by decide), jbps_bv _ _ _ (by decide), jbps_bv _ _ _ (by decide), jbps_bv _ _ _ (by decide), jbps_bv _ _ _ (by decide)]
  rfl
def bM : BitVec 64 := (-6148914691236517206 : Int64).toBitVec
def bx0 (x : BitVec 64) : BitVec 64 := bper x &&& bM
def bx1 (x : BitVec 64) : BitVec 64 := (bper x <<< 1) &&& bM
theorem bx0_l : gLin bx0 := by
  intro a b
  unfold bx0
  rw [bper_l]
  exact and_l _ _ _
theorem bx1_l : gLin bx1 := by
  intro a b
  unfold bx1
  rw [bper_l, BitVec.shiftLeft_xor_distrib]
  exact and_l _ _ _
theorem jx0_bv (x : Int64) : (jx0 x).toBitVec = bx0 x.toBitVec := by
  unfold jx0 bx0
  rw [Int64.toBitVec_and, jper_bv]
  rfl
theorem jx1_bv (x : Int64) : (jx1 x).toBitVec = bx1 x.toBitVec := by
  unfold jx1 bx1
  rw [Int64.toBitVec_and, jlshl_bv _ _ (by decide), jper_bv]
  rfl
def bsq (a b : BitVec 64) : gV := gZ (bx0 a) (bx1 a) (bx0 b) (bx1 b)
theorem jsq_b (x0 x1 : Int64) : gJp (jsq x0 x1) = bsq x0.toBitVec x1.toBitVec := by
  unfold bsq
  rw [← jx0_bv, ← jx1_bv, ← jx0_bv, ← jx1_bv, ← jred]
  rfl
theorem bsq_x (a b c d : BitVec 64) : bsq (a ^^^ c) (b ^^^ d) = bsq a b ^^^ bsq c d := by
  unfold bsq
  rw [bx0_l, bx1_l, bx0_l, bx1_l, gZ_x]
theorem bsq_u0 : ∀ i, i < 64 → bsq (gu 64 i) 0#64 = gZu (2 * i) := by decide +kernel
theorem bsq_u1 : ∀ i, i < 64 → bsq 0#64 (gu 64 i) = gZu (128 + 2 * i) := by decide +kernel
theorem gXn_add (m n : Nat) (v : gV) : gXn (m + n) v = gXn m (gXn n v) := by
  induction m with
  | zero => rw [Nat.zero_add]; rfl
  | succ m ih => rw [Nat.add_right_comm, gXn, ih]; rfl
theorem gJ_u0 : ∀ i, i < 64 → gJ (gu 64 i) 0#64 = gu 128 i := by decide +kernel
theorem gJ_u1 : ∀ i, i < 64 → gJ 0#64 (gu 64 i) = gu 128 (64 + i) := by decide +kernel
theorem gM_uu {i : Nat} (h : i < 128) : gM (gu 128 i) (gu 128 i) = gXn (i + i) g1 := by
  rw [gM_u h, gXn_add, gXn_u h]
theorem bsq_M (a b : BitVec 64) : bsq a b = gM (gJ a b) (gJ a b) := by
  have l0 : gLin (fun x => bsq x 0#64) := by
    intro x y
    have h := bsq_x x 0#64 y 0#64
    rwa [BitVec.xor_self] at h
  have l1 : gLin (fun x => bsq 0#64 x) := by
    intro x y
    have h := bsq_x 0#64 x 0#64 y
    rwa [BitVec.xor_self] at h
  have m0 : gLin (fun x => gM (gJ x 0#64) (gJ x 0#64)) := by
    intro x y
    have h := gQ_l 1 (gJ x 0#64) (gJ y 0#64)
    rw [gJ_x, BitVec.xor_self] at h
    exact h
  have m1 : gLin (fun x => gM (gJ 0#64 x) (gJ 0#64 x)) := by
    intro x y
    have h := gQ_l 1 (gJ 0#64 x) (gJ 0#64 y)
    rw [gJ_x, BitVec.xor_self] at h
    exact h
  have e1 : bsq a b = bsq a 0#64 ^^^ bsq 0#64 b := by
    rw [← bsq_x, BitVec.xor_zero, BitVec.zero_xor]
  have e2 : gM (gJ a b) (gJ a b) = gM (gJ a 0#64) (gJ a 0#64) ^^^ gM (gJ 0#64 b) (gJ 0#64 b) := by
    have h := gQ_l 1 (gJ a 0#64) (gJ 0#64 b)
    rw [gJ_x, BitVec.xor_zero, BitVec.zero_xor] at h
    exact h
  rw [e1, e2]
  refine bx2 ?_ ?_
  · refine gext2 l0 m0 (fun i hi => ?_) a
    show bsq (gu 64 i) 0#64 = gM (gJ (gu 64 i) 0#64) (gJ (gu 64 i) 0#64)
    rw [bsq_u0 i hi, gZu_n (by omega), gJ_u0 i hi, gM_uu (by omega), Nat.two_mul]
  · refine gext2 l1 m1 (fun i hi => ?_) b
    show bsq 0#64 (gu 64 i) = gM (gJ 0#64 (gu 64 i)) (gJ 0#64 (gu 64 i))
    rw [bsq_u1 i hi, gZu_n (by omega), gJ_u1 i hi, gM_uu (by omega), show 64 + i + (64 + i) = 128 + 2 * i by omega]
/-- GCMUtil.square is the square -/
theorem jsq_M (x0 x1 : Int64) : gJp (jsq x0 x1) = gM (gJp (x0, x1)) (gJp (x0, x1)) := by
  rw [jsq_b, bsq_M]
  rfl
end
section
/-! THE GENERATOR, squared 128 times, is itself (the steps are printed by gen/cycle.py) -/
theorem cy_0 : gQ 0 (gu 128 1) = gJp (4611686018427387904, 0) := by decide +kernel
theorem cq_0 : jsq 4611686018427387904 0 = (2305843009213693952, 0) := by decide +kernel
theorem cy_1 : gQ 1 (gu 128 1) = gJp (2305843009213693952, 0) := by rw [gQ, cy_0, ← jsq_M, cq_0]
theorem cq_1 : jsq 2305843009213693952 0 = (576460752303423488, 0) := by decide +kernel
theorem cy_2 : gQ 2 (gu 128 1) = gJp (576460752303423488, 0) := by rw [gQ, cy_1, ← jsq_M, cq_1]
theorem cq_2 : jsq 576460752303423488 0 = (36028797018963968, 0) := by decide +kernel
theorem cy_3 : gQ 3 (gu 128 1) = gJp (36028797018963968, 0) := by rw [gQ, cy_2, ← jsq_M, cq_2]
theorem cq_3 : jsq 36028797018963968 0 = (140737488355328, 0) := by decide +kernel
theorem cy_4 : gQ 4 (gu 128 1) = gJp (140737488355328, 0) := by rw [gQ, cy_3, ← jsq_M, cq_3]
theorem cq_4 : jsq 140737488355328 0 = (2147483648, 0) := by decide +kernel
theorem cy_5 : gQ 5 (gu 128 1) = gJp (2147483648, 0) := by rw [gQ, cy_4, ← jsq_M, cq_4]
theorem cq_5 : jsq 2147483648 0 = (0, (-9223372036854775808)) := by decide +kernel
theorem cy_6 : gQ 6 (gu 128 1) = gJp (0, (-9223372036854775808)) := by rw [gQ, cy_5, ← jsq_M, cq_5]
theorem cq_6 : jsq 0 (-9223372036854775808) = ((-2233785415175766016), 0) := by decide +kernel
theorem cy_7 : gQ 7 (gu 128 1) = gJp ((-2233785415175766016), 0) := by rw [gQ, cy_6, ← jsq_M, cq_6]
theorem cq_7 : jsq (-2233785415175766016) 0 = ((-6340505325384237056), 0) := by decide +kernel
theorem cy_8 : gQ 8 (gu 128 1) = gJp ((-6340505325384237056), 0) := by rw [gQ, cy_7, ← jsq_M, cq_7]
theorem cq_8 : jsq (-6340505325384237056) 0 = ((-8610882453172649984), 0) := by decide +kernel
theorem cy_9 : gQ 9 (gu 128 1) = gJp ((-8610882453172649984), 0) := by rw [gQ, cy_8, ← jsq_M, cq_8]
theorem cq_9 : jsq (-8610882453172649984) 0 = ((-9187202502347456384), 0) := by decide +kernel
theorem cy_10 : gQ 10 (gu 128 1) = gJp ((-9187202502347456384), 0) := by rw [gQ, cy_9, ← jsq_M, cq_9]
theorem cq_10 : jsq (-9187202502347456384) 0 = ((-9223231297218936832), 32768) := by decide +kernel
theorem cy_11 : gQ 11 (gu 128 1) = gJp ((-9223231297218936832), 32768) := by rw [gQ, cy_10, ← jsq_M, cq_10]
theorem cq_11 : jsq (-9223231297218936832) 32768 = ((-9223372034707292160), (-9223372033079902208)) := by decide +kernel
theorem cy_12 : gQ 12 (gu 128 1) = gJp ((-9223372034707292160), (-9223372033079902208)) := by rw [gQ, cy_11, ← jsq_M, cq_11]
theorem cq_12 : jsq (-9223372034707292160) (-9223372033079902208) = (6989586621679009792, 6292518239901581312) := by decide +kernel
theorem cy_13 : gQ 13 (gu 128 1) = gJp (6989586621679009792, 6292518239901581312) := by rw [gQ, cy_12, ← jsq_M, cq_12]
theorem cq_13 : jsq 6989586621679009792 6292518239901581312 = (1437756354595405824, 0) := by decide +kernel
theorem cy_14 : gQ 14 (gu 128 1) = gJp (1437756354595405824, 0) := by rw [gQ, cy_13, ← jsq_M, cq_13]
theorem cq_14 : jsq 1437756354595405824 0 = (147116900599111810, 3036000644210098176) := by decide +kernel
theorem cy_15 : gQ 15 (gu 128 1) = gJp (147116900599111810, 3036000644210098176) := by rw [gQ, cy_14, ← jsq_M, cq_14]
theorem cq_15 : jsq 147116900599111810 3036000644210098176 = (1078364267929399688, (-8750343956002209784)) := by decide +kernel
theorem cy_16 : gQ 16 (gu 128 1) = gJp (1078364267929399688, (-8750343956002209784)) := by rw [gQ, cy_15, ← jsq_M, cq_15]
theorem cq_16 : jsq 1078364267929399688 (-8750343956002209784) = ((-2189285229438868535), 7161049044607991905) := by decide +kernel
theorem cy_17 : gQ 17 (gu 128 1) = gJp ((-2189285229438868535), 7161049044607991905) := by rw [gQ, cy_16, ← jsq_M, cq_16]
theorem cq_17 : jsq (-2189285229438868535) 7161049044607991905 = (8671435872223200855, (-9176448673691035951)) := by decide +kernel
theorem cy_18 : gQ 18 (gu 128 1) = gJp (8671435872223200855, (-9176448673691035951)) := by rw [gQ, cy_17, ← jsq_M, cq_17]
theorem cq_18 : jsq 8671435872223200855 (-9176448673691035951) = (3281097782993881939, 1920414625973315821) := by decide +kernel
theorem cy_19 : gQ 19 (gu 128 1) = gJp (3281097782993881939, 1920414625973315821) := by rw [gQ, cy_18, ← jsq_M, cq_18]
theorem cq_19 : jsq 3281097782993881939 1920414625973315821 = ((-7115265584800626902), 8933587827426063744) := by decide +kernel
theorem cy_20 : gQ 20 (gu 128 1) = gJp ((-7115265584800626902), 8933587827426063744) := by rw [gQ, cy_19, ← jsq_M, cq_19]
theorem cq_20 : jsq (-7115265584800626902) 8933587827426063744 = ((-5216751420164718204), 4803873069284535688) := by decide +kernel
theorem cy_21 : gQ 21 (gu 128 1) = gJp ((-5216751420164718204), 4803873069284535688) := by rw [gQ, cy_20, ← jsq_M, cq_20]
theorem cq_21 : jsq (-5216751420164718204) 4803873069284535688 = ((-5592206883447206423), (-3897201948347554367)) := by decide +kernel
theorem cy_22 : gQ 22 (gu 128 1) = gJp ((-5592206883447206423), (-3897201948347554367)) := by rw [gQ, cy_21, ← jsq_M, cq_21]
theorem cq_22 : jsq (-5592206883447206423) (-3897201948347554367) = ((-5358584683761595620), (-307017003614751295)) := by decide +kernel
theorem cy_23 : gQ 23 (gu 128 1) = gJp ((-5358584683761595620), (-307017003614751295)) := by rw [gQ, cy_22, ← jsq_M, cq_22]
theorem cq_23 : jsq (-5358584683761595620) (-307017003614751295) = ((-5182816034108085928), (-5582575217313243165)) := by decide +kernel
theorem cy_24 : gQ 24 (gu 128 1) = gJp ((-5182816034108085928), (-5582575217313243165)) := by rw [gQ, cy_23, ← jsq_M, cq_23]
theorem cq_24 : jsq (-5182816034108085928) (-5582575217313243165) = ((-7191418206963117417), 7321074712016200157) := by decide +kernel
theorem cy_25 : gQ 25 (gu 128 1) = gJp ((-7191418206963117417), 7321074712016200157) := by rw [gQ, cy_24, ← jsq_M, cq_24]
theorem cq_25 : jsq (-7191418206963117417) 7321074712016200157 = (2468865874938672474, (-5716046077009077196)) := by decide +kernel
theorem cy_26 : gQ 26 (gu 128 1) = gJp (2468865874938672474, (-5716046077009077196)) := by rw [gQ, cy_25, ← jsq_M, cq_25]
theorem cq_26 : jsq 2468865874938672474 (-5716046077009077196) = ((-7774110417477546248), 5498864130058055460) := by decide +kernel
theorem cy_27 : gQ 27 (gu 128 1) = gJp ((-7774110417477546248), 5498864130058055460) := by rw [gQ, cy_26, ← jsq_M, cq_26]
theorem cq_27 : jsq (-7774110417477546248) 5498864130058055460 = ((-3874931637867778651), 4754340405484220584) := by decide +kernel
theorem cy_28 : gQ 28 (gu 128 1) = gJp ((-3874931637867778651), 4754340405484220584) := by rw [gQ, cy_27, ← jsq_M, cq_27]
theorem cq_28 : jsq (-3874931637867778651) 4754340405484220584 = ((-7436750605246469999), 5856004306254587859) := by decide +kernel
theorem cy_29 : gQ 29 (gu 128 1) = gJp ((-7436750605246469999), 5856004306254587859) := by rw [gQ, cy_28, ← jsq_M, cq_28]
theorem cq_29 : jsq (-7436750605246469999) 5856004306254587859 = (4859134351048449503, (-1867600477187371829)) := by decide +kernel
theorem cy_30 : gQ 30 (gu 128 1) = gJp (4859134351048449503, (-1867600477187371829)) := by rw [gQ, cy_29, ← jsq_M, cq_29]
theorem cq_30 : jsq 4859134351048449503 (-1867600477187371829) = (956024357853398598, 5278094841249217286) := by decide +kernel
theorem cy_31 : gQ 31 (gu 128 1) = gJp (956024357853398598, 5278094841249217286) := by rw [gQ, cy_30, ← jsq_M, cq_30]
theorem cq_31 : jsq 956024357853398598 5278094841249217286 = (6098060125767921284, 1733265433904067614) := by decide +kernel
theorem cy_32 : gQ 32 (gu 128 1) = gJp (6098060125767921284, 1733265433904067614) := by rw [gQ, cy_31, ← jsq_M, cq_31]
theorem cq_32 : jsq 6098060125767921284 1733265433904067614 = (5613042982974279803, (-1095327521034681485)) := by decide +kernel
theorem cy_33 : gQ 33 (gu 128 1) = gJp (5613042982974279803, (-1095327521034681485)) := by rw [gQ, cy_32, ← jsq_M, cq_32]
theorem cq_33 : jsq 5613042982974279803 (-1095327521034681485) = (1035390012899610625, (-406933029868696749)) := by decide +kernel
theorem cy_34 : gQ 34 (gu 128 1) = gJp (1035390012899610625, (-406933029868696749)) := by rw [gQ, cy_33, ← jsq_M, cq_33]
theorem cq_34 : jsq 1035390012899610625 (-406933029868696749) = (3367295604679206926, (-1986071827626283061)) := by decide +kernel
theorem cy_35 : gQ 35 (gu 128 1) = gJp (3367295604679206926, (-1986071827626283061)) := by rw [gQ, cy_34, ← jsq_M, cq_34]
theorem cq_35 : jsq 3367295604679206926 (-1986071827626283061) = (2731713953197841808, 1170244875212557572) := by decide +kernel
theorem cy_36 : gQ 36 (gu 128 1) = gJp (2731713953197841808, 1170244875212557572) := by rw [gQ, cy_35, ← jsq_M, cq_35]
theorem cq_36 : jsq 2731713953197841808 1170244875212557572 = (8873962422365738917, 8445883565945144888) := by decide +kernel
theorem cy_37 : gQ 37 (gu 128 1) = gJp (8873962422365738917, 8445883565945144888) := by rw [gQ, cy_36, ← jsq_M, cq_36]
theorem cq_37 : jsq 8873962422365738917 8445883565945144888 = (2262427175900007299, 5184774693564765527) := by decide +kernel
theorem cy_38 : gQ 38 (gu 128 1) = gJp (2262427175900007299, 5184774693564765527) := by rw [gQ, cy_37, ← jsq_M, cq_37]
theorem cq_38 : jsq 2262427175900007299 5184774693564765527 = ((-5731067131815442572), 4992698954852696059) := by decide +kernel
theorem cy_39 : gQ 39 (gu 128 1) = gJp ((-5731067131815442572), 4992698954852696059) := by rw [gQ, cy_38, ← jsq_M, cq_38]
theorem cq_39 : jsq (-5731067131815442572) 4992698954852696059 = (5211745075072281064, 8177181697128409624) := by decide +kernel
theorem cy_40 : gQ 40 (gu 128 1) = gJp (5211745075072281064, 8177181697128409624) := by rw [gQ, cy_39, ← jsq_M, cq_39]
theorem cq_40 : jsq 5211745075072281064 8177181697128409624 = (1537859641682977290, 3948822297011141605) := by decide +kernel
theorem cy_41 : gQ 41 (gu 128 1) = gJp (1537859641682977290, 3948822297011141605) := by rw [gQ, cy_40, ← jsq_M, cq_40]
theorem cq_41 : jsq 1537859641682977290 3948822297011141605 = ((-7419491612500435225), (-3660637399883430941)) := by decide +kernel
theorem cy_42 : gQ 42 (gu 128 1) = gJp ((-7419491612500435225), (-3660637399883430941)) := by rw [gQ, cy_41, ← jsq_M, cq_41]
theorem cq_42 : jsq (-7419491612500435225) (-3660637399883430941) = ((-6831739520123100729), 8081882560967601015) := by decide +kernel
theorem cy_43 : gQ 43 (gu 128 1) = gJp ((-6831739520123100729), 8081882560967601015) := by rw [gQ, cy_42, ← jsq_M, cq_42]
theorem cq_43 : jsq (-6831739520123100729) 8081882560967601015 = (3998638953406987675, (-7896563405652360757)) := by decide +kernel
theorem cy_44 : gQ 44 (gu 128 1) = gJp (3998638953406987675, (-7896563405652360757)) := by rw [gQ, cy_43, ← jsq_M, cq_43]
theorem cq_44 : jsq 3998638953406987675 (-7896563405652360757) = (1335330596890302654, 6224215357723369254) := by decide +kernel
theorem cy_45 : gQ 45 (gu 128 1) = gJp (1335330596890302654, 6224215357723369254) := by rw [gQ, cy_44, ← jsq_M, cq_44]
theorem cq_45 : jsq 1335330596890302654 6224215357723369254 = (6150482025822012885, 7104953538443235470) := by decide +kernel
theorem cy_46 : gQ 46 (gu 128 1) = gJp (6150482025822012885, 7104953538443235470) := by rw [gQ, cy_45, ← jsq_M, cq_45]
theorem cq_46 : jsq 6150482025822012885 7104953538443235470 = (8709065504179258470, 1406567904763593717) := by decide +kernel
theorem cy_47 : gQ 47 (gu 128 1) = gJp (8709065504179258470, 1406567904763593717) := by rw [gQ, cy_46, ← jsq_M, cq_46]
theorem cq_47 : jsq 8709065504179258470 1406567904763593717 = ((-4647196278002894721), 1747477258675513543) := by decide +kernel
theorem cy_48 : gQ 48 (gu 128 1) = gJp ((-4647196278002894721), 1747477258675513543) := by rw [gQ, cy_47, ← jsq_M, cq_47]
theorem cq_48 : jsq (-4647196278002894721) 1747477258675513543 = (245367300914953757, (-5822815520563268641)) := by decide +kernel
theorem cy_49 : gQ 49 (gu 128 1) = gJp (245367300914953757, (-5822815520563268641)) := by rw [gQ, cy_48, ← jsq_M, cq_48]
theorem cq_49 : jsq 245367300914953757 (-5822815520563268641) = (7306793239559564822, (-6359771967336133454)) := by decide +kernel
theorem cy_50 : gQ 50 (gu 128 1) = gJp (7306793239559564822, (-6359771967336133454)) := by rw [gQ, cy_49, ← jsq_M, cq_49]
theorem cq_50 : jsq 7306793239559564822 (-6359771967336133454) = ((-2655135422625592045), (-1215640432802681166)) := by decide +kernel
theorem cy_51 : gQ 51 (gu 128 1) = gJp ((-2655135422625592045), (-1215640432802681166)) := by rw [gQ, cy_50, ← jsq_M, cq_50]
theorem cq_51 : jsq (-2655135422625592045) (-1215640432802681166) = (7579226367461087689, (-5325806625990787440)) := by decide +kernel
theorem cy_52 : gQ 52 (gu 128 1) = gJp (7579226367461087689, (-5325806625990787440)) := by rw [gQ, cy_51, ← jsq_M, cq_51]
theorem cq_52 : jsq 7579226367461087689 (-5325806625990787440) = ((-4314348275163669197), 7794608231380226566) := by decide +kernel
theorem cy_53 : gQ 53 (gu 128 1) = gJp ((-4314348275163669197), 7794608231380226566) := by rw [gQ, cy_52, ← jsq_M, cq_52]
theorem cq_53 : jsq (-4314348275163669197) 7794608231380226566 = ((-429734458681932331), 9064982864896465468) := by decide +kernel
theorem cy_54 : gQ 54 (gu 128 1) = gJp ((-429734458681932331), 9064982864896465468) := by rw [gQ, cy_53, ← jsq_M, cq_53]
theorem cq_54 : jsq (-429734458681932331) 9064982864896465468 = ((-1223258256167996449), (-5610558446525366417)) := by decide +kernel
theorem cy_55 : gQ 55 (gu 128 1) = gJp ((-1223258256167996449), (-5610558446525366417)) := by rw [gQ, cy_54, ← jsq_M, cq_54]
theorem cq_55 : jsq (-1223258256167996449) (-5610558446525366417) = ((-3560062289534138297), (-3909920339327827922)) := by decide +kernel
theorem cy_56 : gQ 56 (gu 128 1) = gJp ((-3560062289534138297), (-3909920339327827922)) := by rw [gQ, cy_55, ← jsq_M, cq_55]
theorem cq_56 : jsq (-3560062289534138297) (-3909920339327827922) = (1561318394683278557, 4748526895702748909) := by decide +kernel
theorem cy_57 : gQ 57 (gu 128 1) = gJp (1561318394683278557, 4748526895702748909) := by rw [gQ, cy_56, ← jsq_M, cq_56]
theorem cq_57 : jsq 1561318394683278557 4748526895702748909 = ((-5987012410228498318), (-8835515727367166680)) := by decide +kernel
theorem cy_58 : gQ 58 (gu 128 1) = gJp ((-5987012410228498318), (-8835515727367166680)) := by rw [gQ, cy_57, ← jsq_M, cq_57]
theorem cq_58 : jsq (-5987012410228498318) (-8835515727367166680) = (7609775853133436134, (-5408913418421018375)) := by decide +kernel
theorem cy_59 : gQ 59 (gu 128 1) = gJp (7609775853133436134, (-5408913418421018375)) := by rw [gQ, cy_58, ← jsq_M, cq_58]
theorem cq_59 : jsq 7609775853133436134 (-5408913418421018375) = (2460677396702081383, 5026646509621378078) := by decide +kernel
theorem cy_60 : gQ 60 (gu 128 1) = gJp (2460677396702081383, 5026646509621378078) := by rw [gQ, cy_59, ← jsq_M, cq_59]
theorem cq_60 : jsq 2460677396702081383 5026646509621378078 = (6688713399933565883, 7692590015809809273) := by decide +kernel
theorem cy_61 : gQ 61 (gu 128 1) = gJp (6688713399933565883, 7692590015809809273) := by rw [gQ, cy_60, ← jsq_M, cq_60]
theorem cq_61 : jsq 6688713399933565883 7692590015809809273 = ((-1002214429101296075), (-5842579945104725060)) := by decide +kernel
theorem cy_62 : gQ 62 (gu 128 1) = gJp ((-1002214429101296075), (-5842579945104725060)) := by rw [gQ, cy_61, ← jsq_M, cq_61]
theorem cq_62 : jsq (-1002214429101296075) (-5842579945104725060) = (3841435886135235969, (-6809014374845091217)) := by decide +kernel
theorem cy_63 : gQ 63 (gu 128 1) = gJp (3841435886135235969, (-6809014374845091217)) := by rw [gQ, cy_62, ← jsq_M, cq_62]
theorem cq_63 : jsq 3841435886135235969 (-6809014374845091217) = (8041535205642184482, (-7112280203623618938)) := by decide +kernel
theorem cy_64 : gQ 64 (gu 128 1) = gJp (8041535205642184482, (-7112280203623618938)) := by rw [gQ, cy_63, ← jsq_M, cq_63]
theorem cq_64 : jsq 8041535205642184482 (-7112280203623618938) = ((-6461400909274856848), (-4336119029496497858)) := by decide +kernel
theorem cy_65 : gQ 65 (gu 128 1) = gJp ((-6461400909274856848), (-4336119029496497858)) := by rw [gQ, cy_64, ← jsq_M, cq_64]
theorem cq_65 : jsq (-6461400909274856848) (-4336119029496497858) = (4451083557907398187, (-3859597681596914877)) := by decide +kernel
theorem cy_66 : gQ 66 (gu 128 1) = gJp (4451083557907398187, (-3859597681596914877)) := by rw [gQ, cy_65, ← jsq_M, cq_65]
theorem cq_66 : jsq 4451083557907398187 (-3859597681596914877) = (2964923977892156330, (-39972560179977017)) := by decide +kernel
theorem cy_67 : gQ 67 (gu 128 1) = gJp (2964923977892156330, (-39972560179977017)) := by rw [gQ, cy_66, ← jsq_M, cq_66]
theorem cq_67 : jsq 2964923977892156330 (-39972560179977017) = (6209032278252077780, (-6971844835327995395)) := by decide +kernel
theorem cy_68 : gQ 68 (gu 128 1) = gJp (6209032278252077780, (-6971844835327995395)) := by rw [gQ, cy_67, ← jsq_M, cq_67]
theorem cq_68 : jsq 6209032278252077780 (-6971844835327995395) = (6264737740682930934, (-7502290859940908498)) := by decide +kernel
theorem cy_69 : gQ 69 (gu 128 1) = gJp (6264737740682930934, (-7502290859940908498)) := by rw [gQ, cy_68, ← jsq_M, cq_68]
theorem cq_69 : jsq 6264737740682930934 (-7502290859940908498) = ((-6036607602928075486), 8591000974537176303) := by decide +kernel
theorem cy_70 : gQ 70 (gu 128 1) = gJp ((-6036607602928075486), 8591000974537176303) := by rw [gQ, cy_69, ← jsq_M, cq_69]
theorem cq_70 : jsq (-6036607602928075486) 8591000974537176303 = (4028984387518086331, (-7788065802173898868)) := by decide +kernel
theorem cy_71 : gQ 71 (gu 128 1) = gJp (4028984387518086331, (-7788065802173898868)) := by rw [gQ, cy_70, ← jsq_M, cq_70]
theorem cq_71 : jsq 4028984387518086331 (-7788065802173898868) = ((-7483879503241803617), 3443233326770470739) := by decide +kernel
theorem cy_72 : gQ 72 (gu 128 1) = gJp ((-7483879503241803617), 3443233326770470739) := by rw [gQ, cy_71, ← jsq_M, cq_71]
theorem cq_72 : jsq (-7483879503241803617) 3443233326770470739 = (8533201627874602825, 3674936045775908195) := by decide +kernel
theorem cy_73 : gQ 73 (gu 128 1) = gJp (8533201627874602825, 3674936045775908195) := by rw [gQ, cy_72, ← jsq_M, cq_72]
theorem cq_73 : jsq 8533201627874602825 3674936045775908195 = ((-2478408472972950889), (-4791344842974113057)) := by decide +kernel
theorem cy_74 : gQ 74 (gu 128 1) = gJp ((-2478408472972950889), (-4791344842974113057)) := by rw [gQ, cy_73, ← jsq_M, cq_73]
theorem cq_74 : jsq (-2478408472972950889) (-4791344842974113057) = ((-4304131125181795264), 955702184912242746) := by decide +kernel
theorem cy_75 : gQ 75 (gu 128 1) = gJp ((-4304131125181795264), 955702184912242746) := by rw [gQ, cy_74, ← jsq_M, cq_74]
theorem cq_75 : jsq (-4304131125181795264) 955702184912242746 = ((-4838312488278109440), 7650326478428646779) := by decide +kernel
theorem cy_76 : gQ 76 (gu 128 1) = gJp ((-4838312488278109440), 7650326478428646779) := by rw [gQ, cy_75, ← jsq_M, cq_75]
theorem cq_76 : jsq (-4838312488278109440) 7650326478428646779 = (5059719912778140356, 6211681608840311096) := by decide +kernel
theorem cy_77 : gQ 77 (gu 128 1) = gJp (5059719912778140356, 6211681608840311096) := by rw [gQ, cy_76, ← jsq_M, cq_76]
theorem cq_77 : jsq 5059719912778140356 6211681608840311096 = (2007012821034426157, (-7281797365946701483)) := by decide +kernel
theorem cy_78 : gQ 78 (gu 128 1) = gJp (2007012821034426157, (-7281797365946701483)) := by rw [gQ, cy_77, ← jsq_M, cq_77]
theorem cq_78 : jsq 2007012821034426157 (-7281797365946701483) = (8532463529318597496, (-7926806403428599971)) := by decide +kernel
theorem cy_79 : gQ 79 (gu 128 1) = gJp (8532463529318597496, (-7926806403428599971)) := by rw [gQ, cy_78, ← jsq_M, cq_78]
theorem cq_79 : jsq 8532463529318597496 (-7926806403428599971) = (6784523860241896480, (-1255031855406922338)) := by decide +kernel
theorem cy_80 : gQ 80 (gu 128 1) = gJp (6784523860241896480, (-1255031855406922338)) := by rw [gQ, cy_79, ← jsq_M, cq_79]
theorem cq_80 : jsq 6784523860241896480 (-1255031855406922338) = ((-7381476111299372344), (-2552687774417605037)) := by decide +kernel
theorem cy_81 : gQ 81 (gu 128 1) = gJp ((-7381476111299372344), (-2552687774417605037)) := by rw [gQ, cy_80, ← jsq_M, cq_80]
theorem cq_81 : jsq (-7381476111299372344) (-2552687774417605037) = ((-6721866384592240095), (-3562833664791295159)) := by decide +kernel
theorem cy_82 : gQ 82 (gu 128 1) = gJp ((-6721866384592240095), (-3562833664791295159)) := by rw [gQ, cy_81, ← jsq_M, cq_81]
theorem cq_82 : jsq (-6721866384592240095) (-3562833664791295159) = ((-5217635683854507013), (-2247944691613653856)) := by decide +kernel
theorem cy_83 : gQ 83 (gu 128 1) = gJp ((-5217635683854507013), (-2247944691613653856)) := by rw [gQ, cy_82, ← jsq_M, cq_82]
theorem cq_83 : jsq (-5217635683854507013) (-2247944691613653856) = (6735797004729890560, (-7360569392639113830)) := by decide +kernel
theorem cy_84 : gQ 84 (gu 128 1) = gJp (6735797004729890560, (-7360569392639113830)) := by rw [gQ, cy_83, ← jsq_M, cq_83]
theorem cq_84 : jsq 6735797004729890560 (-7360569392639113830) = ((-2529768846399045602), (-635614346443938197)) := by decide +kernel
theorem cy_85 : gQ 85 (gu 128 1) = gJp ((-2529768846399045602), (-635614346443938197)) := by rw [gQ, cy_84, ← jsq_M, cq_84]
theorem cq_85 : jsq (-2529768846399045602) (-635614346443938197) = ((-8328999685624329383), (-5160119096034565100)) := by decide +kernel
theorem cy_86 : gQ 86 (gu 128 1) = gJp ((-8328999685624329383), (-5160119096034565100)) := by rw [gQ, cy_85, ← jsq_M, cq_85]
theorem cq_86 : jsq (-8328999685624329383) (-5160119096034565100) = (2041571950760901811, 3445005246364016958) := by decide +kernel
theorem cy_87 : gQ 87 (gu 128 1) = gJp (2041571950760901811, 3445005246364016958) := by rw [gQ, cy_86, ← jsq_M, cq_86]
theorem cq_87 : jsq 2041571950760901811 3445005246364016958 = (6972750585396982418, (-5348579414983376055)) := by decide +kernel
theorem cy_88 : gQ 88 (gu 128 1) = gJp (6972750585396982418, (-5348579414983376055)) := by rw [gQ, cy_87, ← jsq_M, cq_87]
theorem cq_88 : jsq 6972750585396982418 (-5348579414983376055) = (2497172696951907637, (-1374936733987819862)) := by decide +kernel
theorem cy_89 : gQ 89 (gu 128 1) = gJp (2497172696951907637, (-1374936733987819862)) := by rw [gQ, cy_88, ← jsq_M, cq_88]
theorem cq_89 : jsq 2497172696951907637 (-1374936733987819862) = ((-4350161035624101407), (-4916854844139653667)) := by decide +kernel
theorem cy_90 : gQ 90 (gu 128 1) = gJp ((-4350161035624101407), (-4916854844139653667)) := by rw [gQ, cy_89, ← jsq_M, cq_89]
theorem cq_90 : jsq (-4350161035624101407) (-4916854844139653667) = ((-2667602884889120593), 5860431512015320604) := by decide +kernel
theorem cy_91 : gQ 91 (gu 128 1) = gJp ((-2667602884889120593), 5860431512015320604) := by rw [gQ, cy_90, ← jsq_M, cq_90]
theorem cq_91 : jsq (-2667602884889120593) 5860431512015320604 = ((-1599035751131594216), (-6610960128933700617)) := by decide +kernel
theorem cy_92 : gQ 92 (gu 128 1) = gJp ((-1599035751131594216), (-6610960128933700617)) := by rw [gQ, cy_91, ← jsq_M, cq_91]
theorem cq_92 : jsq (-1599035751131594216) (-6610960128933700617) = ((-3674135848459918449), (-5609665210250935711)) := by decide +kernel
theorem cy_93 : gQ 93 (gu 128 1) = gJp ((-3674135848459918449), (-5609665210250935711)) := by rw [gQ, cy_92, ← jsq_M, cq_92]
theorem cq_93 : jsq (-3674135848459918449) (-5609665210250935711) = ((-6183409102117310176), (-1855731326988802311)) := by decide +kernel
theorem cy_94 : gQ 94 (gu 128 1) = gJp ((-6183409102117310176), (-1855731326988802311)) := by rw [gQ, cy_93, ← jsq_M, cq_93]
theorem cq_94 : jsq (-6183409102117310176) (-1855731326988802311) = ((-5051253996069890756), 5529875510863367222) := by decide +kernel
theorem cy_95 : gQ 95 (gu 128 1) = gJp ((-5051253996069890756), 5529875510863367222) := by rw [gQ, cy_94, ← jsq_M, cq_94]
theorem cq_95 : jsq (-5051253996069890756) 5529875510863367222 = ((-2397317517129411269), 5987923430681036546) := by decide +kernel
theorem cy_96 : gQ 96 (gu 128 1) = gJp ((-2397317517129411269), 5987923430681036546) := by rw [gQ, cy_95, ← jsq_M, cq_95]
theorem cq_96 : jsq (-2397317517129411269) 5987923430681036546 = ((-8844755290735720556), (-2661688331026833788)) := by decide +kernel
theorem cy_97 : gQ 97 (gu 128 1) = gJp ((-8844755290735720556), (-2661688331026833788)) := by rw [gQ, cy_96, ← jsq_M, cq_96]
theorem cq_97 : jsq (-8844755290735720556) (-2661688331026833788) = (3065461327846918692, 7336154824275735320) := by decide +kernel
theorem cy_98 : gQ 98 (gu 128 1) = gJp (3065461327846918692, 7336154824275735320) := by rw [gQ, cy_97, ← jsq_M, cq_97]
theorem cq_98 : jsq 3065461327846918692 7336154824275735320 = (4531638395367322367, 7740946124513582917) := by decide +kernel
theorem cy_99 : gQ 99 (gu 128 1) = gJp (4531638395367322367, 7740946124513582917) := by rw [gQ, cy_98, ← jsq_M, cq_98]
theorem cq_99 : jsq 4531638395367322367 7740946124513582917 = ((-6153031443913313363), (-8657414310112770351)) := by decide +kernel
theorem cy_100 : gQ 100 (gu 128 1) = gJp ((-6153031443913313363), (-8657414310112770351)) := by rw [gQ, cy_99, ← jsq_M, cq_99]
theorem cq_100 : jsq (-6153031443913313363) (-8657414310112770351) = ((-8091406622589667878), 3980040251702510181) := by decide +kernel
theorem cy_101 : gQ 101 (gu 128 1) = gJp ((-8091406622589667878), 3980040251702510181) := by rw [gQ, cy_100, ← jsq_M, cq_100]
theorem cq_101 : jsq (-8091406622589667878) 3980040251702510181 = (1982519910214395313, (-8349667465165503261)) := by decide +kernel
theorem cy_102 : gQ 102 (gu 128 1) = gJp (1982519910214395313, (-8349667465165503261)) := by rw [gQ, cy_101, ← jsq_M, cq_101]
theorem cq_102 : jsq 1982519910214395313 (-8349667465165503261) = (1836287884721719618, (-4778542529901879969)) := by decide +kernel
theorem cy_103 : gQ 103 (gu 128 1) = gJp (1836287884721719618, (-4778542529901879969)) := by rw [gQ, cy_102, ← jsq_M, cq_102]
theorem cq_103 : jsq 1836287884721719618 (-4778542529901879969) = (7233908338013279701, (-7139738776798175464)) := by decide +kernel
theorem cy_104 : gQ 104 (gu 128 1) = gJp (7233908338013279701, (-7139738776798175464)) := by rw [gQ, cy_103, ← jsq_M, cq_103]
theorem cq_104 : jsq 7233908338013279701 (-7139738776798175464) = ((-3855715012281052646), (-5977598056098269881)) := by decide +kernel
theorem cy_105 : gQ 105 (gu 128 1) = gJp ((-3855715012281052646), (-5977598056098269881)) := by rw [gQ, cy_104, ← jsq_M, cq_104]
theorem cq_105 : jsq (-3855715012281052646) (-5977598056098269881) = ((-4185270884271005724), 7883462201219481341) := by decide +kernel
theorem cy_106 : gQ 106 (gu 128 1) = gJp ((-4185270884271005724), 7883462201219481341) := by rw [gQ, cy_105, ← jsq_M, cq_105]
theorem cq_106 : jsq (-4185270884271005724) 7883462201219481341 = (9107175681882051, (-496229630908748754)) := by decide +kernel
theorem cy_107 : gQ 107 (gu 128 1) = gJp (9107175681882051, (-496229630908748754)) := by rw [gQ, cy_106, ← jsq_M, cq_106]
theorem cq_107 : jsq 9107175681882051 (-496229630908748754) = ((-5145767886468745769), (-5110222929419571507)) := by decide +kernel
theorem cy_108 : gQ 108 (gu 128 1) = gJp ((-5145767886468745769), (-5110222929419571507)) := by rw [gQ, cy_107, ← jsq_M, cq_107]
theorem cq_108 : jsq (-5145767886468745769) (-5110222929419571507) = ((-1117449523885781662), (-5316218065897837648)) := by decide +kernel
theorem cy_109 : gQ 109 (gu 128 1) = gJp ((-1117449523885781662), (-5316218065897837648)) := by rw [gQ, cy_108, ← jsq_M, cq_108]
theorem cq_109 : jsq (-1117449523885781662) (-5316218065897837648) = (5089762323512593631, 1241385604917121180) := by decide +kernel
theorem cy_110 : gQ 110 (gu 128 1) = gJp (5089762323512593631, 1241385604917121180) := by rw [gQ, cy_109, ← jsq_M, cq_109]
theorem cq_110 : jsq 5089762323512593631 1241385604917121180 = (5994011222528805297, 1197714628724146423) := by decide +kernel
theorem cy_111 : gQ 111 (gu 128 1) = gJp (5994011222528805297, 1197714628724146423) := by rw [gQ, cy_110, ← jsq_M, cq_110]
theorem cq_111 : jsq 5994011222528805297 1197714628724146423 = ((-6113941080986632862), 4878562679813463779) := by decide +kernel
theorem cy_112 : gQ 112 (gu 128 1) = gJp ((-6113941080986632862), 4878562679813463779) := by rw [gQ, cy_111, ← jsq_M, cq_111]
theorem cq_112 : jsq (-6113941080986632862) 4878562679813463779 = (5399658194347126073, 8695848230534098773) := by decide +kernel
theorem cy_113 : gQ 113 (gu 128 1) = gJp (5399658194347126073, 8695848230534098773) := by rw [gQ, cy_112, ← jsq_M, cq_112]
theorem cq_113 : jsq 5399658194347126073 8695848230534098773 = ((-8992202602457808056), 521268289081894269) := by decide +kernel
theorem cy_114 : gQ 114 (gu 128 1) = gJp ((-8992202602457808056), 521268289081894269) := by rw [gQ, cy_113, ← jsq_M, cq_113]
theorem cq_114 : jsq (-8992202602457808056) 521268289081894269 = (1637009374743745600, (-1842628767044742770)) := by decide +kernel
theorem cy_115 : gQ 115 (gu 128 1) = gJp (1637009374743745600, (-1842628767044742770)) := by rw [gQ, cy_114, ← jsq_M, cq_114]
theorem cq_115 : jsq 1637009374743745600 (-1842628767044742770) = ((-5048837957982231058), 8516131463071483351) := by decide +kernel
theorem cy_116 : gQ 116 (gu 128 1) = gJp ((-5048837957982231058), 8516131463071483351) := by rw [gQ, cy_115, ← jsq_M, cq_115]
theorem cq_116 : jsq (-5048837957982231058) 8516131463071483351 = (3875618424326503895, (-3418446215852214695)) := by decide +kernel
theorem cy_117 : gQ 117 (gu 128 1) = gJp (3875618424326503895, (-3418446215852214695)) := by rw [gQ, cy_116, ← jsq_M, cq_116]
theorem cq_117 : jsq 3875618424326503895 (-3418446215852214695) = (3958172953474421973, (-3679210930631030516)) := by decide +kernel
theorem cy_118 : gQ 118 (gu 128 1) = gJp (3958172953474421973, (-3679210930631030516)) := by rw [gQ, cy_117, ← jsq_M, cq_117]
theorem cq_118 : jsq 3958172953474421973 (-3679210930631030516) = ((-6687497464187607034), (-5957074660582349061)) := by decide +kernel
theorem cy_119 : gQ 119 (gu 128 1) = gJp ((-6687497464187607034), (-5957074660582349061)) := by rw [gQ, cy_118, ← jsq_M, cq_118]
theorem cq_119 : jsq (-6687497464187607034) (-5957074660582349061) = ((-7068129142682344367), (-6939812638295161840)) := by decide +kernel
theorem cy_120 : gQ 120 (gu 128 1) = gJp ((-7068129142682344367), (-6939812638295161840)) := by rw [gQ, cy_119, ← jsq_M, cq_119]
theorem cq_120 : jsq (-7068129142682344367) (-6939812638295161840) = (6985804389472362593, (-9036440746196442746)) := by decide +kernel
theorem cy_121 : gQ 121 (gu 128 1) = gJp (6985804389472362593, (-9036440746196442746)) := by rw [gQ, cy_120, ← jsq_M, cq_120]
theorem cq_121 : jsq 6985804389472362593 (-9036440746196442746) = ((-6508167184158636520), (-8757770888237855436)) := by decide +kernel
theorem cy_122 : gQ 122 (gu 128 1) = gJp ((-6508167184158636520), (-8757770888237855436)) := by rw [gQ, cy_121, ← jsq_M, cq_121]
theorem cq_122 : jsq (-6508167184158636520) (-8757770888237855436) = (1843359051676333527, 6291890835586992940) := by decide +kernel
theorem cy_123 : gQ 123 (gu 128 1) = gJp (1843359051676333527, 6291890835586992940) := by rw [gQ, cy_122, ← jsq_M, cq_122]
theorem cq_123 : jsq 1843359051676333527 6291890835586992940 = (5328723623349883611, (-5874624584509146909)) := by decide +kernel
theorem cy_124 : gQ 124 (gu 128 1) = gJp (5328723623349883611, (-5874624584509146909)) := by rw [gQ, cy_123, ← jsq_M, cq_123]
theorem cq_124 : jsq 5328723623349883611 (-5874624584509146909) = (3849961115803642798, (-2635320636913912361)) := by decide +kernel
theorem cy_125 : gQ 125 (gu 128 1) = gJp (3849961115803642798, (-2635320636913912361)) := by rw [gQ, cy_124, ← jsq_M, cq_124]
theorem cq_125 : jsq 3849961115803642798 (-2635320636913912361) = (6530934315407447121, (-8784163843532810663)) := by decide +kernel
theorem cy_126 : gQ 126 (gu 128 1) = gJp (6530934315407447121, (-8784163843532810663)) := by rw [gQ, cy_125, ← jsq_M, cq_125]
theorem cq_126 : jsq 6530934315407447121 (-8784163843532810663) = (2717600689430425014, 5270498306774157604) := by decide +kernel
theorem cy_127 : gQ 127 (gu 128 1) = gJp (2717600689430425014, 5270498306774157604) := by rw [gQ, cy_126, ← jsq_M, cq_126]
theorem cq_127 : jsq 2717600689430425014 5270498306774157604 = (4611686018427387904, 0) := by decide +kernel
theorem cy_128 : gQ 128 (gu 128 1) = gJp (4611686018427387904, 0) := by rw [gQ, cy_127, ← jsq_M, cq_127]
theorem cy_all : gQ 128 (gu 128 1) = gu 128 1 := cy_128.trans cy_0.symm
end
section
/-! THE LAW'S PRODUCT AND POWERS, and those of Bouncy Castle -/
theorem m1 (i : Nat) : bL 1 i = decide (i = 0) := by
  by_cases h : i < 64
  · have h1 : ∀ i, i < 64 → bL 1 i = decide (i = 0) := by decide +kernel
    exact h1 i h
  · rw [bL_out _ (by omega)]
    simp; omega
theorem bL_0 (i : Nat) : bL 0 i = false := by
  show (0 : Int64).toBitVec.getLsbD i = false
  simp
theorem and1_t {x : Int64} (h : bL x 0 = true) : x &&& 1 = 1 := bL_ext fun i _ => by
  rw [bL_and, m1]
  by_cases e : i = 0
  · subst e; rw [h]; rfl
  · simp [e]
theorem and1_f {x : Int64} (h : bL x 0 = false) : x &&& 1 = 0 := bL_ext fun i _ => by
  rw [bL_and, m1, bL_0]
  by_cases e : i = 0
  · subst e; rw [h]; rfl
  · simp [e]
theorem ne10 : ¬ (1 : Int64) = 0 := by decide
theorem ne01 : ¬ (0 : Int64) = 1 := by decide
theorem jX_J (b b2 : Int64) : gJp (jXh b b2, jXl b b2) = gX (gJp (b, b2)) := by
  have hs : gJ b.toBitVec b2.toBitVec >>> 1 = gJ (b.toBitVec >>> 1) (b2.toBitVec >>> 1 ||| b.toBitVec <<< 63) := by
    apply BitVec.eq_of_getMsbD_eq
    intro i hi
    rw [BitVec.getMsbD_ushiftRight, gJ_bit, gJ_bit, BitVec.getMsbD_ushiftRight, BitVec.getMsbD_or, BitVec.getMsbD_ushiftRight, BitVec.getMsbD_shiftLeft]
    by_cases h : i < 64
    · rw [if_pos h, if_pos (show i - 1 < 64 by omega)]
      simp [hi, h]
    · rw [if_neg h]
      by_cases h2 : i = 64
      · subst h2
        rw [if_pos (by decide)]
        simp
      · rw [if_neg (show ¬ i - 1 < 64 by omega), show b.toBitVec.getMsbD (i - 64 + 63) = false from mL_out b _ (by omega), show i - 1 - 64 = i - 64 - 1 by omega]
        simp [hi, show ¬ i < 1 by omega, show i - 64 < 64 by omega, show ¬ i - 64 < 1 by omega]
  have hl : (gJ b.toBitVec b2.toBitVec).getLsbD 0 = bL b2 0 := by
    show (b.toBitVec ++ b2.toBitVec).getLsbD 0 = _
    rw [BitVec.getLsbD_append, if_pos (by decide)]
  have hR : gR = gJ (-2233785415175766016 : Int64).toBitVec 0#64 := by decide +kernel
  show gJ (jXh b b2).toBitVec (jXl b b2).toBitVec = gX (gJ b.toBitVec b2.toBitVec)
  unfold gX
  rw [hs, hl]
  have e2 : (jXl b b2).toBitVec = b2.toBitVec >>> 1 ||| b.toBitVec <<< 63 := by
    unfold jXl
    rw [Int64.toBitVec_or, jlushr_bv _ _ (by decide), jlshl_bv _ _ (by decide)]
  rw [e2]
  cases hb : bL b2 0
  · have e1 : (jXh b b2).toBitVec = b.toBitVec >>> 1 := by
      unfold jXh
      rw [and1_f hb, if_neg ne01, Int64.toBitVec_xor, jlushr_bv _ _ (by decide)]
      show b.toBitVec >>> 1 ^^^ 0#64 = _
      rw [BitVec.xor_zero]
    rw [e1, gS_f, BitVec.xor_zero]
  · have e1 : (jXh b b2).toBitVec = b.toBitVec >>> 1 ^^^ (-2233785415175766016 : Int64).toBitVec := by
      unfold jXh
      rw [and1_t hb, if_pos rfl, Int64.toBitVec_xor, jlushr_bv _ _ (by decide)]
    rw [e1, hR]
    show _ = gJ (b.toBitVec >>> 1) (b2.toBitVec >>> 1 ||| b.toBitVec <<< 63) ^^^ gJ (-2233785415175766016 : Int64).toBitVec 0#64
    rw [gJ_x, BitVec.xor_zero]
theorem jPt_b (a a2 : Int64) (i : Nat) (hi : i < 128) : jPt a a2 i = 1 ↔ (gJp (a, a2)).getMsbD i = true := by
  have e : bL (if i < 64 then jlushr a (nI (63 - i)) else jlushr a2 (nI (127 - i))) 0 = (gJp (a, a2)).getMsbD i := by
    show _ = (gJ a.toBitVec a2.toBitVec).getMsbD i
    rw [gJ_bit]
    by_cases h : i < 64
    · rw [if_pos h, if_pos h, bL_shr _ _ (by omega)]
      exact (mL_b a h).symm
    · rw [if_neg h, if_neg h, bL_shr _ _ (by omega), show a2.toBitVec.getMsbD (i - 64) = bL a2 (63 - (i - 64)) from mL_b a2 (by omega), show 63 - (i - 64) = 127 - i + 0 by omega]
  unfold jPt
  rw [← e]
  cases hb : bL (if i < 64 then jlushr a (nI (63 - i)) else jlushr a2 (nI (127 - i))) 0
  · rw [and1_f hb]
    exact ⟨fun h => absurd h ne01, fun h => by cases h⟩
  · rw [and1_t hb]
    exact ⟨fun _ => rfl, fun _ => rfl⟩
theorem jPl_J (a a2 : Int64) (n : Nat) : ∀ (i : Nat) (z z2 b b2 : Int64), i + n = 128 → gJp (jPl a a2 n i z z2 b b2) = gJp (z, z2) ^^^ gE (fun k => (gJp (a, a2)).getMsbD (i + k)) n (gJp (b, b2)) := by
  induction n with
  | zero =>
    intro i z z2 b b2 _
    show gJp (z, z2) = gJp (z, z2) ^^^ 0#128
    rw [BitVec.xor_zero]
  | succ n ih =>
    intro i z z2 b b2 hi
    rw [jPl, ih (i + 1) _ _ _ _ (by omega), jX_J, gE_s, gE_X, ← BitVec.xor_assoc]
    have e : gE (fun k => (gJp (a, a2)).getMsbD (i + 1 + k)) n (gJp (b, b2)) = gE (fun k => (gJp (a, a2)).getMsbD (i + (k + 1))) n (gJp (b, b2)) := gE_c _ (fun k _ => by rw [show i + 1 + k = i + (k + 1) by omega])
    rw [e]
    refine bx2 ?_ rfl
    show gJp (if jPt a a2 i = 1 then z ^^^ b else z, if jPt a a2 i = 1 then z2 ^^^ b2 else z2) = gJp (z, z2) ^^^ gS ((gJp (a, a2)).getMsbD (i + 0)) (gJp (b, b2))
    rw [Nat.add_zero]
    cases hb : (gJp (a, a2)).getMsbD i
    · have h : ¬ jPt a a2 i = 1 := fun h => by
        have h2 := (jPt_b a a2 i (by omega)).mp h
        rw [hb] at h2
        cases h2
      rw [if_neg h, if_neg h, gS_f, BitVec.xor_zero]
    · have h : jPt a a2 i = 1 := (jPt_b a a2 i (by omega)).mpr hb
      rw [if_pos h, if_pos h]
      show gJ (z ^^^ b).toBitVec (z2 ^^^ b2).toBitVec = gJ z.toBitVec z2.toBitVec ^^^ gJ b.toBitVec b2.toBitVec
      rw [gJ_x, Int64.toBitVec_xor, Int64.toBitVec_xor]
theorem zero_J : gJp (0, 0) = 0#128 := by decide +kernel
/-- the law's product is the product -/
theorem jP_M (a a2 b b2 : Int64) : gJp (jP a a2 b b2) = gM (gJp (a, a2)) (gJp (b, b2)) := by
  unfold jP
  rw [jPl_J a a2 128 0 0 0 b b2 rfl, zero_J, BitVec.zero_xor]
  exact gE_c _ (fun k _ => by rw [Nat.zero_add])
theorem one_J : gJp (-9223372036854775808, 0) = g1 := by decide +kernel
theorem jnat_pos {x : Int64} (h : x.toBitVec.toNat ≠ 0) (h2 : x.toBitVec.toNat < 2 ^ 63) : 0 < x := by
  apply Int64.lt_iff_toInt_lt.mpr
  show (0 : Int64).toInt < x.toBitVec.toInt
  rw [BitVec.toInt_eq_toNat_of_lt (by omega)]
  show (0 : Int) < _
  omega
theorem bL_par (x : Int64) : bL x 0 = decide (x.toBitVec.toNat % 2 = 1) := by
  show x.toBitVec.toNat.testBit 0 = _
  rw [Nat.testBit_zero]
theorem gP_s (v : gV) (n : Nat) : gM v (gP v n) = gP v (n + 1) := gM_comm _ _
theorem jEl_P (n : Nat) : ∀ (pw : Int64) (y q : Int64 × Int64), n ≤ 63 → pw.toBitVec.toNat < 2 ^ n → gJp (jEl n pw y q) = gM (gJp y) (gP (gJp q) pw.toBitVec.toNat) := by
  induction n with
  | zero =>
    intro pw y q _ h
    rw [show pw.toBitVec.toNat = 0 by omega]
    exact (gM_1 _).symm
  | succ n ih =>
    intro pw y q hn h
    by_cases hp : 0 < pw
    · rw [jEl, if_pos hp, ih _ _ _ (by omega) (by rw [jsh1_nat]; exact z_half h), jsh1_nat]
      have e : gJp (jsq q.1 q.2) = gM (gJp q) (gJp q) := jsq_M q.1 q.2
      rw [e, gP_sq]
      cases hb : bL pw 0
      · rw [bL_par] at hb
        have hm : pw.toBitVec.toNat % 2 = 0 := by
          have := of_decide_eq_false hb
          omega
        rw [and1_f (by rw [bL_par]; exact hb), if_pos rfl, show 2 * (pw.toBitVec.toNat / 2) = pw.toBitVec.toNat by omega]
      · rw [bL_par] at hb
        have hm : pw.toBitVec.toNat % 2 = 1 := of_decide_eq_true hb
        rw [and1_t (by rw [bL_par]; exact hb), if_neg ne10]
        have e2 : gJp (jmul y.1 y.2 q.1 q.2) = gM (gJp y) (gJp q) := jmul_M y.1 y.2 q.1 q.2
        rw [e2, gM_assoc, gP_s, show 2 * (pw.toBitVec.toNat / 2) + 1 = pw.toBitVec.toNat by omega]
    · have h63 : pw.toBitVec.toNat < 2 ^ 63 := Nat.lt_of_lt_of_le h (Nat.pow_le_pow_right (by decide) hn)
      have h0 : pw.toBitVec.toNat = 0 := Decidable.byContradiction fun e => hp (jnat_pos e h63)
      rw [jEl_stop hp, h0]
      exact (gM_1 _).symm
/-- the power as Bouncy Castle reckons it -/
theorem jE_P (pw e0 e1 : Int64) (h : pw.toBitVec.toNat < 2 ^ 63) : gJp (jE pw e0 e1) = gP (gJp (e0, e1)) pw.toBitVec.toNat := by
  unfold jE
  rw [jEl_P 63 pw _ _ (Nat.le_refl _) h, one_J, g1_M]
theorem jlushr_nat (x : Int64) (k : Nat) (hk : k < 64) : (jlushr x (nI k)).toBitVec.toNat = x.toBitVec.toNat / 2 ^ k := by
  rw [jlushr_bv x k hk, BitVec.toNat_ushiftRight, Nat.shiftRight_eq_div_pow]
theorem half_pow (m n : Nat) : m / 2 ^ n = 2 * (m / 2 ^ (n + 1)) + m / 2 ^ n % 2 := by
  have e : m / 2 ^ (n + 1) = m / 2 ^ n / 2 := by rw [Nat.pow_succ, Nat.div_div_eq_div_mul]
  rw [e]
  omega
theorem jRl_P (ex e0 e1 : Int64) (n : Nat) : ∀ z : Int64 × Int64, n ≤ 63 → gJp z = gP (gJp (e0, e1)) (ex.toBitVec.toNat / 2 ^ n) → gJp (jRl ex e0 e1 n z) = gP (gJp (e0, e1)) ex.toBitVec.toNat := by
  induction n with
  | zero =>
    intro z _ h
    rw [Nat.pow_zero, Nat.div_one] at h
    exact h
  | succ n ih =>
    intro z hn h
    rw [jRl]
    have hs : gJp (if jlushr ex (nI (n + 1)) = 0 then z else jP z.1 z.2 z.1 z.2) = gP (gJp (e0, e1)) (2 * (ex.toBitVec.toNat / 2 ^ (n + 1))) := by
      by_cases h0 : jlushr ex (nI (n + 1)) = 0
      · rw [if_pos h0]
        have e : ex.toBitVec.toNat / 2 ^ (n + 1) = 0 := by
          rw [← jlushr_nat ex (n + 1) (by omega), h0]
          rfl
        rw [h, e]
      · rw [if_neg h0]
        have e : gJp (jP z.1 z.2 z.1 z.2) = gM (gJp z) (gJp z) := jP_M z.1 z.2 z.1 z.2
        rw [e, h, ← gP_add, Nat.two_mul]
    generalize (if jlushr ex (nI (n + 1)) = 0 then z else jP z.1 z.2 z.1 z.2) = s at hs ⊢
    refine ih _ (by omega) ?_
    rw [half_pow]
    have hbit : bL (jlushr ex (nI n)) 0 = decide (ex.toBitVec.toNat / 2 ^ n % 2 = 1) := by
      rw [bL_par, jlushr_nat ex n (by omega)]
    cases hb : bL (jlushr ex (nI n)) 0
    · rw [and1_f hb, if_neg ne01, hs]
      rw [hbit] at hb
      have := of_decide_eq_false hb
      rw [show ex.toBitVec.toNat / 2 ^ n % 2 = 0 by omega]
      exact congrArg (gP (gJp (e0, e1))) (Nat.add_zero _).symm
    · rw [and1_t hb, if_pos rfl]
      rw [hbit] at hb
      rw [of_decide_eq_true hb]
      have e : gJp (jP e0 e1 s.1 s.2) = gM (gJp (e0, e1)) (gJp s) := jP_M e0 e1 s.1 s.2
      rw [e, hs, gP_s]
/-- the law's power -/
theorem jR_P (ex e0 e1 : Int64) (h : ex.toBitVec.toNat < 2 ^ 63) : gJp (jR ex e0 e1) = gP (gJp (e0, e1)) ex.toBitVec.toNat := by
  unfold jR
  refine jRl_P ex e0 e1 63 _ (Nat.le_refl _) ?_
  rw [Nat.div_eq_of_lt h]
  exact one_J
/-! the three statements -/
theorem jR_jE (ex e0 e1 : Int64) (h : ex.toBitVec.toNat < 2 ^ 63) : jR ex e0 e1 = jE ex e0 e1 := gJp_inj (by rw [jR_P _ _ _ h, jE_P _ _ _ h])
theorem jE_zero (e0 e1 : Int64) : jE (jexp (nI 0) (nI 0)) e0 e1 = (-9223372036854775808, 0) := gJp_inj (by
  rw [jE_P _ _ _ (jexp_lt _ _), one_J, show (jexp (nI 0) (nI 0)).toBitVec.toNat = 0 from by decide +kernel]
  rfl)
theorem gP_full (v : gV) (N : Nat) (h : N = 2 ^ 128) : gP v N = v := by
  rw [h, ← gQ_P, gQ_all 128 cy_all]
theorem jE_cycle (z0 z1 : Int64) : jE (jexp (nI 0) (nI 16)) (jE (jexp 1073741824 (nI 0)) (jE (jexp 1073741824 (nI 0)) z0 z1).1 (jE (jexp 1073741824 (nI 0)) z0 z1).2).1 (jE (jexp 1073741824 (nI 0)) (jE (jexp 1073741824 (nI 0)) z0 z1).1 (jE (jexp 1073741824 (nI 0)) z0 z1).2).2 = (z0, z1) := by
  have h1 : (jexp 1073741824 (nI 0)).toBitVec.toNat = 2 ^ 62 := by decide +kernel
  have h2 : (jexp (nI 0) (nI 16)).toBitVec.toNat = 16 := by decide +kernel
  have p : ∀ (x : Int64) (q : Int64 × Int64), x.toBitVec.toNat < 2 ^ 63 → gJp (jE x q.1 q.2) = gP (gJp q) x.toBitVec.toNat := fun x q h => jE_P x q.1 q.2 h
  apply gJp_inj
  rw [p _ _ (jexp_lt _ _), p _ _ (jexp_lt _ _), jE_P _ _ _ (jexp_lt _ _), h1, h2, gP_mul, gP_mul]
  exact gP_full _ _ (by decide +kernel)
end
section
/-! FieldPowerDeskLaw: the desk and what is told of it, in step -/
/-- the desk d with its arrays ab, ao, and the law's notes t, in step; 'run': the element's object and its array, once begun -/
def zW (G : z_G) (d ab ao t : Nat) (b0 b1 e0 e1 o0 o1 : Int64) : Option (Nat × Nat) → va_W
  | none => [(d, .inr (0, [.ref ab, .ref ao, .null])), (ab, zB G (zby b0 b1)), (ao, zB G (zby o0 o1)), (t, .inr (1, [.long b0, .long b1, .long e0, .long e1, .long o0, .long o1, .int (nI 0)]))]
  | some r => [(d, .inr (0, [.ref ab, .ref ao, .ref r.1])), (ab, zB G (zby b0 b1)), (ao, zB G (zby o0 o1)), (t, .inr (1, [.long b0, .long b1, .long e0, .long e1, .long o0, .long o1, .int (nI 1)])), (r.1, .inr (2, [.ref r.2])), (r.2, zL2 G e0 e1)]
def zO (hi lo : Int32) (e0 e1 o0 o1 : Int64) : Option (Nat × Nat) → Int64 × Int64
  | none => (o0, o1)
  | some _ => jE (jexp hi lo) e0 e1
abbrev zS : Type := Option (Nat × Nat) × Int64 × Int64 × Int64 × Int64 × Int64 × Int64
abbrev zWs (G : z_G) (d ab ao t : Nat) (u : zS) : va_W := zW G d ab ao t u.2.1 u.2.2.1 u.2.2.2.1 u.2.2.2.2.1 u.2.2.2.2.2.1 u.2.2.2.2.2.2 u.1
set_option maxHeartbeats 4000000 in
set_option maxRecDepth 100000 in
/-- base(d, t, a, b, c, f) -/
theorem met_lbase (l : Launch) (G : z_G) (sz : Nat) (d ab ao t : Nat) (b0 b1 e0 e1 o0 o1 : Int64) (run : Option (Nat × Nat)) (a b c f : Int32) : Met l yX0_base (ws_ yX0_base cX0_base 6 none) ({ frames := 2, cells := 0, slots := 0, locals := 46 }) (zPre G [.ref d, .ref t, .int a, .int b, .int c, .int f] sz (zW G d ab ao t b0 b1 e0 e1 o0 o1 run)) (zQv G (fun (u : Unit) => True) (fun (u : Unit) => zW G d ab ao t (j64 a b) (j64 c f) e0 e1 o0 o1 run) (va_A (zW G d ab ao t b0 b1 e0 e1 o0 o1 run) sz)) 0 0 (va_A (zW G d ab ao t b0 b1 e0 e1 o0 o1 run) sz) := by
  refine z_met (QK := zQv G (fun (u : Unit) => True) (fun (u : Unit) => zW G d ab ao t (j64 a b) (j64 c f) e0 e1 o0 o1 run)) (by decide) (Nat.le_of_ble_eq_true rfl) ?_
  intro p e s m below meth c_ A H ls hx hb hr hlocks hml hown hin hts hK hP hD hA hS hl
  have hown : s.vm.findClass RX0 = some m.cls := hown
  have hl : lv_has ls 6 [(0, .ref d), (1, .ref t), (2, .int a), (3, .int b), (4, .int c), (5, .int f)] := hl
  rcases run with _ | run
  · have hP : va_P G.1 vwCl [(d, .inr (0, [.ref ab, .ref ao, .null])), (ab, zB G (zby b0 b1)), (ao, zB G (zby o0 o1)), (t, .inr (1, [.long b0, .long b1, .long e0, .long e1, .long o0, .long o1, .int (nI 0)]))] H := hP
    have hD : va_D A [(d, .inr (0, [.ref ab, .ref ao, .null])), (ab, zB G (zby b0 b1)), (ao, zB G (zby o0 o1)), (t, .inr (1, [.long b0, .long b1, .long e0, .long e1, .long o0, .long o1, .int (nI 0)]))] := hD
    refine lv_aload_n hx hb dX0_base_0 rfl (lv_at hl 0 rfl) ?_
    refine lv_iload_n hx hb dX0_base_1 rfl (lv_at hl 2 rfl) ?_
    refine lv_iload_n hx hb dX0_base_2 rfl (lv_at hl 3 rfl) ?_
    refine lv_iload hx hb dX0_base_3 (lv_at hl 4 rfl) ?_
    refine lv_iload hx hb dX0_base_5 (lv_at hl 5 rfl) ?_
    refine z_Vv (As := [.int a, .int b, .int c, .int f]) (rest := []) (wc := [(d, .inr (0, [.ref ab, .ref ao, .null])), (ab, zB G (zby b0 b1))]) (wr := [(ao, zB G (zby o0 o1)), (t, .inr (1, [.long b0, .long b1, .long e0, .long e1, .long o0, .long o1, .int (nI 0)]))]) ⟨hx, hb, hml, hown, hts⟩ (met_desk_base l G H.size d ab ao .null (jhi b0) (jlo b0) (jhi b1) (jlo b1) a b c f) (cwV 4 hts (lw_V q30 q31 q32 q1 q33) rfl rfl rfl (by decide +kernel) ⟨Nat.le_of_ble_eq_true rfl, Nat.le_of_ble_eq_true rfl⟩) hK hP hD hS hA (z_ix [0, 1] [2, 3] rfl rfl rfl rfl rfl (by decide)) 0 0 (T := TX1) (N := 3) rfl rfl rfl hl.1 rfl (Nat.le_of_ble_eq_true rfl) dX0_base_7 ⟨Nat.le_of_ble_eq_true rfl, Nat.le_of_ble_eq_true rfl⟩ (fun u H locs hw hP hD hS => ?_)
    have hP : va_P G.1 vwCl [(ao, zB G (zby o0 o1)), (t, .inr (1, [.long b0, .long b1, .long e0, .long e1, .long o0, .long o1, .int (nI 0)])), (d, .inr (0, [.ref ab, .ref ao, .null])), (ab, zB G (Bw a b c f))] H := hP
    have hD : va_D A [(ao, zB G (zby o0 o1)), (t, .inr (1, [.long b0, .long b1, .long e0, .long e1, .long o0, .long o1, .int (nI 0)])), (d, .inr (0, [.ref ab, .ref ao, .null])), (ab, zB G (Bw a b c f))] := hD
    rw [← zby_64 a b c f] at hP hD
    have hP : va_P G.1 vwCl [(ao, zB G (zby o0 o1)), (t, .inr (1, [.long b0, .long b1, .long e0, .long e1, .long o0, .long o1, .int (nI 0)])), (d, .inr (0, [.ref ab, .ref ao, .null])), (ab, zB G (zby (j64 a b) (j64 c f)))] H := hP
    have hD : va_D A [(ao, zB G (zby o0 o1)), (t, .inr (1, [.long b0, .long b1, .long e0, .long e1, .long o0, .long o1, .int (nI 0)])), (d, .inr (0, [.ref ab, .ref ao, .null])), (ab, zB G (zby (j64 a b) (j64 c f)))] := hD
    refine lv_aload_n hx hb dX0_base_10 rfl (lv_at hl 1 rfl) ?_
    refine lv_iload_n hx hb dX0_base_11 rfl (lv_at hl 2 rfl) ?_
    refine lv_i2l (v := a.toInt64) hx hb dX0_base_12 rfl ?_
    refine lv_bipush (v := nI 32) hx hb dX0_base_13 (by decide) ?_
    refine lv_lshl (v := (jlshl a.toInt64 (nI 32))) hx hb dX0_base_15 rfl ?_
    refine lv_iload_n hx hb dX0_base_16 rfl (lv_at hl 3 rfl) ?_
    refine lv_i2l (v := b.toInt64) hx hb dX0_base_17 rfl ?_
    refine lv_ldc2 (v := 4294967295) hx hb hown (hts _ q182) dX0_base_18 ?_
    refine lv_land hx hb dX0_base_21 ?_
    refine lv_lor hx hb dX0_base_22 ?_
    refine lv_topl (fun y2 ey2 => ?_)
    have ey2 : y2 = j64 a b := ey2
    subst ey2
    refine va_put (D := G.1) (ci := 1) (v := .long (j64 a b)) (ty := .long) (C := RX2) (T := TX2) (N := 7) hx hb hts in_X2 tyX2 tyX2_ok nmX2 hown hK hP hD hS 1 rfl rfl 0 (by decide) (hts _ q143) (fun _ h9 => h9) rfl (by decide +kernel) rfl rfl (Nat.le_of_ble_eq_true rfl) dX0_base_23 (fun H locs hP hD hS => ?_)
    have hP : va_P G.1 vwCl [(ao, zB G (zby o0 o1)), (t, .inr (1, [.long (j64 a b), .long b1, .long e0, .long e1, .long o0, .long o1, .int (nI 0)])), (d, .inr (0, [.ref ab, .ref ao, .null])), (ab, zB G (zby (j64 a b) (j64 c f)))] H := hP
    have hD : va_D A [(ao, zB G (zby o0 o1)), (t, .inr (1, [.long (j64 a b), .long b1, .long e0, .long e1, .long o0, .long o1, .int (nI 0)])), (d, .inr (0, [.ref ab, .ref ao, .null])), (ab, zB G (zby (j64 a b) (j64 c f)))] := hD
    refine lv_aload_n hx hb dX0_base_26 rfl (lv_at hl 1 rfl) ?_
    refine lv_iload hx hb dX0_base_27 (lv_at hl 4 rfl) ?_
    refine lv_i2l (v := c.toInt64) hx hb dX0_base_29 rfl ?_
    refine lv_bipush (v := nI 32) hx hb dX0_base_30 (by decide) ?_
    refine lv_lshl (v := (jlshl c.toInt64 (nI 32))) hx hb dX0_base_32 rfl ?_
    refine lv_iload hx hb dX0_base_33 (lv_at hl 5 rfl) ?_
    refine lv_i2l (v := f.toInt64) hx hb dX0_base_35 rfl ?_
    refine lv_ldc2 (v := 4294967295) hx hb hown (hts _ q182) dX0_base_36 ?_
    refine lv_land hx hb dX0_base_39 ?_
    refine lv_lor hx hb dX0_base_40 ?_
    refine lv_topl (fun y3 ey3 => ?_)
    have ey3 : y3 = j64 c f := ey3
    subst ey3
    refine va_put (D := G.1) (ci := 1) (v := .long (j64 c f)) (ty := .long) (C := RX2) (T := TX2) (N := 7) hx hb hts in_X2 tyX2 tyX2_ok nmX2 hown hK hP hD hS 1 rfl rfl 1 (by decide) (hts _ q144) (fun _ h9 => h9) rfl (by decide +kernel) rfl rfl (Nat.le_of_ble_eq_true rfl) dX0_base_41 (fun H locs hP hD hS => ?_)
    have hP : va_P G.1 vwCl [(ao, zB G (zby o0 o1)), (t, .inr (1, [.long (j64 a b), .long (j64 c f), .long e0, .long e1, .long o0, .long o1, .int (nI 0)])), (d, .inr (0, [.ref ab, .ref ao, .null])), (ab, zB G (zby (j64 a b) (j64 c f)))] H := hP
    have hD : va_D A [(ao, zB G (zby o0 o1)), (t, .inr (1, [.long (j64 a b), .long (j64 c f), .long e0, .long e1, .long o0, .long o1, .int (nI 0)])), (d, .inr (0, [.ref ab, .ref ao, .null])), (ab, zB G (zby (j64 a b) (j64 c f)))] := hD
    have hP := hP.sub (ws' := [(d, .inr (0, [.ref ab, .ref ao, .null])), (ab, zB G (zby (j64 a b) (j64 c f))), (ao, zB G (zby o0 o1)), (t, .inr (1, [.long (j64 a b), .long (j64 c f), .long e0, .long e1, .long o0, .long o1, .int (nI 0)]))]) [2, 3, 0, 1] rfl
    have hD := hD.sub (ws' := [(d, .inr (0, [.ref ab, .ref ao, .null])), (ab, zB G (zby (j64 a b) (j64 c f))), (ao, zB G (zby o0 o1)), (t, .inr (1, [.long (j64 a b), .long (j64 c f), .long e0, .long e1, .long o0, .long o1, .int (nI 0)]))]) [2, 3, 0, 1] (by decide) rfl
    exact z_vret () hx hb hr hlocks hK hP hD hS rfl trivial (Nat.le_of_ble_eq_true rfl) (Nat.le_of_ble_eq_true rfl) dX0_base_44
  · have hP : va_P G.1 vwCl [(d, .inr (0, [.ref ab, .ref ao, .ref run.1])), (ab, zB G (zby b0 b1)), (ao, zB G (zby o0 o1)), (t, .inr (1, [.long b0, .long b1, .long e0, .long e1, .long o0, .long o1, .int (nI 1)])), (run.1, .inr (2, [.ref run.2])), (run.2, zL2 G e0 e1)] H := hP
    have hD : va_D A [(d, .inr (0, [.ref ab, .ref ao, .ref run.1])), (ab, zB G (zby b0 b1)), (ao, zB G (zby o0 o1)), (t, .inr (1, [.long b0, .long b1, .long e0, .long e1, .long o0, .long o1, .int (nI 1)])), (run.1, .inr (2, [.ref run.2])), (run.2, zL2 G e0 e1)] := hD
    refine lv_aload_n hx hb dX0_base_0 rfl (lv_at hl 0 rfl) ?_
    refine lv_iload_n hx hb dX0_base_1 rfl (lv_at hl 2 rfl) ?_
    refine lv_iload_n hx hb dX0_base_2 rfl (lv_at hl 3 rfl) ?_
    refine lv_iload hx hb dX0_base_3 (lv_at hl 4 rfl) ?_
    refine lv_iload hx hb dX0_base_5 (lv_at hl 5 rfl) ?_
    refine z_Vv (As := [.int a, .int b, .int c, .int f]) (rest := []) (wc := [(d, .inr (0, [.ref ab, .ref ao, .ref run.1])), (ab, zB G (zby b0 b1))]) (wr := [(ao, zB G (zby o0 o1)), (t, .inr (1, [.long b0, .long b1, .long e0, .long e1, .long o0, .long o1, .int (nI 1)])), (run.1, .inr (2, [.ref run.2])), (run.2, zL2 G e0 e1)]) ⟨hx, hb, hml, hown, hts⟩ (met_desk_base l G H.size d ab ao (.ref run.1) (jhi b0) (jlo b0) (jhi b1) (jlo b1) a b c f) (cwV 4 hts (lw_V q30 q31 q32 q1 q33) rfl rfl rfl (by decide +kernel) ⟨Nat.le_of_ble_eq_true rfl, Nat.le_of_ble_eq_true rfl⟩) hK hP hD hS hA (z_ix [0, 1] [2, 3, 4, 5] rfl rfl rfl rfl rfl (by decide)) 0 0 (T := TX1) (N := 3) rfl rfl rfl hl.1 rfl (Nat.le_of_ble_eq_true rfl) dX0_base_7 ⟨Nat.le_of_ble_eq_true rfl, Nat.le_of_ble_eq_true rfl⟩ (fun u H locs hw hP hD hS => ?_)
    have hP : va_P G.1 vwCl [(ao, zB G (zby o0 o1)), (t, .inr (1, [.long b0, .long b1, .long e0, .long e1, .long o0, .long o1, .int (nI 1)])), (run.1, .inr (2, [.ref run.2])), (run.2, zL2 G e0 e1), (d, .inr (0, [.ref ab, .ref ao, .ref run.1])), (ab, zB G (Bw a b c f))] H := hP
    have hD : va_D A [(ao, zB G (zby o0 o1)), (t, .inr (1, [.long b0, .long b1, .long e0, .long e1, .long o0, .long o1, .int (nI 1)])), (run.1, .inr (2, [.ref run.2])), (run.2, zL2 G e0 e1), (d, .inr (0, [.ref ab, .ref ao, .ref run.1])), (ab, zB G (Bw a b c f))] := hD
    rw [← zby_64 a b c f] at hP hD
    have hP : va_P G.1 vwCl [(ao, zB G (zby o0 o1)), (t, .inr (1, [.long b0, .long b1, .long e0, .long e1, .long o0, .long o1, .int (nI 1)])), (run.1, .inr (2, [.ref run.2])), (run.2, zL2 G e0 e1), (d, .inr (0, [.ref ab, .ref ao, .ref run.1])), (ab, zB G (zby (j64 a b) (j64 c f)))] H := hP
    have hD : va_D A [(ao, zB G (zby o0 o1)), (t, .inr (1, [.long b0, .long b1, .long e0, .long e1, .long o0, .long o1, .int (nI 1)])), (run.1, .inr (2, [.ref run.2])), (run.2, zL2 G e0 e1), (d, .inr (0, [.ref ab, .ref ao, .ref run.1])), (ab, zB G (zby (j64 a b) (j64 c f)))] := hD
    refine lv_aload_n hx hb dX0_base_10 rfl (lv_at hl 1 rfl) ?_
    refine lv_iload_n hx hb dX0_base_11 rfl (lv_at hl 2 rfl) ?_
    refine lv_i2l (v := a.toInt64) hx hb dX0_base_12 rfl ?_
    refine lv_bipush (v := nI 32) hx hb dX0_base_13 (by decide) ?_
    refine lv_lshl (v := (jlshl a.toInt64 (nI 32))) hx hb dX0_base_15 rfl ?_
    refine lv_iload_n hx hb dX0_base_16 rfl (lv_at hl 3 rfl) ?_
    refine lv_i2l (v := b.toInt64) hx hb dX0_base_17 rfl ?_
    refine lv_ldc2 (v := 4294967295) hx hb hown (hts _ q182) dX0_base_18 ?_
    refine lv_land hx hb dX0_base_21 ?_
    refine lv_lor hx hb dX0_base_22 ?_
    refine lv_topl (fun y2 ey2 => ?_)
    have ey2 : y2 = j64 a b := ey2
    subst ey2
    refine va_put (D := G.1) (ci := 1) (v := .long (j64 a b)) (ty := .long) (C := RX2) (T := TX2) (N := 7) hx hb hts in_X2 tyX2 tyX2_ok nmX2 hown hK hP hD hS 1 rfl rfl 0 (by decide) (hts _ q143) (fun _ h9 => h9) rfl (by decide +kernel) rfl rfl (Nat.le_of_ble_eq_true rfl) dX0_base_23 (fun H locs hP hD hS => ?_)
    have hP : va_P G.1 vwCl [(ao, zB G (zby o0 o1)), (t, .inr (1, [.long (j64 a b), .long b1, .long e0, .long e1, .long o0, .long o1, .int (nI 1)])), (run.1, .inr (2, [.ref run.2])), (run.2, zL2 G e0 e1), (d, .inr (0, [.ref ab, .ref ao, .ref run.1])), (ab, zB G (zby (j64 a b) (j64 c f)))] H := hP
    have hD : va_D A [(ao, zB G (zby o0 o1)), (t, .inr (1, [.long (j64 a b), .long b1, .long e0, .long e1, .long o0, .long o1, .int (nI 1)])), (run.1, .inr (2, [.ref run.2])), (run.2, zL2 G e0 e1), (d, .inr (0, [.ref ab, .ref ao, .ref run.1])), (ab, zB G (zby (j64 a b) (j64 c f)))] := hD
    refine lv_aload_n hx hb dX0_base_26 rfl (lv_at hl 1 rfl) ?_
    refine lv_iload hx hb dX0_base_27 (lv_at hl 4 rfl) ?_
    refine lv_i2l (v := c.toInt64) hx hb dX0_base_29 rfl ?_
    refine lv_bipush (v := nI 32) hx hb dX0_base_30 (by decide) ?_
    refine lv_lshl (v := (jlshl c.toInt64 (nI 32))) hx hb dX0_base_32 rfl ?_
    refine lv_iload hx hb dX0_base_33 (lv_at hl 5 rfl) ?_
    refine lv_i2l (v := f.toInt64) hx hb dX0_base_35 rfl ?_
    refine lv_ldc2 (v := 4294967295) hx hb hown (hts _ q182) dX0_base_36 ?_
    refine lv_land hx hb dX0_base_39 ?_
    refine lv_lor hx hb dX0_base_40 ?_
    refine lv_topl (fun y3 ey3 => ?_)
    have ey3 : y3 = j64 c f := ey3
    subst ey3
    refine va_put (D := G.1) (ci := 1) (v := .long (j64 c f)) (ty := .long) (C := RX2) (T := TX2) (N := 7) hx hb hts in_X2 tyX2 tyX2_ok nmX2 hown hK hP hD hS 1 rfl rfl 1 (by decide) (hts _ q144) (fun _ h9 => h9) rfl (by decide +kernel) rfl rfl (Nat.le_of_ble_eq_true rfl) dX0_base_41 (fun H locs hP hD hS => ?_)
    have hP : va_P G.1 vwCl [(ao, zB G (zby o0 o1)), (t, .inr (1, [.long (j64 a b), .long (j64 c f), .long e0, .long e1, .long o0, .long o1, .int (nI 1)])), (run.1, .inr (2, [.ref run.2])), (run.2, zL2 G e0 e1), (d, .inr (0, [.ref ab, .ref ao, .ref run.1])), (ab, zB G (zby (j64 a b) (j64 c f)))] H := hP
    have hD : va_D A [(ao, zB G (zby o0 o1)), (t, .inr (1, [.long (j64 a b), .long (j64 c f), .long e0, .long e1, .long o0, .long o1, .int (nI 1)])), (run.1, .inr (2, [.ref run.2])), (run.2, zL2 G e0 e1), (d, .inr (0, [.ref ab, .ref ao, .ref run.1])), (ab, zB G (zby (j64 a b) (j64 c f)))] := hD
    have hP := hP.sub (ws' := [(d, .inr (0, [.ref ab, .ref ao, .ref run.1])), (ab, zB G (zby (j64 a b) (j64 c f))), (ao, zB G (zby o0 o1)), (t, .inr (1, [.long (j64 a b), .long (j64 c f), .long e0, .long e1, .long o0, .long o1, .int (nI 1)])), (run.1, .inr (2, [.ref run.2])), (run.2, zL2 G e0 e1)]) [4, 5, 0, 1, 2, 3] rfl
    have hD := hD.sub (ws' := [(d, .inr (0, [.ref ab, .ref ao, .ref run.1])), (ab, zB G (zby (j64 a b) (j64 c f))), (ao, zB G (zby o0 o1)), (t, .inr (1, [.long (j64 a b), .long (j64 c f), .long e0, .long e1, .long o0, .long o1, .int (nI 1)])), (run.1, .inr (2, [.ref run.2])), (run.2, zL2 G e0 e1)]) [4, 5, 0, 1, 2, 3] (by decide) rfl
    exact z_vret () hx hb hr hlocks hK hP hD hS rfl trivial (Nat.le_of_ble_eq_true rfl) (Nat.le_of_ble_eq_true rfl) dX0_base_44
set_option maxHeartbeats 4000000 in
set_option maxRecDepth 100000 in
/-- begin(d, t) -/
theorem met_lbegin (l : Launch) (G : z_G) (sz : Nat) (d ab ao t : Nat) (b0 b1 e0 e1 o0 o1 : Int64) (run : Option (Nat × Nat)) : Met l yX0_begin (ws_ yX0_begin cX0_begin 2 none) ({ frames := 6, cells := 3, slots := 19, locals := 134 }) (zPre G [.ref d, .ref t] sz (zW G d ab ao t b0 b1 e0 e1 o0 o1 run)) (zQv G (fun (u : (Nat × Nat)) => True) (fun (u : (Nat × Nat)) => zW G d ab ao t b0 b1 b0 b1 o0 o1 (some u)) (va_A (zW G d ab ao t b0 b1 e0 e1 o0 o1 run) sz)) 3 19 (va_A (zW G d ab ao t b0 b1 e0 e1 o0 o1 run) sz) := by
  refine z_met (QK := zQv G (fun (u : (Nat × Nat)) => True) (fun (u : (Nat × Nat)) => zW G d ab ao t b0 b1 b0 b1 o0 o1 (some u))) (by decide) (Nat.le_of_ble_eq_true rfl) ?_
  intro p e s m below meth c_ A H ls hx hb hr hlocks hml hown hin hts hK hP hD hA hS hl
  have hown : s.vm.findClass RX0 = some m.cls := hown
  have hl : lv_has ls 2 [(0, .ref d), (1, .ref t)] := hl
  rcases run with _ | run
  · have hP : va_P G.1 vwCl [(d, .inr (0, [.ref ab, .ref ao, .null])), (ab, zB G (zby b0 b1)), (ao, zB G (zby o0 o1)), (t, .inr (1, [.long b0, .long b1, .long e0, .long e1, .long o0, .long o1, .int (nI 0)]))] H := hP
    have hD : va_D A [(d, .inr (0, [.ref ab, .ref ao, .null])), (ab, zB G (zby b0 b1)), (ao, zB G (zby o0 o1)), (t, .inr (1, [.long b0, .long b1, .long e0, .long e1, .long o0, .long o1, .int (nI 0)]))] := hD
    refine lv_aload_n hx hb dX0_begin_0 rfl (lv_at hl 0 rfl) ?_
    refine z_Vv (As := []) (rest := []) (wc := [(d, .inr (0, [.ref ab, .ref ao, .null])), (ab, zB G (zby b0 b1))]) (wr := [(ao, zB G (zby o0 o1)), (t, .inr (1, [.long b0, .long b1, .long e0, .long e1, .long o0, .long o1, .int (nI 0)]))]) ⟨hx, hb, hml, hown, hts⟩ (met_desk_begin l G H.size d ab ao .null (jhi b0) (jlo b0) (jhi b1) (jlo b1)) (cwV 0 hts (lw_V q37 q38 q39 q1 q40) rfl rfl rfl (by decide +kernel) ⟨Nat.le_of_ble_eq_true rfl, Nat.le_of_ble_eq_true rfl⟩) hK hP hD hS hA (z_ix [0, 1] [2, 3] rfl rfl rfl rfl rfl (by decide)) 0 0 (T := TX1) (N := 3) rfl rfl rfl hl.1 rfl (Nat.le_of_ble_eq_true rfl) dX0_begin_1 ⟨Nat.le_of_ble_eq_true rfl, Nat.le_of_ble_eq_true rfl⟩ (fun u H locs hw hP hD hS => ?_)
    have hP : va_P G.1 vwCl [(ao, zB G (zby o0 o1)), (t, .inr (1, [.long b0, .long b1, .long e0, .long e1, .long o0, .long o1, .int (nI 0)])), (d, .inr (0, [.ref ab, .ref ao, .ref u.1])), (ab, zB G (zby b0 b1)), (u.1, .inr (2, [.ref u.2])), (u.2, zL2 G (j64 (jhi b0) (jlo b0)) (j64 (jhi b1) (jlo b1)))] H := hP
    have hD : va_D A [(ao, zB G (zby o0 o1)), (t, .inr (1, [.long b0, .long b1, .long e0, .long e1, .long o0, .long o1, .int (nI 0)])), (d, .inr (0, [.ref ab, .ref ao, .ref u.1])), (ab, zB G (zby b0 b1)), (u.1, .inr (2, [.ref u.2])), (u.2, zL2 G (j64 (jhi b0) (jlo b0)) (j64 (jhi b1) (jlo b1)))] := hD
    rw [j64_hl, j64_hl] at hP hD
    have hP : va_P G.1 vwCl [(ao, zB G (zby o0 o1)), (t, .inr (1, [.long b0, .long b1, .long e0, .long e1, .long o0, .long o1, .int (nI 0)])), (d, .inr (0, [.ref ab, .ref ao, .ref u.1])), (ab, zB G (zby b0 b1)), (u.1, .inr (2, [.ref u.2])), (u.2, zL2 G b0 b1)] H := hP
    have hD : va_D A [(ao, zB G (zby o0 o1)), (t, .inr (1, [.long b0, .long b1, .long e0, .long e1, .long o0, .long o1, .int (nI 0)])), (d, .inr (0, [.ref ab, .ref ao, .ref u.1])), (ab, zB G (zby b0 b1)), (u.1, .inr (2, [.ref u.2])), (u.2, zL2 G b0 b1)] := hD
    refine lv_aload_n hx hb dX0_begin_4 rfl (lv_at hl 1 rfl) ?_
    refine lv_aload_n hx hb dX0_begin_5 rfl (lv_at hl 1 rfl) ?_
    refine va_get (D := G.1) (ci := 1) (v := .long b0) (C := RX2) (T := TX2) (N := 7) hx hb hts in_X2 hown hK hP 1 rfl rfl 0 (by decide) (hts _ q143) (fun _ h9 => h9) rfl dX0_begin_6 ?_
    refine va_put (D := G.1) (ci := 1) (v := .long b0) (ty := .long) (C := RX2) (T := TX2) (N := 7) hx hb hts in_X2 tyX2 tyX2_ok nmX2 hown hK hP hD hS 1 rfl rfl 2 (by decide) (hts _ q145) (fun _ h9 => h9) rfl (by decide +kernel) rfl rfl (Nat.le_of_ble_eq_true rfl) dX0_begin_9 (fun H locs hP hD hS => ?_)
    have hP : va_P G.1 vwCl [(ao, zB G (zby o0 o1)), (t, .inr (1, [.long b0, .long b1, .long b0, .long e1, .long o0, .long o1, .int (nI 0)])), (d, .inr (0, [.ref ab, .ref ao, .ref u.1])), (ab, zB G (zby b0 b1)), (u.1, .inr (2, [.ref u.2])), (u.2, zL2 G b0 b1)] H := hP
    have hD : va_D A [(ao, zB G (zby o0 o1)), (t, .inr (1, [.long b0, .long b1, .long b0, .long e1, .long o0, .long o1, .int (nI 0)])), (d, .inr (0, [.ref ab, .ref ao, .ref u.1])), (ab, zB G (zby b0 b1)), (u.1, .inr (2, [.ref u.2])), (u.2, zL2 G b0 b1)] := hD
    refine lv_aload_n hx hb dX0_begin_12 rfl (lv_at hl 1 rfl) ?_
    refine lv_aload_n hx hb dX0_begin_13 rfl (lv_at hl 1 rfl) ?_
    refine va_get (D := G.1) (ci := 1) (v := .long b1) (C := RX2) (T := TX2) (N := 7) hx hb hts in_X2 hown hK hP 1 rfl rfl 1 (by decide) (hts _ q144) (fun _ h9 => h9) rfl dX0_begin_14 ?_
    refine va_put (D := G.1) (ci := 1) (v := .long b1) (ty := .long) (C := RX2) (T := TX2) (N := 7) hx hb hts in_X2 tyX2 tyX2_ok nmX2 hown hK hP hD hS 1 rfl rfl 3 (by decide) (hts _ q146) (fun _ h9 => h9) rfl (by decide +kernel) rfl rfl (Nat.le_of_ble_eq_true rfl) dX0_begin_17 (fun H locs hP hD hS => ?_)
    have hP : va_P G.1 vwCl [(ao, zB G (zby o0 o1)), (t, .inr (1, [.long b0, .long b1, .long b0, .long b1, .long o0, .long o1, .int (nI 0)])), (d, .inr (0, [.ref ab, .ref ao, .ref u.1])), (ab, zB G (zby b0 b1)), (u.1, .inr (2, [.ref u.2])), (u.2, zL2 G b0 b1)] H := hP
    have hD : va_D A [(ao, zB G (zby o0 o1)), (t, .inr (1, [.long b0, .long b1, .long b0, .long b1, .long o0, .long o1, .int (nI 0)])), (d, .inr (0, [.ref ab, .ref ao, .ref u.1])), (ab, zB G (zby b0 b1)), (u.1, .inr (2, [.ref u.2])), (u.2, zL2 G b0 b1)] := hD
    refine lv_aload_n hx hb dX0_begin_20 rfl (lv_at hl 1 rfl) ?_
    refine lv_iconst (v := nI 1) hx hb dX0_begin_21 (by decide) ?_
    refine va_put (D := G.1) (ci := 1) (v := .int (nI 1)) (ty := .boolean) (C := RX2) (T := TX2) (N := 7) hx hb hts in_X2 tyX2 tyX2_ok nmX2 hown hK hP hD hS 1 rfl rfl 6 (by decide) (hts _ q149) (fun _ h9 => h9) rfl (by decide +kernel) rfl rfl (Nat.le_of_ble_eq_true rfl) dX0_begin_22 (fun H locs hP hD hS => ?_)
    have hP : va_P G.1 vwCl [(ao, zB G (zby o0 o1)), (t, .inr (1, [.long b0, .long b1, .long b0, .long b1, .long o0, .long o1, .int (nI 1)])), (d, .inr (0, [.ref ab, .ref ao, .ref u.1])), (ab, zB G (zby b0 b1)), (u.1, .inr (2, [.ref u.2])), (u.2, zL2 G b0 b1)] H := hP
    have hD : va_D A [(ao, zB G (zby o0 o1)), (t, .inr (1, [.long b0, .long b1, .long b0, .long b1, .long o0, .long o1, .int (nI 1)])), (d, .inr (0, [.ref ab, .ref ao, .ref u.1])), (ab, zB G (zby b0 b1)), (u.1, .inr (2, [.ref u.2])), (u.2, zL2 G b0 b1)] := hD
    have hP := hP.sub (ws' := [(d, .inr (0, [.ref ab, .ref ao, .ref u.1])), (ab, zB G (zby b0 b1)), (ao, zB G (zby o0 o1)), (t, .inr (1, [.long b0, .long b1, .long b0, .long b1, .long o0, .long o1, .int (nI 1)])), (u.1, .inr (2, [.ref u.2])), (u.2, zL2 G b0 b1)]) [2, 3, 0, 1, 4, 5] rfl
    have hD := hD.sub (ws' := [(d, .inr (0, [.ref ab, .ref ao, .ref u.1])), (ab, zB G (zby b0 b1)), (ao, zB G (zby o0 o1)), (t, .inr (1, [.long b0, .long b1, .long b0, .long b1, .long o0, .long o1, .int (nI 1)])), (u.1, .inr (2, [.ref u.2])), (u.2, zL2 G b0 b1)]) [2, 3, 0, 1, 4, 5] (by decide) rfl
    exact z_vret u hx hb hr hlocks hK hP hD hS rfl trivial (Nat.le_of_ble_eq_true rfl) (Nat.le_of_ble_eq_true rfl) dX0_begin_25
  · have hP : va_P G.1 vwCl [(d, .inr (0, [.ref ab, .ref ao, .ref run.1])), (ab, zB G (zby b0 b1)), (ao, zB G (zby o0 o1)), (t, .inr (1, [.long b0, .long b1, .long e0, .long e1, .long o0, .long o1, .int (nI 1)])), (run.1, .inr (2, [.ref run.2])), (run.2, zL2 G e0 e1)] H := hP
    have hD : va_D A [(d, .inr (0, [.ref ab, .ref ao, .ref run.1])), (ab, zB G (zby b0 b1)), (ao, zB G (zby o0 o1)), (t, .inr (1, [.long b0, .long b1, .long e0, .long e1, .long o0, .long o1, .int (nI 1)])), (run.1, .inr (2, [.ref run.2])), (run.2, zL2 G e0 e1)] := hD
    have hP := hP.sub (ws' := [(d, .inr (0, [.ref ab, .ref ao, .ref run.1])), (ab, zB G (zby b0 b1)), (ao, zB G (zby o0 o1)), (t, .inr (1, [.long b0, .long b1, .long e0, .long e1, .long o0, .long o1, .int (nI 1)]))]) [0, 1, 2, 3] rfl
    have hD := hD.sub (ws' := [(d, .inr (0, [.ref ab, .ref ao, .ref run.1])), (ab, zB G (zby b0 b1)), (ao, zB G (zby o0 o1)), (t, .inr (1, [.long b0, .long b1, .long e0, .long e1, .long o0, .long o1, .int (nI 1)]))]) [0, 1, 2, 3] (by decide) rfl
    refine lv_aload_n hx hb dX0_begin_0 rfl (lv_at hl 0 rfl) ?_
    refine z_Vv (As := []) (rest := []) (wc := [(d, .inr (0, [.ref ab, .ref ao, .ref run.1])), (ab, zB G (zby b0 b1))]) (wr := [(ao, zB G (zby o0 o1)), (t, .inr (1, [.long b0, .long b1, .long e0, .long e1, .long o0, .long o1, .int (nI 1)]))]) ⟨hx, hb, hml, hown, hts⟩ (met_desk_begin l G H.size d ab ao (.ref run.1) (jhi b0) (jlo b0) (jhi b1) (jlo b1)) (cwV 0 hts (lw_V q37 q38 q39 q1 q40) rfl rfl rfl (by decide +kernel) ⟨Nat.le_of_ble_eq_true rfl, Nat.le_of_ble_eq_true rfl⟩) hK hP hD hS hA (z_ix [0, 1] [2, 3] rfl rfl rfl rfl rfl (by decide)) 0 0 (T := TX1) (N := 3) rfl rfl rfl hl.1 rfl (Nat.le_of_ble_eq_true rfl) dX0_begin_1 ⟨Nat.le_of_ble_eq_true rfl, Nat.le_of_ble_eq_true rfl⟩ (fun u H locs hw hP hD hS => ?_)
    have hP : va_P G.1 vwCl [(ao, zB G (zby o0 o1)), (t, .inr (1, [.long b0, .long b1, .long e0, .long e1, .long o0, .long o1, .int (nI 1)])), (d, .inr (0, [.ref ab, .ref ao, .ref u.1])), (ab, zB G (zby b0 b1)), (u.1, .inr (2, [.ref u.2])), (u.2, zL2 G (j64 (jhi b0) (jlo b0)) (j64 (jhi b1) (jlo b1)))] H := hP
    have hD : va_D A [(ao, zB G (zby o0 o1)), (t, .inr (1, [.long b0, .long b1, .long e0, .long e1, .long o0, .long o1, .int (nI 1)])), (d, .inr (0, [.ref ab, .ref ao, .ref u.1])), (ab, zB G (zby b0 b1)), (u.1, .inr (2, [.ref u.2])), (u.2, zL2 G (j64 (jhi b0) (jlo b0)) (j64 (jhi b1) (jlo b1)))] := hD
    rw [j64_hl, j64_hl] at hP hD
    have hP : va_P G.1 vwCl [(ao, zB G (zby o0 o1)), (t, .inr (1, [.long b0, .long b1, .long e0, .long e1, .long o0, .long o1, .int (nI 1)])), (d, .inr (0, [.ref ab, .ref ao, .ref u.1])), (ab, zB G (zby b0 b1)), (u.1, .inr (2, [.ref u.2])), (u.2, zL2 G b0 b1)] H := hP
    have hD : va_D A [(ao, zB G (zby o0 o1)), (t, .inr (1, [.long b0, .long b1, .long e0, .long e1, .long o0, .long o1, .int (nI 1)])), (d, .inr (0, [.ref ab, .ref ao, .ref u.1])), (ab, zB G (zby b0 b1)), (u.1, .inr (2, [.ref u.2])), (u.2, zL2 G b0 b1)] := hD
    refine lv_aload_n hx hb dX0_begin_4 rfl (lv_at hl 1 rfl) ?_
    refine lv_aload_n hx hb dX0_begin_5 rfl (lv_at hl 1 rfl) ?_
    refine va_get (D := G.1) (ci := 1) (v := .long b0) (C := RX2) (T := TX2) (N := 7) hx hb hts in_X2 hown hK hP 1 rfl rfl 0 (by decide) (hts _ q143) (fun _ h9 => h9) rfl dX0_begin_6 ?_
    refine va_put (D := G.1) (ci := 1) (v := .long b0) (ty := .long) (C := RX2) (T := TX2) (N := 7) hx hb hts in_X2 tyX2 tyX2_ok nmX2 hown hK hP hD hS 1 rfl rfl 2 (by decide) (hts _ q145) (fun _ h9 => h9) rfl (by decide +kernel) rfl rfl (Nat.le_of_ble_eq_true rfl) dX0_begin_9 (fun H locs hP hD hS => ?_)
    have hP : va_P G.1 vwCl [(ao, zB G (zby o0 o1)), (t, .inr (1, [.long b0, .long b1, .long b0, .long e1, .long o0, .long o1, .int (nI 1)])), (d, .inr (0, [.ref ab, .ref ao, .ref u.1])), (ab, zB G (zby b0 b1)), (u.1, .inr (2, [.ref u.2])), (u.2, zL2 G b0 b1)] H := hP
    have hD : va_D A [(ao, zB G (zby o0 o1)), (t, .inr (1, [.long b0, .long b1, .long b0, .long e1, .long o0, .long o1, .int (nI 1)])), (d, .inr (0, [.ref ab, .ref ao, .ref u.1])), (ab, zB G (zby b0 b1)), (u.1, .inr (2, [.ref u.2])), (u.2, zL2 G b0 b1)] := hD
    refine lv_aload_n hx hb dX0_begin_12 rfl (lv_at hl 1 rfl) ?_
    refine lv_aload_n hx hb dX0_begin_13 rfl (lv_at hl 1 rfl) ?_
    refine va_get (D := G.1) (ci := 1) (v := .long b1) (C := RX2) (T := TX2) (N := 7) hx hb hts in_X2 hown hK hP 1 rfl rfl 1 (by decide) (hts _ q144) (fun _ h9 => h9) rfl dX0_begin_14 ?_
    refine va_put (D := G.1) (ci := 1) (v := .long b1) (ty := .long) (C := RX2) (T := TX2) (N := 7) hx hb hts in_X2 tyX2 tyX2_ok nmX2 hown hK hP hD hS 1 rfl rfl 3 (by decide) (hts _ q146) (fun _ h9 => h9) rfl (by decide +kernel) rfl rfl (Nat.le_of_ble_eq_true rfl) dX0_begin_17 (fun H locs hP hD hS => ?_)
    have hP : va_P G.1 vwCl [(ao, zB G (zby o0 o1)), (t, .inr (1, [.long b0, .long b1, .long b0, .long b1, .long o0, .long o1, .int (nI 1)])), (d, .inr (0, [.ref ab, .ref ao, .ref u.1])), (ab, zB G (zby b0 b1)), (u.1, .inr (2, [.ref u.2])), (u.2, zL2 G b0 b1)] H := hP
    have hD : va_D A [(ao, zB G (zby o0 o1)), (t, .inr (1, [.long b0, .long b1, .long b0, .long b1, .long o0, .long o1, .int (nI 1)])), (d, .inr (0, [.ref ab, .ref ao, .ref u.1])), (ab, zB G (zby b0 b1)), (u.1, .inr (2, [.ref u.2])), (u.2, zL2 G b0 b1)] := hD
    refine lv_aload_n hx hb dX0_begin_20 rfl (lv_at hl 1 rfl) ?_
    refine lv_iconst (v := nI 1) hx hb dX0_begin_21 (by decide) ?_
    refine va_put (D := G.1) (ci := 1) (v := .int (nI 1)) (ty := .boolean) (C := RX2) (T := TX2) (N := 7) hx hb hts in_X2 tyX2 tyX2_ok nmX2 hown hK hP hD hS 1 rfl rfl 6 (by decide) (hts _ q149) (fun _ h9 => h9) rfl (by decide +kernel) rfl rfl (Nat.le_of_ble_eq_true rfl) dX0_begin_22 (fun H locs hP hD hS => ?_)
    have hP : va_P G.1 vwCl [(ao, zB G (zby o0 o1)), (t, .inr (1, [.long b0, .long b1, .long b0, .long b1, .long o0, .long o1, .int (nI 1)])), (d, .inr (0, [.ref ab, .ref ao, .ref u.1])), (ab, zB G (zby b0 b1)), (u.1, .inr (2, [.ref u.2])), (u.2, zL2 G b0 b1)] H := hP
    have hD : va_D A [(ao, zB G (zby o0 o1)), (t, .inr (1, [.long b0, .long b1, .long b0, .long b1, .long o0, .long o1, .int (nI 1)])), (d, .inr (0, [.ref ab, .ref ao, .ref u.1])), (ab, zB G (zby b0 b1)), (u.1, .inr (2, [.ref u.2])), (u.2, zL2 G b0 b1)] := hD
    have hP := hP.sub (ws' := [(d, .inr (0, [.ref ab, .ref ao, .ref u.1])), (ab, zB G (zby b0 b1)), (ao, zB G (zby o0 o1)), (t, .inr (1, [.long b0, .long b1, .long b0, .long b1, .long o0, .long o1, .int (nI 1)])), (u.1, .inr (2, [.ref u.2])), (u.2, zL2 G b0 b1)]) [2, 3, 0, 1, 4, 5] rfl
    have hD := hD.sub (ws' := [(d, .inr (0, [.ref ab, .ref ao, .ref u.1])), (ab, zB G (zby b0 b1)), (ao, zB G (zby o0 o1)), (t, .inr (1, [.long b0, .long b1, .long b0, .long b1, .long o0, .long o1, .int (nI 1)])), (u.1, .inr (2, [.ref u.2])), (u.2, zL2 G b0 b1)]) [2, 3, 0, 1, 4, 5] (by decide) rfl
    exact z_vret u hx hb hr hlocks hK hP hD hS rfl trivial (Nat.le_of_ble_eq_true rfl) (Nat.le_of_ble_eq_true rfl) dX0_begin_25
set_option maxHeartbeats 4000000 in
set_option maxRecDepth 100000 in
/-- again(d, t) -/
theorem met_lagain (l : Launch) (G : z_G) (sz : Nat) (d ab ao t : Nat) (b0 b1 e0 e1 o0 o1 : Int64) (run : Option (Nat × Nat)) : Met l yX0_again (ws_ yX0_again cX0_again 2 none) ({ frames := 1, cells := 0, slots := 0, locals := 21 }) (zPre G [.ref d, .ref t] sz (zW G d ab ao t b0 b1 e0 e1 o0 o1 run)) (zQv G (fun (u : Unit) => True) (fun (u : Unit) => zW G d ab ao t o0 o1 e0 e1 o0 o1 run) (va_A (zW G d ab ao t b0 b1 e0 e1 o0 o1 run) sz)) 0 0 (va_A (zW G d ab ao t b0 b1 e0 e1 o0 o1 run) sz) := by
  refine z_met (QK := zQv G (fun (u : Unit) => True) (fun (u : Unit) => zW G d ab ao t o0 o1 e0 e1 o0 o1 run)) (by decide) (Nat.le_of_ble_eq_true rfl) ?_
  intro p e s m below meth c_ A H ls hx hb hr hlocks hml hown hin hts hK hP hD hA hS hl
  have hown : s.vm.findClass RX0 = some m.cls := hown
  have hl : lv_has ls 2 [(0, .ref d), (1, .ref t)] := hl
  rcases run with _ | run
  · have hP : va_P G.1 vwCl [(d, .inr (0, [.ref ab, .ref ao, .null])), (ab, zB G (zby b0 b1)), (ao, zB G (zby o0 o1)), (t, .inr (1, [.long b0, .long b1, .long e0, .long e1, .long o0, .long o1, .int (nI 0)]))] H := hP
    have hD : va_D A [(d, .inr (0, [.ref ab, .ref ao, .null])), (ab, zB G (zby b0 b1)), (ao, zB G (zby o0 o1)), (t, .inr (1, [.long b0, .long b1, .long e0, .long e1, .long o0, .long o1, .int (nI 0)]))] := hD
    refine lv_aload_n hx hb dX0_again_0 rfl (lv_at hl 0 rfl) ?_
    refine z_Vv (As := []) (rest := []) (wc := [(d, .inr (0, [.ref ab, .ref ao, .null])), (ab, zB G (zby b0 b1)), (ao, zB G (zby o0 o1))]) (wr := [(t, .inr (1, [.long b0, .long b1, .long e0, .long e1, .long o0, .long o1, .int (nI 0)]))]) ⟨hx, hb, hml, hown, hts⟩ (met_desk_again l G H.size d ab ao .null (jhi b0) (jlo b0) (jhi b1) (jlo b1) (jhi o0) (jlo o0) (jhi o1) (jlo o1)) (cwV 0 hts (lw_V q204 q205 q206 q1 q207) rfl rfl rfl (by decide +kernel) ⟨Nat.le_of_ble_eq_true rfl, Nat.le_of_ble_eq_true rfl⟩) hK hP hD hS hA (z_ix [0, 1, 2] [3] rfl rfl rfl rfl rfl (by decide)) 0 0 (T := TX1) (N := 3) rfl rfl rfl hl.1 rfl (Nat.le_of_ble_eq_true rfl) dX0_again_1 ⟨Nat.le_of_ble_eq_true rfl, Nat.le_of_ble_eq_true rfl⟩ (fun u H locs hw hP hD hS => ?_)
    have hP : va_P G.1 vwCl [(t, .inr (1, [.long b0, .long b1, .long e0, .long e1, .long o0, .long o1, .int (nI 0)])), (d, .inr (0, [.ref ab, .ref ao, .null])), (ab, zB G (zby o0 o1)), (ao, zB G (zby o0 o1))] H := hP
    have hD : va_D A [(t, .inr (1, [.long b0, .long b1, .long e0, .long e1, .long o0, .long o1, .int (nI 0)])), (d, .inr (0, [.ref ab, .ref ao, .null])), (ab, zB G (zby o0 o1)), (ao, zB G (zby o0 o1))] := hD
    refine lv_aload_n hx hb dX0_again_4 rfl (lv_at hl 1 rfl) ?_
    refine lv_aload_n hx hb dX0_again_5 rfl (lv_at hl 1 rfl) ?_
    refine va_get (D := G.1) (ci := 1) (v := .long o0) (C := RX2) (T := TX2) (N := 7) hx hb hts in_X2 hown hK hP 0 rfl rfl 4 (by decide) (hts _ q147) (fun _ h9 => h9) rfl dX0_again_6 ?_
    refine va_put (D := G.1) (ci := 1) (v := .long o0) (ty := .long) (C := RX2) (T := TX2) (N := 7) hx hb hts in_X2 tyX2 tyX2_ok nmX2 hown hK hP hD hS 0 rfl rfl 0 (by decide) (hts _ q143) (fun _ h9 => h9) rfl (by decide +kernel) rfl rfl (Nat.le_of_ble_eq_true rfl) dX0_again_9 (fun H locs hP hD hS => ?_)
    have hP : va_P G.1 vwCl [(t, .inr (1, [.long o0, .long b1, .long e0, .long e1, .long o0, .long o1, .int (nI 0)])), (d, .inr (0, [.ref ab, .ref ao, .null])), (ab, zB G (zby o0 o1)), (ao, zB G (zby o0 o1))] H := hP
    have hD : va_D A [(t, .inr (1, [.long o0, .long b1, .long e0, .long e1, .long o0, .long o1, .int (nI 0)])), (d, .inr (0, [.ref ab, .ref ao, .null])), (ab, zB G (zby o0 o1)), (ao, zB G (zby o0 o1))] := hD
    refine lv_aload_n hx hb dX0_again_12 rfl (lv_at hl 1 rfl) ?_
    refine lv_aload_n hx hb dX0_again_13 rfl (lv_at hl 1 rfl) ?_
    refine va_get (D := G.1) (ci := 1) (v := .long o1) (C := RX2) (T := TX2) (N := 7) hx hb hts in_X2 hown hK hP 0 rfl rfl 5 (by decide) (hts _ q148) (fun _ h9 => h9) rfl dX0_again_14 ?_
    refine va_put (D := G.1) (ci := 1) (v := .long o1) (ty := .long) (C := RX2) (T := TX2) (N := 7) hx hb hts in_X2 tyX2 tyX2_ok nmX2 hown hK hP hD hS 0 rfl rfl 1 (by decide) (hts _ q144) (fun _ h9 => h9) rfl (by decide +kernel) rfl rfl (Nat.le_of_ble_eq_true rfl) dX0_again_17 (fun H locs hP hD hS => ?_)
    have hP : va_P G.1 vwCl [(t, .inr (1, [.long o0, .long o1, .long e0, .long e1, .long o0, .long o1, .int (nI 0)])), (d, .inr (0, [.ref ab, .ref ao, .null])), (ab, zB G (zby o0 o1)), (ao, zB G (zby o0 o1))] H := hP
    have hD : va_D A [(t, .inr (1, [.long o0, .long o1, .long e0, .long e1, .long o0, .long o1, .int (nI 0)])), (d, .inr (0, [.ref ab, .ref ao, .null])), (ab, zB G (zby o0 o1)), (ao, zB G (zby o0 o1))] := hD
    have hP := hP.sub (ws' := [(d, .inr (0, [.ref ab, .ref ao, .null])), (ab, zB G (zby o0 o1)), (ao, zB G (zby o0 o1)), (t, .inr (1, [.long o0, .long o1, .long e0, .long e1, .long o0, .long o1, .int (nI 0)]))]) [1, 2, 3, 0] rfl
    have hD := hD.sub (ws' := [(d, .inr (0, [.ref ab, .ref ao, .null])), (ab, zB G (zby o0 o1)), (ao, zB G (zby o0 o1)), (t, .inr (1, [.long o0, .long o1, .long e0, .long e1, .long o0, .long o1, .int (nI 0)]))]) [1, 2, 3, 0] (by decide) rfl
    exact z_vret () hx hb hr hlocks hK hP hD hS rfl trivial (Nat.le_of_ble_eq_true rfl) (Nat.le_of_ble_eq_true rfl) dX0_again_20
  · have hP : va_P G.1 vwCl [(d, .inr (0, [.ref ab, .ref ao, .ref run.1])), (ab, zB G (zby b0 b1)), (ao, zB G (zby o0 o1)), (t, .inr (1, [.long b0, .long b1, .long e0, .long e1, .long o0, .long o1, .int (nI 1)])), (run.1, .inr (2, [.ref run.2])), (run.2, zL2 G e0 e1)] H := hP
    have hD : va_D A [(d, .inr (0, [.ref ab, .ref ao, .ref run.1])), (ab, zB G (zby b0 b1)), (ao, zB G (zby o0 o1)), (t, .inr (1, [.long b0, .long b1, .long e0, .long e1, .long o0, .long o1, .int (nI 1)])), (run.1, .inr (2, [.ref run.2])), (run.2, zL2 G e0 e1)] := hD
    refine lv_aload_n hx hb dX0_again_0 rfl (lv_at hl 0 rfl) ?_
    refine z_Vv (As := []) (rest := []) (wc := [(d, .inr (0, [.ref ab, .ref ao, .ref run.1])), (ab, zB G (zby b0 b1)), (ao, zB G (zby o0 o1))]) (wr := [(t, .inr (1, [.long b0, .long b1, .long e0, .long e1, .long o0, .long o1, .int (nI 1)])), (run.1, .inr (2, [.ref run.2])), (run.2, zL2 G e0 e1)]) ⟨hx, hb, hml, hown, hts⟩ (met_desk_again l G H.size d ab ao (.ref run.1) (jhi b0) (jlo b0) (jhi b1) (jlo b1) (jhi o0) (jlo o0) (jhi o1) (jlo o1)) (cwV 0 hts (lw_V q204 q205 q206 q1 q207) rfl rfl rfl (by decide +kernel) ⟨Nat.le_of_ble_eq_true rfl, Nat.le_of_ble_eq_true rfl⟩) hK hP hD hS hA (z_ix [0, 1, 2] [3, 4, 5] rfl rfl rfl rfl rfl (by decide)) 0 0 (T := TX1) (N := 3) rfl rfl rfl hl.1 rfl (Nat.le_of_ble_eq_true rfl) dX0_again_1 ⟨Nat.le_of_ble_eq_true rfl, Nat.le_of_ble_eq_true rfl⟩ (fun u H locs hw hP hD hS => ?_)
    have hP : va_P G.1 vwCl [(t, .inr (1, [.long b0, .long b1, .long e0, .long e1, .long o0, .long o1, .int (nI 1)])), (run.1, .inr (2, [.ref run.2])), (run.2, zL2 G e0 e1), (d, .inr (0, [.ref ab, .ref ao, .ref run.1])), (ab, zB G (zby o0 o1)), (ao, zB G (zby o0 o1))] H := hP
    have hD : va_D A [(t, .inr (1, [.long b0, .long b1, .long e0, .long e1, .long o0, .long o1, .int (nI 1)])), (run.1, .inr (2, [.ref run.2])), (run.2, zL2 G e0 e1), (d, .inr (0, [.ref ab, .ref ao, .ref run.1])), (ab, zB G (zby o0 o1)), (ao, zB G (zby o0 o1))] := hD
    refine lv_aload_n hx hb dX0_again_4 rfl (lv_at hl 1 rfl) ?_
    refine lv_aload_n hx hb dX0_again_5 rfl (lv_at hl 1 rfl) ?_
    refine va_get (D := G.1) (ci := 1) (v := .long o0) (C := RX2) (T := TX2) (N := 7) hx hb hts in_X2 hown hK hP 0 rfl rfl 4 (by decide) (hts _ q147) (fun _ h9 => h9) rfl dX0_again_6 ?_
    refine va_put (D := G.1) (ci := 1) (v := .long o0) (ty := .long) (C := RX2) (T := TX2) (N := 7) hx hb hts in_X2 tyX2 tyX2_ok nmX2 hown hK hP hD hS 0 rfl rfl 0 (by decide) (hts _ q143) (fun _ h9 => h9) rfl (by decide +kernel) rfl rfl (Nat.le_of_ble_eq_true rfl) dX0_again_9 (fun H locs hP hD hS => ?_)
    have hP : va_P G.1 vwCl [(t, .inr (1, [.long o0, .long b1, .long e0, .long e1, .long o0, .long o1, .int (nI 1)])), (run.1, .inr (2, [.ref run.2])), (run.2, zL2 G e0 e1), (d, .inr (0, [.ref ab, .ref ao, .ref run.1])), (ab, zB G (zby o0 o1)), (ao, zB G (zby o0 o1))] H := hP
    have hD : va_D A [(t, .inr (1, [.long o0, .long b1, .long e0, .long e1, .long o0, .long o1, .int (nI 1)])), (run.1, .inr (2, [.ref run.2])), (run.2, zL2 G e0 e1), (d, .inr (0, [.ref ab, .ref ao, .ref run.1])), (ab, zB G (zby o0 o1)), (ao, zB G (zby o0 o1))] := hD
    refine lv_aload_n hx hb dX0_again_12 rfl (lv_at hl 1 rfl) ?_
    refine lv_aload_n hx hb dX0_again_13 rfl (lv_at hl 1 rfl) ?_
    refine va_get (D := G.1) (ci := 1) (v := .long o1) (C := RX2) (T := TX2) (N := 7) hx hb hts in_X2 hown hK hP 0 rfl rfl 5 (by decide) (hts _ q148) (fun _ h9 => h9) rfl dX0_again_14 ?_
    refine va_put (D := G.1) (ci := 1) (v := .long o1) (ty := .long) (C := RX2) (T := TX2) (N := 7) hx hb hts in_X2 tyX2 tyX2_ok nmX2 hown hK hP hD hS 0 rfl rfl 1 (by decide) (hts _ q144) (fun _ h9 => h9) rfl (by decide +kernel) rfl rfl (Nat.le_of_ble_eq_true rfl) dX0_again_17 (fun H locs hP hD hS => ?_)
    have hP : va_P G.1 vwCl [(t, .inr (1, [.long o0, .long o1, .long e0, .long e1, .long o0, .long o1, .int (nI 1)])), (run.1, .inr (2, [.ref run.2])), (run.2, zL2 G e0 e1), (d, .inr (0, [.ref ab, .ref ao, .ref run.1])), (ab, zB G (zby o0 o1)), (ao, zB G (zby o0 o1))] H := hP
    have hD : va_D A [(t, .inr (1, [.long o0, .long o1, .long e0, .long e1, .long o0, .long o1, .int (nI 1)])), (run.1, .inr (2, [.ref run.2])), (run.2, zL2 G e0 e1), (d, .inr (0, [.ref ab, .ref ao, .ref run.1])), (ab, zB G (zby o0 o1)), (ao, zB G (zby o0 o1))] := hD
    have hP := hP.sub (ws' := [(d, .inr (0, [.ref ab, .ref ao, .ref run.1])), (ab, zB G (zby o0 o1)), (ao, zB G (zby o0 o1)), (t, .inr (1, [.long o0, .long o1, .long e0, .long e1, .long o0, .long o1, .int (nI 1)])), (run.1, .inr (2, [.ref run.2])), (run.2, zL2 G e0 e1)]) [3, 4, 5, 0, 1, 2] rfl
    have hD := hD.sub (ws' := [(d, .inr (0, [.ref ab, .ref ao, .ref run.1])), (ab, zB G (zby o0 o1)), (ao, zB G (zby o0 o1)), (t, .inr (1, [.long o0, .long o1, .long e0, .long e1, .long o0, .long o1, .int (nI 1)])), (run.1, .inr (2, [.ref run.2])), (run.2, zL2 G e0 e1)]) [3, 4, 5, 0, 1, 2] (by decide) rfl
    exact z_vret () hx hb hr hlocks hK hP hD hS rfl trivial (Nat.le_of_ble_eq_true rfl) (Nat.le_of_ble_eq_true rfl) dX0_again_20
set_option maxHeartbeats 4000000 in
set_option maxRecDepth 100000 in
/-- power(d, t, hi, lo) -/
theorem met_lpower (l : Launch) (G : z_G) (sz : Nat) (d ab ao t : Nat) (b0 b1 e0 e1 o0 o1 : Int64) (run : Option (Nat × Nat)) (hi lo : Int32) : Met l yX0_power (ws_ yX0_power cX0_power 4 (some .boolean)) ({ frames := 6, cells := 192, slots := 510, locals := 167 }) (zPre G [.ref d, .ref t, .int hi, .int lo] sz (zW G d ab ao t b0 b1 e0 e1 o0 o1 run)) (zQi G (fun (r : Int32) (u : Unit) => r = nI 1) (fun (u : Unit) => zW G d ab ao t b0 b1 e0 e1 ((zO hi lo e0 e1 o0 o1 run).1) ((zO hi lo e0 e1 o0 o1 run).2) run) (va_A (zW G d ab ao t b0 b1 e0 e1 o0 o1 run) sz)) 192 510 (va_A (zW G d ab ao t b0 b1 e0 e1 o0 o1 run) sz) := by
  refine z_met (QK := zQi G (fun (r : Int32) (u : Unit) => r = nI 1) (fun (u : Unit) => zW G d ab ao t b0 b1 e0 e1 ((zO hi lo e0 e1 o0 o1 run).1) ((zO hi lo e0 e1 o0 o1 run).2) run)) (by decide) (Nat.le_of_ble_eq_true rfl) ?_
  intro p e s m below meth c_ A H ls hx hb hr hlocks hml hown hin hts hK hP hD hA hS hl
  have hown : s.vm.findClass RX0 = some m.cls := hown
  have hl : lv_has ls 4 [(0, .ref d), (1, .ref t), (2, .int hi), (3, .int lo)] := hl
  rcases run with _ | run
  · have hP : va_P G.1 vwCl [(d, .inr (0, [.ref ab, .ref ao, .null])), (ab, zB G (zby b0 b1)), (ao, zB G (zby o0 o1)), (t, .inr (1, [.long b0, .long b1, .long e0, .long e1, .long o0, .long o1, .int (nI 0)]))] H := hP
    have hD : va_D A [(d, .inr (0, [.ref ab, .ref ao, .null])), (ab, zB G (zby b0 b1)), (ao, zB G (zby o0 o1)), (t, .inr (1, [.long b0, .long b1, .long e0, .long e1, .long o0, .long o1, .int (nI 0)]))] := hD
    refine lv_aload_n hx hb dX0_power_0 rfl (lv_at hl 0 rfl) ?_
    refine lv_iload_n hx hb dX0_power_1 rfl (lv_at hl 2 rfl) ?_
    refine lv_iload_n hx hb dX0_power_2 rfl (lv_at hl 3 rfl) ?_
    refine z_Vi (As := [.int hi, .int lo]) (rest := []) (wc := [(d, .inr (0, [.ref ab, .ref ao, .null]))]) (wr := [(ab, zB G (zby b0 b1)), (ao, zB G (zby o0 o1)), (t, .inr (1, [.long b0, .long b1, .long e0, .long e1, .long o0, .long o1, .int (nI 0)]))]) ⟨hx, hb, hml, hown, hts⟩ (met_desk_power0 l G H.size d (.ref ab) (.ref ao) hi lo) (cwV 2 hts (lw_V q69 q70 q71 q1 q72) rfl rfl rfl (by decide +kernel) ⟨Nat.le_of_ble_eq_true rfl, Nat.le_of_ble_eq_true rfl⟩) hK hP hD hS hA (z_ix [0] [1, 2, 3] rfl rfl rfl rfl rfl (by decide)) 0 0 (T := TX1) (N := 3) rfl rfl rfl hl.1 rfl (Nat.le_of_ble_eq_true rfl) dX0_power_3 ⟨Nat.le_of_ble_eq_true rfl, Nat.le_of_ble_eq_true rfl⟩ (fun r1 u H locs hw hP hD hS => ?_)
    have hP : va_P G.1 vwCl [(ab, zB G (zby b0 b1)), (ao, zB G (zby o0 o1)), (t, .inr (1, [.long b0, .long b1, .long e0, .long e1, .long o0, .long o1, .int (nI 0)])), (d, .inr (0, [.ref ab, .ref ao, .null]))] H := hP
    have hD : va_D A [(ab, zB G (zby b0 b1)), (ao, zB G (zby o0 o1)), (t, .inr (1, [.long b0, .long b1, .long e0, .long e1, .long o0, .long o1, .int (nI 0)])), (d, .inr (0, [.ref ab, .ref ao, .null]))] := hD
    have er1 : r1 = nI 0 := hw
    subst er1
    refine lv_aload_n hx hb dX0_power_6 rfl (lv_at hl 1 rfl) ?_
    refine va_get (D := G.1) (ci := 1) (v := .int (nI 0)) (C := RX2) (T := TX2) (N := 7) hx hb hts in_X2 hown hK hP 2 rfl rfl 6 (by decide) (hts _ q149) (fun _ h9 => h9) rfl dX0_power_7 ?_
    refine lv_icmp_eq (tgt := 15) hx hb dX0_power_10 (by decide) (fun _ => ?_) (fun c9 => absurd rfl c9)
    refine lv_aload_n hx hb dX0_power_15 rfl (lv_at hl 1 rfl) ?_
    refine va_get (D := G.1) (ci := 1) (v := .int (nI 0)) (C := RX2) (T := TX2) (N := 7) hx hb hts in_X2 hown hK hP 2 rfl rfl 6 (by decide) (hts _ q149) (fun _ h9 => h9) rfl dX0_power_16 ?_
    refine lv_if_eq (tgt := 31) hx hb dX0_power_19 (by decide) (fun _ => ?_) (fun c9 => absurd (by decide) c9)
    refine lv_iconst (v := nI 1) hx hb dX0_power_31 (by decide) ?_
    have hP := hP.sub (ws' := [(d, .inr (0, [.ref ab, .ref ao, .null])), (ab, zB G (zby b0 b1)), (ao, zB G (zby o0 o1)), (t, .inr (1, [.long b0, .long b1, .long e0, .long e1, .long o0, .long o1, .int (nI 0)]))]) [3, 0, 1, 2] rfl
    have hD := hD.sub (ws' := [(d, .inr (0, [.ref ab, .ref ao, .null])), (ab, zB G (zby b0 b1)), (ao, zB G (zby o0 o1)), (t, .inr (1, [.long b0, .long b1, .long e0, .long e1, .long o0, .long o1, .int (nI 0)]))]) [3, 0, 1, 2] (by decide) rfl
    exact z_zret () hx hb hr hlocks rfl hK hP hD hS rfl rfl (Nat.le_of_ble_eq_true rfl) (Nat.le_of_ble_eq_true rfl) dX0_power_32
  · have hP : va_P G.1 vwCl [(d, .inr (0, [.ref ab, .ref ao, .ref run.1])), (ab, zB G (zby b0 b1)), (ao, zB G (zby o0 o1)), (t, .inr (1, [.long b0, .long b1, .long e0, .long e1, .long o0, .long o1, .int (nI 1)])), (run.1, .inr (2, [.ref run.2])), (run.2, zL2 G e0 e1)] H := hP
    have hD : va_D A [(d, .inr (0, [.ref ab, .ref ao, .ref run.1])), (ab, zB G (zby b0 b1)), (ao, zB G (zby o0 o1)), (t, .inr (1, [.long b0, .long b1, .long e0, .long e1, .long o0, .long o1, .int (nI 1)])), (run.1, .inr (2, [.ref run.2])), (run.2, zL2 G e0 e1)] := hD
    refine lv_aload_n hx hb dX0_power_0 rfl (lv_at hl 0 rfl) ?_
    refine lv_iload_n hx hb dX0_power_1 rfl (lv_at hl 2 rfl) ?_
    refine lv_iload_n hx hb dX0_power_2 rfl (lv_at hl 3 rfl) ?_
    refine z_Vi (As := [.int hi, .int lo]) (rest := []) (wc := [(d, .inr (0, [.ref ab, .ref ao, .ref run.1])), (ao, zB G (zby o0 o1)), (run.1, .inr (2, [.ref run.2])), (run.2, zL2 G e0 e1)]) (wr := [(ab, zB G (zby b0 b1)), (t, .inr (1, [.long b0, .long b1, .long e0, .long e1, .long o0, .long o1, .int (nI 1)]))]) ⟨hx, hb, hml, hown, hts⟩ (met_desk_power1 l G H.size d ao run.1 run.2 (.ref ab) hi lo e0 e1 (jhi o0) (jlo o0) (jhi o1) (jlo o1)) (cwV 2 hts (lw_V q69 q70 q71 q1 q72) rfl rfl rfl (by decide +kernel) ⟨Nat.le_of_ble_eq_true rfl, Nat.le_of_ble_eq_true rfl⟩) hK hP hD hS hA (z_ix [0, 2, 4, 5] [1, 3] rfl rfl rfl rfl rfl (by decide)) 0 0 (T := TX1) (N := 3) rfl rfl rfl hl.1 rfl (Nat.le_of_ble_eq_true rfl) dX0_power_3 ⟨Nat.le_of_ble_eq_true rfl, Nat.le_of_ble_eq_true rfl⟩ (fun r1 u H locs hw hP hD hS => ?_)
    have hP : va_P G.1 vwCl [(ab, zB G (zby b0 b1)), (t, .inr (1, [.long b0, .long b1, .long e0, .long e1, .long o0, .long o1, .int (nI 1)])), (d, .inr (0, [.ref ab, .ref ao, .ref run.1])), (ao, zB G (zby ((jE (jexp hi lo) e0 e1).1) ((jE (jexp hi lo) e0 e1).2))), (run.1, .inr (2, [.ref run.2])), (run.2, zL2 G e0 e1)] H := hP
    have hD : va_D A [(ab, zB G (zby b0 b1)), (t, .inr (1, [.long b0, .long b1, .long e0, .long e1, .long o0, .long o1, .int (nI 1)])), (d, .inr (0, [.ref ab, .ref ao, .ref run.1])), (ao, zB G (zby ((jE (jexp hi lo) e0 e1).1) ((jE (jexp hi lo) e0 e1).2))), (run.1, .inr (2, [.ref run.2])), (run.2, zL2 G e0 e1)] := hD
    have er1 : r1 = nI 1 := hw
    subst er1
    refine lv_aload_n hx hb dX0_power_6 rfl (lv_at hl 1 rfl) ?_
    refine va_get (D := G.1) (ci := 1) (v := .int (nI 1)) (C := RX2) (T := TX2) (N := 7) hx hb hts in_X2 hown hK hP 1 rfl rfl 6 (by decide) (hts _ q149) (fun _ h9 => h9) rfl dX0_power_7 ?_
    refine lv_icmp_eq (tgt := 15) hx hb dX0_power_10 (by decide) (fun _ => ?_) (fun c9 => absurd rfl c9)
    refine lv_aload_n hx hb dX0_power_15 rfl (lv_at hl 1 rfl) ?_
    refine va_get (D := G.1) (ci := 1) (v := .int (nI 1)) (C := RX2) (T := TX2) (N := 7) hx hb hts in_X2 hown hK hP 1 rfl rfl 6 (by decide) (hts _ q149) (fun _ h9 => h9) rfl dX0_power_16 ?_
    refine lv_if_eq (tgt := 31) hx hb dX0_power_19 (by decide) (fun c9 => absurd c9 (by decide)) (fun _ => ?_)
    refine lv_aload_n hx hb dX0_power_22 rfl (lv_at hl 1 rfl) ?_
    refine lv_iload_n hx hb dX0_power_23 rfl (lv_at hl 2 rfl) ?_
    refine lv_iload_n hx hb dX0_power_24 rfl (lv_at hl 3 rfl) ?_
    refine z_Sl (As := [.int hi, .int lo]) (rest := [.ref t]) (wc := []) (wr := [(ab, zB G (zby b0 b1)), (t, .inr (1, [.long b0, .long b1, .long e0, .long e1, .long o0, .long o1, .int (nI 1)])), (d, .inr (0, [.ref ab, .ref ao, .ref run.1])), (ao, zB G (zby ((jE (jexp hi lo) e0 e1).1) ((jE (jexp hi lo) e0 e1).2))), (run.1, .inr (2, [.ref run.2])), (run.2, zL2 G e0 e1)]) ⟨hx, hb, hml, hown, hts⟩ (met_exponent l G H.size hi lo) (va_cwS 2 hts (lw_S q189 q190 q0 q191) rfl rfl rfl (by decide +kernel) ⟨Nat.le_of_ble_eq_true rfl, Nat.le_of_ble_eq_true rfl⟩) hK hP hD hS hA (z_none _) rfl hl.1 rfl (Nat.le_of_ble_eq_true rfl) dX0_power_25 ⟨Nat.le_of_ble_eq_true rfl, Nat.le_of_ble_eq_true rfl⟩ (fun r2 u H locs hw hP hD hS => ?_)
    have hP : va_P G.1 vwCl [(ab, zB G (zby b0 b1)), (t, .inr (1, [.long b0, .long b1, .long e0, .long e1, .long o0, .long o1, .int (nI 1)])), (d, .inr (0, [.ref ab, .ref ao, .ref run.1])), (ao, zB G (zby ((jE (jexp hi lo) e0 e1).1) ((jE (jexp hi lo) e0 e1).2))), (run.1, .inr (2, [.ref run.2])), (run.2, zL2 G e0 e1)] H := hP
    have hD : va_D A [(ab, zB G (zby b0 b1)), (t, .inr (1, [.long b0, .long b1, .long e0, .long e1, .long o0, .long o1, .int (nI 1)])), (d, .inr (0, [.ref ab, .ref ao, .ref run.1])), (ao, zB G (zby ((jE (jexp hi lo) e0 e1).1) ((jE (jexp hi lo) e0 e1).2))), (run.1, .inr (2, [.ref run.2])), (run.2, zL2 G e0 e1)] := hD
    have er2 : r2 = jexp hi lo := hw
    subst er2
    refine z_Sv (As := [.ref t, .long (jexp hi lo)]) (rest := []) (wc := [(t, .inr (1, [.long b0, .long b1, .long e0, .long e1, .long o0, .long o1, .int (nI 1)]))]) (wr := [(ab, zB G (zby b0 b1)), (d, .inr (0, [.ref ab, .ref ao, .ref run.1])), (ao, zB G (zby ((jE (jexp hi lo) e0 e1).1) ((jE (jexp hi lo) e0 e1).2))), (run.1, .inr (2, [.ref run.2])), (run.2, zL2 G e0 e1)]) ⟨hx, hb, hml, hown, hts⟩ (met_raise l G H.size t b0 b1 e0 e1 o0 o1 (jexp hi lo) (.int (nI 1))) (va_cwS 2 hts (lw_S q193 q194 q0 q195) rfl rfl rfl (by decide +kernel) ⟨Nat.le_of_ble_eq_true rfl, Nat.le_of_ble_eq_true rfl⟩) hK hP hD hS hA (z_ix [1] [0, 2, 3, 4, 5] rfl rfl rfl rfl rfl (by decide)) rfl hl.1 rfl (Nat.le_of_ble_eq_true rfl) dX0_power_28 ⟨Nat.le_of_ble_eq_true rfl, Nat.le_of_ble_eq_true rfl⟩ (fun u H locs hw hP hD hS => ?_)
    have hP : va_P G.1 vwCl [(ab, zB G (zby b0 b1)), (d, .inr (0, [.ref ab, .ref ao, .ref run.1])), (ao, zB G (zby ((jE (jexp hi lo) e0 e1).1) ((jE (jexp hi lo) e0 e1).2))), (run.1, .inr (2, [.ref run.2])), (run.2, zL2 G e0 e1), (t, .inr (1, [.long b0, .long b1, .long e0, .long e1, .long ((jR (jexp hi lo) e0 e1).1), .long ((jR (jexp hi lo) e0 e1).2), .int (nI 1)]))] H := hP
    have hD : va_D A [(ab, zB G (zby b0 b1)), (d, .inr (0, [.ref ab, .ref ao, .ref run.1])), (ao, zB G (zby ((jE (jexp hi lo) e0 e1).1) ((jE (jexp hi lo) e0 e1).2))), (run.1, .inr (2, [.ref run.2])), (run.2, zL2 G e0 e1), (t, .inr (1, [.long b0, .long b1, .long e0, .long e1, .long ((jR (jexp hi lo) e0 e1).1), .long ((jR (jexp hi lo) e0 e1).2), .int (nI 1)]))] := hD
    rw [jR_jE _ _ _ (jexp_lt hi lo)] at hP hD
    have hP : va_P G.1 vwCl [(ab, zB G (zby b0 b1)), (d, .inr (0, [.ref ab, .ref ao, .ref run.1])), (ao, zB G (zby ((jE (jexp hi lo) e0 e1).1) ((jE (jexp hi lo) e0 e1).2))), (run.1, .inr (2, [.ref run.2])), (run.2, zL2 G e0 e1), (t, .inr (1, [.long b0, .long b1, .long e0, .long e1, .long ((jE (jexp hi lo) e0 e1).1), .long ((jE (jexp hi lo) e0 e1).2), .int (nI 1)]))] H := hP
    have hD : va_D A [(ab, zB G (zby b0 b1)), (d, .inr (0, [.ref ab, .ref ao, .ref run.1])), (ao, zB G (zby ((jE (jexp hi lo) e0 e1).1) ((jE (jexp hi lo) e0 e1).2))), (run.1, .inr (2, [.ref run.2])), (run.2, zL2 G e0 e1), (t, .inr (1, [.long b0, .long b1, .long e0, .long e1, .long ((jE (jexp hi lo) e0 e1).1), .long ((jE (jexp hi lo) e0 e1).2), .int (nI 1)]))] := hD
    refine lv_iconst (v := nI 1) hx hb dX0_power_31 (by decide) ?_
    have hP := hP.sub (ws' := [(d, .inr (0, [.ref ab, .ref ao, .ref run.1])), (ab, zB G (zby b0 b1)), (ao, zB G (zby ((jE (jexp hi lo) e0 e1).1) ((jE (jexp hi lo) e0 e1).2))), (t, .inr (1, [.long b0, .long b1, .long e0, .long e1, .long ((jE (jexp hi lo) e0 e1).1), .long ((jE (jexp hi lo) e0 e1).2), .int (nI 1)])), (run.1, .inr (2, [.ref run.2])), (run.2, zL2 G e0 e1)]) [1, 0, 2, 5, 3, 4] rfl
    have hD := hD.sub (ws' := [(d, .inr (0, [.ref ab, .ref ao, .ref run.1])), (ab, zB G (zby b0 b1)), (ao, zB G (zby ((jE (jexp hi lo) e0 e1).1) ((jE (jexp hi lo) e0 e1).2))), (t, .inr (1, [.long b0, .long b1, .long e0, .long e1, .long ((jE (jexp hi lo) e0 e1).1), .long ((jE (jexp hi lo) e0 e1).2), .int (nI 1)])), (run.1, .inr (2, [.ref run.2])), (run.2, zL2 G e0 e1)]) [1, 0, 2, 5, 3, 4] (by decide) rfl
    exact z_zret () hx hb hr hlocks rfl hK hP hD hS rfl rfl (Nat.le_of_ble_eq_true rfl) (Nat.le_of_ble_eq_true rfl) dX0_power_32
set_option maxHeartbeats 4000000 in
set_option maxRecDepth 100000 in
/-- shown(d, z, z2, from) -/
theorem met_shown (l : Launch) (G : z_G) (sz : Nat) (d ao : Nat) (v0 v2 : Value) (z z2 : Int64) (fr : Int32) : Met l yX0_shown (ws_ yX0_shown cX0_shown 8 (some .boolean)) ({ frames := 1, cells := 0, slots := 0, locals := 21 }) (zPre G [.ref d, .long z, .long z2, .int fr] sz [(d, .inr (0, [v0, .ref ao, v2])), (ao, zB G (zby z z2))]) (zQi G (fun (r : Int32) (u : Unit) => r = nI 1) (fun (u : Unit) => [(d, .inr (0, [v0, .ref ao, v2])), (ao, zB G (zby z z2))]) (va_A [(d, .inr (0, [v0, .ref ao, v2])), (ao, zB G (zby z z2))] sz)) 0 0 (va_A [(d, .inr (0, [v0, .ref ao, v2])), (ao, zB G (zby z z2))] sz) := by
  refine z_met (QK := zQi G (fun (r : Int32) (u : Unit) => r = nI 1) (fun (u : Unit) => [(d, .inr (0, [v0, .ref ao, v2])), (ao, zB G (zby z z2))])) (by decide) (Nat.le_of_ble_eq_true rfl) ?_
  intro p e s m below meth c A H ls hx hb hr hlocks hml hown hin hts hK hP hD hA hS hl
  have hown : s.vm.findClass RX0 = some m.cls := hown
  have hl : lv_has ls 8 [(0, .ref d), (1, .long z), (3, .long z2), (5, .int fr)] := hl
  have loop : ∀ (n i : Nat), i + n = 16 → ∀ (H : Heap) (locs : List Loc), va_P G.1 vwCl [(d, .inr (0, [v0, .ref ao, v2])), (ao, zB G (zby z z2))] H → va_D A [(d, .inr (0, [v0, .ref ao, v2])), (ao, zB G (zby z z2))] → va_S A s.heap H locs → ∀ ls : Array Slot, lv_has ls 8 [(0, .ref d), (1, .long z), (3, .long z2), (5, .int fr), (6, .int (nI i))] → W p l e ({ frames := 1, cells := 0, slots := 0, locals := 21 } : Room) s m ([.ref d, .long z, .long z2, .int fr] : List Value).toArray below meth c H locs (0) (0) (MQ below (zQi G (fun (r : Int32) (u : Unit) => r = nI 1) (fun (u : Unit) => [(d, .inr (0, [v0, .ref ao, v2])), (ao, zB G (zby z z2))]) A) ([.ref d, .long z, .long z2, .int fr] : List Value).toArray s 0 0 A) (F0 m 3 ls []) := by
    intro n
    induction n with
    | zero =>
      intro i hi H locs hP hD hS ls hl
      have e16 : i = 16 := by omega
      subst e16
      refine lv_iload hx hb dX0_shown_3 (lv_at hl 4 rfl) ?_
      refine lv_bipush (v := nI 16) hx hb dX0_shown_5 (by decide) ?_
      refine lv_icmp_ge (tgt := 75) hx hb dX0_shown_7 (by decide) (fun _ => ?_) (fun c_ => absurd (by decide +kernel) c_)
      refine lv_iconst (v := nI 1) hx hb dX0_shown_75 (by decide) ?_
      exact z_zret () hx hb hr hlocks rfl hK hP hD hS rfl rfl (Nat.le_of_ble_eq_true rfl) (Nat.le_of_ble_eq_true rfl) dX0_shown_76
    | succ n ih =>
      intro i hi H locs hP hD hS ls hl
      refine lv_iload hx hb dX0_shown_3 (lv_at hl 4 rfl) ?_
      refine lv_bipush (v := nI 16) hx hb dX0_shown_5 (by decide) ?_
      refine lv_icmp_ge (tgt := 75) hx hb dX0_shown_7 (by decide) (fun c_ => absurd c_ (nI_ge (by omega) (by decide))) (fun _ => ?_)
      refine lv_iload hx hb dX0_shown_10 (lv_at hl 3 rfl) ?_
      refine lv_iload hx hb dX0_shown_12 (lv_at hl 4 rfl) ?_
      refine lv_iadd hx hb dX0_shown_14 ?_
      refine lv_bipush (v := nI 15) hx hb dX0_shown_15 (by decide) ?_
      refine lv_iand hx hb dX0_shown_17 ?_
      obtain ⟨k, hk16, hk⟩ := nI_and15 (fr + nI i)
      rw [hk]
      refine lv_istore (lv' := [(7, .int (nI k)), (0, .ref d), (1, .long z), (3, .long z2), (5, .int fr), (6, .int (nI i))]) hx hb dX0_shown_18 hl (by decide) rfl (fun ls hl => ?_)
      refine lv_aload_n hx hb dX0_shown_20 rfl (lv_at hl 1 rfl) ?_
      refine lv_iload hx hb dX0_shown_21 (lv_at hl 4 rfl) ?_
      refine lv_iload hx hb dX0_shown_23 (lv_at hl 5 rfl) ?_
      refine lv_iadd hx hb dX0_shown_25 ?_
      refine z_Vi (As := [.int (fr + (nI i))]) (rest := []) (wc := [(d, .inr (0, [v0, .ref ao, v2])), (ao, zB G (zby z z2))]) (wr := []) ⟨hx, hb, hml, hown, hts⟩ (met_desk_out l G H.size d ao v0 v2 (zby z z2) (fr + nI i) k hk16 hk) (cwV 1 hts (lw_V q171 q172 q173 q1 q174) rfl rfl rfl (by decide +kernel) ⟨Nat.le_of_ble_eq_true rfl, Nat.le_of_ble_eq_true rfl⟩) hK hP hD hS hA (z_whole _) 0 0 (T := TX1) (N := 3) rfl rfl rfl hl.1 rfl (Nat.le_of_ble_eq_true rfl) dX0_shown_26 ⟨Nat.le_of_ble_eq_true rfl, Nat.le_of_ble_eq_true rfl⟩ (fun r1 u H locs hw hP hD hS => ?_)
      have hP : va_P G.1 vwCl [(d, .inr (0, [v0, .ref ao, v2])), (ao, zB G (zby z z2))] H := hP
      have hD : va_D A [(d, .inr (0, [v0, .ref ao, v2])), (ao, zB G (zby z z2))] := hD
      have er1 : r1 = zby z z2 k &&& nI 255 := hw
      rw [zby_show z z2 k hk16] at er1
      have jn : W p l e ({ frames := 1, cells := 0, slots := 0, locals := 21 } : Room) s m ([.ref d, .long z, .long z2, .int fr] : List Value).toArray below meth c H locs (0) (0) (MQ below (zQi G (fun (r : Int32) (u : Unit) => r = nI 1) (fun (u : Unit) => [(d, .inr (0, [v0, .ref ao, v2])), (ao, zB G (zby z z2))]) A) ([.ref d, .long z, .long z2, .int fr] : List Value).toArray s 0 0 A) (F0 m 59 ls [.long (jsh z z2 k), .int r1]) := by
        refine lv_ldc2 (v := 255) hx hb hown (hts _ q175) dX0_shown_59 ?_
        refine lv_land hx hb dX0_shown_62 ?_
        refine lv_l2i (v := ((jsh z z2 k) &&& 255).toInt32) hx hb dX0_shown_63 rfl ?_
        refine lv_icmp_eq (tgt := 69) hx hb dX0_shown_64 (by decide) (fun _ => ?_) (fun c9 => absurd er1 c9)
        refine lv_iinc (v := nI (i + 1)) (lv' := [(6, .int (nI (i + 1))), (7, .int (nI k)), (0, .ref d), (1, .long z), (3, .long z2), (5, .int fr)]) hx hb dX0_shown_69 hl (k := 5) rfl (nI_add _ _) (by decide) rfl (fun ls hl => ?_)
        refine lv_goto (tgt := 3) hx hb dX0_shown_72 (by decide) ?_
        exact ih (i + 1) (by omega) H _ hP hD hS ls (lv_sub hl [2, 3, 4, 5, 0] rfl)
      refine lv_iload hx hb dX0_shown_29 (lv_at hl 0 rfl) ?_
      refine lv_bipush (v := nI 8) hx hb dX0_shown_31 (by decide) ?_
      refine lv_icmp_ge (tgt := 49) hx hb dX0_shown_33 (by decide) (fun c_ => ?_) (fun c_ => ?_)
      · have hk8 : ¬ k < 8 := by have := (nI_leI (by decide) (by omega)).mp c_; omega
        refine lv_lload_n hx hb dX0_shown_49 rfl (lv_at hl 3 rfl) ?_
        refine lv_bipush (v := nI 120) hx hb dX0_shown_50 (by decide) ?_
        refine lv_bipush (v := nI 8) hx hb dX0_shown_52 (by decide) ?_
        refine lv_iload hx hb dX0_shown_54 (lv_at hl 0 rfl) ?_
        refine lv_imul hx hb dX0_shown_56 ?_
        rw [nI_mul]
        refine lv_isub hx hb dX0_shown_57 ?_
        rw [nI_sub (show 8 * k ≤ 120 by omega)]
        refine lv_lushr (v := jsh z z2 k) hx hb dX0_shown_58 (by unfold jsh; rw [if_neg hk8]; rfl) ?_
        exact jn
      · have hk8 : k < 8 := Nat.lt_of_not_le (fun h => c_ ((nI_leI (by decide) (by omega)).mpr h))
        refine lv_lload_n hx hb dX0_shown_36 rfl (lv_at hl 2 rfl) ?_
        refine lv_bipush (v := nI 56) hx hb dX0_shown_37 (by decide) ?_
        refine lv_bipush (v := nI 8) hx hb dX0_shown_39 (by decide) ?_
        refine lv_iload hx hb dX0_shown_41 (lv_at hl 0 rfl) ?_
        refine lv_imul hx hb dX0_shown_43 ?_
        rw [nI_mul]
        refine lv_isub hx hb dX0_shown_44 ?_
        rw [nI_sub (show 8 * k ≤ 56 by omega)]
        refine lv_lushr (v := jsh z z2 k) hx hb dX0_shown_45 (by unfold jsh; rw [if_pos hk8]; rfl) ?_
        refine lv_goto (tgt := 59) hx hb dX0_shown_46 (by decide) ?_
        exact jn
  refine lv_iconst (v := nI 0) hx hb dX0_shown_0 (by decide) ?_
  refine lv_istore (lv' := [(6, .int (nI 0)), (0, .ref d), (1, .long z), (3, .long z2), (5, .int fr)]) hx hb dX0_shown_1 hl (by decide) rfl (fun ls hl => ?_)
  exact loop 16 0 rfl H _ hP hD hS ls (lv_sub hl [1, 2, 3, 4, 0] rfl)
theorem nI_and7 (x : Int32) : ∃ k, k < 8 ∧ x &&& nI 7 = nI k := by
  refine ⟨x.toBitVec.toNat % 8, Nat.mod_lt _ (by decide), ?_⟩
  apply Int32.toBitVec_inj.mp
  apply BitVec.eq_of_toNat_eq
  rw [Int32.toBitVec_and, BitVec.toNat_and, show (nI 7).toBitVec.toNat = 2 ^ 3 - 1 from by decide +kernel, Nat.and_two_pow_sub_one_eq_mod]
  show _ = (BitVec.ofNat 32 (x.toBitVec.toNat % 8)).toNat
  rw [BitVec.toNat_ofNat, Nat.mod_eq_of_lt (by omega : x.toBitVec.toNat % 8 < 2 ^ 32)]
set_option maxHeartbeats 4000000 in
set_option maxRecDepth 100000 in
/-- turn -/
theorem met_turn (l : Launch) (G : z_G) (sz : Nat) (d ab ao t : Nat) (b0 b1 e0 e1 o0 o1 : Int64) (run : Option (Nat × Nat)) (kd a b c f fr : Int32) : Met l yX0_turn (ws_ yX0_turn cX0_turn 9 (some .boolean)) ({ frames := 7, cells := 195, slots := 529, locals := 190 }) (zPre G [.ref d, .ref t, .int kd, .int a, .int b, .int c, .int f, .int fr] sz (zW G d ab ao t b0 b1 e0 e1 o0 o1 run)) (zQi G (fun (r : Int32) (u : zS) => r = nI 1) (fun (u : zS) => zWs G d ab ao t u) (va_A (zW G d ab ao t b0 b1 e0 e1 o0 o1 run) sz)) 195 529 (va_A (zW G d ab ao t b0 b1 e0 e1 o0 o1 run) sz) := by
  refine z_met (QK := zQi G (fun (r : Int32) (u : zS) => r = nI 1) (fun (u : zS) => zWs G d ab ao t u)) (by decide) (Nat.le_of_ble_eq_true rfl) ?_
  intro p e s m below meth c_ A H ls hx hb hr hlocks hml hown hin hts hK hP hD hA hS hl
  have hown : s.vm.findClass RX0 = some m.cls := hown
  have hl : lv_has ls 9 [(0, .ref d), (1, .ref t), (2, .int kd), (3, .int a), (4, .int b), (5, .int c), (6, .int f), (7, .int fr)] := hl
  have jn : ∀ (k n : Nat) (b0 b1 e0 e1 o0 o1 : Int64) (run : Option (Nat × Nat)), k ≤ 195 → n ≤ 529 → ∀ (H : Heap) (locs : List Loc), va_P G.1 vwCl (zW G d ab ao t b0 b1 e0 e1 o0 o1 run) H → va_D A (zW G d ab ao t b0 b1 e0 e1 o0 o1 run) → va_S A s.heap H locs → ∀ ls : Array Slot, lv_has ls 9 [(0, .ref d), (1, .ref t), (7, .int fr), (8, .int (nI 1))] → W p l e ({ frames := 7, cells := 195, slots := 529, locals := 190 } : Room) s m ([.ref d, .ref t, .int kd, .int a, .int b, .int c, .int f, .int fr] : List Value).toArray below meth c_ H locs (k) (n) (MQ below (zQi G (fun (r : Int32) (u : zS) => r = nI 1) (fun (u : zS) => zWs G d ab ao t u) A) ([.ref d, .ref t, .int kd, .int a, .int b, .int c, .int f, .int fr] : List Value).toArray s 195 529 A) (F0 m 181 ls []) := by
    intro k n b0 b1 e0 e1 o0 o1 run hk hn H locs hP hD hS ls hl
    rcases run with _ | run
    · have hP : va_P G.1 vwCl [(d, .inr (0, [.ref ab, .ref ao, .null])), (ab, zB G (zby b0 b1)), (ao, zB G (zby o0 o1)), (t, .inr (1, [.long b0, .long b1, .long e0, .long e1, .long o0, .long o1, .int (nI 0)]))] H := hP
      have hD : va_D A [(d, .inr (0, [.ref ab, .ref ao, .null])), (ab, zB G (zby b0 b1)), (ao, zB G (zby o0 o1)), (t, .inr (1, [.long b0, .long b1, .long e0, .long e1, .long o0, .long o1, .int (nI 0)]))] := hD
      refine lv_iload hx hb dX0_turn_181 (lv_at hl 3 rfl) ?_
      refine lv_if_eq (tgt := 207) hx hb dX0_turn_183 (by decide) (fun c9 => absurd c9 (by decide)) (fun _ => ?_)
      refine lv_aload_n hx hb dX0_turn_186 rfl (lv_at hl 0 rfl) ?_
      refine lv_aload_n hx hb dX0_turn_187 rfl (lv_at hl 1 rfl) ?_
      refine va_get (D := G.1) (ci := 1) (v := .long o0) (C := RX2) (T := TX2) (N := 7) hx hb hts in_X2 hown hK hP 3 rfl rfl 4 (by decide) (hts _ q147) (fun _ h9 => h9) rfl dX0_turn_188 ?_
      refine lv_aload_n hx hb dX0_turn_191 rfl (lv_at hl 1 rfl) ?_
      refine va_get (D := G.1) (ci := 1) (v := .long o1) (C := RX2) (T := TX2) (N := 7) hx hb hts in_X2 hown hK hP 3 rfl rfl 5 (by decide) (hts _ q148) (fun _ h9 => h9) rfl dX0_turn_192 ?_
      refine lv_iload hx hb dX0_turn_195 (lv_at hl 2 rfl) ?_
      refine z_Si (As := [.ref d, .long o0, .long o1, .int fr]) (rest := []) (wc := [(d, .inr (0, [.ref ab, .ref ao, .null])), (ao, zB G (zby o0 o1))]) (wr := [(ab, zB G (zby b0 b1)), (t, .inr (1, [.long b0, .long b1, .long e0, .long e1, .long o0, .long o1, .int (nI 0)]))]) ⟨hx, hb, hml, hown, hts⟩ (met_shown l G H.size d ao (.ref ab) .null o0 o1 fr) (va_cwS 4 hts (lw_S q168 q169 q0 q170) rfl rfl rfl (by decide +kernel) ⟨Nat.le_of_ble_eq_true rfl, Nat.le_of_ble_eq_true rfl⟩) hK hP hD hS hA (z_ix [0, 2] [1, 3] rfl rfl rfl rfl rfl (by decide)) rfl hl.1 rfl (Nat.le_of_ble_eq_true rfl) dX0_turn_197 ⟨by show k + 0 ≤ 195; omega, by show n + 0 ≤ 529; omega⟩ (fun r1 u H locs hw hP hD hS => ?_)
      have hP : va_P G.1 vwCl [(ab, zB G (zby b0 b1)), (t, .inr (1, [.long b0, .long b1, .long e0, .long e1, .long o0, .long o1, .int (nI 0)])), (d, .inr (0, [.ref ab, .ref ao, .null])), (ao, zB G (zby o0 o1))] H := hP
      have hD : va_D A [(ab, zB G (zby b0 b1)), (t, .inr (1, [.long b0, .long b1, .long e0, .long e1, .long o0, .long o1, .int (nI 0)])), (d, .inr (0, [.ref ab, .ref ao, .null])), (ao, zB G (zby o0 o1))] := hD
      have er1 : r1 = nI 1 := hw
      subst er1
      refine lv_if_eq (tgt := 207) hx hb dX0_turn_200 (by decide) (fun c9 => absurd c9 (by decide)) (fun _ => ?_)
      refine lv_iconst (v := nI 1) hx hb dX0_turn_203 (by decide) ?_
      refine lv_goto (tgt := 208) hx hb dX0_turn_204 (by decide) ?_
      have hP := hP.sub (ws' := [(d, .inr (0, [.ref ab, .ref ao, .null])), (ab, zB G (zby b0 b1)), (ao, zB G (zby o0 o1)), (t, .inr (1, [.long b0, .long b1, .long e0, .long e1, .long o0, .long o1, .int (nI 0)]))]) [2, 0, 3, 1] rfl
      have hD := hD.sub (ws' := [(d, .inr (0, [.ref ab, .ref ao, .null])), (ab, zB G (zby b0 b1)), (ao, zB G (zby o0 o1)), (t, .inr (1, [.long b0, .long b1, .long e0, .long e1, .long o0, .long o1, .int (nI 0)]))]) [2, 0, 3, 1] (by decide) rfl
      exact z_zret (none, b0, b1, e0, e1, o0, o1) hx hb hr hlocks rfl hK hP hD hS rfl rfl hk hn dX0_turn_208
    · have hP : va_P G.1 vwCl [(d, .inr (0, [.ref ab, .ref ao, .ref run.1])), (ab, zB G (zby b0 b1)), (ao, zB G (zby o0 o1)), (t, .inr (1, [.long b0, .long b1, .long e0, .long e1, .long o0, .long o1, .int (nI 1)])), (run.1, .inr (2, [.ref run.2])), (run.2, zL2 G e0 e1)] H := hP
      have hD : va_D A [(d, .inr (0, [.ref ab, .ref ao, .ref run.1])), (ab, zB G (zby b0 b1)), (ao, zB G (zby o0 o1)), (t, .inr (1, [.long b0, .long b1, .long e0, .long e1, .long o0, .long o1, .int (nI 1)])), (run.1, .inr (2, [.ref run.2])), (run.2, zL2 G e0 e1)] := hD
      refine lv_iload hx hb dX0_turn_181 (lv_at hl 3 rfl) ?_
      refine lv_if_eq (tgt := 207) hx hb dX0_turn_183 (by decide) (fun c9 => absurd c9 (by decide)) (fun _ => ?_)
      refine lv_aload_n hx hb dX0_turn_186 rfl (lv_at hl 0 rfl) ?_
      refine lv_aload_n hx hb dX0_turn_187 rfl (lv_at hl 1 rfl) ?_
      refine va_get (D := G.1) (ci := 1) (v := .long o0) (C := RX2) (T := TX2) (N := 7) hx hb hts in_X2 hown hK hP 3 rfl rfl 4 (by decide) (hts _ q147) (fun _ h9 => h9) rfl dX0_turn_188 ?_
      refine lv_aload_n hx hb dX0_turn_191 rfl (lv_at hl 1 rfl) ?_
      refine va_get (D := G.1) (ci := 1) (v := .long o1) (C := RX2) (T := TX2) (N := 7) hx hb hts in_X2 hown hK hP 3 rfl rfl 5 (by decide) (hts _ q148) (fun _ h9 => h9) rfl dX0_turn_192 ?_
      refine lv_iload hx hb dX0_turn_195 (lv_at hl 2 rfl) ?_
      refine z_Si (As := [.ref d, .long o0, .long o1, .int fr]) (rest := []) (wc := [(d, .inr (0, [.ref ab, .ref ao, .ref run.1])), (ao, zB G (zby o0 o1))]) (wr := [(ab, zB G (zby b0 b1)), (t, .inr (1, [.long b0, .long b1, .long e0, .long e1, .long o0, .long o1, .int (nI 1)])), (run.1, .inr (2, [.ref run.2])), (run.2, zL2 G e0 e1)]) ⟨hx, hb, hml, hown, hts⟩ (met_shown l G H.size d ao (.ref ab) (.ref run.1) o0 o1 fr) (va_cwS 4 hts (lw_S q168 q169 q0 q170) rfl rfl rfl (by decide +kernel) ⟨Nat.le_of_ble_eq_true rfl, Nat.le_of_ble_eq_true rfl⟩) hK hP hD hS hA (z_ix [0, 2] [1, 3, 4, 5] rfl rfl rfl rfl rfl (by decide)) rfl hl.1 rfl (Nat.le_of_ble_eq_true rfl) dX0_turn_197 ⟨by show k + 0 ≤ 195; omega, by show n + 0 ≤ 529; omega⟩ (fun r1 u H locs hw hP hD hS => ?_)
      have hP : va_P G.1 vwCl [(ab, zB G (zby b0 b1)), (t, .inr (1, [.long b0, .long b1, .long e0, .long e1, .long o0, .long o1, .int (nI 1)])), (run.1, .inr (2, [.ref run.2])), (run.2, zL2 G e0 e1), (d, .inr (0, [.ref ab, .ref ao, .ref run.1])), (ao, zB G (zby o0 o1))] H := hP
      have hD : va_D A [(ab, zB G (zby b0 b1)), (t, .inr (1, [.long b0, .long b1, .long e0, .long e1, .long o0, .long o1, .int (nI 1)])), (run.1, .inr (2, [.ref run.2])), (run.2, zL2 G e0 e1), (d, .inr (0, [.ref ab, .ref ao, .ref run.1])), (ao, zB G (zby o0 o1))] := hD
      have er1 : r1 = nI 1 := hw
      subst er1
      refine lv_if_eq (tgt := 207) hx hb dX0_turn_200 (by decide) (fun c9 => absurd c9 (by decide)) (fun _ => ?_)
      refine lv_iconst (v := nI 1) hx hb dX0_turn_203 (by decide) ?_
      refine lv_goto (tgt := 208) hx hb dX0_turn_204 (by decide) ?_
      have hP := hP.sub (ws' := [(d, .inr (0, [.ref ab, .ref ao, .ref run.1])), (ab, zB G (zby b0 b1)), (ao, zB G (zby o0 o1)), (t, .inr (1, [.long b0, .long b1, .long e0, .long e1, .long o0, .long o1, .int (nI 1)])), (run.1, .inr (2, [.ref run.2])), (run.2, zL2 G e0 e1)]) [4, 0, 5, 1, 2, 3] rfl
      have hD := hD.sub (ws' := [(d, .inr (0, [.ref ab, .ref ao, .ref run.1])), (ab, zB G (zby b0 b1)), (ao, zB G (zby o0 o1)), (t, .inr (1, [.long b0, .long b1, .long e0, .long e1, .long o0, .long o1, .int (nI 1)])), (run.1, .inr (2, [.ref run.2])), (run.2, zL2 G e0 e1)]) [4, 0, 5, 1, 2, 3] (by decide) rfl
      exact z_zret (some run, b0, b1, e0, e1, o0, o1) hx hb hr hlocks rfl hK hP hD hS rfl rfl hk hn dX0_turn_208
  refine lv_iconst (v := nI 1) hx hb dX0_turn_0 (by decide) ?_
  refine lv_istore (lv' := [(8, .int (nI 1)), (0, .ref d), (1, .ref t), (2, .int kd), (3, .int a), (4, .int b), (5, .int c), (6, .int f), (7, .int fr)]) hx hb dX0_turn_1 hl (by decide) rfl (fun ls hl => ?_)
  refine lv_iload_n hx hb dX0_turn_3 rfl (lv_at hl 3 rfl) ?_
  refine lv_bipush (v := nI 7) hx hb dX0_turn_4 (by decide) ?_
  obtain ⟨k, hk8, hk⟩ := nI_and7 kd
  refine lv_iand hx hb dX0_turn_6 ?_
  rw [hk]
  have h8 : k = 0 ∨ k = 1 ∨ k = 2 ∨ k = 3 ∨ k = 4 ∨ k = 5 ∨ k = 6 ∨ k = 7 := by omega
  clear hk
  rcases h8 with rfl | rfl | rfl | rfl | rfl | rfl | rfl | rfl
  · refine lv_tableIn (tgt := 48) hx hb dX0_turn_7 (by decide +kernel) (by decide +kernel) (show _ = some 41 from by decide +kernel) (by decide) ?_
    refine lv_aload_n hx hb dX0_turn_48 rfl (lv_at hl 1 rfl) ?_
    refine lv_aload_n hx hb dX0_turn_49 rfl (lv_at hl 2 rfl) ?_
    refine lv_iload_n hx hb dX0_turn_50 rfl (lv_at hl 4 rfl) ?_
    refine lv_iload hx hb dX0_turn_51 (lv_at hl 5 rfl) ?_
    refine lv_iload hx hb dX0_turn_53 (lv_at hl 6 rfl) ?_
    refine lv_iload hx hb dX0_turn_55 (lv_at hl 7 rfl) ?_
    refine z_Sv (As := [.ref d, .ref t, .int a, .int b, .int c, .int f]) (rest := []) (wc := zW G d ab ao t b0 b1 e0 e1 o0 o1 run) (wr := []) ⟨hx, hb, hml, hown, hts⟩ (met_lbase l G H.size d ab ao t b0 b1 e0 e1 o0 o1 run a b c f) (va_cwS 6 hts (lw_S q179 q180 q0 q181) rfl rfl rfl (by decide +kernel) ⟨Nat.le_of_ble_eq_true rfl, Nat.le_of_ble_eq_true rfl⟩) hK hP hD hS hA (z_whole _) rfl hl.1 rfl (Nat.le_of_ble_eq_true rfl) dX0_turn_57 ⟨Nat.le_of_ble_eq_true rfl, Nat.le_of_ble_eq_true rfl⟩ (fun u1 H locs hw hP hD hS => ?_)
    have hP : va_P G.1 vwCl (zW G d ab ao t (j64 a b) (j64 c f) e0 e1 o0 o1 run) H := hP
    have hD : va_D A (zW G d ab ao t (j64 a b) (j64 c f) e0 e1 o0 o1 run) := hD
    refine lv_goto (tgt := 181) hx hb dX0_turn_60 (by decide) ?_
    exact jn _ _ (j64 a b) (j64 c f) e0 e1 o0 o1 run (Nat.le_of_ble_eq_true rfl) (Nat.le_of_ble_eq_true rfl) H _ hP hD hS ls (lv_sub hl [1, 2, 8, 0] rfl)
  · refine lv_tableIn (tgt := 63) hx hb dX0_turn_7 (by decide +kernel) (by decide +kernel) (show _ = some 56 from by decide +kernel) (by decide) ?_
    refine lv_aload_n hx hb dX0_turn_63 rfl (lv_at hl 1 rfl) ?_
    refine lv_aload_n hx hb dX0_turn_64 rfl (lv_at hl 2 rfl) ?_
    refine lv_iload_n hx hb dX0_turn_65 rfl (lv_at hl 4 rfl) ?_
    refine lv_iload hx hb dX0_turn_66 (lv_at hl 5 rfl) ?_
    refine lv_iload hx hb dX0_turn_68 (lv_at hl 6 rfl) ?_
    refine lv_iload hx hb dX0_turn_70 (lv_at hl 7 rfl) ?_
    refine z_Sv (As := [.ref d, .ref t, .int a, .int b, .int c, .int f]) (rest := []) (wc := zW G d ab ao t b0 b1 e0 e1 o0 o1 run) (wr := []) ⟨hx, hb, hml, hown, hts⟩ (met_lbase l G H.size d ab ao t b0 b1 e0 e1 o0 o1 run a b c f) (va_cwS 6 hts (lw_S q179 q180 q0 q181) rfl rfl rfl (by decide +kernel) ⟨Nat.le_of_ble_eq_true rfl, Nat.le_of_ble_eq_true rfl⟩) hK hP hD hS hA (z_whole _) rfl hl.1 rfl (Nat.le_of_ble_eq_true rfl) dX0_turn_72 ⟨Nat.le_of_ble_eq_true rfl, Nat.le_of_ble_eq_true rfl⟩ (fun u1 H locs hw hP hD hS => ?_)
    have hP : va_P G.1 vwCl (zW G d ab ao t (j64 a b) (j64 c f) e0 e1 o0 o1 run) H := hP
    have hD : va_D A (zW G d ab ao t (j64 a b) (j64 c f) e0 e1 o0 o1 run) := hD
    refine lv_aload_n hx hb dX0_turn_75 rfl (lv_at hl 1 rfl) ?_
    refine lv_aload_n hx hb dX0_turn_76 rfl (lv_at hl 2 rfl) ?_
    refine z_Sv (As := [.ref d, .ref t]) (rest := []) (wc := zW G d ab ao t (j64 a b) (j64 c f) e0 e1 o0 o1 run) (wr := []) ⟨hx, hb, hml, hown, hts⟩ (met_lbegin l G H.size d ab ao t (j64 a b) (j64 c f) e0 e1 o0 o1 run) (va_cwS 2 hts (lw_S q183 q184 q0 q185) rfl rfl rfl (by decide +kernel) ⟨Nat.le_of_ble_eq_true rfl, Nat.le_of_ble_eq_true rfl⟩) hK hP hD hS hA (z_whole _) rfl hl.1 rfl (Nat.le_of_ble_eq_true rfl) dX0_turn_77 ⟨Nat.le_of_ble_eq_true rfl, Nat.le_of_ble_eq_true rfl⟩ (fun u2 H locs hw hP hD hS => ?_)
    have hP : va_P G.1 vwCl (zW G d ab ao t (j64 a b) (j64 c f) (j64 a b) (j64 c f) o0 o1 (some u2)) H := hP
    have hD : va_D A (zW G d ab ao t (j64 a b) (j64 c f) (j64 a b) (j64 c f) o0 o1 (some u2)) := hD
    refine lv_aload_n hx hb dX0_turn_80 rfl (lv_at hl 1 rfl) ?_
    refine lv_aload_n hx hb dX0_turn_81 rfl (lv_at hl 2 rfl) ?_
    refine lv_iload_n hx hb dX0_turn_82 rfl (lv_at hl 3 rfl) ?_
    refine lv_iconst (v := nI 3) hx hb dX0_turn_83 (by decide) ?_
    refine lv_ishr hx hb dX0_turn_84 ?_
    refine lv_iload hx hb dX0_turn_85 (lv_at hl 8 rfl) ?_
    refine z_Si (As := [.ref d, .ref t, .int (kd >>> ((nI 3) &&& 31)), .int fr]) (rest := []) (wc := zW G d ab ao t (j64 a b) (j64 c f) (j64 a b) (j64 c f) o0 o1 (some u2)) (wr := []) ⟨hx, hb, hml, hown, hts⟩ (met_lpower l G H.size d ab ao t (j64 a b) (j64 c f) (j64 a b) (j64 c f) o0 o1 ((some u2)) (kd >>> ((nI 3) &&& 31)) fr) (va_cwS 4 hts (lw_S q186 q187 q0 q188) rfl rfl rfl (by decide +kernel) ⟨Nat.le_of_ble_eq_true rfl, Nat.le_of_ble_eq_true rfl⟩) hK hP hD hS hA (z_whole _) rfl hl.1 rfl (Nat.le_of_ble_eq_true rfl) dX0_turn_87 ⟨Nat.le_of_ble_eq_true rfl, Nat.le_of_ble_eq_true rfl⟩ (fun r3 u3 H locs hw hP hD hS => ?_)
    have hP : va_P G.1 vwCl (zW G d ab ao t (j64 a b) (j64 c f) (j64 a b) (j64 c f) ((zO (kd >>> ((nI 3) &&& 31)) fr (j64 a b) (j64 c f) o0 o1 (some u2)).1) ((zO (kd >>> ((nI 3) &&& 31)) fr (j64 a b) (j64 c f) o0 o1 (some u2)).2) (some u2)) H := hP
    have hD : va_D A (zW G d ab ao t (j64 a b) (j64 c f) (j64 a b) (j64 c f) ((zO (kd >>> ((nI 3) &&& 31)) fr (j64 a b) (j64 c f) o0 o1 (some u2)).1) ((zO (kd >>> ((nI 3) &&& 31)) fr (j64 a b) (j64 c f) o0 o1 (some u2)).2) (some u2)) := hD
    have er3 : r3 = nI 1 := hw
    subst er3
    refine lv_istore (lv' := [(8, .int (nI 1)), (0, .ref d), (1, .ref t), (2, .int kd), (3, .int a), (4, .int b), (5, .int c), (6, .int f), (7, .int fr)]) hx hb dX0_turn_90 hl (by decide) rfl (fun ls hl => ?_)
    refine lv_goto (tgt := 181) hx hb dX0_turn_92 (by decide) ?_
    exact jn _ _ (j64 a b) (j64 c f) (j64 a b) (j64 c f) ((zO (kd >>> ((nI 3) &&& 31)) fr (j64 a b) (j64 c f) o0 o1 (some u2)).1) ((zO (kd >>> ((nI 3) &&& 31)) fr (j64 a b) (j64 c f) o0 o1 (some u2)).2) (some u2) (Nat.le_of_ble_eq_true rfl) (Nat.le_of_ble_eq_true rfl) H _ hP hD hS ls (lv_sub hl [1, 2, 8, 0] rfl)
  · refine lv_tableIn (tgt := 95) hx hb dX0_turn_7 (by decide +kernel) (by decide +kernel) (show _ = some 88 from by decide +kernel) (by decide) ?_
    refine lv_aload_n hx hb dX0_turn_95 rfl (lv_at hl 1 rfl) ?_
    refine lv_aload_n hx hb dX0_turn_96 rfl (lv_at hl 2 rfl) ?_
    refine lv_iload_n hx hb dX0_turn_97 rfl (lv_at hl 4 rfl) ?_
    refine lv_iload hx hb dX0_turn_98 (lv_at hl 5 rfl) ?_
    refine z_Si (As := [.ref d, .ref t, .int a, .int b]) (rest := []) (wc := zW G d ab ao t b0 b1 e0 e1 o0 o1 run) (wr := []) ⟨hx, hb, hml, hown, hts⟩ (met_lpower l G H.size d ab ao t b0 b1 e0 e1 o0 o1 run a b) (va_cwS 4 hts (lw_S q186 q187 q0 q188) rfl rfl rfl (by decide +kernel) ⟨Nat.le_of_ble_eq_true rfl, Nat.le_of_ble_eq_true rfl⟩) hK hP hD hS hA (z_whole _) rfl hl.1 rfl (Nat.le_of_ble_eq_true rfl) dX0_turn_100 ⟨Nat.le_of_ble_eq_true rfl, Nat.le_of_ble_eq_true rfl⟩ (fun r1 u1 H locs hw hP hD hS => ?_)
    have hP : va_P G.1 vwCl (zW G d ab ao t b0 b1 e0 e1 ((zO a b e0 e1 o0 o1 run).1) ((zO a b e0 e1 o0 o1 run).2) run) H := hP
    have hD : va_D A (zW G d ab ao t b0 b1 e0 e1 ((zO a b e0 e1 o0 o1 run).1) ((zO a b e0 e1 o0 o1 run).2) run) := hD
    have er1 : r1 = nI 1 := hw
    subst er1
    refine lv_istore (lv' := [(8, .int (nI 1)), (0, .ref d), (1, .ref t), (2, .int kd), (3, .int a), (4, .int b), (5, .int c), (6, .int f), (7, .int fr)]) hx hb dX0_turn_103 hl (by decide) rfl (fun ls hl => ?_)
    refine lv_goto (tgt := 181) hx hb dX0_turn_105 (by decide) ?_
    exact jn _ _ b0 b1 e0 e1 ((zO a b e0 e1 o0 o1 run).1) ((zO a b e0 e1 o0 o1 run).2) run (Nat.le_of_ble_eq_true rfl) (Nat.le_of_ble_eq_true rfl) H _ hP hD hS ls (lv_sub hl [1, 2, 8, 0] rfl)
  · refine lv_tableIn (tgt := 108) hx hb dX0_turn_7 (by decide +kernel) (by decide +kernel) (show _ = some 101 from by decide +kernel) (by decide) ?_
    refine lv_aload_n hx hb dX0_turn_108 rfl (lv_at hl 1 rfl) ?_
    refine lv_aload_n hx hb dX0_turn_109 rfl (lv_at hl 2 rfl) ?_
    refine lv_iload_n hx hb dX0_turn_110 rfl (lv_at hl 4 rfl) ?_
    refine lv_bipush (v := nI 15) hx hb dX0_turn_111 (by decide) ?_
    refine lv_iand hx hb dX0_turn_113 ?_
    refine lv_iload hx hb dX0_turn_114 (lv_at hl 5 rfl) ?_
    refine lv_iload hx hb dX0_turn_116 (lv_at hl 6 rfl) ?_
    refine lv_bipush (v := nI 31) hx hb dX0_turn_118 (by decide) ?_
    refine lv_iand hx hb dX0_turn_120 ?_
    refine lv_iushr (v := (jiushr b (c &&& (nI 31)))) hx hb dX0_turn_121 rfl ?_
    refine z_Si (As := [.ref d, .ref t, .int (a &&& (nI 15)), .int (jiushr b (c &&& (nI 31)))]) (rest := []) (wc := zW G d ab ao t b0 b1 e0 e1 o0 o1 run) (wr := []) ⟨hx, hb, hml, hown, hts⟩ (met_lpower l G H.size d ab ao t b0 b1 e0 e1 o0 o1 run (a &&& (nI 15)) (jiushr b (c &&& (nI 31)))) (va_cwS 4 hts (lw_S q186 q187 q0 q188) rfl rfl rfl (by decide +kernel) ⟨Nat.le_of_ble_eq_true rfl, Nat.le_of_ble_eq_true rfl⟩) hK hP hD hS hA (z_whole _) rfl hl.1 rfl (Nat.le_of_ble_eq_true rfl) dX0_turn_122 ⟨Nat.le_of_ble_eq_true rfl, Nat.le_of_ble_eq_true rfl⟩ (fun r1 u1 H locs hw hP hD hS => ?_)
    have hP : va_P G.1 vwCl (zW G d ab ao t b0 b1 e0 e1 ((zO (a &&& (nI 15)) (jiushr b (c &&& (nI 31))) e0 e1 o0 o1 run).1) ((zO (a &&& (nI 15)) (jiushr b (c &&& (nI 31))) e0 e1 o0 o1 run).2) run) H := hP
    have hD : va_D A (zW G d ab ao t b0 b1 e0 e1 ((zO (a &&& (nI 15)) (jiushr b (c &&& (nI 31))) e0 e1 o0 o1 run).1) ((zO (a &&& (nI 15)) (jiushr b (c &&& (nI 31))) e0 e1 o0 o1 run).2) run) := hD
    have er1 : r1 = nI 1 := hw
    subst er1
    refine lv_istore (lv' := [(8, .int (nI 1)), (0, .ref d), (1, .ref t), (2, .int kd), (3, .int a), (4, .int b), (5, .int c), (6, .int f), (7, .int fr)]) hx hb dX0_turn_125 hl (by decide) rfl (fun ls hl => ?_)
    refine lv_goto (tgt := 181) hx hb dX0_turn_127 (by decide) ?_
    exact jn _ _ b0 b1 e0 e1 ((zO (a &&& (nI 15)) (jiushr b (c &&& (nI 31))) e0 e1 o0 o1 run).1) ((zO (a &&& (nI 15)) (jiushr b (c &&& (nI 31))) e0 e1 o0 o1 run).2) run (Nat.le_of_ble_eq_true rfl) (Nat.le_of_ble_eq_true rfl) H _ hP hD hS ls (lv_sub hl [1, 2, 8, 0] rfl)
  · refine lv_tableIn (tgt := 130) hx hb dX0_turn_7 (by decide +kernel) (by decide +kernel) (show _ = some 123 from by decide +kernel) (by decide) ?_
    refine lv_aload_n hx hb dX0_turn_130 rfl (lv_at hl 1 rfl) ?_
    refine lv_aload_n hx hb dX0_turn_131 rfl (lv_at hl 2 rfl) ?_
    refine z_Sv (As := [.ref d, .ref t]) (rest := []) (wc := zW G d ab ao t b0 b1 e0 e1 o0 o1 run) (wr := []) ⟨hx, hb, hml, hown, hts⟩ (met_lagain l G H.size d ab ao t b0 b1 e0 e1 o0 o1 run) (va_cwS 2 hts (lw_S q201 q202 q0 q203) rfl rfl rfl (by decide +kernel) ⟨Nat.le_of_ble_eq_true rfl, Nat.le_of_ble_eq_true rfl⟩) hK hP hD hS hA (z_whole _) rfl hl.1 rfl (Nat.le_of_ble_eq_true rfl) dX0_turn_132 ⟨Nat.le_of_ble_eq_true rfl, Nat.le_of_ble_eq_true rfl⟩ (fun u1 H locs hw hP hD hS => ?_)
    have hP : va_P G.1 vwCl (zW G d ab ao t o0 o1 e0 e1 o0 o1 run) H := hP
    have hD : va_D A (zW G d ab ao t o0 o1 e0 e1 o0 o1 run) := hD
    refine lv_goto (tgt := 181) hx hb dX0_turn_135 (by decide) ?_
    exact jn _ _ o0 o1 e0 e1 o0 o1 run (Nat.le_of_ble_eq_true rfl) (Nat.le_of_ble_eq_true rfl) H _ hP hD hS ls (lv_sub hl [1, 2, 8, 0] rfl)
  · refine lv_tableIn (tgt := 138) hx hb dX0_turn_7 (by decide +kernel) (by decide +kernel) (show _ = some 131 from by decide +kernel) (by decide) ?_
    refine lv_aload_n hx hb dX0_turn_138 rfl (lv_at hl 1 rfl) ?_
    refine lv_aload_n hx hb dX0_turn_139 rfl (lv_at hl 2 rfl) ?_
    refine z_Sv (As := [.ref d, .ref t]) (rest := []) (wc := zW G d ab ao t b0 b1 e0 e1 o0 o1 run) (wr := []) ⟨hx, hb, hml, hown, hts⟩ (met_lbegin l G H.size d ab ao t b0 b1 e0 e1 o0 o1 run) (va_cwS 2 hts (lw_S q183 q184 q0 q185) rfl rfl rfl (by decide +kernel) ⟨Nat.le_of_ble_eq_true rfl, Nat.le_of_ble_eq_true rfl⟩) hK hP hD hS hA (z_whole _) rfl hl.1 rfl (Nat.le_of_ble_eq_true rfl) dX0_turn_140 ⟨Nat.le_of_ble_eq_true rfl, Nat.le_of_ble_eq_true rfl⟩ (fun u1 H locs hw hP hD hS => ?_)
    have hP : va_P G.1 vwCl (zW G d ab ao t b0 b1 b0 b1 o0 o1 (some u1)) H := hP
    have hD : va_D A (zW G d ab ao t b0 b1 b0 b1 o0 o1 (some u1)) := hD
    refine lv_goto (tgt := 181) hx hb dX0_turn_143 (by decide) ?_
    exact jn _ _ b0 b1 b0 b1 o0 o1 (some u1) (Nat.le_of_ble_eq_true rfl) (Nat.le_of_ble_eq_true rfl) H _ hP hD hS ls (lv_sub hl [1, 2, 8, 0] rfl)
  · refine lv_tableIn (tgt := 146) hx hb dX0_turn_7 (by decide +kernel) (by decide +kernel) (show _ = some 139 from by decide +kernel) (by decide) ?_
    refine lv_aload_n hx hb dX0_turn_146 rfl (lv_at hl 1 rfl) ?_
    refine lv_aload_n hx hb dX0_turn_147 rfl (lv_at hl 2 rfl) ?_
    refine z_Sv (As := [.ref d, .ref t]) (rest := []) (wc := zW G d ab ao t b0 b1 e0 e1 o0 o1 run) (wr := []) ⟨hx, hb, hml, hown, hts⟩ (met_lagain l G H.size d ab ao t b0 b1 e0 e1 o0 o1 run) (va_cwS 2 hts (lw_S q201 q202 q0 q203) rfl rfl rfl (by decide +kernel) ⟨Nat.le_of_ble_eq_true rfl, Nat.le_of_ble_eq_true rfl⟩) hK hP hD hS hA (z_whole _) rfl hl.1 rfl (Nat.le_of_ble_eq_true rfl) dX0_turn_148 ⟨Nat.le_of_ble_eq_true rfl, Nat.le_of_ble_eq_true rfl⟩ (fun u1 H locs hw hP hD hS => ?_)
    have hP : va_P G.1 vwCl (zW G d ab ao t o0 o1 e0 e1 o0 o1 run) H := hP
    have hD : va_D A (zW G d ab ao t o0 o1 e0 e1 o0 o1 run) := hD
    refine lv_aload_n hx hb dX0_turn_151 rfl (lv_at hl 1 rfl) ?_
    refine lv_aload_n hx hb dX0_turn_152 rfl (lv_at hl 2 rfl) ?_
    refine z_Sv (As := [.ref d, .ref t]) (rest := []) (wc := zW G d ab ao t o0 o1 e0 e1 o0 o1 run) (wr := []) ⟨hx, hb, hml, hown, hts⟩ (met_lbegin l G H.size d ab ao t o0 o1 e0 e1 o0 o1 run) (va_cwS 2 hts (lw_S q183 q184 q0 q185) rfl rfl rfl (by decide +kernel) ⟨Nat.le_of_ble_eq_true rfl, Nat.le_of_ble_eq_true rfl⟩) hK hP hD hS hA (z_whole _) rfl hl.1 rfl (Nat.le_of_ble_eq_true rfl) dX0_turn_153 ⟨Nat.le_of_ble_eq_true rfl, Nat.le_of_ble_eq_true rfl⟩ (fun u2 H locs hw hP hD hS => ?_)
    have hP : va_P G.1 vwCl (zW G d ab ao t o0 o1 o0 o1 o0 o1 (some u2)) H := hP
    have hD : va_D A (zW G d ab ao t o0 o1 o0 o1 o0 o1 (some u2)) := hD
    refine lv_aload_n hx hb dX0_turn_156 rfl (lv_at hl 1 rfl) ?_
    refine lv_aload_n hx hb dX0_turn_157 rfl (lv_at hl 2 rfl) ?_
    refine lv_iload_n hx hb dX0_turn_158 rfl (lv_at hl 4 rfl) ?_
    refine lv_iload hx hb dX0_turn_159 (lv_at hl 5 rfl) ?_
    refine z_Si (As := [.ref d, .ref t, .int a, .int b]) (rest := []) (wc := zW G d ab ao t o0 o1 o0 o1 o0 o1 (some u2)) (wr := []) ⟨hx, hb, hml, hown, hts⟩ (met_lpower l G H.size d ab ao t o0 o1 o0 o1 o0 o1 ((some u2)) a b) (va_cwS 4 hts (lw_S q186 q187 q0 q188) rfl rfl rfl (by decide +kernel) ⟨Nat.le_of_ble_eq_true rfl, Nat.le_of_ble_eq_true rfl⟩) hK hP hD hS hA (z_whole _) rfl hl.1 rfl (Nat.le_of_ble_eq_true rfl) dX0_turn_161 ⟨Nat.le_of_ble_eq_true rfl, Nat.le_of_ble_eq_true rfl⟩ (fun r3 u3 H locs hw hP hD hS => ?_)
    have hP : va_P G.1 vwCl (zW G d ab ao t o0 o1 o0 o1 ((zO a b o0 o1 o0 o1 (some u2)).1) ((zO a b o0 o1 o0 o1 (some u2)).2) (some u2)) H := hP
    have hD : va_D A (zW G d ab ao t o0 o1 o0 o1 ((zO a b o0 o1 o0 o1 (some u2)).1) ((zO a b o0 o1 o0 o1 (some u2)).2) (some u2)) := hD
    have er3 : r3 = nI 1 := hw
    subst er3
    refine lv_istore (lv' := [(8, .int (nI 1)), (0, .ref d), (1, .ref t), (2, .int kd), (3, .int a), (4, .int b), (5, .int c), (6, .int f), (7, .int fr)]) hx hb dX0_turn_164 hl (by decide) rfl (fun ls hl => ?_)
    refine lv_goto (tgt := 181) hx hb dX0_turn_166 (by decide) ?_
    exact jn _ _ o0 o1 o0 o1 ((zO a b o0 o1 o0 o1 (some u2)).1) ((zO a b o0 o1 o0 o1 (some u2)).2) (some u2) (Nat.le_of_ble_eq_true rfl) (Nat.le_of_ble_eq_true rfl) H _ hP hD hS ls (lv_sub hl [1, 2, 8, 0] rfl)
  · refine lv_tableOut (tgt := 169) hx hb dX0_turn_7 (by decide +kernel) (by decide) ?_
    refine lv_aload_n hx hb dX0_turn_169 rfl (lv_at hl 1 rfl) ?_
    refine lv_aload_n hx hb dX0_turn_170 rfl (lv_at hl 2 rfl) ?_
    refine lv_iconst (v := nI 0) hx hb dX0_turn_171 (by decide) ?_
    refine lv_iload_n hx hb dX0_turn_172 rfl (lv_at hl 4 rfl) ?_
    refine lv_bipush (v := nI 31) hx hb dX0_turn_173 (by decide) ?_
    refine lv_iand hx hb dX0_turn_175 ?_
    refine z_Si (As := [.ref d, .ref t, .int (nI 0), .int (a &&& (nI 31))]) (rest := []) (wc := zW G d ab ao t b0 b1 e0 e1 o0 o1 run) (wr := []) ⟨hx, hb, hml, hown, hts⟩ (met_lpower l G H.size d ab ao t b0 b1 e0 e1 o0 o1 run (nI 0) (a &&& (nI 31))) (va_cwS 4 hts (lw_S q186 q187 q0 q188) rfl rfl rfl (by decide +kernel) ⟨Nat.le_of_ble_eq_true rfl, Nat.le_of_ble_eq_true rfl⟩) hK hP hD hS hA (z_whole _) rfl hl.1 rfl (Nat.le_of_ble_eq_true rfl) dX0_turn_176 ⟨Nat.le_of_ble_eq_true rfl, Nat.le_of_ble_eq_true rfl⟩ (fun r1 u1 H locs hw hP hD hS => ?_)
    have hP : va_P G.1 vwCl (zW G d ab ao t b0 b1 e0 e1 ((zO (nI 0) (a &&& (nI 31)) e0 e1 o0 o1 run).1) ((zO (nI 0) (a &&& (nI 31)) e0 e1 o0 o1 run).2) run) H := hP
    have hD : va_D A (zW G d ab ao t b0 b1 e0 e1 ((zO (nI 0) (a &&& (nI 31)) e0 e1 o0 o1 run).1) ((zO (nI 0) (a &&& (nI 31)) e0 e1 o0 o1 run).2) run) := hD
    have er1 : r1 = nI 1 := hw
    subst er1
    refine lv_istore (lv' := [(8, .int (nI 1)), (0, .ref d), (1, .ref t), (2, .int kd), (3, .int a), (4, .int b), (5, .int c), (6, .int f), (7, .int fr)]) hx hb dX0_turn_179 hl (by decide) rfl (fun ls hl => ?_)
    exact jn _ _ b0 b1 e0 e1 ((zO (nI 0) (a &&& (nI 31)) e0 e1 o0 o1 run).1) ((zO (nI 0) (a &&& (nI 31)) e0 e1 o0 o1 run).2) run (Nat.le_of_ble_eq_true rfl) (Nat.le_of_ble_eq_true rfl) H _ hP hD hS ls (lv_sub hl [1, 2, 8, 0] rfl)
set_option maxHeartbeats 4000000 in
set_option maxRecDepth 100000 in
/-- more(d, hi, lo) -/
theorem met_more (l : Launch) (G : z_G) (sz : Nat) (d ab ao r ax : Nat) (b0 b1 e0 e1 o0 o1 : Int64) (hi lo : Int32) : Met l yX0_more (ws_ yX0_more cX0_more 3 (some .boolean)) ({ frames := 6, cells := 68, slots := 275, locals := 167 }) (zPre G [.ref d, .int hi, .int lo] sz [(d, .inr (0, [.ref ab, .ref ao, .ref r])), (ab, zB G (zby b0 b1)), (ao, zB G (zby o0 o1)), (r, .inr (2, [.ref ax])), (ax, zL2 G e0 e1)]) (zQi G (fun (r_ : Int32) (u : (Nat × Nat)) => r_ = nI 1) (fun (u : (Nat × Nat)) => [(d, .inr (0, [.ref ab, .ref ao, .ref u.1])), (ab, zB G (zby o0 o1)), (ao, zB G (zby ((jE (jexp hi lo) o0 o1).1) ((jE (jexp hi lo) o0 o1).2))), (u.1, .inr (2, [.ref u.2])), (u.2, zL2 G o0 o1)]) (va_A [(d, .inr (0, [.ref ab, .ref ao, .ref r])), (ab, zB G (zby b0 b1)), (ao, zB G (zby o0 o1)), (r, .inr (2, [.ref ax])), (ax, zL2 G e0 e1)] sz)) 68 275 (va_A [(d, .inr (0, [.ref ab, .ref ao, .ref r])), (ab, zB G (zby b0 b1)), (ao, zB G (zby o0 o1)), (r, .inr (2, [.ref ax])), (ax, zL2 G e0 e1)] sz) := by
  refine z_met (QK := zQi G (fun (r_ : Int32) (u : (Nat × Nat)) => r_ = nI 1) (fun (u : (Nat × Nat)) => [(d, .inr (0, [.ref ab, .ref ao, .ref u.1])), (ab, zB G (zby o0 o1)), (ao, zB G (zby ((jE (jexp hi lo) o0 o1).1) ((jE (jexp hi lo) o0 o1).2))), (u.1, .inr (2, [.ref u.2])), (u.2, zL2 G o0 o1)])) (by decide) (Nat.le_of_ble_eq_true rfl) ?_
  intro p e s m below meth c A H ls hx hb hr hlocks hml hown hin hts hK hP hD hA hS hl
  have hown : s.vm.findClass RX0 = some m.cls := hown
  have hl : lv_has ls 3 [(0, .ref d), (1, .int hi), (2, .int lo)] := hl
  refine lv_aload_n hx hb dX0_more_0 rfl (lv_at hl 0 rfl) ?_
  refine z_Vv (As := []) (rest := []) (wc := [(d, .inr (0, [.ref ab, .ref ao, .ref r])), (ab, zB G (zby b0 b1)), (ao, zB G (zby o0 o1))]) (wr := [(r, .inr (2, [.ref ax])), (ax, zL2 G e0 e1)]) ⟨hx, hb, hml, hown, hts⟩ (met_desk_again l G H.size d ab ao (.ref r) (jhi b0) (jlo b0) (jhi b1) (jlo b1) (jhi o0) (jlo o0) (jhi o1) (jlo o1)) (cwV 0 hts (lw_V q204 q205 q206 q1 q207) rfl rfl rfl (by decide +kernel) ⟨Nat.le_of_ble_eq_true rfl, Nat.le_of_ble_eq_true rfl⟩) hK hP hD hS hA (z_ix [0, 1, 2] [3, 4] rfl rfl rfl rfl rfl (by decide)) 0 0 (T := TX1) (N := 3) rfl rfl rfl hl.1 rfl (Nat.le_of_ble_eq_true rfl) dX0_more_1 ⟨Nat.le_of_ble_eq_true rfl, Nat.le_of_ble_eq_true rfl⟩ (fun u H locs hw hP hD hS => ?_)
  have hP : va_P G.1 vwCl [(r, .inr (2, [.ref ax])), (ax, zL2 G e0 e1), (d, .inr (0, [.ref ab, .ref ao, .ref r])), (ab, zB G (zby o0 o1)), (ao, zB G (zby o0 o1))] H := hP
  have hD : va_D A [(r, .inr (2, [.ref ax])), (ax, zL2 G e0 e1), (d, .inr (0, [.ref ab, .ref ao, .ref r])), (ab, zB G (zby o0 o1)), (ao, zB G (zby o0 o1))] := hD
  have hP := hP.sub (ws' := [(d, .inr (0, [.ref ab, .ref ao, .ref r])), (ab, zB G (zby o0 o1)), (ao, zB G (zby o0 o1))]) [2, 3, 4] rfl
  have hD := hD.sub (ws' := [(d, .inr (0, [.ref ab, .ref ao, .ref r])), (ab, zB G (zby o0 o1)), (ao, zB G (zby o0 o1))]) [2, 3, 4] (by decide) rfl
  refine lv_aload_n hx hb dX0_more_4 rfl (lv_at hl 0 rfl) ?_
  refine z_Vv (As := []) (rest := []) (wc := [(d, .inr (0, [.ref ab, .ref ao, .ref r])), (ab, zB G (zby o0 o1))]) (wr := [(ao, zB G (zby o0 o1))]) ⟨hx, hb, hml, hown, hts⟩ (met_desk_begin l G H.size d ab ao (.ref r) (jhi o0) (jlo o0) (jhi o1) (jlo o1)) (cwV 0 hts (lw_V q37 q38 q39 q1 q40) rfl rfl rfl (by decide +kernel) ⟨Nat.le_of_ble_eq_true rfl, Nat.le_of_ble_eq_true rfl⟩) hK hP hD hS hA (z_ix [0, 1] [2] rfl rfl rfl rfl rfl (by decide)) 0 0 (T := TX1) (N := 3) rfl rfl rfl hl.1 rfl (Nat.le_of_ble_eq_true rfl) dX0_more_5 ⟨Nat.le_of_ble_eq_true rfl, Nat.le_of_ble_eq_true rfl⟩ (fun u H locs hw hP hD hS => ?_)
  have hP : va_P G.1 vwCl [(ao, zB G (zby o0 o1)), (d, .inr (0, [.ref ab, .ref ao, .ref u.1])), (ab, zB G (zby o0 o1)), (u.1, .inr (2, [.ref u.2])), (u.2, zL2 G (j64 (jhi o0) (jlo o0)) (j64 (jhi o1) (jlo o1)))] H := hP
  have hD : va_D A [(ao, zB G (zby o0 o1)), (d, .inr (0, [.ref ab, .ref ao, .ref u.1])), (ab, zB G (zby o0 o1)), (u.1, .inr (2, [.ref u.2])), (u.2, zL2 G (j64 (jhi o0) (jlo o0)) (j64 (jhi o1) (jlo o1)))] := hD
  rw [j64_hl, j64_hl] at hP hD
  have hP : va_P G.1 vwCl [(ao, zB G (zby o0 o1)), (d, .inr (0, [.ref ab, .ref ao, .ref u.1])), (ab, zB G (zby o0 o1)), (u.1, .inr (2, [.ref u.2])), (u.2, zL2 G o0 o1)] H := hP
  have hD : va_D A [(ao, zB G (zby o0 o1)), (d, .inr (0, [.ref ab, .ref ao, .ref u.1])), (ab, zB G (zby o0 o1)), (u.1, .inr (2, [.ref u.2])), (u.2, zL2 G o0 o1)] := hD
  generalize hu1 : u.1 = g1 at hP hD ⊢
  generalize hu2 : u.2 = g2 at hP hD ⊢
  have hP : va_P G.1 vwCl [(ao, zB G (zby o0 o1)), (d, .inr (0, [.ref ab, .ref ao, .ref g1])), (ab, zB G (zby o0 o1)), (g1, .inr (2, [.ref g2])), (g2, zL2 G o0 o1)] H := hP
  have hD : va_D A [(ao, zB G (zby o0 o1)), (d, .inr (0, [.ref ab, .ref ao, .ref g1])), (ab, zB G (zby o0 o1)), (g1, .inr (2, [.ref g2])), (g2, zL2 G o0 o1)] := hD
  refine lv_aload_n hx hb dX0_more_8 rfl (lv_at hl 0 rfl) ?_
  refine lv_iload_n hx hb dX0_more_9 rfl (lv_at hl 1 rfl) ?_
  refine lv_iload_n hx hb dX0_more_10 rfl (lv_at hl 2 rfl) ?_
  refine z_Vi (As := [.int hi, .int lo]) (rest := []) (wc := [(d, .inr (0, [.ref ab, .ref ao, .ref g1])), (ao, zB G (zby o0 o1)), (g1, .inr (2, [.ref g2])), (g2, zL2 G o0 o1)]) (wr := [(ab, zB G (zby o0 o1))]) ⟨hx, hb, hml, hown, hts⟩ (met_desk_power1 l G H.size d ao g1 g2 (.ref ab) hi lo o0 o1 (jhi o0) (jlo o0) (jhi o1) (jlo o1)) (cwV 2 hts (lw_V q69 q70 q71 q1 q72) rfl rfl rfl (by decide +kernel) ⟨Nat.le_of_ble_eq_true rfl, Nat.le_of_ble_eq_true rfl⟩) hK hP hD hS hA (z_ix [1, 0, 3, 4] [2] rfl rfl rfl rfl rfl (by decide)) 0 0 (T := TX1) (N := 3) rfl rfl rfl hl.1 rfl (Nat.le_of_ble_eq_true rfl) dX0_more_11 ⟨Nat.le_of_ble_eq_true rfl, Nat.le_of_ble_eq_true rfl⟩ (fun r3 u H locs hw hP hD hS => ?_)
  have hP : va_P G.1 vwCl [(ab, zB G (zby o0 o1)), (d, .inr (0, [.ref ab, .ref ao, .ref g1])), (ao, zB G (zby ((jE (jexp hi lo) o0 o1).1) ((jE (jexp hi lo) o0 o1).2))), (g1, .inr (2, [.ref g2])), (g2, zL2 G o0 o1)] H := hP
  have hD : va_D A [(ab, zB G (zby o0 o1)), (d, .inr (0, [.ref ab, .ref ao, .ref g1])), (ao, zB G (zby ((jE (jexp hi lo) o0 o1).1) ((jE (jexp hi lo) o0 o1).2))), (g1, .inr (2, [.ref g2])), (g2, zL2 G o0 o1)] := hD
  have er3 : r3 = nI 1 := hw
  subst er3
  have hP := hP.sub (ws' := [(d, .inr (0, [.ref ab, .ref ao, .ref g1])), (ab, zB G (zby o0 o1)), (ao, zB G (zby ((jE (jexp hi lo) o0 o1).1) ((jE (jexp hi lo) o0 o1).2))), (g1, .inr (2, [.ref g2])), (g2, zL2 G o0 o1)]) [1, 0, 2, 3, 4] rfl
  have hD := hD.sub (ws' := [(d, .inr (0, [.ref ab, .ref ao, .ref g1])), (ab, zB G (zby o0 o1)), (ao, zB G (zby ((jE (jexp hi lo) o0 o1).1) ((jE (jexp hi lo) o0 o1).2))), (g1, .inr (2, [.ref g2])), (g2, zL2 G o0 o1)]) [1, 0, 2, 3, 4] (by decide) rfl
  exact z_zret (g1, g2) hx hb hr hlocks rfl hK hP hD hS rfl rfl (Nat.le_of_ble_eq_true rfl) (Nat.le_of_ble_eq_true rfl) dX0_more_14
end
section
/-! FieldPowerDeskLaw.cell, over the script, which no cell of the world is -/
set_option maxHeartbeats 4000000 in
set_option maxRecDepth 100000 in
/-- cell(s, k) -/
theorem met_cell (l : Launch) (b L : Nat) (xs : Nat → Int32) (k : Nat) (hL : L ≤ 60) (hk : k < 100) (sz : Nat) : Met l yX0_cell (ws_ yX0_cell cX0_cell 2 (some .int)) ({ frames := 0, cells := 0, slots := 0, locals := 0 }) (va_Pc [.ref b, .int (nI k)] (fun U => U.heap.size = sz ∧ b < sz ∧ va_X b L xs U U.heap)) (va_Qi (fun (r : Int32) (_ : Unit) => r = if k < L then xs k else 0) (fun _ _ => True) (va_A [] sz)) 0 0 (va_A [] sz) := by
  refine Met.ofW (cc := cX0_cell) (maxL := 2) (ret := some .int) (by decide) rfl ?_
  intro p e s m args below meth c s₁ B hml hv
  obtain ⟨rfl, hsz, hbl, hX⟩ := hv
  subst hsz
  have hx := B.exec
  have hb := B.bytes
  have hr := B.returns
  have hlocks := B.notSynchronized
  have hS : va_S (va_A [] s.heap.size) s.heap s.heap [] := va_S.rf
  have hbA : ¬ va_A [] s.heap.size b := fun h => by
    rcases h with ⟨k, e, h⟩ | h
    · simp at h
    · exact absurd hbl (Nat.not_lt.mpr h)
  have hl := lv_entry ([.ref b, .int (nI k)]) (n := 2) (Nat.le_of_ble_eq_true rfl)
  rw [lg_entry_eq]
  generalize (lg_sl ([.ref b, .int (nI k)]) ++ List.replicate (2 - (lg_sl ([.ref b, .int (nI k)])).length) Slot.unset).toArray = ls at hl ⊢
  have hl : lv_has ls 2 [(0, .ref b), (1, .int (nI k))] := hl
  refine lv_iload_n hx hb dX0_cell_0 rfl (lv_at hl 1 rfl) ?_
  refine lv_aload_n hx hb dX0_cell_1 rfl (lv_at hl 0 rfl) ?_
  refine va_slen hx hb hX hbl hbA hS dX0_cell_2 ?_
  refine lv_icmp_ge (tgt := 12) hx hb dX0_cell_3 (by decide) (fun c_ => ?_) (fun c_ => ?_)
  · have h : L ≤ k := (nI_leI (by omega) (by omega)).mp c_
    refine lv_iconst (v := 0) hx hb dX0_cell_12 (by decide) ?_
    exact W.iret hx hb hr (fun t ht hW => ⟨⟨0, (), rfl, by rw [if_neg (by omega)], trivial⟩, hS.F ht⟩) hS.2.2 dX0_cell_13
  · have h : k < L := Nat.lt_of_not_le (fun h => c_ ((nI_leI (by omega) (by omega)).mpr h))
    refine lv_aload_n hx hb dX0_cell_6 rfl (lv_at hl 0 rfl) ?_
    refine lv_iload_n hx hb dX0_cell_7 rfl (lv_at hl 1 rfl) ?_
    refine va_sld hx hb hX hbl hbA hS (vp_in_nI h (by omega)) dX0_cell_8 ?_
    rw [nI_clamp (show k < 2 ^ 31 by omega)]
    refine lv_goto (tgt := 13) hx hb dX0_cell_9 (by decide) ?_
    exact W.iret hx hb hr (fun t ht hW => ⟨⟨xs k, (), rfl, by rw [if_pos h], trivial⟩, hS.F ht⟩) hS.2.2 dX0_cell_13
section ZX
variable {p : Program} {l : Launch} {e : Env} {R : Room} {s : State} {m : MethodId} {args : Array Value} {below : List Frame} {meth : Method} {c : Code} {H : Heap} {locs : List Loc} {cells slots : Nat} {Q : State → Prop}
variable {cc : ByteArray} {pc : Nat} {ls : Array Slot} {rest : List Value} {G : z_G} {A : Nat → Prop} {ws : va_W} {nL index : Nat} {own : String}
theorem z_cell {b L : Nat} {xs : Nat → Int32} (k : Nat) (hL : L ≤ 60) (hk : k < 100) (F : CallFix p m c cc nL s args lw_all own) (cw : CallB R s args own index yX0_cell cX0_cell 2 (some .int) (ws_ yX0_cell cX0_cell 2 (some .int)) ({ frames := 0, cells := 0, slots := 0, locals := 0 }) 0 0 2 ∧ (Cond.static yX0_cell).before args s = true)
    (hX : va_X b L xs s s.heap) (hbl : b < s.heap.size) (hbA : ¬ A b) (hP : va_P G.1 vwCl ws H) (hS : va_S A s.heap H locs) (hA : ∀ q, s.heap.size ≤ q → A q) (hsize : ls.size = nL) (hW : (rest.map fun v => v.category).sum ≤ 8) (hdg : decode cc pc = .ok (.invokestatic index, 3)) (hf : cells + 0 ≤ R.cells ∧ slots + 0 ≤ R.slots)
    (kk : ∀ (H1 : Heap) (locs1 : List Loc), va_P G.1 vwCl ws H1 → va_S A s.heap H1 locs1 → W p l e R s m args below meth c H1 locs1 (cells + 0) (slots + 0) Q (F0 m (pc + 3) ls (.int (if k < L then xs k else 0) :: rest))) :
    W p l e R s m args below meth c H locs cells slots Q (F0 m pc ls (.int (nI k) :: .ref b :: rest)) := by
  have hbH : b < H.size := Nat.lt_of_lt_of_le hbl hS.1
  have hXH : va_X b L xs s H := hX.kept (hS.2.1 b hbl hbA)
  have hno : ∀ q, va_A [] H.size q → H.size ≤ q := fun q h => by
    rcases h with ⟨k, e, h⟩ | h
    · simp at h
    · exact h
  refine va_calli (va_runS (As := [.ref b, .int (nI k)]) (rest := rest) F (met_cell l b L xs k hL hk H.size) cw ⟨fun a U g mk q => by obtain ⟨q0, q1, q2, q3⟩ := q; exact ⟨q0, q1, q2, va_X.moved (u := U) (U := U.calling g mk a) (Vm.Alike.refl U.vm) q3⟩, fun U hU hW => ⟨rfl, by rw [hU], hbH, by rw [hU]; exact va_X.moved hW.alike hXH⟩⟩ rfl rfl hsize rfl (lv_room hW) hdg hf) hS (fun q _ h => hA q (Nat.le_trans hS.1 (hno q h))) (fun q h => hA q (Nat.le_trans hS.1 (hno q h))) (fun r u t H1 locs1 ht hvm hw hB hz1 hk1 hS1 => ?_)
  subst hw
  exact kk H1 locs1 (hP.kept (fun k q hq => hk1 q.1 (hP k q hq).lt (fun z => absurd (hP k q hq).lt (Nat.not_lt.mpr (hno _ z))))) hS1
end ZX
theorem z_left {D : va_G} {a b : va_W} {H : Heap} (h : va_P D vwCl (a ++ b) H) : va_P D vwCl a H :=
  h.by (fun k => k) (fun k q hk => by rw [List.getElem?_append_left (List.getElem?_eq_some_iff.mp hk).1]; exact hk)
theorem z_leftD {A : Nat → Prop} {a b : va_W} (h : va_D A (a ++ b)) : va_D A a :=
  h.by (fun k => k) (fun k q hk => by rw [List.getElem?_append_left (List.getElem?_eq_some_iff.mp hk).1]; exact hk) (fun _ _ _ _ h => h)
theorem zby_z : zby 0 0 = Bw 0 0 0 0 := by
  show Bw (jhi 0) (jlo 0) (jhi 0) (jlo 0) = _
  rw [show jhi 0 = 0 from by decide +kernel, show jlo 0 = 0 from by decide +kernel]
theorem z_spX {G : z_G} {d ab ao t : Nat} {x y z : Nat × va_E} (u : zS) : z_Sp ([x, y, z] ++ zWs G d ab ao t u) (zWs G d ab ao t u) [x, y, z] := by
  obtain ⟨run, b0, b1, e0, e1, o0, o1⟩ := u
  rcases run with _ | r
  · exact z_ix [3, 4, 5, 6] [0, 1, 2] rfl rfl rfl rfl rfl (by decide)
  · exact z_ix [3, 4, 5, 6, 7, 8] [0, 1, 2] rfl rfl rfl rfl rfl (by decide)
end
section
/-! THE LAW, from its entry (the rows ahead of whole_start: out of the skeleton) -/
def R_law : String := "FieldPowerDeskLaw"
def lw_P (b : Addr) (xs : List Int32) (args : Array Value) (s : State) : Prop := args = #[.ref b] ∧ s.IntsAt b xs ∧ xs.length ≤ 60 ∧ (Jvm.Cond.and given_1 narrow_1).before args s = true
def lw_Q (_ : Array Value) (s : State) (o : Outcome) (t : State) : Prop := o = .returned (some (.int 1)) ∧ Framed s o t [] 1200000 5502250
def lw_Z (below : List Frame) (a : Array Value) (s : State) : State → Prop := fun t => ∃ o, t.status = .running ∧ Ended t below o ∧ lw_Q a s o t
/-- the law's own end, with 1 on the stack, nothing written that was there before, its room as the claim has it -/
theorem lw_ret {p : Program} {l : Launch} {e : Env} {s : State} {m : MethodId} {below : List Frame} {meth : Method} {c : Code} {b : Nat} (hx : p.tables.exec = Jvm.exec) (hb : c.code = code) (hr : meth.sig.returnType = ret) (hlocks : meth.locks = false) {pc : Nat} {H : Heap} {ls : Array Slot} (hdg : decode code pc = .ok (.ireturn, 1)) : W p l e room_1 s m #[Value.ref b] below meth c H [] 1200000 5502250 (lw_Z below #[Value.ref b] s) (F0 m pc ls [.int 1]) := by
  intro T hT X
  obtain ⟨fs, hret, hrun, hended, hW, hframe⟩ := X.leave (v := some (.int 1)) (hlocks := hlocks) (fun h => by rw [hr] at h; cases h)
  have hmeth' : T.vm.method? m = some meth := X.method'
  refine ⟨T.setFrames fs, ?_, .returned (some (.int 1)), hrun, hended, rfl, ⟨_, rfl⟩, hW, hframe⟩
  jvm_step X.here [X.here.top, hx, hb, hdg, hmeth', hr, ret, narrow_b1]
  (try refine ⟨rfl, ?_⟩); (try refine ⟨rfl, ?_⟩)
  first | (intro acts; rw [hret _ acts rfl rfl rfl]) | rw [hret _ _ rfl rfl rfl]
  exact Steps.refl _
/-- what holds at the law's entry: the machine, the code, the tables' words (any of lw_tbl by 'hts w (by decide +kernel)'), the script of L ints xs at the cell b, what the Statement gives of the start (any of its parts by flat_of_before) -/
def lw_At (p : Program) (s : State) (m : MethodId) (meth : Method) (c : Code) (b L : Nat) (xs : Nat → Int32) : Prop :=
  p.tables.exec = Jvm.exec ∧ c.code = code ∧ meth.sig.returnType = ret ∧ c.maxLocals = 12 ∧ s.vm.findClass R_law = some m.cls ∧ (∀ w ∈ lw_tbl, w.before #[Value.ref b] s = true) ∧ va_X b L xs s s.heap ∧ b < s.heap.size ∧ meth.locks = false ∧ (Jvm.Cond.and given_1 narrow_1).before #[Value.ref b] s = true
set_option maxHeartbeats 8000000 in
set_option maxRecDepth 100000 in
/-- from the entry, for every script of at most 60 ints, the law comes to its end with true -/
theorem whole_start {p : Program} {e : Env} {s : State} {m : MethodId} {below : List Frame} {meth : Method} {c : Code} (l : Launch) (hflags : l.flags = flags0) {b L : Nat} {xs : Nat → Int32} (hL : L ≤ 60) (C0 : lw_At p s m meth c b L xs) : W p l e room_1 s m #[Value.ref b] below meth c s.heap [] 0 0 (lw_Z below #[Value.ref b] s) (entryFrame m ([Value.ref b] : List Value).toArray 12) := by
  obtain ⟨hx, hb, hr, hml, hown, hts0, hX, hbl, hlocks, hgv⟩ := C0
  have hts : ∀ w ∈ lw_all, w.before #[Value.ref b] s = true := fun w h => hts0 w (lw_all_tbl h)
  have hown : s.vm.findClass RX0 = some m.cls := hown
  obtain ⟨c0_, iS0, hKn0⟩ := u_known (C := RX1) (T := TX1) (N := 3) (n := 3) hts0 (fun w h => lw_all_tbl (in_X1 w h)) (hts _ q12)
  obtain ⟨c1_, iS1, hKn1⟩ := u_known (C := RX2) (T := TX2) (N := 7) (n := 7) hts0 (fun w h => lw_all_tbl (in_X2 w h)) (hts _ q138)
  obtain ⟨c2_, iS2, hKn2⟩ := u_known (C := RX3) (T := TX3) (N := 1) (n := 1) hts0 (fun w h => lw_all_tbl (in_X3 w h)) (hts _ q42)
  obtain ⟨dC, dI, hKc⟩ : ∃ (dC : Nat → ClassId) (dI : Nat → Nat → Nat), ∀ (k : Nat) (q : vw_C), vwCl[k]? = some q → u_Kn s q.1 q.2.1 q.2.2 (dC k) (dI k) := by
    refine ⟨fun k => if k = 0 then c0_ else if k = 1 then c1_ else c2_, fun k => if k = 0 then iS0 else if k = 1 then iS1 else iS2, ?_⟩
    intro k q hq
    match k, hq with
    | 0, hq => cases hq; exact hKn0
    | 1, hq => cases hq; exact hKn1
    | 2, hq => cases hq; exact hKn2
    | k + 3, hq => simp [vwCl] at hq
  obtain ⟨cB, kB, compB, hB1, hB2, hB3⟩ := Cond.arrayClass_spec (hts _ q29)
  obtain ⟨cL, kL, compL, hL1, hL2, hL3⟩ := Cond.arrayClass_spec (hts _ q68)
  have hAB : ArrOfT s cB .byte := fun N z => ⟨(fun k h => by cases h), kB, hB2, compB, hB3⟩
  have hAL : ArrOfT s cL .long := fun N z => ⟨(fun k h => by cases h), kL, hL2, compL, hL3⟩
  obtain ⟨G, hG⟩ : ∃ G : z_G, G = ((dC, dI), cB, cL) := ⟨_, rfl⟩
  have hK : zK G s := by
    rw [hG]
    refine ⟨hKc, fun k q h => ?_⟩
    match k, h with
    | 0, h => cases h; exact ⟨hAB, hB1⟩
    | 1, h => cases h; exact ⟨hAL, hL1⟩
    | k + 2, h => simp [zKT] at h
  obtain ⟨A, hAe⟩ : ∃ A : Nat → Prop, A = fun q : Nat => s.heap.size ≤ q := ⟨_, rfl⟩
  have hA : ∀ q : Nat, s.heap.size ≤ q → A q := fun q h => by rw [hAe]; exact h
  have hA2 : ∀ q : Nat, A q → s.heap.size ≤ q := fun q h => by rw [hAe] at h; exact h
  have hbA : ¬ A b := fun h => absurd hbl (Nat.not_lt.mpr (hA2 _ h))
  clear hAe
  have hS : va_S A s.heap s.heap [] := va_S.rf
  have hP : va_P G.1 vwCl [] s.heap := fun k q h => by simp at h
  have hD : va_D A [] := ⟨fun i j p q h => by simp at h, fun k q h => by simp at h⟩
  have hl := lv_entry ([.ref b]) (n := 12) (Nat.le_of_ble_eq_true rfl)
  rw [lg_entry_eq]
  generalize (lg_sl ([.ref b]) ++ List.replicate (12 - (lg_sl ([.ref b])).length) Slot.unset).toArray = ls at hl ⊢
  have hl : lv_has ls 12 [(0, .ref b)] := hl
  have hK0 := hK
  refine va_new (D := G.1) (ci := 0) (fs := [.null, .null, .null]) (C := RX1) (T := TX1) (N := 3) hx hb hts in_X1 tyX1 tyX1_ok hown (hts _ q11) (hts _ q12) (hts _ q1) hK hP hD hS hA rfl (fun j hj => by rcases (show j = 0 ∨ j = 1 ∨ j = 2 by omega) with rfl | rfl | rfl <;> rfl) (Nat.le_of_ble_eq_true rfl) (Nat.le_of_ble_eq_true rfl) dL_law_0 (fun n1 H hP hD hS => ?_)
  have hP : va_P G.1 vwCl [(n1, .inr (0, [.null, .null, .null]))] H := hP
  have hD : va_D A [(n1, .inr (0, [.null, .null, .null]))] := hD
  refine lv_dup hx hb dL_law_3 rfl ?_
  refine z_Iv (As := []) (rest := [.ref n1]) (wc := [(n1, .inr (0, [.null, .null, .null]))]) (wr := []) ⟨hx, hb, hml, hown, hts⟩ (met_desk_init l G H.size n1 .null) (cwI 0 hts (lw_meth q15) rfl rfl rfl (hts _ q1) (hts _ q13) (hts _ q14) rfl (by decide +kernel) ⟨Nat.le_of_ble_eq_true rfl, Nat.le_of_ble_eq_true rfl⟩) hK hP hD hS hA (z_whole _) rfl hl.1 rfl (Nat.le_of_ble_eq_true rfl) dL_law_4 ⟨Nat.le_of_ble_eq_true rfl, Nat.le_of_ble_eq_true rfl⟩ (fun u H locs hw hP hD hS => ?_)
  have hP : va_P G.1 vwCl [(n1, .inr (0, [.ref u.1, .ref u.2, .null])), (u.1, zB G (Bw 0 0 0 0)), (u.2, zB G (Bw 0 0 0 0))] H := hP
  have hD : va_D A [(n1, .inr (0, [.ref u.1, .ref u.2, .null])), (u.1, zB G (Bw 0 0 0 0)), (u.2, zB G (Bw 0 0 0 0))] := hD
  generalize u.1 = db at hP hD
  generalize u.2 = do_ at hP hD
  rw [← zby_z] at hP hD
  have hP : va_P G.1 vwCl [(n1, .inr (0, [.ref db, .ref do_, .null])), (db, zB G (zby 0 0)), (do_, zB G (zby 0 0))] H := hP
  have hD : va_D A [(n1, .inr (0, [.ref db, .ref do_, .null])), (db, zB G (zby 0 0)), (do_, zB G (zby 0 0))] := hD
  refine lv_astore_n (lv' := [(1, .ref n1), (0, .ref b)]) hx hb dL_law_7 rfl hl (by decide) rfl (fun ls hl => ?_)
  refine va_new (D := G.1) (ci := 0) (fs := [.null, .null, .null]) (C := RX1) (T := TX1) (N := 3) hx hb hts in_X1 tyX1 tyX1_ok hown (hts _ q11) (hts _ q12) (hts _ q1) hK hP hD hS hA rfl (fun j hj => by rcases (show j = 0 ∨ j = 1 ∨ j = 2 by omega) with rfl | rfl | rfl <;> rfl) (Nat.le_of_ble_eq_true rfl) (Nat.le_of_ble_eq_true rfl) dL_law_8 (fun n3 H hP hD hS => ?_)
  have hP : va_P G.1 vwCl [(n1, .inr (0, [.ref db, .ref do_, .null])), (db, zB G (zby 0 0)), (do_, zB G (zby 0 0)), (n3, .inr (0, [.null, .null, .null]))] H := hP
  have hD : va_D A [(n1, .inr (0, [.ref db, .ref do_, .null])), (db, zB G (zby 0 0)), (do_, zB G (zby 0 0)), (n3, .inr (0, [.null, .null, .null]))] := hD
  refine lv_dup hx hb dL_law_11 rfl ?_
  refine z_Iv (As := []) (rest := [.ref n3]) (wc := [(n3, .inr (0, [.null, .null, .null]))]) (wr := [(n1, .inr (0, [.ref db, .ref do_, .null])), (db, zB G (zby 0 0)), (do_, zB G (zby 0 0))]) ⟨hx, hb, hml, hown, hts⟩ (met_desk_init l G H.size n3 .null) (cwI 0 hts (lw_meth q15) rfl rfl rfl (hts _ q1) (hts _ q13) (hts _ q14) rfl (by decide +kernel) ⟨Nat.le_of_ble_eq_true rfl, Nat.le_of_ble_eq_true rfl⟩) hK hP hD hS hA (z_ix [3] [0, 1, 2] rfl rfl rfl rfl rfl (by decide)) rfl hl.1 rfl (Nat.le_of_ble_eq_true rfl) dL_law_12 ⟨Nat.le_of_ble_eq_true rfl, Nat.le_of_ble_eq_true rfl⟩ (fun u H locs hw hP hD hS => ?_)
  have hP : va_P G.1 vwCl [(n1, .inr (0, [.ref db, .ref do_, .null])), (db, zB G (zby 0 0)), (do_, zB G (zby 0 0)), (n3, .inr (0, [.ref u.1, .ref u.2, .null])), (u.1, zB G (Bw 0 0 0 0)), (u.2, zB G (Bw 0 0 0 0))] H := hP
  have hD : va_D A [(n1, .inr (0, [.ref db, .ref do_, .null])), (db, zB G (zby 0 0)), (do_, zB G (zby 0 0)), (n3, .inr (0, [.ref u.1, .ref u.2, .null])), (u.1, zB G (Bw 0 0 0 0)), (u.2, zB G (Bw 0 0 0 0))] := hD
  generalize u.1 = xb at hP hD
  generalize u.2 = xo at hP hD
  rw [← zby_z] at hP hD
  have hP : va_P G.1 vwCl [(n1, .inr (0, [.ref db, .ref do_, .null])), (db, zB G (zby 0 0)), (do_, zB G (zby 0 0)), (n3, .inr (0, [.ref xb, .ref xo, .null])), (xb, zB G (zby 0 0)), (xo, zB G (zby 0 0))] H := hP
  have hD : va_D A [(n1, .inr (0, [.ref db, .ref do_, .null])), (db, zB G (zby 0 0)), (do_, zB G (zby 0 0)), (n3, .inr (0, [.ref xb, .ref xo, .null])), (xb, zB G (zby 0 0)), (xo, zB G (zby 0 0))] := hD
  refine lv_astore_n (lv' := [(2, .ref n3), (1, .ref n1), (0, .ref b)]) hx hb dL_law_15 rfl hl (by decide) rfl (fun ls hl => ?_)
  refine va_new (D := G.1) (ci := 1) (fs := [.long 0, .long 0, .long 0, .long 0, .long 0, .long 0, .int (nI 0)]) (C := RX2) (T := TX2) (N := 7) hx hb hts in_X2 tyX2 tyX2_ok hown (hts _ q137) (hts _ q138) (hts _ q2) hK hP hD hS hA rfl (fun j hj => by rcases (show j = 0 ∨ j = 1 ∨ j = 2 ∨ j = 3 ∨ j = 4 ∨ j = 5 ∨ j = 6 by omega) with rfl | rfl | rfl | rfl | rfl | rfl | rfl <;> rfl) (Nat.le_of_ble_eq_true rfl) (Nat.le_of_ble_eq_true rfl) dL_law_16 (fun n5 H hP hD hS => ?_)
  have hP : va_P G.1 vwCl [(n1, .inr (0, [.ref db, .ref do_, .null])), (db, zB G (zby 0 0)), (do_, zB G (zby 0 0)), (n3, .inr (0, [.ref xb, .ref xo, .null])), (xb, zB G (zby 0 0)), (xo, zB G (zby 0 0)), (n5, .inr (1, [.long 0, .long 0, .long 0, .long 0, .long 0, .long 0, .int (nI 0)]))] H := hP
  have hD : va_D A [(n1, .inr (0, [.ref db, .ref do_, .null])), (db, zB G (zby 0 0)), (do_, zB G (zby 0 0)), (n3, .inr (0, [.ref xb, .ref xo, .null])), (xb, zB G (zby 0 0)), (xo, zB G (zby 0 0)), (n5, .inr (1, [.long 0, .long 0, .long 0, .long 0, .long 0, .long 0, .int (nI 0)]))] := hD
  refine lv_dup hx hb dL_law_19 rfl ?_
  refine z_Iv (As := []) (rest := [.ref n5]) (wc := [(n5, .inr (1, [.long 0, .long 0, .long 0, .long 0, .long 0, .long 0, .int (nI 0)]))]) (wr := [(n1, .inr (0, [.ref db, .ref do_, .null])), (db, zB G (zby 0 0)), (do_, zB G (zby 0 0)), (n3, .inr (0, [.ref xb, .ref xo, .null])), (xb, zB G (zby 0 0)), (xo, zB G (zby 0 0))]) ⟨hx, hb, hml, hown, hts⟩ (met_told_init l G H.size n5 (.long 0) (.long 0) (.long 0) (.long 0) (.long 0) (.long 0) (.int (nI 0))) (cwI 0 hts (lw_meth q141) rfl rfl rfl (hts _ q2) (hts _ q139) (hts _ q140) rfl (by decide +kernel) ⟨Nat.le_of_ble_eq_true rfl, Nat.le_of_ble_eq_true rfl⟩) hK hP hD hS hA (z_ix [6] [0, 1, 2, 3, 4, 5] rfl rfl rfl rfl rfl (by decide)) rfl hl.1 rfl (Nat.le_of_ble_eq_true rfl) dL_law_20 ⟨Nat.le_of_ble_eq_true rfl, Nat.le_of_ble_eq_true rfl⟩ (fun u H locs hw hP hD hS => ?_)
  have hP : va_P G.1 vwCl [(n1, .inr (0, [.ref db, .ref do_, .null])), (db, zB G (zby 0 0)), (do_, zB G (zby 0 0)), (n3, .inr (0, [.ref xb, .ref xo, .null])), (xb, zB G (zby 0 0)), (xo, zB G (zby 0 0)), (n5, .inr (1, [.long 0, .long 0, .long 0, .long 0, .long 0, .long 0, .int (nI 0)]))] H := hP
  have hD : va_D A [(n1, .inr (0, [.ref db, .ref do_, .null])), (db, zB G (zby 0 0)), (do_, zB G (zby 0 0)), (n3, .inr (0, [.ref xb, .ref xo, .null])), (xb, zB G (zby 0 0)), (xo, zB G (zby 0 0)), (n5, .inr (1, [.long 0, .long 0, .long 0, .long 0, .long 0, .long 0, .int (nI 0)]))] := hD
  refine lv_astore_n (lv' := [(3, .ref n5), (2, .ref n3), (1, .ref n1), (0, .ref b)]) hx hb dL_law_23 rfl hl (by decide) rfl (fun ls hl => ?_)
  refine lv_iconst (v := nI 0) hx hb dL_law_24 (by decide) ?_
  refine lv_istore (lv' := [(4, .int (nI 0)), (3, .ref n5), (2, .ref n3), (1, .ref n1), (0, .ref b)]) hx hb dL_law_25 hl (by decide) rfl (fun ls hl => ?_)
  have hP : va_P G.1 vwCl ([(n3, .inr (0, [.ref xb, .ref xo, .null])), (xb, zB G (zby 0 0)), (xo, zB G (zby 0 0))] ++ zWs G n1 db do_ n5 (none, 0, 0, 0, 0, 0, 0)) H := hP.sub [3, 4, 5, 0, 1, 2, 6] rfl
  have hD : va_D A ([(n3, .inr (0, [.ref xb, .ref xo, .null])), (xb, zB G (zby 0 0)), (xo, zB G (zby 0 0))] ++ zWs G n1 db do_ n5 (none, 0, 0, 0, 0, 0, 0)) := hD.sub [3, 4, 5, 0, 1, 2, 6] (by decide) rfl
  have fin : ∀ (H : Heap) (locs : List Loc), va_P G.1 vwCl [(n3, .inr (0, [.ref xb, .ref xo, .null])), (xb, zB G (zby 0 0)), (xo, zB G (zby 0 0))] H → va_D A [(n3, .inr (0, [.ref xb, .ref xo, .null])), (xb, zB G (zby 0 0)), (xo, zB G (zby 0 0))] → va_S A s.heap H locs → ∀ ls : Array Slot, lv_has ls 12 [(0, .ref b), (1, .ref n1), (2, .ref n3), (3, .ref n5), (4, .int (nI 60))] → W p l e room_1 s m #[Value.ref b] below meth c H locs (7 + 195 * 10) (77 + 529 * 10) (lw_Z below #[Value.ref b] s) (F0 m 96 ls []) := by
    intro H locs hP hD hS ls hl
    refine lv_aload_n hx hb dL_law_96 rfl (lv_at hl 0 rfl) ?_
    refine lv_iconst (v := nI 0) hx hb dL_law_97 (by decide) ?_
    refine z_cell 0 hL (by decide) ⟨hx, hb, hml, hown, hts⟩ (va_cwS 2 hts (lw_S q165 q166 q0 q167) rfl rfl rfl (by decide +kernel) ⟨Nat.le_of_ble_eq_true rfl, Nat.le_of_ble_eq_true rfl⟩) hX hbl hbA hP hS hA hl.1 (Nat.le_of_ble_eq_true rfl) dL_law_98 ⟨Nat.le_of_ble_eq_true rfl, Nat.le_of_ble_eq_true rfl⟩ (fun H locs hP hS => ?_)
    refine lv_topi (fun k1 _ => ?_)
    refine lv_istore (lv' := [(4, .int k1), (0, .ref b), (1, .ref n1), (2, .ref n3), (3, .ref n5)]) hx hb dL_law_101 hl (by decide) rfl (fun ls hl => ?_)
    refine lv_aload_n hx hb dL_law_103 rfl (lv_at hl 1 rfl) ?_
    refine lv_iconst (v := nI 1) hx hb dL_law_104 (by decide) ?_
    refine z_cell 1 hL (by decide) ⟨hx, hb, hml, hown, hts⟩ (va_cwS 2 hts (lw_S q165 q166 q0 q167) rfl rfl rfl (by decide +kernel) ⟨Nat.le_of_ble_eq_true rfl, Nat.le_of_ble_eq_true rfl⟩) hX hbl hbA hP hS hA hl.1 (Nat.le_of_ble_eq_true rfl) dL_law_105 ⟨Nat.le_of_ble_eq_true rfl, Nat.le_of_ble_eq_true rfl⟩ (fun H locs hP hS => ?_)
    refine lv_topi (fun k2 _ => ?_)
    refine lv_istore (lv' := [(5, .int k2), (4, .int k1), (0, .ref b), (1, .ref n1), (2, .ref n3), (3, .ref n5)]) hx hb dL_law_108 hl (by decide) rfl (fun ls hl => ?_)
    refine lv_aload_n hx hb dL_law_110 rfl (lv_at hl 2 rfl) ?_
    refine lv_iconst (v := nI 2) hx hb dL_law_111 (by decide) ?_
    refine z_cell 2 hL (by decide) ⟨hx, hb, hml, hown, hts⟩ (va_cwS 2 hts (lw_S q165 q166 q0 q167) rfl rfl rfl (by decide +kernel) ⟨Nat.le_of_ble_eq_true rfl, Nat.le_of_ble_eq_true rfl⟩) hX hbl hbA hP hS hA hl.1 (Nat.le_of_ble_eq_true rfl) dL_law_112 ⟨Nat.le_of_ble_eq_true rfl, Nat.le_of_ble_eq_true rfl⟩ (fun H locs hP hS => ?_)
    refine lv_topi (fun k3 _ => ?_)
    refine lv_istore (lv' := [(6, .int k3), (5, .int k2), (4, .int k1), (0, .ref b), (1, .ref n1), (2, .ref n3), (3, .ref n5)]) hx hb dL_law_115 hl (by decide) rfl (fun ls hl => ?_)
    refine lv_aload_n hx hb dL_law_117 rfl (lv_at hl 3 rfl) ?_
    refine lv_iconst (v := nI 3) hx hb dL_law_118 (by decide) ?_
    refine z_cell 3 hL (by decide) ⟨hx, hb, hml, hown, hts⟩ (va_cwS 2 hts (lw_S q165 q166 q0 q167) rfl rfl rfl (by decide +kernel) ⟨Nat.le_of_ble_eq_true rfl, Nat.le_of_ble_eq_true rfl⟩) hX hbl hbA hP hS hA hl.1 (Nat.le_of_ble_eq_true rfl) dL_law_119 ⟨Nat.le_of_ble_eq_true rfl, Nat.le_of_ble_eq_true rfl⟩ (fun H locs hP hS => ?_)
    refine lv_topi (fun k4 _ => ?_)
    refine lv_istore (lv' := [(7, .int k4), (6, .int k3), (5, .int k2), (4, .int k1), (0, .ref b), (1, .ref n1), (2, .ref n3), (3, .ref n5)]) hx hb dL_law_122 hl (by decide) rfl (fun ls hl => ?_)
    refine lv_iload hx hb dL_law_124 (lv_at hl 3 rfl) ?_
    refine lv_i2l (v := k1.toInt64) hx hb dL_law_126 rfl ?_
    refine lv_bipush (v := nI 32) hx hb dL_law_127 (by decide) ?_
    refine lv_lshl (v := (jlshl k1.toInt64 (nI 32))) hx hb dL_law_129 rfl ?_
    refine lv_iload hx hb dL_law_130 (lv_at hl 2 rfl) ?_
    refine lv_i2l (v := k2.toInt64) hx hb dL_law_132 rfl ?_
    refine lv_ldc2 (v := 4294967295) hx hb hown (hts _ q182) dL_law_133 ?_
    refine lv_land hx hb dL_law_136 ?_
    refine lv_lor hx hb dL_law_137 ?_
    refine lv_topl (fun y5 ey5 => ?_)
    have ey5 : y5 = j64 k1 k2 := ey5
    refine lv_lstore (lv' := [(8, .long y5), (7, .int k4), (6, .int k3), (5, .int k2), (4, .int k1), (0, .ref b), (1, .ref n1), (2, .ref n3), (3, .ref n5)]) hx hb dL_law_138 hl (by decide) rfl (fun ls hl => ?_)
    refine lv_iload hx hb dL_law_140 (lv_at hl 2 rfl) ?_
    refine lv_i2l (v := k3.toInt64) hx hb dL_law_142 rfl ?_
    refine lv_bipush (v := nI 32) hx hb dL_law_143 (by decide) ?_
    refine lv_lshl (v := (jlshl k3.toInt64 (nI 32))) hx hb dL_law_145 rfl ?_
    refine lv_iload hx hb dL_law_146 (lv_at hl 1 rfl) ?_
    refine lv_i2l (v := k4.toInt64) hx hb dL_law_148 rfl ?_
    refine lv_ldc2 (v := 4294967295) hx hb hown (hts _ q182) dL_law_149 ?_
    refine lv_land hx hb dL_law_152 ?_
    refine lv_lor hx hb dL_law_153 ?_
    refine lv_topl (fun y6 ey6 => ?_)
    have ey6 : y6 = j64 k3 k4 := ey6
    refine lv_lstore (lv' := [(10, .long y6), (8, .long y5), (7, .int k4), (6, .int k3), (5, .int k2), (4, .int k1), (0, .ref b), (1, .ref n1), (2, .ref n3), (3, .ref n5)]) hx hb dL_law_154 hl (by decide) rfl (fun ls hl => ?_)
    refine lv_aload_n hx hb dL_law_156 rfl (lv_at hl 8 rfl) ?_
    refine lv_iload hx hb dL_law_157 (lv_at hl 5 rfl) ?_
    refine lv_iload hx hb dL_law_159 (lv_at hl 4 rfl) ?_
    refine lv_iload hx hb dL_law_161 (lv_at hl 3 rfl) ?_
    refine lv_iload hx hb dL_law_163 (lv_at hl 2 rfl) ?_
    refine z_Vv (As := [.int k1, .int k2, .int k3, .int k4]) (rest := []) (wc := [(n3, .inr (0, [.ref xb, .ref xo, .null])), (xb, zB G (zby 0 0))]) (wr := [(xo, zB G (zby 0 0))]) ⟨hx, hb, hml, hown, hts⟩ (met_desk_base l G H.size n3 xb xo .null (jhi 0) (jlo 0) (jhi 0) (jlo 0) k1 k2 k3 k4) (cwV 4 hts (lw_V q30 q31 q32 q1 q33) rfl rfl rfl (by decide +kernel) ⟨Nat.le_of_ble_eq_true rfl, Nat.le_of_ble_eq_true rfl⟩) hK hP hD hS hA (z_ix [0, 1] [2] rfl rfl rfl rfl rfl (by decide)) 0 0 (T := TX1) (N := 3) rfl rfl rfl hl.1 rfl (Nat.le_of_ble_eq_true rfl) dL_law_165 ⟨Nat.le_of_ble_eq_true rfl, Nat.le_of_ble_eq_true rfl⟩ (fun u H locs hw hP hD hS => ?_)
    have hP : va_P G.1 vwCl [(xo, zB G (zby 0 0)), (n3, .inr (0, [.ref xb, .ref xo, .null])), (xb, zB G (Bw k1 k2 k3 k4))] H := hP
    have hD : va_D A [(xo, zB G (zby 0 0)), (n3, .inr (0, [.ref xb, .ref xo, .null])), (xb, zB G (Bw k1 k2 k3 k4))] := hD
    rw [← zby_64 k1 k2 k3 k4, ← ey5, ← ey6] at hP hD
    have hP : va_P G.1 vwCl [(xo, zB G (zby 0 0)), (n3, .inr (0, [.ref xb, .ref xo, .null])), (xb, zB G (zby y5 y6))] H := hP
    have hD : va_D A [(xo, zB G (zby 0 0)), (n3, .inr (0, [.ref xb, .ref xo, .null])), (xb, zB G (zby y5 y6))] := hD
    refine lv_aload_n hx hb dL_law_168 rfl (lv_at hl 8 rfl) ?_
    refine lv_iload hx hb dL_law_169 (lv_at hl 5 rfl) ?_
    refine lv_iload hx hb dL_law_171 (lv_at hl 4 rfl) ?_
    refine z_Vi (As := [.int k1, .int k2]) (rest := []) (wc := [(n3, .inr (0, [.ref xb, .ref xo, .null]))]) (wr := [(xo, zB G (zby 0 0)), (xb, zB G (zby y5 y6))]) ⟨hx, hb, hml, hown, hts⟩ (met_desk_power0 l G H.size n3 (.ref xb) (.ref xo) k1 k2) (cwV 2 hts (lw_V q69 q70 q71 q1 q72) rfl rfl rfl (by decide +kernel) ⟨Nat.le_of_ble_eq_true rfl, Nat.le_of_ble_eq_true rfl⟩) hK hP hD hS hA (z_ix [1] [0, 2] rfl rfl rfl rfl rfl (by decide)) 0 0 (T := TX1) (N := 3) rfl rfl rfl hl.1 rfl (Nat.le_of_ble_eq_true rfl) dL_law_173 ⟨Nat.le_of_ble_eq_true rfl, Nat.le_of_ble_eq_true rfl⟩ (fun r8 u H locs hw hP hD hS => ?_)
    have hP : va_P G.1 vwCl [(xo, zB G (zby 0 0)), (xb, zB G (zby y5 y6)), (n3, .inr (0, [.ref xb, .ref xo, .null]))] H := hP
    have hD : va_D A [(xo, zB G (zby 0 0)), (xb, zB G (zby y5 y6)), (n3, .inr (0, [.ref xb, .ref xo, .null]))] := hD
    have er8 : r8 = nI 0 := hw
    subst er8
    refine lv_if_ne (tgt := 190) hx hb dL_law_176 (by decide) (fun c9 => absurd (by decide) c9) (fun _ => ?_)
    refine lv_aload_n hx hb dL_law_179 rfl (lv_at hl 8 rfl) ?_
    refine lv_lconst (v := 0) hx hb dL_law_180 (by decide) ?_
    refine lv_lconst (v := 0) hx hb dL_law_181 (by decide) ?_
    refine lv_iload hx hb dL_law_182 (lv_at hl 5 rfl) ?_
    refine z_Si (As := [.ref n3, .long 0, .long 0, .int k1]) (rest := []) (wc := [(n3, .inr (0, [.ref xb, .ref xo, .null])), (xo, zB G (zby 0 0))]) (wr := [(xb, zB G (zby y5 y6))]) ⟨hx, hb, hml, hown, hts⟩ (met_shown l G H.size n3 xo (.ref xb) .null 0 0 k1) (va_cwS 4 hts (lw_S q168 q169 q0 q170) rfl rfl rfl (by decide +kernel) ⟨Nat.le_of_ble_eq_true rfl, Nat.le_of_ble_eq_true rfl⟩) hK hP hD hS hA (z_ix [2, 0] [1] rfl rfl rfl rfl rfl (by decide)) rfl hl.1 rfl (Nat.le_of_ble_eq_true rfl) dL_law_184 ⟨Nat.le_of_ble_eq_true rfl, Nat.le_of_ble_eq_true rfl⟩ (fun r9 u H locs hw hP hD hS => ?_)
    have hP : va_P G.1 vwCl [(xb, zB G (zby y5 y6)), (n3, .inr (0, [.ref xb, .ref xo, .null])), (xo, zB G (zby 0 0))] H := hP
    have hD : va_D A [(xb, zB G (zby y5 y6)), (n3, .inr (0, [.ref xb, .ref xo, .null])), (xo, zB G (zby 0 0))] := hD
    have er9 : r9 = nI 1 := hw
    subst er9
    refine lv_if_ne (tgt := 192) hx hb dL_law_187 (by decide) (fun _ => ?_) (fun c9 => absurd c9 (by decide))
    refine lv_aload_n hx hb dL_law_192 rfl (lv_at hl 8 rfl) ?_
    refine z_Vv (As := []) (rest := []) (wc := [(n3, .inr (0, [.ref xb, .ref xo, .null])), (xb, zB G (zby y5 y6))]) (wr := [(xo, zB G (zby 0 0))]) ⟨hx, hb, hml, hown, hts⟩ (met_desk_begin l G H.size n3 xb xo .null (jhi y5) (jlo y5) (jhi y6) (jlo y6)) (cwV 0 hts (lw_V q37 q38 q39 q1 q40) rfl rfl rfl (by decide +kernel) ⟨Nat.le_of_ble_eq_true rfl, Nat.le_of_ble_eq_true rfl⟩) hK hP hD hS hA (z_ix [1, 0] [2] rfl rfl rfl rfl rfl (by decide)) 0 0 (T := TX1) (N := 3) rfl rfl rfl hl.1 rfl (Nat.le_of_ble_eq_true rfl) dL_law_193 ⟨Nat.le_of_ble_eq_true rfl, Nat.le_of_ble_eq_true rfl⟩ (fun u H locs hw hP hD hS => ?_)
    have hP : va_P G.1 vwCl [(xo, zB G (zby 0 0)), (n3, .inr (0, [.ref xb, .ref xo, .ref u.1])), (xb, zB G (zby y5 y6)), (u.1, .inr (2, [.ref u.2])), (u.2, zL2 G (j64 (jhi y5) (jlo y5)) (j64 (jhi y6) (jlo y6)))] H := hP
    have hD : va_D A [(xo, zB G (zby 0 0)), (n3, .inr (0, [.ref xb, .ref xo, .ref u.1])), (xb, zB G (zby y5 y6)), (u.1, .inr (2, [.ref u.2])), (u.2, zL2 G (j64 (jhi y5) (jlo y5)) (j64 (jhi y6) (jlo y6)))] := hD
    rw [j64_hl, j64_hl] at hP hD
    have hP : va_P G.1 vwCl [(xo, zB G (zby 0 0)), (n3, .inr (0, [.ref xb, .ref xo, .ref u.1])), (xb, zB G (zby y5 y6)), (u.1, .inr (2, [.ref u.2])), (u.2, zL2 G y5 y6)] H := hP
    have hD : va_D A [(xo, zB G (zby 0 0)), (n3, .inr (0, [.ref xb, .ref xo, .ref u.1])), (xb, zB G (zby y5 y6)), (u.1, .inr (2, [.ref u.2])), (u.2, zL2 G y5 y6)] := hD
    generalize u.1 = g1 at hP hD
    generalize u.2 = h1_ at hP hD
    have hP : va_P G.1 vwCl [(xo, zB G (zby 0 0)), (n3, .inr (0, [.ref xb, .ref xo, .ref g1])), (xb, zB G (zby y5 y6)), (g1, .inr (2, [.ref h1_])), (h1_, zL2 G y5 y6)] H := hP
    have hD : va_D A [(xo, zB G (zby 0 0)), (n3, .inr (0, [.ref xb, .ref xo, .ref g1])), (xb, zB G (zby y5 y6)), (g1, .inr (2, [.ref h1_])), (h1_, zL2 G y5 y6)] := hD
    refine lv_aload_n hx hb dL_law_196 rfl (lv_at hl 8 rfl) ?_
    refine lv_ldc (v := 1073741824) hx hb hown (hts _ q211) dL_law_197 ?_
    refine lv_iconst (v := nI 0) hx hb dL_law_199 (by decide) ?_
    refine z_Vi (As := [.int 1073741824, .int (nI 0)]) (rest := []) (wc := [(n3, .inr (0, [.ref xb, .ref xo, .ref g1])), (xo, zB G (zby 0 0)), (g1, .inr (2, [.ref h1_])), (h1_, zL2 G y5 y6)]) (wr := [(xb, zB G (zby y5 y6))]) ⟨hx, hb, hml, hown, hts⟩ (met_desk_power1 l G H.size n3 xo g1 h1_ (.ref xb) 1073741824 (nI 0) y5 y6 (jhi 0) (jlo 0) (jhi 0) (jlo 0)) (cwV 2 hts (lw_V q69 q70 q71 q1 q72) rfl rfl rfl (by decide +kernel) ⟨Nat.le_of_ble_eq_true rfl, Nat.le_of_ble_eq_true rfl⟩) hK hP hD hS hA (z_ix [1, 0, 3, 4] [2] rfl rfl rfl rfl rfl (by decide)) 0 0 (T := TX1) (N := 3) rfl rfl rfl hl.1 rfl (Nat.le_of_ble_eq_true rfl) dL_law_200 ⟨Nat.le_of_ble_eq_true rfl, Nat.le_of_ble_eq_true rfl⟩ (fun r11 u H locs hw hP hD hS => ?_)
    have hP : va_P G.1 vwCl [(xb, zB G (zby y5 y6)), (n3, .inr (0, [.ref xb, .ref xo, .ref g1])), (xo, zB G (zby ((jE (jexp 1073741824 (nI 0)) y5 y6).1) ((jE (jexp 1073741824 (nI 0)) y5 y6).2))), (g1, .inr (2, [.ref h1_])), (h1_, zL2 G y5 y6)] H := hP
    have hD : va_D A [(xb, zB G (zby y5 y6)), (n3, .inr (0, [.ref xb, .ref xo, .ref g1])), (xo, zB G (zby ((jE (jexp 1073741824 (nI 0)) y5 y6).1) ((jE (jexp 1073741824 (nI 0)) y5 y6).2))), (g1, .inr (2, [.ref h1_])), (h1_, zL2 G y5 y6)] := hD
    have er11 : r11 = nI 1 := hw
    subst er11
    refine lv_if_eq (tgt := 274) hx hb dL_law_203 (by decide) (fun c9 => absurd c9 (by decide)) (fun _ => ?_)
    refine lv_aload_n hx hb dL_law_206 rfl (lv_at hl 8 rfl) ?_
    refine lv_ldc (v := 1073741824) hx hb hown (hts _ q211) dL_law_207 ?_
    refine lv_iconst (v := nI 0) hx hb dL_law_209 (by decide) ?_
    refine z_Si (As := [.ref n3, .int 1073741824, .int (nI 0)]) (rest := []) (wc := [(n3, .inr (0, [.ref xb, .ref xo, .ref g1])), (xb, zB G (zby y5 y6)), (xo, zB G (zby ((jE (jexp 1073741824 (nI 0)) y5 y6).1) ((jE (jexp 1073741824 (nI 0)) y5 y6).2))), (g1, .inr (2, [.ref h1_])), (h1_, zL2 G y5 y6)]) (wr := []) ⟨hx, hb, hml, hown, hts⟩ (met_more l G H.size n3 xb xo g1 h1_ y5 y6 y5 y6 ((jE (jexp 1073741824 (nI 0)) y5 y6).1) ((jE (jexp 1073741824 (nI 0)) y5 y6).2) 1073741824 (nI 0) ) (va_cwS 3 hts (lw_S q208 q209 q0 q210) rfl rfl rfl (by decide +kernel) ⟨Nat.le_of_ble_eq_true rfl, Nat.le_of_ble_eq_true rfl⟩) hK hP hD hS hA (z_ix [1, 0, 2, 3, 4] [] rfl rfl rfl rfl rfl (by decide)) rfl hl.1 rfl (Nat.le_of_ble_eq_true rfl) dL_law_210 ⟨Nat.le_of_ble_eq_true rfl, Nat.le_of_ble_eq_true rfl⟩ (fun r12 u H locs hw hP hD hS => ?_)
    have hP : va_P G.1 vwCl [(n3, .inr (0, [.ref xb, .ref xo, .ref u.1])), (xb, zB G (zby ((jE (jexp 1073741824 (nI 0)) y5 y6).1) ((jE (jexp 1073741824 (nI 0)) y5 y6).2))), (xo, zB G (zby ((jE (jexp 1073741824 (nI 0)) ((jE (jexp 1073741824 (nI 0)) y5 y6).1) ((jE (jexp 1073741824 (nI 0)) y5 y6).2)).1) ((jE (jexp 1073741824 (nI 0)) ((jE (jexp 1073741824 (nI 0)) y5 y6).1) ((jE (jexp 1073741824 (nI 0)) y5 y6).2)).2))), (u.1, .inr (2, [.ref u.2])), (u.2, zL2 G ((jE (jexp 1073741824 (nI 0)) y5 y6).1) ((jE (jexp 1073741824 (nI 0)) y5 y6).2))] H := hP
    have hD : va_D A [(n3, .inr (0, [.ref xb, .ref xo, .ref u.1])), (xb, zB G (zby ((jE (jexp 1073741824 (nI 0)) y5 y6).1) ((jE (jexp 1073741824 (nI 0)) y5 y6).2))), (xo, zB G (zby ((jE (jexp 1073741824 (nI 0)) ((jE (jexp 1073741824 (nI 0)) y5 y6).1) ((jE (jexp 1073741824 (nI 0)) y5 y6).2)).1) ((jE (jexp 1073741824 (nI 0)) ((jE (jexp 1073741824 (nI 0)) y5 y6).1) ((jE (jexp 1073741824 (nI 0)) y5 y6).2)).2))), (u.1, .inr (2, [.ref u.2])), (u.2, zL2 G ((jE (jexp 1073741824 (nI 0)) y5 y6).1) ((jE (jexp 1073741824 (nI 0)) y5 y6).2))] := hD
    have er12 : r12 = nI 1 := hw
    subst er12
    have hP : va_P G.1 vwCl [(n3, .inr (0, [.ref xb, .ref xo, .ref u.1])), (xb, zB G (zby ((jE (jexp 1073741824 (nI 0)) y5 y6).1) ((jE (jexp 1073741824 (nI 0)) y5 y6).2))), (xo, zB G (zby ((jE (jexp 1073741824 (nI 0)) ((jE (jexp 1073741824 (nI 0)) y5 y6).1) ((jE (jexp 1073741824 (nI 0)) y5 y6).2)).1) ((jE (jexp 1073741824 (nI 0)) ((jE (jexp 1073741824 (nI 0)) y5 y6).1) ((jE (jexp 1073741824 (nI 0)) y5 y6).2)).2))), (u.1, .inr (2, [.ref u.2])), (u.2, zL2 G ((jE (jexp 1073741824 (nI 0)) y5 y6).1) ((jE (jexp 1073741824 (nI 0)) y5 y6).2))] H := hP
    have hD : va_D A [(n3, .inr (0, [.ref xb, .ref xo, .ref u.1])), (xb, zB G (zby ((jE (jexp 1073741824 (nI 0)) y5 y6).1) ((jE (jexp 1073741824 (nI 0)) y5 y6).2))), (xo, zB G (zby ((jE (jexp 1073741824 (nI 0)) ((jE (jexp 1073741824 (nI 0)) y5 y6).1) ((jE (jexp 1073741824 (nI 0)) y5 y6).2)).1) ((jE (jexp 1073741824 (nI 0)) ((jE (jexp 1073741824 (nI 0)) y5 y6).1) ((jE (jexp 1073741824 (nI 0)) y5 y6).2)).2))), (u.1, .inr (2, [.ref u.2])), (u.2, zL2 G ((jE (jexp 1073741824 (nI 0)) y5 y6).1) ((jE (jexp 1073741824 (nI 0)) y5 y6).2))] := hD
    generalize u.1 = g2 at hP hD
    generalize u.2 = h2_ at hP hD
    have hP : va_P G.1 vwCl [(n3, .inr (0, [.ref xb, .ref xo, .ref g2])), (xb, zB G (zby ((jE (jexp 1073741824 (nI 0)) y5 y6).1) ((jE (jexp 1073741824 (nI 0)) y5 y6).2))), (xo, zB G (zby ((jE (jexp 1073741824 (nI 0)) ((jE (jexp 1073741824 (nI 0)) y5 y6).1) ((jE (jexp 1073741824 (nI 0)) y5 y6).2)).1) ((jE (jexp 1073741824 (nI 0)) ((jE (jexp 1073741824 (nI 0)) y5 y6).1) ((jE (jexp 1073741824 (nI 0)) y5 y6).2)).2))), (g2, .inr (2, [.ref h2_])), (h2_, zL2 G ((jE (jexp 1073741824 (nI 0)) y5 y6).1) ((jE (jexp 1073741824 (nI 0)) y5 y6).2))] H := hP
    have hD : va_D A [(n3, .inr (0, [.ref xb, .ref xo, .ref g2])), (xb, zB G (zby ((jE (jexp 1073741824 (nI 0)) y5 y6).1) ((jE (jexp 1073741824 (nI 0)) y5 y6).2))), (xo, zB G (zby ((jE (jexp 1073741824 (nI 0)) ((jE (jexp 1073741824 (nI 0)) y5 y6).1) ((jE (jexp 1073741824 (nI 0)) y5 y6).2)).1) ((jE (jexp 1073741824 (nI 0)) ((jE (jexp 1073741824 (nI 0)) y5 y6).1) ((jE (jexp 1073741824 (nI 0)) y5 y6).2)).2))), (g2, .inr (2, [.ref h2_])), (h2_, zL2 G ((jE (jexp 1073741824 (nI 0)) y5 y6).1) ((jE (jexp 1073741824 (nI 0)) y5 y6).2))] := hD
    refine lv_if_eq (tgt := 274) hx hb dL_law_213 (by decide) (fun c9 => absurd c9 (by decide)) (fun _ => ?_)
    refine lv_aload_n hx hb dL_law_216 rfl (lv_at hl 8 rfl) ?_
    refine lv_iconst (v := nI 0) hx hb dL_law_217 (by decide) ?_
    refine lv_bipush (v := nI 16) hx hb dL_law_218 (by decide) ?_
    refine z_Si (As := [.ref n3, .int (nI 0), .int (nI 16)]) (rest := []) (wc := [(n3, .inr (0, [.ref xb, .ref xo, .ref g2])), (xb, zB G (zby ((jE (jexp 1073741824 (nI 0)) y5 y6).1) ((jE (jexp 1073741824 (nI 0)) y5 y6).2))), (xo, zB G (zby ((jE (jexp 1073741824 (nI 0)) ((jE (jexp 1073741824 (nI 0)) y5 y6).1) ((jE (jexp 1073741824 (nI 0)) y5 y6).2)).1) ((jE (jexp 1073741824 (nI 0)) ((jE (jexp 1073741824 (nI 0)) y5 y6).1) ((jE (jexp 1073741824 (nI 0)) y5 y6).2)).2))), (g2, .inr (2, [.ref h2_])), (h2_, zL2 G ((jE (jexp 1073741824 (nI 0)) y5 y6).1) ((jE (jexp 1073741824 (nI 0)) y5 y6).2))]) (wr := []) ⟨hx, hb, hml, hown, hts⟩ (met_more l G H.size n3 xb xo g2 h2_ ((jE (jexp 1073741824 (nI 0)) y5 y6).1) ((jE (jexp 1073741824 (nI 0)) y5 y6).2) ((jE (jexp 1073741824 (nI 0)) y5 y6).1) ((jE (jexp 1073741824 (nI 0)) y5 y6).2) ((jE (jexp 1073741824 (nI 0)) ((jE (jexp 1073741824 (nI 0)) y5 y6).1) ((jE (jexp 1073741824 (nI 0)) y5 y6).2)).1) ((jE (jexp 1073741824 (nI 0)) ((jE (jexp 1073741824 (nI 0)) y5 y6).1) ((jE (jexp 1073741824 (nI 0)) y5 y6).2)).2) (nI 0) (nI 16) ) (va_cwS 3 hts (lw_S q208 q209 q0 q210) rfl rfl rfl (by decide +kernel) ⟨Nat.le_of_ble_eq_true rfl, Nat.le_of_ble_eq_true rfl⟩) hK hP hD hS hA (z_whole _) rfl hl.1 rfl (Nat.le_of_ble_eq_true rfl) dL_law_220 ⟨Nat.le_of_ble_eq_true rfl, Nat.le_of_ble_eq_true rfl⟩ (fun r13 u H locs hw hP hD hS => ?_)
    have hP : va_P G.1 vwCl [(n3, .inr (0, [.ref xb, .ref xo, .ref u.1])), (xb, zB G (zby ((jE (jexp 1073741824 (nI 0)) ((jE (jexp 1073741824 (nI 0)) y5 y6).1) ((jE (jexp 1073741824 (nI 0)) y5 y6).2)).1) ((jE (jexp 1073741824 (nI 0)) ((jE (jexp 1073741824 (nI 0)) y5 y6).1) ((jE (jexp 1073741824 (nI 0)) y5 y6).2)).2))), (xo, zB G (zby ((jE (jexp (nI 0) (nI 16)) ((jE (jexp 1073741824 (nI 0)) ((jE (jexp 1073741824 (nI 0)) y5 y6).1) ((jE (jexp 1073741824 (nI 0)) y5 y6).2)).1) ((jE (jexp 1073741824 (nI 0)) ((jE (jexp 1073741824 (nI 0)) y5 y6).1) ((jE (jexp 1073741824 (nI 0)) y5 y6).2)).2)).1) ((jE (jexp (nI 0) (nI 16)) ((jE (jexp 1073741824 (nI 0)) ((jE (jexp 1073741824 (nI 0)) y5 y6).1) ((jE (jexp 1073741824 (nI 0)) y5 y6).2)).1) ((jE (jexp 1073741824 (nI 0)) ((jE (jexp 1073741824 (nI 0)) y5 y6).1) ((jE (jexp 1073741824 (nI 0)) y5 y6).2)).2)).2))), (u.1, .inr (2, [.ref u.2])), (u.2, zL2 G ((jE (jexp 1073741824 (nI 0)) ((jE (jexp 1073741824 (nI 0)) y5 y6).1) ((jE (jexp 1073741824 (nI 0)) y5 y6).2)).1) ((jE (jexp 1073741824 (nI 0)) ((jE (jexp 1073741824 (nI 0)) y5 y6).1) ((jE (jexp 1073741824 (nI 0)) y5 y6).2)).2))] H := hP
    have hD : va_D A [(n3, .inr (0, [.ref xb, .ref xo, .ref u.1])), (xb, zB G (zby ((jE (jexp 1073741824 (nI 0)) ((jE (jexp 1073741824 (nI 0)) y5 y6).1) ((jE (jexp 1073741824 (nI 0)) y5 y6).2)).1) ((jE (jexp 1073741824 (nI 0)) ((jE (jexp 1073741824 (nI 0)) y5 y6).1) ((jE (jexp 1073741824 (nI 0)) y5 y6).2)).2))), (xo, zB G (zby ((jE (jexp (nI 0) (nI 16)) ((jE (jexp 1073741824 (nI 0)) ((jE (jexp 1073741824 (nI 0)) y5 y6).1) ((jE (jexp 1073741824 (nI 0)) y5 y6).2)).1) ((jE (jexp 1073741824 (nI 0)) ((jE (jexp 1073741824 (nI 0)) y5 y6).1) ((jE (jexp 1073741824 (nI 0)) y5 y6).2)).2)).1) ((jE (jexp (nI 0) (nI 16)) ((jE (jexp 1073741824 (nI 0)) ((jE (jexp 1073741824 (nI 0)) y5 y6).1) ((jE (jexp 1073741824 (nI 0)) y5 y6).2)).1) ((jE (jexp 1073741824 (nI 0)) ((jE (jexp 1073741824 (nI 0)) y5 y6).1) ((jE (jexp 1073741824 (nI 0)) y5 y6).2)).2)).2))), (u.1, .inr (2, [.ref u.2])), (u.2, zL2 G ((jE (jexp 1073741824 (nI 0)) ((jE (jexp 1073741824 (nI 0)) y5 y6).1) ((jE (jexp 1073741824 (nI 0)) y5 y6).2)).1) ((jE (jexp 1073741824 (nI 0)) ((jE (jexp 1073741824 (nI 0)) y5 y6).1) ((jE (jexp 1073741824 (nI 0)) y5 y6).2)).2))] := hD
    have er13 : r13 = nI 1 := hw
    subst er13
    rw [jE_cycle] at hP hD
    have hP : va_P G.1 vwCl [(n3, .inr (0, [.ref xb, .ref xo, .ref u.1])), (xb, zB G (zby ((jE (jexp 1073741824 (nI 0)) ((jE (jexp 1073741824 (nI 0)) y5 y6).1) ((jE (jexp 1073741824 (nI 0)) y5 y6).2)).1) ((jE (jexp 1073741824 (nI 0)) ((jE (jexp 1073741824 (nI 0)) y5 y6).1) ((jE (jexp 1073741824 (nI 0)) y5 y6).2)).2))), (xo, zB G (zby y5 y6)), (u.1, .inr (2, [.ref u.2])), (u.2, zL2 G ((jE (jexp 1073741824 (nI 0)) ((jE (jexp 1073741824 (nI 0)) y5 y6).1) ((jE (jexp 1073741824 (nI 0)) y5 y6).2)).1) ((jE (jexp 1073741824 (nI 0)) ((jE (jexp 1073741824 (nI 0)) y5 y6).1) ((jE (jexp 1073741824 (nI 0)) y5 y6).2)).2))] H := hP
    have hD : va_D A [(n3, .inr (0, [.ref xb, .ref xo, .ref u.1])), (xb, zB G (zby ((jE (jexp 1073741824 (nI 0)) ((jE (jexp 1073741824 (nI 0)) y5 y6).1) ((jE (jexp 1073741824 (nI 0)) y5 y6).2)).1) ((jE (jexp 1073741824 (nI 0)) ((jE (jexp 1073741824 (nI 0)) y5 y6).1) ((jE (jexp 1073741824 (nI 0)) y5 y6).2)).2))), (xo, zB G (zby y5 y6)), (u.1, .inr (2, [.ref u.2])), (u.2, zL2 G ((jE (jexp 1073741824 (nI 0)) ((jE (jexp 1073741824 (nI 0)) y5 y6).1) ((jE (jexp 1073741824 (nI 0)) y5 y6).2)).1) ((jE (jexp 1073741824 (nI 0)) ((jE (jexp 1073741824 (nI 0)) y5 y6).1) ((jE (jexp 1073741824 (nI 0)) y5 y6).2)).2))] := hD
    have hP : va_P G.1 vwCl [(n3, .inr (0, [.ref xb, .ref xo, .ref u.1])), (xb, zB G (zby ((jE (jexp 1073741824 (nI 0)) ((jE (jexp 1073741824 (nI 0)) y5 y6).1) ((jE (jexp 1073741824 (nI 0)) y5 y6).2)).1) ((jE (jexp 1073741824 (nI 0)) ((jE (jexp 1073741824 (nI 0)) y5 y6).1) ((jE (jexp 1073741824 (nI 0)) y5 y6).2)).2))), (xo, zB G (zby y5 y6)), (u.1, .inr (2, [.ref u.2])), (u.2, zL2 G ((jE (jexp 1073741824 (nI 0)) ((jE (jexp 1073741824 (nI 0)) y5 y6).1) ((jE (jexp 1073741824 (nI 0)) y5 y6).2)).1) ((jE (jexp 1073741824 (nI 0)) ((jE (jexp 1073741824 (nI 0)) y5 y6).1) ((jE (jexp 1073741824 (nI 0)) y5 y6).2)).2))] H := hP
    have hD : va_D A [(n3, .inr (0, [.ref xb, .ref xo, .ref u.1])), (xb, zB G (zby ((jE (jexp 1073741824 (nI 0)) ((jE (jexp 1073741824 (nI 0)) y5 y6).1) ((jE (jexp 1073741824 (nI 0)) y5 y6).2)).1) ((jE (jexp 1073741824 (nI 0)) ((jE (jexp 1073741824 (nI 0)) y5 y6).1) ((jE (jexp 1073741824 (nI 0)) y5 y6).2)).2))), (xo, zB G (zby y5 y6)), (u.1, .inr (2, [.ref u.2])), (u.2, zL2 G ((jE (jexp 1073741824 (nI 0)) ((jE (jexp 1073741824 (nI 0)) y5 y6).1) ((jE (jexp 1073741824 (nI 0)) y5 y6).2)).1) ((jE (jexp 1073741824 (nI 0)) ((jE (jexp 1073741824 (nI 0)) y5 y6).1) ((jE (jexp 1073741824 (nI 0)) y5 y6).2)).2))] := hD
    generalize u.1 = g3 at hP hD
    generalize u.2 = h3_ at hP hD
    have hP : va_P G.1 vwCl [(n3, .inr (0, [.ref xb, .ref xo, .ref g3])), (xb, zB G (zby ((jE (jexp 1073741824 (nI 0)) ((jE (jexp 1073741824 (nI 0)) y5 y6).1) ((jE (jexp 1073741824 (nI 0)) y5 y6).2)).1) ((jE (jexp 1073741824 (nI 0)) ((jE (jexp 1073741824 (nI 0)) y5 y6).1) ((jE (jexp 1073741824 (nI 0)) y5 y6).2)).2))), (xo, zB G (zby y5 y6)), (g3, .inr (2, [.ref h3_])), (h3_, zL2 G ((jE (jexp 1073741824 (nI 0)) ((jE (jexp 1073741824 (nI 0)) y5 y6).1) ((jE (jexp 1073741824 (nI 0)) y5 y6).2)).1) ((jE (jexp 1073741824 (nI 0)) ((jE (jexp 1073741824 (nI 0)) y5 y6).1) ((jE (jexp 1073741824 (nI 0)) y5 y6).2)).2))] H := hP
    have hD : va_D A [(n3, .inr (0, [.ref xb, .ref xo, .ref g3])), (xb, zB G (zby ((jE (jexp 1073741824 (nI 0)) ((jE (jexp 1073741824 (nI 0)) y5 y6).1) ((jE (jexp 1073741824 (nI 0)) y5 y6).2)).1) ((jE (jexp 1073741824 (nI 0)) ((jE (jexp 1073741824 (nI 0)) y5 y6).1) ((jE (jexp 1073741824 (nI 0)) y5 y6).2)).2))), (xo, zB G (zby y5 y6)), (g3, .inr (2, [.ref h3_])), (h3_, zL2 G ((jE (jexp 1073741824 (nI 0)) ((jE (jexp 1073741824 (nI 0)) y5 y6).1) ((jE (jexp 1073741824 (nI 0)) y5 y6).2)).1) ((jE (jexp 1073741824 (nI 0)) ((jE (jexp 1073741824 (nI 0)) y5 y6).1) ((jE (jexp 1073741824 (nI 0)) y5 y6).2)).2))] := hD
    refine lv_if_eq (tgt := 274) hx hb dL_law_223 (by decide) (fun c9 => absurd c9 (by decide)) (fun _ => ?_)
    refine lv_aload_n hx hb dL_law_226 rfl (lv_at hl 8 rfl) ?_
    refine lv_lload hx hb dL_law_227 (lv_at hl 1 rfl) ?_
    refine lv_lload hx hb dL_law_229 (lv_at hl 0 rfl) ?_
    refine lv_iload hx hb dL_law_231 (lv_at hl 4 rfl) ?_
    refine z_Si (As := [.ref n3, .long y5, .long y6, .int k2]) (rest := []) (wc := [(n3, .inr (0, [.ref xb, .ref xo, .ref g3])), (xo, zB G (zby y5 y6))]) (wr := [(xb, zB G (zby ((jE (jexp 1073741824 (nI 0)) ((jE (jexp 1073741824 (nI 0)) y5 y6).1) ((jE (jexp 1073741824 (nI 0)) y5 y6).2)).1) ((jE (jexp 1073741824 (nI 0)) ((jE (jexp 1073741824 (nI 0)) y5 y6).1) ((jE (jexp 1073741824 (nI 0)) y5 y6).2)).2))), (g3, .inr (2, [.ref h3_])), (h3_, zL2 G ((jE (jexp 1073741824 (nI 0)) ((jE (jexp 1073741824 (nI 0)) y5 y6).1) ((jE (jexp 1073741824 (nI 0)) y5 y6).2)).1) ((jE (jexp 1073741824 (nI 0)) ((jE (jexp 1073741824 (nI 0)) y5 y6).1) ((jE (jexp 1073741824 (nI 0)) y5 y6).2)).2))]) ⟨hx, hb, hml, hown, hts⟩ (met_shown l G H.size n3 xo (.ref xb) (.ref g3) y5 y6 k2) (va_cwS 4 hts (lw_S q168 q169 q0 q170) rfl rfl rfl (by decide +kernel) ⟨Nat.le_of_ble_eq_true rfl, Nat.le_of_ble_eq_true rfl⟩) hK hP hD hS hA (z_ix [0, 2] [1, 3, 4] rfl rfl rfl rfl rfl (by decide)) rfl hl.1 rfl (Nat.le_of_ble_eq_true rfl) dL_law_233 ⟨Nat.le_of_ble_eq_true rfl, Nat.le_of_ble_eq_true rfl⟩ (fun r14 u H locs hw hP hD hS => ?_)
    have hP : va_P G.1 vwCl [(xb, zB G (zby ((jE (jexp 1073741824 (nI 0)) ((jE (jexp 1073741824 (nI 0)) y5 y6).1) ((jE (jexp 1073741824 (nI 0)) y5 y6).2)).1) ((jE (jexp 1073741824 (nI 0)) ((jE (jexp 1073741824 (nI 0)) y5 y6).1) ((jE (jexp 1073741824 (nI 0)) y5 y6).2)).2))), (g3, .inr (2, [.ref h3_])), (h3_, zL2 G ((jE (jexp 1073741824 (nI 0)) ((jE (jexp 1073741824 (nI 0)) y5 y6).1) ((jE (jexp 1073741824 (nI 0)) y5 y6).2)).1) ((jE (jexp 1073741824 (nI 0)) ((jE (jexp 1073741824 (nI 0)) y5 y6).1) ((jE (jexp 1073741824 (nI 0)) y5 y6).2)).2)), (n3, .inr (0, [.ref xb, .ref xo, .ref g3])), (xo, zB G (zby y5 y6))] H := hP
    have hD : va_D A [(xb, zB G (zby ((jE (jexp 1073741824 (nI 0)) ((jE (jexp 1073741824 (nI 0)) y5 y6).1) ((jE (jexp 1073741824 (nI 0)) y5 y6).2)).1) ((jE (jexp 1073741824 (nI 0)) ((jE (jexp 1073741824 (nI 0)) y5 y6).1) ((jE (jexp 1073741824 (nI 0)) y5 y6).2)).2))), (g3, .inr (2, [.ref h3_])), (h3_, zL2 G ((jE (jexp 1073741824 (nI 0)) ((jE (jexp 1073741824 (nI 0)) y5 y6).1) ((jE (jexp 1073741824 (nI 0)) y5 y6).2)).1) ((jE (jexp 1073741824 (nI 0)) ((jE (jexp 1073741824 (nI 0)) y5 y6).1) ((jE (jexp 1073741824 (nI 0)) y5 y6).2)).2)), (n3, .inr (0, [.ref xb, .ref xo, .ref g3])), (xo, zB G (zby y5 y6))] := hD
    have er14 : r14 = nI 1 := hw
    subst er14
    refine lv_if_eq (tgt := 274) hx hb dL_law_236 (by decide) (fun c9 => absurd c9 (by decide)) (fun _ => ?_)
    refine lv_aload_n hx hb dL_law_239 rfl (lv_at hl 8 rfl) ?_
    refine lv_iconst (v := (-1)) hx hb dL_law_240 (by decide) ?_
    refine lv_iconst (v := (-1)) hx hb dL_law_241 (by decide) ?_
    refine z_Si (As := [.ref n3, .int (-1), .int (-1)]) (rest := []) (wc := [(n3, .inr (0, [.ref xb, .ref xo, .ref g3])), (xb, zB G (zby ((jE (jexp 1073741824 (nI 0)) ((jE (jexp 1073741824 (nI 0)) y5 y6).1) ((jE (jexp 1073741824 (nI 0)) y5 y6).2)).1) ((jE (jexp 1073741824 (nI 0)) ((jE (jexp 1073741824 (nI 0)) y5 y6).1) ((jE (jexp 1073741824 (nI 0)) y5 y6).2)).2))), (xo, zB G (zby y5 y6)), (g3, .inr (2, [.ref h3_])), (h3_, zL2 G ((jE (jexp 1073741824 (nI 0)) ((jE (jexp 1073741824 (nI 0)) y5 y6).1) ((jE (jexp 1073741824 (nI 0)) y5 y6).2)).1) ((jE (jexp 1073741824 (nI 0)) ((jE (jexp 1073741824 (nI 0)) y5 y6).1) ((jE (jexp 1073741824 (nI 0)) y5 y6).2)).2))]) (wr := []) ⟨hx, hb, hml, hown, hts⟩ (met_more l G H.size n3 xb xo g3 h3_ ((jE (jexp 1073741824 (nI 0)) ((jE (jexp 1073741824 (nI 0)) y5 y6).1) ((jE (jexp 1073741824 (nI 0)) y5 y6).2)).1) ((jE (jexp 1073741824 (nI 0)) ((jE (jexp 1073741824 (nI 0)) y5 y6).1) ((jE (jexp 1073741824 (nI 0)) y5 y6).2)).2) ((jE (jexp 1073741824 (nI 0)) ((jE (jexp 1073741824 (nI 0)) y5 y6).1) ((jE (jexp 1073741824 (nI 0)) y5 y6).2)).1) ((jE (jexp 1073741824 (nI 0)) ((jE (jexp 1073741824 (nI 0)) y5 y6).1) ((jE (jexp 1073741824 (nI 0)) y5 y6).2)).2) y5 y6 (-1) (-1) ) (va_cwS 3 hts (lw_S q208 q209 q0 q210) rfl rfl rfl (by decide +kernel) ⟨Nat.le_of_ble_eq_true rfl, Nat.le_of_ble_eq_true rfl⟩) hK hP hD hS hA (z_ix [3, 0, 4, 1, 2] [] rfl rfl rfl rfl rfl (by decide)) rfl hl.1 rfl (Nat.le_of_ble_eq_true rfl) dL_law_242 ⟨Nat.le_of_ble_eq_true rfl, Nat.le_of_ble_eq_true rfl⟩ (fun r15 u H locs hw hP hD hS => ?_)
    have hP : va_P G.1 vwCl [(n3, .inr (0, [.ref xb, .ref xo, .ref u.1])), (xb, zB G (zby y5 y6)), (xo, zB G (zby ((jE (jexp (-1) (-1)) y5 y6).1) ((jE (jexp (-1) (-1)) y5 y6).2))), (u.1, .inr (2, [.ref u.2])), (u.2, zL2 G y5 y6)] H := hP
    have hD : va_D A [(n3, .inr (0, [.ref xb, .ref xo, .ref u.1])), (xb, zB G (zby y5 y6)), (xo, zB G (zby ((jE (jexp (-1) (-1)) y5 y6).1) ((jE (jexp (-1) (-1)) y5 y6).2))), (u.1, .inr (2, [.ref u.2])), (u.2, zL2 G y5 y6)] := hD
    have er15 : r15 = nI 1 := hw
    subst er15
    have hP : va_P G.1 vwCl [(n3, .inr (0, [.ref xb, .ref xo, .ref u.1])), (xb, zB G (zby y5 y6)), (xo, zB G (zby ((jE (jexp (-1) (-1)) y5 y6).1) ((jE (jexp (-1) (-1)) y5 y6).2))), (u.1, .inr (2, [.ref u.2])), (u.2, zL2 G y5 y6)] H := hP
    have hD : va_D A [(n3, .inr (0, [.ref xb, .ref xo, .ref u.1])), (xb, zB G (zby y5 y6)), (xo, zB G (zby ((jE (jexp (-1) (-1)) y5 y6).1) ((jE (jexp (-1) (-1)) y5 y6).2))), (u.1, .inr (2, [.ref u.2])), (u.2, zL2 G y5 y6)] := hD
    generalize u.1 = g4 at hP hD
    generalize u.2 = h4_ at hP hD
    have hP : va_P G.1 vwCl [(n3, .inr (0, [.ref xb, .ref xo, .ref g4])), (xb, zB G (zby y5 y6)), (xo, zB G (zby ((jE (jexp (-1) (-1)) y5 y6).1) ((jE (jexp (-1) (-1)) y5 y6).2))), (g4, .inr (2, [.ref h4_])), (h4_, zL2 G y5 y6)] H := hP
    have hD : va_D A [(n3, .inr (0, [.ref xb, .ref xo, .ref g4])), (xb, zB G (zby y5 y6)), (xo, zB G (zby ((jE (jexp (-1) (-1)) y5 y6).1) ((jE (jexp (-1) (-1)) y5 y6).2))), (g4, .inr (2, [.ref h4_])), (h4_, zL2 G y5 y6)] := hD
    refine lv_if_eq (tgt := 274) hx hb dL_law_245 (by decide) (fun c9 => absurd c9 (by decide)) (fun _ => ?_)
    refine lv_aload_n hx hb dL_law_248 rfl (lv_at hl 8 rfl) ?_
    refine lv_iconst (v := nI 0) hx hb dL_law_249 (by decide) ?_
    refine lv_iconst (v := nI 0) hx hb dL_law_250 (by decide) ?_
    refine z_Si (As := [.ref n3, .int (nI 0), .int (nI 0)]) (rest := []) (wc := [(n3, .inr (0, [.ref xb, .ref xo, .ref g4])), (xb, zB G (zby y5 y6)), (xo, zB G (zby ((jE (jexp (-1) (-1)) y5 y6).1) ((jE (jexp (-1) (-1)) y5 y6).2))), (g4, .inr (2, [.ref h4_])), (h4_, zL2 G y5 y6)]) (wr := []) ⟨hx, hb, hml, hown, hts⟩ (met_more l G H.size n3 xb xo g4 h4_ y5 y6 y5 y6 ((jE (jexp (-1) (-1)) y5 y6).1) ((jE (jexp (-1) (-1)) y5 y6).2) (nI 0) (nI 0) ) (va_cwS 3 hts (lw_S q208 q209 q0 q210) rfl rfl rfl (by decide +kernel) ⟨Nat.le_of_ble_eq_true rfl, Nat.le_of_ble_eq_true rfl⟩) hK hP hD hS hA (z_whole _) rfl hl.1 rfl (Nat.le_of_ble_eq_true rfl) dL_law_251 ⟨Nat.le_of_ble_eq_true rfl, Nat.le_of_ble_eq_true rfl⟩ (fun r16 u H locs hw hP hD hS => ?_)
    have hP : va_P G.1 vwCl [(n3, .inr (0, [.ref xb, .ref xo, .ref u.1])), (xb, zB G (zby ((jE (jexp (-1) (-1)) y5 y6).1) ((jE (jexp (-1) (-1)) y5 y6).2))), (xo, zB G (zby ((jE (jexp (nI 0) (nI 0)) ((jE (jexp (-1) (-1)) y5 y6).1) ((jE (jexp (-1) (-1)) y5 y6).2)).1) ((jE (jexp (nI 0) (nI 0)) ((jE (jexp (-1) (-1)) y5 y6).1) ((jE (jexp (-1) (-1)) y5 y6).2)).2))), (u.1, .inr (2, [.ref u.2])), (u.2, zL2 G ((jE (jexp (-1) (-1)) y5 y6).1) ((jE (jexp (-1) (-1)) y5 y6).2))] H := hP
    have hD : va_D A [(n3, .inr (0, [.ref xb, .ref xo, .ref u.1])), (xb, zB G (zby ((jE (jexp (-1) (-1)) y5 y6).1) ((jE (jexp (-1) (-1)) y5 y6).2))), (xo, zB G (zby ((jE (jexp (nI 0) (nI 0)) ((jE (jexp (-1) (-1)) y5 y6).1) ((jE (jexp (-1) (-1)) y5 y6).2)).1) ((jE (jexp (nI 0) (nI 0)) ((jE (jexp (-1) (-1)) y5 y6).1) ((jE (jexp (-1) (-1)) y5 y6).2)).2))), (u.1, .inr (2, [.ref u.2])), (u.2, zL2 G ((jE (jexp (-1) (-1)) y5 y6).1) ((jE (jexp (-1) (-1)) y5 y6).2))] := hD
    have er16 : r16 = nI 1 := hw
    subst er16
    rw [jE_zero] at hP hD
    have hP : va_P G.1 vwCl [(n3, .inr (0, [.ref xb, .ref xo, .ref u.1])), (xb, zB G (zby ((jE (jexp (-1) (-1)) y5 y6).1) ((jE (jexp (-1) (-1)) y5 y6).2))), (xo, zB G (zby (-9223372036854775808) 0)), (u.1, .inr (2, [.ref u.2])), (u.2, zL2 G ((jE (jexp (-1) (-1)) y5 y6).1) ((jE (jexp (-1) (-1)) y5 y6).2))] H := hP
    have hD : va_D A [(n3, .inr (0, [.ref xb, .ref xo, .ref u.1])), (xb, zB G (zby ((jE (jexp (-1) (-1)) y5 y6).1) ((jE (jexp (-1) (-1)) y5 y6).2))), (xo, zB G (zby (-9223372036854775808) 0)), (u.1, .inr (2, [.ref u.2])), (u.2, zL2 G ((jE (jexp (-1) (-1)) y5 y6).1) ((jE (jexp (-1) (-1)) y5 y6).2))] := hD
    have hP : va_P G.1 vwCl [(n3, .inr (0, [.ref xb, .ref xo, .ref u.1])), (xb, zB G (zby ((jE (jexp (-1) (-1)) y5 y6).1) ((jE (jexp (-1) (-1)) y5 y6).2))), (xo, zB G (zby (-9223372036854775808) 0)), (u.1, .inr (2, [.ref u.2])), (u.2, zL2 G ((jE (jexp (-1) (-1)) y5 y6).1) ((jE (jexp (-1) (-1)) y5 y6).2))] H := hP
    have hD : va_D A [(n3, .inr (0, [.ref xb, .ref xo, .ref u.1])), (xb, zB G (zby ((jE (jexp (-1) (-1)) y5 y6).1) ((jE (jexp (-1) (-1)) y5 y6).2))), (xo, zB G (zby (-9223372036854775808) 0)), (u.1, .inr (2, [.ref u.2])), (u.2, zL2 G ((jE (jexp (-1) (-1)) y5 y6).1) ((jE (jexp (-1) (-1)) y5 y6).2))] := hD
    generalize u.1 = g5 at hP hD
    generalize u.2 = h5_ at hP hD
    have hP : va_P G.1 vwCl [(n3, .inr (0, [.ref xb, .ref xo, .ref g5])), (xb, zB G (zby ((jE (jexp (-1) (-1)) y5 y6).1) ((jE (jexp (-1) (-1)) y5 y6).2))), (xo, zB G (zby (-9223372036854775808) 0)), (g5, .inr (2, [.ref h5_])), (h5_, zL2 G ((jE (jexp (-1) (-1)) y5 y6).1) ((jE (jexp (-1) (-1)) y5 y6).2))] H := hP
    have hD : va_D A [(n3, .inr (0, [.ref xb, .ref xo, .ref g5])), (xb, zB G (zby ((jE (jexp (-1) (-1)) y5 y6).1) ((jE (jexp (-1) (-1)) y5 y6).2))), (xo, zB G (zby (-9223372036854775808) 0)), (g5, .inr (2, [.ref h5_])), (h5_, zL2 G ((jE (jexp (-1) (-1)) y5 y6).1) ((jE (jexp (-1) (-1)) y5 y6).2))] := hD
    refine lv_if_eq (tgt := 274) hx hb dL_law_254 (by decide) (fun c9 => absurd c9 (by decide)) (fun _ => ?_)
    refine lv_aload_n hx hb dL_law_257 rfl (lv_at hl 8 rfl) ?_
    refine lv_ldc2 (v := (-9223372036854775808)) hx hb hown (hts _ q196) dL_law_258 ?_
    refine lv_lconst (v := 0) hx hb dL_law_261 (by decide) ?_
    refine lv_iload hx hb dL_law_262 (lv_at hl 3 rfl) ?_
    refine z_Si (As := [.ref n3, .long (-9223372036854775808), .long 0, .int k3]) (rest := []) (wc := [(n3, .inr (0, [.ref xb, .ref xo, .ref g5])), (xo, zB G (zby (-9223372036854775808) 0))]) (wr := [(xb, zB G (zby ((jE (jexp (-1) (-1)) y5 y6).1) ((jE (jexp (-1) (-1)) y5 y6).2))), (g5, .inr (2, [.ref h5_])), (h5_, zL2 G ((jE (jexp (-1) (-1)) y5 y6).1) ((jE (jexp (-1) (-1)) y5 y6).2))]) ⟨hx, hb, hml, hown, hts⟩ (met_shown l G H.size n3 xo (.ref xb) (.ref g5) (-9223372036854775808) 0 k3) (va_cwS 4 hts (lw_S q168 q169 q0 q170) rfl rfl rfl (by decide +kernel) ⟨Nat.le_of_ble_eq_true rfl, Nat.le_of_ble_eq_true rfl⟩) hK hP hD hS hA (z_ix [0, 2] [1, 3, 4] rfl rfl rfl rfl rfl (by decide)) rfl hl.1 rfl (Nat.le_of_ble_eq_true rfl) dL_law_264 ⟨Nat.le_of_ble_eq_true rfl, Nat.le_of_ble_eq_true rfl⟩ (fun r17 u H locs hw hP hD hS => ?_)
    have hP : va_P G.1 vwCl [(xb, zB G (zby ((jE (jexp (-1) (-1)) y5 y6).1) ((jE (jexp (-1) (-1)) y5 y6).2))), (g5, .inr (2, [.ref h5_])), (h5_, zL2 G ((jE (jexp (-1) (-1)) y5 y6).1) ((jE (jexp (-1) (-1)) y5 y6).2)), (n3, .inr (0, [.ref xb, .ref xo, .ref g5])), (xo, zB G (zby (-9223372036854775808) 0))] H := hP
    have hD : va_D A [(xb, zB G (zby ((jE (jexp (-1) (-1)) y5 y6).1) ((jE (jexp (-1) (-1)) y5 y6).2))), (g5, .inr (2, [.ref h5_])), (h5_, zL2 G ((jE (jexp (-1) (-1)) y5 y6).1) ((jE (jexp (-1) (-1)) y5 y6).2)), (n3, .inr (0, [.ref xb, .ref xo, .ref g5])), (xo, zB G (zby (-9223372036854775808) 0))] := hD
    have er17 : r17 = nI 1 := hw
    subst er17
    refine lv_if_eq (tgt := 274) hx hb dL_law_267 (by decide) (fun c9 => absurd c9 (by decide)) (fun _ => ?_)
    refine lv_iconst (v := 1) hx hb dL_law_270 (by decide) ?_
    refine lv_goto (tgt := 275) hx hb dL_law_271 (by decide) ?_
    refine va_forget (fun q hq => hA2 _ (hS.2.2 q hq)) ?_
    refine W.widen (k := 1200000) (n := 5502250) (Nat.le_of_ble_eq_true rfl) (Nat.le_of_ble_eq_true rfl) ?_
    exact lw_ret hx hb hr hlocks dL_law_275
  have loop : ∀ (n j : Nat) (u : zS), j + n = 10 → ∀ (H : Heap) (locs : List Loc), va_P G.1 vwCl ([(n3, .inr (0, [.ref xb, .ref xo, .null])), (xb, zB G (zby 0 0)), (xo, zB G (zby 0 0))] ++ zWs G n1 db do_ n5 u) H → va_D A ([(n3, .inr (0, [.ref xb, .ref xo, .null])), (xb, zB G (zby 0 0)), (xo, zB G (zby 0 0))] ++ zWs G n1 db do_ n5 u) → va_S A s.heap H locs → ∀ ls : Array Slot, lv_has ls 12 [(0, .ref b), (1, .ref n1), (2, .ref n3), (3, .ref n5), (4, .int (nI (6 * j)))] → W p l e room_1 s m #[Value.ref b] below meth c H locs (7 + 195 * j) (77 + 529 * j) (lw_Z below #[Value.ref b] s) (F0 m 27 ls []) := by
    intro n
    induction n with
    | zero =>
      intro j u hj H locs hP hD hS ls hl
      have e10 : j = 10 := by omega
      subst e10
      have hl : lv_has ls 12 [(0, .ref b), (1, .ref n1), (2, .ref n3), (3, .ref n5), (4, .int (nI 60))] := hl
      refine lv_iload hx hb dL_law_27 (lv_at hl 4 rfl) ?_
      refine lv_bipush (v := nI 60) hx hb dL_law_29 (by decide) ?_
      refine lv_icmp_ge (tgt := 96) hx hb dL_law_31 (by decide) (fun _ => ?_) (fun c_ => absurd (by decide +kernel) c_)
      exact fin H _ (z_left hP) (z_leftD hD) hS ls hl
    | succ n ih =>
      intro j u hj H locs hP hD hS ls hl
      refine lv_iload hx hb dL_law_27 (lv_at hl 4 rfl) ?_
      refine lv_bipush (v := nI 60) hx hb dL_law_29 (by decide) ?_
      refine lv_icmp_ge (tgt := 96) hx hb dL_law_31 (by decide) (fun c_ => absurd c_ (nI_ge (by omega) (by decide))) (fun _ => ?_)
      refine lv_aload_n hx hb dL_law_34 rfl (lv_at hl 1 rfl) ?_
      refine lv_aload_n hx hb dL_law_35 rfl (lv_at hl 3 rfl) ?_
      refine lv_aload_n hx hb dL_law_36 rfl (lv_at hl 0 rfl) ?_
      refine lv_iload hx hb dL_law_37 (lv_at hl 4 rfl) ?_
      refine z_cell (6 * j) hL (by omega) ⟨hx, hb, hml, hown, hts⟩ (va_cwS 2 hts (lw_S q165 q166 q0 q167) rfl rfl rfl (by decide +kernel) ⟨Nat.le_of_ble_eq_true rfl, Nat.le_of_ble_eq_true rfl⟩) hX hbl hbA hP hS hA hl.1 (Nat.le_of_ble_eq_true rfl) dL_law_39 ⟨by show 7 + 195 * j + 0 ≤ 1200000; omega, by show 77 + 529 * j + 0 ≤ 5502250; omega⟩ (fun H locs hP hS => ?_)
      refine lv_topi (fun k1 _ => ?_)
      refine lv_aload_n hx hb dL_law_42 rfl (lv_at hl 0 rfl) ?_
      refine lv_iload hx hb dL_law_43 (lv_at hl 4 rfl) ?_
      refine lv_iconst (v := nI 1) hx hb dL_law_45 (by decide) ?_
      refine lv_iadd hx hb dL_law_46 ?_
      rw [nI_add]
      refine z_cell (6 * j + 1) hL (by omega) ⟨hx, hb, hml, hown, hts⟩ (va_cwS 2 hts (lw_S q165 q166 q0 q167) rfl rfl rfl (by decide +kernel) ⟨Nat.le_of_ble_eq_true rfl, Nat.le_of_ble_eq_true rfl⟩) hX hbl hbA hP hS hA hl.1 (Nat.le_of_ble_eq_true rfl) dL_law_47 ⟨by show 7 + 195 * j + 0 ≤ 1200000; omega, by show 77 + 529 * j + 0 ≤ 5502250; omega⟩ (fun H locs hP hS => ?_)
      refine lv_topi (fun k2 _ => ?_)
      refine lv_aload_n hx hb dL_law_50 rfl (lv_at hl 0 rfl) ?_
      refine lv_iload hx hb dL_law_51 (lv_at hl 4 rfl) ?_
      refine lv_iconst (v := nI 2) hx hb dL_law_53 (by decide) ?_
      refine lv_iadd hx hb dL_law_54 ?_
      rw [nI_add]
      refine z_cell (6 * j + 2) hL (by omega) ⟨hx, hb, hml, hown, hts⟩ (va_cwS 2 hts (lw_S q165 q166 q0 q167) rfl rfl rfl (by decide +kernel) ⟨Nat.le_of_ble_eq_true rfl, Nat.le_of_ble_eq_true rfl⟩) hX hbl hbA hP hS hA hl.1 (Nat.le_of_ble_eq_true rfl) dL_law_55 ⟨by show 7 + 195 * j + 0 ≤ 1200000; omega, by show 77 + 529 * j + 0 ≤ 5502250; omega⟩ (fun H locs hP hS => ?_)
      refine lv_topi (fun k3 _ => ?_)
      refine lv_aload_n hx hb dL_law_58 rfl (lv_at hl 0 rfl) ?_
      refine lv_iload hx hb dL_law_59 (lv_at hl 4 rfl) ?_
      refine lv_iconst (v := nI 3) hx hb dL_law_61 (by decide) ?_
      refine lv_iadd hx hb dL_law_62 ?_
      rw [nI_add]
      refine z_cell (6 * j + 3) hL (by omega) ⟨hx, hb, hml, hown, hts⟩ (va_cwS 2 hts (lw_S q165 q166 q0 q167) rfl rfl rfl (by decide +kernel) ⟨Nat.le_of_ble_eq_true rfl, Nat.le_of_ble_eq_true rfl⟩) hX hbl hbA hP hS hA hl.1 (Nat.le_of_ble_eq_true rfl) dL_law_63 ⟨by show 7 + 195 * j + 0 ≤ 1200000; omega, by show 77 + 529 * j + 0 ≤ 5502250; omega⟩ (fun H locs hP hS => ?_)
      refine lv_topi (fun k4 _ => ?_)
      refine lv_aload_n hx hb dL_law_66 rfl (lv_at hl 0 rfl) ?_
      refine lv_iload hx hb dL_law_67 (lv_at hl 4 rfl) ?_
      refine lv_iconst (v := nI 4) hx hb dL_law_69 (by decide) ?_
      refine lv_iadd hx hb dL_law_70 ?_
      rw [nI_add]
      refine z_cell (6 * j + 4) hL (by omega) ⟨hx, hb, hml, hown, hts⟩ (va_cwS 2 hts (lw_S q165 q166 q0 q167) rfl rfl rfl (by decide +kernel) ⟨Nat.le_of_ble_eq_true rfl, Nat.le_of_ble_eq_true rfl⟩) hX hbl hbA hP hS hA hl.1 (Nat.le_of_ble_eq_true rfl) dL_law_71 ⟨by show 7 + 195 * j + 0 ≤ 1200000; omega, by show 77 + 529 * j + 0 ≤ 5502250; omega⟩ (fun H locs hP hS => ?_)
      refine lv_topi (fun k5 _ => ?_)
      refine lv_aload_n hx hb dL_law_74 rfl (lv_at hl 0 rfl) ?_
      refine lv_iload hx hb dL_law_75 (lv_at hl 4 rfl) ?_
      refine lv_iconst (v := nI 5) hx hb dL_law_77 (by decide) ?_
      refine lv_iadd hx hb dL_law_78 ?_
      rw [nI_add]
      refine z_cell (6 * j + 5) hL (by omega) ⟨hx, hb, hml, hown, hts⟩ (va_cwS 2 hts (lw_S q165 q166 q0 q167) rfl rfl rfl (by decide +kernel) ⟨Nat.le_of_ble_eq_true rfl, Nat.le_of_ble_eq_true rfl⟩) hX hbl hbA hP hS hA hl.1 (Nat.le_of_ble_eq_true rfl) dL_law_79 ⟨by show 7 + 195 * j + 0 ≤ 1200000; omega, by show 77 + 529 * j + 0 ≤ 5502250; omega⟩ (fun H locs hP hS => ?_)
      refine lv_topi (fun k6 _ => ?_)
      refine z_Si (As := [.ref n1, .ref n5, .int k1, .int k2, .int k3, .int k4, .int k5, .int k6]) (rest := []) (wc := zWs G n1 db do_ n5 u) (wr := [(n3, .inr (0, [.ref xb, .ref xo, .null])), (xb, zB G (zby 0 0)), (xo, zB G (zby 0 0))]) ⟨hx, hb, hml, hown, hts⟩ (met_turn l G H.size n1 db do_ n5 u.2.1 u.2.2.1 u.2.2.2.1 u.2.2.2.2.1 u.2.2.2.2.2.1 u.2.2.2.2.2.2 u.1 k1 k2 k3 k4 k5 k6) (va_cwS 8 hts (lw_S q176 q177 q0 q178) rfl rfl rfl (by decide +kernel) ⟨Nat.le_of_ble_eq_true rfl, Nat.le_of_ble_eq_true rfl⟩) hK hP hD hS hA (z_spX u) rfl hl.1 rfl (Nat.le_of_ble_eq_true rfl) dL_law_82 ⟨by show 7 + 195 * j + 195 ≤ 1200000; omega, by show 77 + 529 * j + 529 ≤ 5502250; omega⟩ (fun r u H locs hw hP hD hS => ?_)
      have er : r = nI 1 := hw
      subst er
      have hP : va_P G.1 vwCl ([(n3, .inr (0, [.ref xb, .ref xo, .null])), (xb, zB G (zby 0 0)), (xo, zB G (zby 0 0))] ++ zWs G n1 db do_ n5 u) H := hP
      have hD : va_D A ([(n3, .inr (0, [.ref xb, .ref xo, .null])), (xb, zB G (zby 0 0)), (xo, zB G (zby 0 0))] ++ zWs G n1 db do_ n5 u) := hD
      refine lv_if_ne (tgt := 90) hx hb dL_law_85 (by decide) (fun _ => ?_) (fun c9 => absurd c9 (by decide))
      refine lv_iinc (v := nI (6 * (j + 1))) (lv' := [(4, .int (nI (6 * (j + 1)))), (0, .ref b), (1, .ref n1), (2, .ref n3), (3, .ref n5)]) hx hb dL_law_90 hl (k := 4) rfl (nI_add _ _) (by decide) rfl (fun ls hl => ?_)
      refine lv_goto (tgt := 27) hx hb dL_law_93 (by decide) ?_
      refine W.widen (k := 7 + 195 * (j + 1)) (n := 77 + 529 * (j + 1)) (by omega) (by omega) ?_
      exact ih (j + 1) u (by omega) H _ hP hD hS ls (lv_sub hl [1, 2, 3, 4, 0] rfl)
  refine W.widen (k := 7 + 195 * 0) (n := 77 + 529 * 0) (Nat.le_of_ble_eq_true rfl) (Nat.le_of_ble_eq_true rfl) ?_
  exact loop 10 0 (none, 0, 0, 0, 0, 0, 0) rfl H _ hP hD hS ls (lv_sub hl [4, 3, 2, 1, 0] rfl)
end
section
/-! the claim out of the law's walk (rows of the skeleton) -/
set_option maxHeartbeats 4000000 in
theorem lw_walk (l : Launch) (hflags : l.flags = flags0) (b : Addr) (xs : List Int32) : MetFree l x (headSpec (Jvm.Cond.code x code maxLocals ret :: tables_1) room_1) (lw_P b xs) (fun _ _ _ _ _ => True) lw_Q := by
  refine MetFree.of_bodyS (code := code) (maxLocals := maxLocals) (ret := ret) (by decide) ?_ ?_
  · intro args s m h hn
    obtain ⟨meth, c, h1, h2, h3, h4, h5, h6, -, -⟩ := Cond.code_spec hn (atoms_spec (ws := Jvm.Cond.code x code maxLocals ret :: tables_1) h _ List.mem_cons_self)
    exact ⟨meth, c, h1, h2, h3, h4, h5, h6⟩
  · intro p e s m args below meth c s₁ B hml0 hP _
    obtain ⟨rfl, hx, hbd, hgv⟩ := hP
    obtain ⟨scr, harrAt, hlist, hof, hsmall⟩ := hx
    obtain ⟨hcb, hkn, -, -⟩ := State.arrayAt?_spec harrAt
    have hown : s.vm.findClass R_law = some m.cls := findClass_of_methodNamed B.named
    have hts0 : ∀ c ∈ (Jvm.Cond.code x code maxLocals ret :: tables_1), c.before #[Value.ref b] s = true := atoms_spec (ws := Jvm.Cond.code x code maxLocals ret :: tables_1) B.pre
    have hts : ∀ w ∈ lw_tbl, w.before #[Value.ref b] s = true := k2_hts_sels lw_privs (fun w hw => hts0 w (List.mem_cons_of_mem _ hw)) lw_privs_ok
    have hml : c.maxLocals = 12 := B.maxLocals_eq (hts0 _ List.mem_cons_self)
    have X₀ : Stand p l e room_1 s m #[Value.ref b] below meth c s₁ [] 0 0 := Stand.of_body B
    have hh0 : s₁.heap = s.heap := by rw [B.state]; rfl
    have hsz : scr.slots.size = xs.length := by rw [← Array.length_toList, hlist, List.length_map]
    have hval : ∀ j : Nat, j < xs.length → scr.slots[j]? = some (.int (xs.getD j 0)) := fun j hj => by
      rw [← Array.getElem?_toList, hlist]
      simp [hj]
    have hbl : b < s.heap.size := (Array.getElem?_eq_some_iff.mp hcb).1
    have hX : va_X b xs.length (fun j => xs.getD j 0) s s.heap := ⟨scr, hcb, hof, hkn, hsz, hval⟩
    have K : W p l e room_1 s m #[Value.ref b] below meth c s₁.heap [] 0 0 (lw_Z below #[Value.ref b] s) (entryFrame m ([Value.ref b] : List Value).toArray 12) := by
      rw [hh0]
      exact whole_start l hflags hbd ⟨B.exec, B.bytes, B.returns, hml, hown, hts, hX, hbl, B.notSynchronized, hgv⟩
    obtain ⟨t, a1, o, b1, b2, b3⟩ := K s₁ rfl X₀
    exact ⟨t, o, a1, b1, b2, b3⟩
theorem lw_pre_spec {args : Array Value} {s : State} (h : (Jvm.Cond.and given_1 narrow_1).before args s = true) (hr : rest_1_c.before args s = true) : ∃ (b : Addr) (xs : List Int32), lw_P b xs args s := by
  have hs := flat_of_before _ h
  have hq := flat_of_before _ hr
  have hc : (Cond.count 1).before args s = true := hs _ (by decide +kernel)
  have harr : (Cond.arrayOf (.arg 0) .int).before args s = true := hs _ (by decide +kernel)
  have hle : (Cond.le (.length (.arg 0)) (.int 60)).before args s = true := hs _ (by decide +kernel)
  have hlen : (Cond.isInt (.length (.arg 0))).before args s = true := hq _ (by decide +kernel)
  have hall : (Cond.all (.arg 0) (.isInt (.elem (.arg 0) (.index 0)))).before args s = true := hq _ (by decide +kernel)
  obtain ⟨b, xs, hb, hx⟩ := State.ints_of_pre rfl harr hlen hall
  have hsm : xs.length < 2 ^ 31 := hx.choose_spec.2.2.2
  have hev : (Term.length (.arg 0)).eval args s none [] s = some (.int xs.length.toInt32) := hx.length_eval hb
  have hv := Cond.le_ints hev (show (Term.int 60).eval args s none [] s = some (.int 60) from rfl)
  have hd : xs.length.toInt32 ≤ 60 := by
    simpa [Cond.before, Cond.holds, hv] using hle
  have hN : xs.length ≤ 60 := (Int32.ofNat_le_ofNat hsm (by decide)).mp (show Int32.ofNat xs.length ≤ Int32.ofNat 60 from hd)
  exact ⟨b, xs, Cond.one_arg hc (show args[0]? = some (.ref b) from hb), hx, hN, h⟩
theorem lw_comes (l : Launch) (hflags : l.flags = flags0) : Comes l x (Jvm.Cond.code x code maxLocals ret :: tables_1) room_1 (fun tb e args s => Calls_1 tb e args s ∧ rest_1 tb e args s ∧ Pre_1 tb e args s)
    (fun _ _ args s o t => lw_Q args s o t) := by
  intro p e ha hc hk s m args below hf hfit hheap happ hpre
  obtain ⟨b, xs, hP⟩ := lw_pre_spec hpre.2.2 hpre.2.1
  obtain ⟨k, o, h1, h2, h3, hQ⟩ := lw_walk l hflags b xs p e ha hc hk s m args below hf ((Spec.applies_iff_loose hf).mp happ).1 hP trivial
  exact ⟨k, o, h1, h2, h3, hQ⟩
theorem lw_frame {s t : State} {o : Outcome} {args : Array Value} (h : Framed s o t [] 1200000 5502250) :
    Framed s o t (fieldLocs frame_1_writes args s ++ arrayLocs frame_1_arrays args s ++ staticLocs frame_1_statics s) 1200000 5502250 := h
theorem lw_limb (L : Cond) (hL : ∀ (args : Array Value) (s t : State), L.after args s (.returned (some (.int 1))) t = true) :
    ArmFor flags0 classFile x code maxLocals ret World_1 tables_1 room_1 Calls_1 rest_1 Pre_1
      (fun tb e a s o t => postC L tb e a s o t ∧ Framed s o t (fieldLocs frame_1_writes a s ++ arrayLocs frame_1_arrays a s ++ staticLocs frame_1_statics s) 1200000 5502250) := by
  intro l hflags _ _ p e ha hc hk s m args below hf hfit hheap happ hpre
  obtain ⟨k, o, h1, h2, h3, rfl, hF⟩ := lw_comes l hflags p e ha hc hk s m args below hf hfit hheap happ hpre
  exact ⟨k, _, h1, h2, h3, hL args s _, lw_frame hF⟩
theorem i_vc : Claimed_1_1 ∧ Claimed_1_2 := ⟨lw_limb limb_1_1 (fun args s t => by simp [limb_1_1, Cond.after, Cond.holds, Cond.value]), lw_limb limb_1_2 (fun args s t => Cond.after_iff.mpr (by
  first | (rw [show limb_1_2 = Cond.eq .result (.int 1) from rfl, Cond.eq_ints (x := 1) (y := 1) rfl rfl]; simp; done) | (simp [limb_1_2, Cond.value, Term.eval]; done)))⟩
end
