section
-- ===== PART A: goes FIRST, ahead of the names: the tables' words, and 'selects' of the private methods out of them =====
/-- a private method of a class that the tables say can be made, by its rows of tables_1 -/
def lw_okq (q : MethodName × Nat) : Prop := (q.1.cls ≠ "java/lang/invoke/MethodHandle" ∧ q.1.cls ≠ "java/lang/invoke/VarHandle") ∧ Cond.instantiable q.1.cls q.2 ∈ tables_1 ∧ Cond.privateMethod q.1 ∈ tables_1 ∧ Cond.instanceMethod q.1 ∈ tables_1
set_option maxRecDepth 100000
theorem lw_p0 : lw_okq (⟨"WideScalarsModel", "lay", "([IIIIII)V"⟩, 4) := ⟨⟨by decide +kernel, by decide +kernel⟩, List.mem_of_getElem? (i := 111) rfl, List.mem_of_getElem? (i := 134) rfl, List.mem_of_getElem? (i := 135) rfl⟩
theorem lw_p1 : lw_okq (⟨"WideScalarsModel", "divide", "([II)V"⟩, 4) := ⟨⟨by decide +kernel, by decide +kernel⟩, List.mem_of_getElem? (i := 111) rfl, List.mem_of_getElem? (i := 142) rfl, List.mem_of_getElem? (i := 143) rfl⟩
def lw_privs_1 : List (MethodName × Nat) := [(⟨"WideScalarsModel", "lay", "([IIIIII)V"⟩, 4), (⟨"WideScalarsModel", "divide", "([II)V"⟩, 4)]
theorem lw_r1 : ∀ q ∈ lw_privs_1, lw_okq q := List.forall_mem_cons.mpr ⟨lw_p0, List.forall_mem_cons.mpr ⟨lw_p1, fun _ h => absurd h List.not_mem_nil⟩⟩
def lw_privs : List (MethodName × Nat) := lw_privs_1
def lw_tbl : List Cond := k2_sels lw_privs ++ tables_1
theorem lw_privs_ok : ∀ q ∈ lw_privs, lw_okq q := lw_r1
-- ===== ONE list of words for every method: the tables' words that hold all through a run =====
def lw_all : List Cond := lw_tbl.filter goodWord
/-- a word of the tables by its place: claim/WORDS.tsv -/
theorem lw_w {w : Cond} (i : Nat) (h : lw_tbl[i]? = some w) (g : goodWord w = true) : w ∈ lw_all := List.mem_filter.mpr ⟨List.mem_of_getElem? h, g⟩
theorem lw_all_tbl {w : Cond} (h : w ∈ lw_all) : w ∈ lw_tbl := (List.mem_filter.mp h).1
theorem lw_self : GoodIn lw_all lw_all := fun w h => ⟨h, good_of_word (List.mem_filter.mp h).2⟩
/-- a class's field words, by their places -/
theorem lw_in (ws : List Cond) (ps : List Nat) (hp : ws = ps.filterMap (fun i => lw_tbl[i]?)) (hg : ws.all goodWord = true) : ∀ w ∈ ws, w ∈ lw_all := by
  intro w h
  have h1 := List.all_eq_true.mp hg w h
  rw [hp] at h
  obtain ⟨i, -, hi⟩ := List.mem_filterMap.mp h
  exact lw_w i hi h1
/-- the words of a contract for the method y with code b, L locals, answer r -/
abbrev ws_ (y : MethodName) (b : ByteArray) (L : Nat) (r : Option FieldType) : List Cond := Cond.code y b L r :: lw_all
theorem lw_meth {y : MethodName} {b : ByteArray} {L : Nat} {r : Option FieldType} (h : Cond.code y b L r ∈ lw_all) : GoodIn lw_all (ws_ y b L r) := by
  intro w hw
  rcases List.mem_cons.mp hw with e | e
  · rw [e]
    exact lw_self _ h
  · exact lw_self _ e
theorem lw_app {a c : List Cond} (ha : ∀ w ∈ a, w ∈ lw_all) (hc : GoodIn lw_all c) : GoodIn lw_all (a ++ c) := by
  intro w hw
  rcases List.mem_append.mp hw with e | e
  · exact lw_self w (ha w e)
  · exact hc w e
/-- what a call through an object asks: cwV n hts (lw_V ..) -/
theorem lw_V {own : String} {idx : Nat} {C : String} {y : MethodName} {b : ByteArray} {L : Nat} {r : Option FieldType} (h1 : Cond.methodLink own idx y ∈ lw_all) (h2 : Cond.instanceMethod y ∈ lw_all) (h3 : Cond.selects C y y ∈ lw_all) (h4 : Cond.initialized C ∈ lw_all) (h5 : Cond.code y b L r ∈ lw_all) : GoodIn lw_all (wsV own idx C y (ws_ y b L r)) := by
  refine lw_app ?_ (lw_meth h5)
  intro w hw
  simp only [List.mem_cons, List.not_mem_nil, or_false] at hw
  rcases hw with e | e | e | e
  · rw [e]; exact h1
  · rw [e]; exact h2
  · rw [e]; exact h3
  · rw [e]; exact h4
/-- what a static call asks: va_cwS n hts (lw_S ..) -/
theorem lw_S {own : String} {idx : Nat} {y : MethodName} {b : ByteArray} {L : Nat} {r : Option FieldType} (h1 : Cond.methodLink own idx y ∈ lw_all) (h2 : Cond.static y ∈ lw_all) (h3 : Cond.initialized y.cls ∈ lw_all) (h4 : Cond.code y b L r ∈ lw_all) : GoodIn lw_all (va_wsS own idx y (ws_ y b L r)) := by
  refine lw_app ?_ (lw_meth h4)
  intro w hw
  simp only [List.mem_cons, List.not_mem_nil, or_false] at hw
  rcases hw with e | e | e
  · rw [e]; exact h1
  · rw [e]; exact h2
  · rw [e]; exact h3
/-- the words of a contract for a method WITH HANDLERS (hh: its table) -/
abbrev wsW_ (y : MethodName) (b : ByteArray) (L : Nat) (r : Option FieldType) (hh : List (Nat × Nat × Nat × Nat)) : List Cond := Cond.codeWith y b L r hh :: lw_all
theorem lw_methW {y : MethodName} {b : ByteArray} {L : Nat} {r : Option FieldType} {hh : List (Nat × Nat × Nat × Nat)} (h : Cond.codeWith y b L r hh ∈ lw_all) : GoodIn lw_all (wsW_ y b L r hh) := by
  intro w hw
  rcases List.mem_cons.mp hw with e | e
  · rw [e]
    exact lw_self _ h
  · exact lw_self _ e
/-- any list of words by their places (lw_in), good -/
theorem lw_good {ws : List Cond} (h : ∀ w ∈ ws, w ∈ lw_all) : GoodIn lw_all ws := fun w hw => lw_self w (h w hw)
/-- what a call of a method with handlers asks: vx_cwVW n hts (lw_VW ..), vx_cwSW n hts (lw_SW ..) -/
theorem lw_VW {own : String} {idx : Nat} {C : String} {y : MethodName} {b : ByteArray} {L : Nat} {r : Option FieldType} {hh : List (Nat × Nat × Nat × Nat)} (h1 : Cond.methodLink own idx y ∈ lw_all) (h2 : Cond.instanceMethod y ∈ lw_all) (h3 : Cond.selects C y y ∈ lw_all) (h4 : Cond.initialized C ∈ lw_all) (h5 : Cond.codeWith y b L r hh ∈ lw_all) : GoodIn lw_all (wsV own idx C y (wsW_ y b L r hh)) := by
  refine lw_app ?_ (lw_methW h5)
  intro w hw
  simp only [List.mem_cons, List.not_mem_nil, or_false] at hw
  rcases hw with e | e | e | e
  · rw [e]; exact h1
  · rw [e]; exact h2
  · rw [e]; exact h3
  · rw [e]; exact h4
theorem lw_SW {own : String} {idx : Nat} {y : MethodName} {b : ByteArray} {L : Nat} {r : Option FieldType} {hh : List (Nat × Nat × Nat × Nat)} (h1 : Cond.methodLink own idx y ∈ lw_all) (h2 : Cond.static y ∈ lw_all) (h3 : Cond.initialized y.cls ∈ lw_all) (h4 : Cond.codeWith y b L r hh ∈ lw_all) : GoodIn lw_all (va_wsS own idx y (wsW_ y b L r hh)) := by
  refine lw_app ?_ (lw_methW h4)
  intro w hw
  simp only [List.mem_cons, List.not_mem_nil, or_false] at hw
  rcases hw with e | e | e
  · rw [e]; exact h1
  · rw [e]; exact h2
  · rw [e]; exact h3
/-- a word by its place in its run of the tables -/
theorem lw_at {r : List Cond} (hr : ∀ w ∈ r, w ∈ lw_tbl) {w : Cond} (i : Nat) (h : r[i]? = some w) : w ∈ lw_tbl := hr w (List.mem_of_getElem? h)
theorem lw_g {w : Cond} (h : w ∈ lw_tbl) (g : goodWord w = true) : w ∈ lw_all := List.mem_filter.mpr ⟨h, g⟩
theorem lw_ms : ∀ w ∈ k2_sels lw_privs, w ∈ lw_tbl := fun w h => show w ∈ k2_sels lw_privs ++ tables_1 from List.mem_append_left _ h
theorem lw_m0 : ∀ w ∈ tables_1, w ∈ lw_tbl := fun w h => show w ∈ k2_sels lw_privs ++ tables_1 from List.mem_append_right (k2_sels lw_privs) h
theorem qs0 : (Cond.selects "WideScalarsModel" ⟨"WideScalarsModel", "lay", "([IIIIII)V"⟩ ⟨"WideScalarsModel", "lay", "([IIIIII)V"⟩) ∈ lw_all := lw_g (lw_at lw_ms 0 rfl) rfl
theorem qs1 : (Cond.selects "WideScalarsModel" ⟨"WideScalarsModel", "divide", "([II)V"⟩ ⟨"WideScalarsModel", "divide", "([II)V"⟩) ∈ lw_all := lw_g (lw_at lw_ms 1 rfl) rfl
end
section
/-! DECODE ROWS BY BYTES: one lemma an opcode; a method's code is cut into short pieces once, and a row reads its own piece alone. -/
set_option maxRecDepth 100000
/-- the code has just these bytes from pc on -/
def DkAt (code : ByteArray) (pc : Nat) (bs : List UInt8) : Prop := ∀ (j : Nat) (b : UInt8), bs[j]? = some b → code.data.toList[pc + j]? = some b
/-- the piece W has the bytes bs from its place j on -/
def dkIn (W : List UInt8) (j : Nat) (bs : List UInt8) : Bool := decide ((W.drop j).take bs.length = bs)
theorem dk_seg {l W T : List UInt8} {o o2 : Nat} (h : l.drop o = W ++ T) (n : Nat) (hn : W.length = n) (ho : o + n = o2) : l.drop o2 = T := by
  subst ho
  rw [← List.drop_drop, h, List.drop_left' hn]
theorem dk_at {code : ByteArray} {W T bs : List UInt8} {o pc : Nat} (h : code.data.toList.drop o = W ++ T) (j : Nat) (hp : o + j = pc) (hw : dkIn W j bs = true) : DkAt code pc bs := by
  subst hp
  intro i b e
  have h1 := of_decide_eq_true hw
  have h2 : i < bs.length := (List.getElem?_eq_some_iff.mp e).1
  have h3 : W[j + i]? = some b := by
    rw [← h1, List.getElem?_take, if_pos h2, List.getElem?_drop] at e
    exact e
  have h4 : j + i < W.length := (List.getElem?_eq_some_iff.mp h3).1
  have h5 : (code.data.toList.drop o)[j + i]? = some b := by
    rw [h, List.getElem?_append_left h4]
    exact h3
  rw [List.getElem?_drop, ← Nat.add_assoc] at h5
  exact h5
theorem dk_u1 {A : ByteArray} {p : Nat} {b : UInt8} (h : A.data.toList[p]? = some b) : (Reader.u1 : Reader DecodeError Nat) A p = .ok (b.toNat, p + 1) := by
  obtain ⟨h1, h2⟩ := List.getElem?_eq_some_iff.mp h
  have h3 : p < A.size := by simpa using h1
  have h4 : A[p]'h3 = b := h2
  have e : (Reader.u1 : Reader DecodeError Nat) A p = (if h : p < A.size then .ok (A[p].toNat, p + 1) else .error (HasTruncated.truncated p)) := by
    show (do if h : p < A.size then do set (p + 1); Pure.pure A[p].toNat else MonadExcept.throw (HasTruncated.truncated p) : Reader DecodeError Nat) A p = _
    by_cases hi : p < A.size
    · rw [dif_pos hi, dif_pos hi]; rfl
    · rw [dif_neg hi, dif_neg hi]; rfl
  rw [e, dif_pos h3, h4]
theorem dk_bind {α β : Type} {r : Reader DecodeError α} {f : α → Reader DecodeError β} {A : ByteArray} {p s : Nat} {a : α} (h : r A p = .ok (a, s)) : (r >>= f) A p = f a A s := by
  show (do let (a, s) ← r A p; f a A s : Except DecodeError (β × Nat)) = _
  rw [h]
  rfl
theorem dk_map {α β : Type} {r : Reader DecodeError α} {g : α → β} {A : ByteArray} {p s : Nat} {a : α} (h : r A p = .ok (a, s)) : (g <$> r) A p = .ok (g a, s) := by
  show (do let (a, s) ← r A p; .ok (g a, s) : Except DecodeError (β × Nat)) = _
  rw [h]
  rfl
theorem dk_u2 {A : ByteArray} {p : Nat} {a b : UInt8} (h : A.data.toList[p]? = some a) (h2 : A.data.toList[p + 1]? = some b) : (Reader.u2 : Reader DecodeError Nat) A p = .ok (a.toNat * 256 + b.toNat, p + 2) := by
  show (Reader.u1 >>= fun hi => Reader.u1 >>= fun lo => Pure.pure (hi * 256 + lo) : Reader DecodeError Nat) A p = _
  rw [dk_bind (dk_u1 h), dk_bind (dk_u1 h2)]
  rfl
theorem dk_of {code : ByteArray} {pc n : Nat} {i : Instr} (h : Decoder.instr pc code pc = .ok (i, pc + n)) : decode code pc = .ok (i, n) := by
  have e : decode code pc = (match Decoder.instr pc code pc with | .error x => .error x | .ok (j, s) => .ok (j, s - pc)) := by
    show (do let (j, s) ← Decoder.instr pc code pc; Pure.pure (j, s - pc) : Except DecodeError (Instr × Nat)) = _
    cases Decoder.instr pc code pc <;> rfl
  rw [e, h]
  show Except.ok (i, pc + n - pc) = _
  rw [Nat.add_sub_cancel_left]
theorem dk_3 {code : ByteArray} {pc : Nat} (h : DkAt code pc [3]) : decode code pc = .ok (.iconst 0, 1) := dk_of ((dk_bind (dk_u1 (h 0 _ rfl))).trans rfl)
theorem dk_4 {code : ByteArray} {pc : Nat} (h : DkAt code pc [4]) : decode code pc = .ok (.iconst 1, 1) := dk_of ((dk_bind (dk_u1 (h 0 _ rfl))).trans rfl)
theorem dk_5 {code : ByteArray} {pc : Nat} (h : DkAt code pc [5]) : decode code pc = .ok (.iconst 2, 1) := dk_of ((dk_bind (dk_u1 (h 0 _ rfl))).trans rfl)
theorem dk_6 {code : ByteArray} {pc : Nat} (h : DkAt code pc [6]) : decode code pc = .ok (.iconst 3, 1) := dk_of ((dk_bind (dk_u1 (h 0 _ rfl))).trans rfl)
theorem dk_7 {code : ByteArray} {pc : Nat} (h : DkAt code pc [7]) : decode code pc = .ok (.iconst 4, 1) := dk_of ((dk_bind (dk_u1 (h 0 _ rfl))).trans rfl)
theorem dk_8 {code : ByteArray} {pc : Nat} (h : DkAt code pc [8]) : decode code pc = .ok (.iconst 5, 1) := dk_of ((dk_bind (dk_u1 (h 0 _ rfl))).trans rfl)
theorem dk_16 {code : ByteArray} {pc : Nat} (a : UInt8) (h : DkAt code pc [16, a]) : decode code pc = .ok (.bipush (Reader.signed 8 a.toNat), 2) := dk_of ((dk_bind (dk_u1 (h 0 _ rfl))).trans ((dk_bind (dk_map (dk_u1 (h 1 _ rfl)))).trans rfl))
theorem dk_17 {code : ByteArray} {pc : Nat} (a b : UInt8) (h : DkAt code pc [17, a, b]) : decode code pc = .ok (.sipush (Reader.signed 16 (a.toNat * 256 + b.toNat)), 3) := dk_of ((dk_bind (dk_u1 (h 0 _ rfl))).trans ((dk_bind (dk_map (dk_u2 (h 1 _ rfl) (h 2 _ rfl)))).trans rfl))
theorem dk_18 {code : ByteArray} {pc : Nat} (a : UInt8) (h : DkAt code pc [18, a]) : decode code pc = .ok (.ldc a.toNat, 2) := dk_of ((dk_bind (dk_u1 (h 0 _ rfl))).trans ((dk_bind (dk_u1 (h 1 _ rfl))).trans rfl))
theorem dk_20 {code : ByteArray} {pc : Nat} (a b : UInt8) (h : DkAt code pc [20, a, b]) : decode code pc = .ok (.ldc2_w (a.toNat * 256 + b.toNat), 3) := dk_of ((dk_bind (dk_u1 (h 0 _ rfl))).trans ((dk_bind (dk_u2 (h 1 _ rfl) (h 2 _ rfl))).trans rfl))
theorem dk_21 {code : ByteArray} {pc : Nat} (a : UInt8) (h : DkAt code pc [21, a]) : decode code pc = .ok (.iload a.toNat, 2) := dk_of ((dk_bind (dk_u1 (h 0 _ rfl))).trans ((dk_bind (dk_u1 (h 1 _ rfl))).trans rfl))
theorem dk_22 {code : ByteArray} {pc : Nat} (a : UInt8) (h : DkAt code pc [22, a]) : decode code pc = .ok (.lload a.toNat, 2) := dk_of ((dk_bind (dk_u1 (h 0 _ rfl))).trans ((dk_bind (dk_u1 (h 1 _ rfl))).trans rfl))
theorem dk_25 {code : ByteArray} {pc : Nat} (a : UInt8) (h : DkAt code pc [25, a]) : decode code pc = .ok (.aload a.toNat, 2) := dk_of ((dk_bind (dk_u1 (h 0 _ rfl))).trans ((dk_bind (dk_u1 (h 1 _ rfl))).trans rfl))
theorem dk_26 {code : ByteArray} {pc : Nat} (h : DkAt code pc [26]) : decode code pc = .ok (.iload_n 0, 1) := dk_of ((dk_bind (dk_u1 (h 0 _ rfl))).trans rfl)
theorem dk_27 {code : ByteArray} {pc : Nat} (h : DkAt code pc [27]) : decode code pc = .ok (.iload_n 1, 1) := dk_of ((dk_bind (dk_u1 (h 0 _ rfl))).trans rfl)
theorem dk_28 {code : ByteArray} {pc : Nat} (h : DkAt code pc [28]) : decode code pc = .ok (.iload_n 2, 1) := dk_of ((dk_bind (dk_u1 (h 0 _ rfl))).trans rfl)
theorem dk_29 {code : ByteArray} {pc : Nat} (h : DkAt code pc [29]) : decode code pc = .ok (.iload_n 3, 1) := dk_of ((dk_bind (dk_u1 (h 0 _ rfl))).trans rfl)
theorem dk_30 {code : ByteArray} {pc : Nat} (h : DkAt code pc [30]) : decode code pc = .ok (.lload_n 0, 1) := dk_of ((dk_bind (dk_u1 (h 0 _ rfl))).trans rfl)
theorem dk_31 {code : ByteArray} {pc : Nat} (h : DkAt code pc [31]) : decode code pc = .ok (.lload_n 1, 1) := dk_of ((dk_bind (dk_u1 (h 0 _ rfl))).trans rfl)
theorem dk_33 {code : ByteArray} {pc : Nat} (h : DkAt code pc [33]) : decode code pc = .ok (.lload_n 3, 1) := dk_of ((dk_bind (dk_u1 (h 0 _ rfl))).trans rfl)
theorem dk_42 {code : ByteArray} {pc : Nat} (h : DkAt code pc [42]) : decode code pc = .ok (.aload_n 0, 1) := dk_of ((dk_bind (dk_u1 (h 0 _ rfl))).trans rfl)
theorem dk_43 {code : ByteArray} {pc : Nat} (h : DkAt code pc [43]) : decode code pc = .ok (.aload_n 1, 1) := dk_of ((dk_bind (dk_u1 (h 0 _ rfl))).trans rfl)
theorem dk_44 {code : ByteArray} {pc : Nat} (h : DkAt code pc [44]) : decode code pc = .ok (.aload_n 2, 1) := dk_of ((dk_bind (dk_u1 (h 0 _ rfl))).trans rfl)
theorem dk_46 {code : ByteArray} {pc : Nat} (h : DkAt code pc [46]) : decode code pc = .ok (.iaload, 1) := dk_of ((dk_bind (dk_u1 (h 0 _ rfl))).trans rfl)
theorem dk_51 {code : ByteArray} {pc : Nat} (h : DkAt code pc [51]) : decode code pc = .ok (.baload, 1) := dk_of ((dk_bind (dk_u1 (h 0 _ rfl))).trans rfl)
theorem dk_54 {code : ByteArray} {pc : Nat} (a : UInt8) (h : DkAt code pc [54, a]) : decode code pc = .ok (.istore a.toNat, 2) := dk_of ((dk_bind (dk_u1 (h 0 _ rfl))).trans ((dk_bind (dk_u1 (h 1 _ rfl))).trans rfl))
theorem dk_55 {code : ByteArray} {pc : Nat} (a : UInt8) (h : DkAt code pc [55, a]) : decode code pc = .ok (.lstore a.toNat, 2) := dk_of ((dk_bind (dk_u1 (h 0 _ rfl))).trans ((dk_bind (dk_u1 (h 1 _ rfl))).trans rfl))
theorem dk_58 {code : ByteArray} {pc : Nat} (a : UInt8) (h : DkAt code pc [58, a]) : decode code pc = .ok (.astore a.toNat, 2) := dk_of ((dk_bind (dk_u1 (h 0 _ rfl))).trans ((dk_bind (dk_u1 (h 1 _ rfl))).trans rfl))
theorem dk_61 {code : ByteArray} {pc : Nat} (h : DkAt code pc [61]) : decode code pc = .ok (.istore_n 2, 1) := dk_of ((dk_bind (dk_u1 (h 0 _ rfl))).trans rfl)
theorem dk_62 {code : ByteArray} {pc : Nat} (h : DkAt code pc [62]) : decode code pc = .ok (.istore_n 3, 1) := dk_of ((dk_bind (dk_u1 (h 0 _ rfl))).trans rfl)
theorem dk_64 {code : ByteArray} {pc : Nat} (h : DkAt code pc [64]) : decode code pc = .ok (.lstore_n 1, 1) := dk_of ((dk_bind (dk_u1 (h 0 _ rfl))).trans rfl)
theorem dk_66 {code : ByteArray} {pc : Nat} (h : DkAt code pc [66]) : decode code pc = .ok (.lstore_n 3, 1) := dk_of ((dk_bind (dk_u1 (h 0 _ rfl))).trans rfl)
theorem dk_76 {code : ByteArray} {pc : Nat} (h : DkAt code pc [76]) : decode code pc = .ok (.astore_n 1, 1) := dk_of ((dk_bind (dk_u1 (h 0 _ rfl))).trans rfl)
theorem dk_77 {code : ByteArray} {pc : Nat} (h : DkAt code pc [77]) : decode code pc = .ok (.astore_n 2, 1) := dk_of ((dk_bind (dk_u1 (h 0 _ rfl))).trans rfl)
theorem dk_79 {code : ByteArray} {pc : Nat} (h : DkAt code pc [79]) : decode code pc = .ok (.iastore, 1) := dk_of ((dk_bind (dk_u1 (h 0 _ rfl))).trans rfl)
theorem dk_84 {code : ByteArray} {pc : Nat} (h : DkAt code pc [84]) : decode code pc = .ok (.bastore, 1) := dk_of ((dk_bind (dk_u1 (h 0 _ rfl))).trans rfl)
theorem dk_89 {code : ByteArray} {pc : Nat} (h : DkAt code pc [89]) : decode code pc = .ok (.dup, 1) := dk_of ((dk_bind (dk_u1 (h 0 _ rfl))).trans rfl)
theorem dk_96 {code : ByteArray} {pc : Nat} (h : DkAt code pc [96]) : decode code pc = .ok (.iadd, 1) := dk_of ((dk_bind (dk_u1 (h 0 _ rfl))).trans rfl)
theorem dk_97 {code : ByteArray} {pc : Nat} (h : DkAt code pc [97]) : decode code pc = .ok (.ladd, 1) := dk_of ((dk_bind (dk_u1 (h 0 _ rfl))).trans rfl)
theorem dk_100 {code : ByteArray} {pc : Nat} (h : DkAt code pc [100]) : decode code pc = .ok (.isub, 1) := dk_of ((dk_bind (dk_u1 (h 0 _ rfl))).trans rfl)
theorem dk_101 {code : ByteArray} {pc : Nat} (h : DkAt code pc [101]) : decode code pc = .ok (.lsub, 1) := dk_of ((dk_bind (dk_u1 (h 0 _ rfl))).trans rfl)
theorem dk_104 {code : ByteArray} {pc : Nat} (h : DkAt code pc [104]) : decode code pc = .ok (.imul, 1) := dk_of ((dk_bind (dk_u1 (h 0 _ rfl))).trans rfl)
theorem dk_105 {code : ByteArray} {pc : Nat} (h : DkAt code pc [105]) : decode code pc = .ok (.lmul, 1) := dk_of ((dk_bind (dk_u1 (h 0 _ rfl))).trans rfl)
theorem dk_120 {code : ByteArray} {pc : Nat} (h : DkAt code pc [120]) : decode code pc = .ok (.ishl, 1) := dk_of ((dk_bind (dk_u1 (h 0 _ rfl))).trans rfl)
theorem dk_121 {code : ByteArray} {pc : Nat} (h : DkAt code pc [121]) : decode code pc = .ok (.lshl, 1) := dk_of ((dk_bind (dk_u1 (h 0 _ rfl))).trans rfl)
theorem dk_122 {code : ByteArray} {pc : Nat} (h : DkAt code pc [122]) : decode code pc = .ok (.ishr, 1) := dk_of ((dk_bind (dk_u1 (h 0 _ rfl))).trans rfl)
theorem dk_123 {code : ByteArray} {pc : Nat} (h : DkAt code pc [123]) : decode code pc = .ok (.lshr, 1) := dk_of ((dk_bind (dk_u1 (h 0 _ rfl))).trans rfl)
theorem dk_124 {code : ByteArray} {pc : Nat} (h : DkAt code pc [124]) : decode code pc = .ok (.iushr, 1) := dk_of ((dk_bind (dk_u1 (h 0 _ rfl))).trans rfl)
theorem dk_125 {code : ByteArray} {pc : Nat} (h : DkAt code pc [125]) : decode code pc = .ok (.lushr, 1) := dk_of ((dk_bind (dk_u1 (h 0 _ rfl))).trans rfl)
theorem dk_126 {code : ByteArray} {pc : Nat} (h : DkAt code pc [126]) : decode code pc = .ok (.iand, 1) := dk_of ((dk_bind (dk_u1 (h 0 _ rfl))).trans rfl)
theorem dk_127 {code : ByteArray} {pc : Nat} (h : DkAt code pc [127]) : decode code pc = .ok (.land, 1) := dk_of ((dk_bind (dk_u1 (h 0 _ rfl))).trans rfl)
theorem dk_128 {code : ByteArray} {pc : Nat} (h : DkAt code pc [128]) : decode code pc = .ok (.ior, 1) := dk_of ((dk_bind (dk_u1 (h 0 _ rfl))).trans rfl)
theorem dk_129 {code : ByteArray} {pc : Nat} (h : DkAt code pc [129]) : decode code pc = .ok (.lor, 1) := dk_of ((dk_bind (dk_u1 (h 0 _ rfl))).trans rfl)
theorem dk_132 {code : ByteArray} {pc : Nat} (a b : UInt8) (h : DkAt code pc [132, a, b]) : decode code pc = .ok (.iinc a.toNat (Reader.signed 8 b.toNat), 3) := dk_of ((dk_bind (dk_u1 (h 0 _ rfl))).trans ((dk_bind (dk_u1 (h 1 _ rfl))).trans ((dk_bind (dk_map (dk_u1 (h 2 _ rfl)))).trans rfl)))
theorem dk_133 {code : ByteArray} {pc : Nat} (h : DkAt code pc [133]) : decode code pc = .ok (.i2l, 1) := dk_of ((dk_bind (dk_u1 (h 0 _ rfl))).trans rfl)
theorem dk_136 {code : ByteArray} {pc : Nat} (h : DkAt code pc [136]) : decode code pc = .ok (.l2i, 1) := dk_of ((dk_bind (dk_u1 (h 0 _ rfl))).trans rfl)
theorem dk_145 {code : ByteArray} {pc : Nat} (h : DkAt code pc [145]) : decode code pc = .ok (.i2b, 1) := dk_of ((dk_bind (dk_u1 (h 0 _ rfl))).trans rfl)
theorem dk_153 {code : ByteArray} {pc : Nat} (a b : UInt8) (h : DkAt code pc [153, a, b]) : decode code pc = .ok (.ifCond .eq (Reader.signed 16 (a.toNat * 256 + b.toNat)), 3) := dk_of ((dk_bind (dk_u1 (h 0 _ rfl))).trans ((dk_bind (dk_map (dk_u2 (h 1 _ rfl) (h 2 _ rfl)))).trans rfl))
theorem dk_154 {code : ByteArray} {pc : Nat} (a b : UInt8) (h : DkAt code pc [154, a, b]) : decode code pc = .ok (.ifCond .ne (Reader.signed 16 (a.toNat * 256 + b.toNat)), 3) := dk_of ((dk_bind (dk_u1 (h 0 _ rfl))).trans ((dk_bind (dk_map (dk_u2 (h 1 _ rfl) (h 2 _ rfl)))).trans rfl))
theorem dk_155 {code : ByteArray} {pc : Nat} (a b : UInt8) (h : DkAt code pc [155, a, b]) : decode code pc = .ok (.ifCond .lt (Reader.signed 16 (a.toNat * 256 + b.toNat)), 3) := dk_of ((dk_bind (dk_u1 (h 0 _ rfl))).trans ((dk_bind (dk_map (dk_u2 (h 1 _ rfl) (h 2 _ rfl)))).trans rfl))
theorem dk_158 {code : ByteArray} {pc : Nat} (a b : UInt8) (h : DkAt code pc [158, a, b]) : decode code pc = .ok (.ifCond .le (Reader.signed 16 (a.toNat * 256 + b.toNat)), 3) := dk_of ((dk_bind (dk_u1 (h 0 _ rfl))).trans ((dk_bind (dk_map (dk_u2 (h 1 _ rfl) (h 2 _ rfl)))).trans rfl))
theorem dk_159 {code : ByteArray} {pc : Nat} (a b : UInt8) (h : DkAt code pc [159, a, b]) : decode code pc = .ok (.if_icmp .eq (Reader.signed 16 (a.toNat * 256 + b.toNat)), 3) := dk_of ((dk_bind (dk_u1 (h 0 _ rfl))).trans ((dk_bind (dk_map (dk_u2 (h 1 _ rfl) (h 2 _ rfl)))).trans rfl))
theorem dk_160 {code : ByteArray} {pc : Nat} (a b : UInt8) (h : DkAt code pc [160, a, b]) : decode code pc = .ok (.if_icmp .ne (Reader.signed 16 (a.toNat * 256 + b.toNat)), 3) := dk_of ((dk_bind (dk_u1 (h 0 _ rfl))).trans ((dk_bind (dk_map (dk_u2 (h 1 _ rfl) (h 2 _ rfl)))).trans rfl))
theorem dk_161 {code : ByteArray} {pc : Nat} (a b : UInt8) (h : DkAt code pc [161, a, b]) : decode code pc = .ok (.if_icmp .lt (Reader.signed 16 (a.toNat * 256 + b.toNat)), 3) := dk_of ((dk_bind (dk_u1 (h 0 _ rfl))).trans ((dk_bind (dk_map (dk_u2 (h 1 _ rfl) (h 2 _ rfl)))).trans rfl))
theorem dk_162 {code : ByteArray} {pc : Nat} (a b : UInt8) (h : DkAt code pc [162, a, b]) : decode code pc = .ok (.if_icmp .ge (Reader.signed 16 (a.toNat * 256 + b.toNat)), 3) := dk_of ((dk_bind (dk_u1 (h 0 _ rfl))).trans ((dk_bind (dk_map (dk_u2 (h 1 _ rfl) (h 2 _ rfl)))).trans rfl))
theorem dk_163 {code : ByteArray} {pc : Nat} (a b : UInt8) (h : DkAt code pc [163, a, b]) : decode code pc = .ok (.if_icmp .gt (Reader.signed 16 (a.toNat * 256 + b.toNat)), 3) := dk_of ((dk_bind (dk_u1 (h 0 _ rfl))).trans ((dk_bind (dk_map (dk_u2 (h 1 _ rfl) (h 2 _ rfl)))).trans rfl))
theorem dk_164 {code : ByteArray} {pc : Nat} (a b : UInt8) (h : DkAt code pc [164, a, b]) : decode code pc = .ok (.if_icmp .le (Reader.signed 16 (a.toNat * 256 + b.toNat)), 3) := dk_of ((dk_bind (dk_u1 (h 0 _ rfl))).trans ((dk_bind (dk_map (dk_u2 (h 1 _ rfl) (h 2 _ rfl)))).trans rfl))
theorem dk_167 {code : ByteArray} {pc : Nat} (a b : UInt8) (h : DkAt code pc [167, a, b]) : decode code pc = .ok (.goto (Reader.signed 16 (a.toNat * 256 + b.toNat)), 3) := dk_of ((dk_bind (dk_u1 (h 0 _ rfl))).trans ((dk_bind (dk_map (dk_u2 (h 1 _ rfl) (h 2 _ rfl)))).trans rfl))
theorem dk_172 {code : ByteArray} {pc : Nat} (h : DkAt code pc [172]) : decode code pc = .ok (.ireturn, 1) := dk_of ((dk_bind (dk_u1 (h 0 _ rfl))).trans rfl)
theorem dk_176 {code : ByteArray} {pc : Nat} (h : DkAt code pc [176]) : decode code pc = .ok (.areturn, 1) := dk_of ((dk_bind (dk_u1 (h 0 _ rfl))).trans rfl)
theorem dk_177 {code : ByteArray} {pc : Nat} (h : DkAt code pc [177]) : decode code pc = .ok (.return_, 1) := dk_of ((dk_bind (dk_u1 (h 0 _ rfl))).trans rfl)
theorem dk_178 {code : ByteArray} {pc : Nat} (a b : UInt8) (h : DkAt code pc [178, a, b]) : decode code pc = .ok (.getstatic (a.toNat * 256 + b.toNat), 3) := dk_of ((dk_bind (dk_u1 (h 0 _ rfl))).trans ((dk_bind (dk_u2 (h 1 _ rfl) (h 2 _ rfl))).trans rfl))
theorem dk_180 {code : ByteArray} {pc : Nat} (a b : UInt8) (h : DkAt code pc [180, a, b]) : decode code pc = .ok (.getfield (a.toNat * 256 + b.toNat), 3) := dk_of ((dk_bind (dk_u1 (h 0 _ rfl))).trans ((dk_bind (dk_u2 (h 1 _ rfl) (h 2 _ rfl))).trans rfl))
theorem dk_181 {code : ByteArray} {pc : Nat} (a b : UInt8) (h : DkAt code pc [181, a, b]) : decode code pc = .ok (.putfield (a.toNat * 256 + b.toNat), 3) := dk_of ((dk_bind (dk_u1 (h 0 _ rfl))).trans ((dk_bind (dk_u2 (h 1 _ rfl) (h 2 _ rfl))).trans rfl))
theorem dk_182 {code : ByteArray} {pc : Nat} (a b : UInt8) (h : DkAt code pc [182, a, b]) : decode code pc = .ok (.invokevirtual (a.toNat * 256 + b.toNat), 3) := dk_of ((dk_bind (dk_u1 (h 0 _ rfl))).trans ((dk_bind (dk_u2 (h 1 _ rfl) (h 2 _ rfl))).trans rfl))
theorem dk_183 {code : ByteArray} {pc : Nat} (a b : UInt8) (h : DkAt code pc [183, a, b]) : decode code pc = .ok (.invokespecial (a.toNat * 256 + b.toNat), 3) := dk_of ((dk_bind (dk_u1 (h 0 _ rfl))).trans ((dk_bind (dk_u2 (h 1 _ rfl) (h 2 _ rfl))).trans rfl))
theorem dk_184 {code : ByteArray} {pc : Nat} (a b : UInt8) (h : DkAt code pc [184, a, b]) : decode code pc = .ok (.invokestatic (a.toNat * 256 + b.toNat), 3) := dk_of ((dk_bind (dk_u1 (h 0 _ rfl))).trans ((dk_bind (dk_u2 (h 1 _ rfl) (h 2 _ rfl))).trans rfl))
theorem dk_187 {code : ByteArray} {pc : Nat} (a b : UInt8) (h : DkAt code pc [187, a, b]) : decode code pc = .ok (.new (a.toNat * 256 + b.toNat), 3) := dk_of ((dk_bind (dk_u1 (h 0 _ rfl))).trans ((dk_bind (dk_u2 (h 1 _ rfl) (h 2 _ rfl))).trans rfl))
theorem dk_188_8 {code : ByteArray} {pc : Nat} (h : DkAt code pc [188, 8]) : decode code pc = .ok (.newarray .byte, 2) := dk_of ((dk_bind (dk_u1 (h 0 _ rfl))).trans ((dk_bind (dk_u1 (h 1 _ rfl))).trans rfl))
theorem dk_188_10 {code : ByteArray} {pc : Nat} (h : DkAt code pc [188, 10]) : decode code pc = .ok (.newarray .int, 2) := dk_of ((dk_bind (dk_u1 (h 0 _ rfl))).trans ((dk_bind (dk_u1 (h 1 _ rfl))).trans rfl))
theorem dk_190 {code : ByteArray} {pc : Nat} (h : DkAt code pc [190]) : decode code pc = .ok (.arraylength, 1) := dk_of ((dk_bind (dk_u1 (h 0 _ rfl))).trans rfl)
end
section
theorem q38 : (Jvm.Cond.arrayClass Jvm.ClassFile.FieldType.byte) ∈ lw_all := lw_g (lw_at lw_m0 36 rfl) rfl
set_option maxRecDepth 100000
theorem q39 : (Jvm.Cond.arrayClass Jvm.ClassFile.FieldType.int) ∈ lw_all := lw_g (lw_at lw_m0 37 rfl) rfl
theorem q2 : (Jvm.Cond.initialized "WideScalarsLaw") ∈ lw_all := lw_g (lw_at lw_m0 0 rfl) rfl
set_option maxRecDepth 100000
theorem q8 : (Jvm.Cond.classLink "WideScalarsLaw" (7 : Nat) "WideScalars") ∈ lw_all := lw_g (lw_at lw_m0 6 rfl) rfl
theorem q10 : (Jvm.Cond.methodLink "WideScalarsLaw" (9 : Nat) ({ cls := "WideScalars", name := "<init>", desc := "()V" } : Jvm.MethodName)) ∈ lw_all := lw_g (lw_at lw_m0 8 rfl) rfl
theorem q40 : (Jvm.Cond.methodLink "WideScalarsLaw" (13 : Nat) ({ cls := "WideScalars", name := "wide", desc := "(IIIII)V" } : Jvm.MethodName)) ∈ lw_all := lw_g (lw_at lw_m0 38 rfl) rfl
theorem q47 : (Jvm.Cond.methodLink "WideScalarsLaw" (18 : Nat) ({ cls := "WideScalars", name := "reduce", desc := "()V" } : Jvm.MethodName)) ∈ lw_all := lw_g (lw_at lw_m0 45 rfl) rfl
theorem q78 : (Jvm.Cond.methodLink "WideScalarsLaw" (22 : Nat) ({ cls := "WideScalars", name := "reduceLess", desc := "()V" } : Jvm.MethodName)) ∈ lw_all := lw_g (lw_at lw_m0 76 rfl) rfl
theorem q88 : (Jvm.Cond.methodLink "WideScalarsLaw" (26 : Nat) ({ cls := "WideScalars", name := "answer", desc := "(I)I" } : Jvm.MethodName)) ∈ lw_all := lw_g (lw_at lw_m0 86 rfl) rfl
theorem q92 : (Jvm.Cond.methodLink "WideScalarsLaw" (31 : Nat) ({ cls := "WideScalars", name := "proper", desc := "(I)Z" } : Jvm.MethodName)) ∈ lw_all := lw_g (lw_at lw_m0 90 rfl) rfl
theorem q112 : (Jvm.Cond.classLink "WideScalarsLaw" (10 : Nat) "WideScalarsModel") ∈ lw_all := lw_g (lw_at lw_m0 110 rfl) rfl
theorem q114 : (Jvm.Cond.methodLink "WideScalarsLaw" (12 : Nat) ({ cls := "WideScalarsModel", name := "<init>", desc := "()V" } : Jvm.MethodName)) ∈ lw_all := lw_g (lw_at lw_m0 112 rfl) rfl
theorem q131 : (Jvm.Cond.methodLink "WideScalarsLaw" (17 : Nat) ({ cls := "WideScalarsModel", name := "wide", desc := "(IIIII)V" } : Jvm.MethodName)) ∈ lw_all := lw_g (lw_at lw_m0 129 rfl) rfl
theorem q139 : (Jvm.Cond.methodLink "WideScalarsLaw" (21 : Nat) ({ cls := "WideScalarsModel", name := "reduce", desc := "()V" } : Jvm.MethodName)) ∈ lw_all := lw_g (lw_at lw_m0 137 rfl) rfl
theorem q147 : (Jvm.Cond.methodLink "WideScalarsLaw" (25 : Nat) ({ cls := "WideScalarsModel", name := "reduceLess", desc := "()V" } : Jvm.MethodName)) ∈ lw_all := lw_g (lw_at lw_m0 145 rfl) rfl
theorem q151 : (Jvm.Cond.methodLink "WideScalarsLaw" (30 : Nat) ({ cls := "WideScalarsModel", name := "answer", desc := "(I)I" } : Jvm.MethodName)) ∈ lw_all := lw_g (lw_at lw_m0 149 rfl) rfl
theorem q155 : (Jvm.Cond.methodLink "WideScalarsLaw" (35 : Nat) ({ cls := "WideScalarsModel", name := "proper", desc := "(I)Z" } : Jvm.MethodName)) ∈ lw_all := lw_g (lw_at lw_m0 153 rfl) rfl
/-! java/lang/Object -/
set_option maxRecDepth 100000
def RJ0 : String := "java/lang/Object"
abbrev cJ0_init : ByteArray := object_method_1_code
def yJ0_init : MethodName := ⟨RJ0, "<init>", "()V"⟩
theorem dJ0_init_0 : decode cJ0_init 0 = .ok (.return_, 1) := by decide +kernel
theorem q14 : (Jvm.Cond.instanceMethod ({ cls := "java/lang/Object", name := "<init>", desc := "()V" } : Jvm.MethodName)) ∈ lw_all := lw_g (lw_at lw_m0 12 rfl) rfl
theorem q15 : (Jvm.Cond.code ({ cls := "java/lang/Object", name := "<init>", desc := "()V" } : Jvm.MethodName) object_method_1_code (1 : Nat) (Option.none : Option Jvm.ClassFile.FieldType)) ∈ lw_all := lw_g (lw_at lw_m0 13 rfl) rfl
/-! Codec -/
set_option maxRecDepth 100000
def RX3 : String := "Codec"
abbrev cX3_decode32 : ByteArray := prog_1_method_4_code
def yX3_decode32 : MethodName := ⟨RX3, "decode32", "([BI)I"⟩
def dkwX3_decode32_2 : List UInt8 := [16, 24, 120, 128, 61, 28, 172]
abbrev dktX3_decode32_2 : List UInt8 := dkwX3_decode32_2 ++ []
def dkwX3_decode32_1 : List UInt8 := [28, 42, 132, 1, 1, 27, 51, 17, 0, 255, 126, 16, 16, 120, 128, 61, 28, 42, 132, 1, 1, 27, 51]
abbrev dktX3_decode32_1 : List UInt8 := dkwX3_decode32_1 ++ dktX3_decode32_2
def dkwX3_decode32_0 : List UInt8 := [42, 27, 51, 17, 0, 255, 126, 61, 28, 42, 132, 1, 1, 27, 51, 17, 0, 255, 126, 16, 8, 120, 128, 61]
abbrev dktX3_decode32_0 : List UInt8 := dkwX3_decode32_0 ++ dktX3_decode32_1
theorem dksX3_decode32_0 : cX3_decode32.data.toList.drop 0 = dktX3_decode32_0 := by decide +kernel
theorem dksX3_decode32_1 : cX3_decode32.data.toList.drop 24 = dktX3_decode32_1 := dk_seg dksX3_decode32_0 24 rfl rfl
theorem dksX3_decode32_2 : cX3_decode32.data.toList.drop 47 = dktX3_decode32_2 := dk_seg dksX3_decode32_1 23 rfl rfl
theorem dX3_decode32_0 : decode cX3_decode32 0 = .ok (.aload_n 0, 1) := dk_42 (dk_at dksX3_decode32_0 0 rfl rfl)
theorem dX3_decode32_1 : decode cX3_decode32 1 = .ok (.iload_n 1, 1) := dk_27 (dk_at dksX3_decode32_0 1 rfl rfl)
theorem dX3_decode32_2 : decode cX3_decode32 2 = .ok (.baload, 1) := dk_51 (dk_at dksX3_decode32_0 2 rfl rfl)
theorem dX3_decode32_3 : decode cX3_decode32 3 = .ok (.sipush 255, 3) := dk_17 0 255 (dk_at dksX3_decode32_0 3 rfl rfl)
theorem dX3_decode32_6 : decode cX3_decode32 6 = .ok (.iand, 1) := dk_126 (dk_at dksX3_decode32_0 6 rfl rfl)
theorem dX3_decode32_7 : decode cX3_decode32 7 = .ok (.istore_n 2, 1) := dk_61 (dk_at dksX3_decode32_0 7 rfl rfl)
theorem dX3_decode32_8 : decode cX3_decode32 8 = .ok (.iload_n 2, 1) := dk_28 (dk_at dksX3_decode32_0 8 rfl rfl)
theorem dX3_decode32_9 : decode cX3_decode32 9 = .ok (.aload_n 0, 1) := dk_42 (dk_at dksX3_decode32_0 9 rfl rfl)
theorem dX3_decode32_10 : decode cX3_decode32 10 = .ok (.iinc 1 1, 3) := dk_132 1 1 (dk_at dksX3_decode32_0 10 rfl rfl)
theorem dX3_decode32_13 : decode cX3_decode32 13 = .ok (.iload_n 1, 1) := dk_27 (dk_at dksX3_decode32_0 13 rfl rfl)
theorem dX3_decode32_14 : decode cX3_decode32 14 = .ok (.baload, 1) := dk_51 (dk_at dksX3_decode32_0 14 rfl rfl)
theorem dX3_decode32_15 : decode cX3_decode32 15 = .ok (.sipush 255, 3) := dk_17 0 255 (dk_at dksX3_decode32_0 15 rfl rfl)
theorem dX3_decode32_18 : decode cX3_decode32 18 = .ok (.iand, 1) := dk_126 (dk_at dksX3_decode32_0 18 rfl rfl)
theorem dX3_decode32_19 : decode cX3_decode32 19 = .ok (.bipush 8, 2) := dk_16 8 (dk_at dksX3_decode32_0 19 rfl rfl)
theorem dX3_decode32_21 : decode cX3_decode32 21 = .ok (.ishl, 1) := dk_120 (dk_at dksX3_decode32_0 21 rfl rfl)
theorem dX3_decode32_22 : decode cX3_decode32 22 = .ok (.ior, 1) := dk_128 (dk_at dksX3_decode32_0 22 rfl rfl)
theorem dX3_decode32_23 : decode cX3_decode32 23 = .ok (.istore_n 2, 1) := dk_61 (dk_at dksX3_decode32_0 23 rfl rfl)
theorem dX3_decode32_24 : decode cX3_decode32 24 = .ok (.iload_n 2, 1) := dk_28 (dk_at dksX3_decode32_1 0 rfl rfl)
theorem dX3_decode32_25 : decode cX3_decode32 25 = .ok (.aload_n 0, 1) := dk_42 (dk_at dksX3_decode32_1 1 rfl rfl)
theorem dX3_decode32_26 : decode cX3_decode32 26 = .ok (.iinc 1 1, 3) := dk_132 1 1 (dk_at dksX3_decode32_1 2 rfl rfl)
theorem dX3_decode32_29 : decode cX3_decode32 29 = .ok (.iload_n 1, 1) := dk_27 (dk_at dksX3_decode32_1 5 rfl rfl)
theorem dX3_decode32_30 : decode cX3_decode32 30 = .ok (.baload, 1) := dk_51 (dk_at dksX3_decode32_1 6 rfl rfl)
theorem dX3_decode32_31 : decode cX3_decode32 31 = .ok (.sipush 255, 3) := dk_17 0 255 (dk_at dksX3_decode32_1 7 rfl rfl)
theorem dX3_decode32_34 : decode cX3_decode32 34 = .ok (.iand, 1) := dk_126 (dk_at dksX3_decode32_1 10 rfl rfl)
theorem dX3_decode32_35 : decode cX3_decode32 35 = .ok (.bipush 16, 2) := dk_16 16 (dk_at dksX3_decode32_1 11 rfl rfl)
theorem dX3_decode32_37 : decode cX3_decode32 37 = .ok (.ishl, 1) := dk_120 (dk_at dksX3_decode32_1 13 rfl rfl)
theorem dX3_decode32_38 : decode cX3_decode32 38 = .ok (.ior, 1) := dk_128 (dk_at dksX3_decode32_1 14 rfl rfl)
theorem dX3_decode32_39 : decode cX3_decode32 39 = .ok (.istore_n 2, 1) := dk_61 (dk_at dksX3_decode32_1 15 rfl rfl)
theorem dX3_decode32_40 : decode cX3_decode32 40 = .ok (.iload_n 2, 1) := dk_28 (dk_at dksX3_decode32_1 16 rfl rfl)
theorem dX3_decode32_41 : decode cX3_decode32 41 = .ok (.aload_n 0, 1) := dk_42 (dk_at dksX3_decode32_1 17 rfl rfl)
theorem dX3_decode32_42 : decode cX3_decode32 42 = .ok (.iinc 1 1, 3) := dk_132 1 1 (dk_at dksX3_decode32_1 18 rfl rfl)
theorem dX3_decode32_45 : decode cX3_decode32 45 = .ok (.iload_n 1, 1) := dk_27 (dk_at dksX3_decode32_1 21 rfl rfl)
theorem dX3_decode32_46 : decode cX3_decode32 46 = .ok (.baload, 1) := dk_51 (dk_at dksX3_decode32_1 22 rfl rfl)
theorem dX3_decode32_47 : decode cX3_decode32 47 = .ok (.bipush 24, 2) := dk_16 24 (dk_at dksX3_decode32_2 0 rfl rfl)
theorem dX3_decode32_49 : decode cX3_decode32 49 = .ok (.ishl, 1) := dk_120 (dk_at dksX3_decode32_2 2 rfl rfl)
theorem dX3_decode32_50 : decode cX3_decode32 50 = .ok (.ior, 1) := dk_128 (dk_at dksX3_decode32_2 3 rfl rfl)
theorem dX3_decode32_51 : decode cX3_decode32 51 = .ok (.istore_n 2, 1) := dk_61 (dk_at dksX3_decode32_2 4 rfl rfl)
theorem dX3_decode32_52 : decode cX3_decode32 52 = .ok (.iload_n 2, 1) := dk_28 (dk_at dksX3_decode32_2 5 rfl rfl)
theorem dX3_decode32_53 : decode cX3_decode32 53 = .ok (.ireturn, 1) := dk_172 (dk_at dksX3_decode32_2 6 rfl rfl)
abbrev cX3_decode24 : ByteArray := prog_1_method_3_code
def yX3_decode24 : MethodName := ⟨RX3, "decode24", "([BI)I"⟩
def dkwX3_decode24_1 : List UInt8 := [28, 42, 132, 1, 1, 27, 51, 17, 0, 255, 126, 16, 16, 120, 128, 61, 28, 172]
abbrev dktX3_decode24_1 : List UInt8 := dkwX3_decode24_1 ++ []
def dkwX3_decode24_0 : List UInt8 := [42, 27, 51, 17, 0, 255, 126, 61, 28, 42, 132, 1, 1, 27, 51, 17, 0, 255, 126, 16, 8, 120, 128, 61]
abbrev dktX3_decode24_0 : List UInt8 := dkwX3_decode24_0 ++ dktX3_decode24_1
theorem dksX3_decode24_0 : cX3_decode24.data.toList.drop 0 = dktX3_decode24_0 := by decide +kernel
theorem dksX3_decode24_1 : cX3_decode24.data.toList.drop 24 = dktX3_decode24_1 := dk_seg dksX3_decode24_0 24 rfl rfl
theorem dX3_decode24_0 : decode cX3_decode24 0 = .ok (.aload_n 0, 1) := dk_42 (dk_at dksX3_decode24_0 0 rfl rfl)
theorem dX3_decode24_1 : decode cX3_decode24 1 = .ok (.iload_n 1, 1) := dk_27 (dk_at dksX3_decode24_0 1 rfl rfl)
theorem dX3_decode24_2 : decode cX3_decode24 2 = .ok (.baload, 1) := dk_51 (dk_at dksX3_decode24_0 2 rfl rfl)
theorem dX3_decode24_3 : decode cX3_decode24 3 = .ok (.sipush 255, 3) := dk_17 0 255 (dk_at dksX3_decode24_0 3 rfl rfl)
theorem dX3_decode24_6 : decode cX3_decode24 6 = .ok (.iand, 1) := dk_126 (dk_at dksX3_decode24_0 6 rfl rfl)
theorem dX3_decode24_7 : decode cX3_decode24 7 = .ok (.istore_n 2, 1) := dk_61 (dk_at dksX3_decode24_0 7 rfl rfl)
theorem dX3_decode24_8 : decode cX3_decode24 8 = .ok (.iload_n 2, 1) := dk_28 (dk_at dksX3_decode24_0 8 rfl rfl)
theorem dX3_decode24_9 : decode cX3_decode24 9 = .ok (.aload_n 0, 1) := dk_42 (dk_at dksX3_decode24_0 9 rfl rfl)
theorem dX3_decode24_10 : decode cX3_decode24 10 = .ok (.iinc 1 1, 3) := dk_132 1 1 (dk_at dksX3_decode24_0 10 rfl rfl)
theorem dX3_decode24_13 : decode cX3_decode24 13 = .ok (.iload_n 1, 1) := dk_27 (dk_at dksX3_decode24_0 13 rfl rfl)
theorem dX3_decode24_14 : decode cX3_decode24 14 = .ok (.baload, 1) := dk_51 (dk_at dksX3_decode24_0 14 rfl rfl)
theorem dX3_decode24_15 : decode cX3_decode24 15 = .ok (.sipush 255, 3) := dk_17 0 255 (dk_at dksX3_decode24_0 15 rfl rfl)
theorem dX3_decode24_18 : decode cX3_decode24 18 = .ok (.iand, 1) := dk_126 (dk_at dksX3_decode24_0 18 rfl rfl)
theorem dX3_decode24_19 : decode cX3_decode24 19 = .ok (.bipush 8, 2) := dk_16 8 (dk_at dksX3_decode24_0 19 rfl rfl)
theorem dX3_decode24_21 : decode cX3_decode24 21 = .ok (.ishl, 1) := dk_120 (dk_at dksX3_decode24_0 21 rfl rfl)
theorem dX3_decode24_22 : decode cX3_decode24 22 = .ok (.ior, 1) := dk_128 (dk_at dksX3_decode24_0 22 rfl rfl)
theorem dX3_decode24_23 : decode cX3_decode24 23 = .ok (.istore_n 2, 1) := dk_61 (dk_at dksX3_decode24_0 23 rfl rfl)
theorem dX3_decode24_24 : decode cX3_decode24 24 = .ok (.iload_n 2, 1) := dk_28 (dk_at dksX3_decode24_1 0 rfl rfl)
theorem dX3_decode24_25 : decode cX3_decode24 25 = .ok (.aload_n 0, 1) := dk_42 (dk_at dksX3_decode24_1 1 rfl rfl)
theorem dX3_decode24_26 : decode cX3_decode24 26 = .ok (.iinc 1 1, 3) := dk_132 1 1 (dk_at dksX3_decode24_1 2 rfl rfl)
theorem dX3_decode24_29 : decode cX3_decode24 29 = .ok (.iload_n 1, 1) := dk_27 (dk_at dksX3_decode24_1 5 rfl rfl)
theorem dX3_decode24_30 : decode cX3_decode24 30 = .ok (.baload, 1) := dk_51 (dk_at dksX3_decode24_1 6 rfl rfl)
theorem dX3_decode24_31 : decode cX3_decode24 31 = .ok (.sipush 255, 3) := dk_17 0 255 (dk_at dksX3_decode24_1 7 rfl rfl)
theorem dX3_decode24_34 : decode cX3_decode24 34 = .ok (.iand, 1) := dk_126 (dk_at dksX3_decode24_1 10 rfl rfl)
theorem dX3_decode24_35 : decode cX3_decode24 35 = .ok (.bipush 16, 2) := dk_16 16 (dk_at dksX3_decode24_1 11 rfl rfl)
theorem dX3_decode24_37 : decode cX3_decode24 37 = .ok (.ishl, 1) := dk_120 (dk_at dksX3_decode24_1 13 rfl rfl)
theorem dX3_decode24_38 : decode cX3_decode24 38 = .ok (.ior, 1) := dk_128 (dk_at dksX3_decode24_1 14 rfl rfl)
theorem dX3_decode24_39 : decode cX3_decode24 39 = .ok (.istore_n 2, 1) := dk_61 (dk_at dksX3_decode24_1 15 rfl rfl)
theorem dX3_decode24_40 : decode cX3_decode24 40 = .ok (.iload_n 2, 1) := dk_28 (dk_at dksX3_decode24_1 16 rfl rfl)
theorem dX3_decode24_41 : decode cX3_decode24 41 = .ok (.ireturn, 1) := dk_172 (dk_at dksX3_decode24_1 17 rfl rfl)
abbrev cX3_encode56 : ByteArray := prog_1_method_8_code
def yX3_encode56 : MethodName := ⟨RX3, "encode56", "(J[BI)V"⟩
def dkwX3_encode56_0 : List UInt8 := [30, 136, 44, 29, 184, 0, 13, 30, 16, 32, 125, 136, 44, 29, 7, 96, 184, 0, 17, 177]
abbrev dktX3_encode56_0 : List UInt8 := dkwX3_encode56_0 ++ []
theorem dksX3_encode56_0 : cX3_encode56.data.toList.drop 0 = dktX3_encode56_0 := by decide +kernel
theorem dX3_encode56_0 : decode cX3_encode56 0 = .ok (.lload_n 0, 1) := dk_30 (dk_at dksX3_encode56_0 0 rfl rfl)
theorem dX3_encode56_1 : decode cX3_encode56 1 = .ok (.l2i, 1) := dk_136 (dk_at dksX3_encode56_0 1 rfl rfl)
theorem dX3_encode56_2 : decode cX3_encode56 2 = .ok (.aload_n 2, 1) := dk_44 (dk_at dksX3_encode56_0 2 rfl rfl)
theorem dX3_encode56_3 : decode cX3_encode56 3 = .ok (.iload_n 3, 1) := dk_29 (dk_at dksX3_encode56_0 3 rfl rfl)
theorem dX3_encode56_4 : decode cX3_encode56 4 = .ok (.invokestatic 13, 3) := dk_184 0 13 (dk_at dksX3_encode56_0 4 rfl rfl)
theorem dX3_encode56_7 : decode cX3_encode56 7 = .ok (.lload_n 0, 1) := dk_30 (dk_at dksX3_encode56_0 7 rfl rfl)
theorem dX3_encode56_8 : decode cX3_encode56 8 = .ok (.bipush 32, 2) := dk_16 32 (dk_at dksX3_encode56_0 8 rfl rfl)
theorem dX3_encode56_10 : decode cX3_encode56 10 = .ok (.lushr, 1) := dk_125 (dk_at dksX3_encode56_0 10 rfl rfl)
theorem dX3_encode56_11 : decode cX3_encode56 11 = .ok (.l2i, 1) := dk_136 (dk_at dksX3_encode56_0 11 rfl rfl)
theorem dX3_encode56_12 : decode cX3_encode56 12 = .ok (.aload_n 2, 1) := dk_44 (dk_at dksX3_encode56_0 12 rfl rfl)
theorem dX3_encode56_13 : decode cX3_encode56 13 = .ok (.iload_n 3, 1) := dk_29 (dk_at dksX3_encode56_0 13 rfl rfl)
theorem dX3_encode56_14 : decode cX3_encode56 14 = .ok (.iconst 4, 1) := dk_7 (dk_at dksX3_encode56_0 14 rfl rfl)
theorem dX3_encode56_15 : decode cX3_encode56 15 = .ok (.iadd, 1) := dk_96 (dk_at dksX3_encode56_0 15 rfl rfl)
theorem dX3_encode56_16 : decode cX3_encode56 16 = .ok (.invokestatic 17, 3) := dk_184 0 17 (dk_at dksX3_encode56_0 16 rfl rfl)
theorem dX3_encode56_19 : decode cX3_encode56 19 = .ok (.return_, 1) := dk_177 (dk_at dksX3_encode56_0 19 rfl rfl)
abbrev cX3_encode32 : ByteArray := prog_1_method_7_code
def yX3_encode32 : MethodName := ⟨RX3, "encode32", "(I[BI)V"⟩
def dkwX3_encode32_1 : List UInt8 := [124, 145, 84, 43, 132, 2, 1, 28, 26, 16, 24, 124, 145, 84, 177]
abbrev dktX3_encode32_1 : List UInt8 := dkwX3_encode32_1 ++ []
def dkwX3_encode32_0 : List UInt8 := [43, 28, 26, 145, 84, 43, 132, 2, 1, 28, 26, 16, 8, 124, 145, 84, 43, 132, 2, 1, 28, 26, 16, 16]
abbrev dktX3_encode32_0 : List UInt8 := dkwX3_encode32_0 ++ dktX3_encode32_1
theorem dksX3_encode32_0 : cX3_encode32.data.toList.drop 0 = dktX3_encode32_0 := by decide +kernel
theorem dksX3_encode32_1 : cX3_encode32.data.toList.drop 24 = dktX3_encode32_1 := dk_seg dksX3_encode32_0 24 rfl rfl
theorem dX3_encode32_0 : decode cX3_encode32 0 = .ok (.aload_n 1, 1) := dk_43 (dk_at dksX3_encode32_0 0 rfl rfl)
theorem dX3_encode32_1 : decode cX3_encode32 1 = .ok (.iload_n 2, 1) := dk_28 (dk_at dksX3_encode32_0 1 rfl rfl)
theorem dX3_encode32_2 : decode cX3_encode32 2 = .ok (.iload_n 0, 1) := dk_26 (dk_at dksX3_encode32_0 2 rfl rfl)
theorem dX3_encode32_3 : decode cX3_encode32 3 = .ok (.i2b, 1) := dk_145 (dk_at dksX3_encode32_0 3 rfl rfl)
theorem dX3_encode32_4 : decode cX3_encode32 4 = .ok (.bastore, 1) := dk_84 (dk_at dksX3_encode32_0 4 rfl rfl)
theorem dX3_encode32_5 : decode cX3_encode32 5 = .ok (.aload_n 1, 1) := dk_43 (dk_at dksX3_encode32_0 5 rfl rfl)
theorem dX3_encode32_6 : decode cX3_encode32 6 = .ok (.iinc 2 1, 3) := dk_132 2 1 (dk_at dksX3_encode32_0 6 rfl rfl)
theorem dX3_encode32_9 : decode cX3_encode32 9 = .ok (.iload_n 2, 1) := dk_28 (dk_at dksX3_encode32_0 9 rfl rfl)
theorem dX3_encode32_10 : decode cX3_encode32 10 = .ok (.iload_n 0, 1) := dk_26 (dk_at dksX3_encode32_0 10 rfl rfl)
theorem dX3_encode32_11 : decode cX3_encode32 11 = .ok (.bipush 8, 2) := dk_16 8 (dk_at dksX3_encode32_0 11 rfl rfl)
theorem dX3_encode32_13 : decode cX3_encode32 13 = .ok (.iushr, 1) := dk_124 (dk_at dksX3_encode32_0 13 rfl rfl)
theorem dX3_encode32_14 : decode cX3_encode32 14 = .ok (.i2b, 1) := dk_145 (dk_at dksX3_encode32_0 14 rfl rfl)
theorem dX3_encode32_15 : decode cX3_encode32 15 = .ok (.bastore, 1) := dk_84 (dk_at dksX3_encode32_0 15 rfl rfl)
theorem dX3_encode32_16 : decode cX3_encode32 16 = .ok (.aload_n 1, 1) := dk_43 (dk_at dksX3_encode32_0 16 rfl rfl)
theorem dX3_encode32_17 : decode cX3_encode32 17 = .ok (.iinc 2 1, 3) := dk_132 2 1 (dk_at dksX3_encode32_0 17 rfl rfl)
theorem dX3_encode32_20 : decode cX3_encode32 20 = .ok (.iload_n 2, 1) := dk_28 (dk_at dksX3_encode32_0 20 rfl rfl)
theorem dX3_encode32_21 : decode cX3_encode32 21 = .ok (.iload_n 0, 1) := dk_26 (dk_at dksX3_encode32_0 21 rfl rfl)
theorem dX3_encode32_22 : decode cX3_encode32 22 = .ok (.bipush 16, 2) := dk_16 16 (dk_at dksX3_encode32_0 22 rfl rfl)
theorem dX3_encode32_24 : decode cX3_encode32 24 = .ok (.iushr, 1) := dk_124 (dk_at dksX3_encode32_1 0 rfl rfl)
theorem dX3_encode32_25 : decode cX3_encode32 25 = .ok (.i2b, 1) := dk_145 (dk_at dksX3_encode32_1 1 rfl rfl)
theorem dX3_encode32_26 : decode cX3_encode32 26 = .ok (.bastore, 1) := dk_84 (dk_at dksX3_encode32_1 2 rfl rfl)
theorem dX3_encode32_27 : decode cX3_encode32 27 = .ok (.aload_n 1, 1) := dk_43 (dk_at dksX3_encode32_1 3 rfl rfl)
theorem dX3_encode32_28 : decode cX3_encode32 28 = .ok (.iinc 2 1, 3) := dk_132 2 1 (dk_at dksX3_encode32_1 4 rfl rfl)
theorem dX3_encode32_31 : decode cX3_encode32 31 = .ok (.iload_n 2, 1) := dk_28 (dk_at dksX3_encode32_1 7 rfl rfl)
theorem dX3_encode32_32 : decode cX3_encode32 32 = .ok (.iload_n 0, 1) := dk_26 (dk_at dksX3_encode32_1 8 rfl rfl)
theorem dX3_encode32_33 : decode cX3_encode32 33 = .ok (.bipush 24, 2) := dk_16 24 (dk_at dksX3_encode32_1 9 rfl rfl)
theorem dX3_encode32_35 : decode cX3_encode32 35 = .ok (.iushr, 1) := dk_124 (dk_at dksX3_encode32_1 11 rfl rfl)
theorem dX3_encode32_36 : decode cX3_encode32 36 = .ok (.i2b, 1) := dk_145 (dk_at dksX3_encode32_1 12 rfl rfl)
theorem dX3_encode32_37 : decode cX3_encode32 37 = .ok (.bastore, 1) := dk_84 (dk_at dksX3_encode32_1 13 rfl rfl)
theorem dX3_encode32_38 : decode cX3_encode32 38 = .ok (.return_, 1) := dk_177 (dk_at dksX3_encode32_1 14 rfl rfl)
abbrev cX3_encode24 : ByteArray := prog_1_method_6_code
def yX3_encode24 : MethodName := ⟨RX3, "encode24", "(I[BI)V"⟩
def dkwX3_encode24_1 : List UInt8 := [124, 145, 84, 177]
abbrev dktX3_encode24_1 : List UInt8 := dkwX3_encode24_1 ++ []
def dkwX3_encode24_0 : List UInt8 := [43, 28, 26, 145, 84, 43, 132, 2, 1, 28, 26, 16, 8, 124, 145, 84, 43, 132, 2, 1, 28, 26, 16, 16]
abbrev dktX3_encode24_0 : List UInt8 := dkwX3_encode24_0 ++ dktX3_encode24_1
theorem dksX3_encode24_0 : cX3_encode24.data.toList.drop 0 = dktX3_encode24_0 := by decide +kernel
theorem dksX3_encode24_1 : cX3_encode24.data.toList.drop 24 = dktX3_encode24_1 := dk_seg dksX3_encode24_0 24 rfl rfl
theorem dX3_encode24_0 : decode cX3_encode24 0 = .ok (.aload_n 1, 1) := dk_43 (dk_at dksX3_encode24_0 0 rfl rfl)
theorem dX3_encode24_1 : decode cX3_encode24 1 = .ok (.iload_n 2, 1) := dk_28 (dk_at dksX3_encode24_0 1 rfl rfl)
theorem dX3_encode24_2 : decode cX3_encode24 2 = .ok (.iload_n 0, 1) := dk_26 (dk_at dksX3_encode24_0 2 rfl rfl)
theorem dX3_encode24_3 : decode cX3_encode24 3 = .ok (.i2b, 1) := dk_145 (dk_at dksX3_encode24_0 3 rfl rfl)
theorem dX3_encode24_4 : decode cX3_encode24 4 = .ok (.bastore, 1) := dk_84 (dk_at dksX3_encode24_0 4 rfl rfl)
theorem dX3_encode24_5 : decode cX3_encode24 5 = .ok (.aload_n 1, 1) := dk_43 (dk_at dksX3_encode24_0 5 rfl rfl)
theorem dX3_encode24_6 : decode cX3_encode24 6 = .ok (.iinc 2 1, 3) := dk_132 2 1 (dk_at dksX3_encode24_0 6 rfl rfl)
theorem dX3_encode24_9 : decode cX3_encode24 9 = .ok (.iload_n 2, 1) := dk_28 (dk_at dksX3_encode24_0 9 rfl rfl)
theorem dX3_encode24_10 : decode cX3_encode24 10 = .ok (.iload_n 0, 1) := dk_26 (dk_at dksX3_encode24_0 10 rfl rfl)
theorem dX3_encode24_11 : decode cX3_encode24 11 = .ok (.bipush 8, 2) := dk_16 8 (dk_at dksX3_encode24_0 11 rfl rfl)
theorem dX3_encode24_13 : decode cX3_encode24 13 = .ok (.iushr, 1) := dk_124 (dk_at dksX3_encode24_0 13 rfl rfl)
theorem dX3_encode24_14 : decode cX3_encode24 14 = .ok (.i2b, 1) := dk_145 (dk_at dksX3_encode24_0 14 rfl rfl)
theorem dX3_encode24_15 : decode cX3_encode24 15 = .ok (.bastore, 1) := dk_84 (dk_at dksX3_encode24_0 15 rfl rfl)
theorem dX3_encode24_16 : decode cX3_encode24 16 = .ok (.aload_n 1, 1) := dk_43 (dk_at dksX3_encode24_0 16 rfl rfl)
theorem dX3_encode24_17 : decode cX3_encode24 17 = .ok (.iinc 2 1, 3) := dk_132 2 1 (dk_at dksX3_encode24_0 17 rfl rfl)
theorem dX3_encode24_20 : decode cX3_encode24 20 = .ok (.iload_n 2, 1) := dk_28 (dk_at dksX3_encode24_0 20 rfl rfl)
theorem dX3_encode24_21 : decode cX3_encode24 21 = .ok (.iload_n 0, 1) := dk_26 (dk_at dksX3_encode24_0 21 rfl rfl)
theorem dX3_encode24_22 : decode cX3_encode24 22 = .ok (.bipush 16, 2) := dk_16 16 (dk_at dksX3_encode24_0 22 rfl rfl)
theorem dX3_encode24_24 : decode cX3_encode24 24 = .ok (.iushr, 1) := dk_124 (dk_at dksX3_encode24_1 0 rfl rfl)
theorem dX3_encode24_25 : decode cX3_encode24 25 = .ok (.i2b, 1) := dk_145 (dk_at dksX3_encode24_1 1 rfl rfl)
theorem dX3_encode24_26 : decode cX3_encode24 26 = .ok (.bastore, 1) := dk_84 (dk_at dksX3_encode24_1 2 rfl rfl)
theorem dX3_encode24_27 : decode cX3_encode24 27 = .ok (.return_, 1) := dk_177 (dk_at dksX3_encode24_1 3 rfl rfl)
abbrev cX3_decode16 : ByteArray := prog_1_method_2_code
def yX3_decode16 : MethodName := ⟨RX3, "decode16", "([BI)I"⟩
def dkwX3_decode16_1 : List UInt8 := [28, 172]
abbrev dktX3_decode16_1 : List UInt8 := dkwX3_decode16_1 ++ []
def dkwX3_decode16_0 : List UInt8 := [42, 27, 51, 17, 0, 255, 126, 61, 28, 42, 132, 1, 1, 27, 51, 17, 0, 255, 126, 16, 8, 120, 128, 61]
abbrev dktX3_decode16_0 : List UInt8 := dkwX3_decode16_0 ++ dktX3_decode16_1
theorem dksX3_decode16_0 : cX3_decode16.data.toList.drop 0 = dktX3_decode16_0 := by decide +kernel
theorem dksX3_decode16_1 : cX3_decode16.data.toList.drop 24 = dktX3_decode16_1 := dk_seg dksX3_decode16_0 24 rfl rfl
theorem dX3_decode16_0 : decode cX3_decode16 0 = .ok (.aload_n 0, 1) := dk_42 (dk_at dksX3_decode16_0 0 rfl rfl)
theorem dX3_decode16_1 : decode cX3_decode16 1 = .ok (.iload_n 1, 1) := dk_27 (dk_at dksX3_decode16_0 1 rfl rfl)
theorem dX3_decode16_2 : decode cX3_decode16 2 = .ok (.baload, 1) := dk_51 (dk_at dksX3_decode16_0 2 rfl rfl)
theorem dX3_decode16_3 : decode cX3_decode16 3 = .ok (.sipush 255, 3) := dk_17 0 255 (dk_at dksX3_decode16_0 3 rfl rfl)
theorem dX3_decode16_6 : decode cX3_decode16 6 = .ok (.iand, 1) := dk_126 (dk_at dksX3_decode16_0 6 rfl rfl)
theorem dX3_decode16_7 : decode cX3_decode16 7 = .ok (.istore_n 2, 1) := dk_61 (dk_at dksX3_decode16_0 7 rfl rfl)
theorem dX3_decode16_8 : decode cX3_decode16 8 = .ok (.iload_n 2, 1) := dk_28 (dk_at dksX3_decode16_0 8 rfl rfl)
theorem dX3_decode16_9 : decode cX3_decode16 9 = .ok (.aload_n 0, 1) := dk_42 (dk_at dksX3_decode16_0 9 rfl rfl)
theorem dX3_decode16_10 : decode cX3_decode16 10 = .ok (.iinc 1 1, 3) := dk_132 1 1 (dk_at dksX3_decode16_0 10 rfl rfl)
theorem dX3_decode16_13 : decode cX3_decode16 13 = .ok (.iload_n 1, 1) := dk_27 (dk_at dksX3_decode16_0 13 rfl rfl)
theorem dX3_decode16_14 : decode cX3_decode16 14 = .ok (.baload, 1) := dk_51 (dk_at dksX3_decode16_0 14 rfl rfl)
theorem dX3_decode16_15 : decode cX3_decode16 15 = .ok (.sipush 255, 3) := dk_17 0 255 (dk_at dksX3_decode16_0 15 rfl rfl)
theorem dX3_decode16_18 : decode cX3_decode16 18 = .ok (.iand, 1) := dk_126 (dk_at dksX3_decode16_0 18 rfl rfl)
theorem dX3_decode16_19 : decode cX3_decode16 19 = .ok (.bipush 8, 2) := dk_16 8 (dk_at dksX3_decode16_0 19 rfl rfl)
theorem dX3_decode16_21 : decode cX3_decode16 21 = .ok (.ishl, 1) := dk_120 (dk_at dksX3_decode16_0 21 rfl rfl)
theorem dX3_decode16_22 : decode cX3_decode16 22 = .ok (.ior, 1) := dk_128 (dk_at dksX3_decode16_0 22 rfl rfl)
theorem dX3_decode16_23 : decode cX3_decode16 23 = .ok (.istore_n 2, 1) := dk_61 (dk_at dksX3_decode16_0 23 rfl rfl)
theorem dX3_decode16_24 : decode cX3_decode16 24 = .ok (.iload_n 2, 1) := dk_28 (dk_at dksX3_decode16_1 0 rfl rfl)
theorem dX3_decode16_25 : decode cX3_decode16 25 = .ok (.ireturn, 1) := dk_172 (dk_at dksX3_decode16_1 1 rfl rfl)
abbrev cX3_decode32_2 : ByteArray := prog_1_method_5_code
def yX3_decode32_2 : MethodName := ⟨RX3, "decode32", "([BI[III)V"⟩
def dkwX3_decode32_2_1 : List UInt8 := [184, 0, 7, 79, 132, 5, 1, 167, 255, 230, 177]
abbrev dktX3_decode32_2_1 : List UInt8 := dkwX3_decode32_2_1 ++ []
def dkwX3_decode32_2_0 : List UInt8 := [3, 54, 5, 21, 5, 21, 4, 162, 0, 25, 44, 29, 21, 5, 96, 42, 27, 21, 5, 7, 104, 96]
abbrev dktX3_decode32_2_0 : List UInt8 := dkwX3_decode32_2_0 ++ dktX3_decode32_2_1
theorem dksX3_decode32_2_0 : cX3_decode32_2.data.toList.drop 0 = dktX3_decode32_2_0 := by decide +kernel
theorem dksX3_decode32_2_1 : cX3_decode32_2.data.toList.drop 22 = dktX3_decode32_2_1 := dk_seg dksX3_decode32_2_0 22 rfl rfl
theorem dX3_decode32_2_0 : decode cX3_decode32_2 0 = .ok (.iconst 0, 1) := dk_3 (dk_at dksX3_decode32_2_0 0 rfl rfl)
theorem dX3_decode32_2_1 : decode cX3_decode32_2 1 = .ok (.istore 5, 2) := dk_54 5 (dk_at dksX3_decode32_2_0 1 rfl rfl)
theorem dX3_decode32_2_3 : decode cX3_decode32_2 3 = .ok (.iload 5, 2) := dk_21 5 (dk_at dksX3_decode32_2_0 3 rfl rfl)
theorem dX3_decode32_2_5 : decode cX3_decode32_2 5 = .ok (.iload 4, 2) := dk_21 4 (dk_at dksX3_decode32_2_0 5 rfl rfl)
theorem dX3_decode32_2_7 : decode cX3_decode32_2 7 = .ok (.if_icmp .ge 25, 3) := dk_162 0 25 (dk_at dksX3_decode32_2_0 7 rfl rfl)
theorem dX3_decode32_2_10 : decode cX3_decode32_2 10 = .ok (.aload_n 2, 1) := dk_44 (dk_at dksX3_decode32_2_0 10 rfl rfl)
theorem dX3_decode32_2_11 : decode cX3_decode32_2 11 = .ok (.iload_n 3, 1) := dk_29 (dk_at dksX3_decode32_2_0 11 rfl rfl)
theorem dX3_decode32_2_12 : decode cX3_decode32_2 12 = .ok (.iload 5, 2) := dk_21 5 (dk_at dksX3_decode32_2_0 12 rfl rfl)
theorem dX3_decode32_2_14 : decode cX3_decode32_2 14 = .ok (.iadd, 1) := dk_96 (dk_at dksX3_decode32_2_0 14 rfl rfl)
theorem dX3_decode32_2_15 : decode cX3_decode32_2 15 = .ok (.aload_n 0, 1) := dk_42 (dk_at dksX3_decode32_2_0 15 rfl rfl)
theorem dX3_decode32_2_16 : decode cX3_decode32_2 16 = .ok (.iload_n 1, 1) := dk_27 (dk_at dksX3_decode32_2_0 16 rfl rfl)
theorem dX3_decode32_2_17 : decode cX3_decode32_2 17 = .ok (.iload 5, 2) := dk_21 5 (dk_at dksX3_decode32_2_0 17 rfl rfl)
theorem dX3_decode32_2_19 : decode cX3_decode32_2 19 = .ok (.iconst 4, 1) := dk_7 (dk_at dksX3_decode32_2_0 19 rfl rfl)
theorem dX3_decode32_2_20 : decode cX3_decode32_2 20 = .ok (.imul, 1) := dk_104 (dk_at dksX3_decode32_2_0 20 rfl rfl)
theorem dX3_decode32_2_21 : decode cX3_decode32_2 21 = .ok (.iadd, 1) := dk_96 (dk_at dksX3_decode32_2_0 21 rfl rfl)
theorem dX3_decode32_2_22 : decode cX3_decode32_2 22 = .ok (.invokestatic 7, 3) := dk_184 0 7 (dk_at dksX3_decode32_2_1 0 rfl rfl)
theorem dX3_decode32_2_25 : decode cX3_decode32_2 25 = .ok (.iastore, 1) := dk_79 (dk_at dksX3_decode32_2_1 3 rfl rfl)
theorem dX3_decode32_2_26 : decode cX3_decode32_2 26 = .ok (.iinc 5 1, 3) := dk_132 5 1 (dk_at dksX3_decode32_2_1 4 rfl rfl)
theorem dX3_decode32_2_29 : decode cX3_decode32_2 29 = .ok (.goto (-26), 3) := dk_167 255 230 (dk_at dksX3_decode32_2_1 7 rfl rfl)
theorem dX3_decode32_2_32 : decode cX3_decode32_2 32 = .ok (.return_, 1) := dk_177 (dk_at dksX3_decode32_2_1 10 rfl rfl)
theorem q6 : (Jvm.Cond.initialized "Codec") ∈ lw_all := lw_g (lw_at lw_m0 4 rfl) rfl
theorem q55 : (Jvm.Cond.static ({ cls := "Codec", name := "decode32", desc := "([BI)I" } : Jvm.MethodName)) ∈ lw_all := lw_g (lw_at lw_m0 53 rfl) rfl
theorem q56 : (Jvm.Cond.code ({ cls := "Codec", name := "decode32", desc := "([BI)I" } : Jvm.MethodName) prog_1_method_4_code (3 : Nat) (Option.some Jvm.ClassFile.FieldType.int)) ∈ lw_all := lw_g (lw_at lw_m0 54 rfl) rfl
theorem q59 : (Jvm.Cond.static ({ cls := "Codec", name := "decode24", desc := "([BI)I" } : Jvm.MethodName)) ∈ lw_all := lw_g (lw_at lw_m0 57 rfl) rfl
theorem q60 : (Jvm.Cond.code ({ cls := "Codec", name := "decode24", desc := "([BI)I" } : Jvm.MethodName) prog_1_method_3_code (3 : Nat) (Option.some Jvm.ClassFile.FieldType.int)) ∈ lw_all := lw_g (lw_at lw_m0 58 rfl) rfl
theorem q69 : (Jvm.Cond.static ({ cls := "Codec", name := "encode56", desc := "(J[BI)V" } : Jvm.MethodName)) ∈ lw_all := lw_g (lw_at lw_m0 67 rfl) rfl
theorem q70 : (Jvm.Cond.code ({ cls := "Codec", name := "encode56", desc := "(J[BI)V" } : Jvm.MethodName) prog_1_method_8_code (4 : Nat) (Option.none : Option Jvm.ClassFile.FieldType)) ∈ lw_all := lw_g (lw_at lw_m0 68 rfl) rfl
theorem q71 : (Jvm.Cond.methodLink "Codec" (13 : Nat) ({ cls := "Codec", name := "encode32", desc := "(I[BI)V" } : Jvm.MethodName)) ∈ lw_all := lw_g (lw_at lw_m0 69 rfl) rfl
theorem q72 : (Jvm.Cond.static ({ cls := "Codec", name := "encode32", desc := "(I[BI)V" } : Jvm.MethodName)) ∈ lw_all := lw_g (lw_at lw_m0 70 rfl) rfl
theorem q73 : (Jvm.Cond.code ({ cls := "Codec", name := "encode32", desc := "(I[BI)V" } : Jvm.MethodName) prog_1_method_7_code (3 : Nat) (Option.none : Option Jvm.ClassFile.FieldType)) ∈ lw_all := lw_g (lw_at lw_m0 71 rfl) rfl
theorem q74 : (Jvm.Cond.methodLink "Codec" (17 : Nat) ({ cls := "Codec", name := "encode24", desc := "(I[BI)V" } : Jvm.MethodName)) ∈ lw_all := lw_g (lw_at lw_m0 72 rfl) rfl
theorem q75 : (Jvm.Cond.static ({ cls := "Codec", name := "encode24", desc := "(I[BI)V" } : Jvm.MethodName)) ∈ lw_all := lw_g (lw_at lw_m0 73 rfl) rfl
theorem q76 : (Jvm.Cond.code ({ cls := "Codec", name := "encode24", desc := "(I[BI)V" } : Jvm.MethodName) prog_1_method_6_code (3 : Nat) (Option.none : Option Jvm.ClassFile.FieldType)) ∈ lw_all := lw_g (lw_at lw_m0 74 rfl) rfl
theorem q86 : (Jvm.Cond.static ({ cls := "Codec", name := "decode16", desc := "([BI)I" } : Jvm.MethodName)) ∈ lw_all := lw_g (lw_at lw_m0 84 rfl) rfl
theorem q87 : (Jvm.Cond.code ({ cls := "Codec", name := "decode16", desc := "([BI)I" } : Jvm.MethodName) prog_1_method_2_code (3 : Nat) (Option.some Jvm.ClassFile.FieldType.int)) ∈ lw_all := lw_g (lw_at lw_m0 85 rfl) rfl
theorem q103 : (Jvm.Cond.static ({ cls := "Codec", name := "decode32", desc := "([BI[III)V" } : Jvm.MethodName)) ∈ lw_all := lw_g (lw_at lw_m0 101 rfl) rfl
theorem q104 : (Jvm.Cond.code ({ cls := "Codec", name := "decode32", desc := "([BI[III)V" } : Jvm.MethodName) prog_1_method_5_code (6 : Nat) (Option.none : Option Jvm.ClassFile.FieldType)) ∈ lw_all := lw_g (lw_at lw_m0 102 rfl) rfl
theorem q105 : (Jvm.Cond.methodLink "Codec" (7 : Nat) ({ cls := "Codec", name := "decode32", desc := "([BI)I" } : Jvm.MethodName)) ∈ lw_all := lw_g (lw_at lw_m0 103 rfl) rfl
/-! Nat256 -/
set_option maxRecDepth 100000
def RX4 : String := "Nat256"
abbrev cX4_gte : ByteArray := prog_2_method_2_code
def yX4_gte : MethodName := ⟨RX4, "gte", "([I[I)Z"⟩
def dkwX4_gte_1 : List UInt8 := [21, 4, 162, 0, 5, 3, 172, 29, 21, 4, 164, 0, 5, 4, 172, 132, 2, 255, 167, 255, 218, 4, 172]
abbrev dktX4_gte_1 : List UInt8 := dkwX4_gte_1 ++ []
def dkwX4_gte_0 : List UInt8 := [16, 7, 61, 28, 155, 0, 40, 42, 28, 46, 18, 9, 96, 62, 43, 28, 46, 18, 9, 96, 54, 4, 29]
abbrev dktX4_gte_0 : List UInt8 := dkwX4_gte_0 ++ dktX4_gte_1
theorem dksX4_gte_0 : cX4_gte.data.toList.drop 0 = dktX4_gte_0 := by decide +kernel
theorem dksX4_gte_1 : cX4_gte.data.toList.drop 23 = dktX4_gte_1 := dk_seg dksX4_gte_0 23 rfl rfl
theorem dX4_gte_0 : decode cX4_gte 0 = .ok (.bipush 7, 2) := dk_16 7 (dk_at dksX4_gte_0 0 rfl rfl)
theorem dX4_gte_2 : decode cX4_gte 2 = .ok (.istore_n 2, 1) := dk_61 (dk_at dksX4_gte_0 2 rfl rfl)
theorem dX4_gte_3 : decode cX4_gte 3 = .ok (.iload_n 2, 1) := dk_28 (dk_at dksX4_gte_0 3 rfl rfl)
theorem dX4_gte_4 : decode cX4_gte 4 = .ok (.ifCond .lt 40, 3) := dk_155 0 40 (dk_at dksX4_gte_0 4 rfl rfl)
theorem dX4_gte_7 : decode cX4_gte 7 = .ok (.aload_n 0, 1) := dk_42 (dk_at dksX4_gte_0 7 rfl rfl)
theorem dX4_gte_8 : decode cX4_gte 8 = .ok (.iload_n 2, 1) := dk_28 (dk_at dksX4_gte_0 8 rfl rfl)
theorem dX4_gte_9 : decode cX4_gte 9 = .ok (.iaload, 1) := dk_46 (dk_at dksX4_gte_0 9 rfl rfl)
theorem dX4_gte_10 : decode cX4_gte 10 = .ok (.ldc 9, 2) := dk_18 9 (dk_at dksX4_gte_0 10 rfl rfl)
theorem dX4_gte_12 : decode cX4_gte 12 = .ok (.iadd, 1) := dk_96 (dk_at dksX4_gte_0 12 rfl rfl)
theorem dX4_gte_13 : decode cX4_gte 13 = .ok (.istore_n 3, 1) := dk_62 (dk_at dksX4_gte_0 13 rfl rfl)
theorem dX4_gte_14 : decode cX4_gte 14 = .ok (.aload_n 1, 1) := dk_43 (dk_at dksX4_gte_0 14 rfl rfl)
theorem dX4_gte_15 : decode cX4_gte 15 = .ok (.iload_n 2, 1) := dk_28 (dk_at dksX4_gte_0 15 rfl rfl)
theorem dX4_gte_16 : decode cX4_gte 16 = .ok (.iaload, 1) := dk_46 (dk_at dksX4_gte_0 16 rfl rfl)
theorem dX4_gte_17 : decode cX4_gte 17 = .ok (.ldc 9, 2) := dk_18 9 (dk_at dksX4_gte_0 17 rfl rfl)
theorem dX4_gte_19 : decode cX4_gte 19 = .ok (.iadd, 1) := dk_96 (dk_at dksX4_gte_0 19 rfl rfl)
theorem dX4_gte_20 : decode cX4_gte 20 = .ok (.istore 4, 2) := dk_54 4 (dk_at dksX4_gte_0 20 rfl rfl)
theorem dX4_gte_22 : decode cX4_gte 22 = .ok (.iload_n 3, 1) := dk_29 (dk_at dksX4_gte_0 22 rfl rfl)
theorem dX4_gte_23 : decode cX4_gte 23 = .ok (.iload 4, 2) := dk_21 4 (dk_at dksX4_gte_1 0 rfl rfl)
theorem dX4_gte_25 : decode cX4_gte 25 = .ok (.if_icmp .ge 5, 3) := dk_162 0 5 (dk_at dksX4_gte_1 2 rfl rfl)
theorem dX4_gte_28 : decode cX4_gte 28 = .ok (.iconst 0, 1) := dk_3 (dk_at dksX4_gte_1 5 rfl rfl)
theorem dX4_gte_29 : decode cX4_gte 29 = .ok (.ireturn, 1) := dk_172 (dk_at dksX4_gte_1 6 rfl rfl)
theorem dX4_gte_30 : decode cX4_gte 30 = .ok (.iload_n 3, 1) := dk_29 (dk_at dksX4_gte_1 7 rfl rfl)
theorem dX4_gte_31 : decode cX4_gte 31 = .ok (.iload 4, 2) := dk_21 4 (dk_at dksX4_gte_1 8 rfl rfl)
theorem dX4_gte_33 : decode cX4_gte 33 = .ok (.if_icmp .le 5, 3) := dk_164 0 5 (dk_at dksX4_gte_1 10 rfl rfl)
theorem dX4_gte_36 : decode cX4_gte 36 = .ok (.iconst 1, 1) := dk_4 (dk_at dksX4_gte_1 13 rfl rfl)
theorem dX4_gte_37 : decode cX4_gte 37 = .ok (.ireturn, 1) := dk_172 (dk_at dksX4_gte_1 14 rfl rfl)
theorem dX4_gte_38 : decode cX4_gte 38 = .ok (.iinc 2 (-1), 3) := dk_132 2 255 (dk_at dksX4_gte_1 15 rfl rfl)
theorem dX4_gte_41 : decode cX4_gte 41 = .ok (.goto (-38), 3) := dk_167 255 218 (dk_at dksX4_gte_1 18 rfl rfl)
theorem dX4_gte_44 : decode cX4_gte 44 = .ok (.iconst 1, 1) := dk_4 (dk_at dksX4_gte_1 21 rfl rfl)
theorem dX4_gte_45 : decode cX4_gte 45 = .ok (.ireturn, 1) := dk_172 (dk_at dksX4_gte_1 22 rfl rfl)
theorem q7 : (Jvm.Cond.initialized "Nat256") ∈ lw_all := lw_g (lw_at lw_m0 5 rfl) rfl
theorem q109 : (Jvm.Cond.static ({ cls := "Nat256", name := "gte", desc := "([I[I)Z" } : Jvm.MethodName)) ∈ lw_all := lw_g (lw_at lw_m0 107 rfl) rfl
theorem q110 : (Jvm.Cond.code ({ cls := "Nat256", name := "gte", desc := "([I[I)Z" } : Jvm.MethodName) prog_2_method_2_code (5 : Nat) (Option.some Jvm.ClassFile.FieldType.boolean)) ∈ lw_all := lw_g (lw_at lw_m0 108 rfl) rfl
theorem q111 : (Jvm.Cond.constant "Nat256" (9 : Nat) (-2147483648 : Int32)) ∈ lw_all := lw_g (lw_at lw_m0 109 rfl) rfl
end
section
/-! Scalar25519 -/
set_option maxRecDepth 100000
def RX2 : String := "Scalar25519"
abbrev cX2_reduce512 : ByteArray := prog_3_method_5_code
def yX2_reduce512 : MethodName := ⟨RX2, "reduce512", "([B)[B"⟩
def dkwX2_reduce512_58 : List UInt8 := [121, 129, 25, 41, 16, 21, 184, 0, 52, 22, 17, 136, 25, 41, 16, 28, 184, 0, 56, 25, 41, 176]
abbrev dktX2_reduce512_58 : List UInt8 := dkwX2_reduce512_58 ++ []
def dkwX2_reduce512_57 : List UInt8 := [184, 0, 52, 22, 9, 22, 11, 16, 28, 121, 129, 25, 41, 16, 14, 184, 0, 52, 22, 13, 22, 15, 16, 28]
abbrev dktX2_reduce512_57 : List UInt8 := dkwX2_reduce512_57 ++ dktX2_reduce512_58
def dkwX2_reduce512_56 : List UInt8 := [31, 33, 16, 28, 121, 129, 25, 41, 3, 184, 0, 52, 22, 5, 22, 7, 16, 28, 121, 129, 25, 41, 16, 7]
abbrev dktX2_reduce512_56 : List UInt8 := dkwX2_reduce512_56 ++ dktX2_reduce512_57
def dkwX2_reduce512_55 : List UInt8 := [22, 17, 22, 15, 16, 28, 123, 97, 55, 17, 22, 15, 20, 0, 40, 127, 55, 15, 16, 32, 188, 8, 58, 41]
abbrev dktX2_reduce512_55 : List UInt8 := dkwX2_reduce512_55 ++ dktX2_reduce512_56
def dkwX2_reduce512_54 : List UInt8 := [20, 0, 40, 127, 55, 11, 22, 15, 22, 13, 16, 28, 123, 97, 55, 15, 22, 13, 20, 0, 40, 127, 55, 13]
abbrev dktX2_reduce512_54 : List UInt8 := dkwX2_reduce512_54 ++ dktX2_reduce512_55
def dkwX2_reduce512_53 : List UInt8 := [123, 97, 55, 11, 22, 9, 20, 0, 40, 127, 55, 9, 22, 13, 22, 11, 16, 28, 123, 97, 55, 13, 22, 11]
abbrev dktX2_reduce512_53 : List UInt8 := dkwX2_reduce512_53 ++ dktX2_reduce512_54
def dkwX2_reduce512_52 : List UInt8 := [22, 9, 22, 7, 16, 28, 123, 97, 55, 9, 22, 7, 20, 0, 40, 127, 55, 7, 22, 11, 22, 9, 16, 28]
abbrev dktX2_reduce512_52 : List UInt8 := dkwX2_reduce512_52 ++ dktX2_reduce512_53
def dkwX2_reduce512_51 : List UInt8 := [33, 20, 0, 40, 127, 66, 22, 7, 22, 5, 16, 28, 123, 97, 55, 7, 22, 5, 20, 0, 40, 127, 55, 5]
abbrev dktX2_reduce512_51 : List UInt8 := dkwX2_reduce512_51 ++ dktX2_reduce512_52
def dkwX2_reduce512_50 : List UInt8 := [55, 9, 33, 31, 16, 28, 123, 97, 66, 31, 20, 0, 40, 127, 64, 22, 5, 33, 16, 28, 123, 97, 55, 5]
abbrev dktX2_reduce512_50 : List UInt8 := dkwX2_reduce512_50 ++ dktX2_reduce512_51
def dkwX2_reduce512_49 : List UInt8 := [127, 97, 55, 5, 22, 7, 22, 19, 20, 0, 48, 127, 97, 55, 7, 22, 9, 22, 19, 20, 0, 50, 127, 97]
abbrev dktX2_reduce512_49 : List UInt8 := dkwX2_reduce512_49 ++ dktX2_reduce512_50
def dkwX2_reduce512_48 : List UInt8 := [22, 19, 20, 0, 42, 127, 97, 64, 33, 22, 19, 20, 0, 44, 127, 97, 66, 22, 5, 22, 19, 20, 0, 46]
abbrev dktX2_reduce512_48 : List UInt8 := dkwX2_reduce512_48 ++ dktX2_reduce512_49
def dkwX2_reduce512_47 : List UInt8 := [22, 17, 16, 28, 123, 55, 19, 22, 17, 20, 0, 40, 127, 55, 17, 22, 19, 22, 39, 101, 55, 19, 31]
abbrev dktX2_reduce512_47 : List UInt8 := dkwX2_reduce512_47 ++ dktX2_reduce512_48
def dkwX2_reduce512_46 : List UInt8 := [20, 0, 40, 127, 55, 13, 22, 17, 22, 15, 16, 28, 123, 97, 55, 17, 22, 15, 20, 0, 40, 127, 55, 15]
abbrev dktX2_reduce512_46 : List UInt8 := dkwX2_reduce512_46 ++ dktX2_reduce512_47
def dkwX2_reduce512_45 : List UInt8 := [123, 97, 55, 13, 22, 11, 20, 0, 40, 127, 55, 11, 22, 15, 22, 13, 16, 28, 123, 97, 55, 15, 22, 13]
abbrev dktX2_reduce512_45 : List UInt8 := dkwX2_reduce512_45 ++ dktX2_reduce512_46
def dkwX2_reduce512_44 : List UInt8 := [22, 11, 22, 9, 16, 28, 123, 97, 55, 11, 22, 9, 20, 0, 40, 127, 55, 9, 22, 13, 22, 11, 16, 28]
abbrev dktX2_reduce512_44 : List UInt8 := dkwX2_reduce512_44 ++ dktX2_reduce512_45
def dkwX2_reduce512_43 : List UInt8 := [20, 0, 40, 127, 55, 5, 22, 9, 22, 7, 16, 28, 123, 97, 55, 9, 22, 7, 20, 0, 40, 127, 55, 7]
abbrev dktX2_reduce512_43 : List UInt8 := dkwX2_reduce512_43 ++ dktX2_reduce512_44
def dkwX2_reduce512_42 : List UInt8 := [16, 28, 123, 97, 55, 5, 33, 20, 0, 40, 127, 66, 22, 7, 22, 5, 16, 28, 123, 97, 55, 7, 22, 5]
abbrev dktX2_reduce512_42 : List UInt8 := dkwX2_reduce512_42 ++ dktX2_reduce512_43
def dkwX2_reduce512_41 : List UInt8 := [20, 0, 50, 105, 101, 55, 9, 33, 31, 16, 28, 123, 97, 66, 31, 20, 0, 40, 127, 64, 22, 5, 33]
abbrev dktX2_reduce512_41 : List UInt8 := dkwX2_reduce512_41 ++ dktX2_reduce512_42
def dkwX2_reduce512_40 : List UInt8 := [20, 0, 46, 105, 101, 55, 5, 22, 7, 22, 19, 20, 0, 48, 105, 101, 55, 7, 22, 9, 22, 19]
abbrev dktX2_reduce512_40 : List UInt8 := dkwX2_reduce512_40 ++ dktX2_reduce512_41
def dkwX2_reduce512_39 : List UInt8 := [55, 19, 31, 22, 19, 20, 0, 42, 105, 101, 64, 33, 22, 19, 20, 0, 44, 105, 101, 66, 22, 5, 22, 19]
abbrev dktX2_reduce512_39 : List UInt8 := dkwX2_reduce512_39 ++ dktX2_reduce512_40
def dkwX2_reduce512_38 : List UInt8 := [123, 97, 55, 19, 22, 17, 20, 0, 40, 127, 55, 17, 22, 17, 16, 27, 125, 55, 39, 22, 19, 22, 39, 97]
abbrev dktX2_reduce512_38 : List UInt8 := dkwX2_reduce512_38 ++ dktX2_reduce512_39
def dkwX2_reduce512_37 : List UInt8 := [22, 17, 22, 15, 16, 28, 123, 97, 55, 17, 22, 15, 20, 0, 40, 127, 55, 15, 22, 19, 22, 17, 16, 28]
abbrev dktX2_reduce512_37 : List UInt8 := dkwX2_reduce512_37 ++ dktX2_reduce512_38
def dkwX2_reduce512_36 : List UInt8 := [55, 7, 22, 9, 22, 21, 20, 0, 48, 105, 101, 55, 9, 22, 11, 22, 21, 20, 0, 50, 105, 101, 55, 11]
abbrev dktX2_reduce512_36 : List UInt8 := dkwX2_reduce512_36 ++ dktX2_reduce512_37
def dkwX2_reduce512_35 : List UInt8 := [105, 101, 66, 22, 5, 22, 21, 20, 0, 44, 105, 101, 55, 5, 22, 7, 22, 21, 20, 0, 46, 105, 101]
abbrev dktX2_reduce512_35 : List UInt8 := dkwX2_reduce512_35 ++ dktX2_reduce512_36
def dkwX2_reduce512_34 : List UInt8 := [22, 21, 22, 19, 16, 28, 123, 97, 55, 21, 22, 19, 20, 0, 40, 127, 55, 19, 33, 22, 21, 20, 0, 42]
abbrev dktX2_reduce512_34 : List UInt8 := dkwX2_reduce512_34 ++ dktX2_reduce512_35
def dkwX2_reduce512_33 : List UInt8 := [55, 9, 22, 11, 22, 23, 20, 0, 48, 105, 101, 55, 11, 22, 13, 22, 23, 20, 0, 50, 105, 101, 55, 13]
abbrev dktX2_reduce512_33 : List UInt8 := dkwX2_reduce512_33 ++ dktX2_reduce512_34
def dkwX2_reduce512_32 : List UInt8 := [101, 55, 5, 22, 7, 22, 23, 20, 0, 44, 105, 101, 55, 7, 22, 9, 22, 23, 20, 0, 46, 105, 101]
abbrev dktX2_reduce512_32 : List UInt8 := dkwX2_reduce512_32 ++ dktX2_reduce512_33
def dkwX2_reduce512_31 : List UInt8 := [22, 21, 16, 28, 123, 97, 55, 23, 22, 21, 20, 0, 40, 127, 55, 21, 22, 5, 22, 23, 20, 0, 42, 105]
abbrev dktX2_reduce512_31 : List UInt8 := dkwX2_reduce512_31 ++ dktX2_reduce512_32
def dkwX2_reduce512_30 : List UInt8 := [22, 13, 22, 25, 20, 0, 48, 105, 101, 55, 13, 22, 15, 22, 25, 20, 0, 50, 105, 101, 55, 15, 22, 23]
abbrev dktX2_reduce512_30 : List UInt8 := dkwX2_reduce512_30 ++ dktX2_reduce512_31
def dkwX2_reduce512_29 : List UInt8 := [55, 7, 22, 9, 22, 25, 20, 0, 44, 105, 101, 55, 9, 22, 11, 22, 25, 20, 0, 46, 105, 101, 55, 11]
abbrev dktX2_reduce512_29 : List UInt8 := dkwX2_reduce512_29 ++ dktX2_reduce512_30
def dkwX2_reduce512_28 : List UInt8 := [16, 28, 123, 97, 55, 25, 22, 23, 20, 0, 40, 127, 55, 23, 22, 7, 22, 25, 20, 0, 42, 105, 101]
abbrev dktX2_reduce512_28 : List UInt8 := dkwX2_reduce512_28 ++ dktX2_reduce512_29
def dkwX2_reduce512_27 : List UInt8 := [22, 27, 20, 0, 48, 105, 101, 55, 15, 22, 17, 22, 27, 20, 0, 50, 105, 101, 55, 17, 22, 25, 22, 23]
abbrev dktX2_reduce512_27 : List UInt8 := dkwX2_reduce512_27 ++ dktX2_reduce512_28
def dkwX2_reduce512_26 : List UInt8 := [22, 11, 22, 27, 20, 0, 44, 105, 101, 55, 11, 22, 13, 22, 27, 20, 0, 46, 105, 101, 55, 13, 22, 15]
abbrev dktX2_reduce512_26 : List UInt8 := dkwX2_reduce512_26 ++ dktX2_reduce512_27
def dkwX2_reduce512_25 : List UInt8 := [123, 97, 55, 27, 22, 25, 20, 0, 40, 127, 55, 25, 22, 9, 22, 27, 20, 0, 42, 105, 101, 55, 9]
abbrev dktX2_reduce512_25 : List UInt8 := dkwX2_reduce512_25 ++ dktX2_reduce512_26
def dkwX2_reduce512_24 : List UInt8 := [20, 0, 48, 105, 101, 55, 17, 22, 19, 22, 29, 20, 0, 50, 105, 101, 55, 19, 22, 27, 22, 25, 16, 28]
abbrev dktX2_reduce512_24 : List UInt8 := dkwX2_reduce512_24 ++ dktX2_reduce512_25
def dkwX2_reduce512_23 : List UInt8 := [20, 0, 44, 105, 101, 55, 13, 22, 15, 22, 29, 20, 0, 46, 105, 101, 55, 15, 22, 17, 22, 29]
abbrev dktX2_reduce512_23 : List UInt8 := dkwX2_reduce512_23 ++ dktX2_reduce512_24
def dkwX2_reduce512_22 : List UInt8 := [22, 31, 20, 0, 50, 105, 101, 55, 21, 22, 11, 22, 29, 20, 0, 42, 105, 101, 55, 11, 22, 13, 22, 29]
abbrev dktX2_reduce512_22 : List UInt8 := dkwX2_reduce512_22 ++ dktX2_reduce512_23
def dkwX2_reduce512_21 : List UInt8 := [22, 17, 22, 31, 20, 0, 46, 105, 101, 55, 17, 22, 19, 22, 31, 20, 0, 48, 105, 101, 55, 19, 22, 21]
abbrev dktX2_reduce512_21 : List UInt8 := dkwX2_reduce512_21 ++ dktX2_reduce512_22
def dkwX2_reduce512_20 : List UInt8 := [55, 29, 22, 13, 22, 31, 20, 0, 42, 105, 101, 55, 13, 22, 15, 22, 31, 20, 0, 44, 105, 101, 55, 15]
abbrev dktX2_reduce512_20 : List UInt8 := dkwX2_reduce512_20 ++ dktX2_reduce512_21
def dkwX2_reduce512_19 : List UInt8 := [20, 0, 50, 105, 101, 55, 23, 22, 31, 22, 29, 16, 28, 123, 97, 55, 31, 22, 29, 20, 0, 40, 127]
abbrev dktX2_reduce512_19 : List UInt8 := dkwX2_reduce512_19 ++ dktX2_reduce512_20
def dkwX2_reduce512_18 : List UInt8 := [20, 0, 46, 105, 101, 55, 19, 22, 21, 22, 33, 20, 0, 48, 105, 101, 55, 21, 22, 23, 22, 33]
abbrev dktX2_reduce512_18 : List UInt8 := dkwX2_reduce512_18 ++ dktX2_reduce512_19
def dkwX2_reduce512_17 : List UInt8 := [20, 0, 42, 105, 101, 55, 15, 22, 17, 22, 33, 20, 0, 44, 105, 101, 55, 17, 22, 19, 22, 33]
abbrev dktX2_reduce512_17 : List UInt8 := dkwX2_reduce512_17 ++ dktX2_reduce512_18
def dkwX2_reduce512_16 : List UInt8 := [20, 0, 48, 105, 101, 55, 23, 22, 25, 22, 35, 20, 0, 50, 105, 101, 55, 25, 22, 15, 22, 33]
abbrev dktX2_reduce512_16 : List UInt8 := dkwX2_reduce512_16 ++ dktX2_reduce512_17
def dkwX2_reduce512_15 : List UInt8 := [20, 0, 44, 105, 101, 55, 19, 22, 21, 22, 35, 20, 0, 46, 105, 101, 55, 21, 22, 23, 22, 35]
abbrev dktX2_reduce512_15 : List UInt8 := dkwX2_reduce512_15 ++ dktX2_reduce512_16
def dkwX2_reduce512_14 : List UInt8 := [22, 33, 20, 0, 40, 127, 55, 33, 22, 17, 22, 35, 20, 0, 42, 105, 101, 55, 17, 22, 19, 22, 35]
abbrev dktX2_reduce512_14 : List UInt8 := dkwX2_reduce512_14 ++ dktX2_reduce512_15
def dkwX2_reduce512_13 : List UInt8 := [55, 25, 22, 27, 22, 37, 20, 0, 50, 105, 101, 55, 27, 22, 35, 22, 33, 16, 28, 123, 97, 55, 35]
abbrev dktX2_reduce512_13 : List UInt8 := dkwX2_reduce512_13 ++ dktX2_reduce512_14
def dkwX2_reduce512_12 : List UInt8 := [105, 101, 55, 21, 22, 23, 22, 37, 20, 0, 46, 105, 101, 55, 23, 22, 25, 22, 37, 20, 0, 48, 105, 101]
abbrev dktX2_reduce512_12 : List UInt8 := dkwX2_reduce512_12 ++ dktX2_reduce512_13
def dkwX2_reduce512_11 : List UInt8 := [20, 0, 60, 127, 55, 37, 22, 19, 22, 37, 20, 0, 42, 105, 101, 55, 19, 22, 21, 22, 37, 20, 0, 44]
abbrev dktX2_reduce512_11 : List UInt8 := dkwX2_reduce512_11 ++ dktX2_reduce512_12
def dkwX2_reduce512_10 : List UInt8 := [55, 33, 42, 16, 60, 184, 0, 34, 7, 120, 133, 20, 0, 32, 127, 55, 35, 42, 16, 63, 51, 133]
abbrev dktX2_reduce512_10 : List UInt8 := dkwX2_reduce512_10 ++ dktX2_reduce512_11
def dkwX2_reduce512_9 : List UInt8 := [184, 0, 34, 7, 120, 133, 20, 0, 32, 127, 55, 31, 42, 16, 56, 184, 0, 29, 133, 20, 0, 32, 127]
abbrev dktX2_reduce512_9 : List UInt8 := dkwX2_reduce512_9 ++ dktX2_reduce512_10
def dkwX2_reduce512_8 : List UInt8 := [20, 0, 32, 127, 55, 27, 42, 16, 49, 184, 0, 29, 133, 20, 0, 32, 127, 55, 29, 42, 16, 53]
abbrev dktX2_reduce512_8 : List UInt8 := dkwX2_reduce512_8 ++ dktX2_reduce512_9
def dkwX2_reduce512_7 : List UInt8 := [55, 23, 42, 16, 42, 184, 0, 29, 133, 20, 0, 32, 127, 55, 25, 42, 16, 46, 184, 0, 34, 7, 120, 133]
abbrev dktX2_reduce512_7 : List UInt8 := dkwX2_reduce512_7 ++ dktX2_reduce512_8
def dkwX2_reduce512_6 : List UInt8 := [184, 0, 29, 133, 20, 0, 32, 127, 55, 21, 42, 16, 39, 184, 0, 34, 7, 120, 133, 20, 0, 32, 127]
abbrev dktX2_reduce512_6 : List UInt8 := dkwX2_reduce512_6 ++ dktX2_reduce512_7
def dkwX2_reduce512_5 : List UInt8 := [20, 0, 32, 127, 55, 17, 42, 16, 32, 184, 0, 34, 7, 120, 133, 20, 0, 32, 127, 55, 19, 42, 16, 35]
abbrev dktX2_reduce512_5 : List UInt8 := dkwX2_reduce512_5 ++ dktX2_reduce512_6
def dkwX2_reduce512_4 : List UInt8 := [55, 13, 42, 16, 25, 184, 0, 34, 7, 120, 133, 20, 0, 32, 127, 55, 15, 42, 16, 28, 184, 0, 29, 133]
abbrev dktX2_reduce512_4 : List UInt8 := dkwX2_reduce512_4 ++ dktX2_reduce512_5
def dkwX2_reduce512_3 : List UInt8 := [184, 0, 34, 7, 120, 133, 20, 0, 32, 127, 55, 11, 42, 16, 21, 184, 0, 29, 133, 20, 0, 32, 127]
abbrev dktX2_reduce512_3 : List UInt8 := dkwX2_reduce512_3 ++ dktX2_reduce512_4
def dkwX2_reduce512_2 : List UInt8 := [20, 0, 32, 127, 55, 7, 42, 16, 14, 184, 0, 29, 133, 20, 0, 32, 127, 55, 9, 42, 16, 18]
abbrev dktX2_reduce512_2 : List UInt8 := dkwX2_reduce512_2 ++ dktX2_reduce512_3
def dkwX2_reduce512_1 : List UInt8 := [42, 16, 7, 184, 0, 29, 133, 20, 0, 32, 127, 55, 5, 42, 16, 11, 184, 0, 34, 7, 120, 133]
abbrev dktX2_reduce512_1 : List UInt8 := dkwX2_reduce512_1 ++ dktX2_reduce512_2
def dkwX2_reduce512_0 : List UInt8 := [42, 3, 184, 0, 29, 133, 20, 0, 32, 127, 64, 42, 7, 184, 0, 34, 7, 120, 133, 20, 0, 32, 127, 66]
abbrev dktX2_reduce512_0 : List UInt8 := dkwX2_reduce512_0 ++ dktX2_reduce512_1
theorem dksX2_reduce512_0 : cX2_reduce512.data.toList.drop 0 = dktX2_reduce512_0 := by decide +kernel
theorem dksX2_reduce512_1 : cX2_reduce512.data.toList.drop 24 = dktX2_reduce512_1 := dk_seg dksX2_reduce512_0 24 rfl rfl
theorem dksX2_reduce512_2 : cX2_reduce512.data.toList.drop 46 = dktX2_reduce512_2 := dk_seg dksX2_reduce512_1 22 rfl rfl
theorem dksX2_reduce512_3 : cX2_reduce512.data.toList.drop 68 = dktX2_reduce512_3 := dk_seg dksX2_reduce512_2 22 rfl rfl
theorem dksX2_reduce512_4 : cX2_reduce512.data.toList.drop 91 = dktX2_reduce512_4 := dk_seg dksX2_reduce512_3 23 rfl rfl
theorem dksX2_reduce512_5 : cX2_reduce512.data.toList.drop 115 = dktX2_reduce512_5 := dk_seg dksX2_reduce512_4 24 rfl rfl
theorem dksX2_reduce512_6 : cX2_reduce512.data.toList.drop 139 = dktX2_reduce512_6 := dk_seg dksX2_reduce512_5 24 rfl rfl
theorem dksX2_reduce512_7 : cX2_reduce512.data.toList.drop 162 = dktX2_reduce512_7 := dk_seg dksX2_reduce512_6 23 rfl rfl
theorem dksX2_reduce512_8 : cX2_reduce512.data.toList.drop 186 = dktX2_reduce512_8 := dk_seg dksX2_reduce512_7 24 rfl rfl
theorem dksX2_reduce512_9 : cX2_reduce512.data.toList.drop 208 = dktX2_reduce512_9 := dk_seg dksX2_reduce512_8 22 rfl rfl
theorem dksX2_reduce512_10 : cX2_reduce512.data.toList.drop 231 = dktX2_reduce512_10 := dk_seg dksX2_reduce512_9 23 rfl rfl
theorem dksX2_reduce512_11 : cX2_reduce512.data.toList.drop 253 = dktX2_reduce512_11 := dk_seg dksX2_reduce512_10 22 rfl rfl
theorem dksX2_reduce512_12 : cX2_reduce512.data.toList.drop 277 = dktX2_reduce512_12 := dk_seg dksX2_reduce512_11 24 rfl rfl
theorem dksX2_reduce512_13 : cX2_reduce512.data.toList.drop 301 = dktX2_reduce512_13 := dk_seg dksX2_reduce512_12 24 rfl rfl
theorem dksX2_reduce512_14 : cX2_reduce512.data.toList.drop 324 = dktX2_reduce512_14 := dk_seg dksX2_reduce512_13 23 rfl rfl
theorem dksX2_reduce512_15 : cX2_reduce512.data.toList.drop 347 = dktX2_reduce512_15 := dk_seg dksX2_reduce512_14 23 rfl rfl
theorem dksX2_reduce512_16 : cX2_reduce512.data.toList.drop 369 = dktX2_reduce512_16 := dk_seg dksX2_reduce512_15 22 rfl rfl
theorem dksX2_reduce512_17 : cX2_reduce512.data.toList.drop 391 = dktX2_reduce512_17 := dk_seg dksX2_reduce512_16 22 rfl rfl
theorem dksX2_reduce512_18 : cX2_reduce512.data.toList.drop 413 = dktX2_reduce512_18 := dk_seg dksX2_reduce512_17 22 rfl rfl
theorem dksX2_reduce512_19 : cX2_reduce512.data.toList.drop 435 = dktX2_reduce512_19 := dk_seg dksX2_reduce512_18 22 rfl rfl
theorem dksX2_reduce512_20 : cX2_reduce512.data.toList.drop 458 = dktX2_reduce512_20 := dk_seg dksX2_reduce512_19 23 rfl rfl
theorem dksX2_reduce512_21 : cX2_reduce512.data.toList.drop 482 = dktX2_reduce512_21 := dk_seg dksX2_reduce512_20 24 rfl rfl
theorem dksX2_reduce512_22 : cX2_reduce512.data.toList.drop 506 = dktX2_reduce512_22 := dk_seg dksX2_reduce512_21 24 rfl rfl
theorem dksX2_reduce512_23 : cX2_reduce512.data.toList.drop 530 = dktX2_reduce512_23 := dk_seg dksX2_reduce512_22 24 rfl rfl
theorem dksX2_reduce512_24 : cX2_reduce512.data.toList.drop 552 = dktX2_reduce512_24 := dk_seg dksX2_reduce512_23 22 rfl rfl
theorem dksX2_reduce512_25 : cX2_reduce512.data.toList.drop 576 = dktX2_reduce512_25 := dk_seg dksX2_reduce512_24 24 rfl rfl
theorem dksX2_reduce512_26 : cX2_reduce512.data.toList.drop 599 = dktX2_reduce512_26 := dk_seg dksX2_reduce512_25 23 rfl rfl
theorem dksX2_reduce512_27 : cX2_reduce512.data.toList.drop 623 = dktX2_reduce512_27 := dk_seg dksX2_reduce512_26 24 rfl rfl
theorem dksX2_reduce512_28 : cX2_reduce512.data.toList.drop 647 = dktX2_reduce512_28 := dk_seg dksX2_reduce512_27 24 rfl rfl
theorem dksX2_reduce512_29 : cX2_reduce512.data.toList.drop 670 = dktX2_reduce512_29 := dk_seg dksX2_reduce512_28 23 rfl rfl
theorem dksX2_reduce512_30 : cX2_reduce512.data.toList.drop 694 = dktX2_reduce512_30 := dk_seg dksX2_reduce512_29 24 rfl rfl
theorem dksX2_reduce512_31 : cX2_reduce512.data.toList.drop 718 = dktX2_reduce512_31 := dk_seg dksX2_reduce512_30 24 rfl rfl
theorem dksX2_reduce512_32 : cX2_reduce512.data.toList.drop 742 = dktX2_reduce512_32 := dk_seg dksX2_reduce512_31 24 rfl rfl
theorem dksX2_reduce512_33 : cX2_reduce512.data.toList.drop 765 = dktX2_reduce512_33 := dk_seg dksX2_reduce512_32 23 rfl rfl
theorem dksX2_reduce512_34 : cX2_reduce512.data.toList.drop 789 = dktX2_reduce512_34 := dk_seg dksX2_reduce512_33 24 rfl rfl
theorem dksX2_reduce512_35 : cX2_reduce512.data.toList.drop 813 = dktX2_reduce512_35 := dk_seg dksX2_reduce512_34 24 rfl rfl
theorem dksX2_reduce512_36 : cX2_reduce512.data.toList.drop 836 = dktX2_reduce512_36 := dk_seg dksX2_reduce512_35 23 rfl rfl
theorem dksX2_reduce512_37 : cX2_reduce512.data.toList.drop 860 = dktX2_reduce512_37 := dk_seg dksX2_reduce512_36 24 rfl rfl
theorem dksX2_reduce512_38 : cX2_reduce512.data.toList.drop 884 = dktX2_reduce512_38 := dk_seg dksX2_reduce512_37 24 rfl rfl
theorem dksX2_reduce512_39 : cX2_reduce512.data.toList.drop 908 = dktX2_reduce512_39 := dk_seg dksX2_reduce512_38 24 rfl rfl
theorem dksX2_reduce512_40 : cX2_reduce512.data.toList.drop 932 = dktX2_reduce512_40 := dk_seg dksX2_reduce512_39 24 rfl rfl
theorem dksX2_reduce512_41 : cX2_reduce512.data.toList.drop 954 = dktX2_reduce512_41 := dk_seg dksX2_reduce512_40 22 rfl rfl
theorem dksX2_reduce512_42 : cX2_reduce512.data.toList.drop 977 = dktX2_reduce512_42 := dk_seg dksX2_reduce512_41 23 rfl rfl
theorem dksX2_reduce512_43 : cX2_reduce512.data.toList.drop 1001 = dktX2_reduce512_43 := dk_seg dksX2_reduce512_42 24 rfl rfl
theorem dksX2_reduce512_44 : cX2_reduce512.data.toList.drop 1025 = dktX2_reduce512_44 := dk_seg dksX2_reduce512_43 24 rfl rfl
theorem dksX2_reduce512_45 : cX2_reduce512.data.toList.drop 1049 = dktX2_reduce512_45 := dk_seg dksX2_reduce512_44 24 rfl rfl
theorem dksX2_reduce512_46 : cX2_reduce512.data.toList.drop 1073 = dktX2_reduce512_46 := dk_seg dksX2_reduce512_45 24 rfl rfl
theorem dksX2_reduce512_47 : cX2_reduce512.data.toList.drop 1097 = dktX2_reduce512_47 := dk_seg dksX2_reduce512_46 24 rfl rfl
theorem dksX2_reduce512_48 : cX2_reduce512.data.toList.drop 1120 = dktX2_reduce512_48 := dk_seg dksX2_reduce512_47 23 rfl rfl
theorem dksX2_reduce512_49 : cX2_reduce512.data.toList.drop 1144 = dktX2_reduce512_49 := dk_seg dksX2_reduce512_48 24 rfl rfl
theorem dksX2_reduce512_50 : cX2_reduce512.data.toList.drop 1168 = dktX2_reduce512_50 := dk_seg dksX2_reduce512_49 24 rfl rfl
theorem dksX2_reduce512_51 : cX2_reduce512.data.toList.drop 1192 = dktX2_reduce512_51 := dk_seg dksX2_reduce512_50 24 rfl rfl
theorem dksX2_reduce512_52 : cX2_reduce512.data.toList.drop 1216 = dktX2_reduce512_52 := dk_seg dksX2_reduce512_51 24 rfl rfl
theorem dksX2_reduce512_53 : cX2_reduce512.data.toList.drop 1240 = dktX2_reduce512_53 := dk_seg dksX2_reduce512_52 24 rfl rfl
theorem dksX2_reduce512_54 : cX2_reduce512.data.toList.drop 1264 = dktX2_reduce512_54 := dk_seg dksX2_reduce512_53 24 rfl rfl
theorem dksX2_reduce512_55 : cX2_reduce512.data.toList.drop 1288 = dktX2_reduce512_55 := dk_seg dksX2_reduce512_54 24 rfl rfl
theorem dksX2_reduce512_56 : cX2_reduce512.data.toList.drop 1312 = dktX2_reduce512_56 := dk_seg dksX2_reduce512_55 24 rfl rfl
theorem dksX2_reduce512_57 : cX2_reduce512.data.toList.drop 1336 = dktX2_reduce512_57 := dk_seg dksX2_reduce512_56 24 rfl rfl
theorem dksX2_reduce512_58 : cX2_reduce512.data.toList.drop 1360 = dktX2_reduce512_58 := dk_seg dksX2_reduce512_57 24 rfl rfl
theorem dX2_reduce512_0 : decode cX2_reduce512 0 = .ok (.aload_n 0, 1) := dk_42 (dk_at dksX2_reduce512_0 0 rfl rfl)
theorem dX2_reduce512_1 : decode cX2_reduce512 1 = .ok (.iconst 0, 1) := dk_3 (dk_at dksX2_reduce512_0 1 rfl rfl)
theorem dX2_reduce512_2 : decode cX2_reduce512 2 = .ok (.invokestatic 29, 3) := dk_184 0 29 (dk_at dksX2_reduce512_0 2 rfl rfl)
theorem dX2_reduce512_5 : decode cX2_reduce512 5 = .ok (.i2l, 1) := dk_133 (dk_at dksX2_reduce512_0 5 rfl rfl)
theorem dX2_reduce512_6 : decode cX2_reduce512 6 = .ok (.ldc2_w 32, 3) := dk_20 0 32 (dk_at dksX2_reduce512_0 6 rfl rfl)
theorem dX2_reduce512_9 : decode cX2_reduce512 9 = .ok (.land, 1) := dk_127 (dk_at dksX2_reduce512_0 9 rfl rfl)
theorem dX2_reduce512_10 : decode cX2_reduce512 10 = .ok (.lstore_n 1, 1) := dk_64 (dk_at dksX2_reduce512_0 10 rfl rfl)
theorem dX2_reduce512_11 : decode cX2_reduce512 11 = .ok (.aload_n 0, 1) := dk_42 (dk_at dksX2_reduce512_0 11 rfl rfl)
theorem dX2_reduce512_12 : decode cX2_reduce512 12 = .ok (.iconst 4, 1) := dk_7 (dk_at dksX2_reduce512_0 12 rfl rfl)
theorem dX2_reduce512_13 : decode cX2_reduce512 13 = .ok (.invokestatic 34, 3) := dk_184 0 34 (dk_at dksX2_reduce512_0 13 rfl rfl)
theorem dX2_reduce512_16 : decode cX2_reduce512 16 = .ok (.iconst 4, 1) := dk_7 (dk_at dksX2_reduce512_0 16 rfl rfl)
theorem dX2_reduce512_17 : decode cX2_reduce512 17 = .ok (.ishl, 1) := dk_120 (dk_at dksX2_reduce512_0 17 rfl rfl)
theorem dX2_reduce512_18 : decode cX2_reduce512 18 = .ok (.i2l, 1) := dk_133 (dk_at dksX2_reduce512_0 18 rfl rfl)
theorem dX2_reduce512_19 : decode cX2_reduce512 19 = .ok (.ldc2_w 32, 3) := dk_20 0 32 (dk_at dksX2_reduce512_0 19 rfl rfl)
theorem dX2_reduce512_22 : decode cX2_reduce512 22 = .ok (.land, 1) := dk_127 (dk_at dksX2_reduce512_0 22 rfl rfl)
theorem dX2_reduce512_23 : decode cX2_reduce512 23 = .ok (.lstore_n 3, 1) := dk_66 (dk_at dksX2_reduce512_0 23 rfl rfl)
theorem dX2_reduce512_24 : decode cX2_reduce512 24 = .ok (.aload_n 0, 1) := dk_42 (dk_at dksX2_reduce512_1 0 rfl rfl)
theorem dX2_reduce512_25 : decode cX2_reduce512 25 = .ok (.bipush 7, 2) := dk_16 7 (dk_at dksX2_reduce512_1 1 rfl rfl)
theorem dX2_reduce512_27 : decode cX2_reduce512 27 = .ok (.invokestatic 29, 3) := dk_184 0 29 (dk_at dksX2_reduce512_1 3 rfl rfl)
theorem dX2_reduce512_30 : decode cX2_reduce512 30 = .ok (.i2l, 1) := dk_133 (dk_at dksX2_reduce512_1 6 rfl rfl)
theorem dX2_reduce512_31 : decode cX2_reduce512 31 = .ok (.ldc2_w 32, 3) := dk_20 0 32 (dk_at dksX2_reduce512_1 7 rfl rfl)
theorem dX2_reduce512_34 : decode cX2_reduce512 34 = .ok (.land, 1) := dk_127 (dk_at dksX2_reduce512_1 10 rfl rfl)
theorem dX2_reduce512_35 : decode cX2_reduce512 35 = .ok (.lstore 5, 2) := dk_55 5 (dk_at dksX2_reduce512_1 11 rfl rfl)
theorem dX2_reduce512_37 : decode cX2_reduce512 37 = .ok (.aload_n 0, 1) := dk_42 (dk_at dksX2_reduce512_1 13 rfl rfl)
theorem dX2_reduce512_38 : decode cX2_reduce512 38 = .ok (.bipush 11, 2) := dk_16 11 (dk_at dksX2_reduce512_1 14 rfl rfl)
theorem dX2_reduce512_40 : decode cX2_reduce512 40 = .ok (.invokestatic 34, 3) := dk_184 0 34 (dk_at dksX2_reduce512_1 16 rfl rfl)
theorem dX2_reduce512_43 : decode cX2_reduce512 43 = .ok (.iconst 4, 1) := dk_7 (dk_at dksX2_reduce512_1 19 rfl rfl)
theorem dX2_reduce512_44 : decode cX2_reduce512 44 = .ok (.ishl, 1) := dk_120 (dk_at dksX2_reduce512_1 20 rfl rfl)
theorem dX2_reduce512_45 : decode cX2_reduce512 45 = .ok (.i2l, 1) := dk_133 (dk_at dksX2_reduce512_1 21 rfl rfl)
theorem dX2_reduce512_46 : decode cX2_reduce512 46 = .ok (.ldc2_w 32, 3) := dk_20 0 32 (dk_at dksX2_reduce512_2 0 rfl rfl)
theorem dX2_reduce512_49 : decode cX2_reduce512 49 = .ok (.land, 1) := dk_127 (dk_at dksX2_reduce512_2 3 rfl rfl)
theorem dX2_reduce512_50 : decode cX2_reduce512 50 = .ok (.lstore 7, 2) := dk_55 7 (dk_at dksX2_reduce512_2 4 rfl rfl)
theorem dX2_reduce512_52 : decode cX2_reduce512 52 = .ok (.aload_n 0, 1) := dk_42 (dk_at dksX2_reduce512_2 6 rfl rfl)
theorem dX2_reduce512_53 : decode cX2_reduce512 53 = .ok (.bipush 14, 2) := dk_16 14 (dk_at dksX2_reduce512_2 7 rfl rfl)
theorem dX2_reduce512_55 : decode cX2_reduce512 55 = .ok (.invokestatic 29, 3) := dk_184 0 29 (dk_at dksX2_reduce512_2 9 rfl rfl)
theorem dX2_reduce512_58 : decode cX2_reduce512 58 = .ok (.i2l, 1) := dk_133 (dk_at dksX2_reduce512_2 12 rfl rfl)
theorem dX2_reduce512_59 : decode cX2_reduce512 59 = .ok (.ldc2_w 32, 3) := dk_20 0 32 (dk_at dksX2_reduce512_2 13 rfl rfl)
theorem dX2_reduce512_62 : decode cX2_reduce512 62 = .ok (.land, 1) := dk_127 (dk_at dksX2_reduce512_2 16 rfl rfl)
theorem dX2_reduce512_63 : decode cX2_reduce512 63 = .ok (.lstore 9, 2) := dk_55 9 (dk_at dksX2_reduce512_2 17 rfl rfl)
theorem dX2_reduce512_65 : decode cX2_reduce512 65 = .ok (.aload_n 0, 1) := dk_42 (dk_at dksX2_reduce512_2 19 rfl rfl)
theorem dX2_reduce512_66 : decode cX2_reduce512 66 = .ok (.bipush 18, 2) := dk_16 18 (dk_at dksX2_reduce512_2 20 rfl rfl)
theorem dX2_reduce512_68 : decode cX2_reduce512 68 = .ok (.invokestatic 34, 3) := dk_184 0 34 (dk_at dksX2_reduce512_3 0 rfl rfl)
theorem dX2_reduce512_71 : decode cX2_reduce512 71 = .ok (.iconst 4, 1) := dk_7 (dk_at dksX2_reduce512_3 3 rfl rfl)
theorem dX2_reduce512_72 : decode cX2_reduce512 72 = .ok (.ishl, 1) := dk_120 (dk_at dksX2_reduce512_3 4 rfl rfl)
theorem dX2_reduce512_73 : decode cX2_reduce512 73 = .ok (.i2l, 1) := dk_133 (dk_at dksX2_reduce512_3 5 rfl rfl)
theorem dX2_reduce512_74 : decode cX2_reduce512 74 = .ok (.ldc2_w 32, 3) := dk_20 0 32 (dk_at dksX2_reduce512_3 6 rfl rfl)
theorem dX2_reduce512_77 : decode cX2_reduce512 77 = .ok (.land, 1) := dk_127 (dk_at dksX2_reduce512_3 9 rfl rfl)
theorem dX2_reduce512_78 : decode cX2_reduce512 78 = .ok (.lstore 11, 2) := dk_55 11 (dk_at dksX2_reduce512_3 10 rfl rfl)
theorem dX2_reduce512_80 : decode cX2_reduce512 80 = .ok (.aload_n 0, 1) := dk_42 (dk_at dksX2_reduce512_3 12 rfl rfl)
theorem dX2_reduce512_81 : decode cX2_reduce512 81 = .ok (.bipush 21, 2) := dk_16 21 (dk_at dksX2_reduce512_3 13 rfl rfl)
theorem dX2_reduce512_83 : decode cX2_reduce512 83 = .ok (.invokestatic 29, 3) := dk_184 0 29 (dk_at dksX2_reduce512_3 15 rfl rfl)
theorem dX2_reduce512_86 : decode cX2_reduce512 86 = .ok (.i2l, 1) := dk_133 (dk_at dksX2_reduce512_3 18 rfl rfl)
theorem dX2_reduce512_87 : decode cX2_reduce512 87 = .ok (.ldc2_w 32, 3) := dk_20 0 32 (dk_at dksX2_reduce512_3 19 rfl rfl)
theorem dX2_reduce512_90 : decode cX2_reduce512 90 = .ok (.land, 1) := dk_127 (dk_at dksX2_reduce512_3 22 rfl rfl)
theorem dX2_reduce512_91 : decode cX2_reduce512 91 = .ok (.lstore 13, 2) := dk_55 13 (dk_at dksX2_reduce512_4 0 rfl rfl)
theorem dX2_reduce512_93 : decode cX2_reduce512 93 = .ok (.aload_n 0, 1) := dk_42 (dk_at dksX2_reduce512_4 2 rfl rfl)
theorem dX2_reduce512_94 : decode cX2_reduce512 94 = .ok (.bipush 25, 2) := dk_16 25 (dk_at dksX2_reduce512_4 3 rfl rfl)
theorem dX2_reduce512_96 : decode cX2_reduce512 96 = .ok (.invokestatic 34, 3) := dk_184 0 34 (dk_at dksX2_reduce512_4 5 rfl rfl)
theorem dX2_reduce512_99 : decode cX2_reduce512 99 = .ok (.iconst 4, 1) := dk_7 (dk_at dksX2_reduce512_4 8 rfl rfl)
theorem dX2_reduce512_100 : decode cX2_reduce512 100 = .ok (.ishl, 1) := dk_120 (dk_at dksX2_reduce512_4 9 rfl rfl)
theorem dX2_reduce512_101 : decode cX2_reduce512 101 = .ok (.i2l, 1) := dk_133 (dk_at dksX2_reduce512_4 10 rfl rfl)
theorem dX2_reduce512_102 : decode cX2_reduce512 102 = .ok (.ldc2_w 32, 3) := dk_20 0 32 (dk_at dksX2_reduce512_4 11 rfl rfl)
theorem dX2_reduce512_105 : decode cX2_reduce512 105 = .ok (.land, 1) := dk_127 (dk_at dksX2_reduce512_4 14 rfl rfl)
theorem dX2_reduce512_106 : decode cX2_reduce512 106 = .ok (.lstore 15, 2) := dk_55 15 (dk_at dksX2_reduce512_4 15 rfl rfl)
theorem dX2_reduce512_108 : decode cX2_reduce512 108 = .ok (.aload_n 0, 1) := dk_42 (dk_at dksX2_reduce512_4 17 rfl rfl)
theorem dX2_reduce512_109 : decode cX2_reduce512 109 = .ok (.bipush 28, 2) := dk_16 28 (dk_at dksX2_reduce512_4 18 rfl rfl)
theorem dX2_reduce512_111 : decode cX2_reduce512 111 = .ok (.invokestatic 29, 3) := dk_184 0 29 (dk_at dksX2_reduce512_4 20 rfl rfl)
theorem dX2_reduce512_114 : decode cX2_reduce512 114 = .ok (.i2l, 1) := dk_133 (dk_at dksX2_reduce512_4 23 rfl rfl)
theorem dX2_reduce512_115 : decode cX2_reduce512 115 = .ok (.ldc2_w 32, 3) := dk_20 0 32 (dk_at dksX2_reduce512_5 0 rfl rfl)
theorem dX2_reduce512_118 : decode cX2_reduce512 118 = .ok (.land, 1) := dk_127 (dk_at dksX2_reduce512_5 3 rfl rfl)
theorem dX2_reduce512_119 : decode cX2_reduce512 119 = .ok (.lstore 17, 2) := dk_55 17 (dk_at dksX2_reduce512_5 4 rfl rfl)
theorem dX2_reduce512_121 : decode cX2_reduce512 121 = .ok (.aload_n 0, 1) := dk_42 (dk_at dksX2_reduce512_5 6 rfl rfl)
theorem dX2_reduce512_122 : decode cX2_reduce512 122 = .ok (.bipush 32, 2) := dk_16 32 (dk_at dksX2_reduce512_5 7 rfl rfl)
theorem dX2_reduce512_124 : decode cX2_reduce512 124 = .ok (.invokestatic 34, 3) := dk_184 0 34 (dk_at dksX2_reduce512_5 9 rfl rfl)
theorem dX2_reduce512_127 : decode cX2_reduce512 127 = .ok (.iconst 4, 1) := dk_7 (dk_at dksX2_reduce512_5 12 rfl rfl)
theorem dX2_reduce512_128 : decode cX2_reduce512 128 = .ok (.ishl, 1) := dk_120 (dk_at dksX2_reduce512_5 13 rfl rfl)
theorem dX2_reduce512_129 : decode cX2_reduce512 129 = .ok (.i2l, 1) := dk_133 (dk_at dksX2_reduce512_5 14 rfl rfl)
theorem dX2_reduce512_130 : decode cX2_reduce512 130 = .ok (.ldc2_w 32, 3) := dk_20 0 32 (dk_at dksX2_reduce512_5 15 rfl rfl)
theorem dX2_reduce512_133 : decode cX2_reduce512 133 = .ok (.land, 1) := dk_127 (dk_at dksX2_reduce512_5 18 rfl rfl)
theorem dX2_reduce512_134 : decode cX2_reduce512 134 = .ok (.lstore 19, 2) := dk_55 19 (dk_at dksX2_reduce512_5 19 rfl rfl)
theorem dX2_reduce512_136 : decode cX2_reduce512 136 = .ok (.aload_n 0, 1) := dk_42 (dk_at dksX2_reduce512_5 21 rfl rfl)
theorem dX2_reduce512_137 : decode cX2_reduce512 137 = .ok (.bipush 35, 2) := dk_16 35 (dk_at dksX2_reduce512_5 22 rfl rfl)
theorem dX2_reduce512_139 : decode cX2_reduce512 139 = .ok (.invokestatic 29, 3) := dk_184 0 29 (dk_at dksX2_reduce512_6 0 rfl rfl)
theorem dX2_reduce512_142 : decode cX2_reduce512 142 = .ok (.i2l, 1) := dk_133 (dk_at dksX2_reduce512_6 3 rfl rfl)
theorem dX2_reduce512_143 : decode cX2_reduce512 143 = .ok (.ldc2_w 32, 3) := dk_20 0 32 (dk_at dksX2_reduce512_6 4 rfl rfl)
theorem dX2_reduce512_146 : decode cX2_reduce512 146 = .ok (.land, 1) := dk_127 (dk_at dksX2_reduce512_6 7 rfl rfl)
theorem dX2_reduce512_147 : decode cX2_reduce512 147 = .ok (.lstore 21, 2) := dk_55 21 (dk_at dksX2_reduce512_6 8 rfl rfl)
theorem dX2_reduce512_149 : decode cX2_reduce512 149 = .ok (.aload_n 0, 1) := dk_42 (dk_at dksX2_reduce512_6 10 rfl rfl)
theorem dX2_reduce512_150 : decode cX2_reduce512 150 = .ok (.bipush 39, 2) := dk_16 39 (dk_at dksX2_reduce512_6 11 rfl rfl)
theorem dX2_reduce512_152 : decode cX2_reduce512 152 = .ok (.invokestatic 34, 3) := dk_184 0 34 (dk_at dksX2_reduce512_6 13 rfl rfl)
theorem dX2_reduce512_155 : decode cX2_reduce512 155 = .ok (.iconst 4, 1) := dk_7 (dk_at dksX2_reduce512_6 16 rfl rfl)
theorem dX2_reduce512_156 : decode cX2_reduce512 156 = .ok (.ishl, 1) := dk_120 (dk_at dksX2_reduce512_6 17 rfl rfl)
theorem dX2_reduce512_157 : decode cX2_reduce512 157 = .ok (.i2l, 1) := dk_133 (dk_at dksX2_reduce512_6 18 rfl rfl)
theorem dX2_reduce512_158 : decode cX2_reduce512 158 = .ok (.ldc2_w 32, 3) := dk_20 0 32 (dk_at dksX2_reduce512_6 19 rfl rfl)
theorem dX2_reduce512_161 : decode cX2_reduce512 161 = .ok (.land, 1) := dk_127 (dk_at dksX2_reduce512_6 22 rfl rfl)
theorem dX2_reduce512_162 : decode cX2_reduce512 162 = .ok (.lstore 23, 2) := dk_55 23 (dk_at dksX2_reduce512_7 0 rfl rfl)
theorem dX2_reduce512_164 : decode cX2_reduce512 164 = .ok (.aload_n 0, 1) := dk_42 (dk_at dksX2_reduce512_7 2 rfl rfl)
theorem dX2_reduce512_165 : decode cX2_reduce512 165 = .ok (.bipush 42, 2) := dk_16 42 (dk_at dksX2_reduce512_7 3 rfl rfl)
theorem dX2_reduce512_167 : decode cX2_reduce512 167 = .ok (.invokestatic 29, 3) := dk_184 0 29 (dk_at dksX2_reduce512_7 5 rfl rfl)
theorem dX2_reduce512_170 : decode cX2_reduce512 170 = .ok (.i2l, 1) := dk_133 (dk_at dksX2_reduce512_7 8 rfl rfl)
theorem dX2_reduce512_171 : decode cX2_reduce512 171 = .ok (.ldc2_w 32, 3) := dk_20 0 32 (dk_at dksX2_reduce512_7 9 rfl rfl)
theorem dX2_reduce512_174 : decode cX2_reduce512 174 = .ok (.land, 1) := dk_127 (dk_at dksX2_reduce512_7 12 rfl rfl)
theorem dX2_reduce512_175 : decode cX2_reduce512 175 = .ok (.lstore 25, 2) := dk_55 25 (dk_at dksX2_reduce512_7 13 rfl rfl)
theorem dX2_reduce512_177 : decode cX2_reduce512 177 = .ok (.aload_n 0, 1) := dk_42 (dk_at dksX2_reduce512_7 15 rfl rfl)
theorem dX2_reduce512_178 : decode cX2_reduce512 178 = .ok (.bipush 46, 2) := dk_16 46 (dk_at dksX2_reduce512_7 16 rfl rfl)
theorem dX2_reduce512_180 : decode cX2_reduce512 180 = .ok (.invokestatic 34, 3) := dk_184 0 34 (dk_at dksX2_reduce512_7 18 rfl rfl)
theorem dX2_reduce512_183 : decode cX2_reduce512 183 = .ok (.iconst 4, 1) := dk_7 (dk_at dksX2_reduce512_7 21 rfl rfl)
theorem dX2_reduce512_184 : decode cX2_reduce512 184 = .ok (.ishl, 1) := dk_120 (dk_at dksX2_reduce512_7 22 rfl rfl)
theorem dX2_reduce512_185 : decode cX2_reduce512 185 = .ok (.i2l, 1) := dk_133 (dk_at dksX2_reduce512_7 23 rfl rfl)
theorem dX2_reduce512_186 : decode cX2_reduce512 186 = .ok (.ldc2_w 32, 3) := dk_20 0 32 (dk_at dksX2_reduce512_8 0 rfl rfl)
theorem dX2_reduce512_189 : decode cX2_reduce512 189 = .ok (.land, 1) := dk_127 (dk_at dksX2_reduce512_8 3 rfl rfl)
theorem dX2_reduce512_190 : decode cX2_reduce512 190 = .ok (.lstore 27, 2) := dk_55 27 (dk_at dksX2_reduce512_8 4 rfl rfl)
theorem dX2_reduce512_192 : decode cX2_reduce512 192 = .ok (.aload_n 0, 1) := dk_42 (dk_at dksX2_reduce512_8 6 rfl rfl)
theorem dX2_reduce512_193 : decode cX2_reduce512 193 = .ok (.bipush 49, 2) := dk_16 49 (dk_at dksX2_reduce512_8 7 rfl rfl)
theorem dX2_reduce512_195 : decode cX2_reduce512 195 = .ok (.invokestatic 29, 3) := dk_184 0 29 (dk_at dksX2_reduce512_8 9 rfl rfl)
theorem dX2_reduce512_198 : decode cX2_reduce512 198 = .ok (.i2l, 1) := dk_133 (dk_at dksX2_reduce512_8 12 rfl rfl)
theorem dX2_reduce512_199 : decode cX2_reduce512 199 = .ok (.ldc2_w 32, 3) := dk_20 0 32 (dk_at dksX2_reduce512_8 13 rfl rfl)
theorem dX2_reduce512_202 : decode cX2_reduce512 202 = .ok (.land, 1) := dk_127 (dk_at dksX2_reduce512_8 16 rfl rfl)
theorem dX2_reduce512_203 : decode cX2_reduce512 203 = .ok (.lstore 29, 2) := dk_55 29 (dk_at dksX2_reduce512_8 17 rfl rfl)
theorem dX2_reduce512_205 : decode cX2_reduce512 205 = .ok (.aload_n 0, 1) := dk_42 (dk_at dksX2_reduce512_8 19 rfl rfl)
theorem dX2_reduce512_206 : decode cX2_reduce512 206 = .ok (.bipush 53, 2) := dk_16 53 (dk_at dksX2_reduce512_8 20 rfl rfl)
theorem dX2_reduce512_208 : decode cX2_reduce512 208 = .ok (.invokestatic 34, 3) := dk_184 0 34 (dk_at dksX2_reduce512_9 0 rfl rfl)
theorem dX2_reduce512_211 : decode cX2_reduce512 211 = .ok (.iconst 4, 1) := dk_7 (dk_at dksX2_reduce512_9 3 rfl rfl)
theorem dX2_reduce512_212 : decode cX2_reduce512 212 = .ok (.ishl, 1) := dk_120 (dk_at dksX2_reduce512_9 4 rfl rfl)
theorem dX2_reduce512_213 : decode cX2_reduce512 213 = .ok (.i2l, 1) := dk_133 (dk_at dksX2_reduce512_9 5 rfl rfl)
theorem dX2_reduce512_214 : decode cX2_reduce512 214 = .ok (.ldc2_w 32, 3) := dk_20 0 32 (dk_at dksX2_reduce512_9 6 rfl rfl)
theorem dX2_reduce512_217 : decode cX2_reduce512 217 = .ok (.land, 1) := dk_127 (dk_at dksX2_reduce512_9 9 rfl rfl)
theorem dX2_reduce512_218 : decode cX2_reduce512 218 = .ok (.lstore 31, 2) := dk_55 31 (dk_at dksX2_reduce512_9 10 rfl rfl)
theorem dX2_reduce512_220 : decode cX2_reduce512 220 = .ok (.aload_n 0, 1) := dk_42 (dk_at dksX2_reduce512_9 12 rfl rfl)
theorem dX2_reduce512_221 : decode cX2_reduce512 221 = .ok (.bipush 56, 2) := dk_16 56 (dk_at dksX2_reduce512_9 13 rfl rfl)
theorem dX2_reduce512_223 : decode cX2_reduce512 223 = .ok (.invokestatic 29, 3) := dk_184 0 29 (dk_at dksX2_reduce512_9 15 rfl rfl)
theorem dX2_reduce512_226 : decode cX2_reduce512 226 = .ok (.i2l, 1) := dk_133 (dk_at dksX2_reduce512_9 18 rfl rfl)
theorem dX2_reduce512_227 : decode cX2_reduce512 227 = .ok (.ldc2_w 32, 3) := dk_20 0 32 (dk_at dksX2_reduce512_9 19 rfl rfl)
theorem dX2_reduce512_230 : decode cX2_reduce512 230 = .ok (.land, 1) := dk_127 (dk_at dksX2_reduce512_9 22 rfl rfl)
theorem dX2_reduce512_231 : decode cX2_reduce512 231 = .ok (.lstore 33, 2) := dk_55 33 (dk_at dksX2_reduce512_10 0 rfl rfl)
theorem dX2_reduce512_233 : decode cX2_reduce512 233 = .ok (.aload_n 0, 1) := dk_42 (dk_at dksX2_reduce512_10 2 rfl rfl)
theorem dX2_reduce512_234 : decode cX2_reduce512 234 = .ok (.bipush 60, 2) := dk_16 60 (dk_at dksX2_reduce512_10 3 rfl rfl)
theorem dX2_reduce512_236 : decode cX2_reduce512 236 = .ok (.invokestatic 34, 3) := dk_184 0 34 (dk_at dksX2_reduce512_10 5 rfl rfl)
theorem dX2_reduce512_239 : decode cX2_reduce512 239 = .ok (.iconst 4, 1) := dk_7 (dk_at dksX2_reduce512_10 8 rfl rfl)
theorem dX2_reduce512_240 : decode cX2_reduce512 240 = .ok (.ishl, 1) := dk_120 (dk_at dksX2_reduce512_10 9 rfl rfl)
theorem dX2_reduce512_241 : decode cX2_reduce512 241 = .ok (.i2l, 1) := dk_133 (dk_at dksX2_reduce512_10 10 rfl rfl)
theorem dX2_reduce512_242 : decode cX2_reduce512 242 = .ok (.ldc2_w 32, 3) := dk_20 0 32 (dk_at dksX2_reduce512_10 11 rfl rfl)
theorem dX2_reduce512_245 : decode cX2_reduce512 245 = .ok (.land, 1) := dk_127 (dk_at dksX2_reduce512_10 14 rfl rfl)
theorem dX2_reduce512_246 : decode cX2_reduce512 246 = .ok (.lstore 35, 2) := dk_55 35 (dk_at dksX2_reduce512_10 15 rfl rfl)
theorem dX2_reduce512_248 : decode cX2_reduce512 248 = .ok (.aload_n 0, 1) := dk_42 (dk_at dksX2_reduce512_10 17 rfl rfl)
theorem dX2_reduce512_249 : decode cX2_reduce512 249 = .ok (.bipush 63, 2) := dk_16 63 (dk_at dksX2_reduce512_10 18 rfl rfl)
theorem dX2_reduce512_251 : decode cX2_reduce512 251 = .ok (.baload, 1) := dk_51 (dk_at dksX2_reduce512_10 20 rfl rfl)
theorem dX2_reduce512_252 : decode cX2_reduce512 252 = .ok (.i2l, 1) := dk_133 (dk_at dksX2_reduce512_10 21 rfl rfl)
theorem dX2_reduce512_253 : decode cX2_reduce512 253 = .ok (.ldc2_w 60, 3) := dk_20 0 60 (dk_at dksX2_reduce512_11 0 rfl rfl)
theorem dX2_reduce512_256 : decode cX2_reduce512 256 = .ok (.land, 1) := dk_127 (dk_at dksX2_reduce512_11 3 rfl rfl)
theorem dX2_reduce512_257 : decode cX2_reduce512 257 = .ok (.lstore 37, 2) := dk_55 37 (dk_at dksX2_reduce512_11 4 rfl rfl)
theorem dX2_reduce512_259 : decode cX2_reduce512 259 = .ok (.lload 19, 2) := dk_22 19 (dk_at dksX2_reduce512_11 6 rfl rfl)
theorem dX2_reduce512_261 : decode cX2_reduce512 261 = .ok (.lload 37, 2) := dk_22 37 (dk_at dksX2_reduce512_11 8 rfl rfl)
theorem dX2_reduce512_263 : decode cX2_reduce512 263 = .ok (.ldc2_w 42, 3) := dk_20 0 42 (dk_at dksX2_reduce512_11 10 rfl rfl)
theorem dX2_reduce512_266 : decode cX2_reduce512 266 = .ok (.lmul, 1) := dk_105 (dk_at dksX2_reduce512_11 13 rfl rfl)
theorem dX2_reduce512_267 : decode cX2_reduce512 267 = .ok (.lsub, 1) := dk_101 (dk_at dksX2_reduce512_11 14 rfl rfl)
theorem dX2_reduce512_268 : decode cX2_reduce512 268 = .ok (.lstore 19, 2) := dk_55 19 (dk_at dksX2_reduce512_11 15 rfl rfl)
theorem dX2_reduce512_270 : decode cX2_reduce512 270 = .ok (.lload 21, 2) := dk_22 21 (dk_at dksX2_reduce512_11 17 rfl rfl)
theorem dX2_reduce512_272 : decode cX2_reduce512 272 = .ok (.lload 37, 2) := dk_22 37 (dk_at dksX2_reduce512_11 19 rfl rfl)
theorem dX2_reduce512_274 : decode cX2_reduce512 274 = .ok (.ldc2_w 44, 3) := dk_20 0 44 (dk_at dksX2_reduce512_11 21 rfl rfl)
theorem dX2_reduce512_277 : decode cX2_reduce512 277 = .ok (.lmul, 1) := dk_105 (dk_at dksX2_reduce512_12 0 rfl rfl)
theorem dX2_reduce512_278 : decode cX2_reduce512 278 = .ok (.lsub, 1) := dk_101 (dk_at dksX2_reduce512_12 1 rfl rfl)
theorem dX2_reduce512_279 : decode cX2_reduce512 279 = .ok (.lstore 21, 2) := dk_55 21 (dk_at dksX2_reduce512_12 2 rfl rfl)
theorem dX2_reduce512_281 : decode cX2_reduce512 281 = .ok (.lload 23, 2) := dk_22 23 (dk_at dksX2_reduce512_12 4 rfl rfl)
theorem dX2_reduce512_283 : decode cX2_reduce512 283 = .ok (.lload 37, 2) := dk_22 37 (dk_at dksX2_reduce512_12 6 rfl rfl)
theorem dX2_reduce512_285 : decode cX2_reduce512 285 = .ok (.ldc2_w 46, 3) := dk_20 0 46 (dk_at dksX2_reduce512_12 8 rfl rfl)
theorem dX2_reduce512_288 : decode cX2_reduce512 288 = .ok (.lmul, 1) := dk_105 (dk_at dksX2_reduce512_12 11 rfl rfl)
theorem dX2_reduce512_289 : decode cX2_reduce512 289 = .ok (.lsub, 1) := dk_101 (dk_at dksX2_reduce512_12 12 rfl rfl)
theorem dX2_reduce512_290 : decode cX2_reduce512 290 = .ok (.lstore 23, 2) := dk_55 23 (dk_at dksX2_reduce512_12 13 rfl rfl)
theorem dX2_reduce512_292 : decode cX2_reduce512 292 = .ok (.lload 25, 2) := dk_22 25 (dk_at dksX2_reduce512_12 15 rfl rfl)
theorem dX2_reduce512_294 : decode cX2_reduce512 294 = .ok (.lload 37, 2) := dk_22 37 (dk_at dksX2_reduce512_12 17 rfl rfl)
theorem dX2_reduce512_296 : decode cX2_reduce512 296 = .ok (.ldc2_w 48, 3) := dk_20 0 48 (dk_at dksX2_reduce512_12 19 rfl rfl)
theorem dX2_reduce512_299 : decode cX2_reduce512 299 = .ok (.lmul, 1) := dk_105 (dk_at dksX2_reduce512_12 22 rfl rfl)
theorem dX2_reduce512_300 : decode cX2_reduce512 300 = .ok (.lsub, 1) := dk_101 (dk_at dksX2_reduce512_12 23 rfl rfl)
theorem dX2_reduce512_301 : decode cX2_reduce512 301 = .ok (.lstore 25, 2) := dk_55 25 (dk_at dksX2_reduce512_13 0 rfl rfl)
theorem dX2_reduce512_303 : decode cX2_reduce512 303 = .ok (.lload 27, 2) := dk_22 27 (dk_at dksX2_reduce512_13 2 rfl rfl)
theorem dX2_reduce512_305 : decode cX2_reduce512 305 = .ok (.lload 37, 2) := dk_22 37 (dk_at dksX2_reduce512_13 4 rfl rfl)
theorem dX2_reduce512_307 : decode cX2_reduce512 307 = .ok (.ldc2_w 50, 3) := dk_20 0 50 (dk_at dksX2_reduce512_13 6 rfl rfl)
theorem dX2_reduce512_310 : decode cX2_reduce512 310 = .ok (.lmul, 1) := dk_105 (dk_at dksX2_reduce512_13 9 rfl rfl)
theorem dX2_reduce512_311 : decode cX2_reduce512 311 = .ok (.lsub, 1) := dk_101 (dk_at dksX2_reduce512_13 10 rfl rfl)
theorem dX2_reduce512_312 : decode cX2_reduce512 312 = .ok (.lstore 27, 2) := dk_55 27 (dk_at dksX2_reduce512_13 11 rfl rfl)
theorem dX2_reduce512_314 : decode cX2_reduce512 314 = .ok (.lload 35, 2) := dk_22 35 (dk_at dksX2_reduce512_13 13 rfl rfl)
theorem dX2_reduce512_316 : decode cX2_reduce512 316 = .ok (.lload 33, 2) := dk_22 33 (dk_at dksX2_reduce512_13 15 rfl rfl)
theorem dX2_reduce512_318 : decode cX2_reduce512 318 = .ok (.bipush 28, 2) := dk_16 28 (dk_at dksX2_reduce512_13 17 rfl rfl)
theorem dX2_reduce512_320 : decode cX2_reduce512 320 = .ok (.lshr, 1) := dk_123 (dk_at dksX2_reduce512_13 19 rfl rfl)
theorem dX2_reduce512_321 : decode cX2_reduce512 321 = .ok (.ladd, 1) := dk_97 (dk_at dksX2_reduce512_13 20 rfl rfl)
theorem dX2_reduce512_322 : decode cX2_reduce512 322 = .ok (.lstore 35, 2) := dk_55 35 (dk_at dksX2_reduce512_13 21 rfl rfl)
theorem dX2_reduce512_324 : decode cX2_reduce512 324 = .ok (.lload 33, 2) := dk_22 33 (dk_at dksX2_reduce512_14 0 rfl rfl)
theorem dX2_reduce512_326 : decode cX2_reduce512 326 = .ok (.ldc2_w 40, 3) := dk_20 0 40 (dk_at dksX2_reduce512_14 2 rfl rfl)
theorem dX2_reduce512_329 : decode cX2_reduce512 329 = .ok (.land, 1) := dk_127 (dk_at dksX2_reduce512_14 5 rfl rfl)
theorem dX2_reduce512_330 : decode cX2_reduce512 330 = .ok (.lstore 33, 2) := dk_55 33 (dk_at dksX2_reduce512_14 6 rfl rfl)
theorem dX2_reduce512_332 : decode cX2_reduce512 332 = .ok (.lload 17, 2) := dk_22 17 (dk_at dksX2_reduce512_14 8 rfl rfl)
theorem dX2_reduce512_334 : decode cX2_reduce512 334 = .ok (.lload 35, 2) := dk_22 35 (dk_at dksX2_reduce512_14 10 rfl rfl)
theorem dX2_reduce512_336 : decode cX2_reduce512 336 = .ok (.ldc2_w 42, 3) := dk_20 0 42 (dk_at dksX2_reduce512_14 12 rfl rfl)
theorem dX2_reduce512_339 : decode cX2_reduce512 339 = .ok (.lmul, 1) := dk_105 (dk_at dksX2_reduce512_14 15 rfl rfl)
theorem dX2_reduce512_340 : decode cX2_reduce512 340 = .ok (.lsub, 1) := dk_101 (dk_at dksX2_reduce512_14 16 rfl rfl)
theorem dX2_reduce512_341 : decode cX2_reduce512 341 = .ok (.lstore 17, 2) := dk_55 17 (dk_at dksX2_reduce512_14 17 rfl rfl)
theorem dX2_reduce512_343 : decode cX2_reduce512 343 = .ok (.lload 19, 2) := dk_22 19 (dk_at dksX2_reduce512_14 19 rfl rfl)
theorem dX2_reduce512_345 : decode cX2_reduce512 345 = .ok (.lload 35, 2) := dk_22 35 (dk_at dksX2_reduce512_14 21 rfl rfl)
theorem dX2_reduce512_347 : decode cX2_reduce512 347 = .ok (.ldc2_w 44, 3) := dk_20 0 44 (dk_at dksX2_reduce512_15 0 rfl rfl)
theorem dX2_reduce512_350 : decode cX2_reduce512 350 = .ok (.lmul, 1) := dk_105 (dk_at dksX2_reduce512_15 3 rfl rfl)
theorem dX2_reduce512_351 : decode cX2_reduce512 351 = .ok (.lsub, 1) := dk_101 (dk_at dksX2_reduce512_15 4 rfl rfl)
theorem dX2_reduce512_352 : decode cX2_reduce512 352 = .ok (.lstore 19, 2) := dk_55 19 (dk_at dksX2_reduce512_15 5 rfl rfl)
theorem dX2_reduce512_354 : decode cX2_reduce512 354 = .ok (.lload 21, 2) := dk_22 21 (dk_at dksX2_reduce512_15 7 rfl rfl)
theorem dX2_reduce512_356 : decode cX2_reduce512 356 = .ok (.lload 35, 2) := dk_22 35 (dk_at dksX2_reduce512_15 9 rfl rfl)
theorem dX2_reduce512_358 : decode cX2_reduce512 358 = .ok (.ldc2_w 46, 3) := dk_20 0 46 (dk_at dksX2_reduce512_15 11 rfl rfl)
theorem dX2_reduce512_361 : decode cX2_reduce512 361 = .ok (.lmul, 1) := dk_105 (dk_at dksX2_reduce512_15 14 rfl rfl)
theorem dX2_reduce512_362 : decode cX2_reduce512 362 = .ok (.lsub, 1) := dk_101 (dk_at dksX2_reduce512_15 15 rfl rfl)
theorem dX2_reduce512_363 : decode cX2_reduce512 363 = .ok (.lstore 21, 2) := dk_55 21 (dk_at dksX2_reduce512_15 16 rfl rfl)
theorem dX2_reduce512_365 : decode cX2_reduce512 365 = .ok (.lload 23, 2) := dk_22 23 (dk_at dksX2_reduce512_15 18 rfl rfl)
theorem dX2_reduce512_367 : decode cX2_reduce512 367 = .ok (.lload 35, 2) := dk_22 35 (dk_at dksX2_reduce512_15 20 rfl rfl)
theorem dX2_reduce512_369 : decode cX2_reduce512 369 = .ok (.ldc2_w 48, 3) := dk_20 0 48 (dk_at dksX2_reduce512_16 0 rfl rfl)
theorem dX2_reduce512_372 : decode cX2_reduce512 372 = .ok (.lmul, 1) := dk_105 (dk_at dksX2_reduce512_16 3 rfl rfl)
theorem dX2_reduce512_373 : decode cX2_reduce512 373 = .ok (.lsub, 1) := dk_101 (dk_at dksX2_reduce512_16 4 rfl rfl)
theorem dX2_reduce512_374 : decode cX2_reduce512 374 = .ok (.lstore 23, 2) := dk_55 23 (dk_at dksX2_reduce512_16 5 rfl rfl)
theorem dX2_reduce512_376 : decode cX2_reduce512 376 = .ok (.lload 25, 2) := dk_22 25 (dk_at dksX2_reduce512_16 7 rfl rfl)
theorem dX2_reduce512_378 : decode cX2_reduce512 378 = .ok (.lload 35, 2) := dk_22 35 (dk_at dksX2_reduce512_16 9 rfl rfl)
theorem dX2_reduce512_380 : decode cX2_reduce512 380 = .ok (.ldc2_w 50, 3) := dk_20 0 50 (dk_at dksX2_reduce512_16 11 rfl rfl)
theorem dX2_reduce512_383 : decode cX2_reduce512 383 = .ok (.lmul, 1) := dk_105 (dk_at dksX2_reduce512_16 14 rfl rfl)
theorem dX2_reduce512_384 : decode cX2_reduce512 384 = .ok (.lsub, 1) := dk_101 (dk_at dksX2_reduce512_16 15 rfl rfl)
theorem dX2_reduce512_385 : decode cX2_reduce512 385 = .ok (.lstore 25, 2) := dk_55 25 (dk_at dksX2_reduce512_16 16 rfl rfl)
theorem dX2_reduce512_387 : decode cX2_reduce512 387 = .ok (.lload 15, 2) := dk_22 15 (dk_at dksX2_reduce512_16 18 rfl rfl)
theorem dX2_reduce512_389 : decode cX2_reduce512 389 = .ok (.lload 33, 2) := dk_22 33 (dk_at dksX2_reduce512_16 20 rfl rfl)
theorem dX2_reduce512_391 : decode cX2_reduce512 391 = .ok (.ldc2_w 42, 3) := dk_20 0 42 (dk_at dksX2_reduce512_17 0 rfl rfl)
theorem dX2_reduce512_394 : decode cX2_reduce512 394 = .ok (.lmul, 1) := dk_105 (dk_at dksX2_reduce512_17 3 rfl rfl)
theorem dX2_reduce512_395 : decode cX2_reduce512 395 = .ok (.lsub, 1) := dk_101 (dk_at dksX2_reduce512_17 4 rfl rfl)
theorem dX2_reduce512_396 : decode cX2_reduce512 396 = .ok (.lstore 15, 2) := dk_55 15 (dk_at dksX2_reduce512_17 5 rfl rfl)
theorem dX2_reduce512_398 : decode cX2_reduce512 398 = .ok (.lload 17, 2) := dk_22 17 (dk_at dksX2_reduce512_17 7 rfl rfl)
theorem dX2_reduce512_400 : decode cX2_reduce512 400 = .ok (.lload 33, 2) := dk_22 33 (dk_at dksX2_reduce512_17 9 rfl rfl)
theorem dX2_reduce512_402 : decode cX2_reduce512 402 = .ok (.ldc2_w 44, 3) := dk_20 0 44 (dk_at dksX2_reduce512_17 11 rfl rfl)
theorem dX2_reduce512_405 : decode cX2_reduce512 405 = .ok (.lmul, 1) := dk_105 (dk_at dksX2_reduce512_17 14 rfl rfl)
theorem dX2_reduce512_406 : decode cX2_reduce512 406 = .ok (.lsub, 1) := dk_101 (dk_at dksX2_reduce512_17 15 rfl rfl)
theorem dX2_reduce512_407 : decode cX2_reduce512 407 = .ok (.lstore 17, 2) := dk_55 17 (dk_at dksX2_reduce512_17 16 rfl rfl)
theorem dX2_reduce512_409 : decode cX2_reduce512 409 = .ok (.lload 19, 2) := dk_22 19 (dk_at dksX2_reduce512_17 18 rfl rfl)
theorem dX2_reduce512_411 : decode cX2_reduce512 411 = .ok (.lload 33, 2) := dk_22 33 (dk_at dksX2_reduce512_17 20 rfl rfl)
theorem dX2_reduce512_413 : decode cX2_reduce512 413 = .ok (.ldc2_w 46, 3) := dk_20 0 46 (dk_at dksX2_reduce512_18 0 rfl rfl)
theorem dX2_reduce512_416 : decode cX2_reduce512 416 = .ok (.lmul, 1) := dk_105 (dk_at dksX2_reduce512_18 3 rfl rfl)
theorem dX2_reduce512_417 : decode cX2_reduce512 417 = .ok (.lsub, 1) := dk_101 (dk_at dksX2_reduce512_18 4 rfl rfl)
theorem dX2_reduce512_418 : decode cX2_reduce512 418 = .ok (.lstore 19, 2) := dk_55 19 (dk_at dksX2_reduce512_18 5 rfl rfl)
theorem dX2_reduce512_420 : decode cX2_reduce512 420 = .ok (.lload 21, 2) := dk_22 21 (dk_at dksX2_reduce512_18 7 rfl rfl)
theorem dX2_reduce512_422 : decode cX2_reduce512 422 = .ok (.lload 33, 2) := dk_22 33 (dk_at dksX2_reduce512_18 9 rfl rfl)
theorem dX2_reduce512_424 : decode cX2_reduce512 424 = .ok (.ldc2_w 48, 3) := dk_20 0 48 (dk_at dksX2_reduce512_18 11 rfl rfl)
theorem dX2_reduce512_427 : decode cX2_reduce512 427 = .ok (.lmul, 1) := dk_105 (dk_at dksX2_reduce512_18 14 rfl rfl)
theorem dX2_reduce512_428 : decode cX2_reduce512 428 = .ok (.lsub, 1) := dk_101 (dk_at dksX2_reduce512_18 15 rfl rfl)
theorem dX2_reduce512_429 : decode cX2_reduce512 429 = .ok (.lstore 21, 2) := dk_55 21 (dk_at dksX2_reduce512_18 16 rfl rfl)
theorem dX2_reduce512_431 : decode cX2_reduce512 431 = .ok (.lload 23, 2) := dk_22 23 (dk_at dksX2_reduce512_18 18 rfl rfl)
theorem dX2_reduce512_433 : decode cX2_reduce512 433 = .ok (.lload 33, 2) := dk_22 33 (dk_at dksX2_reduce512_18 20 rfl rfl)
theorem dX2_reduce512_435 : decode cX2_reduce512 435 = .ok (.ldc2_w 50, 3) := dk_20 0 50 (dk_at dksX2_reduce512_19 0 rfl rfl)
theorem dX2_reduce512_438 : decode cX2_reduce512 438 = .ok (.lmul, 1) := dk_105 (dk_at dksX2_reduce512_19 3 rfl rfl)
theorem dX2_reduce512_439 : decode cX2_reduce512 439 = .ok (.lsub, 1) := dk_101 (dk_at dksX2_reduce512_19 4 rfl rfl)
theorem dX2_reduce512_440 : decode cX2_reduce512 440 = .ok (.lstore 23, 2) := dk_55 23 (dk_at dksX2_reduce512_19 5 rfl rfl)
theorem dX2_reduce512_442 : decode cX2_reduce512 442 = .ok (.lload 31, 2) := dk_22 31 (dk_at dksX2_reduce512_19 7 rfl rfl)
theorem dX2_reduce512_444 : decode cX2_reduce512 444 = .ok (.lload 29, 2) := dk_22 29 (dk_at dksX2_reduce512_19 9 rfl rfl)
theorem dX2_reduce512_446 : decode cX2_reduce512 446 = .ok (.bipush 28, 2) := dk_16 28 (dk_at dksX2_reduce512_19 11 rfl rfl)
theorem dX2_reduce512_448 : decode cX2_reduce512 448 = .ok (.lshr, 1) := dk_123 (dk_at dksX2_reduce512_19 13 rfl rfl)
theorem dX2_reduce512_449 : decode cX2_reduce512 449 = .ok (.ladd, 1) := dk_97 (dk_at dksX2_reduce512_19 14 rfl rfl)
theorem dX2_reduce512_450 : decode cX2_reduce512 450 = .ok (.lstore 31, 2) := dk_55 31 (dk_at dksX2_reduce512_19 15 rfl rfl)
theorem dX2_reduce512_452 : decode cX2_reduce512 452 = .ok (.lload 29, 2) := dk_22 29 (dk_at dksX2_reduce512_19 17 rfl rfl)
theorem dX2_reduce512_454 : decode cX2_reduce512 454 = .ok (.ldc2_w 40, 3) := dk_20 0 40 (dk_at dksX2_reduce512_19 19 rfl rfl)
theorem dX2_reduce512_457 : decode cX2_reduce512 457 = .ok (.land, 1) := dk_127 (dk_at dksX2_reduce512_19 22 rfl rfl)
theorem dX2_reduce512_458 : decode cX2_reduce512 458 = .ok (.lstore 29, 2) := dk_55 29 (dk_at dksX2_reduce512_20 0 rfl rfl)
theorem dX2_reduce512_460 : decode cX2_reduce512 460 = .ok (.lload 13, 2) := dk_22 13 (dk_at dksX2_reduce512_20 2 rfl rfl)
theorem dX2_reduce512_462 : decode cX2_reduce512 462 = .ok (.lload 31, 2) := dk_22 31 (dk_at dksX2_reduce512_20 4 rfl rfl)
theorem dX2_reduce512_464 : decode cX2_reduce512 464 = .ok (.ldc2_w 42, 3) := dk_20 0 42 (dk_at dksX2_reduce512_20 6 rfl rfl)
theorem dX2_reduce512_467 : decode cX2_reduce512 467 = .ok (.lmul, 1) := dk_105 (dk_at dksX2_reduce512_20 9 rfl rfl)
theorem dX2_reduce512_468 : decode cX2_reduce512 468 = .ok (.lsub, 1) := dk_101 (dk_at dksX2_reduce512_20 10 rfl rfl)
theorem dX2_reduce512_469 : decode cX2_reduce512 469 = .ok (.lstore 13, 2) := dk_55 13 (dk_at dksX2_reduce512_20 11 rfl rfl)
theorem dX2_reduce512_471 : decode cX2_reduce512 471 = .ok (.lload 15, 2) := dk_22 15 (dk_at dksX2_reduce512_20 13 rfl rfl)
theorem dX2_reduce512_473 : decode cX2_reduce512 473 = .ok (.lload 31, 2) := dk_22 31 (dk_at dksX2_reduce512_20 15 rfl rfl)
theorem dX2_reduce512_475 : decode cX2_reduce512 475 = .ok (.ldc2_w 44, 3) := dk_20 0 44 (dk_at dksX2_reduce512_20 17 rfl rfl)
theorem dX2_reduce512_478 : decode cX2_reduce512 478 = .ok (.lmul, 1) := dk_105 (dk_at dksX2_reduce512_20 20 rfl rfl)
theorem dX2_reduce512_479 : decode cX2_reduce512 479 = .ok (.lsub, 1) := dk_101 (dk_at dksX2_reduce512_20 21 rfl rfl)
theorem dX2_reduce512_480 : decode cX2_reduce512 480 = .ok (.lstore 15, 2) := dk_55 15 (dk_at dksX2_reduce512_20 22 rfl rfl)
theorem dX2_reduce512_482 : decode cX2_reduce512 482 = .ok (.lload 17, 2) := dk_22 17 (dk_at dksX2_reduce512_21 0 rfl rfl)
theorem dX2_reduce512_484 : decode cX2_reduce512 484 = .ok (.lload 31, 2) := dk_22 31 (dk_at dksX2_reduce512_21 2 rfl rfl)
theorem dX2_reduce512_486 : decode cX2_reduce512 486 = .ok (.ldc2_w 46, 3) := dk_20 0 46 (dk_at dksX2_reduce512_21 4 rfl rfl)
theorem dX2_reduce512_489 : decode cX2_reduce512 489 = .ok (.lmul, 1) := dk_105 (dk_at dksX2_reduce512_21 7 rfl rfl)
theorem dX2_reduce512_490 : decode cX2_reduce512 490 = .ok (.lsub, 1) := dk_101 (dk_at dksX2_reduce512_21 8 rfl rfl)
theorem dX2_reduce512_491 : decode cX2_reduce512 491 = .ok (.lstore 17, 2) := dk_55 17 (dk_at dksX2_reduce512_21 9 rfl rfl)
theorem dX2_reduce512_493 : decode cX2_reduce512 493 = .ok (.lload 19, 2) := dk_22 19 (dk_at dksX2_reduce512_21 11 rfl rfl)
theorem dX2_reduce512_495 : decode cX2_reduce512 495 = .ok (.lload 31, 2) := dk_22 31 (dk_at dksX2_reduce512_21 13 rfl rfl)
theorem dX2_reduce512_497 : decode cX2_reduce512 497 = .ok (.ldc2_w 48, 3) := dk_20 0 48 (dk_at dksX2_reduce512_21 15 rfl rfl)
theorem dX2_reduce512_500 : decode cX2_reduce512 500 = .ok (.lmul, 1) := dk_105 (dk_at dksX2_reduce512_21 18 rfl rfl)
theorem dX2_reduce512_501 : decode cX2_reduce512 501 = .ok (.lsub, 1) := dk_101 (dk_at dksX2_reduce512_21 19 rfl rfl)
theorem dX2_reduce512_502 : decode cX2_reduce512 502 = .ok (.lstore 19, 2) := dk_55 19 (dk_at dksX2_reduce512_21 20 rfl rfl)
theorem dX2_reduce512_504 : decode cX2_reduce512 504 = .ok (.lload 21, 2) := dk_22 21 (dk_at dksX2_reduce512_21 22 rfl rfl)
theorem dX2_reduce512_506 : decode cX2_reduce512 506 = .ok (.lload 31, 2) := dk_22 31 (dk_at dksX2_reduce512_22 0 rfl rfl)
theorem dX2_reduce512_508 : decode cX2_reduce512 508 = .ok (.ldc2_w 50, 3) := dk_20 0 50 (dk_at dksX2_reduce512_22 2 rfl rfl)
theorem dX2_reduce512_511 : decode cX2_reduce512 511 = .ok (.lmul, 1) := dk_105 (dk_at dksX2_reduce512_22 5 rfl rfl)
theorem dX2_reduce512_512 : decode cX2_reduce512 512 = .ok (.lsub, 1) := dk_101 (dk_at dksX2_reduce512_22 6 rfl rfl)
theorem dX2_reduce512_513 : decode cX2_reduce512 513 = .ok (.lstore 21, 2) := dk_55 21 (dk_at dksX2_reduce512_22 7 rfl rfl)
theorem dX2_reduce512_515 : decode cX2_reduce512 515 = .ok (.lload 11, 2) := dk_22 11 (dk_at dksX2_reduce512_22 9 rfl rfl)
theorem dX2_reduce512_517 : decode cX2_reduce512 517 = .ok (.lload 29, 2) := dk_22 29 (dk_at dksX2_reduce512_22 11 rfl rfl)
theorem dX2_reduce512_519 : decode cX2_reduce512 519 = .ok (.ldc2_w 42, 3) := dk_20 0 42 (dk_at dksX2_reduce512_22 13 rfl rfl)
theorem dX2_reduce512_522 : decode cX2_reduce512 522 = .ok (.lmul, 1) := dk_105 (dk_at dksX2_reduce512_22 16 rfl rfl)
theorem dX2_reduce512_523 : decode cX2_reduce512 523 = .ok (.lsub, 1) := dk_101 (dk_at dksX2_reduce512_22 17 rfl rfl)
theorem dX2_reduce512_524 : decode cX2_reduce512 524 = .ok (.lstore 11, 2) := dk_55 11 (dk_at dksX2_reduce512_22 18 rfl rfl)
theorem dX2_reduce512_526 : decode cX2_reduce512 526 = .ok (.lload 13, 2) := dk_22 13 (dk_at dksX2_reduce512_22 20 rfl rfl)
theorem dX2_reduce512_528 : decode cX2_reduce512 528 = .ok (.lload 29, 2) := dk_22 29 (dk_at dksX2_reduce512_22 22 rfl rfl)
theorem dX2_reduce512_530 : decode cX2_reduce512 530 = .ok (.ldc2_w 44, 3) := dk_20 0 44 (dk_at dksX2_reduce512_23 0 rfl rfl)
theorem dX2_reduce512_533 : decode cX2_reduce512 533 = .ok (.lmul, 1) := dk_105 (dk_at dksX2_reduce512_23 3 rfl rfl)
theorem dX2_reduce512_534 : decode cX2_reduce512 534 = .ok (.lsub, 1) := dk_101 (dk_at dksX2_reduce512_23 4 rfl rfl)
theorem dX2_reduce512_535 : decode cX2_reduce512 535 = .ok (.lstore 13, 2) := dk_55 13 (dk_at dksX2_reduce512_23 5 rfl rfl)
theorem dX2_reduce512_537 : decode cX2_reduce512 537 = .ok (.lload 15, 2) := dk_22 15 (dk_at dksX2_reduce512_23 7 rfl rfl)
theorem dX2_reduce512_539 : decode cX2_reduce512 539 = .ok (.lload 29, 2) := dk_22 29 (dk_at dksX2_reduce512_23 9 rfl rfl)
theorem dX2_reduce512_541 : decode cX2_reduce512 541 = .ok (.ldc2_w 46, 3) := dk_20 0 46 (dk_at dksX2_reduce512_23 11 rfl rfl)
theorem dX2_reduce512_544 : decode cX2_reduce512 544 = .ok (.lmul, 1) := dk_105 (dk_at dksX2_reduce512_23 14 rfl rfl)
theorem dX2_reduce512_545 : decode cX2_reduce512 545 = .ok (.lsub, 1) := dk_101 (dk_at dksX2_reduce512_23 15 rfl rfl)
theorem dX2_reduce512_546 : decode cX2_reduce512 546 = .ok (.lstore 15, 2) := dk_55 15 (dk_at dksX2_reduce512_23 16 rfl rfl)
theorem dX2_reduce512_548 : decode cX2_reduce512 548 = .ok (.lload 17, 2) := dk_22 17 (dk_at dksX2_reduce512_23 18 rfl rfl)
theorem dX2_reduce512_550 : decode cX2_reduce512 550 = .ok (.lload 29, 2) := dk_22 29 (dk_at dksX2_reduce512_23 20 rfl rfl)
theorem dX2_reduce512_552 : decode cX2_reduce512 552 = .ok (.ldc2_w 48, 3) := dk_20 0 48 (dk_at dksX2_reduce512_24 0 rfl rfl)
theorem dX2_reduce512_555 : decode cX2_reduce512 555 = .ok (.lmul, 1) := dk_105 (dk_at dksX2_reduce512_24 3 rfl rfl)
theorem dX2_reduce512_556 : decode cX2_reduce512 556 = .ok (.lsub, 1) := dk_101 (dk_at dksX2_reduce512_24 4 rfl rfl)
theorem dX2_reduce512_557 : decode cX2_reduce512 557 = .ok (.lstore 17, 2) := dk_55 17 (dk_at dksX2_reduce512_24 5 rfl rfl)
theorem dX2_reduce512_559 : decode cX2_reduce512 559 = .ok (.lload 19, 2) := dk_22 19 (dk_at dksX2_reduce512_24 7 rfl rfl)
theorem dX2_reduce512_561 : decode cX2_reduce512 561 = .ok (.lload 29, 2) := dk_22 29 (dk_at dksX2_reduce512_24 9 rfl rfl)
theorem dX2_reduce512_563 : decode cX2_reduce512 563 = .ok (.ldc2_w 50, 3) := dk_20 0 50 (dk_at dksX2_reduce512_24 11 rfl rfl)
theorem dX2_reduce512_566 : decode cX2_reduce512 566 = .ok (.lmul, 1) := dk_105 (dk_at dksX2_reduce512_24 14 rfl rfl)
theorem dX2_reduce512_567 : decode cX2_reduce512 567 = .ok (.lsub, 1) := dk_101 (dk_at dksX2_reduce512_24 15 rfl rfl)
theorem dX2_reduce512_568 : decode cX2_reduce512 568 = .ok (.lstore 19, 2) := dk_55 19 (dk_at dksX2_reduce512_24 16 rfl rfl)
theorem dX2_reduce512_570 : decode cX2_reduce512 570 = .ok (.lload 27, 2) := dk_22 27 (dk_at dksX2_reduce512_24 18 rfl rfl)
theorem dX2_reduce512_572 : decode cX2_reduce512 572 = .ok (.lload 25, 2) := dk_22 25 (dk_at dksX2_reduce512_24 20 rfl rfl)
theorem dX2_reduce512_574 : decode cX2_reduce512 574 = .ok (.bipush 28, 2) := dk_16 28 (dk_at dksX2_reduce512_24 22 rfl rfl)
theorem dX2_reduce512_576 : decode cX2_reduce512 576 = .ok (.lshr, 1) := dk_123 (dk_at dksX2_reduce512_25 0 rfl rfl)
theorem dX2_reduce512_577 : decode cX2_reduce512 577 = .ok (.ladd, 1) := dk_97 (dk_at dksX2_reduce512_25 1 rfl rfl)
theorem dX2_reduce512_578 : decode cX2_reduce512 578 = .ok (.lstore 27, 2) := dk_55 27 (dk_at dksX2_reduce512_25 2 rfl rfl)
theorem dX2_reduce512_580 : decode cX2_reduce512 580 = .ok (.lload 25, 2) := dk_22 25 (dk_at dksX2_reduce512_25 4 rfl rfl)
theorem dX2_reduce512_582 : decode cX2_reduce512 582 = .ok (.ldc2_w 40, 3) := dk_20 0 40 (dk_at dksX2_reduce512_25 6 rfl rfl)
theorem dX2_reduce512_585 : decode cX2_reduce512 585 = .ok (.land, 1) := dk_127 (dk_at dksX2_reduce512_25 9 rfl rfl)
theorem dX2_reduce512_586 : decode cX2_reduce512 586 = .ok (.lstore 25, 2) := dk_55 25 (dk_at dksX2_reduce512_25 10 rfl rfl)
theorem dX2_reduce512_588 : decode cX2_reduce512 588 = .ok (.lload 9, 2) := dk_22 9 (dk_at dksX2_reduce512_25 12 rfl rfl)
theorem dX2_reduce512_590 : decode cX2_reduce512 590 = .ok (.lload 27, 2) := dk_22 27 (dk_at dksX2_reduce512_25 14 rfl rfl)
theorem dX2_reduce512_592 : decode cX2_reduce512 592 = .ok (.ldc2_w 42, 3) := dk_20 0 42 (dk_at dksX2_reduce512_25 16 rfl rfl)
theorem dX2_reduce512_595 : decode cX2_reduce512 595 = .ok (.lmul, 1) := dk_105 (dk_at dksX2_reduce512_25 19 rfl rfl)
theorem dX2_reduce512_596 : decode cX2_reduce512 596 = .ok (.lsub, 1) := dk_101 (dk_at dksX2_reduce512_25 20 rfl rfl)
theorem dX2_reduce512_597 : decode cX2_reduce512 597 = .ok (.lstore 9, 2) := dk_55 9 (dk_at dksX2_reduce512_25 21 rfl rfl)
theorem dX2_reduce512_599 : decode cX2_reduce512 599 = .ok (.lload 11, 2) := dk_22 11 (dk_at dksX2_reduce512_26 0 rfl rfl)
theorem dX2_reduce512_601 : decode cX2_reduce512 601 = .ok (.lload 27, 2) := dk_22 27 (dk_at dksX2_reduce512_26 2 rfl rfl)
theorem dX2_reduce512_603 : decode cX2_reduce512 603 = .ok (.ldc2_w 44, 3) := dk_20 0 44 (dk_at dksX2_reduce512_26 4 rfl rfl)
theorem dX2_reduce512_606 : decode cX2_reduce512 606 = .ok (.lmul, 1) := dk_105 (dk_at dksX2_reduce512_26 7 rfl rfl)
theorem dX2_reduce512_607 : decode cX2_reduce512 607 = .ok (.lsub, 1) := dk_101 (dk_at dksX2_reduce512_26 8 rfl rfl)
theorem dX2_reduce512_608 : decode cX2_reduce512 608 = .ok (.lstore 11, 2) := dk_55 11 (dk_at dksX2_reduce512_26 9 rfl rfl)
theorem dX2_reduce512_610 : decode cX2_reduce512 610 = .ok (.lload 13, 2) := dk_22 13 (dk_at dksX2_reduce512_26 11 rfl rfl)
theorem dX2_reduce512_612 : decode cX2_reduce512 612 = .ok (.lload 27, 2) := dk_22 27 (dk_at dksX2_reduce512_26 13 rfl rfl)
theorem dX2_reduce512_614 : decode cX2_reduce512 614 = .ok (.ldc2_w 46, 3) := dk_20 0 46 (dk_at dksX2_reduce512_26 15 rfl rfl)
theorem dX2_reduce512_617 : decode cX2_reduce512 617 = .ok (.lmul, 1) := dk_105 (dk_at dksX2_reduce512_26 18 rfl rfl)
theorem dX2_reduce512_618 : decode cX2_reduce512 618 = .ok (.lsub, 1) := dk_101 (dk_at dksX2_reduce512_26 19 rfl rfl)
theorem dX2_reduce512_619 : decode cX2_reduce512 619 = .ok (.lstore 13, 2) := dk_55 13 (dk_at dksX2_reduce512_26 20 rfl rfl)
theorem dX2_reduce512_621 : decode cX2_reduce512 621 = .ok (.lload 15, 2) := dk_22 15 (dk_at dksX2_reduce512_26 22 rfl rfl)
theorem dX2_reduce512_623 : decode cX2_reduce512 623 = .ok (.lload 27, 2) := dk_22 27 (dk_at dksX2_reduce512_27 0 rfl rfl)
theorem dX2_reduce512_625 : decode cX2_reduce512 625 = .ok (.ldc2_w 48, 3) := dk_20 0 48 (dk_at dksX2_reduce512_27 2 rfl rfl)
theorem dX2_reduce512_628 : decode cX2_reduce512 628 = .ok (.lmul, 1) := dk_105 (dk_at dksX2_reduce512_27 5 rfl rfl)
theorem dX2_reduce512_629 : decode cX2_reduce512 629 = .ok (.lsub, 1) := dk_101 (dk_at dksX2_reduce512_27 6 rfl rfl)
theorem dX2_reduce512_630 : decode cX2_reduce512 630 = .ok (.lstore 15, 2) := dk_55 15 (dk_at dksX2_reduce512_27 7 rfl rfl)
theorem dX2_reduce512_632 : decode cX2_reduce512 632 = .ok (.lload 17, 2) := dk_22 17 (dk_at dksX2_reduce512_27 9 rfl rfl)
theorem dX2_reduce512_634 : decode cX2_reduce512 634 = .ok (.lload 27, 2) := dk_22 27 (dk_at dksX2_reduce512_27 11 rfl rfl)
theorem dX2_reduce512_636 : decode cX2_reduce512 636 = .ok (.ldc2_w 50, 3) := dk_20 0 50 (dk_at dksX2_reduce512_27 13 rfl rfl)
theorem dX2_reduce512_639 : decode cX2_reduce512 639 = .ok (.lmul, 1) := dk_105 (dk_at dksX2_reduce512_27 16 rfl rfl)
theorem dX2_reduce512_640 : decode cX2_reduce512 640 = .ok (.lsub, 1) := dk_101 (dk_at dksX2_reduce512_27 17 rfl rfl)
theorem dX2_reduce512_641 : decode cX2_reduce512 641 = .ok (.lstore 17, 2) := dk_55 17 (dk_at dksX2_reduce512_27 18 rfl rfl)
theorem dX2_reduce512_643 : decode cX2_reduce512 643 = .ok (.lload 25, 2) := dk_22 25 (dk_at dksX2_reduce512_27 20 rfl rfl)
theorem dX2_reduce512_645 : decode cX2_reduce512 645 = .ok (.lload 23, 2) := dk_22 23 (dk_at dksX2_reduce512_27 22 rfl rfl)
theorem dX2_reduce512_647 : decode cX2_reduce512 647 = .ok (.bipush 28, 2) := dk_16 28 (dk_at dksX2_reduce512_28 0 rfl rfl)
theorem dX2_reduce512_649 : decode cX2_reduce512 649 = .ok (.lshr, 1) := dk_123 (dk_at dksX2_reduce512_28 2 rfl rfl)
theorem dX2_reduce512_650 : decode cX2_reduce512 650 = .ok (.ladd, 1) := dk_97 (dk_at dksX2_reduce512_28 3 rfl rfl)
theorem dX2_reduce512_651 : decode cX2_reduce512 651 = .ok (.lstore 25, 2) := dk_55 25 (dk_at dksX2_reduce512_28 4 rfl rfl)
theorem dX2_reduce512_653 : decode cX2_reduce512 653 = .ok (.lload 23, 2) := dk_22 23 (dk_at dksX2_reduce512_28 6 rfl rfl)
theorem dX2_reduce512_655 : decode cX2_reduce512 655 = .ok (.ldc2_w 40, 3) := dk_20 0 40 (dk_at dksX2_reduce512_28 8 rfl rfl)
theorem dX2_reduce512_658 : decode cX2_reduce512 658 = .ok (.land, 1) := dk_127 (dk_at dksX2_reduce512_28 11 rfl rfl)
theorem dX2_reduce512_659 : decode cX2_reduce512 659 = .ok (.lstore 23, 2) := dk_55 23 (dk_at dksX2_reduce512_28 12 rfl rfl)
theorem dX2_reduce512_661 : decode cX2_reduce512 661 = .ok (.lload 7, 2) := dk_22 7 (dk_at dksX2_reduce512_28 14 rfl rfl)
theorem dX2_reduce512_663 : decode cX2_reduce512 663 = .ok (.lload 25, 2) := dk_22 25 (dk_at dksX2_reduce512_28 16 rfl rfl)
theorem dX2_reduce512_665 : decode cX2_reduce512 665 = .ok (.ldc2_w 42, 3) := dk_20 0 42 (dk_at dksX2_reduce512_28 18 rfl rfl)
theorem dX2_reduce512_668 : decode cX2_reduce512 668 = .ok (.lmul, 1) := dk_105 (dk_at dksX2_reduce512_28 21 rfl rfl)
theorem dX2_reduce512_669 : decode cX2_reduce512 669 = .ok (.lsub, 1) := dk_101 (dk_at dksX2_reduce512_28 22 rfl rfl)
theorem dX2_reduce512_670 : decode cX2_reduce512 670 = .ok (.lstore 7, 2) := dk_55 7 (dk_at dksX2_reduce512_29 0 rfl rfl)
theorem dX2_reduce512_672 : decode cX2_reduce512 672 = .ok (.lload 9, 2) := dk_22 9 (dk_at dksX2_reduce512_29 2 rfl rfl)
theorem dX2_reduce512_674 : decode cX2_reduce512 674 = .ok (.lload 25, 2) := dk_22 25 (dk_at dksX2_reduce512_29 4 rfl rfl)
theorem dX2_reduce512_676 : decode cX2_reduce512 676 = .ok (.ldc2_w 44, 3) := dk_20 0 44 (dk_at dksX2_reduce512_29 6 rfl rfl)
theorem dX2_reduce512_679 : decode cX2_reduce512 679 = .ok (.lmul, 1) := dk_105 (dk_at dksX2_reduce512_29 9 rfl rfl)
theorem dX2_reduce512_680 : decode cX2_reduce512 680 = .ok (.lsub, 1) := dk_101 (dk_at dksX2_reduce512_29 10 rfl rfl)
theorem dX2_reduce512_681 : decode cX2_reduce512 681 = .ok (.lstore 9, 2) := dk_55 9 (dk_at dksX2_reduce512_29 11 rfl rfl)
theorem dX2_reduce512_683 : decode cX2_reduce512 683 = .ok (.lload 11, 2) := dk_22 11 (dk_at dksX2_reduce512_29 13 rfl rfl)
theorem dX2_reduce512_685 : decode cX2_reduce512 685 = .ok (.lload 25, 2) := dk_22 25 (dk_at dksX2_reduce512_29 15 rfl rfl)
theorem dX2_reduce512_687 : decode cX2_reduce512 687 = .ok (.ldc2_w 46, 3) := dk_20 0 46 (dk_at dksX2_reduce512_29 17 rfl rfl)
theorem dX2_reduce512_690 : decode cX2_reduce512 690 = .ok (.lmul, 1) := dk_105 (dk_at dksX2_reduce512_29 20 rfl rfl)
theorem dX2_reduce512_691 : decode cX2_reduce512 691 = .ok (.lsub, 1) := dk_101 (dk_at dksX2_reduce512_29 21 rfl rfl)
theorem dX2_reduce512_692 : decode cX2_reduce512 692 = .ok (.lstore 11, 2) := dk_55 11 (dk_at dksX2_reduce512_29 22 rfl rfl)
theorem dX2_reduce512_694 : decode cX2_reduce512 694 = .ok (.lload 13, 2) := dk_22 13 (dk_at dksX2_reduce512_30 0 rfl rfl)
theorem dX2_reduce512_696 : decode cX2_reduce512 696 = .ok (.lload 25, 2) := dk_22 25 (dk_at dksX2_reduce512_30 2 rfl rfl)
theorem dX2_reduce512_698 : decode cX2_reduce512 698 = .ok (.ldc2_w 48, 3) := dk_20 0 48 (dk_at dksX2_reduce512_30 4 rfl rfl)
theorem dX2_reduce512_701 : decode cX2_reduce512 701 = .ok (.lmul, 1) := dk_105 (dk_at dksX2_reduce512_30 7 rfl rfl)
theorem dX2_reduce512_702 : decode cX2_reduce512 702 = .ok (.lsub, 1) := dk_101 (dk_at dksX2_reduce512_30 8 rfl rfl)
theorem dX2_reduce512_703 : decode cX2_reduce512 703 = .ok (.lstore 13, 2) := dk_55 13 (dk_at dksX2_reduce512_30 9 rfl rfl)
theorem dX2_reduce512_705 : decode cX2_reduce512 705 = .ok (.lload 15, 2) := dk_22 15 (dk_at dksX2_reduce512_30 11 rfl rfl)
theorem dX2_reduce512_707 : decode cX2_reduce512 707 = .ok (.lload 25, 2) := dk_22 25 (dk_at dksX2_reduce512_30 13 rfl rfl)
theorem dX2_reduce512_709 : decode cX2_reduce512 709 = .ok (.ldc2_w 50, 3) := dk_20 0 50 (dk_at dksX2_reduce512_30 15 rfl rfl)
theorem dX2_reduce512_712 : decode cX2_reduce512 712 = .ok (.lmul, 1) := dk_105 (dk_at dksX2_reduce512_30 18 rfl rfl)
theorem dX2_reduce512_713 : decode cX2_reduce512 713 = .ok (.lsub, 1) := dk_101 (dk_at dksX2_reduce512_30 19 rfl rfl)
theorem dX2_reduce512_714 : decode cX2_reduce512 714 = .ok (.lstore 15, 2) := dk_55 15 (dk_at dksX2_reduce512_30 20 rfl rfl)
theorem dX2_reduce512_716 : decode cX2_reduce512 716 = .ok (.lload 23, 2) := dk_22 23 (dk_at dksX2_reduce512_30 22 rfl rfl)
theorem dX2_reduce512_718 : decode cX2_reduce512 718 = .ok (.lload 21, 2) := dk_22 21 (dk_at dksX2_reduce512_31 0 rfl rfl)
theorem dX2_reduce512_720 : decode cX2_reduce512 720 = .ok (.bipush 28, 2) := dk_16 28 (dk_at dksX2_reduce512_31 2 rfl rfl)
theorem dX2_reduce512_722 : decode cX2_reduce512 722 = .ok (.lshr, 1) := dk_123 (dk_at dksX2_reduce512_31 4 rfl rfl)
theorem dX2_reduce512_723 : decode cX2_reduce512 723 = .ok (.ladd, 1) := dk_97 (dk_at dksX2_reduce512_31 5 rfl rfl)
theorem dX2_reduce512_724 : decode cX2_reduce512 724 = .ok (.lstore 23, 2) := dk_55 23 (dk_at dksX2_reduce512_31 6 rfl rfl)
theorem dX2_reduce512_726 : decode cX2_reduce512 726 = .ok (.lload 21, 2) := dk_22 21 (dk_at dksX2_reduce512_31 8 rfl rfl)
theorem dX2_reduce512_728 : decode cX2_reduce512 728 = .ok (.ldc2_w 40, 3) := dk_20 0 40 (dk_at dksX2_reduce512_31 10 rfl rfl)
theorem dX2_reduce512_731 : decode cX2_reduce512 731 = .ok (.land, 1) := dk_127 (dk_at dksX2_reduce512_31 13 rfl rfl)
theorem dX2_reduce512_732 : decode cX2_reduce512 732 = .ok (.lstore 21, 2) := dk_55 21 (dk_at dksX2_reduce512_31 14 rfl rfl)
theorem dX2_reduce512_734 : decode cX2_reduce512 734 = .ok (.lload 5, 2) := dk_22 5 (dk_at dksX2_reduce512_31 16 rfl rfl)
theorem dX2_reduce512_736 : decode cX2_reduce512 736 = .ok (.lload 23, 2) := dk_22 23 (dk_at dksX2_reduce512_31 18 rfl rfl)
theorem dX2_reduce512_738 : decode cX2_reduce512 738 = .ok (.ldc2_w 42, 3) := dk_20 0 42 (dk_at dksX2_reduce512_31 20 rfl rfl)
theorem dX2_reduce512_741 : decode cX2_reduce512 741 = .ok (.lmul, 1) := dk_105 (dk_at dksX2_reduce512_31 23 rfl rfl)
theorem dX2_reduce512_742 : decode cX2_reduce512 742 = .ok (.lsub, 1) := dk_101 (dk_at dksX2_reduce512_32 0 rfl rfl)
theorem dX2_reduce512_743 : decode cX2_reduce512 743 = .ok (.lstore 5, 2) := dk_55 5 (dk_at dksX2_reduce512_32 1 rfl rfl)
theorem dX2_reduce512_745 : decode cX2_reduce512 745 = .ok (.lload 7, 2) := dk_22 7 (dk_at dksX2_reduce512_32 3 rfl rfl)
theorem dX2_reduce512_747 : decode cX2_reduce512 747 = .ok (.lload 23, 2) := dk_22 23 (dk_at dksX2_reduce512_32 5 rfl rfl)
theorem dX2_reduce512_749 : decode cX2_reduce512 749 = .ok (.ldc2_w 44, 3) := dk_20 0 44 (dk_at dksX2_reduce512_32 7 rfl rfl)
theorem dX2_reduce512_752 : decode cX2_reduce512 752 = .ok (.lmul, 1) := dk_105 (dk_at dksX2_reduce512_32 10 rfl rfl)
theorem dX2_reduce512_753 : decode cX2_reduce512 753 = .ok (.lsub, 1) := dk_101 (dk_at dksX2_reduce512_32 11 rfl rfl)
theorem dX2_reduce512_754 : decode cX2_reduce512 754 = .ok (.lstore 7, 2) := dk_55 7 (dk_at dksX2_reduce512_32 12 rfl rfl)
theorem dX2_reduce512_756 : decode cX2_reduce512 756 = .ok (.lload 9, 2) := dk_22 9 (dk_at dksX2_reduce512_32 14 rfl rfl)
theorem dX2_reduce512_758 : decode cX2_reduce512 758 = .ok (.lload 23, 2) := dk_22 23 (dk_at dksX2_reduce512_32 16 rfl rfl)
theorem dX2_reduce512_760 : decode cX2_reduce512 760 = .ok (.ldc2_w 46, 3) := dk_20 0 46 (dk_at dksX2_reduce512_32 18 rfl rfl)
theorem dX2_reduce512_763 : decode cX2_reduce512 763 = .ok (.lmul, 1) := dk_105 (dk_at dksX2_reduce512_32 21 rfl rfl)
theorem dX2_reduce512_764 : decode cX2_reduce512 764 = .ok (.lsub, 1) := dk_101 (dk_at dksX2_reduce512_32 22 rfl rfl)
theorem dX2_reduce512_765 : decode cX2_reduce512 765 = .ok (.lstore 9, 2) := dk_55 9 (dk_at dksX2_reduce512_33 0 rfl rfl)
theorem dX2_reduce512_767 : decode cX2_reduce512 767 = .ok (.lload 11, 2) := dk_22 11 (dk_at dksX2_reduce512_33 2 rfl rfl)
theorem dX2_reduce512_769 : decode cX2_reduce512 769 = .ok (.lload 23, 2) := dk_22 23 (dk_at dksX2_reduce512_33 4 rfl rfl)
theorem dX2_reduce512_771 : decode cX2_reduce512 771 = .ok (.ldc2_w 48, 3) := dk_20 0 48 (dk_at dksX2_reduce512_33 6 rfl rfl)
theorem dX2_reduce512_774 : decode cX2_reduce512 774 = .ok (.lmul, 1) := dk_105 (dk_at dksX2_reduce512_33 9 rfl rfl)
theorem dX2_reduce512_775 : decode cX2_reduce512 775 = .ok (.lsub, 1) := dk_101 (dk_at dksX2_reduce512_33 10 rfl rfl)
theorem dX2_reduce512_776 : decode cX2_reduce512 776 = .ok (.lstore 11, 2) := dk_55 11 (dk_at dksX2_reduce512_33 11 rfl rfl)
theorem dX2_reduce512_778 : decode cX2_reduce512 778 = .ok (.lload 13, 2) := dk_22 13 (dk_at dksX2_reduce512_33 13 rfl rfl)
theorem dX2_reduce512_780 : decode cX2_reduce512 780 = .ok (.lload 23, 2) := dk_22 23 (dk_at dksX2_reduce512_33 15 rfl rfl)
theorem dX2_reduce512_782 : decode cX2_reduce512 782 = .ok (.ldc2_w 50, 3) := dk_20 0 50 (dk_at dksX2_reduce512_33 17 rfl rfl)
theorem dX2_reduce512_785 : decode cX2_reduce512 785 = .ok (.lmul, 1) := dk_105 (dk_at dksX2_reduce512_33 20 rfl rfl)
theorem dX2_reduce512_786 : decode cX2_reduce512 786 = .ok (.lsub, 1) := dk_101 (dk_at dksX2_reduce512_33 21 rfl rfl)
theorem dX2_reduce512_787 : decode cX2_reduce512 787 = .ok (.lstore 13, 2) := dk_55 13 (dk_at dksX2_reduce512_33 22 rfl rfl)
theorem dX2_reduce512_789 : decode cX2_reduce512 789 = .ok (.lload 21, 2) := dk_22 21 (dk_at dksX2_reduce512_34 0 rfl rfl)
theorem dX2_reduce512_791 : decode cX2_reduce512 791 = .ok (.lload 19, 2) := dk_22 19 (dk_at dksX2_reduce512_34 2 rfl rfl)
theorem dX2_reduce512_793 : decode cX2_reduce512 793 = .ok (.bipush 28, 2) := dk_16 28 (dk_at dksX2_reduce512_34 4 rfl rfl)
theorem dX2_reduce512_795 : decode cX2_reduce512 795 = .ok (.lshr, 1) := dk_123 (dk_at dksX2_reduce512_34 6 rfl rfl)
theorem dX2_reduce512_796 : decode cX2_reduce512 796 = .ok (.ladd, 1) := dk_97 (dk_at dksX2_reduce512_34 7 rfl rfl)
theorem dX2_reduce512_797 : decode cX2_reduce512 797 = .ok (.lstore 21, 2) := dk_55 21 (dk_at dksX2_reduce512_34 8 rfl rfl)
theorem dX2_reduce512_799 : decode cX2_reduce512 799 = .ok (.lload 19, 2) := dk_22 19 (dk_at dksX2_reduce512_34 10 rfl rfl)
theorem dX2_reduce512_801 : decode cX2_reduce512 801 = .ok (.ldc2_w 40, 3) := dk_20 0 40 (dk_at dksX2_reduce512_34 12 rfl rfl)
theorem dX2_reduce512_804 : decode cX2_reduce512 804 = .ok (.land, 1) := dk_127 (dk_at dksX2_reduce512_34 15 rfl rfl)
theorem dX2_reduce512_805 : decode cX2_reduce512 805 = .ok (.lstore 19, 2) := dk_55 19 (dk_at dksX2_reduce512_34 16 rfl rfl)
theorem dX2_reduce512_807 : decode cX2_reduce512 807 = .ok (.lload_n 3, 1) := dk_33 (dk_at dksX2_reduce512_34 18 rfl rfl)
theorem dX2_reduce512_808 : decode cX2_reduce512 808 = .ok (.lload 21, 2) := dk_22 21 (dk_at dksX2_reduce512_34 19 rfl rfl)
theorem dX2_reduce512_810 : decode cX2_reduce512 810 = .ok (.ldc2_w 42, 3) := dk_20 0 42 (dk_at dksX2_reduce512_34 21 rfl rfl)
theorem dX2_reduce512_813 : decode cX2_reduce512 813 = .ok (.lmul, 1) := dk_105 (dk_at dksX2_reduce512_35 0 rfl rfl)
theorem dX2_reduce512_814 : decode cX2_reduce512 814 = .ok (.lsub, 1) := dk_101 (dk_at dksX2_reduce512_35 1 rfl rfl)
theorem dX2_reduce512_815 : decode cX2_reduce512 815 = .ok (.lstore_n 3, 1) := dk_66 (dk_at dksX2_reduce512_35 2 rfl rfl)
theorem dX2_reduce512_816 : decode cX2_reduce512 816 = .ok (.lload 5, 2) := dk_22 5 (dk_at dksX2_reduce512_35 3 rfl rfl)
theorem dX2_reduce512_818 : decode cX2_reduce512 818 = .ok (.lload 21, 2) := dk_22 21 (dk_at dksX2_reduce512_35 5 rfl rfl)
theorem dX2_reduce512_820 : decode cX2_reduce512 820 = .ok (.ldc2_w 44, 3) := dk_20 0 44 (dk_at dksX2_reduce512_35 7 rfl rfl)
theorem dX2_reduce512_823 : decode cX2_reduce512 823 = .ok (.lmul, 1) := dk_105 (dk_at dksX2_reduce512_35 10 rfl rfl)
theorem dX2_reduce512_824 : decode cX2_reduce512 824 = .ok (.lsub, 1) := dk_101 (dk_at dksX2_reduce512_35 11 rfl rfl)
theorem dX2_reduce512_825 : decode cX2_reduce512 825 = .ok (.lstore 5, 2) := dk_55 5 (dk_at dksX2_reduce512_35 12 rfl rfl)
theorem dX2_reduce512_827 : decode cX2_reduce512 827 = .ok (.lload 7, 2) := dk_22 7 (dk_at dksX2_reduce512_35 14 rfl rfl)
theorem dX2_reduce512_829 : decode cX2_reduce512 829 = .ok (.lload 21, 2) := dk_22 21 (dk_at dksX2_reduce512_35 16 rfl rfl)
theorem dX2_reduce512_831 : decode cX2_reduce512 831 = .ok (.ldc2_w 46, 3) := dk_20 0 46 (dk_at dksX2_reduce512_35 18 rfl rfl)
theorem dX2_reduce512_834 : decode cX2_reduce512 834 = .ok (.lmul, 1) := dk_105 (dk_at dksX2_reduce512_35 21 rfl rfl)
theorem dX2_reduce512_835 : decode cX2_reduce512 835 = .ok (.lsub, 1) := dk_101 (dk_at dksX2_reduce512_35 22 rfl rfl)
theorem dX2_reduce512_836 : decode cX2_reduce512 836 = .ok (.lstore 7, 2) := dk_55 7 (dk_at dksX2_reduce512_36 0 rfl rfl)
theorem dX2_reduce512_838 : decode cX2_reduce512 838 = .ok (.lload 9, 2) := dk_22 9 (dk_at dksX2_reduce512_36 2 rfl rfl)
theorem dX2_reduce512_840 : decode cX2_reduce512 840 = .ok (.lload 21, 2) := dk_22 21 (dk_at dksX2_reduce512_36 4 rfl rfl)
theorem dX2_reduce512_842 : decode cX2_reduce512 842 = .ok (.ldc2_w 48, 3) := dk_20 0 48 (dk_at dksX2_reduce512_36 6 rfl rfl)
theorem dX2_reduce512_845 : decode cX2_reduce512 845 = .ok (.lmul, 1) := dk_105 (dk_at dksX2_reduce512_36 9 rfl rfl)
theorem dX2_reduce512_846 : decode cX2_reduce512 846 = .ok (.lsub, 1) := dk_101 (dk_at dksX2_reduce512_36 10 rfl rfl)
theorem dX2_reduce512_847 : decode cX2_reduce512 847 = .ok (.lstore 9, 2) := dk_55 9 (dk_at dksX2_reduce512_36 11 rfl rfl)
theorem dX2_reduce512_849 : decode cX2_reduce512 849 = .ok (.lload 11, 2) := dk_22 11 (dk_at dksX2_reduce512_36 13 rfl rfl)
theorem dX2_reduce512_851 : decode cX2_reduce512 851 = .ok (.lload 21, 2) := dk_22 21 (dk_at dksX2_reduce512_36 15 rfl rfl)
theorem dX2_reduce512_853 : decode cX2_reduce512 853 = .ok (.ldc2_w 50, 3) := dk_20 0 50 (dk_at dksX2_reduce512_36 17 rfl rfl)
theorem dX2_reduce512_856 : decode cX2_reduce512 856 = .ok (.lmul, 1) := dk_105 (dk_at dksX2_reduce512_36 20 rfl rfl)
theorem dX2_reduce512_857 : decode cX2_reduce512 857 = .ok (.lsub, 1) := dk_101 (dk_at dksX2_reduce512_36 21 rfl rfl)
theorem dX2_reduce512_858 : decode cX2_reduce512 858 = .ok (.lstore 11, 2) := dk_55 11 (dk_at dksX2_reduce512_36 22 rfl rfl)
theorem dX2_reduce512_860 : decode cX2_reduce512 860 = .ok (.lload 17, 2) := dk_22 17 (dk_at dksX2_reduce512_37 0 rfl rfl)
theorem dX2_reduce512_862 : decode cX2_reduce512 862 = .ok (.lload 15, 2) := dk_22 15 (dk_at dksX2_reduce512_37 2 rfl rfl)
theorem dX2_reduce512_864 : decode cX2_reduce512 864 = .ok (.bipush 28, 2) := dk_16 28 (dk_at dksX2_reduce512_37 4 rfl rfl)
theorem dX2_reduce512_866 : decode cX2_reduce512 866 = .ok (.lshr, 1) := dk_123 (dk_at dksX2_reduce512_37 6 rfl rfl)
theorem dX2_reduce512_867 : decode cX2_reduce512 867 = .ok (.ladd, 1) := dk_97 (dk_at dksX2_reduce512_37 7 rfl rfl)
theorem dX2_reduce512_868 : decode cX2_reduce512 868 = .ok (.lstore 17, 2) := dk_55 17 (dk_at dksX2_reduce512_37 8 rfl rfl)
theorem dX2_reduce512_870 : decode cX2_reduce512 870 = .ok (.lload 15, 2) := dk_22 15 (dk_at dksX2_reduce512_37 10 rfl rfl)
theorem dX2_reduce512_872 : decode cX2_reduce512 872 = .ok (.ldc2_w 40, 3) := dk_20 0 40 (dk_at dksX2_reduce512_37 12 rfl rfl)
theorem dX2_reduce512_875 : decode cX2_reduce512 875 = .ok (.land, 1) := dk_127 (dk_at dksX2_reduce512_37 15 rfl rfl)
theorem dX2_reduce512_876 : decode cX2_reduce512 876 = .ok (.lstore 15, 2) := dk_55 15 (dk_at dksX2_reduce512_37 16 rfl rfl)
theorem dX2_reduce512_878 : decode cX2_reduce512 878 = .ok (.lload 19, 2) := dk_22 19 (dk_at dksX2_reduce512_37 18 rfl rfl)
theorem dX2_reduce512_880 : decode cX2_reduce512 880 = .ok (.lload 17, 2) := dk_22 17 (dk_at dksX2_reduce512_37 20 rfl rfl)
theorem dX2_reduce512_882 : decode cX2_reduce512 882 = .ok (.bipush 28, 2) := dk_16 28 (dk_at dksX2_reduce512_37 22 rfl rfl)
theorem dX2_reduce512_884 : decode cX2_reduce512 884 = .ok (.lshr, 1) := dk_123 (dk_at dksX2_reduce512_38 0 rfl rfl)
theorem dX2_reduce512_885 : decode cX2_reduce512 885 = .ok (.ladd, 1) := dk_97 (dk_at dksX2_reduce512_38 1 rfl rfl)
theorem dX2_reduce512_886 : decode cX2_reduce512 886 = .ok (.lstore 19, 2) := dk_55 19 (dk_at dksX2_reduce512_38 2 rfl rfl)
theorem dX2_reduce512_888 : decode cX2_reduce512 888 = .ok (.lload 17, 2) := dk_22 17 (dk_at dksX2_reduce512_38 4 rfl rfl)
theorem dX2_reduce512_890 : decode cX2_reduce512 890 = .ok (.ldc2_w 40, 3) := dk_20 0 40 (dk_at dksX2_reduce512_38 6 rfl rfl)
theorem dX2_reduce512_893 : decode cX2_reduce512 893 = .ok (.land, 1) := dk_127 (dk_at dksX2_reduce512_38 9 rfl rfl)
theorem dX2_reduce512_894 : decode cX2_reduce512 894 = .ok (.lstore 17, 2) := dk_55 17 (dk_at dksX2_reduce512_38 10 rfl rfl)
theorem dX2_reduce512_896 : decode cX2_reduce512 896 = .ok (.lload 17, 2) := dk_22 17 (dk_at dksX2_reduce512_38 12 rfl rfl)
theorem dX2_reduce512_898 : decode cX2_reduce512 898 = .ok (.bipush 27, 2) := dk_16 27 (dk_at dksX2_reduce512_38 14 rfl rfl)
theorem dX2_reduce512_900 : decode cX2_reduce512 900 = .ok (.lushr, 1) := dk_125 (dk_at dksX2_reduce512_38 16 rfl rfl)
theorem dX2_reduce512_901 : decode cX2_reduce512 901 = .ok (.lstore 39, 2) := dk_55 39 (dk_at dksX2_reduce512_38 17 rfl rfl)
theorem dX2_reduce512_903 : decode cX2_reduce512 903 = .ok (.lload 19, 2) := dk_22 19 (dk_at dksX2_reduce512_38 19 rfl rfl)
theorem dX2_reduce512_905 : decode cX2_reduce512 905 = .ok (.lload 39, 2) := dk_22 39 (dk_at dksX2_reduce512_38 21 rfl rfl)
theorem dX2_reduce512_907 : decode cX2_reduce512 907 = .ok (.ladd, 1) := dk_97 (dk_at dksX2_reduce512_38 23 rfl rfl)
theorem dX2_reduce512_908 : decode cX2_reduce512 908 = .ok (.lstore 19, 2) := dk_55 19 (dk_at dksX2_reduce512_39 0 rfl rfl)
theorem dX2_reduce512_910 : decode cX2_reduce512 910 = .ok (.lload_n 1, 1) := dk_31 (dk_at dksX2_reduce512_39 2 rfl rfl)
theorem dX2_reduce512_911 : decode cX2_reduce512 911 = .ok (.lload 19, 2) := dk_22 19 (dk_at dksX2_reduce512_39 3 rfl rfl)
theorem dX2_reduce512_913 : decode cX2_reduce512 913 = .ok (.ldc2_w 42, 3) := dk_20 0 42 (dk_at dksX2_reduce512_39 5 rfl rfl)
theorem dX2_reduce512_916 : decode cX2_reduce512 916 = .ok (.lmul, 1) := dk_105 (dk_at dksX2_reduce512_39 8 rfl rfl)
theorem dX2_reduce512_917 : decode cX2_reduce512 917 = .ok (.lsub, 1) := dk_101 (dk_at dksX2_reduce512_39 9 rfl rfl)
theorem dX2_reduce512_918 : decode cX2_reduce512 918 = .ok (.lstore_n 1, 1) := dk_64 (dk_at dksX2_reduce512_39 10 rfl rfl)
theorem dX2_reduce512_919 : decode cX2_reduce512 919 = .ok (.lload_n 3, 1) := dk_33 (dk_at dksX2_reduce512_39 11 rfl rfl)
theorem dX2_reduce512_920 : decode cX2_reduce512 920 = .ok (.lload 19, 2) := dk_22 19 (dk_at dksX2_reduce512_39 12 rfl rfl)
theorem dX2_reduce512_922 : decode cX2_reduce512 922 = .ok (.ldc2_w 44, 3) := dk_20 0 44 (dk_at dksX2_reduce512_39 14 rfl rfl)
theorem dX2_reduce512_925 : decode cX2_reduce512 925 = .ok (.lmul, 1) := dk_105 (dk_at dksX2_reduce512_39 17 rfl rfl)
theorem dX2_reduce512_926 : decode cX2_reduce512 926 = .ok (.lsub, 1) := dk_101 (dk_at dksX2_reduce512_39 18 rfl rfl)
theorem dX2_reduce512_927 : decode cX2_reduce512 927 = .ok (.lstore_n 3, 1) := dk_66 (dk_at dksX2_reduce512_39 19 rfl rfl)
theorem dX2_reduce512_928 : decode cX2_reduce512 928 = .ok (.lload 5, 2) := dk_22 5 (dk_at dksX2_reduce512_39 20 rfl rfl)
theorem dX2_reduce512_930 : decode cX2_reduce512 930 = .ok (.lload 19, 2) := dk_22 19 (dk_at dksX2_reduce512_39 22 rfl rfl)
theorem dX2_reduce512_932 : decode cX2_reduce512 932 = .ok (.ldc2_w 46, 3) := dk_20 0 46 (dk_at dksX2_reduce512_40 0 rfl rfl)
theorem dX2_reduce512_935 : decode cX2_reduce512 935 = .ok (.lmul, 1) := dk_105 (dk_at dksX2_reduce512_40 3 rfl rfl)
theorem dX2_reduce512_936 : decode cX2_reduce512 936 = .ok (.lsub, 1) := dk_101 (dk_at dksX2_reduce512_40 4 rfl rfl)
theorem dX2_reduce512_937 : decode cX2_reduce512 937 = .ok (.lstore 5, 2) := dk_55 5 (dk_at dksX2_reduce512_40 5 rfl rfl)
theorem dX2_reduce512_939 : decode cX2_reduce512 939 = .ok (.lload 7, 2) := dk_22 7 (dk_at dksX2_reduce512_40 7 rfl rfl)
theorem dX2_reduce512_941 : decode cX2_reduce512 941 = .ok (.lload 19, 2) := dk_22 19 (dk_at dksX2_reduce512_40 9 rfl rfl)
theorem dX2_reduce512_943 : decode cX2_reduce512 943 = .ok (.ldc2_w 48, 3) := dk_20 0 48 (dk_at dksX2_reduce512_40 11 rfl rfl)
theorem dX2_reduce512_946 : decode cX2_reduce512 946 = .ok (.lmul, 1) := dk_105 (dk_at dksX2_reduce512_40 14 rfl rfl)
theorem dX2_reduce512_947 : decode cX2_reduce512 947 = .ok (.lsub, 1) := dk_101 (dk_at dksX2_reduce512_40 15 rfl rfl)
theorem dX2_reduce512_948 : decode cX2_reduce512 948 = .ok (.lstore 7, 2) := dk_55 7 (dk_at dksX2_reduce512_40 16 rfl rfl)
theorem dX2_reduce512_950 : decode cX2_reduce512 950 = .ok (.lload 9, 2) := dk_22 9 (dk_at dksX2_reduce512_40 18 rfl rfl)
theorem dX2_reduce512_952 : decode cX2_reduce512 952 = .ok (.lload 19, 2) := dk_22 19 (dk_at dksX2_reduce512_40 20 rfl rfl)
theorem dX2_reduce512_954 : decode cX2_reduce512 954 = .ok (.ldc2_w 50, 3) := dk_20 0 50 (dk_at dksX2_reduce512_41 0 rfl rfl)
theorem dX2_reduce512_957 : decode cX2_reduce512 957 = .ok (.lmul, 1) := dk_105 (dk_at dksX2_reduce512_41 3 rfl rfl)
theorem dX2_reduce512_958 : decode cX2_reduce512 958 = .ok (.lsub, 1) := dk_101 (dk_at dksX2_reduce512_41 4 rfl rfl)
theorem dX2_reduce512_959 : decode cX2_reduce512 959 = .ok (.lstore 9, 2) := dk_55 9 (dk_at dksX2_reduce512_41 5 rfl rfl)
theorem dX2_reduce512_961 : decode cX2_reduce512 961 = .ok (.lload_n 3, 1) := dk_33 (dk_at dksX2_reduce512_41 7 rfl rfl)
theorem dX2_reduce512_962 : decode cX2_reduce512 962 = .ok (.lload_n 1, 1) := dk_31 (dk_at dksX2_reduce512_41 8 rfl rfl)
theorem dX2_reduce512_963 : decode cX2_reduce512 963 = .ok (.bipush 28, 2) := dk_16 28 (dk_at dksX2_reduce512_41 9 rfl rfl)
theorem dX2_reduce512_965 : decode cX2_reduce512 965 = .ok (.lshr, 1) := dk_123 (dk_at dksX2_reduce512_41 11 rfl rfl)
theorem dX2_reduce512_966 : decode cX2_reduce512 966 = .ok (.ladd, 1) := dk_97 (dk_at dksX2_reduce512_41 12 rfl rfl)
theorem dX2_reduce512_967 : decode cX2_reduce512 967 = .ok (.lstore_n 3, 1) := dk_66 (dk_at dksX2_reduce512_41 13 rfl rfl)
theorem dX2_reduce512_968 : decode cX2_reduce512 968 = .ok (.lload_n 1, 1) := dk_31 (dk_at dksX2_reduce512_41 14 rfl rfl)
theorem dX2_reduce512_969 : decode cX2_reduce512 969 = .ok (.ldc2_w 40, 3) := dk_20 0 40 (dk_at dksX2_reduce512_41 15 rfl rfl)
theorem dX2_reduce512_972 : decode cX2_reduce512 972 = .ok (.land, 1) := dk_127 (dk_at dksX2_reduce512_41 18 rfl rfl)
theorem dX2_reduce512_973 : decode cX2_reduce512 973 = .ok (.lstore_n 1, 1) := dk_64 (dk_at dksX2_reduce512_41 19 rfl rfl)
theorem dX2_reduce512_974 : decode cX2_reduce512 974 = .ok (.lload 5, 2) := dk_22 5 (dk_at dksX2_reduce512_41 20 rfl rfl)
theorem dX2_reduce512_976 : decode cX2_reduce512 976 = .ok (.lload_n 3, 1) := dk_33 (dk_at dksX2_reduce512_41 22 rfl rfl)
theorem dX2_reduce512_977 : decode cX2_reduce512 977 = .ok (.bipush 28, 2) := dk_16 28 (dk_at dksX2_reduce512_42 0 rfl rfl)
theorem dX2_reduce512_979 : decode cX2_reduce512 979 = .ok (.lshr, 1) := dk_123 (dk_at dksX2_reduce512_42 2 rfl rfl)
theorem dX2_reduce512_980 : decode cX2_reduce512 980 = .ok (.ladd, 1) := dk_97 (dk_at dksX2_reduce512_42 3 rfl rfl)
theorem dX2_reduce512_981 : decode cX2_reduce512 981 = .ok (.lstore 5, 2) := dk_55 5 (dk_at dksX2_reduce512_42 4 rfl rfl)
theorem dX2_reduce512_983 : decode cX2_reduce512 983 = .ok (.lload_n 3, 1) := dk_33 (dk_at dksX2_reduce512_42 6 rfl rfl)
theorem dX2_reduce512_984 : decode cX2_reduce512 984 = .ok (.ldc2_w 40, 3) := dk_20 0 40 (dk_at dksX2_reduce512_42 7 rfl rfl)
theorem dX2_reduce512_987 : decode cX2_reduce512 987 = .ok (.land, 1) := dk_127 (dk_at dksX2_reduce512_42 10 rfl rfl)
theorem dX2_reduce512_988 : decode cX2_reduce512 988 = .ok (.lstore_n 3, 1) := dk_66 (dk_at dksX2_reduce512_42 11 rfl rfl)
theorem dX2_reduce512_989 : decode cX2_reduce512 989 = .ok (.lload 7, 2) := dk_22 7 (dk_at dksX2_reduce512_42 12 rfl rfl)
theorem dX2_reduce512_991 : decode cX2_reduce512 991 = .ok (.lload 5, 2) := dk_22 5 (dk_at dksX2_reduce512_42 14 rfl rfl)
theorem dX2_reduce512_993 : decode cX2_reduce512 993 = .ok (.bipush 28, 2) := dk_16 28 (dk_at dksX2_reduce512_42 16 rfl rfl)
theorem dX2_reduce512_995 : decode cX2_reduce512 995 = .ok (.lshr, 1) := dk_123 (dk_at dksX2_reduce512_42 18 rfl rfl)
theorem dX2_reduce512_996 : decode cX2_reduce512 996 = .ok (.ladd, 1) := dk_97 (dk_at dksX2_reduce512_42 19 rfl rfl)
theorem dX2_reduce512_997 : decode cX2_reduce512 997 = .ok (.lstore 7, 2) := dk_55 7 (dk_at dksX2_reduce512_42 20 rfl rfl)
theorem dX2_reduce512_999 : decode cX2_reduce512 999 = .ok (.lload 5, 2) := dk_22 5 (dk_at dksX2_reduce512_42 22 rfl rfl)
theorem dX2_reduce512_1001 : decode cX2_reduce512 1001 = .ok (.ldc2_w 40, 3) := dk_20 0 40 (dk_at dksX2_reduce512_43 0 rfl rfl)
theorem dX2_reduce512_1004 : decode cX2_reduce512 1004 = .ok (.land, 1) := dk_127 (dk_at dksX2_reduce512_43 3 rfl rfl)
theorem dX2_reduce512_1005 : decode cX2_reduce512 1005 = .ok (.lstore 5, 2) := dk_55 5 (dk_at dksX2_reduce512_43 4 rfl rfl)
theorem dX2_reduce512_1007 : decode cX2_reduce512 1007 = .ok (.lload 9, 2) := dk_22 9 (dk_at dksX2_reduce512_43 6 rfl rfl)
theorem dX2_reduce512_1009 : decode cX2_reduce512 1009 = .ok (.lload 7, 2) := dk_22 7 (dk_at dksX2_reduce512_43 8 rfl rfl)
theorem dX2_reduce512_1011 : decode cX2_reduce512 1011 = .ok (.bipush 28, 2) := dk_16 28 (dk_at dksX2_reduce512_43 10 rfl rfl)
theorem dX2_reduce512_1013 : decode cX2_reduce512 1013 = .ok (.lshr, 1) := dk_123 (dk_at dksX2_reduce512_43 12 rfl rfl)
theorem dX2_reduce512_1014 : decode cX2_reduce512 1014 = .ok (.ladd, 1) := dk_97 (dk_at dksX2_reduce512_43 13 rfl rfl)
theorem dX2_reduce512_1015 : decode cX2_reduce512 1015 = .ok (.lstore 9, 2) := dk_55 9 (dk_at dksX2_reduce512_43 14 rfl rfl)
theorem dX2_reduce512_1017 : decode cX2_reduce512 1017 = .ok (.lload 7, 2) := dk_22 7 (dk_at dksX2_reduce512_43 16 rfl rfl)
theorem dX2_reduce512_1019 : decode cX2_reduce512 1019 = .ok (.ldc2_w 40, 3) := dk_20 0 40 (dk_at dksX2_reduce512_43 18 rfl rfl)
theorem dX2_reduce512_1022 : decode cX2_reduce512 1022 = .ok (.land, 1) := dk_127 (dk_at dksX2_reduce512_43 21 rfl rfl)
theorem dX2_reduce512_1023 : decode cX2_reduce512 1023 = .ok (.lstore 7, 2) := dk_55 7 (dk_at dksX2_reduce512_43 22 rfl rfl)
theorem dX2_reduce512_1025 : decode cX2_reduce512 1025 = .ok (.lload 11, 2) := dk_22 11 (dk_at dksX2_reduce512_44 0 rfl rfl)
theorem dX2_reduce512_1027 : decode cX2_reduce512 1027 = .ok (.lload 9, 2) := dk_22 9 (dk_at dksX2_reduce512_44 2 rfl rfl)
theorem dX2_reduce512_1029 : decode cX2_reduce512 1029 = .ok (.bipush 28, 2) := dk_16 28 (dk_at dksX2_reduce512_44 4 rfl rfl)
theorem dX2_reduce512_1031 : decode cX2_reduce512 1031 = .ok (.lshr, 1) := dk_123 (dk_at dksX2_reduce512_44 6 rfl rfl)
theorem dX2_reduce512_1032 : decode cX2_reduce512 1032 = .ok (.ladd, 1) := dk_97 (dk_at dksX2_reduce512_44 7 rfl rfl)
theorem dX2_reduce512_1033 : decode cX2_reduce512 1033 = .ok (.lstore 11, 2) := dk_55 11 (dk_at dksX2_reduce512_44 8 rfl rfl)
theorem dX2_reduce512_1035 : decode cX2_reduce512 1035 = .ok (.lload 9, 2) := dk_22 9 (dk_at dksX2_reduce512_44 10 rfl rfl)
theorem dX2_reduce512_1037 : decode cX2_reduce512 1037 = .ok (.ldc2_w 40, 3) := dk_20 0 40 (dk_at dksX2_reduce512_44 12 rfl rfl)
theorem dX2_reduce512_1040 : decode cX2_reduce512 1040 = .ok (.land, 1) := dk_127 (dk_at dksX2_reduce512_44 15 rfl rfl)
theorem dX2_reduce512_1041 : decode cX2_reduce512 1041 = .ok (.lstore 9, 2) := dk_55 9 (dk_at dksX2_reduce512_44 16 rfl rfl)
theorem dX2_reduce512_1043 : decode cX2_reduce512 1043 = .ok (.lload 13, 2) := dk_22 13 (dk_at dksX2_reduce512_44 18 rfl rfl)
theorem dX2_reduce512_1045 : decode cX2_reduce512 1045 = .ok (.lload 11, 2) := dk_22 11 (dk_at dksX2_reduce512_44 20 rfl rfl)
theorem dX2_reduce512_1047 : decode cX2_reduce512 1047 = .ok (.bipush 28, 2) := dk_16 28 (dk_at dksX2_reduce512_44 22 rfl rfl)
theorem dX2_reduce512_1049 : decode cX2_reduce512 1049 = .ok (.lshr, 1) := dk_123 (dk_at dksX2_reduce512_45 0 rfl rfl)
theorem dX2_reduce512_1050 : decode cX2_reduce512 1050 = .ok (.ladd, 1) := dk_97 (dk_at dksX2_reduce512_45 1 rfl rfl)
theorem dX2_reduce512_1051 : decode cX2_reduce512 1051 = .ok (.lstore 13, 2) := dk_55 13 (dk_at dksX2_reduce512_45 2 rfl rfl)
theorem dX2_reduce512_1053 : decode cX2_reduce512 1053 = .ok (.lload 11, 2) := dk_22 11 (dk_at dksX2_reduce512_45 4 rfl rfl)
theorem dX2_reduce512_1055 : decode cX2_reduce512 1055 = .ok (.ldc2_w 40, 3) := dk_20 0 40 (dk_at dksX2_reduce512_45 6 rfl rfl)
theorem dX2_reduce512_1058 : decode cX2_reduce512 1058 = .ok (.land, 1) := dk_127 (dk_at dksX2_reduce512_45 9 rfl rfl)
theorem dX2_reduce512_1059 : decode cX2_reduce512 1059 = .ok (.lstore 11, 2) := dk_55 11 (dk_at dksX2_reduce512_45 10 rfl rfl)
theorem dX2_reduce512_1061 : decode cX2_reduce512 1061 = .ok (.lload 15, 2) := dk_22 15 (dk_at dksX2_reduce512_45 12 rfl rfl)
theorem dX2_reduce512_1063 : decode cX2_reduce512 1063 = .ok (.lload 13, 2) := dk_22 13 (dk_at dksX2_reduce512_45 14 rfl rfl)
theorem dX2_reduce512_1065 : decode cX2_reduce512 1065 = .ok (.bipush 28, 2) := dk_16 28 (dk_at dksX2_reduce512_45 16 rfl rfl)
theorem dX2_reduce512_1067 : decode cX2_reduce512 1067 = .ok (.lshr, 1) := dk_123 (dk_at dksX2_reduce512_45 18 rfl rfl)
theorem dX2_reduce512_1068 : decode cX2_reduce512 1068 = .ok (.ladd, 1) := dk_97 (dk_at dksX2_reduce512_45 19 rfl rfl)
theorem dX2_reduce512_1069 : decode cX2_reduce512 1069 = .ok (.lstore 15, 2) := dk_55 15 (dk_at dksX2_reduce512_45 20 rfl rfl)
theorem dX2_reduce512_1071 : decode cX2_reduce512 1071 = .ok (.lload 13, 2) := dk_22 13 (dk_at dksX2_reduce512_45 22 rfl rfl)
theorem dX2_reduce512_1073 : decode cX2_reduce512 1073 = .ok (.ldc2_w 40, 3) := dk_20 0 40 (dk_at dksX2_reduce512_46 0 rfl rfl)
theorem dX2_reduce512_1076 : decode cX2_reduce512 1076 = .ok (.land, 1) := dk_127 (dk_at dksX2_reduce512_46 3 rfl rfl)
theorem dX2_reduce512_1077 : decode cX2_reduce512 1077 = .ok (.lstore 13, 2) := dk_55 13 (dk_at dksX2_reduce512_46 4 rfl rfl)
theorem dX2_reduce512_1079 : decode cX2_reduce512 1079 = .ok (.lload 17, 2) := dk_22 17 (dk_at dksX2_reduce512_46 6 rfl rfl)
theorem dX2_reduce512_1081 : decode cX2_reduce512 1081 = .ok (.lload 15, 2) := dk_22 15 (dk_at dksX2_reduce512_46 8 rfl rfl)
theorem dX2_reduce512_1083 : decode cX2_reduce512 1083 = .ok (.bipush 28, 2) := dk_16 28 (dk_at dksX2_reduce512_46 10 rfl rfl)
theorem dX2_reduce512_1085 : decode cX2_reduce512 1085 = .ok (.lshr, 1) := dk_123 (dk_at dksX2_reduce512_46 12 rfl rfl)
theorem dX2_reduce512_1086 : decode cX2_reduce512 1086 = .ok (.ladd, 1) := dk_97 (dk_at dksX2_reduce512_46 13 rfl rfl)
theorem dX2_reduce512_1087 : decode cX2_reduce512 1087 = .ok (.lstore 17, 2) := dk_55 17 (dk_at dksX2_reduce512_46 14 rfl rfl)
theorem dX2_reduce512_1089 : decode cX2_reduce512 1089 = .ok (.lload 15, 2) := dk_22 15 (dk_at dksX2_reduce512_46 16 rfl rfl)
theorem dX2_reduce512_1091 : decode cX2_reduce512 1091 = .ok (.ldc2_w 40, 3) := dk_20 0 40 (dk_at dksX2_reduce512_46 18 rfl rfl)
theorem dX2_reduce512_1094 : decode cX2_reduce512 1094 = .ok (.land, 1) := dk_127 (dk_at dksX2_reduce512_46 21 rfl rfl)
theorem dX2_reduce512_1095 : decode cX2_reduce512 1095 = .ok (.lstore 15, 2) := dk_55 15 (dk_at dksX2_reduce512_46 22 rfl rfl)
theorem dX2_reduce512_1097 : decode cX2_reduce512 1097 = .ok (.lload 17, 2) := dk_22 17 (dk_at dksX2_reduce512_47 0 rfl rfl)
theorem dX2_reduce512_1099 : decode cX2_reduce512 1099 = .ok (.bipush 28, 2) := dk_16 28 (dk_at dksX2_reduce512_47 2 rfl rfl)
theorem dX2_reduce512_1101 : decode cX2_reduce512 1101 = .ok (.lshr, 1) := dk_123 (dk_at dksX2_reduce512_47 4 rfl rfl)
theorem dX2_reduce512_1102 : decode cX2_reduce512 1102 = .ok (.lstore 19, 2) := dk_55 19 (dk_at dksX2_reduce512_47 5 rfl rfl)
theorem dX2_reduce512_1104 : decode cX2_reduce512 1104 = .ok (.lload 17, 2) := dk_22 17 (dk_at dksX2_reduce512_47 7 rfl rfl)
theorem dX2_reduce512_1106 : decode cX2_reduce512 1106 = .ok (.ldc2_w 40, 3) := dk_20 0 40 (dk_at dksX2_reduce512_47 9 rfl rfl)
theorem dX2_reduce512_1109 : decode cX2_reduce512 1109 = .ok (.land, 1) := dk_127 (dk_at dksX2_reduce512_47 12 rfl rfl)
theorem dX2_reduce512_1110 : decode cX2_reduce512 1110 = .ok (.lstore 17, 2) := dk_55 17 (dk_at dksX2_reduce512_47 13 rfl rfl)
theorem dX2_reduce512_1112 : decode cX2_reduce512 1112 = .ok (.lload 19, 2) := dk_22 19 (dk_at dksX2_reduce512_47 15 rfl rfl)
theorem dX2_reduce512_1114 : decode cX2_reduce512 1114 = .ok (.lload 39, 2) := dk_22 39 (dk_at dksX2_reduce512_47 17 rfl rfl)
theorem dX2_reduce512_1116 : decode cX2_reduce512 1116 = .ok (.lsub, 1) := dk_101 (dk_at dksX2_reduce512_47 19 rfl rfl)
theorem dX2_reduce512_1117 : decode cX2_reduce512 1117 = .ok (.lstore 19, 2) := dk_55 19 (dk_at dksX2_reduce512_47 20 rfl rfl)
theorem dX2_reduce512_1119 : decode cX2_reduce512 1119 = .ok (.lload_n 1, 1) := dk_31 (dk_at dksX2_reduce512_47 22 rfl rfl)
theorem dX2_reduce512_1120 : decode cX2_reduce512 1120 = .ok (.lload 19, 2) := dk_22 19 (dk_at dksX2_reduce512_48 0 rfl rfl)
theorem dX2_reduce512_1122 : decode cX2_reduce512 1122 = .ok (.ldc2_w 42, 3) := dk_20 0 42 (dk_at dksX2_reduce512_48 2 rfl rfl)
theorem dX2_reduce512_1125 : decode cX2_reduce512 1125 = .ok (.land, 1) := dk_127 (dk_at dksX2_reduce512_48 5 rfl rfl)
theorem dX2_reduce512_1126 : decode cX2_reduce512 1126 = .ok (.ladd, 1) := dk_97 (dk_at dksX2_reduce512_48 6 rfl rfl)
theorem dX2_reduce512_1127 : decode cX2_reduce512 1127 = .ok (.lstore_n 1, 1) := dk_64 (dk_at dksX2_reduce512_48 7 rfl rfl)
theorem dX2_reduce512_1128 : decode cX2_reduce512 1128 = .ok (.lload_n 3, 1) := dk_33 (dk_at dksX2_reduce512_48 8 rfl rfl)
theorem dX2_reduce512_1129 : decode cX2_reduce512 1129 = .ok (.lload 19, 2) := dk_22 19 (dk_at dksX2_reduce512_48 9 rfl rfl)
theorem dX2_reduce512_1131 : decode cX2_reduce512 1131 = .ok (.ldc2_w 44, 3) := dk_20 0 44 (dk_at dksX2_reduce512_48 11 rfl rfl)
theorem dX2_reduce512_1134 : decode cX2_reduce512 1134 = .ok (.land, 1) := dk_127 (dk_at dksX2_reduce512_48 14 rfl rfl)
theorem dX2_reduce512_1135 : decode cX2_reduce512 1135 = .ok (.ladd, 1) := dk_97 (dk_at dksX2_reduce512_48 15 rfl rfl)
theorem dX2_reduce512_1136 : decode cX2_reduce512 1136 = .ok (.lstore_n 3, 1) := dk_66 (dk_at dksX2_reduce512_48 16 rfl rfl)
theorem dX2_reduce512_1137 : decode cX2_reduce512 1137 = .ok (.lload 5, 2) := dk_22 5 (dk_at dksX2_reduce512_48 17 rfl rfl)
theorem dX2_reduce512_1139 : decode cX2_reduce512 1139 = .ok (.lload 19, 2) := dk_22 19 (dk_at dksX2_reduce512_48 19 rfl rfl)
theorem dX2_reduce512_1141 : decode cX2_reduce512 1141 = .ok (.ldc2_w 46, 3) := dk_20 0 46 (dk_at dksX2_reduce512_48 21 rfl rfl)
theorem dX2_reduce512_1144 : decode cX2_reduce512 1144 = .ok (.land, 1) := dk_127 (dk_at dksX2_reduce512_49 0 rfl rfl)
theorem dX2_reduce512_1145 : decode cX2_reduce512 1145 = .ok (.ladd, 1) := dk_97 (dk_at dksX2_reduce512_49 1 rfl rfl)
theorem dX2_reduce512_1146 : decode cX2_reduce512 1146 = .ok (.lstore 5, 2) := dk_55 5 (dk_at dksX2_reduce512_49 2 rfl rfl)
theorem dX2_reduce512_1148 : decode cX2_reduce512 1148 = .ok (.lload 7, 2) := dk_22 7 (dk_at dksX2_reduce512_49 4 rfl rfl)
theorem dX2_reduce512_1150 : decode cX2_reduce512 1150 = .ok (.lload 19, 2) := dk_22 19 (dk_at dksX2_reduce512_49 6 rfl rfl)
theorem dX2_reduce512_1152 : decode cX2_reduce512 1152 = .ok (.ldc2_w 48, 3) := dk_20 0 48 (dk_at dksX2_reduce512_49 8 rfl rfl)
theorem dX2_reduce512_1155 : decode cX2_reduce512 1155 = .ok (.land, 1) := dk_127 (dk_at dksX2_reduce512_49 11 rfl rfl)
theorem dX2_reduce512_1156 : decode cX2_reduce512 1156 = .ok (.ladd, 1) := dk_97 (dk_at dksX2_reduce512_49 12 rfl rfl)
theorem dX2_reduce512_1157 : decode cX2_reduce512 1157 = .ok (.lstore 7, 2) := dk_55 7 (dk_at dksX2_reduce512_49 13 rfl rfl)
theorem dX2_reduce512_1159 : decode cX2_reduce512 1159 = .ok (.lload 9, 2) := dk_22 9 (dk_at dksX2_reduce512_49 15 rfl rfl)
theorem dX2_reduce512_1161 : decode cX2_reduce512 1161 = .ok (.lload 19, 2) := dk_22 19 (dk_at dksX2_reduce512_49 17 rfl rfl)
theorem dX2_reduce512_1163 : decode cX2_reduce512 1163 = .ok (.ldc2_w 50, 3) := dk_20 0 50 (dk_at dksX2_reduce512_49 19 rfl rfl)
theorem dX2_reduce512_1166 : decode cX2_reduce512 1166 = .ok (.land, 1) := dk_127 (dk_at dksX2_reduce512_49 22 rfl rfl)
theorem dX2_reduce512_1167 : decode cX2_reduce512 1167 = .ok (.ladd, 1) := dk_97 (dk_at dksX2_reduce512_49 23 rfl rfl)
theorem dX2_reduce512_1168 : decode cX2_reduce512 1168 = .ok (.lstore 9, 2) := dk_55 9 (dk_at dksX2_reduce512_50 0 rfl rfl)
theorem dX2_reduce512_1170 : decode cX2_reduce512 1170 = .ok (.lload_n 3, 1) := dk_33 (dk_at dksX2_reduce512_50 2 rfl rfl)
theorem dX2_reduce512_1171 : decode cX2_reduce512 1171 = .ok (.lload_n 1, 1) := dk_31 (dk_at dksX2_reduce512_50 3 rfl rfl)
theorem dX2_reduce512_1172 : decode cX2_reduce512 1172 = .ok (.bipush 28, 2) := dk_16 28 (dk_at dksX2_reduce512_50 4 rfl rfl)
theorem dX2_reduce512_1174 : decode cX2_reduce512 1174 = .ok (.lshr, 1) := dk_123 (dk_at dksX2_reduce512_50 6 rfl rfl)
theorem dX2_reduce512_1175 : decode cX2_reduce512 1175 = .ok (.ladd, 1) := dk_97 (dk_at dksX2_reduce512_50 7 rfl rfl)
theorem dX2_reduce512_1176 : decode cX2_reduce512 1176 = .ok (.lstore_n 3, 1) := dk_66 (dk_at dksX2_reduce512_50 8 rfl rfl)
theorem dX2_reduce512_1177 : decode cX2_reduce512 1177 = .ok (.lload_n 1, 1) := dk_31 (dk_at dksX2_reduce512_50 9 rfl rfl)
theorem dX2_reduce512_1178 : decode cX2_reduce512 1178 = .ok (.ldc2_w 40, 3) := dk_20 0 40 (dk_at dksX2_reduce512_50 10 rfl rfl)
theorem dX2_reduce512_1181 : decode cX2_reduce512 1181 = .ok (.land, 1) := dk_127 (dk_at dksX2_reduce512_50 13 rfl rfl)
theorem dX2_reduce512_1182 : decode cX2_reduce512 1182 = .ok (.lstore_n 1, 1) := dk_64 (dk_at dksX2_reduce512_50 14 rfl rfl)
theorem dX2_reduce512_1183 : decode cX2_reduce512 1183 = .ok (.lload 5, 2) := dk_22 5 (dk_at dksX2_reduce512_50 15 rfl rfl)
theorem dX2_reduce512_1185 : decode cX2_reduce512 1185 = .ok (.lload_n 3, 1) := dk_33 (dk_at dksX2_reduce512_50 17 rfl rfl)
theorem dX2_reduce512_1186 : decode cX2_reduce512 1186 = .ok (.bipush 28, 2) := dk_16 28 (dk_at dksX2_reduce512_50 18 rfl rfl)
theorem dX2_reduce512_1188 : decode cX2_reduce512 1188 = .ok (.lshr, 1) := dk_123 (dk_at dksX2_reduce512_50 20 rfl rfl)
theorem dX2_reduce512_1189 : decode cX2_reduce512 1189 = .ok (.ladd, 1) := dk_97 (dk_at dksX2_reduce512_50 21 rfl rfl)
theorem dX2_reduce512_1190 : decode cX2_reduce512 1190 = .ok (.lstore 5, 2) := dk_55 5 (dk_at dksX2_reduce512_50 22 rfl rfl)
theorem dX2_reduce512_1192 : decode cX2_reduce512 1192 = .ok (.lload_n 3, 1) := dk_33 (dk_at dksX2_reduce512_51 0 rfl rfl)
theorem dX2_reduce512_1193 : decode cX2_reduce512 1193 = .ok (.ldc2_w 40, 3) := dk_20 0 40 (dk_at dksX2_reduce512_51 1 rfl rfl)
theorem dX2_reduce512_1196 : decode cX2_reduce512 1196 = .ok (.land, 1) := dk_127 (dk_at dksX2_reduce512_51 4 rfl rfl)
theorem dX2_reduce512_1197 : decode cX2_reduce512 1197 = .ok (.lstore_n 3, 1) := dk_66 (dk_at dksX2_reduce512_51 5 rfl rfl)
theorem dX2_reduce512_1198 : decode cX2_reduce512 1198 = .ok (.lload 7, 2) := dk_22 7 (dk_at dksX2_reduce512_51 6 rfl rfl)
theorem dX2_reduce512_1200 : decode cX2_reduce512 1200 = .ok (.lload 5, 2) := dk_22 5 (dk_at dksX2_reduce512_51 8 rfl rfl)
theorem dX2_reduce512_1202 : decode cX2_reduce512 1202 = .ok (.bipush 28, 2) := dk_16 28 (dk_at dksX2_reduce512_51 10 rfl rfl)
theorem dX2_reduce512_1204 : decode cX2_reduce512 1204 = .ok (.lshr, 1) := dk_123 (dk_at dksX2_reduce512_51 12 rfl rfl)
theorem dX2_reduce512_1205 : decode cX2_reduce512 1205 = .ok (.ladd, 1) := dk_97 (dk_at dksX2_reduce512_51 13 rfl rfl)
theorem dX2_reduce512_1206 : decode cX2_reduce512 1206 = .ok (.lstore 7, 2) := dk_55 7 (dk_at dksX2_reduce512_51 14 rfl rfl)
theorem dX2_reduce512_1208 : decode cX2_reduce512 1208 = .ok (.lload 5, 2) := dk_22 5 (dk_at dksX2_reduce512_51 16 rfl rfl)
theorem dX2_reduce512_1210 : decode cX2_reduce512 1210 = .ok (.ldc2_w 40, 3) := dk_20 0 40 (dk_at dksX2_reduce512_51 18 rfl rfl)
theorem dX2_reduce512_1213 : decode cX2_reduce512 1213 = .ok (.land, 1) := dk_127 (dk_at dksX2_reduce512_51 21 rfl rfl)
theorem dX2_reduce512_1214 : decode cX2_reduce512 1214 = .ok (.lstore 5, 2) := dk_55 5 (dk_at dksX2_reduce512_51 22 rfl rfl)
theorem dX2_reduce512_1216 : decode cX2_reduce512 1216 = .ok (.lload 9, 2) := dk_22 9 (dk_at dksX2_reduce512_52 0 rfl rfl)
theorem dX2_reduce512_1218 : decode cX2_reduce512 1218 = .ok (.lload 7, 2) := dk_22 7 (dk_at dksX2_reduce512_52 2 rfl rfl)
theorem dX2_reduce512_1220 : decode cX2_reduce512 1220 = .ok (.bipush 28, 2) := dk_16 28 (dk_at dksX2_reduce512_52 4 rfl rfl)
theorem dX2_reduce512_1222 : decode cX2_reduce512 1222 = .ok (.lshr, 1) := dk_123 (dk_at dksX2_reduce512_52 6 rfl rfl)
theorem dX2_reduce512_1223 : decode cX2_reduce512 1223 = .ok (.ladd, 1) := dk_97 (dk_at dksX2_reduce512_52 7 rfl rfl)
theorem dX2_reduce512_1224 : decode cX2_reduce512 1224 = .ok (.lstore 9, 2) := dk_55 9 (dk_at dksX2_reduce512_52 8 rfl rfl)
theorem dX2_reduce512_1226 : decode cX2_reduce512 1226 = .ok (.lload 7, 2) := dk_22 7 (dk_at dksX2_reduce512_52 10 rfl rfl)
theorem dX2_reduce512_1228 : decode cX2_reduce512 1228 = .ok (.ldc2_w 40, 3) := dk_20 0 40 (dk_at dksX2_reduce512_52 12 rfl rfl)
theorem dX2_reduce512_1231 : decode cX2_reduce512 1231 = .ok (.land, 1) := dk_127 (dk_at dksX2_reduce512_52 15 rfl rfl)
theorem dX2_reduce512_1232 : decode cX2_reduce512 1232 = .ok (.lstore 7, 2) := dk_55 7 (dk_at dksX2_reduce512_52 16 rfl rfl)
theorem dX2_reduce512_1234 : decode cX2_reduce512 1234 = .ok (.lload 11, 2) := dk_22 11 (dk_at dksX2_reduce512_52 18 rfl rfl)
theorem dX2_reduce512_1236 : decode cX2_reduce512 1236 = .ok (.lload 9, 2) := dk_22 9 (dk_at dksX2_reduce512_52 20 rfl rfl)
theorem dX2_reduce512_1238 : decode cX2_reduce512 1238 = .ok (.bipush 28, 2) := dk_16 28 (dk_at dksX2_reduce512_52 22 rfl rfl)
theorem dX2_reduce512_1240 : decode cX2_reduce512 1240 = .ok (.lshr, 1) := dk_123 (dk_at dksX2_reduce512_53 0 rfl rfl)
theorem dX2_reduce512_1241 : decode cX2_reduce512 1241 = .ok (.ladd, 1) := dk_97 (dk_at dksX2_reduce512_53 1 rfl rfl)
theorem dX2_reduce512_1242 : decode cX2_reduce512 1242 = .ok (.lstore 11, 2) := dk_55 11 (dk_at dksX2_reduce512_53 2 rfl rfl)
theorem dX2_reduce512_1244 : decode cX2_reduce512 1244 = .ok (.lload 9, 2) := dk_22 9 (dk_at dksX2_reduce512_53 4 rfl rfl)
theorem dX2_reduce512_1246 : decode cX2_reduce512 1246 = .ok (.ldc2_w 40, 3) := dk_20 0 40 (dk_at dksX2_reduce512_53 6 rfl rfl)
theorem dX2_reduce512_1249 : decode cX2_reduce512 1249 = .ok (.land, 1) := dk_127 (dk_at dksX2_reduce512_53 9 rfl rfl)
theorem dX2_reduce512_1250 : decode cX2_reduce512 1250 = .ok (.lstore 9, 2) := dk_55 9 (dk_at dksX2_reduce512_53 10 rfl rfl)
theorem dX2_reduce512_1252 : decode cX2_reduce512 1252 = .ok (.lload 13, 2) := dk_22 13 (dk_at dksX2_reduce512_53 12 rfl rfl)
theorem dX2_reduce512_1254 : decode cX2_reduce512 1254 = .ok (.lload 11, 2) := dk_22 11 (dk_at dksX2_reduce512_53 14 rfl rfl)
theorem dX2_reduce512_1256 : decode cX2_reduce512 1256 = .ok (.bipush 28, 2) := dk_16 28 (dk_at dksX2_reduce512_53 16 rfl rfl)
theorem dX2_reduce512_1258 : decode cX2_reduce512 1258 = .ok (.lshr, 1) := dk_123 (dk_at dksX2_reduce512_53 18 rfl rfl)
theorem dX2_reduce512_1259 : decode cX2_reduce512 1259 = .ok (.ladd, 1) := dk_97 (dk_at dksX2_reduce512_53 19 rfl rfl)
theorem dX2_reduce512_1260 : decode cX2_reduce512 1260 = .ok (.lstore 13, 2) := dk_55 13 (dk_at dksX2_reduce512_53 20 rfl rfl)
theorem dX2_reduce512_1262 : decode cX2_reduce512 1262 = .ok (.lload 11, 2) := dk_22 11 (dk_at dksX2_reduce512_53 22 rfl rfl)
theorem dX2_reduce512_1264 : decode cX2_reduce512 1264 = .ok (.ldc2_w 40, 3) := dk_20 0 40 (dk_at dksX2_reduce512_54 0 rfl rfl)
theorem dX2_reduce512_1267 : decode cX2_reduce512 1267 = .ok (.land, 1) := dk_127 (dk_at dksX2_reduce512_54 3 rfl rfl)
theorem dX2_reduce512_1268 : decode cX2_reduce512 1268 = .ok (.lstore 11, 2) := dk_55 11 (dk_at dksX2_reduce512_54 4 rfl rfl)
theorem dX2_reduce512_1270 : decode cX2_reduce512 1270 = .ok (.lload 15, 2) := dk_22 15 (dk_at dksX2_reduce512_54 6 rfl rfl)
theorem dX2_reduce512_1272 : decode cX2_reduce512 1272 = .ok (.lload 13, 2) := dk_22 13 (dk_at dksX2_reduce512_54 8 rfl rfl)
theorem dX2_reduce512_1274 : decode cX2_reduce512 1274 = .ok (.bipush 28, 2) := dk_16 28 (dk_at dksX2_reduce512_54 10 rfl rfl)
theorem dX2_reduce512_1276 : decode cX2_reduce512 1276 = .ok (.lshr, 1) := dk_123 (dk_at dksX2_reduce512_54 12 rfl rfl)
theorem dX2_reduce512_1277 : decode cX2_reduce512 1277 = .ok (.ladd, 1) := dk_97 (dk_at dksX2_reduce512_54 13 rfl rfl)
theorem dX2_reduce512_1278 : decode cX2_reduce512 1278 = .ok (.lstore 15, 2) := dk_55 15 (dk_at dksX2_reduce512_54 14 rfl rfl)
theorem dX2_reduce512_1280 : decode cX2_reduce512 1280 = .ok (.lload 13, 2) := dk_22 13 (dk_at dksX2_reduce512_54 16 rfl rfl)
theorem dX2_reduce512_1282 : decode cX2_reduce512 1282 = .ok (.ldc2_w 40, 3) := dk_20 0 40 (dk_at dksX2_reduce512_54 18 rfl rfl)
theorem dX2_reduce512_1285 : decode cX2_reduce512 1285 = .ok (.land, 1) := dk_127 (dk_at dksX2_reduce512_54 21 rfl rfl)
theorem dX2_reduce512_1286 : decode cX2_reduce512 1286 = .ok (.lstore 13, 2) := dk_55 13 (dk_at dksX2_reduce512_54 22 rfl rfl)
theorem dX2_reduce512_1288 : decode cX2_reduce512 1288 = .ok (.lload 17, 2) := dk_22 17 (dk_at dksX2_reduce512_55 0 rfl rfl)
theorem dX2_reduce512_1290 : decode cX2_reduce512 1290 = .ok (.lload 15, 2) := dk_22 15 (dk_at dksX2_reduce512_55 2 rfl rfl)
theorem dX2_reduce512_1292 : decode cX2_reduce512 1292 = .ok (.bipush 28, 2) := dk_16 28 (dk_at dksX2_reduce512_55 4 rfl rfl)
theorem dX2_reduce512_1294 : decode cX2_reduce512 1294 = .ok (.lshr, 1) := dk_123 (dk_at dksX2_reduce512_55 6 rfl rfl)
theorem dX2_reduce512_1295 : decode cX2_reduce512 1295 = .ok (.ladd, 1) := dk_97 (dk_at dksX2_reduce512_55 7 rfl rfl)
theorem dX2_reduce512_1296 : decode cX2_reduce512 1296 = .ok (.lstore 17, 2) := dk_55 17 (dk_at dksX2_reduce512_55 8 rfl rfl)
theorem dX2_reduce512_1298 : decode cX2_reduce512 1298 = .ok (.lload 15, 2) := dk_22 15 (dk_at dksX2_reduce512_55 10 rfl rfl)
theorem dX2_reduce512_1300 : decode cX2_reduce512 1300 = .ok (.ldc2_w 40, 3) := dk_20 0 40 (dk_at dksX2_reduce512_55 12 rfl rfl)
theorem dX2_reduce512_1303 : decode cX2_reduce512 1303 = .ok (.land, 1) := dk_127 (dk_at dksX2_reduce512_55 15 rfl rfl)
theorem dX2_reduce512_1304 : decode cX2_reduce512 1304 = .ok (.lstore 15, 2) := dk_55 15 (dk_at dksX2_reduce512_55 16 rfl rfl)
theorem dX2_reduce512_1306 : decode cX2_reduce512 1306 = .ok (.bipush 32, 2) := dk_16 32 (dk_at dksX2_reduce512_55 18 rfl rfl)
theorem dX2_reduce512_1308 : decode cX2_reduce512 1308 = .ok (.newarray .byte, 2) := dk_188_8 (dk_at dksX2_reduce512_55 20 rfl rfl)
theorem dX2_reduce512_1310 : decode cX2_reduce512 1310 = .ok (.astore 41, 2) := dk_58 41 (dk_at dksX2_reduce512_55 22 rfl rfl)
theorem dX2_reduce512_1312 : decode cX2_reduce512 1312 = .ok (.lload_n 1, 1) := dk_31 (dk_at dksX2_reduce512_56 0 rfl rfl)
theorem dX2_reduce512_1313 : decode cX2_reduce512 1313 = .ok (.lload_n 3, 1) := dk_33 (dk_at dksX2_reduce512_56 1 rfl rfl)
theorem dX2_reduce512_1314 : decode cX2_reduce512 1314 = .ok (.bipush 28, 2) := dk_16 28 (dk_at dksX2_reduce512_56 2 rfl rfl)
theorem dX2_reduce512_1316 : decode cX2_reduce512 1316 = .ok (.lshl, 1) := dk_121 (dk_at dksX2_reduce512_56 4 rfl rfl)
theorem dX2_reduce512_1317 : decode cX2_reduce512 1317 = .ok (.lor, 1) := dk_129 (dk_at dksX2_reduce512_56 5 rfl rfl)
theorem dX2_reduce512_1318 : decode cX2_reduce512 1318 = .ok (.aload 41, 2) := dk_25 41 (dk_at dksX2_reduce512_56 6 rfl rfl)
theorem dX2_reduce512_1320 : decode cX2_reduce512 1320 = .ok (.iconst 0, 1) := dk_3 (dk_at dksX2_reduce512_56 8 rfl rfl)
theorem dX2_reduce512_1321 : decode cX2_reduce512 1321 = .ok (.invokestatic 52, 3) := dk_184 0 52 (dk_at dksX2_reduce512_56 9 rfl rfl)
theorem dX2_reduce512_1324 : decode cX2_reduce512 1324 = .ok (.lload 5, 2) := dk_22 5 (dk_at dksX2_reduce512_56 12 rfl rfl)
theorem dX2_reduce512_1326 : decode cX2_reduce512 1326 = .ok (.lload 7, 2) := dk_22 7 (dk_at dksX2_reduce512_56 14 rfl rfl)
theorem dX2_reduce512_1328 : decode cX2_reduce512 1328 = .ok (.bipush 28, 2) := dk_16 28 (dk_at dksX2_reduce512_56 16 rfl rfl)
theorem dX2_reduce512_1330 : decode cX2_reduce512 1330 = .ok (.lshl, 1) := dk_121 (dk_at dksX2_reduce512_56 18 rfl rfl)
theorem dX2_reduce512_1331 : decode cX2_reduce512 1331 = .ok (.lor, 1) := dk_129 (dk_at dksX2_reduce512_56 19 rfl rfl)
theorem dX2_reduce512_1332 : decode cX2_reduce512 1332 = .ok (.aload 41, 2) := dk_25 41 (dk_at dksX2_reduce512_56 20 rfl rfl)
theorem dX2_reduce512_1334 : decode cX2_reduce512 1334 = .ok (.bipush 7, 2) := dk_16 7 (dk_at dksX2_reduce512_56 22 rfl rfl)
theorem dX2_reduce512_1336 : decode cX2_reduce512 1336 = .ok (.invokestatic 52, 3) := dk_184 0 52 (dk_at dksX2_reduce512_57 0 rfl rfl)
theorem dX2_reduce512_1339 : decode cX2_reduce512 1339 = .ok (.lload 9, 2) := dk_22 9 (dk_at dksX2_reduce512_57 3 rfl rfl)
theorem dX2_reduce512_1341 : decode cX2_reduce512 1341 = .ok (.lload 11, 2) := dk_22 11 (dk_at dksX2_reduce512_57 5 rfl rfl)
theorem dX2_reduce512_1343 : decode cX2_reduce512 1343 = .ok (.bipush 28, 2) := dk_16 28 (dk_at dksX2_reduce512_57 7 rfl rfl)
theorem dX2_reduce512_1345 : decode cX2_reduce512 1345 = .ok (.lshl, 1) := dk_121 (dk_at dksX2_reduce512_57 9 rfl rfl)
theorem dX2_reduce512_1346 : decode cX2_reduce512 1346 = .ok (.lor, 1) := dk_129 (dk_at dksX2_reduce512_57 10 rfl rfl)
theorem dX2_reduce512_1347 : decode cX2_reduce512 1347 = .ok (.aload 41, 2) := dk_25 41 (dk_at dksX2_reduce512_57 11 rfl rfl)
theorem dX2_reduce512_1349 : decode cX2_reduce512 1349 = .ok (.bipush 14, 2) := dk_16 14 (dk_at dksX2_reduce512_57 13 rfl rfl)
theorem dX2_reduce512_1351 : decode cX2_reduce512 1351 = .ok (.invokestatic 52, 3) := dk_184 0 52 (dk_at dksX2_reduce512_57 15 rfl rfl)
theorem dX2_reduce512_1354 : decode cX2_reduce512 1354 = .ok (.lload 13, 2) := dk_22 13 (dk_at dksX2_reduce512_57 18 rfl rfl)
theorem dX2_reduce512_1356 : decode cX2_reduce512 1356 = .ok (.lload 15, 2) := dk_22 15 (dk_at dksX2_reduce512_57 20 rfl rfl)
theorem dX2_reduce512_1358 : decode cX2_reduce512 1358 = .ok (.bipush 28, 2) := dk_16 28 (dk_at dksX2_reduce512_57 22 rfl rfl)
theorem dX2_reduce512_1360 : decode cX2_reduce512 1360 = .ok (.lshl, 1) := dk_121 (dk_at dksX2_reduce512_58 0 rfl rfl)
theorem dX2_reduce512_1361 : decode cX2_reduce512 1361 = .ok (.lor, 1) := dk_129 (dk_at dksX2_reduce512_58 1 rfl rfl)
theorem dX2_reduce512_1362 : decode cX2_reduce512 1362 = .ok (.aload 41, 2) := dk_25 41 (dk_at dksX2_reduce512_58 2 rfl rfl)
theorem dX2_reduce512_1364 : decode cX2_reduce512 1364 = .ok (.bipush 21, 2) := dk_16 21 (dk_at dksX2_reduce512_58 4 rfl rfl)
theorem dX2_reduce512_1366 : decode cX2_reduce512 1366 = .ok (.invokestatic 52, 3) := dk_184 0 52 (dk_at dksX2_reduce512_58 6 rfl rfl)
theorem dX2_reduce512_1369 : decode cX2_reduce512 1369 = .ok (.lload 17, 2) := dk_22 17 (dk_at dksX2_reduce512_58 9 rfl rfl)
theorem dX2_reduce512_1371 : decode cX2_reduce512 1371 = .ok (.l2i, 1) := dk_136 (dk_at dksX2_reduce512_58 11 rfl rfl)
theorem dX2_reduce512_1372 : decode cX2_reduce512 1372 = .ok (.aload 41, 2) := dk_25 41 (dk_at dksX2_reduce512_58 12 rfl rfl)
theorem dX2_reduce512_1374 : decode cX2_reduce512 1374 = .ok (.bipush 28, 2) := dk_16 28 (dk_at dksX2_reduce512_58 14 rfl rfl)
theorem dX2_reduce512_1376 : decode cX2_reduce512 1376 = .ok (.invokestatic 56, 3) := dk_184 0 56 (dk_at dksX2_reduce512_58 16 rfl rfl)
theorem dX2_reduce512_1379 : decode cX2_reduce512 1379 = .ok (.aload 41, 2) := dk_25 41 (dk_at dksX2_reduce512_58 19 rfl rfl)
theorem dX2_reduce512_1381 : decode cX2_reduce512 1381 = .ok (.areturn, 1) := dk_176 (dk_at dksX2_reduce512_58 21 rfl rfl)
abbrev cX2_reduce384 : ByteArray := prog_3_method_4_code
def yX2_reduce384 : MethodName := ⟨RX2, "reduce384", "([B)[B"⟩
def dkwX2_reduce384_42 : List UInt8 := [22, 17, 136, 25, 31, 16, 28, 184, 0, 56, 25, 31, 176]
abbrev dktX2_reduce384_42 : List UInt8 := dkwX2_reduce384_42 ++ []
def dkwX2_reduce384_41 : List UInt8 := [121, 129, 25, 31, 16, 14, 184, 0, 52, 22, 13, 22, 15, 16, 28, 121, 129, 25, 31, 16, 21, 184, 0, 52]
abbrev dktX2_reduce384_41 : List UInt8 := dkwX2_reduce384_41 ++ dktX2_reduce384_42
def dkwX2_reduce384_40 : List UInt8 := [184, 0, 52, 22, 5, 22, 7, 16, 28, 121, 129, 25, 31, 16, 7, 184, 0, 52, 22, 9, 22, 11, 16, 28]
abbrev dktX2_reduce384_40 : List UInt8 := dkwX2_reduce384_40 ++ dktX2_reduce384_41
def dkwX2_reduce384_39 : List UInt8 := [22, 15, 20, 0, 40, 127, 55, 15, 16, 64, 188, 8, 58, 31, 31, 33, 16, 28, 121, 129, 25, 31, 3]
abbrev dktX2_reduce384_39 : List UInt8 := dkwX2_reduce384_39 ++ dktX2_reduce384_40
def dkwX2_reduce384_38 : List UInt8 := [16, 28, 123, 97, 55, 15, 22, 13, 20, 0, 40, 127, 55, 13, 22, 17, 22, 15, 16, 28, 123, 97, 55, 17]
abbrev dktX2_reduce384_38 : List UInt8 := dkwX2_reduce384_38 ++ dktX2_reduce384_39
def dkwX2_reduce384_37 : List UInt8 := [55, 9, 22, 13, 22, 11, 16, 28, 123, 97, 55, 13, 22, 11, 20, 0, 40, 127, 55, 11, 22, 15, 22, 13]
abbrev dktX2_reduce384_37 : List UInt8 := dkwX2_reduce384_37 ++ dktX2_reduce384_38
def dkwX2_reduce384_36 : List UInt8 := [22, 7, 20, 0, 40, 127, 55, 7, 22, 11, 22, 9, 16, 28, 123, 97, 55, 11, 22, 9, 20, 0, 40, 127]
abbrev dktX2_reduce384_36 : List UInt8 := dkwX2_reduce384_36 ++ dktX2_reduce384_37
def dkwX2_reduce384_35 : List UInt8 := [16, 28, 123, 97, 55, 7, 22, 5, 20, 0, 40, 127, 55, 5, 22, 9, 22, 7, 16, 28, 123, 97, 55, 9]
abbrev dktX2_reduce384_35 : List UInt8 := dkwX2_reduce384_35 ++ dktX2_reduce384_36
def dkwX2_reduce384_34 : List UInt8 := [20, 0, 40, 127, 64, 22, 5, 33, 16, 28, 123, 97, 55, 5, 33, 20, 0, 40, 127, 66, 22, 7, 22, 5]
abbrev dktX2_reduce384_34 : List UInt8 := dkwX2_reduce384_34 ++ dktX2_reduce384_35
def dkwX2_reduce384_33 : List UInt8 := [127, 97, 55, 7, 22, 9, 22, 19, 20, 0, 50, 127, 97, 55, 9, 33, 31, 16, 28, 123, 97, 66, 31]
abbrev dktX2_reduce384_33 : List UInt8 := dkwX2_reduce384_33 ++ dktX2_reduce384_34
def dkwX2_reduce384_32 : List UInt8 := [20, 0, 44, 127, 97, 66, 22, 5, 22, 19, 20, 0, 46, 127, 97, 55, 5, 22, 7, 22, 19, 20, 0, 48]
abbrev dktX2_reduce384_32 : List UInt8 := dkwX2_reduce384_32 ++ dktX2_reduce384_33
def dkwX2_reduce384_31 : List UInt8 := [127, 55, 17, 22, 19, 22, 29, 101, 55, 19, 31, 22, 19, 20, 0, 42, 127, 97, 64, 33, 22, 19]
abbrev dktX2_reduce384_31 : List UInt8 := dkwX2_reduce384_31 ++ dktX2_reduce384_32
def dkwX2_reduce384_30 : List UInt8 := [123, 97, 55, 17, 22, 15, 20, 0, 40, 127, 55, 15, 22, 17, 16, 28, 123, 55, 19, 22, 17, 20, 0, 40]
abbrev dktX2_reduce384_30 : List UInt8 := dkwX2_reduce384_30 ++ dktX2_reduce384_31
def dkwX2_reduce384_29 : List UInt8 := [22, 15, 22, 13, 16, 28, 123, 97, 55, 15, 22, 13, 20, 0, 40, 127, 55, 13, 22, 17, 22, 15, 16, 28]
abbrev dktX2_reduce384_29 : List UInt8 := dkwX2_reduce384_29 ++ dktX2_reduce384_30
def dkwX2_reduce384_28 : List UInt8 := [20, 0, 40, 127, 55, 9, 22, 13, 22, 11, 16, 28, 123, 97, 55, 13, 22, 11, 20, 0, 40, 127, 55, 11]
abbrev dktX2_reduce384_28 : List UInt8 := dkwX2_reduce384_28 ++ dktX2_reduce384_29
def dkwX2_reduce384_27 : List UInt8 := [55, 9, 22, 7, 20, 0, 40, 127, 55, 7, 22, 11, 22, 9, 16, 28, 123, 97, 55, 11, 22, 9]
abbrev dktX2_reduce384_27 : List UInt8 := dkwX2_reduce384_27 ++ dktX2_reduce384_28
def dkwX2_reduce384_26 : List UInt8 := [22, 5, 16, 28, 123, 97, 55, 7, 22, 5, 20, 0, 40, 127, 55, 5, 22, 9, 22, 7, 16, 28, 123, 97]
abbrev dktX2_reduce384_26 : List UInt8 := dkwX2_reduce384_26 ++ dktX2_reduce384_27
def dkwX2_reduce384_25 : List UInt8 := [66, 31, 20, 0, 40, 127, 64, 22, 5, 33, 16, 28, 123, 97, 55, 5, 33, 20, 0, 40, 127, 66, 22, 7]
abbrev dktX2_reduce384_25 : List UInt8 := dkwX2_reduce384_25 ++ dktX2_reduce384_26
def dkwX2_reduce384_24 : List UInt8 := [20, 0, 48, 105, 101, 55, 7, 22, 9, 22, 19, 20, 0, 50, 105, 101, 55, 9, 33, 31, 16, 28, 123, 97]
abbrev dktX2_reduce384_24 : List UInt8 := dkwX2_reduce384_24 ++ dktX2_reduce384_25
def dkwX2_reduce384_23 : List UInt8 := [22, 19, 20, 0, 44, 105, 101, 66, 22, 5, 22, 19, 20, 0, 46, 105, 101, 55, 5, 22, 7, 22, 19]
abbrev dktX2_reduce384_23 : List UInt8 := dkwX2_reduce384_23 ++ dktX2_reduce384_24
def dkwX2_reduce384_22 : List UInt8 := [22, 17, 16, 27, 125, 55, 29, 22, 19, 22, 29, 97, 55, 19, 31, 22, 19, 20, 0, 42, 105, 101, 64, 33]
abbrev dktX2_reduce384_22 : List UInt8 := dkwX2_reduce384_22 ++ dktX2_reduce384_23
def dkwX2_reduce384_21 : List UInt8 := [20, 0, 40, 127, 55, 15, 22, 19, 22, 17, 16, 28, 123, 97, 55, 19, 22, 17, 20, 0, 40, 127, 55, 17]
abbrev dktX2_reduce384_21 : List UInt8 := dkwX2_reduce384_21 ++ dktX2_reduce384_22
def dkwX2_reduce384_20 : List UInt8 := [22, 11, 22, 21, 20, 0, 50, 105, 101, 55, 11, 22, 17, 22, 15, 16, 28, 123, 97, 55, 17, 22, 15]
abbrev dktX2_reduce384_20 : List UInt8 := dkwX2_reduce384_20 ++ dktX2_reduce384_21
def dkwX2_reduce384_19 : List UInt8 := [55, 5, 22, 7, 22, 21, 20, 0, 46, 105, 101, 55, 7, 22, 9, 22, 21, 20, 0, 48, 105, 101, 55, 9]
abbrev dktX2_reduce384_19 : List UInt8 := dkwX2_reduce384_19 ++ dktX2_reduce384_20
def dkwX2_reduce384_18 : List UInt8 := [20, 0, 40, 127, 55, 19, 33, 22, 21, 20, 0, 42, 105, 101, 66, 22, 5, 22, 21, 20, 0, 44, 105, 101]
abbrev dktX2_reduce384_18 : List UInt8 := dkwX2_reduce384_18 ++ dktX2_reduce384_19
def dkwX2_reduce384_17 : List UInt8 := [22, 13, 22, 23, 20, 0, 50, 105, 101, 55, 13, 22, 21, 22, 19, 16, 28, 123, 97, 55, 21, 22, 19]
abbrev dktX2_reduce384_17 : List UInt8 := dkwX2_reduce384_17 ++ dktX2_reduce384_18
def dkwX2_reduce384_16 : List UInt8 := [55, 7, 22, 9, 22, 23, 20, 0, 46, 105, 101, 55, 9, 22, 11, 22, 23, 20, 0, 48, 105, 101, 55, 11]
abbrev dktX2_reduce384_16 : List UInt8 := dkwX2_reduce384_16 ++ dktX2_reduce384_17
def dkwX2_reduce384_15 : List UInt8 := [127, 55, 21, 22, 5, 22, 23, 20, 0, 42, 105, 101, 55, 5, 22, 7, 22, 23, 20, 0, 44, 105, 101]
abbrev dktX2_reduce384_15 : List UInt8 := dkwX2_reduce384_15 ++ dktX2_reduce384_16
def dkwX2_reduce384_14 : List UInt8 := [22, 25, 20, 0, 50, 105, 101, 55, 15, 22, 23, 22, 21, 16, 28, 123, 97, 55, 23, 22, 21, 20, 0, 40]
abbrev dktX2_reduce384_14 : List UInt8 := dkwX2_reduce384_14 ++ dktX2_reduce384_15
def dkwX2_reduce384_13 : List UInt8 := [22, 11, 22, 25, 20, 0, 46, 105, 101, 55, 11, 22, 13, 22, 25, 20, 0, 48, 105, 101, 55, 13, 22, 15]
abbrev dktX2_reduce384_13 : List UInt8 := dkwX2_reduce384_13 ++ dktX2_reduce384_14
def dkwX2_reduce384_12 : List UInt8 := [55, 23, 22, 7, 22, 25, 20, 0, 42, 105, 101, 55, 7, 22, 9, 22, 25, 20, 0, 44, 105, 101, 55, 9]
abbrev dktX2_reduce384_12 : List UInt8 := dkwX2_reduce384_12 ++ dktX2_reduce384_13
def dkwX2_reduce384_11 : List UInt8 := [20, 0, 50, 105, 101, 55, 17, 22, 25, 22, 23, 16, 28, 123, 97, 55, 25, 22, 23, 20, 0, 40, 127]
abbrev dktX2_reduce384_11 : List UInt8 := dkwX2_reduce384_11 ++ dktX2_reduce384_12
def dkwX2_reduce384_10 : List UInt8 := [22, 27, 20, 0, 46, 105, 101, 55, 13, 22, 15, 22, 27, 20, 0, 48, 105, 101, 55, 15, 22, 17, 22, 27]
abbrev dktX2_reduce384_10 : List UInt8 := dkwX2_reduce384_10 ++ dktX2_reduce384_11
def dkwX2_reduce384_9 : List UInt8 := [22, 9, 22, 27, 20, 0, 42, 105, 101, 55, 9, 22, 11, 22, 27, 20, 0, 44, 105, 101, 55, 11, 22, 13]
abbrev dktX2_reduce384_9 : List UInt8 := dkwX2_reduce384_9 ++ dktX2_reduce384_10
def dkwX2_reduce384_8 : List UInt8 := [20, 0, 32, 127, 55, 27, 22, 27, 22, 25, 16, 28, 123, 97, 55, 27, 22, 25, 20, 0, 40, 127, 55, 25]
abbrev dktX2_reduce384_8 : List UInt8 := dkwX2_reduce384_8 ++ dktX2_reduce384_9
def dkwX2_reduce384_7 : List UInt8 := [55, 23, 42, 16, 42, 184, 0, 29, 133, 20, 0, 32, 127, 55, 25, 42, 16, 46, 184, 0, 37, 7, 120, 133]
abbrev dktX2_reduce384_7 : List UInt8 := dkwX2_reduce384_7 ++ dktX2_reduce384_8
def dkwX2_reduce384_6 : List UInt8 := [184, 0, 29, 133, 20, 0, 32, 127, 55, 21, 42, 16, 39, 184, 0, 34, 7, 120, 133, 20, 0, 32, 127]
abbrev dktX2_reduce384_6 : List UInt8 := dkwX2_reduce384_6 ++ dktX2_reduce384_7
def dkwX2_reduce384_5 : List UInt8 := [20, 0, 32, 127, 55, 17, 42, 16, 32, 184, 0, 34, 7, 120, 133, 20, 0, 32, 127, 55, 19, 42, 16, 35]
abbrev dktX2_reduce384_5 : List UInt8 := dkwX2_reduce384_5 ++ dktX2_reduce384_6
def dkwX2_reduce384_4 : List UInt8 := [55, 13, 42, 16, 25, 184, 0, 34, 7, 120, 133, 20, 0, 32, 127, 55, 15, 42, 16, 28, 184, 0, 29, 133]
abbrev dktX2_reduce384_4 : List UInt8 := dkwX2_reduce384_4 ++ dktX2_reduce384_5
def dkwX2_reduce384_3 : List UInt8 := [184, 0, 34, 7, 120, 133, 20, 0, 32, 127, 55, 11, 42, 16, 21, 184, 0, 29, 133, 20, 0, 32, 127]
abbrev dktX2_reduce384_3 : List UInt8 := dkwX2_reduce384_3 ++ dktX2_reduce384_4
def dkwX2_reduce384_2 : List UInt8 := [20, 0, 32, 127, 55, 7, 42, 16, 14, 184, 0, 29, 133, 20, 0, 32, 127, 55, 9, 42, 16, 18]
abbrev dktX2_reduce384_2 : List UInt8 := dkwX2_reduce384_2 ++ dktX2_reduce384_3
def dkwX2_reduce384_1 : List UInt8 := [42, 16, 7, 184, 0, 29, 133, 20, 0, 32, 127, 55, 5, 42, 16, 11, 184, 0, 34, 7, 120, 133]
abbrev dktX2_reduce384_1 : List UInt8 := dkwX2_reduce384_1 ++ dktX2_reduce384_2
def dkwX2_reduce384_0 : List UInt8 := [42, 3, 184, 0, 29, 133, 20, 0, 32, 127, 64, 42, 7, 184, 0, 34, 7, 120, 133, 20, 0, 32, 127, 66]
abbrev dktX2_reduce384_0 : List UInt8 := dkwX2_reduce384_0 ++ dktX2_reduce384_1
theorem dksX2_reduce384_0 : cX2_reduce384.data.toList.drop 0 = dktX2_reduce384_0 := by decide +kernel
theorem dksX2_reduce384_1 : cX2_reduce384.data.toList.drop 24 = dktX2_reduce384_1 := dk_seg dksX2_reduce384_0 24 rfl rfl
theorem dksX2_reduce384_2 : cX2_reduce384.data.toList.drop 46 = dktX2_reduce384_2 := dk_seg dksX2_reduce384_1 22 rfl rfl
theorem dksX2_reduce384_3 : cX2_reduce384.data.toList.drop 68 = dktX2_reduce384_3 := dk_seg dksX2_reduce384_2 22 rfl rfl
theorem dksX2_reduce384_4 : cX2_reduce384.data.toList.drop 91 = dktX2_reduce384_4 := dk_seg dksX2_reduce384_3 23 rfl rfl
theorem dksX2_reduce384_5 : cX2_reduce384.data.toList.drop 115 = dktX2_reduce384_5 := dk_seg dksX2_reduce384_4 24 rfl rfl
theorem dksX2_reduce384_6 : cX2_reduce384.data.toList.drop 139 = dktX2_reduce384_6 := dk_seg dksX2_reduce384_5 24 rfl rfl
theorem dksX2_reduce384_7 : cX2_reduce384.data.toList.drop 162 = dktX2_reduce384_7 := dk_seg dksX2_reduce384_6 23 rfl rfl
theorem dksX2_reduce384_8 : cX2_reduce384.data.toList.drop 186 = dktX2_reduce384_8 := dk_seg dksX2_reduce384_7 24 rfl rfl
theorem dksX2_reduce384_9 : cX2_reduce384.data.toList.drop 210 = dktX2_reduce384_9 := dk_seg dksX2_reduce384_8 24 rfl rfl
theorem dksX2_reduce384_10 : cX2_reduce384.data.toList.drop 234 = dktX2_reduce384_10 := dk_seg dksX2_reduce384_9 24 rfl rfl
theorem dksX2_reduce384_11 : cX2_reduce384.data.toList.drop 258 = dktX2_reduce384_11 := dk_seg dksX2_reduce384_10 24 rfl rfl
theorem dksX2_reduce384_12 : cX2_reduce384.data.toList.drop 281 = dktX2_reduce384_12 := dk_seg dksX2_reduce384_11 23 rfl rfl
theorem dksX2_reduce384_13 : cX2_reduce384.data.toList.drop 305 = dktX2_reduce384_13 := dk_seg dksX2_reduce384_12 24 rfl rfl
theorem dksX2_reduce384_14 : cX2_reduce384.data.toList.drop 329 = dktX2_reduce384_14 := dk_seg dksX2_reduce384_13 24 rfl rfl
theorem dksX2_reduce384_15 : cX2_reduce384.data.toList.drop 353 = dktX2_reduce384_15 := dk_seg dksX2_reduce384_14 24 rfl rfl
theorem dksX2_reduce384_16 : cX2_reduce384.data.toList.drop 376 = dktX2_reduce384_16 := dk_seg dksX2_reduce384_15 23 rfl rfl
theorem dksX2_reduce384_17 : cX2_reduce384.data.toList.drop 400 = dktX2_reduce384_17 := dk_seg dksX2_reduce384_16 24 rfl rfl
theorem dksX2_reduce384_18 : cX2_reduce384.data.toList.drop 423 = dktX2_reduce384_18 := dk_seg dksX2_reduce384_17 23 rfl rfl
theorem dksX2_reduce384_19 : cX2_reduce384.data.toList.drop 447 = dktX2_reduce384_19 := dk_seg dksX2_reduce384_18 24 rfl rfl
theorem dksX2_reduce384_20 : cX2_reduce384.data.toList.drop 471 = dktX2_reduce384_20 := dk_seg dksX2_reduce384_19 24 rfl rfl
theorem dksX2_reduce384_21 : cX2_reduce384.data.toList.drop 494 = dktX2_reduce384_21 := dk_seg dksX2_reduce384_20 23 rfl rfl
theorem dksX2_reduce384_22 : cX2_reduce384.data.toList.drop 518 = dktX2_reduce384_22 := dk_seg dksX2_reduce384_21 24 rfl rfl
theorem dksX2_reduce384_23 : cX2_reduce384.data.toList.drop 542 = dktX2_reduce384_23 := dk_seg dksX2_reduce384_22 24 rfl rfl
theorem dksX2_reduce384_24 : cX2_reduce384.data.toList.drop 565 = dktX2_reduce384_24 := dk_seg dksX2_reduce384_23 23 rfl rfl
theorem dksX2_reduce384_25 : cX2_reduce384.data.toList.drop 589 = dktX2_reduce384_25 := dk_seg dksX2_reduce384_24 24 rfl rfl
theorem dksX2_reduce384_26 : cX2_reduce384.data.toList.drop 613 = dktX2_reduce384_26 := dk_seg dksX2_reduce384_25 24 rfl rfl
theorem dksX2_reduce384_27 : cX2_reduce384.data.toList.drop 637 = dktX2_reduce384_27 := dk_seg dksX2_reduce384_26 24 rfl rfl
theorem dksX2_reduce384_28 : cX2_reduce384.data.toList.drop 659 = dktX2_reduce384_28 := dk_seg dksX2_reduce384_27 22 rfl rfl
theorem dksX2_reduce384_29 : cX2_reduce384.data.toList.drop 683 = dktX2_reduce384_29 := dk_seg dksX2_reduce384_28 24 rfl rfl
theorem dksX2_reduce384_30 : cX2_reduce384.data.toList.drop 707 = dktX2_reduce384_30 := dk_seg dksX2_reduce384_29 24 rfl rfl
theorem dksX2_reduce384_31 : cX2_reduce384.data.toList.drop 731 = dktX2_reduce384_31 := dk_seg dksX2_reduce384_30 24 rfl rfl
theorem dksX2_reduce384_32 : cX2_reduce384.data.toList.drop 753 = dktX2_reduce384_32 := dk_seg dksX2_reduce384_31 22 rfl rfl
theorem dksX2_reduce384_33 : cX2_reduce384.data.toList.drop 777 = dktX2_reduce384_33 := dk_seg dksX2_reduce384_32 24 rfl rfl
theorem dksX2_reduce384_34 : cX2_reduce384.data.toList.drop 800 = dktX2_reduce384_34 := dk_seg dksX2_reduce384_33 23 rfl rfl
theorem dksX2_reduce384_35 : cX2_reduce384.data.toList.drop 824 = dktX2_reduce384_35 := dk_seg dksX2_reduce384_34 24 rfl rfl
theorem dksX2_reduce384_36 : cX2_reduce384.data.toList.drop 848 = dktX2_reduce384_36 := dk_seg dksX2_reduce384_35 24 rfl rfl
theorem dksX2_reduce384_37 : cX2_reduce384.data.toList.drop 872 = dktX2_reduce384_37 := dk_seg dksX2_reduce384_36 24 rfl rfl
theorem dksX2_reduce384_38 : cX2_reduce384.data.toList.drop 896 = dktX2_reduce384_38 := dk_seg dksX2_reduce384_37 24 rfl rfl
theorem dksX2_reduce384_39 : cX2_reduce384.data.toList.drop 920 = dktX2_reduce384_39 := dk_seg dksX2_reduce384_38 24 rfl rfl
theorem dksX2_reduce384_40 : cX2_reduce384.data.toList.drop 943 = dktX2_reduce384_40 := dk_seg dksX2_reduce384_39 23 rfl rfl
theorem dksX2_reduce384_41 : cX2_reduce384.data.toList.drop 967 = dktX2_reduce384_41 := dk_seg dksX2_reduce384_40 24 rfl rfl
theorem dksX2_reduce384_42 : cX2_reduce384.data.toList.drop 991 = dktX2_reduce384_42 := dk_seg dksX2_reduce384_41 24 rfl rfl
theorem dX2_reduce384_0 : decode cX2_reduce384 0 = .ok (.aload_n 0, 1) := dk_42 (dk_at dksX2_reduce384_0 0 rfl rfl)
theorem dX2_reduce384_1 : decode cX2_reduce384 1 = .ok (.iconst 0, 1) := dk_3 (dk_at dksX2_reduce384_0 1 rfl rfl)
theorem dX2_reduce384_2 : decode cX2_reduce384 2 = .ok (.invokestatic 29, 3) := dk_184 0 29 (dk_at dksX2_reduce384_0 2 rfl rfl)
theorem dX2_reduce384_5 : decode cX2_reduce384 5 = .ok (.i2l, 1) := dk_133 (dk_at dksX2_reduce384_0 5 rfl rfl)
theorem dX2_reduce384_6 : decode cX2_reduce384 6 = .ok (.ldc2_w 32, 3) := dk_20 0 32 (dk_at dksX2_reduce384_0 6 rfl rfl)
theorem dX2_reduce384_9 : decode cX2_reduce384 9 = .ok (.land, 1) := dk_127 (dk_at dksX2_reduce384_0 9 rfl rfl)
theorem dX2_reduce384_10 : decode cX2_reduce384 10 = .ok (.lstore_n 1, 1) := dk_64 (dk_at dksX2_reduce384_0 10 rfl rfl)
theorem dX2_reduce384_11 : decode cX2_reduce384 11 = .ok (.aload_n 0, 1) := dk_42 (dk_at dksX2_reduce384_0 11 rfl rfl)
theorem dX2_reduce384_12 : decode cX2_reduce384 12 = .ok (.iconst 4, 1) := dk_7 (dk_at dksX2_reduce384_0 12 rfl rfl)
theorem dX2_reduce384_13 : decode cX2_reduce384 13 = .ok (.invokestatic 34, 3) := dk_184 0 34 (dk_at dksX2_reduce384_0 13 rfl rfl)
theorem dX2_reduce384_16 : decode cX2_reduce384 16 = .ok (.iconst 4, 1) := dk_7 (dk_at dksX2_reduce384_0 16 rfl rfl)
theorem dX2_reduce384_17 : decode cX2_reduce384 17 = .ok (.ishl, 1) := dk_120 (dk_at dksX2_reduce384_0 17 rfl rfl)
theorem dX2_reduce384_18 : decode cX2_reduce384 18 = .ok (.i2l, 1) := dk_133 (dk_at dksX2_reduce384_0 18 rfl rfl)
theorem dX2_reduce384_19 : decode cX2_reduce384 19 = .ok (.ldc2_w 32, 3) := dk_20 0 32 (dk_at dksX2_reduce384_0 19 rfl rfl)
theorem dX2_reduce384_22 : decode cX2_reduce384 22 = .ok (.land, 1) := dk_127 (dk_at dksX2_reduce384_0 22 rfl rfl)
theorem dX2_reduce384_23 : decode cX2_reduce384 23 = .ok (.lstore_n 3, 1) := dk_66 (dk_at dksX2_reduce384_0 23 rfl rfl)
theorem dX2_reduce384_24 : decode cX2_reduce384 24 = .ok (.aload_n 0, 1) := dk_42 (dk_at dksX2_reduce384_1 0 rfl rfl)
theorem dX2_reduce384_25 : decode cX2_reduce384 25 = .ok (.bipush 7, 2) := dk_16 7 (dk_at dksX2_reduce384_1 1 rfl rfl)
theorem dX2_reduce384_27 : decode cX2_reduce384 27 = .ok (.invokestatic 29, 3) := dk_184 0 29 (dk_at dksX2_reduce384_1 3 rfl rfl)
theorem dX2_reduce384_30 : decode cX2_reduce384 30 = .ok (.i2l, 1) := dk_133 (dk_at dksX2_reduce384_1 6 rfl rfl)
theorem dX2_reduce384_31 : decode cX2_reduce384 31 = .ok (.ldc2_w 32, 3) := dk_20 0 32 (dk_at dksX2_reduce384_1 7 rfl rfl)
theorem dX2_reduce384_34 : decode cX2_reduce384 34 = .ok (.land, 1) := dk_127 (dk_at dksX2_reduce384_1 10 rfl rfl)
theorem dX2_reduce384_35 : decode cX2_reduce384 35 = .ok (.lstore 5, 2) := dk_55 5 (dk_at dksX2_reduce384_1 11 rfl rfl)
theorem dX2_reduce384_37 : decode cX2_reduce384 37 = .ok (.aload_n 0, 1) := dk_42 (dk_at dksX2_reduce384_1 13 rfl rfl)
theorem dX2_reduce384_38 : decode cX2_reduce384 38 = .ok (.bipush 11, 2) := dk_16 11 (dk_at dksX2_reduce384_1 14 rfl rfl)
theorem dX2_reduce384_40 : decode cX2_reduce384 40 = .ok (.invokestatic 34, 3) := dk_184 0 34 (dk_at dksX2_reduce384_1 16 rfl rfl)
theorem dX2_reduce384_43 : decode cX2_reduce384 43 = .ok (.iconst 4, 1) := dk_7 (dk_at dksX2_reduce384_1 19 rfl rfl)
theorem dX2_reduce384_44 : decode cX2_reduce384 44 = .ok (.ishl, 1) := dk_120 (dk_at dksX2_reduce384_1 20 rfl rfl)
theorem dX2_reduce384_45 : decode cX2_reduce384 45 = .ok (.i2l, 1) := dk_133 (dk_at dksX2_reduce384_1 21 rfl rfl)
theorem dX2_reduce384_46 : decode cX2_reduce384 46 = .ok (.ldc2_w 32, 3) := dk_20 0 32 (dk_at dksX2_reduce384_2 0 rfl rfl)
theorem dX2_reduce384_49 : decode cX2_reduce384 49 = .ok (.land, 1) := dk_127 (dk_at dksX2_reduce384_2 3 rfl rfl)
theorem dX2_reduce384_50 : decode cX2_reduce384 50 = .ok (.lstore 7, 2) := dk_55 7 (dk_at dksX2_reduce384_2 4 rfl rfl)
theorem dX2_reduce384_52 : decode cX2_reduce384 52 = .ok (.aload_n 0, 1) := dk_42 (dk_at dksX2_reduce384_2 6 rfl rfl)
theorem dX2_reduce384_53 : decode cX2_reduce384 53 = .ok (.bipush 14, 2) := dk_16 14 (dk_at dksX2_reduce384_2 7 rfl rfl)
theorem dX2_reduce384_55 : decode cX2_reduce384 55 = .ok (.invokestatic 29, 3) := dk_184 0 29 (dk_at dksX2_reduce384_2 9 rfl rfl)
theorem dX2_reduce384_58 : decode cX2_reduce384 58 = .ok (.i2l, 1) := dk_133 (dk_at dksX2_reduce384_2 12 rfl rfl)
theorem dX2_reduce384_59 : decode cX2_reduce384 59 = .ok (.ldc2_w 32, 3) := dk_20 0 32 (dk_at dksX2_reduce384_2 13 rfl rfl)
theorem dX2_reduce384_62 : decode cX2_reduce384 62 = .ok (.land, 1) := dk_127 (dk_at dksX2_reduce384_2 16 rfl rfl)
theorem dX2_reduce384_63 : decode cX2_reduce384 63 = .ok (.lstore 9, 2) := dk_55 9 (dk_at dksX2_reduce384_2 17 rfl rfl)
theorem dX2_reduce384_65 : decode cX2_reduce384 65 = .ok (.aload_n 0, 1) := dk_42 (dk_at dksX2_reduce384_2 19 rfl rfl)
theorem dX2_reduce384_66 : decode cX2_reduce384 66 = .ok (.bipush 18, 2) := dk_16 18 (dk_at dksX2_reduce384_2 20 rfl rfl)
theorem dX2_reduce384_68 : decode cX2_reduce384 68 = .ok (.invokestatic 34, 3) := dk_184 0 34 (dk_at dksX2_reduce384_3 0 rfl rfl)
theorem dX2_reduce384_71 : decode cX2_reduce384 71 = .ok (.iconst 4, 1) := dk_7 (dk_at dksX2_reduce384_3 3 rfl rfl)
theorem dX2_reduce384_72 : decode cX2_reduce384 72 = .ok (.ishl, 1) := dk_120 (dk_at dksX2_reduce384_3 4 rfl rfl)
theorem dX2_reduce384_73 : decode cX2_reduce384 73 = .ok (.i2l, 1) := dk_133 (dk_at dksX2_reduce384_3 5 rfl rfl)
theorem dX2_reduce384_74 : decode cX2_reduce384 74 = .ok (.ldc2_w 32, 3) := dk_20 0 32 (dk_at dksX2_reduce384_3 6 rfl rfl)
theorem dX2_reduce384_77 : decode cX2_reduce384 77 = .ok (.land, 1) := dk_127 (dk_at dksX2_reduce384_3 9 rfl rfl)
theorem dX2_reduce384_78 : decode cX2_reduce384 78 = .ok (.lstore 11, 2) := dk_55 11 (dk_at dksX2_reduce384_3 10 rfl rfl)
theorem dX2_reduce384_80 : decode cX2_reduce384 80 = .ok (.aload_n 0, 1) := dk_42 (dk_at dksX2_reduce384_3 12 rfl rfl)
theorem dX2_reduce384_81 : decode cX2_reduce384 81 = .ok (.bipush 21, 2) := dk_16 21 (dk_at dksX2_reduce384_3 13 rfl rfl)
theorem dX2_reduce384_83 : decode cX2_reduce384 83 = .ok (.invokestatic 29, 3) := dk_184 0 29 (dk_at dksX2_reduce384_3 15 rfl rfl)
theorem dX2_reduce384_86 : decode cX2_reduce384 86 = .ok (.i2l, 1) := dk_133 (dk_at dksX2_reduce384_3 18 rfl rfl)
theorem dX2_reduce384_87 : decode cX2_reduce384 87 = .ok (.ldc2_w 32, 3) := dk_20 0 32 (dk_at dksX2_reduce384_3 19 rfl rfl)
theorem dX2_reduce384_90 : decode cX2_reduce384 90 = .ok (.land, 1) := dk_127 (dk_at dksX2_reduce384_3 22 rfl rfl)
theorem dX2_reduce384_91 : decode cX2_reduce384 91 = .ok (.lstore 13, 2) := dk_55 13 (dk_at dksX2_reduce384_4 0 rfl rfl)
theorem dX2_reduce384_93 : decode cX2_reduce384 93 = .ok (.aload_n 0, 1) := dk_42 (dk_at dksX2_reduce384_4 2 rfl rfl)
theorem dX2_reduce384_94 : decode cX2_reduce384 94 = .ok (.bipush 25, 2) := dk_16 25 (dk_at dksX2_reduce384_4 3 rfl rfl)
theorem dX2_reduce384_96 : decode cX2_reduce384 96 = .ok (.invokestatic 34, 3) := dk_184 0 34 (dk_at dksX2_reduce384_4 5 rfl rfl)
theorem dX2_reduce384_99 : decode cX2_reduce384 99 = .ok (.iconst 4, 1) := dk_7 (dk_at dksX2_reduce384_4 8 rfl rfl)
theorem dX2_reduce384_100 : decode cX2_reduce384 100 = .ok (.ishl, 1) := dk_120 (dk_at dksX2_reduce384_4 9 rfl rfl)
theorem dX2_reduce384_101 : decode cX2_reduce384 101 = .ok (.i2l, 1) := dk_133 (dk_at dksX2_reduce384_4 10 rfl rfl)
theorem dX2_reduce384_102 : decode cX2_reduce384 102 = .ok (.ldc2_w 32, 3) := dk_20 0 32 (dk_at dksX2_reduce384_4 11 rfl rfl)
theorem dX2_reduce384_105 : decode cX2_reduce384 105 = .ok (.land, 1) := dk_127 (dk_at dksX2_reduce384_4 14 rfl rfl)
theorem dX2_reduce384_106 : decode cX2_reduce384 106 = .ok (.lstore 15, 2) := dk_55 15 (dk_at dksX2_reduce384_4 15 rfl rfl)
theorem dX2_reduce384_108 : decode cX2_reduce384 108 = .ok (.aload_n 0, 1) := dk_42 (dk_at dksX2_reduce384_4 17 rfl rfl)
theorem dX2_reduce384_109 : decode cX2_reduce384 109 = .ok (.bipush 28, 2) := dk_16 28 (dk_at dksX2_reduce384_4 18 rfl rfl)
theorem dX2_reduce384_111 : decode cX2_reduce384 111 = .ok (.invokestatic 29, 3) := dk_184 0 29 (dk_at dksX2_reduce384_4 20 rfl rfl)
theorem dX2_reduce384_114 : decode cX2_reduce384 114 = .ok (.i2l, 1) := dk_133 (dk_at dksX2_reduce384_4 23 rfl rfl)
theorem dX2_reduce384_115 : decode cX2_reduce384 115 = .ok (.ldc2_w 32, 3) := dk_20 0 32 (dk_at dksX2_reduce384_5 0 rfl rfl)
theorem dX2_reduce384_118 : decode cX2_reduce384 118 = .ok (.land, 1) := dk_127 (dk_at dksX2_reduce384_5 3 rfl rfl)
theorem dX2_reduce384_119 : decode cX2_reduce384 119 = .ok (.lstore 17, 2) := dk_55 17 (dk_at dksX2_reduce384_5 4 rfl rfl)
theorem dX2_reduce384_121 : decode cX2_reduce384 121 = .ok (.aload_n 0, 1) := dk_42 (dk_at dksX2_reduce384_5 6 rfl rfl)
theorem dX2_reduce384_122 : decode cX2_reduce384 122 = .ok (.bipush 32, 2) := dk_16 32 (dk_at dksX2_reduce384_5 7 rfl rfl)
theorem dX2_reduce384_124 : decode cX2_reduce384 124 = .ok (.invokestatic 34, 3) := dk_184 0 34 (dk_at dksX2_reduce384_5 9 rfl rfl)
theorem dX2_reduce384_127 : decode cX2_reduce384 127 = .ok (.iconst 4, 1) := dk_7 (dk_at dksX2_reduce384_5 12 rfl rfl)
theorem dX2_reduce384_128 : decode cX2_reduce384 128 = .ok (.ishl, 1) := dk_120 (dk_at dksX2_reduce384_5 13 rfl rfl)
theorem dX2_reduce384_129 : decode cX2_reduce384 129 = .ok (.i2l, 1) := dk_133 (dk_at dksX2_reduce384_5 14 rfl rfl)
theorem dX2_reduce384_130 : decode cX2_reduce384 130 = .ok (.ldc2_w 32, 3) := dk_20 0 32 (dk_at dksX2_reduce384_5 15 rfl rfl)
theorem dX2_reduce384_133 : decode cX2_reduce384 133 = .ok (.land, 1) := dk_127 (dk_at dksX2_reduce384_5 18 rfl rfl)
theorem dX2_reduce384_134 : decode cX2_reduce384 134 = .ok (.lstore 19, 2) := dk_55 19 (dk_at dksX2_reduce384_5 19 rfl rfl)
theorem dX2_reduce384_136 : decode cX2_reduce384 136 = .ok (.aload_n 0, 1) := dk_42 (dk_at dksX2_reduce384_5 21 rfl rfl)
theorem dX2_reduce384_137 : decode cX2_reduce384 137 = .ok (.bipush 35, 2) := dk_16 35 (dk_at dksX2_reduce384_5 22 rfl rfl)
theorem dX2_reduce384_139 : decode cX2_reduce384 139 = .ok (.invokestatic 29, 3) := dk_184 0 29 (dk_at dksX2_reduce384_6 0 rfl rfl)
theorem dX2_reduce384_142 : decode cX2_reduce384 142 = .ok (.i2l, 1) := dk_133 (dk_at dksX2_reduce384_6 3 rfl rfl)
theorem dX2_reduce384_143 : decode cX2_reduce384 143 = .ok (.ldc2_w 32, 3) := dk_20 0 32 (dk_at dksX2_reduce384_6 4 rfl rfl)
theorem dX2_reduce384_146 : decode cX2_reduce384 146 = .ok (.land, 1) := dk_127 (dk_at dksX2_reduce384_6 7 rfl rfl)
theorem dX2_reduce384_147 : decode cX2_reduce384 147 = .ok (.lstore 21, 2) := dk_55 21 (dk_at dksX2_reduce384_6 8 rfl rfl)
theorem dX2_reduce384_149 : decode cX2_reduce384 149 = .ok (.aload_n 0, 1) := dk_42 (dk_at dksX2_reduce384_6 10 rfl rfl)
theorem dX2_reduce384_150 : decode cX2_reduce384 150 = .ok (.bipush 39, 2) := dk_16 39 (dk_at dksX2_reduce384_6 11 rfl rfl)
theorem dX2_reduce384_152 : decode cX2_reduce384 152 = .ok (.invokestatic 34, 3) := dk_184 0 34 (dk_at dksX2_reduce384_6 13 rfl rfl)
theorem dX2_reduce384_155 : decode cX2_reduce384 155 = .ok (.iconst 4, 1) := dk_7 (dk_at dksX2_reduce384_6 16 rfl rfl)
theorem dX2_reduce384_156 : decode cX2_reduce384 156 = .ok (.ishl, 1) := dk_120 (dk_at dksX2_reduce384_6 17 rfl rfl)
theorem dX2_reduce384_157 : decode cX2_reduce384 157 = .ok (.i2l, 1) := dk_133 (dk_at dksX2_reduce384_6 18 rfl rfl)
theorem dX2_reduce384_158 : decode cX2_reduce384 158 = .ok (.ldc2_w 32, 3) := dk_20 0 32 (dk_at dksX2_reduce384_6 19 rfl rfl)
theorem dX2_reduce384_161 : decode cX2_reduce384 161 = .ok (.land, 1) := dk_127 (dk_at dksX2_reduce384_6 22 rfl rfl)
theorem dX2_reduce384_162 : decode cX2_reduce384 162 = .ok (.lstore 23, 2) := dk_55 23 (dk_at dksX2_reduce384_7 0 rfl rfl)
theorem dX2_reduce384_164 : decode cX2_reduce384 164 = .ok (.aload_n 0, 1) := dk_42 (dk_at dksX2_reduce384_7 2 rfl rfl)
theorem dX2_reduce384_165 : decode cX2_reduce384 165 = .ok (.bipush 42, 2) := dk_16 42 (dk_at dksX2_reduce384_7 3 rfl rfl)
theorem dX2_reduce384_167 : decode cX2_reduce384 167 = .ok (.invokestatic 29, 3) := dk_184 0 29 (dk_at dksX2_reduce384_7 5 rfl rfl)
theorem dX2_reduce384_170 : decode cX2_reduce384 170 = .ok (.i2l, 1) := dk_133 (dk_at dksX2_reduce384_7 8 rfl rfl)
theorem dX2_reduce384_171 : decode cX2_reduce384 171 = .ok (.ldc2_w 32, 3) := dk_20 0 32 (dk_at dksX2_reduce384_7 9 rfl rfl)
theorem dX2_reduce384_174 : decode cX2_reduce384 174 = .ok (.land, 1) := dk_127 (dk_at dksX2_reduce384_7 12 rfl rfl)
theorem dX2_reduce384_175 : decode cX2_reduce384 175 = .ok (.lstore 25, 2) := dk_55 25 (dk_at dksX2_reduce384_7 13 rfl rfl)
theorem dX2_reduce384_177 : decode cX2_reduce384 177 = .ok (.aload_n 0, 1) := dk_42 (dk_at dksX2_reduce384_7 15 rfl rfl)
theorem dX2_reduce384_178 : decode cX2_reduce384 178 = .ok (.bipush 46, 2) := dk_16 46 (dk_at dksX2_reduce384_7 16 rfl rfl)
theorem dX2_reduce384_180 : decode cX2_reduce384 180 = .ok (.invokestatic 37, 3) := dk_184 0 37 (dk_at dksX2_reduce384_7 18 rfl rfl)
theorem dX2_reduce384_183 : decode cX2_reduce384 183 = .ok (.iconst 4, 1) := dk_7 (dk_at dksX2_reduce384_7 21 rfl rfl)
theorem dX2_reduce384_184 : decode cX2_reduce384 184 = .ok (.ishl, 1) := dk_120 (dk_at dksX2_reduce384_7 22 rfl rfl)
theorem dX2_reduce384_185 : decode cX2_reduce384 185 = .ok (.i2l, 1) := dk_133 (dk_at dksX2_reduce384_7 23 rfl rfl)
theorem dX2_reduce384_186 : decode cX2_reduce384 186 = .ok (.ldc2_w 32, 3) := dk_20 0 32 (dk_at dksX2_reduce384_8 0 rfl rfl)
theorem dX2_reduce384_189 : decode cX2_reduce384 189 = .ok (.land, 1) := dk_127 (dk_at dksX2_reduce384_8 3 rfl rfl)
theorem dX2_reduce384_190 : decode cX2_reduce384 190 = .ok (.lstore 27, 2) := dk_55 27 (dk_at dksX2_reduce384_8 4 rfl rfl)
theorem dX2_reduce384_192 : decode cX2_reduce384 192 = .ok (.lload 27, 2) := dk_22 27 (dk_at dksX2_reduce384_8 6 rfl rfl)
theorem dX2_reduce384_194 : decode cX2_reduce384 194 = .ok (.lload 25, 2) := dk_22 25 (dk_at dksX2_reduce384_8 8 rfl rfl)
theorem dX2_reduce384_196 : decode cX2_reduce384 196 = .ok (.bipush 28, 2) := dk_16 28 (dk_at dksX2_reduce384_8 10 rfl rfl)
theorem dX2_reduce384_198 : decode cX2_reduce384 198 = .ok (.lshr, 1) := dk_123 (dk_at dksX2_reduce384_8 12 rfl rfl)
theorem dX2_reduce384_199 : decode cX2_reduce384 199 = .ok (.ladd, 1) := dk_97 (dk_at dksX2_reduce384_8 13 rfl rfl)
theorem dX2_reduce384_200 : decode cX2_reduce384 200 = .ok (.lstore 27, 2) := dk_55 27 (dk_at dksX2_reduce384_8 14 rfl rfl)
theorem dX2_reduce384_202 : decode cX2_reduce384 202 = .ok (.lload 25, 2) := dk_22 25 (dk_at dksX2_reduce384_8 16 rfl rfl)
theorem dX2_reduce384_204 : decode cX2_reduce384 204 = .ok (.ldc2_w 40, 3) := dk_20 0 40 (dk_at dksX2_reduce384_8 18 rfl rfl)
theorem dX2_reduce384_207 : decode cX2_reduce384 207 = .ok (.land, 1) := dk_127 (dk_at dksX2_reduce384_8 21 rfl rfl)
theorem dX2_reduce384_208 : decode cX2_reduce384 208 = .ok (.lstore 25, 2) := dk_55 25 (dk_at dksX2_reduce384_8 22 rfl rfl)
theorem dX2_reduce384_210 : decode cX2_reduce384 210 = .ok (.lload 9, 2) := dk_22 9 (dk_at dksX2_reduce384_9 0 rfl rfl)
theorem dX2_reduce384_212 : decode cX2_reduce384 212 = .ok (.lload 27, 2) := dk_22 27 (dk_at dksX2_reduce384_9 2 rfl rfl)
theorem dX2_reduce384_214 : decode cX2_reduce384 214 = .ok (.ldc2_w 42, 3) := dk_20 0 42 (dk_at dksX2_reduce384_9 4 rfl rfl)
theorem dX2_reduce384_217 : decode cX2_reduce384 217 = .ok (.lmul, 1) := dk_105 (dk_at dksX2_reduce384_9 7 rfl rfl)
theorem dX2_reduce384_218 : decode cX2_reduce384 218 = .ok (.lsub, 1) := dk_101 (dk_at dksX2_reduce384_9 8 rfl rfl)
theorem dX2_reduce384_219 : decode cX2_reduce384 219 = .ok (.lstore 9, 2) := dk_55 9 (dk_at dksX2_reduce384_9 9 rfl rfl)
theorem dX2_reduce384_221 : decode cX2_reduce384 221 = .ok (.lload 11, 2) := dk_22 11 (dk_at dksX2_reduce384_9 11 rfl rfl)
theorem dX2_reduce384_223 : decode cX2_reduce384 223 = .ok (.lload 27, 2) := dk_22 27 (dk_at dksX2_reduce384_9 13 rfl rfl)
theorem dX2_reduce384_225 : decode cX2_reduce384 225 = .ok (.ldc2_w 44, 3) := dk_20 0 44 (dk_at dksX2_reduce384_9 15 rfl rfl)
theorem dX2_reduce384_228 : decode cX2_reduce384 228 = .ok (.lmul, 1) := dk_105 (dk_at dksX2_reduce384_9 18 rfl rfl)
theorem dX2_reduce384_229 : decode cX2_reduce384 229 = .ok (.lsub, 1) := dk_101 (dk_at dksX2_reduce384_9 19 rfl rfl)
theorem dX2_reduce384_230 : decode cX2_reduce384 230 = .ok (.lstore 11, 2) := dk_55 11 (dk_at dksX2_reduce384_9 20 rfl rfl)
theorem dX2_reduce384_232 : decode cX2_reduce384 232 = .ok (.lload 13, 2) := dk_22 13 (dk_at dksX2_reduce384_9 22 rfl rfl)
theorem dX2_reduce384_234 : decode cX2_reduce384 234 = .ok (.lload 27, 2) := dk_22 27 (dk_at dksX2_reduce384_10 0 rfl rfl)
theorem dX2_reduce384_236 : decode cX2_reduce384 236 = .ok (.ldc2_w 46, 3) := dk_20 0 46 (dk_at dksX2_reduce384_10 2 rfl rfl)
theorem dX2_reduce384_239 : decode cX2_reduce384 239 = .ok (.lmul, 1) := dk_105 (dk_at dksX2_reduce384_10 5 rfl rfl)
theorem dX2_reduce384_240 : decode cX2_reduce384 240 = .ok (.lsub, 1) := dk_101 (dk_at dksX2_reduce384_10 6 rfl rfl)
theorem dX2_reduce384_241 : decode cX2_reduce384 241 = .ok (.lstore 13, 2) := dk_55 13 (dk_at dksX2_reduce384_10 7 rfl rfl)
theorem dX2_reduce384_243 : decode cX2_reduce384 243 = .ok (.lload 15, 2) := dk_22 15 (dk_at dksX2_reduce384_10 9 rfl rfl)
theorem dX2_reduce384_245 : decode cX2_reduce384 245 = .ok (.lload 27, 2) := dk_22 27 (dk_at dksX2_reduce384_10 11 rfl rfl)
theorem dX2_reduce384_247 : decode cX2_reduce384 247 = .ok (.ldc2_w 48, 3) := dk_20 0 48 (dk_at dksX2_reduce384_10 13 rfl rfl)
theorem dX2_reduce384_250 : decode cX2_reduce384 250 = .ok (.lmul, 1) := dk_105 (dk_at dksX2_reduce384_10 16 rfl rfl)
theorem dX2_reduce384_251 : decode cX2_reduce384 251 = .ok (.lsub, 1) := dk_101 (dk_at dksX2_reduce384_10 17 rfl rfl)
theorem dX2_reduce384_252 : decode cX2_reduce384 252 = .ok (.lstore 15, 2) := dk_55 15 (dk_at dksX2_reduce384_10 18 rfl rfl)
theorem dX2_reduce384_254 : decode cX2_reduce384 254 = .ok (.lload 17, 2) := dk_22 17 (dk_at dksX2_reduce384_10 20 rfl rfl)
theorem dX2_reduce384_256 : decode cX2_reduce384 256 = .ok (.lload 27, 2) := dk_22 27 (dk_at dksX2_reduce384_10 22 rfl rfl)
theorem dX2_reduce384_258 : decode cX2_reduce384 258 = .ok (.ldc2_w 50, 3) := dk_20 0 50 (dk_at dksX2_reduce384_11 0 rfl rfl)
theorem dX2_reduce384_261 : decode cX2_reduce384 261 = .ok (.lmul, 1) := dk_105 (dk_at dksX2_reduce384_11 3 rfl rfl)
theorem dX2_reduce384_262 : decode cX2_reduce384 262 = .ok (.lsub, 1) := dk_101 (dk_at dksX2_reduce384_11 4 rfl rfl)
theorem dX2_reduce384_263 : decode cX2_reduce384 263 = .ok (.lstore 17, 2) := dk_55 17 (dk_at dksX2_reduce384_11 5 rfl rfl)
theorem dX2_reduce384_265 : decode cX2_reduce384 265 = .ok (.lload 25, 2) := dk_22 25 (dk_at dksX2_reduce384_11 7 rfl rfl)
theorem dX2_reduce384_267 : decode cX2_reduce384 267 = .ok (.lload 23, 2) := dk_22 23 (dk_at dksX2_reduce384_11 9 rfl rfl)
theorem dX2_reduce384_269 : decode cX2_reduce384 269 = .ok (.bipush 28, 2) := dk_16 28 (dk_at dksX2_reduce384_11 11 rfl rfl)
theorem dX2_reduce384_271 : decode cX2_reduce384 271 = .ok (.lshr, 1) := dk_123 (dk_at dksX2_reduce384_11 13 rfl rfl)
theorem dX2_reduce384_272 : decode cX2_reduce384 272 = .ok (.ladd, 1) := dk_97 (dk_at dksX2_reduce384_11 14 rfl rfl)
theorem dX2_reduce384_273 : decode cX2_reduce384 273 = .ok (.lstore 25, 2) := dk_55 25 (dk_at dksX2_reduce384_11 15 rfl rfl)
theorem dX2_reduce384_275 : decode cX2_reduce384 275 = .ok (.lload 23, 2) := dk_22 23 (dk_at dksX2_reduce384_11 17 rfl rfl)
theorem dX2_reduce384_277 : decode cX2_reduce384 277 = .ok (.ldc2_w 40, 3) := dk_20 0 40 (dk_at dksX2_reduce384_11 19 rfl rfl)
theorem dX2_reduce384_280 : decode cX2_reduce384 280 = .ok (.land, 1) := dk_127 (dk_at dksX2_reduce384_11 22 rfl rfl)
theorem dX2_reduce384_281 : decode cX2_reduce384 281 = .ok (.lstore 23, 2) := dk_55 23 (dk_at dksX2_reduce384_12 0 rfl rfl)
theorem dX2_reduce384_283 : decode cX2_reduce384 283 = .ok (.lload 7, 2) := dk_22 7 (dk_at dksX2_reduce384_12 2 rfl rfl)
theorem dX2_reduce384_285 : decode cX2_reduce384 285 = .ok (.lload 25, 2) := dk_22 25 (dk_at dksX2_reduce384_12 4 rfl rfl)
theorem dX2_reduce384_287 : decode cX2_reduce384 287 = .ok (.ldc2_w 42, 3) := dk_20 0 42 (dk_at dksX2_reduce384_12 6 rfl rfl)
theorem dX2_reduce384_290 : decode cX2_reduce384 290 = .ok (.lmul, 1) := dk_105 (dk_at dksX2_reduce384_12 9 rfl rfl)
theorem dX2_reduce384_291 : decode cX2_reduce384 291 = .ok (.lsub, 1) := dk_101 (dk_at dksX2_reduce384_12 10 rfl rfl)
theorem dX2_reduce384_292 : decode cX2_reduce384 292 = .ok (.lstore 7, 2) := dk_55 7 (dk_at dksX2_reduce384_12 11 rfl rfl)
theorem dX2_reduce384_294 : decode cX2_reduce384 294 = .ok (.lload 9, 2) := dk_22 9 (dk_at dksX2_reduce384_12 13 rfl rfl)
theorem dX2_reduce384_296 : decode cX2_reduce384 296 = .ok (.lload 25, 2) := dk_22 25 (dk_at dksX2_reduce384_12 15 rfl rfl)
theorem dX2_reduce384_298 : decode cX2_reduce384 298 = .ok (.ldc2_w 44, 3) := dk_20 0 44 (dk_at dksX2_reduce384_12 17 rfl rfl)
theorem dX2_reduce384_301 : decode cX2_reduce384 301 = .ok (.lmul, 1) := dk_105 (dk_at dksX2_reduce384_12 20 rfl rfl)
theorem dX2_reduce384_302 : decode cX2_reduce384 302 = .ok (.lsub, 1) := dk_101 (dk_at dksX2_reduce384_12 21 rfl rfl)
theorem dX2_reduce384_303 : decode cX2_reduce384 303 = .ok (.lstore 9, 2) := dk_55 9 (dk_at dksX2_reduce384_12 22 rfl rfl)
theorem dX2_reduce384_305 : decode cX2_reduce384 305 = .ok (.lload 11, 2) := dk_22 11 (dk_at dksX2_reduce384_13 0 rfl rfl)
theorem dX2_reduce384_307 : decode cX2_reduce384 307 = .ok (.lload 25, 2) := dk_22 25 (dk_at dksX2_reduce384_13 2 rfl rfl)
theorem dX2_reduce384_309 : decode cX2_reduce384 309 = .ok (.ldc2_w 46, 3) := dk_20 0 46 (dk_at dksX2_reduce384_13 4 rfl rfl)
theorem dX2_reduce384_312 : decode cX2_reduce384 312 = .ok (.lmul, 1) := dk_105 (dk_at dksX2_reduce384_13 7 rfl rfl)
theorem dX2_reduce384_313 : decode cX2_reduce384 313 = .ok (.lsub, 1) := dk_101 (dk_at dksX2_reduce384_13 8 rfl rfl)
theorem dX2_reduce384_314 : decode cX2_reduce384 314 = .ok (.lstore 11, 2) := dk_55 11 (dk_at dksX2_reduce384_13 9 rfl rfl)
theorem dX2_reduce384_316 : decode cX2_reduce384 316 = .ok (.lload 13, 2) := dk_22 13 (dk_at dksX2_reduce384_13 11 rfl rfl)
theorem dX2_reduce384_318 : decode cX2_reduce384 318 = .ok (.lload 25, 2) := dk_22 25 (dk_at dksX2_reduce384_13 13 rfl rfl)
theorem dX2_reduce384_320 : decode cX2_reduce384 320 = .ok (.ldc2_w 48, 3) := dk_20 0 48 (dk_at dksX2_reduce384_13 15 rfl rfl)
theorem dX2_reduce384_323 : decode cX2_reduce384 323 = .ok (.lmul, 1) := dk_105 (dk_at dksX2_reduce384_13 18 rfl rfl)
theorem dX2_reduce384_324 : decode cX2_reduce384 324 = .ok (.lsub, 1) := dk_101 (dk_at dksX2_reduce384_13 19 rfl rfl)
theorem dX2_reduce384_325 : decode cX2_reduce384 325 = .ok (.lstore 13, 2) := dk_55 13 (dk_at dksX2_reduce384_13 20 rfl rfl)
theorem dX2_reduce384_327 : decode cX2_reduce384 327 = .ok (.lload 15, 2) := dk_22 15 (dk_at dksX2_reduce384_13 22 rfl rfl)
theorem dX2_reduce384_329 : decode cX2_reduce384 329 = .ok (.lload 25, 2) := dk_22 25 (dk_at dksX2_reduce384_14 0 rfl rfl)
theorem dX2_reduce384_331 : decode cX2_reduce384 331 = .ok (.ldc2_w 50, 3) := dk_20 0 50 (dk_at dksX2_reduce384_14 2 rfl rfl)
theorem dX2_reduce384_334 : decode cX2_reduce384 334 = .ok (.lmul, 1) := dk_105 (dk_at dksX2_reduce384_14 5 rfl rfl)
theorem dX2_reduce384_335 : decode cX2_reduce384 335 = .ok (.lsub, 1) := dk_101 (dk_at dksX2_reduce384_14 6 rfl rfl)
theorem dX2_reduce384_336 : decode cX2_reduce384 336 = .ok (.lstore 15, 2) := dk_55 15 (dk_at dksX2_reduce384_14 7 rfl rfl)
theorem dX2_reduce384_338 : decode cX2_reduce384 338 = .ok (.lload 23, 2) := dk_22 23 (dk_at dksX2_reduce384_14 9 rfl rfl)
theorem dX2_reduce384_340 : decode cX2_reduce384 340 = .ok (.lload 21, 2) := dk_22 21 (dk_at dksX2_reduce384_14 11 rfl rfl)
theorem dX2_reduce384_342 : decode cX2_reduce384 342 = .ok (.bipush 28, 2) := dk_16 28 (dk_at dksX2_reduce384_14 13 rfl rfl)
theorem dX2_reduce384_344 : decode cX2_reduce384 344 = .ok (.lshr, 1) := dk_123 (dk_at dksX2_reduce384_14 15 rfl rfl)
theorem dX2_reduce384_345 : decode cX2_reduce384 345 = .ok (.ladd, 1) := dk_97 (dk_at dksX2_reduce384_14 16 rfl rfl)
theorem dX2_reduce384_346 : decode cX2_reduce384 346 = .ok (.lstore 23, 2) := dk_55 23 (dk_at dksX2_reduce384_14 17 rfl rfl)
theorem dX2_reduce384_348 : decode cX2_reduce384 348 = .ok (.lload 21, 2) := dk_22 21 (dk_at dksX2_reduce384_14 19 rfl rfl)
theorem dX2_reduce384_350 : decode cX2_reduce384 350 = .ok (.ldc2_w 40, 3) := dk_20 0 40 (dk_at dksX2_reduce384_14 21 rfl rfl)
theorem dX2_reduce384_353 : decode cX2_reduce384 353 = .ok (.land, 1) := dk_127 (dk_at dksX2_reduce384_15 0 rfl rfl)
theorem dX2_reduce384_354 : decode cX2_reduce384 354 = .ok (.lstore 21, 2) := dk_55 21 (dk_at dksX2_reduce384_15 1 rfl rfl)
theorem dX2_reduce384_356 : decode cX2_reduce384 356 = .ok (.lload 5, 2) := dk_22 5 (dk_at dksX2_reduce384_15 3 rfl rfl)
theorem dX2_reduce384_358 : decode cX2_reduce384 358 = .ok (.lload 23, 2) := dk_22 23 (dk_at dksX2_reduce384_15 5 rfl rfl)
theorem dX2_reduce384_360 : decode cX2_reduce384 360 = .ok (.ldc2_w 42, 3) := dk_20 0 42 (dk_at dksX2_reduce384_15 7 rfl rfl)
theorem dX2_reduce384_363 : decode cX2_reduce384 363 = .ok (.lmul, 1) := dk_105 (dk_at dksX2_reduce384_15 10 rfl rfl)
theorem dX2_reduce384_364 : decode cX2_reduce384 364 = .ok (.lsub, 1) := dk_101 (dk_at dksX2_reduce384_15 11 rfl rfl)
theorem dX2_reduce384_365 : decode cX2_reduce384 365 = .ok (.lstore 5, 2) := dk_55 5 (dk_at dksX2_reduce384_15 12 rfl rfl)
theorem dX2_reduce384_367 : decode cX2_reduce384 367 = .ok (.lload 7, 2) := dk_22 7 (dk_at dksX2_reduce384_15 14 rfl rfl)
theorem dX2_reduce384_369 : decode cX2_reduce384 369 = .ok (.lload 23, 2) := dk_22 23 (dk_at dksX2_reduce384_15 16 rfl rfl)
theorem dX2_reduce384_371 : decode cX2_reduce384 371 = .ok (.ldc2_w 44, 3) := dk_20 0 44 (dk_at dksX2_reduce384_15 18 rfl rfl)
theorem dX2_reduce384_374 : decode cX2_reduce384 374 = .ok (.lmul, 1) := dk_105 (dk_at dksX2_reduce384_15 21 rfl rfl)
theorem dX2_reduce384_375 : decode cX2_reduce384 375 = .ok (.lsub, 1) := dk_101 (dk_at dksX2_reduce384_15 22 rfl rfl)
theorem dX2_reduce384_376 : decode cX2_reduce384 376 = .ok (.lstore 7, 2) := dk_55 7 (dk_at dksX2_reduce384_16 0 rfl rfl)
theorem dX2_reduce384_378 : decode cX2_reduce384 378 = .ok (.lload 9, 2) := dk_22 9 (dk_at dksX2_reduce384_16 2 rfl rfl)
theorem dX2_reduce384_380 : decode cX2_reduce384 380 = .ok (.lload 23, 2) := dk_22 23 (dk_at dksX2_reduce384_16 4 rfl rfl)
theorem dX2_reduce384_382 : decode cX2_reduce384 382 = .ok (.ldc2_w 46, 3) := dk_20 0 46 (dk_at dksX2_reduce384_16 6 rfl rfl)
theorem dX2_reduce384_385 : decode cX2_reduce384 385 = .ok (.lmul, 1) := dk_105 (dk_at dksX2_reduce384_16 9 rfl rfl)
theorem dX2_reduce384_386 : decode cX2_reduce384 386 = .ok (.lsub, 1) := dk_101 (dk_at dksX2_reduce384_16 10 rfl rfl)
theorem dX2_reduce384_387 : decode cX2_reduce384 387 = .ok (.lstore 9, 2) := dk_55 9 (dk_at dksX2_reduce384_16 11 rfl rfl)
theorem dX2_reduce384_389 : decode cX2_reduce384 389 = .ok (.lload 11, 2) := dk_22 11 (dk_at dksX2_reduce384_16 13 rfl rfl)
theorem dX2_reduce384_391 : decode cX2_reduce384 391 = .ok (.lload 23, 2) := dk_22 23 (dk_at dksX2_reduce384_16 15 rfl rfl)
theorem dX2_reduce384_393 : decode cX2_reduce384 393 = .ok (.ldc2_w 48, 3) := dk_20 0 48 (dk_at dksX2_reduce384_16 17 rfl rfl)
theorem dX2_reduce384_396 : decode cX2_reduce384 396 = .ok (.lmul, 1) := dk_105 (dk_at dksX2_reduce384_16 20 rfl rfl)
theorem dX2_reduce384_397 : decode cX2_reduce384 397 = .ok (.lsub, 1) := dk_101 (dk_at dksX2_reduce384_16 21 rfl rfl)
theorem dX2_reduce384_398 : decode cX2_reduce384 398 = .ok (.lstore 11, 2) := dk_55 11 (dk_at dksX2_reduce384_16 22 rfl rfl)
theorem dX2_reduce384_400 : decode cX2_reduce384 400 = .ok (.lload 13, 2) := dk_22 13 (dk_at dksX2_reduce384_17 0 rfl rfl)
theorem dX2_reduce384_402 : decode cX2_reduce384 402 = .ok (.lload 23, 2) := dk_22 23 (dk_at dksX2_reduce384_17 2 rfl rfl)
theorem dX2_reduce384_404 : decode cX2_reduce384 404 = .ok (.ldc2_w 50, 3) := dk_20 0 50 (dk_at dksX2_reduce384_17 4 rfl rfl)
theorem dX2_reduce384_407 : decode cX2_reduce384 407 = .ok (.lmul, 1) := dk_105 (dk_at dksX2_reduce384_17 7 rfl rfl)
theorem dX2_reduce384_408 : decode cX2_reduce384 408 = .ok (.lsub, 1) := dk_101 (dk_at dksX2_reduce384_17 8 rfl rfl)
theorem dX2_reduce384_409 : decode cX2_reduce384 409 = .ok (.lstore 13, 2) := dk_55 13 (dk_at dksX2_reduce384_17 9 rfl rfl)
theorem dX2_reduce384_411 : decode cX2_reduce384 411 = .ok (.lload 21, 2) := dk_22 21 (dk_at dksX2_reduce384_17 11 rfl rfl)
theorem dX2_reduce384_413 : decode cX2_reduce384 413 = .ok (.lload 19, 2) := dk_22 19 (dk_at dksX2_reduce384_17 13 rfl rfl)
theorem dX2_reduce384_415 : decode cX2_reduce384 415 = .ok (.bipush 28, 2) := dk_16 28 (dk_at dksX2_reduce384_17 15 rfl rfl)
theorem dX2_reduce384_417 : decode cX2_reduce384 417 = .ok (.lshr, 1) := dk_123 (dk_at dksX2_reduce384_17 17 rfl rfl)
theorem dX2_reduce384_418 : decode cX2_reduce384 418 = .ok (.ladd, 1) := dk_97 (dk_at dksX2_reduce384_17 18 rfl rfl)
theorem dX2_reduce384_419 : decode cX2_reduce384 419 = .ok (.lstore 21, 2) := dk_55 21 (dk_at dksX2_reduce384_17 19 rfl rfl)
theorem dX2_reduce384_421 : decode cX2_reduce384 421 = .ok (.lload 19, 2) := dk_22 19 (dk_at dksX2_reduce384_17 21 rfl rfl)
theorem dX2_reduce384_423 : decode cX2_reduce384 423 = .ok (.ldc2_w 40, 3) := dk_20 0 40 (dk_at dksX2_reduce384_18 0 rfl rfl)
theorem dX2_reduce384_426 : decode cX2_reduce384 426 = .ok (.land, 1) := dk_127 (dk_at dksX2_reduce384_18 3 rfl rfl)
theorem dX2_reduce384_427 : decode cX2_reduce384 427 = .ok (.lstore 19, 2) := dk_55 19 (dk_at dksX2_reduce384_18 4 rfl rfl)
theorem dX2_reduce384_429 : decode cX2_reduce384 429 = .ok (.lload_n 3, 1) := dk_33 (dk_at dksX2_reduce384_18 6 rfl rfl)
theorem dX2_reduce384_430 : decode cX2_reduce384 430 = .ok (.lload 21, 2) := dk_22 21 (dk_at dksX2_reduce384_18 7 rfl rfl)
theorem dX2_reduce384_432 : decode cX2_reduce384 432 = .ok (.ldc2_w 42, 3) := dk_20 0 42 (dk_at dksX2_reduce384_18 9 rfl rfl)
theorem dX2_reduce384_435 : decode cX2_reduce384 435 = .ok (.lmul, 1) := dk_105 (dk_at dksX2_reduce384_18 12 rfl rfl)
theorem dX2_reduce384_436 : decode cX2_reduce384 436 = .ok (.lsub, 1) := dk_101 (dk_at dksX2_reduce384_18 13 rfl rfl)
theorem dX2_reduce384_437 : decode cX2_reduce384 437 = .ok (.lstore_n 3, 1) := dk_66 (dk_at dksX2_reduce384_18 14 rfl rfl)
theorem dX2_reduce384_438 : decode cX2_reduce384 438 = .ok (.lload 5, 2) := dk_22 5 (dk_at dksX2_reduce384_18 15 rfl rfl)
theorem dX2_reduce384_440 : decode cX2_reduce384 440 = .ok (.lload 21, 2) := dk_22 21 (dk_at dksX2_reduce384_18 17 rfl rfl)
theorem dX2_reduce384_442 : decode cX2_reduce384 442 = .ok (.ldc2_w 44, 3) := dk_20 0 44 (dk_at dksX2_reduce384_18 19 rfl rfl)
theorem dX2_reduce384_445 : decode cX2_reduce384 445 = .ok (.lmul, 1) := dk_105 (dk_at dksX2_reduce384_18 22 rfl rfl)
theorem dX2_reduce384_446 : decode cX2_reduce384 446 = .ok (.lsub, 1) := dk_101 (dk_at dksX2_reduce384_18 23 rfl rfl)
theorem dX2_reduce384_447 : decode cX2_reduce384 447 = .ok (.lstore 5, 2) := dk_55 5 (dk_at dksX2_reduce384_19 0 rfl rfl)
theorem dX2_reduce384_449 : decode cX2_reduce384 449 = .ok (.lload 7, 2) := dk_22 7 (dk_at dksX2_reduce384_19 2 rfl rfl)
theorem dX2_reduce384_451 : decode cX2_reduce384 451 = .ok (.lload 21, 2) := dk_22 21 (dk_at dksX2_reduce384_19 4 rfl rfl)
theorem dX2_reduce384_453 : decode cX2_reduce384 453 = .ok (.ldc2_w 46, 3) := dk_20 0 46 (dk_at dksX2_reduce384_19 6 rfl rfl)
theorem dX2_reduce384_456 : decode cX2_reduce384 456 = .ok (.lmul, 1) := dk_105 (dk_at dksX2_reduce384_19 9 rfl rfl)
theorem dX2_reduce384_457 : decode cX2_reduce384 457 = .ok (.lsub, 1) := dk_101 (dk_at dksX2_reduce384_19 10 rfl rfl)
theorem dX2_reduce384_458 : decode cX2_reduce384 458 = .ok (.lstore 7, 2) := dk_55 7 (dk_at dksX2_reduce384_19 11 rfl rfl)
theorem dX2_reduce384_460 : decode cX2_reduce384 460 = .ok (.lload 9, 2) := dk_22 9 (dk_at dksX2_reduce384_19 13 rfl rfl)
theorem dX2_reduce384_462 : decode cX2_reduce384 462 = .ok (.lload 21, 2) := dk_22 21 (dk_at dksX2_reduce384_19 15 rfl rfl)
theorem dX2_reduce384_464 : decode cX2_reduce384 464 = .ok (.ldc2_w 48, 3) := dk_20 0 48 (dk_at dksX2_reduce384_19 17 rfl rfl)
theorem dX2_reduce384_467 : decode cX2_reduce384 467 = .ok (.lmul, 1) := dk_105 (dk_at dksX2_reduce384_19 20 rfl rfl)
theorem dX2_reduce384_468 : decode cX2_reduce384 468 = .ok (.lsub, 1) := dk_101 (dk_at dksX2_reduce384_19 21 rfl rfl)
theorem dX2_reduce384_469 : decode cX2_reduce384 469 = .ok (.lstore 9, 2) := dk_55 9 (dk_at dksX2_reduce384_19 22 rfl rfl)
theorem dX2_reduce384_471 : decode cX2_reduce384 471 = .ok (.lload 11, 2) := dk_22 11 (dk_at dksX2_reduce384_20 0 rfl rfl)
theorem dX2_reduce384_473 : decode cX2_reduce384 473 = .ok (.lload 21, 2) := dk_22 21 (dk_at dksX2_reduce384_20 2 rfl rfl)
theorem dX2_reduce384_475 : decode cX2_reduce384 475 = .ok (.ldc2_w 50, 3) := dk_20 0 50 (dk_at dksX2_reduce384_20 4 rfl rfl)
theorem dX2_reduce384_478 : decode cX2_reduce384 478 = .ok (.lmul, 1) := dk_105 (dk_at dksX2_reduce384_20 7 rfl rfl)
theorem dX2_reduce384_479 : decode cX2_reduce384 479 = .ok (.lsub, 1) := dk_101 (dk_at dksX2_reduce384_20 8 rfl rfl)
theorem dX2_reduce384_480 : decode cX2_reduce384 480 = .ok (.lstore 11, 2) := dk_55 11 (dk_at dksX2_reduce384_20 9 rfl rfl)
theorem dX2_reduce384_482 : decode cX2_reduce384 482 = .ok (.lload 17, 2) := dk_22 17 (dk_at dksX2_reduce384_20 11 rfl rfl)
theorem dX2_reduce384_484 : decode cX2_reduce384 484 = .ok (.lload 15, 2) := dk_22 15 (dk_at dksX2_reduce384_20 13 rfl rfl)
theorem dX2_reduce384_486 : decode cX2_reduce384 486 = .ok (.bipush 28, 2) := dk_16 28 (dk_at dksX2_reduce384_20 15 rfl rfl)
theorem dX2_reduce384_488 : decode cX2_reduce384 488 = .ok (.lshr, 1) := dk_123 (dk_at dksX2_reduce384_20 17 rfl rfl)
theorem dX2_reduce384_489 : decode cX2_reduce384 489 = .ok (.ladd, 1) := dk_97 (dk_at dksX2_reduce384_20 18 rfl rfl)
theorem dX2_reduce384_490 : decode cX2_reduce384 490 = .ok (.lstore 17, 2) := dk_55 17 (dk_at dksX2_reduce384_20 19 rfl rfl)
theorem dX2_reduce384_492 : decode cX2_reduce384 492 = .ok (.lload 15, 2) := dk_22 15 (dk_at dksX2_reduce384_20 21 rfl rfl)
theorem dX2_reduce384_494 : decode cX2_reduce384 494 = .ok (.ldc2_w 40, 3) := dk_20 0 40 (dk_at dksX2_reduce384_21 0 rfl rfl)
theorem dX2_reduce384_497 : decode cX2_reduce384 497 = .ok (.land, 1) := dk_127 (dk_at dksX2_reduce384_21 3 rfl rfl)
theorem dX2_reduce384_498 : decode cX2_reduce384 498 = .ok (.lstore 15, 2) := dk_55 15 (dk_at dksX2_reduce384_21 4 rfl rfl)
theorem dX2_reduce384_500 : decode cX2_reduce384 500 = .ok (.lload 19, 2) := dk_22 19 (dk_at dksX2_reduce384_21 6 rfl rfl)
theorem dX2_reduce384_502 : decode cX2_reduce384 502 = .ok (.lload 17, 2) := dk_22 17 (dk_at dksX2_reduce384_21 8 rfl rfl)
theorem dX2_reduce384_504 : decode cX2_reduce384 504 = .ok (.bipush 28, 2) := dk_16 28 (dk_at dksX2_reduce384_21 10 rfl rfl)
theorem dX2_reduce384_506 : decode cX2_reduce384 506 = .ok (.lshr, 1) := dk_123 (dk_at dksX2_reduce384_21 12 rfl rfl)
theorem dX2_reduce384_507 : decode cX2_reduce384 507 = .ok (.ladd, 1) := dk_97 (dk_at dksX2_reduce384_21 13 rfl rfl)
theorem dX2_reduce384_508 : decode cX2_reduce384 508 = .ok (.lstore 19, 2) := dk_55 19 (dk_at dksX2_reduce384_21 14 rfl rfl)
theorem dX2_reduce384_510 : decode cX2_reduce384 510 = .ok (.lload 17, 2) := dk_22 17 (dk_at dksX2_reduce384_21 16 rfl rfl)
theorem dX2_reduce384_512 : decode cX2_reduce384 512 = .ok (.ldc2_w 40, 3) := dk_20 0 40 (dk_at dksX2_reduce384_21 18 rfl rfl)
theorem dX2_reduce384_515 : decode cX2_reduce384 515 = .ok (.land, 1) := dk_127 (dk_at dksX2_reduce384_21 21 rfl rfl)
theorem dX2_reduce384_516 : decode cX2_reduce384 516 = .ok (.lstore 17, 2) := dk_55 17 (dk_at dksX2_reduce384_21 22 rfl rfl)
theorem dX2_reduce384_518 : decode cX2_reduce384 518 = .ok (.lload 17, 2) := dk_22 17 (dk_at dksX2_reduce384_22 0 rfl rfl)
theorem dX2_reduce384_520 : decode cX2_reduce384 520 = .ok (.bipush 27, 2) := dk_16 27 (dk_at dksX2_reduce384_22 2 rfl rfl)
theorem dX2_reduce384_522 : decode cX2_reduce384 522 = .ok (.lushr, 1) := dk_125 (dk_at dksX2_reduce384_22 4 rfl rfl)
theorem dX2_reduce384_523 : decode cX2_reduce384 523 = .ok (.lstore 29, 2) := dk_55 29 (dk_at dksX2_reduce384_22 5 rfl rfl)
theorem dX2_reduce384_525 : decode cX2_reduce384 525 = .ok (.lload 19, 2) := dk_22 19 (dk_at dksX2_reduce384_22 7 rfl rfl)
theorem dX2_reduce384_527 : decode cX2_reduce384 527 = .ok (.lload 29, 2) := dk_22 29 (dk_at dksX2_reduce384_22 9 rfl rfl)
theorem dX2_reduce384_529 : decode cX2_reduce384 529 = .ok (.ladd, 1) := dk_97 (dk_at dksX2_reduce384_22 11 rfl rfl)
theorem dX2_reduce384_530 : decode cX2_reduce384 530 = .ok (.lstore 19, 2) := dk_55 19 (dk_at dksX2_reduce384_22 12 rfl rfl)
theorem dX2_reduce384_532 : decode cX2_reduce384 532 = .ok (.lload_n 1, 1) := dk_31 (dk_at dksX2_reduce384_22 14 rfl rfl)
theorem dX2_reduce384_533 : decode cX2_reduce384 533 = .ok (.lload 19, 2) := dk_22 19 (dk_at dksX2_reduce384_22 15 rfl rfl)
theorem dX2_reduce384_535 : decode cX2_reduce384 535 = .ok (.ldc2_w 42, 3) := dk_20 0 42 (dk_at dksX2_reduce384_22 17 rfl rfl)
theorem dX2_reduce384_538 : decode cX2_reduce384 538 = .ok (.lmul, 1) := dk_105 (dk_at dksX2_reduce384_22 20 rfl rfl)
theorem dX2_reduce384_539 : decode cX2_reduce384 539 = .ok (.lsub, 1) := dk_101 (dk_at dksX2_reduce384_22 21 rfl rfl)
theorem dX2_reduce384_540 : decode cX2_reduce384 540 = .ok (.lstore_n 1, 1) := dk_64 (dk_at dksX2_reduce384_22 22 rfl rfl)
theorem dX2_reduce384_541 : decode cX2_reduce384 541 = .ok (.lload_n 3, 1) := dk_33 (dk_at dksX2_reduce384_22 23 rfl rfl)
theorem dX2_reduce384_542 : decode cX2_reduce384 542 = .ok (.lload 19, 2) := dk_22 19 (dk_at dksX2_reduce384_23 0 rfl rfl)
theorem dX2_reduce384_544 : decode cX2_reduce384 544 = .ok (.ldc2_w 44, 3) := dk_20 0 44 (dk_at dksX2_reduce384_23 2 rfl rfl)
theorem dX2_reduce384_547 : decode cX2_reduce384 547 = .ok (.lmul, 1) := dk_105 (dk_at dksX2_reduce384_23 5 rfl rfl)
theorem dX2_reduce384_548 : decode cX2_reduce384 548 = .ok (.lsub, 1) := dk_101 (dk_at dksX2_reduce384_23 6 rfl rfl)
theorem dX2_reduce384_549 : decode cX2_reduce384 549 = .ok (.lstore_n 3, 1) := dk_66 (dk_at dksX2_reduce384_23 7 rfl rfl)
theorem dX2_reduce384_550 : decode cX2_reduce384 550 = .ok (.lload 5, 2) := dk_22 5 (dk_at dksX2_reduce384_23 8 rfl rfl)
theorem dX2_reduce384_552 : decode cX2_reduce384 552 = .ok (.lload 19, 2) := dk_22 19 (dk_at dksX2_reduce384_23 10 rfl rfl)
theorem dX2_reduce384_554 : decode cX2_reduce384 554 = .ok (.ldc2_w 46, 3) := dk_20 0 46 (dk_at dksX2_reduce384_23 12 rfl rfl)
theorem dX2_reduce384_557 : decode cX2_reduce384 557 = .ok (.lmul, 1) := dk_105 (dk_at dksX2_reduce384_23 15 rfl rfl)
theorem dX2_reduce384_558 : decode cX2_reduce384 558 = .ok (.lsub, 1) := dk_101 (dk_at dksX2_reduce384_23 16 rfl rfl)
theorem dX2_reduce384_559 : decode cX2_reduce384 559 = .ok (.lstore 5, 2) := dk_55 5 (dk_at dksX2_reduce384_23 17 rfl rfl)
theorem dX2_reduce384_561 : decode cX2_reduce384 561 = .ok (.lload 7, 2) := dk_22 7 (dk_at dksX2_reduce384_23 19 rfl rfl)
theorem dX2_reduce384_563 : decode cX2_reduce384 563 = .ok (.lload 19, 2) := dk_22 19 (dk_at dksX2_reduce384_23 21 rfl rfl)
theorem dX2_reduce384_565 : decode cX2_reduce384 565 = .ok (.ldc2_w 48, 3) := dk_20 0 48 (dk_at dksX2_reduce384_24 0 rfl rfl)
theorem dX2_reduce384_568 : decode cX2_reduce384 568 = .ok (.lmul, 1) := dk_105 (dk_at dksX2_reduce384_24 3 rfl rfl)
theorem dX2_reduce384_569 : decode cX2_reduce384 569 = .ok (.lsub, 1) := dk_101 (dk_at dksX2_reduce384_24 4 rfl rfl)
theorem dX2_reduce384_570 : decode cX2_reduce384 570 = .ok (.lstore 7, 2) := dk_55 7 (dk_at dksX2_reduce384_24 5 rfl rfl)
theorem dX2_reduce384_572 : decode cX2_reduce384 572 = .ok (.lload 9, 2) := dk_22 9 (dk_at dksX2_reduce384_24 7 rfl rfl)
theorem dX2_reduce384_574 : decode cX2_reduce384 574 = .ok (.lload 19, 2) := dk_22 19 (dk_at dksX2_reduce384_24 9 rfl rfl)
theorem dX2_reduce384_576 : decode cX2_reduce384 576 = .ok (.ldc2_w 50, 3) := dk_20 0 50 (dk_at dksX2_reduce384_24 11 rfl rfl)
theorem dX2_reduce384_579 : decode cX2_reduce384 579 = .ok (.lmul, 1) := dk_105 (dk_at dksX2_reduce384_24 14 rfl rfl)
theorem dX2_reduce384_580 : decode cX2_reduce384 580 = .ok (.lsub, 1) := dk_101 (dk_at dksX2_reduce384_24 15 rfl rfl)
theorem dX2_reduce384_581 : decode cX2_reduce384 581 = .ok (.lstore 9, 2) := dk_55 9 (dk_at dksX2_reduce384_24 16 rfl rfl)
theorem dX2_reduce384_583 : decode cX2_reduce384 583 = .ok (.lload_n 3, 1) := dk_33 (dk_at dksX2_reduce384_24 18 rfl rfl)
theorem dX2_reduce384_584 : decode cX2_reduce384 584 = .ok (.lload_n 1, 1) := dk_31 (dk_at dksX2_reduce384_24 19 rfl rfl)
theorem dX2_reduce384_585 : decode cX2_reduce384 585 = .ok (.bipush 28, 2) := dk_16 28 (dk_at dksX2_reduce384_24 20 rfl rfl)
theorem dX2_reduce384_587 : decode cX2_reduce384 587 = .ok (.lshr, 1) := dk_123 (dk_at dksX2_reduce384_24 22 rfl rfl)
theorem dX2_reduce384_588 : decode cX2_reduce384 588 = .ok (.ladd, 1) := dk_97 (dk_at dksX2_reduce384_24 23 rfl rfl)
theorem dX2_reduce384_589 : decode cX2_reduce384 589 = .ok (.lstore_n 3, 1) := dk_66 (dk_at dksX2_reduce384_25 0 rfl rfl)
theorem dX2_reduce384_590 : decode cX2_reduce384 590 = .ok (.lload_n 1, 1) := dk_31 (dk_at dksX2_reduce384_25 1 rfl rfl)
theorem dX2_reduce384_591 : decode cX2_reduce384 591 = .ok (.ldc2_w 40, 3) := dk_20 0 40 (dk_at dksX2_reduce384_25 2 rfl rfl)
theorem dX2_reduce384_594 : decode cX2_reduce384 594 = .ok (.land, 1) := dk_127 (dk_at dksX2_reduce384_25 5 rfl rfl)
theorem dX2_reduce384_595 : decode cX2_reduce384 595 = .ok (.lstore_n 1, 1) := dk_64 (dk_at dksX2_reduce384_25 6 rfl rfl)
theorem dX2_reduce384_596 : decode cX2_reduce384 596 = .ok (.lload 5, 2) := dk_22 5 (dk_at dksX2_reduce384_25 7 rfl rfl)
theorem dX2_reduce384_598 : decode cX2_reduce384 598 = .ok (.lload_n 3, 1) := dk_33 (dk_at dksX2_reduce384_25 9 rfl rfl)
theorem dX2_reduce384_599 : decode cX2_reduce384 599 = .ok (.bipush 28, 2) := dk_16 28 (dk_at dksX2_reduce384_25 10 rfl rfl)
theorem dX2_reduce384_601 : decode cX2_reduce384 601 = .ok (.lshr, 1) := dk_123 (dk_at dksX2_reduce384_25 12 rfl rfl)
theorem dX2_reduce384_602 : decode cX2_reduce384 602 = .ok (.ladd, 1) := dk_97 (dk_at dksX2_reduce384_25 13 rfl rfl)
theorem dX2_reduce384_603 : decode cX2_reduce384 603 = .ok (.lstore 5, 2) := dk_55 5 (dk_at dksX2_reduce384_25 14 rfl rfl)
theorem dX2_reduce384_605 : decode cX2_reduce384 605 = .ok (.lload_n 3, 1) := dk_33 (dk_at dksX2_reduce384_25 16 rfl rfl)
theorem dX2_reduce384_606 : decode cX2_reduce384 606 = .ok (.ldc2_w 40, 3) := dk_20 0 40 (dk_at dksX2_reduce384_25 17 rfl rfl)
theorem dX2_reduce384_609 : decode cX2_reduce384 609 = .ok (.land, 1) := dk_127 (dk_at dksX2_reduce384_25 20 rfl rfl)
theorem dX2_reduce384_610 : decode cX2_reduce384 610 = .ok (.lstore_n 3, 1) := dk_66 (dk_at dksX2_reduce384_25 21 rfl rfl)
theorem dX2_reduce384_611 : decode cX2_reduce384 611 = .ok (.lload 7, 2) := dk_22 7 (dk_at dksX2_reduce384_25 22 rfl rfl)
theorem dX2_reduce384_613 : decode cX2_reduce384 613 = .ok (.lload 5, 2) := dk_22 5 (dk_at dksX2_reduce384_26 0 rfl rfl)
theorem dX2_reduce384_615 : decode cX2_reduce384 615 = .ok (.bipush 28, 2) := dk_16 28 (dk_at dksX2_reduce384_26 2 rfl rfl)
theorem dX2_reduce384_617 : decode cX2_reduce384 617 = .ok (.lshr, 1) := dk_123 (dk_at dksX2_reduce384_26 4 rfl rfl)
theorem dX2_reduce384_618 : decode cX2_reduce384 618 = .ok (.ladd, 1) := dk_97 (dk_at dksX2_reduce384_26 5 rfl rfl)
theorem dX2_reduce384_619 : decode cX2_reduce384 619 = .ok (.lstore 7, 2) := dk_55 7 (dk_at dksX2_reduce384_26 6 rfl rfl)
theorem dX2_reduce384_621 : decode cX2_reduce384 621 = .ok (.lload 5, 2) := dk_22 5 (dk_at dksX2_reduce384_26 8 rfl rfl)
theorem dX2_reduce384_623 : decode cX2_reduce384 623 = .ok (.ldc2_w 40, 3) := dk_20 0 40 (dk_at dksX2_reduce384_26 10 rfl rfl)
theorem dX2_reduce384_626 : decode cX2_reduce384 626 = .ok (.land, 1) := dk_127 (dk_at dksX2_reduce384_26 13 rfl rfl)
theorem dX2_reduce384_627 : decode cX2_reduce384 627 = .ok (.lstore 5, 2) := dk_55 5 (dk_at dksX2_reduce384_26 14 rfl rfl)
theorem dX2_reduce384_629 : decode cX2_reduce384 629 = .ok (.lload 9, 2) := dk_22 9 (dk_at dksX2_reduce384_26 16 rfl rfl)
theorem dX2_reduce384_631 : decode cX2_reduce384 631 = .ok (.lload 7, 2) := dk_22 7 (dk_at dksX2_reduce384_26 18 rfl rfl)
theorem dX2_reduce384_633 : decode cX2_reduce384 633 = .ok (.bipush 28, 2) := dk_16 28 (dk_at dksX2_reduce384_26 20 rfl rfl)
theorem dX2_reduce384_635 : decode cX2_reduce384 635 = .ok (.lshr, 1) := dk_123 (dk_at dksX2_reduce384_26 22 rfl rfl)
theorem dX2_reduce384_636 : decode cX2_reduce384 636 = .ok (.ladd, 1) := dk_97 (dk_at dksX2_reduce384_26 23 rfl rfl)
theorem dX2_reduce384_637 : decode cX2_reduce384 637 = .ok (.lstore 9, 2) := dk_55 9 (dk_at dksX2_reduce384_27 0 rfl rfl)
theorem dX2_reduce384_639 : decode cX2_reduce384 639 = .ok (.lload 7, 2) := dk_22 7 (dk_at dksX2_reduce384_27 2 rfl rfl)
theorem dX2_reduce384_641 : decode cX2_reduce384 641 = .ok (.ldc2_w 40, 3) := dk_20 0 40 (dk_at dksX2_reduce384_27 4 rfl rfl)
theorem dX2_reduce384_644 : decode cX2_reduce384 644 = .ok (.land, 1) := dk_127 (dk_at dksX2_reduce384_27 7 rfl rfl)
theorem dX2_reduce384_645 : decode cX2_reduce384 645 = .ok (.lstore 7, 2) := dk_55 7 (dk_at dksX2_reduce384_27 8 rfl rfl)
theorem dX2_reduce384_647 : decode cX2_reduce384 647 = .ok (.lload 11, 2) := dk_22 11 (dk_at dksX2_reduce384_27 10 rfl rfl)
theorem dX2_reduce384_649 : decode cX2_reduce384 649 = .ok (.lload 9, 2) := dk_22 9 (dk_at dksX2_reduce384_27 12 rfl rfl)
theorem dX2_reduce384_651 : decode cX2_reduce384 651 = .ok (.bipush 28, 2) := dk_16 28 (dk_at dksX2_reduce384_27 14 rfl rfl)
theorem dX2_reduce384_653 : decode cX2_reduce384 653 = .ok (.lshr, 1) := dk_123 (dk_at dksX2_reduce384_27 16 rfl rfl)
theorem dX2_reduce384_654 : decode cX2_reduce384 654 = .ok (.ladd, 1) := dk_97 (dk_at dksX2_reduce384_27 17 rfl rfl)
theorem dX2_reduce384_655 : decode cX2_reduce384 655 = .ok (.lstore 11, 2) := dk_55 11 (dk_at dksX2_reduce384_27 18 rfl rfl)
theorem dX2_reduce384_657 : decode cX2_reduce384 657 = .ok (.lload 9, 2) := dk_22 9 (dk_at dksX2_reduce384_27 20 rfl rfl)
theorem dX2_reduce384_659 : decode cX2_reduce384 659 = .ok (.ldc2_w 40, 3) := dk_20 0 40 (dk_at dksX2_reduce384_28 0 rfl rfl)
theorem dX2_reduce384_662 : decode cX2_reduce384 662 = .ok (.land, 1) := dk_127 (dk_at dksX2_reduce384_28 3 rfl rfl)
theorem dX2_reduce384_663 : decode cX2_reduce384 663 = .ok (.lstore 9, 2) := dk_55 9 (dk_at dksX2_reduce384_28 4 rfl rfl)
theorem dX2_reduce384_665 : decode cX2_reduce384 665 = .ok (.lload 13, 2) := dk_22 13 (dk_at dksX2_reduce384_28 6 rfl rfl)
theorem dX2_reduce384_667 : decode cX2_reduce384 667 = .ok (.lload 11, 2) := dk_22 11 (dk_at dksX2_reduce384_28 8 rfl rfl)
theorem dX2_reduce384_669 : decode cX2_reduce384 669 = .ok (.bipush 28, 2) := dk_16 28 (dk_at dksX2_reduce384_28 10 rfl rfl)
theorem dX2_reduce384_671 : decode cX2_reduce384 671 = .ok (.lshr, 1) := dk_123 (dk_at dksX2_reduce384_28 12 rfl rfl)
theorem dX2_reduce384_672 : decode cX2_reduce384 672 = .ok (.ladd, 1) := dk_97 (dk_at dksX2_reduce384_28 13 rfl rfl)
theorem dX2_reduce384_673 : decode cX2_reduce384 673 = .ok (.lstore 13, 2) := dk_55 13 (dk_at dksX2_reduce384_28 14 rfl rfl)
theorem dX2_reduce384_675 : decode cX2_reduce384 675 = .ok (.lload 11, 2) := dk_22 11 (dk_at dksX2_reduce384_28 16 rfl rfl)
theorem dX2_reduce384_677 : decode cX2_reduce384 677 = .ok (.ldc2_w 40, 3) := dk_20 0 40 (dk_at dksX2_reduce384_28 18 rfl rfl)
theorem dX2_reduce384_680 : decode cX2_reduce384 680 = .ok (.land, 1) := dk_127 (dk_at dksX2_reduce384_28 21 rfl rfl)
theorem dX2_reduce384_681 : decode cX2_reduce384 681 = .ok (.lstore 11, 2) := dk_55 11 (dk_at dksX2_reduce384_28 22 rfl rfl)
theorem dX2_reduce384_683 : decode cX2_reduce384 683 = .ok (.lload 15, 2) := dk_22 15 (dk_at dksX2_reduce384_29 0 rfl rfl)
theorem dX2_reduce384_685 : decode cX2_reduce384 685 = .ok (.lload 13, 2) := dk_22 13 (dk_at dksX2_reduce384_29 2 rfl rfl)
theorem dX2_reduce384_687 : decode cX2_reduce384 687 = .ok (.bipush 28, 2) := dk_16 28 (dk_at dksX2_reduce384_29 4 rfl rfl)
theorem dX2_reduce384_689 : decode cX2_reduce384 689 = .ok (.lshr, 1) := dk_123 (dk_at dksX2_reduce384_29 6 rfl rfl)
theorem dX2_reduce384_690 : decode cX2_reduce384 690 = .ok (.ladd, 1) := dk_97 (dk_at dksX2_reduce384_29 7 rfl rfl)
theorem dX2_reduce384_691 : decode cX2_reduce384 691 = .ok (.lstore 15, 2) := dk_55 15 (dk_at dksX2_reduce384_29 8 rfl rfl)
theorem dX2_reduce384_693 : decode cX2_reduce384 693 = .ok (.lload 13, 2) := dk_22 13 (dk_at dksX2_reduce384_29 10 rfl rfl)
theorem dX2_reduce384_695 : decode cX2_reduce384 695 = .ok (.ldc2_w 40, 3) := dk_20 0 40 (dk_at dksX2_reduce384_29 12 rfl rfl)
theorem dX2_reduce384_698 : decode cX2_reduce384 698 = .ok (.land, 1) := dk_127 (dk_at dksX2_reduce384_29 15 rfl rfl)
theorem dX2_reduce384_699 : decode cX2_reduce384 699 = .ok (.lstore 13, 2) := dk_55 13 (dk_at dksX2_reduce384_29 16 rfl rfl)
theorem dX2_reduce384_701 : decode cX2_reduce384 701 = .ok (.lload 17, 2) := dk_22 17 (dk_at dksX2_reduce384_29 18 rfl rfl)
theorem dX2_reduce384_703 : decode cX2_reduce384 703 = .ok (.lload 15, 2) := dk_22 15 (dk_at dksX2_reduce384_29 20 rfl rfl)
theorem dX2_reduce384_705 : decode cX2_reduce384 705 = .ok (.bipush 28, 2) := dk_16 28 (dk_at dksX2_reduce384_29 22 rfl rfl)
theorem dX2_reduce384_707 : decode cX2_reduce384 707 = .ok (.lshr, 1) := dk_123 (dk_at dksX2_reduce384_30 0 rfl rfl)
theorem dX2_reduce384_708 : decode cX2_reduce384 708 = .ok (.ladd, 1) := dk_97 (dk_at dksX2_reduce384_30 1 rfl rfl)
theorem dX2_reduce384_709 : decode cX2_reduce384 709 = .ok (.lstore 17, 2) := dk_55 17 (dk_at dksX2_reduce384_30 2 rfl rfl)
theorem dX2_reduce384_711 : decode cX2_reduce384 711 = .ok (.lload 15, 2) := dk_22 15 (dk_at dksX2_reduce384_30 4 rfl rfl)
theorem dX2_reduce384_713 : decode cX2_reduce384 713 = .ok (.ldc2_w 40, 3) := dk_20 0 40 (dk_at dksX2_reduce384_30 6 rfl rfl)
theorem dX2_reduce384_716 : decode cX2_reduce384 716 = .ok (.land, 1) := dk_127 (dk_at dksX2_reduce384_30 9 rfl rfl)
theorem dX2_reduce384_717 : decode cX2_reduce384 717 = .ok (.lstore 15, 2) := dk_55 15 (dk_at dksX2_reduce384_30 10 rfl rfl)
theorem dX2_reduce384_719 : decode cX2_reduce384 719 = .ok (.lload 17, 2) := dk_22 17 (dk_at dksX2_reduce384_30 12 rfl rfl)
theorem dX2_reduce384_721 : decode cX2_reduce384 721 = .ok (.bipush 28, 2) := dk_16 28 (dk_at dksX2_reduce384_30 14 rfl rfl)
theorem dX2_reduce384_723 : decode cX2_reduce384 723 = .ok (.lshr, 1) := dk_123 (dk_at dksX2_reduce384_30 16 rfl rfl)
theorem dX2_reduce384_724 : decode cX2_reduce384 724 = .ok (.lstore 19, 2) := dk_55 19 (dk_at dksX2_reduce384_30 17 rfl rfl)
theorem dX2_reduce384_726 : decode cX2_reduce384 726 = .ok (.lload 17, 2) := dk_22 17 (dk_at dksX2_reduce384_30 19 rfl rfl)
theorem dX2_reduce384_728 : decode cX2_reduce384 728 = .ok (.ldc2_w 40, 3) := dk_20 0 40 (dk_at dksX2_reduce384_30 21 rfl rfl)
theorem dX2_reduce384_731 : decode cX2_reduce384 731 = .ok (.land, 1) := dk_127 (dk_at dksX2_reduce384_31 0 rfl rfl)
theorem dX2_reduce384_732 : decode cX2_reduce384 732 = .ok (.lstore 17, 2) := dk_55 17 (dk_at dksX2_reduce384_31 1 rfl rfl)
theorem dX2_reduce384_734 : decode cX2_reduce384 734 = .ok (.lload 19, 2) := dk_22 19 (dk_at dksX2_reduce384_31 3 rfl rfl)
theorem dX2_reduce384_736 : decode cX2_reduce384 736 = .ok (.lload 29, 2) := dk_22 29 (dk_at dksX2_reduce384_31 5 rfl rfl)
theorem dX2_reduce384_738 : decode cX2_reduce384 738 = .ok (.lsub, 1) := dk_101 (dk_at dksX2_reduce384_31 7 rfl rfl)
theorem dX2_reduce384_739 : decode cX2_reduce384 739 = .ok (.lstore 19, 2) := dk_55 19 (dk_at dksX2_reduce384_31 8 rfl rfl)
theorem dX2_reduce384_741 : decode cX2_reduce384 741 = .ok (.lload_n 1, 1) := dk_31 (dk_at dksX2_reduce384_31 10 rfl rfl)
theorem dX2_reduce384_742 : decode cX2_reduce384 742 = .ok (.lload 19, 2) := dk_22 19 (dk_at dksX2_reduce384_31 11 rfl rfl)
theorem dX2_reduce384_744 : decode cX2_reduce384 744 = .ok (.ldc2_w 42, 3) := dk_20 0 42 (dk_at dksX2_reduce384_31 13 rfl rfl)
theorem dX2_reduce384_747 : decode cX2_reduce384 747 = .ok (.land, 1) := dk_127 (dk_at dksX2_reduce384_31 16 rfl rfl)
theorem dX2_reduce384_748 : decode cX2_reduce384 748 = .ok (.ladd, 1) := dk_97 (dk_at dksX2_reduce384_31 17 rfl rfl)
theorem dX2_reduce384_749 : decode cX2_reduce384 749 = .ok (.lstore_n 1, 1) := dk_64 (dk_at dksX2_reduce384_31 18 rfl rfl)
theorem dX2_reduce384_750 : decode cX2_reduce384 750 = .ok (.lload_n 3, 1) := dk_33 (dk_at dksX2_reduce384_31 19 rfl rfl)
theorem dX2_reduce384_751 : decode cX2_reduce384 751 = .ok (.lload 19, 2) := dk_22 19 (dk_at dksX2_reduce384_31 20 rfl rfl)
theorem dX2_reduce384_753 : decode cX2_reduce384 753 = .ok (.ldc2_w 44, 3) := dk_20 0 44 (dk_at dksX2_reduce384_32 0 rfl rfl)
theorem dX2_reduce384_756 : decode cX2_reduce384 756 = .ok (.land, 1) := dk_127 (dk_at dksX2_reduce384_32 3 rfl rfl)
theorem dX2_reduce384_757 : decode cX2_reduce384 757 = .ok (.ladd, 1) := dk_97 (dk_at dksX2_reduce384_32 4 rfl rfl)
theorem dX2_reduce384_758 : decode cX2_reduce384 758 = .ok (.lstore_n 3, 1) := dk_66 (dk_at dksX2_reduce384_32 5 rfl rfl)
theorem dX2_reduce384_759 : decode cX2_reduce384 759 = .ok (.lload 5, 2) := dk_22 5 (dk_at dksX2_reduce384_32 6 rfl rfl)
theorem dX2_reduce384_761 : decode cX2_reduce384 761 = .ok (.lload 19, 2) := dk_22 19 (dk_at dksX2_reduce384_32 8 rfl rfl)
theorem dX2_reduce384_763 : decode cX2_reduce384 763 = .ok (.ldc2_w 46, 3) := dk_20 0 46 (dk_at dksX2_reduce384_32 10 rfl rfl)
theorem dX2_reduce384_766 : decode cX2_reduce384 766 = .ok (.land, 1) := dk_127 (dk_at dksX2_reduce384_32 13 rfl rfl)
theorem dX2_reduce384_767 : decode cX2_reduce384 767 = .ok (.ladd, 1) := dk_97 (dk_at dksX2_reduce384_32 14 rfl rfl)
theorem dX2_reduce384_768 : decode cX2_reduce384 768 = .ok (.lstore 5, 2) := dk_55 5 (dk_at dksX2_reduce384_32 15 rfl rfl)
theorem dX2_reduce384_770 : decode cX2_reduce384 770 = .ok (.lload 7, 2) := dk_22 7 (dk_at dksX2_reduce384_32 17 rfl rfl)
theorem dX2_reduce384_772 : decode cX2_reduce384 772 = .ok (.lload 19, 2) := dk_22 19 (dk_at dksX2_reduce384_32 19 rfl rfl)
theorem dX2_reduce384_774 : decode cX2_reduce384 774 = .ok (.ldc2_w 48, 3) := dk_20 0 48 (dk_at dksX2_reduce384_32 21 rfl rfl)
theorem dX2_reduce384_777 : decode cX2_reduce384 777 = .ok (.land, 1) := dk_127 (dk_at dksX2_reduce384_33 0 rfl rfl)
theorem dX2_reduce384_778 : decode cX2_reduce384 778 = .ok (.ladd, 1) := dk_97 (dk_at dksX2_reduce384_33 1 rfl rfl)
theorem dX2_reduce384_779 : decode cX2_reduce384 779 = .ok (.lstore 7, 2) := dk_55 7 (dk_at dksX2_reduce384_33 2 rfl rfl)
theorem dX2_reduce384_781 : decode cX2_reduce384 781 = .ok (.lload 9, 2) := dk_22 9 (dk_at dksX2_reduce384_33 4 rfl rfl)
theorem dX2_reduce384_783 : decode cX2_reduce384 783 = .ok (.lload 19, 2) := dk_22 19 (dk_at dksX2_reduce384_33 6 rfl rfl)
theorem dX2_reduce384_785 : decode cX2_reduce384 785 = .ok (.ldc2_w 50, 3) := dk_20 0 50 (dk_at dksX2_reduce384_33 8 rfl rfl)
theorem dX2_reduce384_788 : decode cX2_reduce384 788 = .ok (.land, 1) := dk_127 (dk_at dksX2_reduce384_33 11 rfl rfl)
theorem dX2_reduce384_789 : decode cX2_reduce384 789 = .ok (.ladd, 1) := dk_97 (dk_at dksX2_reduce384_33 12 rfl rfl)
theorem dX2_reduce384_790 : decode cX2_reduce384 790 = .ok (.lstore 9, 2) := dk_55 9 (dk_at dksX2_reduce384_33 13 rfl rfl)
theorem dX2_reduce384_792 : decode cX2_reduce384 792 = .ok (.lload_n 3, 1) := dk_33 (dk_at dksX2_reduce384_33 15 rfl rfl)
theorem dX2_reduce384_793 : decode cX2_reduce384 793 = .ok (.lload_n 1, 1) := dk_31 (dk_at dksX2_reduce384_33 16 rfl rfl)
theorem dX2_reduce384_794 : decode cX2_reduce384 794 = .ok (.bipush 28, 2) := dk_16 28 (dk_at dksX2_reduce384_33 17 rfl rfl)
theorem dX2_reduce384_796 : decode cX2_reduce384 796 = .ok (.lshr, 1) := dk_123 (dk_at dksX2_reduce384_33 19 rfl rfl)
theorem dX2_reduce384_797 : decode cX2_reduce384 797 = .ok (.ladd, 1) := dk_97 (dk_at dksX2_reduce384_33 20 rfl rfl)
theorem dX2_reduce384_798 : decode cX2_reduce384 798 = .ok (.lstore_n 3, 1) := dk_66 (dk_at dksX2_reduce384_33 21 rfl rfl)
theorem dX2_reduce384_799 : decode cX2_reduce384 799 = .ok (.lload_n 1, 1) := dk_31 (dk_at dksX2_reduce384_33 22 rfl rfl)
theorem dX2_reduce384_800 : decode cX2_reduce384 800 = .ok (.ldc2_w 40, 3) := dk_20 0 40 (dk_at dksX2_reduce384_34 0 rfl rfl)
theorem dX2_reduce384_803 : decode cX2_reduce384 803 = .ok (.land, 1) := dk_127 (dk_at dksX2_reduce384_34 3 rfl rfl)
theorem dX2_reduce384_804 : decode cX2_reduce384 804 = .ok (.lstore_n 1, 1) := dk_64 (dk_at dksX2_reduce384_34 4 rfl rfl)
theorem dX2_reduce384_805 : decode cX2_reduce384 805 = .ok (.lload 5, 2) := dk_22 5 (dk_at dksX2_reduce384_34 5 rfl rfl)
theorem dX2_reduce384_807 : decode cX2_reduce384 807 = .ok (.lload_n 3, 1) := dk_33 (dk_at dksX2_reduce384_34 7 rfl rfl)
theorem dX2_reduce384_808 : decode cX2_reduce384 808 = .ok (.bipush 28, 2) := dk_16 28 (dk_at dksX2_reduce384_34 8 rfl rfl)
theorem dX2_reduce384_810 : decode cX2_reduce384 810 = .ok (.lshr, 1) := dk_123 (dk_at dksX2_reduce384_34 10 rfl rfl)
theorem dX2_reduce384_811 : decode cX2_reduce384 811 = .ok (.ladd, 1) := dk_97 (dk_at dksX2_reduce384_34 11 rfl rfl)
theorem dX2_reduce384_812 : decode cX2_reduce384 812 = .ok (.lstore 5, 2) := dk_55 5 (dk_at dksX2_reduce384_34 12 rfl rfl)
theorem dX2_reduce384_814 : decode cX2_reduce384 814 = .ok (.lload_n 3, 1) := dk_33 (dk_at dksX2_reduce384_34 14 rfl rfl)
theorem dX2_reduce384_815 : decode cX2_reduce384 815 = .ok (.ldc2_w 40, 3) := dk_20 0 40 (dk_at dksX2_reduce384_34 15 rfl rfl)
theorem dX2_reduce384_818 : decode cX2_reduce384 818 = .ok (.land, 1) := dk_127 (dk_at dksX2_reduce384_34 18 rfl rfl)
theorem dX2_reduce384_819 : decode cX2_reduce384 819 = .ok (.lstore_n 3, 1) := dk_66 (dk_at dksX2_reduce384_34 19 rfl rfl)
theorem dX2_reduce384_820 : decode cX2_reduce384 820 = .ok (.lload 7, 2) := dk_22 7 (dk_at dksX2_reduce384_34 20 rfl rfl)
theorem dX2_reduce384_822 : decode cX2_reduce384 822 = .ok (.lload 5, 2) := dk_22 5 (dk_at dksX2_reduce384_34 22 rfl rfl)
theorem dX2_reduce384_824 : decode cX2_reduce384 824 = .ok (.bipush 28, 2) := dk_16 28 (dk_at dksX2_reduce384_35 0 rfl rfl)
theorem dX2_reduce384_826 : decode cX2_reduce384 826 = .ok (.lshr, 1) := dk_123 (dk_at dksX2_reduce384_35 2 rfl rfl)
theorem dX2_reduce384_827 : decode cX2_reduce384 827 = .ok (.ladd, 1) := dk_97 (dk_at dksX2_reduce384_35 3 rfl rfl)
theorem dX2_reduce384_828 : decode cX2_reduce384 828 = .ok (.lstore 7, 2) := dk_55 7 (dk_at dksX2_reduce384_35 4 rfl rfl)
theorem dX2_reduce384_830 : decode cX2_reduce384 830 = .ok (.lload 5, 2) := dk_22 5 (dk_at dksX2_reduce384_35 6 rfl rfl)
theorem dX2_reduce384_832 : decode cX2_reduce384 832 = .ok (.ldc2_w 40, 3) := dk_20 0 40 (dk_at dksX2_reduce384_35 8 rfl rfl)
theorem dX2_reduce384_835 : decode cX2_reduce384 835 = .ok (.land, 1) := dk_127 (dk_at dksX2_reduce384_35 11 rfl rfl)
theorem dX2_reduce384_836 : decode cX2_reduce384 836 = .ok (.lstore 5, 2) := dk_55 5 (dk_at dksX2_reduce384_35 12 rfl rfl)
theorem dX2_reduce384_838 : decode cX2_reduce384 838 = .ok (.lload 9, 2) := dk_22 9 (dk_at dksX2_reduce384_35 14 rfl rfl)
theorem dX2_reduce384_840 : decode cX2_reduce384 840 = .ok (.lload 7, 2) := dk_22 7 (dk_at dksX2_reduce384_35 16 rfl rfl)
theorem dX2_reduce384_842 : decode cX2_reduce384 842 = .ok (.bipush 28, 2) := dk_16 28 (dk_at dksX2_reduce384_35 18 rfl rfl)
theorem dX2_reduce384_844 : decode cX2_reduce384 844 = .ok (.lshr, 1) := dk_123 (dk_at dksX2_reduce384_35 20 rfl rfl)
theorem dX2_reduce384_845 : decode cX2_reduce384 845 = .ok (.ladd, 1) := dk_97 (dk_at dksX2_reduce384_35 21 rfl rfl)
theorem dX2_reduce384_846 : decode cX2_reduce384 846 = .ok (.lstore 9, 2) := dk_55 9 (dk_at dksX2_reduce384_35 22 rfl rfl)
theorem dX2_reduce384_848 : decode cX2_reduce384 848 = .ok (.lload 7, 2) := dk_22 7 (dk_at dksX2_reduce384_36 0 rfl rfl)
theorem dX2_reduce384_850 : decode cX2_reduce384 850 = .ok (.ldc2_w 40, 3) := dk_20 0 40 (dk_at dksX2_reduce384_36 2 rfl rfl)
theorem dX2_reduce384_853 : decode cX2_reduce384 853 = .ok (.land, 1) := dk_127 (dk_at dksX2_reduce384_36 5 rfl rfl)
theorem dX2_reduce384_854 : decode cX2_reduce384 854 = .ok (.lstore 7, 2) := dk_55 7 (dk_at dksX2_reduce384_36 6 rfl rfl)
theorem dX2_reduce384_856 : decode cX2_reduce384 856 = .ok (.lload 11, 2) := dk_22 11 (dk_at dksX2_reduce384_36 8 rfl rfl)
theorem dX2_reduce384_858 : decode cX2_reduce384 858 = .ok (.lload 9, 2) := dk_22 9 (dk_at dksX2_reduce384_36 10 rfl rfl)
theorem dX2_reduce384_860 : decode cX2_reduce384 860 = .ok (.bipush 28, 2) := dk_16 28 (dk_at dksX2_reduce384_36 12 rfl rfl)
theorem dX2_reduce384_862 : decode cX2_reduce384 862 = .ok (.lshr, 1) := dk_123 (dk_at dksX2_reduce384_36 14 rfl rfl)
theorem dX2_reduce384_863 : decode cX2_reduce384 863 = .ok (.ladd, 1) := dk_97 (dk_at dksX2_reduce384_36 15 rfl rfl)
theorem dX2_reduce384_864 : decode cX2_reduce384 864 = .ok (.lstore 11, 2) := dk_55 11 (dk_at dksX2_reduce384_36 16 rfl rfl)
theorem dX2_reduce384_866 : decode cX2_reduce384 866 = .ok (.lload 9, 2) := dk_22 9 (dk_at dksX2_reduce384_36 18 rfl rfl)
theorem dX2_reduce384_868 : decode cX2_reduce384 868 = .ok (.ldc2_w 40, 3) := dk_20 0 40 (dk_at dksX2_reduce384_36 20 rfl rfl)
theorem dX2_reduce384_871 : decode cX2_reduce384 871 = .ok (.land, 1) := dk_127 (dk_at dksX2_reduce384_36 23 rfl rfl)
theorem dX2_reduce384_872 : decode cX2_reduce384 872 = .ok (.lstore 9, 2) := dk_55 9 (dk_at dksX2_reduce384_37 0 rfl rfl)
theorem dX2_reduce384_874 : decode cX2_reduce384 874 = .ok (.lload 13, 2) := dk_22 13 (dk_at dksX2_reduce384_37 2 rfl rfl)
theorem dX2_reduce384_876 : decode cX2_reduce384 876 = .ok (.lload 11, 2) := dk_22 11 (dk_at dksX2_reduce384_37 4 rfl rfl)
theorem dX2_reduce384_878 : decode cX2_reduce384 878 = .ok (.bipush 28, 2) := dk_16 28 (dk_at dksX2_reduce384_37 6 rfl rfl)
theorem dX2_reduce384_880 : decode cX2_reduce384 880 = .ok (.lshr, 1) := dk_123 (dk_at dksX2_reduce384_37 8 rfl rfl)
theorem dX2_reduce384_881 : decode cX2_reduce384 881 = .ok (.ladd, 1) := dk_97 (dk_at dksX2_reduce384_37 9 rfl rfl)
theorem dX2_reduce384_882 : decode cX2_reduce384 882 = .ok (.lstore 13, 2) := dk_55 13 (dk_at dksX2_reduce384_37 10 rfl rfl)
theorem dX2_reduce384_884 : decode cX2_reduce384 884 = .ok (.lload 11, 2) := dk_22 11 (dk_at dksX2_reduce384_37 12 rfl rfl)
theorem dX2_reduce384_886 : decode cX2_reduce384 886 = .ok (.ldc2_w 40, 3) := dk_20 0 40 (dk_at dksX2_reduce384_37 14 rfl rfl)
theorem dX2_reduce384_889 : decode cX2_reduce384 889 = .ok (.land, 1) := dk_127 (dk_at dksX2_reduce384_37 17 rfl rfl)
theorem dX2_reduce384_890 : decode cX2_reduce384 890 = .ok (.lstore 11, 2) := dk_55 11 (dk_at dksX2_reduce384_37 18 rfl rfl)
theorem dX2_reduce384_892 : decode cX2_reduce384 892 = .ok (.lload 15, 2) := dk_22 15 (dk_at dksX2_reduce384_37 20 rfl rfl)
theorem dX2_reduce384_894 : decode cX2_reduce384 894 = .ok (.lload 13, 2) := dk_22 13 (dk_at dksX2_reduce384_37 22 rfl rfl)
theorem dX2_reduce384_896 : decode cX2_reduce384 896 = .ok (.bipush 28, 2) := dk_16 28 (dk_at dksX2_reduce384_38 0 rfl rfl)
theorem dX2_reduce384_898 : decode cX2_reduce384 898 = .ok (.lshr, 1) := dk_123 (dk_at dksX2_reduce384_38 2 rfl rfl)
theorem dX2_reduce384_899 : decode cX2_reduce384 899 = .ok (.ladd, 1) := dk_97 (dk_at dksX2_reduce384_38 3 rfl rfl)
theorem dX2_reduce384_900 : decode cX2_reduce384 900 = .ok (.lstore 15, 2) := dk_55 15 (dk_at dksX2_reduce384_38 4 rfl rfl)
theorem dX2_reduce384_902 : decode cX2_reduce384 902 = .ok (.lload 13, 2) := dk_22 13 (dk_at dksX2_reduce384_38 6 rfl rfl)
theorem dX2_reduce384_904 : decode cX2_reduce384 904 = .ok (.ldc2_w 40, 3) := dk_20 0 40 (dk_at dksX2_reduce384_38 8 rfl rfl)
theorem dX2_reduce384_907 : decode cX2_reduce384 907 = .ok (.land, 1) := dk_127 (dk_at dksX2_reduce384_38 11 rfl rfl)
theorem dX2_reduce384_908 : decode cX2_reduce384 908 = .ok (.lstore 13, 2) := dk_55 13 (dk_at dksX2_reduce384_38 12 rfl rfl)
theorem dX2_reduce384_910 : decode cX2_reduce384 910 = .ok (.lload 17, 2) := dk_22 17 (dk_at dksX2_reduce384_38 14 rfl rfl)
theorem dX2_reduce384_912 : decode cX2_reduce384 912 = .ok (.lload 15, 2) := dk_22 15 (dk_at dksX2_reduce384_38 16 rfl rfl)
theorem dX2_reduce384_914 : decode cX2_reduce384 914 = .ok (.bipush 28, 2) := dk_16 28 (dk_at dksX2_reduce384_38 18 rfl rfl)
theorem dX2_reduce384_916 : decode cX2_reduce384 916 = .ok (.lshr, 1) := dk_123 (dk_at dksX2_reduce384_38 20 rfl rfl)
theorem dX2_reduce384_917 : decode cX2_reduce384 917 = .ok (.ladd, 1) := dk_97 (dk_at dksX2_reduce384_38 21 rfl rfl)
theorem dX2_reduce384_918 : decode cX2_reduce384 918 = .ok (.lstore 17, 2) := dk_55 17 (dk_at dksX2_reduce384_38 22 rfl rfl)
theorem dX2_reduce384_920 : decode cX2_reduce384 920 = .ok (.lload 15, 2) := dk_22 15 (dk_at dksX2_reduce384_39 0 rfl rfl)
theorem dX2_reduce384_922 : decode cX2_reduce384 922 = .ok (.ldc2_w 40, 3) := dk_20 0 40 (dk_at dksX2_reduce384_39 2 rfl rfl)
theorem dX2_reduce384_925 : decode cX2_reduce384 925 = .ok (.land, 1) := dk_127 (dk_at dksX2_reduce384_39 5 rfl rfl)
theorem dX2_reduce384_926 : decode cX2_reduce384 926 = .ok (.lstore 15, 2) := dk_55 15 (dk_at dksX2_reduce384_39 6 rfl rfl)
theorem dX2_reduce384_928 : decode cX2_reduce384 928 = .ok (.bipush 64, 2) := dk_16 64 (dk_at dksX2_reduce384_39 8 rfl rfl)
theorem dX2_reduce384_930 : decode cX2_reduce384 930 = .ok (.newarray .byte, 2) := dk_188_8 (dk_at dksX2_reduce384_39 10 rfl rfl)
theorem dX2_reduce384_932 : decode cX2_reduce384 932 = .ok (.astore 31, 2) := dk_58 31 (dk_at dksX2_reduce384_39 12 rfl rfl)
theorem dX2_reduce384_934 : decode cX2_reduce384 934 = .ok (.lload_n 1, 1) := dk_31 (dk_at dksX2_reduce384_39 14 rfl rfl)
theorem dX2_reduce384_935 : decode cX2_reduce384 935 = .ok (.lload_n 3, 1) := dk_33 (dk_at dksX2_reduce384_39 15 rfl rfl)
theorem dX2_reduce384_936 : decode cX2_reduce384 936 = .ok (.bipush 28, 2) := dk_16 28 (dk_at dksX2_reduce384_39 16 rfl rfl)
theorem dX2_reduce384_938 : decode cX2_reduce384 938 = .ok (.lshl, 1) := dk_121 (dk_at dksX2_reduce384_39 18 rfl rfl)
theorem dX2_reduce384_939 : decode cX2_reduce384 939 = .ok (.lor, 1) := dk_129 (dk_at dksX2_reduce384_39 19 rfl rfl)
theorem dX2_reduce384_940 : decode cX2_reduce384 940 = .ok (.aload 31, 2) := dk_25 31 (dk_at dksX2_reduce384_39 20 rfl rfl)
theorem dX2_reduce384_942 : decode cX2_reduce384 942 = .ok (.iconst 0, 1) := dk_3 (dk_at dksX2_reduce384_39 22 rfl rfl)
theorem dX2_reduce384_943 : decode cX2_reduce384 943 = .ok (.invokestatic 52, 3) := dk_184 0 52 (dk_at dksX2_reduce384_40 0 rfl rfl)
theorem dX2_reduce384_946 : decode cX2_reduce384 946 = .ok (.lload 5, 2) := dk_22 5 (dk_at dksX2_reduce384_40 3 rfl rfl)
theorem dX2_reduce384_948 : decode cX2_reduce384 948 = .ok (.lload 7, 2) := dk_22 7 (dk_at dksX2_reduce384_40 5 rfl rfl)
theorem dX2_reduce384_950 : decode cX2_reduce384 950 = .ok (.bipush 28, 2) := dk_16 28 (dk_at dksX2_reduce384_40 7 rfl rfl)
theorem dX2_reduce384_952 : decode cX2_reduce384 952 = .ok (.lshl, 1) := dk_121 (dk_at dksX2_reduce384_40 9 rfl rfl)
theorem dX2_reduce384_953 : decode cX2_reduce384 953 = .ok (.lor, 1) := dk_129 (dk_at dksX2_reduce384_40 10 rfl rfl)
theorem dX2_reduce384_954 : decode cX2_reduce384 954 = .ok (.aload 31, 2) := dk_25 31 (dk_at dksX2_reduce384_40 11 rfl rfl)
theorem dX2_reduce384_956 : decode cX2_reduce384 956 = .ok (.bipush 7, 2) := dk_16 7 (dk_at dksX2_reduce384_40 13 rfl rfl)
theorem dX2_reduce384_958 : decode cX2_reduce384 958 = .ok (.invokestatic 52, 3) := dk_184 0 52 (dk_at dksX2_reduce384_40 15 rfl rfl)
theorem dX2_reduce384_961 : decode cX2_reduce384 961 = .ok (.lload 9, 2) := dk_22 9 (dk_at dksX2_reduce384_40 18 rfl rfl)
theorem dX2_reduce384_963 : decode cX2_reduce384 963 = .ok (.lload 11, 2) := dk_22 11 (dk_at dksX2_reduce384_40 20 rfl rfl)
theorem dX2_reduce384_965 : decode cX2_reduce384 965 = .ok (.bipush 28, 2) := dk_16 28 (dk_at dksX2_reduce384_40 22 rfl rfl)
theorem dX2_reduce384_967 : decode cX2_reduce384 967 = .ok (.lshl, 1) := dk_121 (dk_at dksX2_reduce384_41 0 rfl rfl)
theorem dX2_reduce384_968 : decode cX2_reduce384 968 = .ok (.lor, 1) := dk_129 (dk_at dksX2_reduce384_41 1 rfl rfl)
theorem dX2_reduce384_969 : decode cX2_reduce384 969 = .ok (.aload 31, 2) := dk_25 31 (dk_at dksX2_reduce384_41 2 rfl rfl)
theorem dX2_reduce384_971 : decode cX2_reduce384 971 = .ok (.bipush 14, 2) := dk_16 14 (dk_at dksX2_reduce384_41 4 rfl rfl)
theorem dX2_reduce384_973 : decode cX2_reduce384 973 = .ok (.invokestatic 52, 3) := dk_184 0 52 (dk_at dksX2_reduce384_41 6 rfl rfl)
theorem dX2_reduce384_976 : decode cX2_reduce384 976 = .ok (.lload 13, 2) := dk_22 13 (dk_at dksX2_reduce384_41 9 rfl rfl)
theorem dX2_reduce384_978 : decode cX2_reduce384 978 = .ok (.lload 15, 2) := dk_22 15 (dk_at dksX2_reduce384_41 11 rfl rfl)
theorem dX2_reduce384_980 : decode cX2_reduce384 980 = .ok (.bipush 28, 2) := dk_16 28 (dk_at dksX2_reduce384_41 13 rfl rfl)
theorem dX2_reduce384_982 : decode cX2_reduce384 982 = .ok (.lshl, 1) := dk_121 (dk_at dksX2_reduce384_41 15 rfl rfl)
theorem dX2_reduce384_983 : decode cX2_reduce384 983 = .ok (.lor, 1) := dk_129 (dk_at dksX2_reduce384_41 16 rfl rfl)
theorem dX2_reduce384_984 : decode cX2_reduce384 984 = .ok (.aload 31, 2) := dk_25 31 (dk_at dksX2_reduce384_41 17 rfl rfl)
theorem dX2_reduce384_986 : decode cX2_reduce384 986 = .ok (.bipush 21, 2) := dk_16 21 (dk_at dksX2_reduce384_41 19 rfl rfl)
theorem dX2_reduce384_988 : decode cX2_reduce384 988 = .ok (.invokestatic 52, 3) := dk_184 0 52 (dk_at dksX2_reduce384_41 21 rfl rfl)
theorem dX2_reduce384_991 : decode cX2_reduce384 991 = .ok (.lload 17, 2) := dk_22 17 (dk_at dksX2_reduce384_42 0 rfl rfl)
theorem dX2_reduce384_993 : decode cX2_reduce384 993 = .ok (.l2i, 1) := dk_136 (dk_at dksX2_reduce384_42 2 rfl rfl)
theorem dX2_reduce384_994 : decode cX2_reduce384 994 = .ok (.aload 31, 2) := dk_25 31 (dk_at dksX2_reduce384_42 3 rfl rfl)
theorem dX2_reduce384_996 : decode cX2_reduce384 996 = .ok (.bipush 28, 2) := dk_16 28 (dk_at dksX2_reduce384_42 5 rfl rfl)
theorem dX2_reduce384_998 : decode cX2_reduce384 998 = .ok (.invokestatic 56, 3) := dk_184 0 56 (dk_at dksX2_reduce384_42 7 rfl rfl)
theorem dX2_reduce384_1001 : decode cX2_reduce384 1001 = .ok (.aload 31, 2) := dk_25 31 (dk_at dksX2_reduce384_42 10 rfl rfl)
theorem dX2_reduce384_1003 : decode cX2_reduce384 1003 = .ok (.areturn, 1) := dk_176 (dk_at dksX2_reduce384_42 12 rfl rfl)
abbrev cX2_checkVar : ByteArray := prog_3_method_2_code
def yX2_checkVar : MethodName := ⟨RX2, "checkVar", "([B[I)Z"⟩
def dkwX2_checkVar_0 : List UInt8 := [42, 43, 184, 0, 9, 43, 178, 0, 13, 184, 0, 17, 154, 0, 7, 4, 167, 0, 4, 3, 172]
abbrev dktX2_checkVar_0 : List UInt8 := dkwX2_checkVar_0 ++ []
theorem dksX2_checkVar_0 : cX2_checkVar.data.toList.drop 0 = dktX2_checkVar_0 := by decide +kernel
theorem dX2_checkVar_0 : decode cX2_checkVar 0 = .ok (.aload_n 0, 1) := dk_42 (dk_at dksX2_checkVar_0 0 rfl rfl)
theorem dX2_checkVar_1 : decode cX2_checkVar 1 = .ok (.aload_n 1, 1) := dk_43 (dk_at dksX2_checkVar_0 1 rfl rfl)
theorem dX2_checkVar_2 : decode cX2_checkVar 2 = .ok (.invokestatic 9, 3) := dk_184 0 9 (dk_at dksX2_checkVar_0 2 rfl rfl)
theorem dX2_checkVar_5 : decode cX2_checkVar 5 = .ok (.aload_n 1, 1) := dk_43 (dk_at dksX2_checkVar_0 5 rfl rfl)
theorem dX2_checkVar_6 : decode cX2_checkVar 6 = .ok (.getstatic 13, 3) := dk_178 0 13 (dk_at dksX2_checkVar_0 6 rfl rfl)
theorem dX2_checkVar_9 : decode cX2_checkVar 9 = .ok (.invokestatic 17, 3) := dk_184 0 17 (dk_at dksX2_checkVar_0 9 rfl rfl)
theorem dX2_checkVar_12 : decode cX2_checkVar 12 = .ok (.ifCond .ne 7, 3) := dk_154 0 7 (dk_at dksX2_checkVar_0 12 rfl rfl)
theorem dX2_checkVar_15 : decode cX2_checkVar 15 = .ok (.iconst 1, 1) := dk_4 (dk_at dksX2_checkVar_0 15 rfl rfl)
theorem dX2_checkVar_16 : decode cX2_checkVar 16 = .ok (.goto 4, 3) := dk_167 0 4 (dk_at dksX2_checkVar_0 16 rfl rfl)
theorem dX2_checkVar_19 : decode cX2_checkVar 19 = .ok (.iconst 0, 1) := dk_3 (dk_at dksX2_checkVar_0 19 rfl rfl)
theorem dX2_checkVar_20 : decode cX2_checkVar 20 = .ok (.ireturn, 1) := dk_172 (dk_at dksX2_checkVar_0 20 rfl rfl)
abbrev cX2_decode : ByteArray := prog_3_method_3_code
def yX2_decode : MethodName := ⟨RX2, "decode", "([B[I)V"⟩
def dkwX2_decode_0 : List UInt8 := [42, 3, 43, 3, 16, 8, 184, 0, 23, 177]
abbrev dktX2_decode_0 : List UInt8 := dkwX2_decode_0 ++ []
theorem dksX2_decode_0 : cX2_decode.data.toList.drop 0 = dktX2_decode_0 := by decide +kernel
theorem dX2_decode_0 : decode cX2_decode 0 = .ok (.aload_n 0, 1) := dk_42 (dk_at dksX2_decode_0 0 rfl rfl)
theorem dX2_decode_1 : decode cX2_decode 1 = .ok (.iconst 0, 1) := dk_3 (dk_at dksX2_decode_0 1 rfl rfl)
theorem dX2_decode_2 : decode cX2_decode 2 = .ok (.aload_n 1, 1) := dk_43 (dk_at dksX2_decode_0 2 rfl rfl)
theorem dX2_decode_3 : decode cX2_decode 3 = .ok (.iconst 0, 1) := dk_3 (dk_at dksX2_decode_0 3 rfl rfl)
theorem dX2_decode_4 : decode cX2_decode 4 = .ok (.bipush 8, 2) := dk_16 8 (dk_at dksX2_decode_0 4 rfl rfl)
theorem dX2_decode_6 : decode cX2_decode 6 = .ok (.invokestatic 23, 3) := dk_184 0 23 (dk_at dksX2_decode_0 6 rfl rfl)
theorem dX2_decode_9 : decode cX2_decode 9 = .ok (.return_, 1) := dk_177 (dk_at dksX2_decode_0 9 rfl rfl)
theorem q5 : (Jvm.Cond.initialized "Scalar25519") ∈ lw_all := lw_g (lw_at lw_m0 3 rfl) rfl
theorem q52 : (Jvm.Cond.static ({ cls := "Scalar25519", name := "reduce512", desc := "([B)[B" } : Jvm.MethodName)) ∈ lw_all := lw_g (lw_at lw_m0 50 rfl) rfl
theorem q53 : (Jvm.Cond.code ({ cls := "Scalar25519", name := "reduce512", desc := "([B)[B" } : Jvm.MethodName) prog_3_method_5_code (42 : Nat) (Option.some (Jvm.ClassFile.FieldType.array Jvm.ClassFile.FieldType.byte))) ∈ lw_all := lw_g (lw_at lw_m0 51 rfl) rfl
theorem q54 : (Jvm.Cond.methodLink "Scalar25519" (29 : Nat) ({ cls := "Codec", name := "decode32", desc := "([BI)I" } : Jvm.MethodName)) ∈ lw_all := lw_g (lw_at lw_m0 52 rfl) rfl
theorem q57 : (Jvm.Cond.constantLong "Scalar25519" (32 : Nat) (4294967295 : Int64)) ∈ lw_all := lw_g (lw_at lw_m0 55 rfl) rfl
theorem q58 : (Jvm.Cond.methodLink "Scalar25519" (34 : Nat) ({ cls := "Codec", name := "decode24", desc := "([BI)I" } : Jvm.MethodName)) ∈ lw_all := lw_g (lw_at lw_m0 56 rfl) rfl
theorem q61 : (Jvm.Cond.constantLong "Scalar25519" (60 : Nat) (255 : Int64)) ∈ lw_all := lw_g (lw_at lw_m0 59 rfl) rfl
theorem q62 : (Jvm.Cond.constantLong "Scalar25519" (42 : Nat) (-50998291 : Int64)) ∈ lw_all := lw_g (lw_at lw_m0 60 rfl) rfl
theorem q63 : (Jvm.Cond.constantLong "Scalar25519" (44 : Nat) (19280294 : Int64)) ∈ lw_all := lw_g (lw_at lw_m0 61 rfl) rfl
theorem q64 : (Jvm.Cond.constantLong "Scalar25519" (46 : Nat) (127719000 : Int64)) ∈ lw_all := lw_g (lw_at lw_m0 62 rfl) rfl
theorem q65 : (Jvm.Cond.constantLong "Scalar25519" (48 : Nat) (-6428113 : Int64)) ∈ lw_all := lw_g (lw_at lw_m0 63 rfl) rfl
theorem q66 : (Jvm.Cond.constantLong "Scalar25519" (50 : Nat) (5343 : Int64)) ∈ lw_all := lw_g (lw_at lw_m0 64 rfl) rfl
theorem q67 : (Jvm.Cond.constantLong "Scalar25519" (40 : Nat) (268435455 : Int64)) ∈ lw_all := lw_g (lw_at lw_m0 65 rfl) rfl
theorem q68 : (Jvm.Cond.methodLink "Scalar25519" (52 : Nat) ({ cls := "Codec", name := "encode56", desc := "(J[BI)V" } : Jvm.MethodName)) ∈ lw_all := lw_g (lw_at lw_m0 66 rfl) rfl
theorem q77 : (Jvm.Cond.methodLink "Scalar25519" (56 : Nat) ({ cls := "Codec", name := "encode32", desc := "(I[BI)V" } : Jvm.MethodName)) ∈ lw_all := lw_g (lw_at lw_m0 75 rfl) rfl
theorem q83 : (Jvm.Cond.static ({ cls := "Scalar25519", name := "reduce384", desc := "([B)[B" } : Jvm.MethodName)) ∈ lw_all := lw_g (lw_at lw_m0 81 rfl) rfl
theorem q84 : (Jvm.Cond.code ({ cls := "Scalar25519", name := "reduce384", desc := "([B)[B" } : Jvm.MethodName) prog_3_method_4_code (32 : Nat) (Option.some (Jvm.ClassFile.FieldType.array Jvm.ClassFile.FieldType.byte))) ∈ lw_all := lw_g (lw_at lw_m0 82 rfl) rfl
theorem q85 : (Jvm.Cond.methodLink "Scalar25519" (37 : Nat) ({ cls := "Codec", name := "decode16", desc := "([BI)I" } : Jvm.MethodName)) ∈ lw_all := lw_g (lw_at lw_m0 83 rfl) rfl
theorem q97 : (Jvm.Cond.static ({ cls := "Scalar25519", name := "checkVar", desc := "([B[I)Z" } : Jvm.MethodName)) ∈ lw_all := lw_g (lw_at lw_m0 95 rfl) rfl
theorem q98 : (Jvm.Cond.code ({ cls := "Scalar25519", name := "checkVar", desc := "([B[I)Z" } : Jvm.MethodName) prog_3_method_2_code (2 : Nat) (Option.some Jvm.ClassFile.FieldType.boolean)) ∈ lw_all := lw_g (lw_at lw_m0 96 rfl) rfl
theorem q99 : (Jvm.Cond.methodLink "Scalar25519" (9 : Nat) ({ cls := "Scalar25519", name := "decode", desc := "([B[I)V" } : Jvm.MethodName)) ∈ lw_all := lw_g (lw_at lw_m0 97 rfl) rfl
theorem q100 : (Jvm.Cond.static ({ cls := "Scalar25519", name := "decode", desc := "([B[I)V" } : Jvm.MethodName)) ∈ lw_all := lw_g (lw_at lw_m0 98 rfl) rfl
theorem q101 : (Jvm.Cond.code ({ cls := "Scalar25519", name := "decode", desc := "([B[I)V" } : Jvm.MethodName) prog_3_method_3_code (2 : Nat) (Option.none : Option Jvm.ClassFile.FieldType)) ∈ lw_all := lw_g (lw_at lw_m0 99 rfl) rfl
theorem q102 : (Jvm.Cond.methodLink "Scalar25519" (23 : Nat) ({ cls := "Codec", name := "decode32", desc := "([BI[III)V" } : Jvm.MethodName)) ∈ lw_all := lw_g (lw_at lw_m0 100 rfl) rfl
theorem q106 : (Jvm.Cond.fieldLink "Scalar25519" (13 : Nat) "Scalar25519" "L" "[I") ∈ lw_all := lw_g (lw_at lw_m0 104 rfl) rfl
theorem q107 : (Jvm.Cond.laysStatic "Scalar25519" "L" "[I") ∈ lw_tbl := lw_at lw_m0 105 rfl
theorem q108 : (Jvm.Cond.methodLink "Scalar25519" (17 : Nat) ({ cls := "Nat256", name := "gte", desc := "([I[I)Z" } : Jvm.MethodName)) ∈ lw_all := lw_g (lw_at lw_m0 106 rfl) rfl
end
section
/-! WideScalars -/
set_option maxRecDepth 100000
def RX0 : String := "WideScalars"
def TX0 : u_T := fun k => match k with
  | 0 => ("WideScalars", "wide", "[B", true)
  | 1 => ("WideScalars", "z", "[B", false)
  | 2 => ("WideScalars", "x", "[I", true)
  | 3 => ("WideScalars", "y", "[I", true)
  | 4 => ("WideScalars", "p", "[I", true)
  | 5 => ("WideScalars", "one", "[B", true)
  | _ => ("WideScalars", "n", "[I", true)
def tyX0 : Nat → FieldType := fun k => match k with
  | 0 => .array .byte
  | 1 => .array .byte
  | 2 => .array .int
  | 3 => .array .int
  | 4 => .array .int
  | 5 => .array .byte
  | _ => .array .int
abbrev wsX00 : List Cond := u_ws RX0 TX0 7
theorem nmX0 : ∀ a, a < 7 → ∀ b, b < 7 → a ≠ b → (TX0 a).2.1 ≠ (TX0 b).2.1 := by decide +kernel
theorem tyX0_ok : ∀ k, k < 7 → parseFieldDescriptor (TX0 k).2.2.1 = some (tyX0 k) := by decide +kernel
abbrev cX0_init : ByteArray := prog_4_method_1_code
def yX0_init : MethodName := ⟨RX0, "<init>", "()V"⟩
def dkwX0_init_2 : List UInt8 := [188, 8, 181, 0, 26, 42, 16, 8, 188, 10, 181, 0, 29, 177]
abbrev dktX0_init_2 : List UInt8 := dkwX0_init_2 ++ []
def dkwX0_init_1 : List UInt8 := [188, 10, 181, 0, 16, 42, 7, 188, 10, 181, 0, 20, 42, 16, 8, 188, 10, 181, 0, 23, 42, 16, 32]
abbrev dktX0_init_1 : List UInt8 := dkwX0_init_1 ++ dktX0_init_2
def dkwX0_init_0 : List UInt8 := [42, 183, 0, 1, 42, 16, 64, 188, 8, 181, 0, 7, 42, 16, 32, 188, 8, 181, 0, 13, 42, 16, 8]
abbrev dktX0_init_0 : List UInt8 := dkwX0_init_0 ++ dktX0_init_1
theorem dksX0_init_0 : cX0_init.data.toList.drop 0 = dktX0_init_0 := by decide +kernel
theorem dksX0_init_1 : cX0_init.data.toList.drop 23 = dktX0_init_1 := dk_seg dksX0_init_0 23 rfl rfl
theorem dksX0_init_2 : cX0_init.data.toList.drop 46 = dktX0_init_2 := dk_seg dksX0_init_1 23 rfl rfl
theorem dX0_init_0 : decode cX0_init 0 = .ok (.aload_n 0, 1) := dk_42 (dk_at dksX0_init_0 0 rfl rfl)
theorem dX0_init_1 : decode cX0_init 1 = .ok (.invokespecial 1, 3) := dk_183 0 1 (dk_at dksX0_init_0 1 rfl rfl)
theorem dX0_init_4 : decode cX0_init 4 = .ok (.aload_n 0, 1) := dk_42 (dk_at dksX0_init_0 4 rfl rfl)
theorem dX0_init_5 : decode cX0_init 5 = .ok (.bipush 64, 2) := dk_16 64 (dk_at dksX0_init_0 5 rfl rfl)
theorem dX0_init_7 : decode cX0_init 7 = .ok (.newarray .byte, 2) := dk_188_8 (dk_at dksX0_init_0 7 rfl rfl)
theorem dX0_init_9 : decode cX0_init 9 = .ok (.putfield 7, 3) := dk_181 0 7 (dk_at dksX0_init_0 9 rfl rfl)
theorem dX0_init_12 : decode cX0_init 12 = .ok (.aload_n 0, 1) := dk_42 (dk_at dksX0_init_0 12 rfl rfl)
theorem dX0_init_13 : decode cX0_init 13 = .ok (.bipush 32, 2) := dk_16 32 (dk_at dksX0_init_0 13 rfl rfl)
theorem dX0_init_15 : decode cX0_init 15 = .ok (.newarray .byte, 2) := dk_188_8 (dk_at dksX0_init_0 15 rfl rfl)
theorem dX0_init_17 : decode cX0_init 17 = .ok (.putfield 13, 3) := dk_181 0 13 (dk_at dksX0_init_0 17 rfl rfl)
theorem dX0_init_20 : decode cX0_init 20 = .ok (.aload_n 0, 1) := dk_42 (dk_at dksX0_init_0 20 rfl rfl)
theorem dX0_init_21 : decode cX0_init 21 = .ok (.bipush 8, 2) := dk_16 8 (dk_at dksX0_init_0 21 rfl rfl)
theorem dX0_init_23 : decode cX0_init 23 = .ok (.newarray .int, 2) := dk_188_10 (dk_at dksX0_init_1 0 rfl rfl)
theorem dX0_init_25 : decode cX0_init 25 = .ok (.putfield 16, 3) := dk_181 0 16 (dk_at dksX0_init_1 2 rfl rfl)
theorem dX0_init_28 : decode cX0_init 28 = .ok (.aload_n 0, 1) := dk_42 (dk_at dksX0_init_1 5 rfl rfl)
theorem dX0_init_29 : decode cX0_init 29 = .ok (.iconst 4, 1) := dk_7 (dk_at dksX0_init_1 6 rfl rfl)
theorem dX0_init_30 : decode cX0_init 30 = .ok (.newarray .int, 2) := dk_188_10 (dk_at dksX0_init_1 7 rfl rfl)
theorem dX0_init_32 : decode cX0_init 32 = .ok (.putfield 20, 3) := dk_181 0 20 (dk_at dksX0_init_1 9 rfl rfl)
theorem dX0_init_35 : decode cX0_init 35 = .ok (.aload_n 0, 1) := dk_42 (dk_at dksX0_init_1 12 rfl rfl)
theorem dX0_init_36 : decode cX0_init 36 = .ok (.bipush 8, 2) := dk_16 8 (dk_at dksX0_init_1 13 rfl rfl)
theorem dX0_init_38 : decode cX0_init 38 = .ok (.newarray .int, 2) := dk_188_10 (dk_at dksX0_init_1 15 rfl rfl)
theorem dX0_init_40 : decode cX0_init 40 = .ok (.putfield 23, 3) := dk_181 0 23 (dk_at dksX0_init_1 17 rfl rfl)
theorem dX0_init_43 : decode cX0_init 43 = .ok (.aload_n 0, 1) := dk_42 (dk_at dksX0_init_1 20 rfl rfl)
theorem dX0_init_44 : decode cX0_init 44 = .ok (.bipush 32, 2) := dk_16 32 (dk_at dksX0_init_1 21 rfl rfl)
theorem dX0_init_46 : decode cX0_init 46 = .ok (.newarray .byte, 2) := dk_188_8 (dk_at dksX0_init_2 0 rfl rfl)
theorem dX0_init_48 : decode cX0_init 48 = .ok (.putfield 26, 3) := dk_181 0 26 (dk_at dksX0_init_2 2 rfl rfl)
theorem dX0_init_51 : decode cX0_init 51 = .ok (.aload_n 0, 1) := dk_42 (dk_at dksX0_init_2 5 rfl rfl)
theorem dX0_init_52 : decode cX0_init 52 = .ok (.bipush 8, 2) := dk_16 8 (dk_at dksX0_init_2 6 rfl rfl)
theorem dX0_init_54 : decode cX0_init 54 = .ok (.newarray .int, 2) := dk_188_10 (dk_at dksX0_init_2 8 rfl rfl)
theorem dX0_init_56 : decode cX0_init 56 = .ok (.putfield 29, 3) := dk_181 0 29 (dk_at dksX0_init_2 10 rfl rfl)
theorem dX0_init_59 : decode cX0_init 59 = .ok (.return_, 1) := dk_177 (dk_at dksX0_init_2 13 rfl rfl)
abbrev cX0_wide : ByteArray := prog_4_method_3_code
def yX0_wide : MethodName := ⟨RX0, "wide", "(IIIII)V"⟩
def dkwX0_wide_2 : List UInt8 := [21, 6, 16, 12, 96, 21, 5, 184, 0, 32, 177]
abbrev dktX0_wide_2 : List UInt8 := dkwX0_wide_2 ++ []
def dkwX0_wide_1 : List UInt8 := [96, 29, 184, 0, 32, 42, 180, 0, 7, 21, 6, 16, 8, 96, 21, 4, 184, 0, 32, 42, 180, 0, 7]
abbrev dktX0_wide_1 : List UInt8 := dkwX0_wide_1 ++ dktX0_wide_2
def dkwX0_wide_0 : List UInt8 := [27, 6, 126, 7, 120, 54, 6, 42, 180, 0, 7, 21, 6, 28, 184, 0, 32, 42, 180, 0, 7, 21, 6, 7]
abbrev dktX0_wide_0 : List UInt8 := dkwX0_wide_0 ++ dktX0_wide_1
theorem dksX0_wide_0 : cX0_wide.data.toList.drop 0 = dktX0_wide_0 := by decide +kernel
theorem dksX0_wide_1 : cX0_wide.data.toList.drop 24 = dktX0_wide_1 := dk_seg dksX0_wide_0 24 rfl rfl
theorem dksX0_wide_2 : cX0_wide.data.toList.drop 47 = dktX0_wide_2 := dk_seg dksX0_wide_1 23 rfl rfl
theorem dX0_wide_0 : decode cX0_wide 0 = .ok (.iload_n 1, 1) := dk_27 (dk_at dksX0_wide_0 0 rfl rfl)
theorem dX0_wide_1 : decode cX0_wide 1 = .ok (.iconst 3, 1) := dk_6 (dk_at dksX0_wide_0 1 rfl rfl)
theorem dX0_wide_2 : decode cX0_wide 2 = .ok (.iand, 1) := dk_126 (dk_at dksX0_wide_0 2 rfl rfl)
theorem dX0_wide_3 : decode cX0_wide 3 = .ok (.iconst 4, 1) := dk_7 (dk_at dksX0_wide_0 3 rfl rfl)
theorem dX0_wide_4 : decode cX0_wide 4 = .ok (.ishl, 1) := dk_120 (dk_at dksX0_wide_0 4 rfl rfl)
theorem dX0_wide_5 : decode cX0_wide 5 = .ok (.istore 6, 2) := dk_54 6 (dk_at dksX0_wide_0 5 rfl rfl)
theorem dX0_wide_7 : decode cX0_wide 7 = .ok (.aload_n 0, 1) := dk_42 (dk_at dksX0_wide_0 7 rfl rfl)
theorem dX0_wide_8 : decode cX0_wide 8 = .ok (.getfield 7, 3) := dk_180 0 7 (dk_at dksX0_wide_0 8 rfl rfl)
theorem dX0_wide_11 : decode cX0_wide 11 = .ok (.iload 6, 2) := dk_21 6 (dk_at dksX0_wide_0 11 rfl rfl)
theorem dX0_wide_13 : decode cX0_wide 13 = .ok (.iload_n 2, 1) := dk_28 (dk_at dksX0_wide_0 13 rfl rfl)
theorem dX0_wide_14 : decode cX0_wide 14 = .ok (.invokestatic 32, 3) := dk_184 0 32 (dk_at dksX0_wide_0 14 rfl rfl)
theorem dX0_wide_17 : decode cX0_wide 17 = .ok (.aload_n 0, 1) := dk_42 (dk_at dksX0_wide_0 17 rfl rfl)
theorem dX0_wide_18 : decode cX0_wide 18 = .ok (.getfield 7, 3) := dk_180 0 7 (dk_at dksX0_wide_0 18 rfl rfl)
theorem dX0_wide_21 : decode cX0_wide 21 = .ok (.iload 6, 2) := dk_21 6 (dk_at dksX0_wide_0 21 rfl rfl)
theorem dX0_wide_23 : decode cX0_wide 23 = .ok (.iconst 4, 1) := dk_7 (dk_at dksX0_wide_0 23 rfl rfl)
theorem dX0_wide_24 : decode cX0_wide 24 = .ok (.iadd, 1) := dk_96 (dk_at dksX0_wide_1 0 rfl rfl)
theorem dX0_wide_25 : decode cX0_wide 25 = .ok (.iload_n 3, 1) := dk_29 (dk_at dksX0_wide_1 1 rfl rfl)
theorem dX0_wide_26 : decode cX0_wide 26 = .ok (.invokestatic 32, 3) := dk_184 0 32 (dk_at dksX0_wide_1 2 rfl rfl)
theorem dX0_wide_29 : decode cX0_wide 29 = .ok (.aload_n 0, 1) := dk_42 (dk_at dksX0_wide_1 5 rfl rfl)
theorem dX0_wide_30 : decode cX0_wide 30 = .ok (.getfield 7, 3) := dk_180 0 7 (dk_at dksX0_wide_1 6 rfl rfl)
theorem dX0_wide_33 : decode cX0_wide 33 = .ok (.iload 6, 2) := dk_21 6 (dk_at dksX0_wide_1 9 rfl rfl)
theorem dX0_wide_35 : decode cX0_wide 35 = .ok (.bipush 8, 2) := dk_16 8 (dk_at dksX0_wide_1 11 rfl rfl)
theorem dX0_wide_37 : decode cX0_wide 37 = .ok (.iadd, 1) := dk_96 (dk_at dksX0_wide_1 13 rfl rfl)
theorem dX0_wide_38 : decode cX0_wide 38 = .ok (.iload 4, 2) := dk_21 4 (dk_at dksX0_wide_1 14 rfl rfl)
theorem dX0_wide_40 : decode cX0_wide 40 = .ok (.invokestatic 32, 3) := dk_184 0 32 (dk_at dksX0_wide_1 16 rfl rfl)
theorem dX0_wide_43 : decode cX0_wide 43 = .ok (.aload_n 0, 1) := dk_42 (dk_at dksX0_wide_1 19 rfl rfl)
theorem dX0_wide_44 : decode cX0_wide 44 = .ok (.getfield 7, 3) := dk_180 0 7 (dk_at dksX0_wide_1 20 rfl rfl)
theorem dX0_wide_47 : decode cX0_wide 47 = .ok (.iload 6, 2) := dk_21 6 (dk_at dksX0_wide_2 0 rfl rfl)
theorem dX0_wide_49 : decode cX0_wide 49 = .ok (.bipush 12, 2) := dk_16 12 (dk_at dksX0_wide_2 2 rfl rfl)
theorem dX0_wide_51 : decode cX0_wide 51 = .ok (.iadd, 1) := dk_96 (dk_at dksX0_wide_2 4 rfl rfl)
theorem dX0_wide_52 : decode cX0_wide 52 = .ok (.iload 5, 2) := dk_21 5 (dk_at dksX0_wide_2 5 rfl rfl)
theorem dX0_wide_54 : decode cX0_wide 54 = .ok (.invokestatic 32, 3) := dk_184 0 32 (dk_at dksX0_wide_2 7 rfl rfl)
theorem dX0_wide_57 : decode cX0_wide 57 = .ok (.return_, 1) := dk_177 (dk_at dksX0_wide_2 10 rfl rfl)
abbrev cX0_word : ByteArray := prog_4_method_2_code
def yX0_word : MethodName := ⟨RX0, "word", "([BII)V"⟩
def dkwX0_word_1 : List UInt8 := [84, 42, 27, 6, 96, 28, 16, 24, 122, 145, 84, 177]
abbrev dktX0_word_1 : List UInt8 := dkwX0_word_1 ++ []
def dkwX0_word_0 : List UInt8 := [42, 27, 28, 145, 84, 42, 27, 4, 96, 28, 16, 8, 122, 145, 84, 42, 27, 5, 96, 28, 16, 16, 122, 145]
abbrev dktX0_word_0 : List UInt8 := dkwX0_word_0 ++ dktX0_word_1
theorem dksX0_word_0 : cX0_word.data.toList.drop 0 = dktX0_word_0 := by decide +kernel
theorem dksX0_word_1 : cX0_word.data.toList.drop 24 = dktX0_word_1 := dk_seg dksX0_word_0 24 rfl rfl
theorem dX0_word_0 : decode cX0_word 0 = .ok (.aload_n 0, 1) := dk_42 (dk_at dksX0_word_0 0 rfl rfl)
theorem dX0_word_1 : decode cX0_word 1 = .ok (.iload_n 1, 1) := dk_27 (dk_at dksX0_word_0 1 rfl rfl)
theorem dX0_word_2 : decode cX0_word 2 = .ok (.iload_n 2, 1) := dk_28 (dk_at dksX0_word_0 2 rfl rfl)
theorem dX0_word_3 : decode cX0_word 3 = .ok (.i2b, 1) := dk_145 (dk_at dksX0_word_0 3 rfl rfl)
theorem dX0_word_4 : decode cX0_word 4 = .ok (.bastore, 1) := dk_84 (dk_at dksX0_word_0 4 rfl rfl)
theorem dX0_word_5 : decode cX0_word 5 = .ok (.aload_n 0, 1) := dk_42 (dk_at dksX0_word_0 5 rfl rfl)
theorem dX0_word_6 : decode cX0_word 6 = .ok (.iload_n 1, 1) := dk_27 (dk_at dksX0_word_0 6 rfl rfl)
theorem dX0_word_7 : decode cX0_word 7 = .ok (.iconst 1, 1) := dk_4 (dk_at dksX0_word_0 7 rfl rfl)
theorem dX0_word_8 : decode cX0_word 8 = .ok (.iadd, 1) := dk_96 (dk_at dksX0_word_0 8 rfl rfl)
theorem dX0_word_9 : decode cX0_word 9 = .ok (.iload_n 2, 1) := dk_28 (dk_at dksX0_word_0 9 rfl rfl)
theorem dX0_word_10 : decode cX0_word 10 = .ok (.bipush 8, 2) := dk_16 8 (dk_at dksX0_word_0 10 rfl rfl)
theorem dX0_word_12 : decode cX0_word 12 = .ok (.ishr, 1) := dk_122 (dk_at dksX0_word_0 12 rfl rfl)
theorem dX0_word_13 : decode cX0_word 13 = .ok (.i2b, 1) := dk_145 (dk_at dksX0_word_0 13 rfl rfl)
theorem dX0_word_14 : decode cX0_word 14 = .ok (.bastore, 1) := dk_84 (dk_at dksX0_word_0 14 rfl rfl)
theorem dX0_word_15 : decode cX0_word 15 = .ok (.aload_n 0, 1) := dk_42 (dk_at dksX0_word_0 15 rfl rfl)
theorem dX0_word_16 : decode cX0_word 16 = .ok (.iload_n 1, 1) := dk_27 (dk_at dksX0_word_0 16 rfl rfl)
theorem dX0_word_17 : decode cX0_word 17 = .ok (.iconst 2, 1) := dk_5 (dk_at dksX0_word_0 17 rfl rfl)
theorem dX0_word_18 : decode cX0_word 18 = .ok (.iadd, 1) := dk_96 (dk_at dksX0_word_0 18 rfl rfl)
theorem dX0_word_19 : decode cX0_word 19 = .ok (.iload_n 2, 1) := dk_28 (dk_at dksX0_word_0 19 rfl rfl)
theorem dX0_word_20 : decode cX0_word 20 = .ok (.bipush 16, 2) := dk_16 16 (dk_at dksX0_word_0 20 rfl rfl)
theorem dX0_word_22 : decode cX0_word 22 = .ok (.ishr, 1) := dk_122 (dk_at dksX0_word_0 22 rfl rfl)
theorem dX0_word_23 : decode cX0_word 23 = .ok (.i2b, 1) := dk_145 (dk_at dksX0_word_0 23 rfl rfl)
theorem dX0_word_24 : decode cX0_word 24 = .ok (.bastore, 1) := dk_84 (dk_at dksX0_word_1 0 rfl rfl)
theorem dX0_word_25 : decode cX0_word 25 = .ok (.aload_n 0, 1) := dk_42 (dk_at dksX0_word_1 1 rfl rfl)
theorem dX0_word_26 : decode cX0_word 26 = .ok (.iload_n 1, 1) := dk_27 (dk_at dksX0_word_1 2 rfl rfl)
theorem dX0_word_27 : decode cX0_word 27 = .ok (.iconst 3, 1) := dk_6 (dk_at dksX0_word_1 3 rfl rfl)
theorem dX0_word_28 : decode cX0_word 28 = .ok (.iadd, 1) := dk_96 (dk_at dksX0_word_1 4 rfl rfl)
theorem dX0_word_29 : decode cX0_word 29 = .ok (.iload_n 2, 1) := dk_28 (dk_at dksX0_word_1 5 rfl rfl)
theorem dX0_word_30 : decode cX0_word 30 = .ok (.bipush 24, 2) := dk_16 24 (dk_at dksX0_word_1 6 rfl rfl)
theorem dX0_word_32 : decode cX0_word 32 = .ok (.ishr, 1) := dk_122 (dk_at dksX0_word_1 8 rfl rfl)
theorem dX0_word_33 : decode cX0_word 33 = .ok (.i2b, 1) := dk_145 (dk_at dksX0_word_1 9 rfl rfl)
theorem dX0_word_34 : decode cX0_word 34 = .ok (.bastore, 1) := dk_84 (dk_at dksX0_word_1 10 rfl rfl)
theorem dX0_word_35 : decode cX0_word 35 = .ok (.return_, 1) := dk_177 (dk_at dksX0_word_1 11 rfl rfl)
abbrev cX0_reduce : ByteArray := prog_4_method_4_code
def yX0_reduce : MethodName := ⟨RX0, "reduce", "()V"⟩
def dkwX0_reduce_0 : List UInt8 := [42, 42, 180, 0, 7, 184, 0, 36, 181, 0, 13, 177]
abbrev dktX0_reduce_0 : List UInt8 := dkwX0_reduce_0 ++ []
theorem dksX0_reduce_0 : cX0_reduce.data.toList.drop 0 = dktX0_reduce_0 := by decide +kernel
theorem dX0_reduce_0 : decode cX0_reduce 0 = .ok (.aload_n 0, 1) := dk_42 (dk_at dksX0_reduce_0 0 rfl rfl)
theorem dX0_reduce_1 : decode cX0_reduce 1 = .ok (.aload_n 0, 1) := dk_42 (dk_at dksX0_reduce_0 1 rfl rfl)
theorem dX0_reduce_2 : decode cX0_reduce 2 = .ok (.getfield 7, 3) := dk_180 0 7 (dk_at dksX0_reduce_0 2 rfl rfl)
theorem dX0_reduce_5 : decode cX0_reduce 5 = .ok (.invokestatic 36, 3) := dk_184 0 36 (dk_at dksX0_reduce_0 5 rfl rfl)
theorem dX0_reduce_8 : decode cX0_reduce 8 = .ok (.putfield 13, 3) := dk_181 0 13 (dk_at dksX0_reduce_0 8 rfl rfl)
theorem dX0_reduce_11 : decode cX0_reduce 11 = .ok (.return_, 1) := dk_177 (dk_at dksX0_reduce_0 11 rfl rfl)
abbrev cX0_reduceLess : ByteArray := prog_4_method_5_code
def yX0_reduceLess : MethodName := ⟨RX0, "reduceLess", "()V"⟩
def dkwX0_reduceLess_1 : List UInt8 := [132, 2, 1, 167, 255, 238, 42, 43, 184, 0, 42, 181, 0, 13, 177]
abbrev dktX0_reduceLess_1 : List UInt8 := dkwX0_reduceLess_1 ++ []
def dkwX0_reduceLess_0 : List UInt8 := [16, 48, 188, 8, 76, 3, 61, 28, 16, 48, 162, 0, 18, 43, 28, 42, 180, 0, 7, 28, 51, 84]
abbrev dktX0_reduceLess_0 : List UInt8 := dkwX0_reduceLess_0 ++ dktX0_reduceLess_1
theorem dksX0_reduceLess_0 : cX0_reduceLess.data.toList.drop 0 = dktX0_reduceLess_0 := by decide +kernel
theorem dksX0_reduceLess_1 : cX0_reduceLess.data.toList.drop 22 = dktX0_reduceLess_1 := dk_seg dksX0_reduceLess_0 22 rfl rfl
theorem dX0_reduceLess_0 : decode cX0_reduceLess 0 = .ok (.bipush 48, 2) := dk_16 48 (dk_at dksX0_reduceLess_0 0 rfl rfl)
theorem dX0_reduceLess_2 : decode cX0_reduceLess 2 = .ok (.newarray .byte, 2) := dk_188_8 (dk_at dksX0_reduceLess_0 2 rfl rfl)
theorem dX0_reduceLess_4 : decode cX0_reduceLess 4 = .ok (.astore_n 1, 1) := dk_76 (dk_at dksX0_reduceLess_0 4 rfl rfl)
theorem dX0_reduceLess_5 : decode cX0_reduceLess 5 = .ok (.iconst 0, 1) := dk_3 (dk_at dksX0_reduceLess_0 5 rfl rfl)
theorem dX0_reduceLess_6 : decode cX0_reduceLess 6 = .ok (.istore_n 2, 1) := dk_61 (dk_at dksX0_reduceLess_0 6 rfl rfl)
theorem dX0_reduceLess_7 : decode cX0_reduceLess 7 = .ok (.iload_n 2, 1) := dk_28 (dk_at dksX0_reduceLess_0 7 rfl rfl)
theorem dX0_reduceLess_8 : decode cX0_reduceLess 8 = .ok (.bipush 48, 2) := dk_16 48 (dk_at dksX0_reduceLess_0 8 rfl rfl)
theorem dX0_reduceLess_10 : decode cX0_reduceLess 10 = .ok (.if_icmp .ge 18, 3) := dk_162 0 18 (dk_at dksX0_reduceLess_0 10 rfl rfl)
theorem dX0_reduceLess_13 : decode cX0_reduceLess 13 = .ok (.aload_n 1, 1) := dk_43 (dk_at dksX0_reduceLess_0 13 rfl rfl)
theorem dX0_reduceLess_14 : decode cX0_reduceLess 14 = .ok (.iload_n 2, 1) := dk_28 (dk_at dksX0_reduceLess_0 14 rfl rfl)
theorem dX0_reduceLess_15 : decode cX0_reduceLess 15 = .ok (.aload_n 0, 1) := dk_42 (dk_at dksX0_reduceLess_0 15 rfl rfl)
theorem dX0_reduceLess_16 : decode cX0_reduceLess 16 = .ok (.getfield 7, 3) := dk_180 0 7 (dk_at dksX0_reduceLess_0 16 rfl rfl)
theorem dX0_reduceLess_19 : decode cX0_reduceLess 19 = .ok (.iload_n 2, 1) := dk_28 (dk_at dksX0_reduceLess_0 19 rfl rfl)
theorem dX0_reduceLess_20 : decode cX0_reduceLess 20 = .ok (.baload, 1) := dk_51 (dk_at dksX0_reduceLess_0 20 rfl rfl)
theorem dX0_reduceLess_21 : decode cX0_reduceLess 21 = .ok (.bastore, 1) := dk_84 (dk_at dksX0_reduceLess_0 21 rfl rfl)
theorem dX0_reduceLess_22 : decode cX0_reduceLess 22 = .ok (.iinc 2 1, 3) := dk_132 2 1 (dk_at dksX0_reduceLess_1 0 rfl rfl)
theorem dX0_reduceLess_25 : decode cX0_reduceLess 25 = .ok (.goto (-18), 3) := dk_167 255 238 (dk_at dksX0_reduceLess_1 3 rfl rfl)
theorem dX0_reduceLess_28 : decode cX0_reduceLess 28 = .ok (.aload_n 0, 1) := dk_42 (dk_at dksX0_reduceLess_1 6 rfl rfl)
theorem dX0_reduceLess_29 : decode cX0_reduceLess 29 = .ok (.aload_n 1, 1) := dk_43 (dk_at dksX0_reduceLess_1 7 rfl rfl)
theorem dX0_reduceLess_30 : decode cX0_reduceLess 30 = .ok (.invokestatic 42, 3) := dk_184 0 42 (dk_at dksX0_reduceLess_1 8 rfl rfl)
theorem dX0_reduceLess_33 : decode cX0_reduceLess 33 = .ok (.putfield 13, 3) := dk_181 0 13 (dk_at dksX0_reduceLess_1 11 rfl rfl)
theorem dX0_reduceLess_36 : decode cX0_reduceLess 36 = .ok (.return_, 1) := dk_177 (dk_at dksX0_reduceLess_1 14 rfl rfl)
abbrev cX0_answer : ByteArray := prog_4_method_6_code
def yX0_answer : MethodName := ⟨RX0, "answer", "(I)I"⟩
def dkwX0_answer_0 : List UInt8 := [42, 180, 0, 13, 27, 16, 31, 126, 51, 17, 0, 255, 126, 172]
abbrev dktX0_answer_0 : List UInt8 := dkwX0_answer_0 ++ []
theorem dksX0_answer_0 : cX0_answer.data.toList.drop 0 = dktX0_answer_0 := by decide +kernel
theorem dX0_answer_0 : decode cX0_answer 0 = .ok (.aload_n 0, 1) := dk_42 (dk_at dksX0_answer_0 0 rfl rfl)
theorem dX0_answer_1 : decode cX0_answer 1 = .ok (.getfield 13, 3) := dk_180 0 13 (dk_at dksX0_answer_0 1 rfl rfl)
theorem dX0_answer_4 : decode cX0_answer 4 = .ok (.iload_n 1, 1) := dk_27 (dk_at dksX0_answer_0 4 rfl rfl)
theorem dX0_answer_5 : decode cX0_answer 5 = .ok (.bipush 31, 2) := dk_16 31 (dk_at dksX0_answer_0 5 rfl rfl)
theorem dX0_answer_7 : decode cX0_answer 7 = .ok (.iand, 1) := dk_126 (dk_at dksX0_answer_0 7 rfl rfl)
theorem dX0_answer_8 : decode cX0_answer 8 = .ok (.baload, 1) := dk_51 (dk_at dksX0_answer_0 8 rfl rfl)
theorem dX0_answer_9 : decode cX0_answer 9 = .ok (.sipush 255, 3) := dk_17 0 255 (dk_at dksX0_answer_0 9 rfl rfl)
theorem dX0_answer_12 : decode cX0_answer 12 = .ok (.iand, 1) := dk_126 (dk_at dksX0_answer_0 12 rfl rfl)
theorem dX0_answer_13 : decode cX0_answer 13 = .ok (.ireturn, 1) := dk_172 (dk_at dksX0_answer_0 13 rfl rfl)
abbrev cX0_proper : ByteArray := prog_4_method_7_code
def yX0_proper : MethodName := ⟨RX0, "proper", "(I)Z"⟩
def dkwX0_proper_2 : List UInt8 := [180, 0, 29, 184, 0, 45, 172]
abbrev dktX0_proper_2 : List UInt8 := dkwX0_proper_2 ++ []
def dkwX0_proper_1 : List UInt8 := [51, 167, 0, 9, 42, 180, 0, 13, 28, 51, 84, 132, 2, 1, 167, 255, 220, 42, 180, 0, 26, 42]
abbrev dktX0_proper_1 : List UInt8 := dkwX0_proper_1 ++ dktX0_proper_2
def dkwX0_proper_0 : List UInt8 := [3, 61, 28, 16, 32, 162, 0, 36, 42, 180, 0, 26, 28, 27, 4, 126, 154, 0, 12, 42, 180, 0, 7, 28]
abbrev dktX0_proper_0 : List UInt8 := dkwX0_proper_0 ++ dktX0_proper_1
theorem dksX0_proper_0 : cX0_proper.data.toList.drop 0 = dktX0_proper_0 := by decide +kernel
theorem dksX0_proper_1 : cX0_proper.data.toList.drop 24 = dktX0_proper_1 := dk_seg dksX0_proper_0 24 rfl rfl
theorem dksX0_proper_2 : cX0_proper.data.toList.drop 46 = dktX0_proper_2 := dk_seg dksX0_proper_1 22 rfl rfl
theorem dX0_proper_0 : decode cX0_proper 0 = .ok (.iconst 0, 1) := dk_3 (dk_at dksX0_proper_0 0 rfl rfl)
theorem dX0_proper_1 : decode cX0_proper 1 = .ok (.istore_n 2, 1) := dk_61 (dk_at dksX0_proper_0 1 rfl rfl)
theorem dX0_proper_2 : decode cX0_proper 2 = .ok (.iload_n 2, 1) := dk_28 (dk_at dksX0_proper_0 2 rfl rfl)
theorem dX0_proper_3 : decode cX0_proper 3 = .ok (.bipush 32, 2) := dk_16 32 (dk_at dksX0_proper_0 3 rfl rfl)
theorem dX0_proper_5 : decode cX0_proper 5 = .ok (.if_icmp .ge 36, 3) := dk_162 0 36 (dk_at dksX0_proper_0 5 rfl rfl)
theorem dX0_proper_8 : decode cX0_proper 8 = .ok (.aload_n 0, 1) := dk_42 (dk_at dksX0_proper_0 8 rfl rfl)
theorem dX0_proper_9 : decode cX0_proper 9 = .ok (.getfield 26, 3) := dk_180 0 26 (dk_at dksX0_proper_0 9 rfl rfl)
theorem dX0_proper_12 : decode cX0_proper 12 = .ok (.iload_n 2, 1) := dk_28 (dk_at dksX0_proper_0 12 rfl rfl)
theorem dX0_proper_13 : decode cX0_proper 13 = .ok (.iload_n 1, 1) := dk_27 (dk_at dksX0_proper_0 13 rfl rfl)
theorem dX0_proper_14 : decode cX0_proper 14 = .ok (.iconst 1, 1) := dk_4 (dk_at dksX0_proper_0 14 rfl rfl)
theorem dX0_proper_15 : decode cX0_proper 15 = .ok (.iand, 1) := dk_126 (dk_at dksX0_proper_0 15 rfl rfl)
theorem dX0_proper_16 : decode cX0_proper 16 = .ok (.ifCond .ne 12, 3) := dk_154 0 12 (dk_at dksX0_proper_0 16 rfl rfl)
theorem dX0_proper_19 : decode cX0_proper 19 = .ok (.aload_n 0, 1) := dk_42 (dk_at dksX0_proper_0 19 rfl rfl)
theorem dX0_proper_20 : decode cX0_proper 20 = .ok (.getfield 7, 3) := dk_180 0 7 (dk_at dksX0_proper_0 20 rfl rfl)
theorem dX0_proper_23 : decode cX0_proper 23 = .ok (.iload_n 2, 1) := dk_28 (dk_at dksX0_proper_0 23 rfl rfl)
theorem dX0_proper_24 : decode cX0_proper 24 = .ok (.baload, 1) := dk_51 (dk_at dksX0_proper_1 0 rfl rfl)
theorem dX0_proper_25 : decode cX0_proper 25 = .ok (.goto 9, 3) := dk_167 0 9 (dk_at dksX0_proper_1 1 rfl rfl)
theorem dX0_proper_28 : decode cX0_proper 28 = .ok (.aload_n 0, 1) := dk_42 (dk_at dksX0_proper_1 4 rfl rfl)
theorem dX0_proper_29 : decode cX0_proper 29 = .ok (.getfield 13, 3) := dk_180 0 13 (dk_at dksX0_proper_1 5 rfl rfl)
theorem dX0_proper_32 : decode cX0_proper 32 = .ok (.iload_n 2, 1) := dk_28 (dk_at dksX0_proper_1 8 rfl rfl)
theorem dX0_proper_33 : decode cX0_proper 33 = .ok (.baload, 1) := dk_51 (dk_at dksX0_proper_1 9 rfl rfl)
theorem dX0_proper_34 : decode cX0_proper 34 = .ok (.bastore, 1) := dk_84 (dk_at dksX0_proper_1 10 rfl rfl)
theorem dX0_proper_35 : decode cX0_proper 35 = .ok (.iinc 2 1, 3) := dk_132 2 1 (dk_at dksX0_proper_1 11 rfl rfl)
theorem dX0_proper_38 : decode cX0_proper 38 = .ok (.goto (-36), 3) := dk_167 255 220 (dk_at dksX0_proper_1 14 rfl rfl)
theorem dX0_proper_41 : decode cX0_proper 41 = .ok (.aload_n 0, 1) := dk_42 (dk_at dksX0_proper_1 17 rfl rfl)
theorem dX0_proper_42 : decode cX0_proper 42 = .ok (.getfield 26, 3) := dk_180 0 26 (dk_at dksX0_proper_1 18 rfl rfl)
theorem dX0_proper_45 : decode cX0_proper 45 = .ok (.aload_n 0, 1) := dk_42 (dk_at dksX0_proper_1 21 rfl rfl)
theorem dX0_proper_46 : decode cX0_proper 46 = .ok (.getfield 29, 3) := dk_180 0 29 (dk_at dksX0_proper_2 0 rfl rfl)
theorem dX0_proper_49 : decode cX0_proper 49 = .ok (.invokestatic 45, 3) := dk_184 0 45 (dk_at dksX0_proper_2 3 rfl rfl)
theorem dX0_proper_52 : decode cX0_proper 52 = .ok (.ireturn, 1) := dk_172 (dk_at dksX0_proper_2 6 rfl rfl)
theorem q3 : (Jvm.Cond.initialized "WideScalars") ∈ lw_all := lw_g (lw_at lw_m0 1 rfl) rfl
theorem q9 : (Jvm.Cond.instantiable "WideScalars" (7 : Nat)) ∈ lw_all := lw_g (lw_at lw_m0 7 rfl) rfl
theorem q11 : (Jvm.Cond.instanceMethod ({ cls := "WideScalars", name := "<init>", desc := "()V" } : Jvm.MethodName)) ∈ lw_all := lw_g (lw_at lw_m0 9 rfl) rfl
theorem q12 : (Jvm.Cond.code ({ cls := "WideScalars", name := "<init>", desc := "()V" } : Jvm.MethodName) prog_4_method_1_code (1 : Nat) (Option.none : Option Jvm.ClassFile.FieldType)) ∈ lw_all := lw_g (lw_at lw_m0 10 rfl) rfl
theorem q13 : (Jvm.Cond.methodLink "WideScalars" (1 : Nat) ({ cls := "java/lang/Object", name := "<init>", desc := "()V" } : Jvm.MethodName)) ∈ lw_all := lw_g (lw_at lw_m0 11 rfl) rfl
theorem q16 : (Jvm.Cond.fieldLink "WideScalars" (7 : Nat) "WideScalars" "wide" "[B") ∈ lw_all := lw_g (lw_at lw_m0 14 rfl) rfl
theorem q17 : (Jvm.Cond.fieldLink "WideScalars" (13 : Nat) "WideScalars" "z" "[B") ∈ lw_all := lw_g (lw_at lw_m0 15 rfl) rfl
theorem q18 : (Jvm.Cond.fieldLink "WideScalars" (16 : Nat) "WideScalars" "x" "[I") ∈ lw_all := lw_g (lw_at lw_m0 16 rfl) rfl
theorem q19 : (Jvm.Cond.fieldLink "WideScalars" (20 : Nat) "WideScalars" "y" "[I") ∈ lw_all := lw_g (lw_at lw_m0 17 rfl) rfl
theorem q20 : (Jvm.Cond.fieldLink "WideScalars" (23 : Nat) "WideScalars" "p" "[I") ∈ lw_all := lw_g (lw_at lw_m0 18 rfl) rfl
theorem q21 : (Jvm.Cond.fieldLink "WideScalars" (26 : Nat) "WideScalars" "one" "[B") ∈ lw_all := lw_g (lw_at lw_m0 19 rfl) rfl
theorem q22 : (Jvm.Cond.fieldLink "WideScalars" (29 : Nat) "WideScalars" "n" "[I") ∈ lw_all := lw_g (lw_at lw_m0 20 rfl) rfl
theorem q23 : (Jvm.Cond.laysFinal "WideScalars" "WideScalars" "wide" "[B") ∈ lw_all := lw_g (lw_at lw_m0 21 rfl) rfl
theorem q24 : (Jvm.Cond.soleField "WideScalars" "wide") ∈ lw_all := lw_g (lw_at lw_m0 22 rfl) rfl
theorem q25 : (Jvm.Cond.lays "WideScalars" "WideScalars" "z" "[B") ∈ lw_all := lw_g (lw_at lw_m0 23 rfl) rfl
theorem q26 : (Jvm.Cond.soleField "WideScalars" "z") ∈ lw_all := lw_g (lw_at lw_m0 24 rfl) rfl
theorem q27 : (Jvm.Cond.laysFinal "WideScalars" "WideScalars" "x" "[I") ∈ lw_all := lw_g (lw_at lw_m0 25 rfl) rfl
theorem q28 : (Jvm.Cond.soleField "WideScalars" "x") ∈ lw_all := lw_g (lw_at lw_m0 26 rfl) rfl
theorem q29 : (Jvm.Cond.laysFinal "WideScalars" "WideScalars" "y" "[I") ∈ lw_all := lw_g (lw_at lw_m0 27 rfl) rfl
theorem q30 : (Jvm.Cond.soleField "WideScalars" "y") ∈ lw_all := lw_g (lw_at lw_m0 28 rfl) rfl
theorem q31 : (Jvm.Cond.laysFinal "WideScalars" "WideScalars" "p" "[I") ∈ lw_all := lw_g (lw_at lw_m0 29 rfl) rfl
theorem q32 : (Jvm.Cond.soleField "WideScalars" "p") ∈ lw_all := lw_g (lw_at lw_m0 30 rfl) rfl
theorem q33 : (Jvm.Cond.laysFinal "WideScalars" "WideScalars" "one" "[B") ∈ lw_all := lw_g (lw_at lw_m0 31 rfl) rfl
theorem q34 : (Jvm.Cond.soleField "WideScalars" "one") ∈ lw_all := lw_g (lw_at lw_m0 32 rfl) rfl
theorem q35 : (Jvm.Cond.laysFinal "WideScalars" "WideScalars" "n" "[I") ∈ lw_all := lw_g (lw_at lw_m0 33 rfl) rfl
theorem q36 : (Jvm.Cond.soleField "WideScalars" "n") ∈ lw_all := lw_g (lw_at lw_m0 34 rfl) rfl
theorem q37 : (Jvm.Cond.superclass "WideScalars" "java/lang/Object") ∈ lw_all := lw_g (lw_at lw_m0 35 rfl) rfl
theorem q41 : (Jvm.Cond.instanceMethod ({ cls := "WideScalars", name := "wide", desc := "(IIIII)V" } : Jvm.MethodName)) ∈ lw_all := lw_g (lw_at lw_m0 39 rfl) rfl
theorem q42 : (Jvm.Cond.selects "WideScalars" ({ cls := "WideScalars", name := "wide", desc := "(IIIII)V" } : Jvm.MethodName) ({ cls := "WideScalars", name := "wide", desc := "(IIIII)V" } : Jvm.MethodName)) ∈ lw_all := lw_g (lw_at lw_m0 40 rfl) rfl
theorem q43 : (Jvm.Cond.code ({ cls := "WideScalars", name := "wide", desc := "(IIIII)V" } : Jvm.MethodName) prog_4_method_3_code (7 : Nat) (Option.none : Option Jvm.ClassFile.FieldType)) ∈ lw_all := lw_g (lw_at lw_m0 41 rfl) rfl
theorem q44 : (Jvm.Cond.methodLink "WideScalars" (32 : Nat) ({ cls := "WideScalars", name := "word", desc := "([BII)V" } : Jvm.MethodName)) ∈ lw_all := lw_g (lw_at lw_m0 42 rfl) rfl
theorem q45 : (Jvm.Cond.static ({ cls := "WideScalars", name := "word", desc := "([BII)V" } : Jvm.MethodName)) ∈ lw_all := lw_g (lw_at lw_m0 43 rfl) rfl
theorem q46 : (Jvm.Cond.code ({ cls := "WideScalars", name := "word", desc := "([BII)V" } : Jvm.MethodName) prog_4_method_2_code (3 : Nat) (Option.none : Option Jvm.ClassFile.FieldType)) ∈ lw_all := lw_g (lw_at lw_m0 44 rfl) rfl
theorem q48 : (Jvm.Cond.instanceMethod ({ cls := "WideScalars", name := "reduce", desc := "()V" } : Jvm.MethodName)) ∈ lw_all := lw_g (lw_at lw_m0 46 rfl) rfl
theorem q49 : (Jvm.Cond.selects "WideScalars" ({ cls := "WideScalars", name := "reduce", desc := "()V" } : Jvm.MethodName) ({ cls := "WideScalars", name := "reduce", desc := "()V" } : Jvm.MethodName)) ∈ lw_all := lw_g (lw_at lw_m0 47 rfl) rfl
theorem q50 : (Jvm.Cond.code ({ cls := "WideScalars", name := "reduce", desc := "()V" } : Jvm.MethodName) prog_4_method_4_code (1 : Nat) (Option.none : Option Jvm.ClassFile.FieldType)) ∈ lw_all := lw_g (lw_at lw_m0 48 rfl) rfl
theorem q51 : (Jvm.Cond.methodLink "WideScalars" (36 : Nat) ({ cls := "Scalar25519", name := "reduce512", desc := "([B)[B" } : Jvm.MethodName)) ∈ lw_all := lw_g (lw_at lw_m0 49 rfl) rfl
theorem q79 : (Jvm.Cond.instanceMethod ({ cls := "WideScalars", name := "reduceLess", desc := "()V" } : Jvm.MethodName)) ∈ lw_all := lw_g (lw_at lw_m0 77 rfl) rfl
theorem q80 : (Jvm.Cond.selects "WideScalars" ({ cls := "WideScalars", name := "reduceLess", desc := "()V" } : Jvm.MethodName) ({ cls := "WideScalars", name := "reduceLess", desc := "()V" } : Jvm.MethodName)) ∈ lw_all := lw_g (lw_at lw_m0 78 rfl) rfl
theorem q81 : (Jvm.Cond.code ({ cls := "WideScalars", name := "reduceLess", desc := "()V" } : Jvm.MethodName) prog_4_method_5_code (3 : Nat) (Option.none : Option Jvm.ClassFile.FieldType)) ∈ lw_all := lw_g (lw_at lw_m0 79 rfl) rfl
theorem q82 : (Jvm.Cond.methodLink "WideScalars" (42 : Nat) ({ cls := "Scalar25519", name := "reduce384", desc := "([B)[B" } : Jvm.MethodName)) ∈ lw_all := lw_g (lw_at lw_m0 80 rfl) rfl
theorem q89 : (Jvm.Cond.instanceMethod ({ cls := "WideScalars", name := "answer", desc := "(I)I" } : Jvm.MethodName)) ∈ lw_all := lw_g (lw_at lw_m0 87 rfl) rfl
theorem q90 : (Jvm.Cond.selects "WideScalars" ({ cls := "WideScalars", name := "answer", desc := "(I)I" } : Jvm.MethodName) ({ cls := "WideScalars", name := "answer", desc := "(I)I" } : Jvm.MethodName)) ∈ lw_all := lw_g (lw_at lw_m0 88 rfl) rfl
theorem q91 : (Jvm.Cond.code ({ cls := "WideScalars", name := "answer", desc := "(I)I" } : Jvm.MethodName) prog_4_method_6_code (2 : Nat) (Option.some Jvm.ClassFile.FieldType.int)) ∈ lw_all := lw_g (lw_at lw_m0 89 rfl) rfl
theorem q93 : (Jvm.Cond.instanceMethod ({ cls := "WideScalars", name := "proper", desc := "(I)Z" } : Jvm.MethodName)) ∈ lw_all := lw_g (lw_at lw_m0 91 rfl) rfl
theorem q94 : (Jvm.Cond.selects "WideScalars" ({ cls := "WideScalars", name := "proper", desc := "(I)Z" } : Jvm.MethodName) ({ cls := "WideScalars", name := "proper", desc := "(I)Z" } : Jvm.MethodName)) ∈ lw_all := lw_g (lw_at lw_m0 92 rfl) rfl
theorem q95 : (Jvm.Cond.code ({ cls := "WideScalars", name := "proper", desc := "(I)Z" } : Jvm.MethodName) prog_4_method_7_code (3 : Nat) (Option.some Jvm.ClassFile.FieldType.boolean)) ∈ lw_all := lw_g (lw_at lw_m0 93 rfl) rfl
theorem q96 : (Jvm.Cond.methodLink "WideScalars" (45 : Nat) ({ cls := "Scalar25519", name := "checkVar", desc := "([B[I)Z" } : Jvm.MethodName)) ∈ lw_all := lw_g (lw_at lw_m0 94 rfl) rfl
theorem in_X0 : ∀ w ∈ wsX00, w ∈ lw_all := lw_in wsX00 [23, 25, 27, 29, 31, 33, 35] (by decide +kernel) (by decide +kernel)
/-! WideScalarsModel -/
set_option maxRecDepth 100000
def RX1 : String := "WideScalarsModel"
def TX1 : u_T := fun k => match k with
  | 0 => ("WideScalarsModel", "wide", "[I", true)
  | 1 => ("WideScalarsModel", "z", "[I", true)
  | 2 => ("WideScalarsModel", "order", "[I", true)
  | _ => ("WideScalarsModel", "rest", "[I", true)
def tyX1 : Nat → FieldType := fun k => match k with
  | 0 => .array .int
  | 1 => .array .int
  | 2 => .array .int
  | _ => .array .int
abbrev wsX10 : List Cond := u_ws RX1 TX1 4
theorem nmX1 : ∀ a, a < 4 → ∀ b, b < 4 → a ≠ b → (TX1 a).2.1 ≠ (TX1 b).2.1 := by decide +kernel
theorem tyX1_ok : ∀ k, k < 4 → parseFieldDescriptor (TX1 k).2.2.1 = some (tyX1 k) := by decide +kernel
abbrev cX1_init : ByteArray := prog_6_method_1_code
def yX1_init : MethodName := ⟨RX1, "<init>", "()V"⟩
def dkwX1_init_9 : List UInt8 := [188, 10, 181, 0, 19, 177]
abbrev dktX1_init_9 : List UInt8 := dkwX1_init_9 ++ []
def dkwX1_init_8 : List UInt8 := [79, 89, 16, 29, 3, 79, 89, 16, 30, 3, 79, 89, 16, 31, 16, 16, 79, 181, 0, 16, 42, 16, 33]
abbrev dktX1_init_8 : List UInt8 := dkwX1_init_8 ++ dktX1_init_9
def dkwX1_init_7 : List UInt8 := [89, 16, 24, 3, 79, 89, 16, 25, 3, 79, 89, 16, 26, 3, 79, 89, 16, 27, 3, 79, 89, 16, 28, 3]
abbrev dktX1_init_7 : List UInt8 := dkwX1_init_7 ++ dktX1_init_8
def dkwX1_init_6 : List UInt8 := [16, 19, 3, 79, 89, 16, 20, 3, 79, 89, 16, 21, 3, 79, 89, 16, 22, 3, 79, 89, 16, 23, 3, 79]
abbrev dktX1_init_6 : List UInt8 := dkwX1_init_6 ++ dktX1_init_7
def dkwX1_init_5 : List UInt8 := [79, 89, 16, 15, 16, 20, 79, 89, 16, 16, 3, 79, 89, 16, 17, 3, 79, 89, 16, 18, 3, 79, 89]
abbrev dktX1_init_5 : List UInt8 := dkwX1_init_5 ++ dktX1_init_6
def dkwX1_init_4 : List UInt8 := [17, 0, 162, 79, 89, 16, 12, 17, 0, 222, 79, 89, 16, 13, 17, 0, 249, 79, 89, 16, 14, 17, 0, 222]
abbrev dktX1_init_4 : List UInt8 := dkwX1_init_4 ++ dktX1_init_5
def dkwX1_init_3 : List UInt8 := [16, 8, 17, 0, 214, 79, 89, 16, 9, 17, 0, 156, 79, 89, 16, 10, 17, 0, 247, 79, 89, 16, 11]
abbrev dktX1_init_3 : List UInt8 := dkwX1_init_3 ++ dktX1_init_4
def dkwX1_init_2 : List UInt8 := [79, 89, 7, 16, 26, 79, 89, 8, 16, 99, 79, 89, 16, 6, 16, 18, 79, 89, 16, 7, 16, 88, 79, 89]
abbrev dktX1_init_2 : List UInt8 := dkwX1_init_2 ++ dktX1_init_3
def dkwX1_init_1 : List UInt8 := [188, 10, 89, 3, 17, 0, 237, 79, 89, 4, 17, 0, 211, 79, 89, 5, 17, 0, 245, 79, 89, 6, 16, 92]
abbrev dktX1_init_1 : List UInt8 := dkwX1_init_1 ++ dktX1_init_2
def dkwX1_init_0 : List UInt8 := [42, 183, 0, 1, 42, 16, 64, 188, 10, 181, 0, 7, 42, 16, 32, 188, 10, 181, 0, 13, 42, 16, 32]
abbrev dktX1_init_0 : List UInt8 := dkwX1_init_0 ++ dktX1_init_1
theorem dksX1_init_0 : cX1_init.data.toList.drop 0 = dktX1_init_0 := by decide +kernel
theorem dksX1_init_1 : cX1_init.data.toList.drop 23 = dktX1_init_1 := dk_seg dksX1_init_0 23 rfl rfl
theorem dksX1_init_2 : cX1_init.data.toList.drop 47 = dktX1_init_2 := dk_seg dksX1_init_1 24 rfl rfl
theorem dksX1_init_3 : cX1_init.data.toList.drop 71 = dktX1_init_3 := dk_seg dksX1_init_2 24 rfl rfl
theorem dksX1_init_4 : cX1_init.data.toList.drop 94 = dktX1_init_4 := dk_seg dksX1_init_3 23 rfl rfl
theorem dksX1_init_5 : cX1_init.data.toList.drop 118 = dktX1_init_5 := dk_seg dksX1_init_4 24 rfl rfl
theorem dksX1_init_6 : cX1_init.data.toList.drop 141 = dktX1_init_6 := dk_seg dksX1_init_5 23 rfl rfl
theorem dksX1_init_7 : cX1_init.data.toList.drop 165 = dktX1_init_7 := dk_seg dksX1_init_6 24 rfl rfl
theorem dksX1_init_8 : cX1_init.data.toList.drop 189 = dktX1_init_8 := dk_seg dksX1_init_7 24 rfl rfl
theorem dksX1_init_9 : cX1_init.data.toList.drop 212 = dktX1_init_9 := dk_seg dksX1_init_8 23 rfl rfl
theorem dX1_init_0 : decode cX1_init 0 = .ok (.aload_n 0, 1) := dk_42 (dk_at dksX1_init_0 0 rfl rfl)
theorem dX1_init_1 : decode cX1_init 1 = .ok (.invokespecial 1, 3) := dk_183 0 1 (dk_at dksX1_init_0 1 rfl rfl)
theorem dX1_init_4 : decode cX1_init 4 = .ok (.aload_n 0, 1) := dk_42 (dk_at dksX1_init_0 4 rfl rfl)
theorem dX1_init_5 : decode cX1_init 5 = .ok (.bipush 64, 2) := dk_16 64 (dk_at dksX1_init_0 5 rfl rfl)
theorem dX1_init_7 : decode cX1_init 7 = .ok (.newarray .int, 2) := dk_188_10 (dk_at dksX1_init_0 7 rfl rfl)
theorem dX1_init_9 : decode cX1_init 9 = .ok (.putfield 7, 3) := dk_181 0 7 (dk_at dksX1_init_0 9 rfl rfl)
theorem dX1_init_12 : decode cX1_init 12 = .ok (.aload_n 0, 1) := dk_42 (dk_at dksX1_init_0 12 rfl rfl)
theorem dX1_init_13 : decode cX1_init 13 = .ok (.bipush 32, 2) := dk_16 32 (dk_at dksX1_init_0 13 rfl rfl)
theorem dX1_init_15 : decode cX1_init 15 = .ok (.newarray .int, 2) := dk_188_10 (dk_at dksX1_init_0 15 rfl rfl)
theorem dX1_init_17 : decode cX1_init 17 = .ok (.putfield 13, 3) := dk_181 0 13 (dk_at dksX1_init_0 17 rfl rfl)
theorem dX1_init_20 : decode cX1_init 20 = .ok (.aload_n 0, 1) := dk_42 (dk_at dksX1_init_0 20 rfl rfl)
theorem dX1_init_21 : decode cX1_init 21 = .ok (.bipush 32, 2) := dk_16 32 (dk_at dksX1_init_0 21 rfl rfl)
theorem dX1_init_23 : decode cX1_init 23 = .ok (.newarray .int, 2) := dk_188_10 (dk_at dksX1_init_1 0 rfl rfl)
theorem dX1_init_25 : decode cX1_init 25 = .ok (.dup, 1) := dk_89 (dk_at dksX1_init_1 2 rfl rfl)
theorem dX1_init_26 : decode cX1_init 26 = .ok (.iconst 0, 1) := dk_3 (dk_at dksX1_init_1 3 rfl rfl)
theorem dX1_init_27 : decode cX1_init 27 = .ok (.sipush 237, 3) := dk_17 0 237 (dk_at dksX1_init_1 4 rfl rfl)
theorem dX1_init_30 : decode cX1_init 30 = .ok (.iastore, 1) := dk_79 (dk_at dksX1_init_1 7 rfl rfl)
theorem dX1_init_31 : decode cX1_init 31 = .ok (.dup, 1) := dk_89 (dk_at dksX1_init_1 8 rfl rfl)
theorem dX1_init_32 : decode cX1_init 32 = .ok (.iconst 1, 1) := dk_4 (dk_at dksX1_init_1 9 rfl rfl)
theorem dX1_init_33 : decode cX1_init 33 = .ok (.sipush 211, 3) := dk_17 0 211 (dk_at dksX1_init_1 10 rfl rfl)
theorem dX1_init_36 : decode cX1_init 36 = .ok (.iastore, 1) := dk_79 (dk_at dksX1_init_1 13 rfl rfl)
theorem dX1_init_37 : decode cX1_init 37 = .ok (.dup, 1) := dk_89 (dk_at dksX1_init_1 14 rfl rfl)
theorem dX1_init_38 : decode cX1_init 38 = .ok (.iconst 2, 1) := dk_5 (dk_at dksX1_init_1 15 rfl rfl)
theorem dX1_init_39 : decode cX1_init 39 = .ok (.sipush 245, 3) := dk_17 0 245 (dk_at dksX1_init_1 16 rfl rfl)
theorem dX1_init_42 : decode cX1_init 42 = .ok (.iastore, 1) := dk_79 (dk_at dksX1_init_1 19 rfl rfl)
theorem dX1_init_43 : decode cX1_init 43 = .ok (.dup, 1) := dk_89 (dk_at dksX1_init_1 20 rfl rfl)
theorem dX1_init_44 : decode cX1_init 44 = .ok (.iconst 3, 1) := dk_6 (dk_at dksX1_init_1 21 rfl rfl)
theorem dX1_init_45 : decode cX1_init 45 = .ok (.bipush 92, 2) := dk_16 92 (dk_at dksX1_init_1 22 rfl rfl)
theorem dX1_init_47 : decode cX1_init 47 = .ok (.iastore, 1) := dk_79 (dk_at dksX1_init_2 0 rfl rfl)
theorem dX1_init_48 : decode cX1_init 48 = .ok (.dup, 1) := dk_89 (dk_at dksX1_init_2 1 rfl rfl)
theorem dX1_init_49 : decode cX1_init 49 = .ok (.iconst 4, 1) := dk_7 (dk_at dksX1_init_2 2 rfl rfl)
theorem dX1_init_50 : decode cX1_init 50 = .ok (.bipush 26, 2) := dk_16 26 (dk_at dksX1_init_2 3 rfl rfl)
theorem dX1_init_52 : decode cX1_init 52 = .ok (.iastore, 1) := dk_79 (dk_at dksX1_init_2 5 rfl rfl)
theorem dX1_init_53 : decode cX1_init 53 = .ok (.dup, 1) := dk_89 (dk_at dksX1_init_2 6 rfl rfl)
theorem dX1_init_54 : decode cX1_init 54 = .ok (.iconst 5, 1) := dk_8 (dk_at dksX1_init_2 7 rfl rfl)
theorem dX1_init_55 : decode cX1_init 55 = .ok (.bipush 99, 2) := dk_16 99 (dk_at dksX1_init_2 8 rfl rfl)
theorem dX1_init_57 : decode cX1_init 57 = .ok (.iastore, 1) := dk_79 (dk_at dksX1_init_2 10 rfl rfl)
theorem dX1_init_58 : decode cX1_init 58 = .ok (.dup, 1) := dk_89 (dk_at dksX1_init_2 11 rfl rfl)
theorem dX1_init_59 : decode cX1_init 59 = .ok (.bipush 6, 2) := dk_16 6 (dk_at dksX1_init_2 12 rfl rfl)
theorem dX1_init_61 : decode cX1_init 61 = .ok (.bipush 18, 2) := dk_16 18 (dk_at dksX1_init_2 14 rfl rfl)
theorem dX1_init_63 : decode cX1_init 63 = .ok (.iastore, 1) := dk_79 (dk_at dksX1_init_2 16 rfl rfl)
theorem dX1_init_64 : decode cX1_init 64 = .ok (.dup, 1) := dk_89 (dk_at dksX1_init_2 17 rfl rfl)
theorem dX1_init_65 : decode cX1_init 65 = .ok (.bipush 7, 2) := dk_16 7 (dk_at dksX1_init_2 18 rfl rfl)
theorem dX1_init_67 : decode cX1_init 67 = .ok (.bipush 88, 2) := dk_16 88 (dk_at dksX1_init_2 20 rfl rfl)
theorem dX1_init_69 : decode cX1_init 69 = .ok (.iastore, 1) := dk_79 (dk_at dksX1_init_2 22 rfl rfl)
theorem dX1_init_70 : decode cX1_init 70 = .ok (.dup, 1) := dk_89 (dk_at dksX1_init_2 23 rfl rfl)
theorem dX1_init_71 : decode cX1_init 71 = .ok (.bipush 8, 2) := dk_16 8 (dk_at dksX1_init_3 0 rfl rfl)
theorem dX1_init_73 : decode cX1_init 73 = .ok (.sipush 214, 3) := dk_17 0 214 (dk_at dksX1_init_3 2 rfl rfl)
theorem dX1_init_76 : decode cX1_init 76 = .ok (.iastore, 1) := dk_79 (dk_at dksX1_init_3 5 rfl rfl)
theorem dX1_init_77 : decode cX1_init 77 = .ok (.dup, 1) := dk_89 (dk_at dksX1_init_3 6 rfl rfl)
theorem dX1_init_78 : decode cX1_init 78 = .ok (.bipush 9, 2) := dk_16 9 (dk_at dksX1_init_3 7 rfl rfl)
theorem dX1_init_80 : decode cX1_init 80 = .ok (.sipush 156, 3) := dk_17 0 156 (dk_at dksX1_init_3 9 rfl rfl)
theorem dX1_init_83 : decode cX1_init 83 = .ok (.iastore, 1) := dk_79 (dk_at dksX1_init_3 12 rfl rfl)
theorem dX1_init_84 : decode cX1_init 84 = .ok (.dup, 1) := dk_89 (dk_at dksX1_init_3 13 rfl rfl)
theorem dX1_init_85 : decode cX1_init 85 = .ok (.bipush 10, 2) := dk_16 10 (dk_at dksX1_init_3 14 rfl rfl)
theorem dX1_init_87 : decode cX1_init 87 = .ok (.sipush 247, 3) := dk_17 0 247 (dk_at dksX1_init_3 16 rfl rfl)
theorem dX1_init_90 : decode cX1_init 90 = .ok (.iastore, 1) := dk_79 (dk_at dksX1_init_3 19 rfl rfl)
theorem dX1_init_91 : decode cX1_init 91 = .ok (.dup, 1) := dk_89 (dk_at dksX1_init_3 20 rfl rfl)
theorem dX1_init_92 : decode cX1_init 92 = .ok (.bipush 11, 2) := dk_16 11 (dk_at dksX1_init_3 21 rfl rfl)
theorem dX1_init_94 : decode cX1_init 94 = .ok (.sipush 162, 3) := dk_17 0 162 (dk_at dksX1_init_4 0 rfl rfl)
theorem dX1_init_97 : decode cX1_init 97 = .ok (.iastore, 1) := dk_79 (dk_at dksX1_init_4 3 rfl rfl)
theorem dX1_init_98 : decode cX1_init 98 = .ok (.dup, 1) := dk_89 (dk_at dksX1_init_4 4 rfl rfl)
theorem dX1_init_99 : decode cX1_init 99 = .ok (.bipush 12, 2) := dk_16 12 (dk_at dksX1_init_4 5 rfl rfl)
theorem dX1_init_101 : decode cX1_init 101 = .ok (.sipush 222, 3) := dk_17 0 222 (dk_at dksX1_init_4 7 rfl rfl)
theorem dX1_init_104 : decode cX1_init 104 = .ok (.iastore, 1) := dk_79 (dk_at dksX1_init_4 10 rfl rfl)
theorem dX1_init_105 : decode cX1_init 105 = .ok (.dup, 1) := dk_89 (dk_at dksX1_init_4 11 rfl rfl)
theorem dX1_init_106 : decode cX1_init 106 = .ok (.bipush 13, 2) := dk_16 13 (dk_at dksX1_init_4 12 rfl rfl)
theorem dX1_init_108 : decode cX1_init 108 = .ok (.sipush 249, 3) := dk_17 0 249 (dk_at dksX1_init_4 14 rfl rfl)
theorem dX1_init_111 : decode cX1_init 111 = .ok (.iastore, 1) := dk_79 (dk_at dksX1_init_4 17 rfl rfl)
theorem dX1_init_112 : decode cX1_init 112 = .ok (.dup, 1) := dk_89 (dk_at dksX1_init_4 18 rfl rfl)
theorem dX1_init_113 : decode cX1_init 113 = .ok (.bipush 14, 2) := dk_16 14 (dk_at dksX1_init_4 19 rfl rfl)
theorem dX1_init_115 : decode cX1_init 115 = .ok (.sipush 222, 3) := dk_17 0 222 (dk_at dksX1_init_4 21 rfl rfl)
theorem dX1_init_118 : decode cX1_init 118 = .ok (.iastore, 1) := dk_79 (dk_at dksX1_init_5 0 rfl rfl)
theorem dX1_init_119 : decode cX1_init 119 = .ok (.dup, 1) := dk_89 (dk_at dksX1_init_5 1 rfl rfl)
theorem dX1_init_120 : decode cX1_init 120 = .ok (.bipush 15, 2) := dk_16 15 (dk_at dksX1_init_5 2 rfl rfl)
theorem dX1_init_122 : decode cX1_init 122 = .ok (.bipush 20, 2) := dk_16 20 (dk_at dksX1_init_5 4 rfl rfl)
theorem dX1_init_124 : decode cX1_init 124 = .ok (.iastore, 1) := dk_79 (dk_at dksX1_init_5 6 rfl rfl)
theorem dX1_init_125 : decode cX1_init 125 = .ok (.dup, 1) := dk_89 (dk_at dksX1_init_5 7 rfl rfl)
theorem dX1_init_126 : decode cX1_init 126 = .ok (.bipush 16, 2) := dk_16 16 (dk_at dksX1_init_5 8 rfl rfl)
theorem dX1_init_128 : decode cX1_init 128 = .ok (.iconst 0, 1) := dk_3 (dk_at dksX1_init_5 10 rfl rfl)
theorem dX1_init_129 : decode cX1_init 129 = .ok (.iastore, 1) := dk_79 (dk_at dksX1_init_5 11 rfl rfl)
theorem dX1_init_130 : decode cX1_init 130 = .ok (.dup, 1) := dk_89 (dk_at dksX1_init_5 12 rfl rfl)
theorem dX1_init_131 : decode cX1_init 131 = .ok (.bipush 17, 2) := dk_16 17 (dk_at dksX1_init_5 13 rfl rfl)
theorem dX1_init_133 : decode cX1_init 133 = .ok (.iconst 0, 1) := dk_3 (dk_at dksX1_init_5 15 rfl rfl)
theorem dX1_init_134 : decode cX1_init 134 = .ok (.iastore, 1) := dk_79 (dk_at dksX1_init_5 16 rfl rfl)
theorem dX1_init_135 : decode cX1_init 135 = .ok (.dup, 1) := dk_89 (dk_at dksX1_init_5 17 rfl rfl)
theorem dX1_init_136 : decode cX1_init 136 = .ok (.bipush 18, 2) := dk_16 18 (dk_at dksX1_init_5 18 rfl rfl)
theorem dX1_init_138 : decode cX1_init 138 = .ok (.iconst 0, 1) := dk_3 (dk_at dksX1_init_5 20 rfl rfl)
theorem dX1_init_139 : decode cX1_init 139 = .ok (.iastore, 1) := dk_79 (dk_at dksX1_init_5 21 rfl rfl)
theorem dX1_init_140 : decode cX1_init 140 = .ok (.dup, 1) := dk_89 (dk_at dksX1_init_5 22 rfl rfl)
theorem dX1_init_141 : decode cX1_init 141 = .ok (.bipush 19, 2) := dk_16 19 (dk_at dksX1_init_6 0 rfl rfl)
theorem dX1_init_143 : decode cX1_init 143 = .ok (.iconst 0, 1) := dk_3 (dk_at dksX1_init_6 2 rfl rfl)
theorem dX1_init_144 : decode cX1_init 144 = .ok (.iastore, 1) := dk_79 (dk_at dksX1_init_6 3 rfl rfl)
theorem dX1_init_145 : decode cX1_init 145 = .ok (.dup, 1) := dk_89 (dk_at dksX1_init_6 4 rfl rfl)
theorem dX1_init_146 : decode cX1_init 146 = .ok (.bipush 20, 2) := dk_16 20 (dk_at dksX1_init_6 5 rfl rfl)
theorem dX1_init_148 : decode cX1_init 148 = .ok (.iconst 0, 1) := dk_3 (dk_at dksX1_init_6 7 rfl rfl)
theorem dX1_init_149 : decode cX1_init 149 = .ok (.iastore, 1) := dk_79 (dk_at dksX1_init_6 8 rfl rfl)
theorem dX1_init_150 : decode cX1_init 150 = .ok (.dup, 1) := dk_89 (dk_at dksX1_init_6 9 rfl rfl)
theorem dX1_init_151 : decode cX1_init 151 = .ok (.bipush 21, 2) := dk_16 21 (dk_at dksX1_init_6 10 rfl rfl)
theorem dX1_init_153 : decode cX1_init 153 = .ok (.iconst 0, 1) := dk_3 (dk_at dksX1_init_6 12 rfl rfl)
theorem dX1_init_154 : decode cX1_init 154 = .ok (.iastore, 1) := dk_79 (dk_at dksX1_init_6 13 rfl rfl)
theorem dX1_init_155 : decode cX1_init 155 = .ok (.dup, 1) := dk_89 (dk_at dksX1_init_6 14 rfl rfl)
theorem dX1_init_156 : decode cX1_init 156 = .ok (.bipush 22, 2) := dk_16 22 (dk_at dksX1_init_6 15 rfl rfl)
theorem dX1_init_158 : decode cX1_init 158 = .ok (.iconst 0, 1) := dk_3 (dk_at dksX1_init_6 17 rfl rfl)
theorem dX1_init_159 : decode cX1_init 159 = .ok (.iastore, 1) := dk_79 (dk_at dksX1_init_6 18 rfl rfl)
theorem dX1_init_160 : decode cX1_init 160 = .ok (.dup, 1) := dk_89 (dk_at dksX1_init_6 19 rfl rfl)
theorem dX1_init_161 : decode cX1_init 161 = .ok (.bipush 23, 2) := dk_16 23 (dk_at dksX1_init_6 20 rfl rfl)
theorem dX1_init_163 : decode cX1_init 163 = .ok (.iconst 0, 1) := dk_3 (dk_at dksX1_init_6 22 rfl rfl)
theorem dX1_init_164 : decode cX1_init 164 = .ok (.iastore, 1) := dk_79 (dk_at dksX1_init_6 23 rfl rfl)
theorem dX1_init_165 : decode cX1_init 165 = .ok (.dup, 1) := dk_89 (dk_at dksX1_init_7 0 rfl rfl)
theorem dX1_init_166 : decode cX1_init 166 = .ok (.bipush 24, 2) := dk_16 24 (dk_at dksX1_init_7 1 rfl rfl)
theorem dX1_init_168 : decode cX1_init 168 = .ok (.iconst 0, 1) := dk_3 (dk_at dksX1_init_7 3 rfl rfl)
theorem dX1_init_169 : decode cX1_init 169 = .ok (.iastore, 1) := dk_79 (dk_at dksX1_init_7 4 rfl rfl)
theorem dX1_init_170 : decode cX1_init 170 = .ok (.dup, 1) := dk_89 (dk_at dksX1_init_7 5 rfl rfl)
theorem dX1_init_171 : decode cX1_init 171 = .ok (.bipush 25, 2) := dk_16 25 (dk_at dksX1_init_7 6 rfl rfl)
theorem dX1_init_173 : decode cX1_init 173 = .ok (.iconst 0, 1) := dk_3 (dk_at dksX1_init_7 8 rfl rfl)
theorem dX1_init_174 : decode cX1_init 174 = .ok (.iastore, 1) := dk_79 (dk_at dksX1_init_7 9 rfl rfl)
theorem dX1_init_175 : decode cX1_init 175 = .ok (.dup, 1) := dk_89 (dk_at dksX1_init_7 10 rfl rfl)
theorem dX1_init_176 : decode cX1_init 176 = .ok (.bipush 26, 2) := dk_16 26 (dk_at dksX1_init_7 11 rfl rfl)
theorem dX1_init_178 : decode cX1_init 178 = .ok (.iconst 0, 1) := dk_3 (dk_at dksX1_init_7 13 rfl rfl)
theorem dX1_init_179 : decode cX1_init 179 = .ok (.iastore, 1) := dk_79 (dk_at dksX1_init_7 14 rfl rfl)
theorem dX1_init_180 : decode cX1_init 180 = .ok (.dup, 1) := dk_89 (dk_at dksX1_init_7 15 rfl rfl)
theorem dX1_init_181 : decode cX1_init 181 = .ok (.bipush 27, 2) := dk_16 27 (dk_at dksX1_init_7 16 rfl rfl)
theorem dX1_init_183 : decode cX1_init 183 = .ok (.iconst 0, 1) := dk_3 (dk_at dksX1_init_7 18 rfl rfl)
theorem dX1_init_184 : decode cX1_init 184 = .ok (.iastore, 1) := dk_79 (dk_at dksX1_init_7 19 rfl rfl)
theorem dX1_init_185 : decode cX1_init 185 = .ok (.dup, 1) := dk_89 (dk_at dksX1_init_7 20 rfl rfl)
theorem dX1_init_186 : decode cX1_init 186 = .ok (.bipush 28, 2) := dk_16 28 (dk_at dksX1_init_7 21 rfl rfl)
theorem dX1_init_188 : decode cX1_init 188 = .ok (.iconst 0, 1) := dk_3 (dk_at dksX1_init_7 23 rfl rfl)
theorem dX1_init_189 : decode cX1_init 189 = .ok (.iastore, 1) := dk_79 (dk_at dksX1_init_8 0 rfl rfl)
theorem dX1_init_190 : decode cX1_init 190 = .ok (.dup, 1) := dk_89 (dk_at dksX1_init_8 1 rfl rfl)
theorem dX1_init_191 : decode cX1_init 191 = .ok (.bipush 29, 2) := dk_16 29 (dk_at dksX1_init_8 2 rfl rfl)
theorem dX1_init_193 : decode cX1_init 193 = .ok (.iconst 0, 1) := dk_3 (dk_at dksX1_init_8 4 rfl rfl)
theorem dX1_init_194 : decode cX1_init 194 = .ok (.iastore, 1) := dk_79 (dk_at dksX1_init_8 5 rfl rfl)
theorem dX1_init_195 : decode cX1_init 195 = .ok (.dup, 1) := dk_89 (dk_at dksX1_init_8 6 rfl rfl)
theorem dX1_init_196 : decode cX1_init 196 = .ok (.bipush 30, 2) := dk_16 30 (dk_at dksX1_init_8 7 rfl rfl)
theorem dX1_init_198 : decode cX1_init 198 = .ok (.iconst 0, 1) := dk_3 (dk_at dksX1_init_8 9 rfl rfl)
theorem dX1_init_199 : decode cX1_init 199 = .ok (.iastore, 1) := dk_79 (dk_at dksX1_init_8 10 rfl rfl)
theorem dX1_init_200 : decode cX1_init 200 = .ok (.dup, 1) := dk_89 (dk_at dksX1_init_8 11 rfl rfl)
theorem dX1_init_201 : decode cX1_init 201 = .ok (.bipush 31, 2) := dk_16 31 (dk_at dksX1_init_8 12 rfl rfl)
theorem dX1_init_203 : decode cX1_init 203 = .ok (.bipush 16, 2) := dk_16 16 (dk_at dksX1_init_8 14 rfl rfl)
theorem dX1_init_205 : decode cX1_init 205 = .ok (.iastore, 1) := dk_79 (dk_at dksX1_init_8 16 rfl rfl)
theorem dX1_init_206 : decode cX1_init 206 = .ok (.putfield 16, 3) := dk_181 0 16 (dk_at dksX1_init_8 17 rfl rfl)
theorem dX1_init_209 : decode cX1_init 209 = .ok (.aload_n 0, 1) := dk_42 (dk_at dksX1_init_8 20 rfl rfl)
theorem dX1_init_210 : decode cX1_init 210 = .ok (.bipush 33, 2) := dk_16 33 (dk_at dksX1_init_8 21 rfl rfl)
theorem dX1_init_212 : decode cX1_init 212 = .ok (.newarray .int, 2) := dk_188_10 (dk_at dksX1_init_9 0 rfl rfl)
theorem dX1_init_214 : decode cX1_init 214 = .ok (.putfield 19, 3) := dk_181 0 19 (dk_at dksX1_init_9 2 rfl rfl)
theorem dX1_init_217 : decode cX1_init 217 = .ok (.return_, 1) := dk_177 (dk_at dksX1_init_9 5 rfl rfl)
abbrev cX1_wide : ByteArray := prog_6_method_4_code
def yX1_wide : MethodName := ⟨RX1, "wide", "(IIIII)V"⟩
def dkwX1_wide_0 : List UInt8 := [42, 42, 180, 0, 7, 27, 6, 126, 16, 16, 104, 28, 29, 21, 4, 21, 5, 182, 0, 22, 177]
abbrev dktX1_wide_0 : List UInt8 := dkwX1_wide_0 ++ []
theorem dksX1_wide_0 : cX1_wide.data.toList.drop 0 = dktX1_wide_0 := by decide +kernel
theorem dX1_wide_0 : decode cX1_wide 0 = .ok (.aload_n 0, 1) := dk_42 (dk_at dksX1_wide_0 0 rfl rfl)
theorem dX1_wide_1 : decode cX1_wide 1 = .ok (.aload_n 0, 1) := dk_42 (dk_at dksX1_wide_0 1 rfl rfl)
theorem dX1_wide_2 : decode cX1_wide 2 = .ok (.getfield 7, 3) := dk_180 0 7 (dk_at dksX1_wide_0 2 rfl rfl)
theorem dX1_wide_5 : decode cX1_wide 5 = .ok (.iload_n 1, 1) := dk_27 (dk_at dksX1_wide_0 5 rfl rfl)
theorem dX1_wide_6 : decode cX1_wide 6 = .ok (.iconst 3, 1) := dk_6 (dk_at dksX1_wide_0 6 rfl rfl)
theorem dX1_wide_7 : decode cX1_wide 7 = .ok (.iand, 1) := dk_126 (dk_at dksX1_wide_0 7 rfl rfl)
theorem dX1_wide_8 : decode cX1_wide 8 = .ok (.bipush 16, 2) := dk_16 16 (dk_at dksX1_wide_0 8 rfl rfl)
theorem dX1_wide_10 : decode cX1_wide 10 = .ok (.imul, 1) := dk_104 (dk_at dksX1_wide_0 10 rfl rfl)
theorem dX1_wide_11 : decode cX1_wide 11 = .ok (.iload_n 2, 1) := dk_28 (dk_at dksX1_wide_0 11 rfl rfl)
theorem dX1_wide_12 : decode cX1_wide 12 = .ok (.iload_n 3, 1) := dk_29 (dk_at dksX1_wide_0 12 rfl rfl)
theorem dX1_wide_13 : decode cX1_wide 13 = .ok (.iload 4, 2) := dk_21 4 (dk_at dksX1_wide_0 13 rfl rfl)
theorem dX1_wide_15 : decode cX1_wide 15 = .ok (.iload 5, 2) := dk_21 5 (dk_at dksX1_wide_0 15 rfl rfl)
theorem dX1_wide_17 : decode cX1_wide 17 = .ok (.invokevirtual 22, 3) := dk_182 0 22 (dk_at dksX1_wide_0 17 rfl rfl)
theorem dX1_wide_20 : decode cX1_wide 20 = .ok (.return_, 1) := dk_177 (dk_at dksX1_wide_0 20 rfl rfl)
abbrev cX1_lay : ByteArray := prog_6_method_2_code
def yX1_lay : MethodName := ⟨RX1, "lay", "([IIIIII)V"⟩
def dkwX1_lay_3 : List UInt8 := [167, 255, 188, 177]
abbrev dktX1_lay_3 : List UInt8 := dkwX1_lay_3 ++ []
def dkwX1_lay_2 : List UInt8 := [43, 28, 21, 7, 96, 21, 8, 16, 8, 21, 7, 6, 126, 104, 124, 17, 0, 255, 126, 79, 132, 7, 1]
abbrev dktX1_lay_2 : List UInt8 := dkwX1_lay_2 ++ dktX1_lay_3
def dkwX1_lay_1 : List UInt8 := [162, 0, 8, 21, 4, 167, 0, 17, 21, 7, 16, 12, 162, 0, 8, 21, 5, 167, 0, 5, 21, 6, 54, 8]
abbrev dktX1_lay_1 : List UInt8 := dkwX1_lay_1 ++ dktX1_lay_2
def dkwX1_lay_0 : List UInt8 := [3, 54, 7, 21, 7, 16, 16, 162, 0, 67, 21, 7, 7, 162, 0, 7, 29, 167, 0, 29, 21, 7, 16, 8]
abbrev dktX1_lay_0 : List UInt8 := dkwX1_lay_0 ++ dktX1_lay_1
theorem dksX1_lay_0 : cX1_lay.data.toList.drop 0 = dktX1_lay_0 := by decide +kernel
theorem dksX1_lay_1 : cX1_lay.data.toList.drop 24 = dktX1_lay_1 := dk_seg dksX1_lay_0 24 rfl rfl
theorem dksX1_lay_2 : cX1_lay.data.toList.drop 48 = dktX1_lay_2 := dk_seg dksX1_lay_1 24 rfl rfl
theorem dksX1_lay_3 : cX1_lay.data.toList.drop 71 = dktX1_lay_3 := dk_seg dksX1_lay_2 23 rfl rfl
theorem dX1_lay_0 : decode cX1_lay 0 = .ok (.iconst 0, 1) := dk_3 (dk_at dksX1_lay_0 0 rfl rfl)
theorem dX1_lay_1 : decode cX1_lay 1 = .ok (.istore 7, 2) := dk_54 7 (dk_at dksX1_lay_0 1 rfl rfl)
theorem dX1_lay_3 : decode cX1_lay 3 = .ok (.iload 7, 2) := dk_21 7 (dk_at dksX1_lay_0 3 rfl rfl)
theorem dX1_lay_5 : decode cX1_lay 5 = .ok (.bipush 16, 2) := dk_16 16 (dk_at dksX1_lay_0 5 rfl rfl)
theorem dX1_lay_7 : decode cX1_lay 7 = .ok (.if_icmp .ge 67, 3) := dk_162 0 67 (dk_at dksX1_lay_0 7 rfl rfl)
theorem dX1_lay_10 : decode cX1_lay 10 = .ok (.iload 7, 2) := dk_21 7 (dk_at dksX1_lay_0 10 rfl rfl)
theorem dX1_lay_12 : decode cX1_lay 12 = .ok (.iconst 4, 1) := dk_7 (dk_at dksX1_lay_0 12 rfl rfl)
theorem dX1_lay_13 : decode cX1_lay 13 = .ok (.if_icmp .ge 7, 3) := dk_162 0 7 (dk_at dksX1_lay_0 13 rfl rfl)
theorem dX1_lay_16 : decode cX1_lay 16 = .ok (.iload_n 3, 1) := dk_29 (dk_at dksX1_lay_0 16 rfl rfl)
theorem dX1_lay_17 : decode cX1_lay 17 = .ok (.goto 29, 3) := dk_167 0 29 (dk_at dksX1_lay_0 17 rfl rfl)
theorem dX1_lay_20 : decode cX1_lay 20 = .ok (.iload 7, 2) := dk_21 7 (dk_at dksX1_lay_0 20 rfl rfl)
theorem dX1_lay_22 : decode cX1_lay 22 = .ok (.bipush 8, 2) := dk_16 8 (dk_at dksX1_lay_0 22 rfl rfl)
theorem dX1_lay_24 : decode cX1_lay 24 = .ok (.if_icmp .ge 8, 3) := dk_162 0 8 (dk_at dksX1_lay_1 0 rfl rfl)
theorem dX1_lay_27 : decode cX1_lay 27 = .ok (.iload 4, 2) := dk_21 4 (dk_at dksX1_lay_1 3 rfl rfl)
theorem dX1_lay_29 : decode cX1_lay 29 = .ok (.goto 17, 3) := dk_167 0 17 (dk_at dksX1_lay_1 5 rfl rfl)
theorem dX1_lay_32 : decode cX1_lay 32 = .ok (.iload 7, 2) := dk_21 7 (dk_at dksX1_lay_1 8 rfl rfl)
theorem dX1_lay_34 : decode cX1_lay 34 = .ok (.bipush 12, 2) := dk_16 12 (dk_at dksX1_lay_1 10 rfl rfl)
theorem dX1_lay_36 : decode cX1_lay 36 = .ok (.if_icmp .ge 8, 3) := dk_162 0 8 (dk_at dksX1_lay_1 12 rfl rfl)
theorem dX1_lay_39 : decode cX1_lay 39 = .ok (.iload 5, 2) := dk_21 5 (dk_at dksX1_lay_1 15 rfl rfl)
theorem dX1_lay_41 : decode cX1_lay 41 = .ok (.goto 5, 3) := dk_167 0 5 (dk_at dksX1_lay_1 17 rfl rfl)
theorem dX1_lay_44 : decode cX1_lay 44 = .ok (.iload 6, 2) := dk_21 6 (dk_at dksX1_lay_1 20 rfl rfl)
theorem dX1_lay_46 : decode cX1_lay 46 = .ok (.istore 8, 2) := dk_54 8 (dk_at dksX1_lay_1 22 rfl rfl)
theorem dX1_lay_48 : decode cX1_lay 48 = .ok (.aload_n 1, 1) := dk_43 (dk_at dksX1_lay_2 0 rfl rfl)
theorem dX1_lay_49 : decode cX1_lay 49 = .ok (.iload_n 2, 1) := dk_28 (dk_at dksX1_lay_2 1 rfl rfl)
theorem dX1_lay_50 : decode cX1_lay 50 = .ok (.iload 7, 2) := dk_21 7 (dk_at dksX1_lay_2 2 rfl rfl)
theorem dX1_lay_52 : decode cX1_lay 52 = .ok (.iadd, 1) := dk_96 (dk_at dksX1_lay_2 4 rfl rfl)
theorem dX1_lay_53 : decode cX1_lay 53 = .ok (.iload 8, 2) := dk_21 8 (dk_at dksX1_lay_2 5 rfl rfl)
theorem dX1_lay_55 : decode cX1_lay 55 = .ok (.bipush 8, 2) := dk_16 8 (dk_at dksX1_lay_2 7 rfl rfl)
theorem dX1_lay_57 : decode cX1_lay 57 = .ok (.iload 7, 2) := dk_21 7 (dk_at dksX1_lay_2 9 rfl rfl)
theorem dX1_lay_59 : decode cX1_lay 59 = .ok (.iconst 3, 1) := dk_6 (dk_at dksX1_lay_2 11 rfl rfl)
theorem dX1_lay_60 : decode cX1_lay 60 = .ok (.iand, 1) := dk_126 (dk_at dksX1_lay_2 12 rfl rfl)
theorem dX1_lay_61 : decode cX1_lay 61 = .ok (.imul, 1) := dk_104 (dk_at dksX1_lay_2 13 rfl rfl)
theorem dX1_lay_62 : decode cX1_lay 62 = .ok (.iushr, 1) := dk_124 (dk_at dksX1_lay_2 14 rfl rfl)
theorem dX1_lay_63 : decode cX1_lay 63 = .ok (.sipush 255, 3) := dk_17 0 255 (dk_at dksX1_lay_2 15 rfl rfl)
theorem dX1_lay_66 : decode cX1_lay 66 = .ok (.iand, 1) := dk_126 (dk_at dksX1_lay_2 18 rfl rfl)
theorem dX1_lay_67 : decode cX1_lay 67 = .ok (.iastore, 1) := dk_79 (dk_at dksX1_lay_2 19 rfl rfl)
theorem dX1_lay_68 : decode cX1_lay 68 = .ok (.iinc 7 1, 3) := dk_132 7 1 (dk_at dksX1_lay_2 20 rfl rfl)
theorem dX1_lay_71 : decode cX1_lay 71 = .ok (.goto (-68), 3) := dk_167 255 188 (dk_at dksX1_lay_3 0 rfl rfl)
theorem dX1_lay_74 : decode cX1_lay 74 = .ok (.return_, 1) := dk_177 (dk_at dksX1_lay_3 3 rfl rfl)
abbrev cX1_reduce : ByteArray := prog_6_method_5_code
def yX1_reduce : MethodName := ⟨RX1, "reduce", "()V"⟩
def dkwX1_reduce_0 : List UInt8 := [42, 42, 180, 0, 7, 16, 64, 182, 0, 26, 177]
abbrev dktX1_reduce_0 : List UInt8 := dkwX1_reduce_0 ++ []
theorem dksX1_reduce_0 : cX1_reduce.data.toList.drop 0 = dktX1_reduce_0 := by decide +kernel
theorem dX1_reduce_0 : decode cX1_reduce 0 = .ok (.aload_n 0, 1) := dk_42 (dk_at dksX1_reduce_0 0 rfl rfl)
theorem dX1_reduce_1 : decode cX1_reduce 1 = .ok (.aload_n 0, 1) := dk_42 (dk_at dksX1_reduce_0 1 rfl rfl)
theorem dX1_reduce_2 : decode cX1_reduce 2 = .ok (.getfield 7, 3) := dk_180 0 7 (dk_at dksX1_reduce_0 2 rfl rfl)
theorem dX1_reduce_5 : decode cX1_reduce 5 = .ok (.bipush 64, 2) := dk_16 64 (dk_at dksX1_reduce_0 5 rfl rfl)
theorem dX1_reduce_7 : decode cX1_reduce 7 = .ok (.invokevirtual 26, 3) := dk_182 0 26 (dk_at dksX1_reduce_0 7 rfl rfl)
theorem dX1_reduce_10 : decode cX1_reduce 10 = .ok (.return_, 1) := dk_177 (dk_at dksX1_reduce_0 10 rfl rfl)
abbrev cX1_divide : ByteArray := prog_6_method_3_code
def yX1_divide : MethodName := ⟨RX1, "divide", "([II)V"⟩
def dkwX1_divide_12 : List UInt8 := [167, 255, 235, 177]
abbrev dktX1_divide_12 : List UInt8 := dkwX1_divide_12 ++ []
def dkwX1_divide_11 : List UInt8 := [3, 62, 29, 16, 32, 162, 0, 21, 42, 180, 0, 13, 29, 42, 180, 0, 19, 29, 46, 79, 132, 3, 1]
abbrev dktX1_divide_11 : List UInt8 := dkwX1_divide_11 ++ dktX1_divide_12
def dkwX1_divide_10 : List UInt8 := [17, 0, 255, 126, 79, 21, 9, 16, 8, 122, 54, 7, 132, 8, 1, 167, 255, 195, 132, 3, 255, 167, 255, 29]
abbrev dktX1_divide_10 : List UInt8 := dkwX1_divide_10 ++ dktX1_divide_11
def dkwX1_divide_9 : List UInt8 := [180, 0, 16, 21, 8, 46, 167, 0, 4, 3, 100, 21, 7, 96, 54, 9, 42, 180, 0, 19, 21, 8, 21, 9]
abbrev dktX1_divide_9 : List UInt8 := dkwX1_divide_9 ++ dktX1_divide_10
def dkwX1_divide_8 : List UInt8 := [21, 8, 16, 33, 162, 0, 60, 42, 180, 0, 19, 21, 8, 46, 21, 8, 16, 32, 162, 0, 13, 42]
abbrev dktX1_divide_8 : List UInt8 := dkwX1_divide_8 ++ dktX1_divide_9
def dkwX1_divide_7 : List UInt8 := [21, 5, 46, 161, 0, 7, 4, 167, 0, 4, 3, 54, 6, 21, 6, 153, 0, 73, 3, 54, 7, 3, 54, 8]
abbrev dktX1_divide_7 : List UInt8 := dkwX1_divide_7 ++ dktX1_divide_8
def dkwX1_divide_6 : List UInt8 := [160, 0, 12, 21, 5, 4, 100, 54, 5, 167, 255, 228, 42, 180, 0, 19, 21, 5, 46, 42, 180, 0, 16]
abbrev dktX1_divide_6 : List UInt8 := dkwX1_divide_6 ++ dktX1_divide_7
def dkwX1_divide_5 : List UInt8 := [21, 6, 154, 0, 58, 21, 5, 158, 0, 29, 42, 180, 0, 19, 21, 5, 46, 42, 180, 0, 16, 21, 5, 46]
abbrev dktX1_divide_5 : List UInt8 := dkwX1_divide_5 ++ dktX1_divide_6
def dkwX1_divide_4 : List UInt8 := [167, 255, 212, 16, 31, 54, 5, 42, 180, 0, 19, 16, 32, 46, 153, 0, 7, 4, 167, 0, 4, 3, 54, 6]
abbrev dktX1_divide_4 : List UInt8 := dkwX1_divide_4 ++ dktX1_divide_5
def dkwX1_divide_3 : List UInt8 := [180, 0, 19, 21, 5, 21, 6, 17, 0, 255, 126, 79, 21, 6, 16, 8, 122, 54, 4, 132, 5, 1]
abbrev dktX1_divide_3 : List UInt8 := dkwX1_divide_3 ++ dktX1_divide_4
def dkwX1_divide_2 : List UInt8 := [54, 5, 21, 5, 16, 33, 162, 0, 43, 42, 180, 0, 19, 21, 5, 46, 5, 104, 21, 4, 96, 54, 6, 42]
abbrev dktX1_divide_2 : List UInt8 := dkwX1_divide_2 ++ dktX1_divide_3
def dkwX1_divide_1 : List UInt8 := [104, 4, 100, 62, 29, 155, 0, 229, 43, 29, 6, 122, 46, 29, 16, 7, 126, 122, 4, 126, 54, 4, 3]
abbrev dktX1_divide_1 : List UInt8 := dkwX1_divide_1 ++ dktX1_divide_2
def dkwX1_divide_0 : List UInt8 := [3, 62, 29, 16, 33, 162, 0, 16, 42, 180, 0, 19, 29, 3, 79, 132, 3, 1, 167, 255, 240, 16, 8, 28]
abbrev dktX1_divide_0 : List UInt8 := dkwX1_divide_0 ++ dktX1_divide_1
theorem dksX1_divide_0 : cX1_divide.data.toList.drop 0 = dktX1_divide_0 := by decide +kernel
theorem dksX1_divide_1 : cX1_divide.data.toList.drop 24 = dktX1_divide_1 := dk_seg dksX1_divide_0 24 rfl rfl
theorem dksX1_divide_2 : cX1_divide.data.toList.drop 47 = dktX1_divide_2 := dk_seg dksX1_divide_1 23 rfl rfl
theorem dksX1_divide_3 : cX1_divide.data.toList.drop 71 = dktX1_divide_3 := dk_seg dksX1_divide_2 24 rfl rfl
theorem dksX1_divide_4 : cX1_divide.data.toList.drop 93 = dktX1_divide_4 := dk_seg dksX1_divide_3 22 rfl rfl
theorem dksX1_divide_5 : cX1_divide.data.toList.drop 117 = dktX1_divide_5 := dk_seg dksX1_divide_4 24 rfl rfl
theorem dksX1_divide_6 : cX1_divide.data.toList.drop 141 = dktX1_divide_6 := dk_seg dksX1_divide_5 24 rfl rfl
theorem dksX1_divide_7 : cX1_divide.data.toList.drop 164 = dktX1_divide_7 := dk_seg dksX1_divide_6 23 rfl rfl
theorem dksX1_divide_8 : cX1_divide.data.toList.drop 188 = dktX1_divide_8 := dk_seg dksX1_divide_7 24 rfl rfl
theorem dksX1_divide_9 : cX1_divide.data.toList.drop 210 = dktX1_divide_9 := dk_seg dksX1_divide_8 22 rfl rfl
theorem dksX1_divide_10 : cX1_divide.data.toList.drop 234 = dktX1_divide_10 := dk_seg dksX1_divide_9 24 rfl rfl
theorem dksX1_divide_11 : cX1_divide.data.toList.drop 258 = dktX1_divide_11 := dk_seg dksX1_divide_10 24 rfl rfl
theorem dksX1_divide_12 : cX1_divide.data.toList.drop 281 = dktX1_divide_12 := dk_seg dksX1_divide_11 23 rfl rfl
theorem dX1_divide_0 : decode cX1_divide 0 = .ok (.iconst 0, 1) := dk_3 (dk_at dksX1_divide_0 0 rfl rfl)
theorem dX1_divide_1 : decode cX1_divide 1 = .ok (.istore_n 3, 1) := dk_62 (dk_at dksX1_divide_0 1 rfl rfl)
theorem dX1_divide_2 : decode cX1_divide 2 = .ok (.iload_n 3, 1) := dk_29 (dk_at dksX1_divide_0 2 rfl rfl)
theorem dX1_divide_3 : decode cX1_divide 3 = .ok (.bipush 33, 2) := dk_16 33 (dk_at dksX1_divide_0 3 rfl rfl)
theorem dX1_divide_5 : decode cX1_divide 5 = .ok (.if_icmp .ge 16, 3) := dk_162 0 16 (dk_at dksX1_divide_0 5 rfl rfl)
theorem dX1_divide_8 : decode cX1_divide 8 = .ok (.aload_n 0, 1) := dk_42 (dk_at dksX1_divide_0 8 rfl rfl)
theorem dX1_divide_9 : decode cX1_divide 9 = .ok (.getfield 19, 3) := dk_180 0 19 (dk_at dksX1_divide_0 9 rfl rfl)
theorem dX1_divide_12 : decode cX1_divide 12 = .ok (.iload_n 3, 1) := dk_29 (dk_at dksX1_divide_0 12 rfl rfl)
theorem dX1_divide_13 : decode cX1_divide 13 = .ok (.iconst 0, 1) := dk_3 (dk_at dksX1_divide_0 13 rfl rfl)
theorem dX1_divide_14 : decode cX1_divide 14 = .ok (.iastore, 1) := dk_79 (dk_at dksX1_divide_0 14 rfl rfl)
theorem dX1_divide_15 : decode cX1_divide 15 = .ok (.iinc 3 1, 3) := dk_132 3 1 (dk_at dksX1_divide_0 15 rfl rfl)
theorem dX1_divide_18 : decode cX1_divide 18 = .ok (.goto (-16), 3) := dk_167 255 240 (dk_at dksX1_divide_0 18 rfl rfl)
theorem dX1_divide_21 : decode cX1_divide 21 = .ok (.bipush 8, 2) := dk_16 8 (dk_at dksX1_divide_0 21 rfl rfl)
theorem dX1_divide_23 : decode cX1_divide 23 = .ok (.iload_n 2, 1) := dk_28 (dk_at dksX1_divide_0 23 rfl rfl)
theorem dX1_divide_24 : decode cX1_divide 24 = .ok (.imul, 1) := dk_104 (dk_at dksX1_divide_1 0 rfl rfl)
theorem dX1_divide_25 : decode cX1_divide 25 = .ok (.iconst 1, 1) := dk_4 (dk_at dksX1_divide_1 1 rfl rfl)
theorem dX1_divide_26 : decode cX1_divide 26 = .ok (.isub, 1) := dk_100 (dk_at dksX1_divide_1 2 rfl rfl)
theorem dX1_divide_27 : decode cX1_divide 27 = .ok (.istore_n 3, 1) := dk_62 (dk_at dksX1_divide_1 3 rfl rfl)
theorem dX1_divide_28 : decode cX1_divide 28 = .ok (.iload_n 3, 1) := dk_29 (dk_at dksX1_divide_1 4 rfl rfl)
theorem dX1_divide_29 : decode cX1_divide 29 = .ok (.ifCond .lt 229, 3) := dk_155 0 229 (dk_at dksX1_divide_1 5 rfl rfl)
theorem dX1_divide_32 : decode cX1_divide 32 = .ok (.aload_n 1, 1) := dk_43 (dk_at dksX1_divide_1 8 rfl rfl)
theorem dX1_divide_33 : decode cX1_divide 33 = .ok (.iload_n 3, 1) := dk_29 (dk_at dksX1_divide_1 9 rfl rfl)
theorem dX1_divide_34 : decode cX1_divide 34 = .ok (.iconst 3, 1) := dk_6 (dk_at dksX1_divide_1 10 rfl rfl)
theorem dX1_divide_35 : decode cX1_divide 35 = .ok (.ishr, 1) := dk_122 (dk_at dksX1_divide_1 11 rfl rfl)
theorem dX1_divide_36 : decode cX1_divide 36 = .ok (.iaload, 1) := dk_46 (dk_at dksX1_divide_1 12 rfl rfl)
theorem dX1_divide_37 : decode cX1_divide 37 = .ok (.iload_n 3, 1) := dk_29 (dk_at dksX1_divide_1 13 rfl rfl)
theorem dX1_divide_38 : decode cX1_divide 38 = .ok (.bipush 7, 2) := dk_16 7 (dk_at dksX1_divide_1 14 rfl rfl)
theorem dX1_divide_40 : decode cX1_divide 40 = .ok (.iand, 1) := dk_126 (dk_at dksX1_divide_1 16 rfl rfl)
theorem dX1_divide_41 : decode cX1_divide 41 = .ok (.ishr, 1) := dk_122 (dk_at dksX1_divide_1 17 rfl rfl)
theorem dX1_divide_42 : decode cX1_divide 42 = .ok (.iconst 1, 1) := dk_4 (dk_at dksX1_divide_1 18 rfl rfl)
theorem dX1_divide_43 : decode cX1_divide 43 = .ok (.iand, 1) := dk_126 (dk_at dksX1_divide_1 19 rfl rfl)
theorem dX1_divide_44 : decode cX1_divide 44 = .ok (.istore 4, 2) := dk_54 4 (dk_at dksX1_divide_1 20 rfl rfl)
theorem dX1_divide_46 : decode cX1_divide 46 = .ok (.iconst 0, 1) := dk_3 (dk_at dksX1_divide_1 22 rfl rfl)
theorem dX1_divide_47 : decode cX1_divide 47 = .ok (.istore 5, 2) := dk_54 5 (dk_at dksX1_divide_2 0 rfl rfl)
theorem dX1_divide_49 : decode cX1_divide 49 = .ok (.iload 5, 2) := dk_21 5 (dk_at dksX1_divide_2 2 rfl rfl)
theorem dX1_divide_51 : decode cX1_divide 51 = .ok (.bipush 33, 2) := dk_16 33 (dk_at dksX1_divide_2 4 rfl rfl)
theorem dX1_divide_53 : decode cX1_divide 53 = .ok (.if_icmp .ge 43, 3) := dk_162 0 43 (dk_at dksX1_divide_2 6 rfl rfl)
theorem dX1_divide_56 : decode cX1_divide 56 = .ok (.aload_n 0, 1) := dk_42 (dk_at dksX1_divide_2 9 rfl rfl)
theorem dX1_divide_57 : decode cX1_divide 57 = .ok (.getfield 19, 3) := dk_180 0 19 (dk_at dksX1_divide_2 10 rfl rfl)
theorem dX1_divide_60 : decode cX1_divide 60 = .ok (.iload 5, 2) := dk_21 5 (dk_at dksX1_divide_2 13 rfl rfl)
theorem dX1_divide_62 : decode cX1_divide 62 = .ok (.iaload, 1) := dk_46 (dk_at dksX1_divide_2 15 rfl rfl)
theorem dX1_divide_63 : decode cX1_divide 63 = .ok (.iconst 2, 1) := dk_5 (dk_at dksX1_divide_2 16 rfl rfl)
theorem dX1_divide_64 : decode cX1_divide 64 = .ok (.imul, 1) := dk_104 (dk_at dksX1_divide_2 17 rfl rfl)
theorem dX1_divide_65 : decode cX1_divide 65 = .ok (.iload 4, 2) := dk_21 4 (dk_at dksX1_divide_2 18 rfl rfl)
theorem dX1_divide_67 : decode cX1_divide 67 = .ok (.iadd, 1) := dk_96 (dk_at dksX1_divide_2 20 rfl rfl)
theorem dX1_divide_68 : decode cX1_divide 68 = .ok (.istore 6, 2) := dk_54 6 (dk_at dksX1_divide_2 21 rfl rfl)
theorem dX1_divide_70 : decode cX1_divide 70 = .ok (.aload_n 0, 1) := dk_42 (dk_at dksX1_divide_2 23 rfl rfl)
theorem dX1_divide_71 : decode cX1_divide 71 = .ok (.getfield 19, 3) := dk_180 0 19 (dk_at dksX1_divide_3 0 rfl rfl)
theorem dX1_divide_74 : decode cX1_divide 74 = .ok (.iload 5, 2) := dk_21 5 (dk_at dksX1_divide_3 3 rfl rfl)
theorem dX1_divide_76 : decode cX1_divide 76 = .ok (.iload 6, 2) := dk_21 6 (dk_at dksX1_divide_3 5 rfl rfl)
theorem dX1_divide_78 : decode cX1_divide 78 = .ok (.sipush 255, 3) := dk_17 0 255 (dk_at dksX1_divide_3 7 rfl rfl)
theorem dX1_divide_81 : decode cX1_divide 81 = .ok (.iand, 1) := dk_126 (dk_at dksX1_divide_3 10 rfl rfl)
theorem dX1_divide_82 : decode cX1_divide 82 = .ok (.iastore, 1) := dk_79 (dk_at dksX1_divide_3 11 rfl rfl)
theorem dX1_divide_83 : decode cX1_divide 83 = .ok (.iload 6, 2) := dk_21 6 (dk_at dksX1_divide_3 12 rfl rfl)
theorem dX1_divide_85 : decode cX1_divide 85 = .ok (.bipush 8, 2) := dk_16 8 (dk_at dksX1_divide_3 14 rfl rfl)
theorem dX1_divide_87 : decode cX1_divide 87 = .ok (.ishr, 1) := dk_122 (dk_at dksX1_divide_3 16 rfl rfl)
theorem dX1_divide_88 : decode cX1_divide 88 = .ok (.istore 4, 2) := dk_54 4 (dk_at dksX1_divide_3 17 rfl rfl)
theorem dX1_divide_90 : decode cX1_divide 90 = .ok (.iinc 5 1, 3) := dk_132 5 1 (dk_at dksX1_divide_3 19 rfl rfl)
theorem dX1_divide_93 : decode cX1_divide 93 = .ok (.goto (-44), 3) := dk_167 255 212 (dk_at dksX1_divide_4 0 rfl rfl)
theorem dX1_divide_96 : decode cX1_divide 96 = .ok (.bipush 31, 2) := dk_16 31 (dk_at dksX1_divide_4 3 rfl rfl)
theorem dX1_divide_98 : decode cX1_divide 98 = .ok (.istore 5, 2) := dk_54 5 (dk_at dksX1_divide_4 5 rfl rfl)
theorem dX1_divide_100 : decode cX1_divide 100 = .ok (.aload_n 0, 1) := dk_42 (dk_at dksX1_divide_4 7 rfl rfl)
theorem dX1_divide_101 : decode cX1_divide 101 = .ok (.getfield 19, 3) := dk_180 0 19 (dk_at dksX1_divide_4 8 rfl rfl)
theorem dX1_divide_104 : decode cX1_divide 104 = .ok (.bipush 32, 2) := dk_16 32 (dk_at dksX1_divide_4 11 rfl rfl)
theorem dX1_divide_106 : decode cX1_divide 106 = .ok (.iaload, 1) := dk_46 (dk_at dksX1_divide_4 13 rfl rfl)
theorem dX1_divide_107 : decode cX1_divide 107 = .ok (.ifCond .eq 7, 3) := dk_153 0 7 (dk_at dksX1_divide_4 14 rfl rfl)
theorem dX1_divide_110 : decode cX1_divide 110 = .ok (.iconst 1, 1) := dk_4 (dk_at dksX1_divide_4 17 rfl rfl)
theorem dX1_divide_111 : decode cX1_divide 111 = .ok (.goto 4, 3) := dk_167 0 4 (dk_at dksX1_divide_4 18 rfl rfl)
theorem dX1_divide_114 : decode cX1_divide 114 = .ok (.iconst 0, 1) := dk_3 (dk_at dksX1_divide_4 21 rfl rfl)
theorem dX1_divide_115 : decode cX1_divide 115 = .ok (.istore 6, 2) := dk_54 6 (dk_at dksX1_divide_4 22 rfl rfl)
theorem dX1_divide_117 : decode cX1_divide 117 = .ok (.iload 6, 2) := dk_21 6 (dk_at dksX1_divide_5 0 rfl rfl)
theorem dX1_divide_119 : decode cX1_divide 119 = .ok (.ifCond .ne 58, 3) := dk_154 0 58 (dk_at dksX1_divide_5 2 rfl rfl)
theorem dX1_divide_122 : decode cX1_divide 122 = .ok (.iload 5, 2) := dk_21 5 (dk_at dksX1_divide_5 5 rfl rfl)
theorem dX1_divide_124 : decode cX1_divide 124 = .ok (.ifCond .le 29, 3) := dk_158 0 29 (dk_at dksX1_divide_5 7 rfl rfl)
theorem dX1_divide_127 : decode cX1_divide 127 = .ok (.aload_n 0, 1) := dk_42 (dk_at dksX1_divide_5 10 rfl rfl)
theorem dX1_divide_128 : decode cX1_divide 128 = .ok (.getfield 19, 3) := dk_180 0 19 (dk_at dksX1_divide_5 11 rfl rfl)
theorem dX1_divide_131 : decode cX1_divide 131 = .ok (.iload 5, 2) := dk_21 5 (dk_at dksX1_divide_5 14 rfl rfl)
theorem dX1_divide_133 : decode cX1_divide 133 = .ok (.iaload, 1) := dk_46 (dk_at dksX1_divide_5 16 rfl rfl)
theorem dX1_divide_134 : decode cX1_divide 134 = .ok (.aload_n 0, 1) := dk_42 (dk_at dksX1_divide_5 17 rfl rfl)
theorem dX1_divide_135 : decode cX1_divide 135 = .ok (.getfield 16, 3) := dk_180 0 16 (dk_at dksX1_divide_5 18 rfl rfl)
theorem dX1_divide_138 : decode cX1_divide 138 = .ok (.iload 5, 2) := dk_21 5 (dk_at dksX1_divide_5 21 rfl rfl)
theorem dX1_divide_140 : decode cX1_divide 140 = .ok (.iaload, 1) := dk_46 (dk_at dksX1_divide_5 23 rfl rfl)
theorem dX1_divide_141 : decode cX1_divide 141 = .ok (.if_icmp .ne 12, 3) := dk_160 0 12 (dk_at dksX1_divide_6 0 rfl rfl)
theorem dX1_divide_144 : decode cX1_divide 144 = .ok (.iload 5, 2) := dk_21 5 (dk_at dksX1_divide_6 3 rfl rfl)
theorem dX1_divide_146 : decode cX1_divide 146 = .ok (.iconst 1, 1) := dk_4 (dk_at dksX1_divide_6 5 rfl rfl)
theorem dX1_divide_147 : decode cX1_divide 147 = .ok (.isub, 1) := dk_100 (dk_at dksX1_divide_6 6 rfl rfl)
theorem dX1_divide_148 : decode cX1_divide 148 = .ok (.istore 5, 2) := dk_54 5 (dk_at dksX1_divide_6 7 rfl rfl)
theorem dX1_divide_150 : decode cX1_divide 150 = .ok (.goto (-28), 3) := dk_167 255 228 (dk_at dksX1_divide_6 9 rfl rfl)
theorem dX1_divide_153 : decode cX1_divide 153 = .ok (.aload_n 0, 1) := dk_42 (dk_at dksX1_divide_6 12 rfl rfl)
theorem dX1_divide_154 : decode cX1_divide 154 = .ok (.getfield 19, 3) := dk_180 0 19 (dk_at dksX1_divide_6 13 rfl rfl)
theorem dX1_divide_157 : decode cX1_divide 157 = .ok (.iload 5, 2) := dk_21 5 (dk_at dksX1_divide_6 16 rfl rfl)
theorem dX1_divide_159 : decode cX1_divide 159 = .ok (.iaload, 1) := dk_46 (dk_at dksX1_divide_6 18 rfl rfl)
theorem dX1_divide_160 : decode cX1_divide 160 = .ok (.aload_n 0, 1) := dk_42 (dk_at dksX1_divide_6 19 rfl rfl)
theorem dX1_divide_161 : decode cX1_divide 161 = .ok (.getfield 16, 3) := dk_180 0 16 (dk_at dksX1_divide_6 20 rfl rfl)
theorem dX1_divide_164 : decode cX1_divide 164 = .ok (.iload 5, 2) := dk_21 5 (dk_at dksX1_divide_7 0 rfl rfl)
theorem dX1_divide_166 : decode cX1_divide 166 = .ok (.iaload, 1) := dk_46 (dk_at dksX1_divide_7 2 rfl rfl)
theorem dX1_divide_167 : decode cX1_divide 167 = .ok (.if_icmp .lt 7, 3) := dk_161 0 7 (dk_at dksX1_divide_7 3 rfl rfl)
theorem dX1_divide_170 : decode cX1_divide 170 = .ok (.iconst 1, 1) := dk_4 (dk_at dksX1_divide_7 6 rfl rfl)
theorem dX1_divide_171 : decode cX1_divide 171 = .ok (.goto 4, 3) := dk_167 0 4 (dk_at dksX1_divide_7 7 rfl rfl)
theorem dX1_divide_174 : decode cX1_divide 174 = .ok (.iconst 0, 1) := dk_3 (dk_at dksX1_divide_7 10 rfl rfl)
theorem dX1_divide_175 : decode cX1_divide 175 = .ok (.istore 6, 2) := dk_54 6 (dk_at dksX1_divide_7 11 rfl rfl)
theorem dX1_divide_177 : decode cX1_divide 177 = .ok (.iload 6, 2) := dk_21 6 (dk_at dksX1_divide_7 13 rfl rfl)
theorem dX1_divide_179 : decode cX1_divide 179 = .ok (.ifCond .eq 73, 3) := dk_153 0 73 (dk_at dksX1_divide_7 15 rfl rfl)
theorem dX1_divide_182 : decode cX1_divide 182 = .ok (.iconst 0, 1) := dk_3 (dk_at dksX1_divide_7 18 rfl rfl)
theorem dX1_divide_183 : decode cX1_divide 183 = .ok (.istore 7, 2) := dk_54 7 (dk_at dksX1_divide_7 19 rfl rfl)
theorem dX1_divide_185 : decode cX1_divide 185 = .ok (.iconst 0, 1) := dk_3 (dk_at dksX1_divide_7 21 rfl rfl)
theorem dX1_divide_186 : decode cX1_divide 186 = .ok (.istore 8, 2) := dk_54 8 (dk_at dksX1_divide_7 22 rfl rfl)
theorem dX1_divide_188 : decode cX1_divide 188 = .ok (.iload 8, 2) := dk_21 8 (dk_at dksX1_divide_8 0 rfl rfl)
theorem dX1_divide_190 : decode cX1_divide 190 = .ok (.bipush 33, 2) := dk_16 33 (dk_at dksX1_divide_8 2 rfl rfl)
theorem dX1_divide_192 : decode cX1_divide 192 = .ok (.if_icmp .ge 60, 3) := dk_162 0 60 (dk_at dksX1_divide_8 4 rfl rfl)
theorem dX1_divide_195 : decode cX1_divide 195 = .ok (.aload_n 0, 1) := dk_42 (dk_at dksX1_divide_8 7 rfl rfl)
theorem dX1_divide_196 : decode cX1_divide 196 = .ok (.getfield 19, 3) := dk_180 0 19 (dk_at dksX1_divide_8 8 rfl rfl)
theorem dX1_divide_199 : decode cX1_divide 199 = .ok (.iload 8, 2) := dk_21 8 (dk_at dksX1_divide_8 11 rfl rfl)
theorem dX1_divide_201 : decode cX1_divide 201 = .ok (.iaload, 1) := dk_46 (dk_at dksX1_divide_8 13 rfl rfl)
theorem dX1_divide_202 : decode cX1_divide 202 = .ok (.iload 8, 2) := dk_21 8 (dk_at dksX1_divide_8 14 rfl rfl)
theorem dX1_divide_204 : decode cX1_divide 204 = .ok (.bipush 32, 2) := dk_16 32 (dk_at dksX1_divide_8 16 rfl rfl)
theorem dX1_divide_206 : decode cX1_divide 206 = .ok (.if_icmp .ge 13, 3) := dk_162 0 13 (dk_at dksX1_divide_8 18 rfl rfl)
theorem dX1_divide_209 : decode cX1_divide 209 = .ok (.aload_n 0, 1) := dk_42 (dk_at dksX1_divide_8 21 rfl rfl)
theorem dX1_divide_210 : decode cX1_divide 210 = .ok (.getfield 16, 3) := dk_180 0 16 (dk_at dksX1_divide_9 0 rfl rfl)
theorem dX1_divide_213 : decode cX1_divide 213 = .ok (.iload 8, 2) := dk_21 8 (dk_at dksX1_divide_9 3 rfl rfl)
theorem dX1_divide_215 : decode cX1_divide 215 = .ok (.iaload, 1) := dk_46 (dk_at dksX1_divide_9 5 rfl rfl)
theorem dX1_divide_216 : decode cX1_divide 216 = .ok (.goto 4, 3) := dk_167 0 4 (dk_at dksX1_divide_9 6 rfl rfl)
theorem dX1_divide_219 : decode cX1_divide 219 = .ok (.iconst 0, 1) := dk_3 (dk_at dksX1_divide_9 9 rfl rfl)
theorem dX1_divide_220 : decode cX1_divide 220 = .ok (.isub, 1) := dk_100 (dk_at dksX1_divide_9 10 rfl rfl)
theorem dX1_divide_221 : decode cX1_divide 221 = .ok (.iload 7, 2) := dk_21 7 (dk_at dksX1_divide_9 11 rfl rfl)
theorem dX1_divide_223 : decode cX1_divide 223 = .ok (.iadd, 1) := dk_96 (dk_at dksX1_divide_9 13 rfl rfl)
theorem dX1_divide_224 : decode cX1_divide 224 = .ok (.istore 9, 2) := dk_54 9 (dk_at dksX1_divide_9 14 rfl rfl)
theorem dX1_divide_226 : decode cX1_divide 226 = .ok (.aload_n 0, 1) := dk_42 (dk_at dksX1_divide_9 16 rfl rfl)
theorem dX1_divide_227 : decode cX1_divide 227 = .ok (.getfield 19, 3) := dk_180 0 19 (dk_at dksX1_divide_9 17 rfl rfl)
theorem dX1_divide_230 : decode cX1_divide 230 = .ok (.iload 8, 2) := dk_21 8 (dk_at dksX1_divide_9 20 rfl rfl)
theorem dX1_divide_232 : decode cX1_divide 232 = .ok (.iload 9, 2) := dk_21 9 (dk_at dksX1_divide_9 22 rfl rfl)
theorem dX1_divide_234 : decode cX1_divide 234 = .ok (.sipush 255, 3) := dk_17 0 255 (dk_at dksX1_divide_10 0 rfl rfl)
theorem dX1_divide_237 : decode cX1_divide 237 = .ok (.iand, 1) := dk_126 (dk_at dksX1_divide_10 3 rfl rfl)
theorem dX1_divide_238 : decode cX1_divide 238 = .ok (.iastore, 1) := dk_79 (dk_at dksX1_divide_10 4 rfl rfl)
theorem dX1_divide_239 : decode cX1_divide 239 = .ok (.iload 9, 2) := dk_21 9 (dk_at dksX1_divide_10 5 rfl rfl)
theorem dX1_divide_241 : decode cX1_divide 241 = .ok (.bipush 8, 2) := dk_16 8 (dk_at dksX1_divide_10 7 rfl rfl)
theorem dX1_divide_243 : decode cX1_divide 243 = .ok (.ishr, 1) := dk_122 (dk_at dksX1_divide_10 9 rfl rfl)
theorem dX1_divide_244 : decode cX1_divide 244 = .ok (.istore 7, 2) := dk_54 7 (dk_at dksX1_divide_10 10 rfl rfl)
theorem dX1_divide_246 : decode cX1_divide 246 = .ok (.iinc 8 1, 3) := dk_132 8 1 (dk_at dksX1_divide_10 12 rfl rfl)
theorem dX1_divide_249 : decode cX1_divide 249 = .ok (.goto (-61), 3) := dk_167 255 195 (dk_at dksX1_divide_10 15 rfl rfl)
theorem dX1_divide_252 : decode cX1_divide 252 = .ok (.iinc 3 (-1), 3) := dk_132 3 255 (dk_at dksX1_divide_10 18 rfl rfl)
theorem dX1_divide_255 : decode cX1_divide 255 = .ok (.goto (-227), 3) := dk_167 255 29 (dk_at dksX1_divide_10 21 rfl rfl)
theorem dX1_divide_258 : decode cX1_divide 258 = .ok (.iconst 0, 1) := dk_3 (dk_at dksX1_divide_11 0 rfl rfl)
theorem dX1_divide_259 : decode cX1_divide 259 = .ok (.istore_n 3, 1) := dk_62 (dk_at dksX1_divide_11 1 rfl rfl)
theorem dX1_divide_260 : decode cX1_divide 260 = .ok (.iload_n 3, 1) := dk_29 (dk_at dksX1_divide_11 2 rfl rfl)
theorem dX1_divide_261 : decode cX1_divide 261 = .ok (.bipush 32, 2) := dk_16 32 (dk_at dksX1_divide_11 3 rfl rfl)
theorem dX1_divide_263 : decode cX1_divide 263 = .ok (.if_icmp .ge 21, 3) := dk_162 0 21 (dk_at dksX1_divide_11 5 rfl rfl)
theorem dX1_divide_266 : decode cX1_divide 266 = .ok (.aload_n 0, 1) := dk_42 (dk_at dksX1_divide_11 8 rfl rfl)
theorem dX1_divide_267 : decode cX1_divide 267 = .ok (.getfield 13, 3) := dk_180 0 13 (dk_at dksX1_divide_11 9 rfl rfl)
theorem dX1_divide_270 : decode cX1_divide 270 = .ok (.iload_n 3, 1) := dk_29 (dk_at dksX1_divide_11 12 rfl rfl)
theorem dX1_divide_271 : decode cX1_divide 271 = .ok (.aload_n 0, 1) := dk_42 (dk_at dksX1_divide_11 13 rfl rfl)
theorem dX1_divide_272 : decode cX1_divide 272 = .ok (.getfield 19, 3) := dk_180 0 19 (dk_at dksX1_divide_11 14 rfl rfl)
theorem dX1_divide_275 : decode cX1_divide 275 = .ok (.iload_n 3, 1) := dk_29 (dk_at dksX1_divide_11 17 rfl rfl)
theorem dX1_divide_276 : decode cX1_divide 276 = .ok (.iaload, 1) := dk_46 (dk_at dksX1_divide_11 18 rfl rfl)
theorem dX1_divide_277 : decode cX1_divide 277 = .ok (.iastore, 1) := dk_79 (dk_at dksX1_divide_11 19 rfl rfl)
theorem dX1_divide_278 : decode cX1_divide 278 = .ok (.iinc 3 1, 3) := dk_132 3 1 (dk_at dksX1_divide_11 20 rfl rfl)
theorem dX1_divide_281 : decode cX1_divide 281 = .ok (.goto (-21), 3) := dk_167 255 235 (dk_at dksX1_divide_12 0 rfl rfl)
theorem dX1_divide_284 : decode cX1_divide 284 = .ok (.return_, 1) := dk_177 (dk_at dksX1_divide_12 3 rfl rfl)
abbrev cX1_reduceLess : ByteArray := prog_6_method_6_code
def yX1_reduceLess : MethodName := ⟨RX1, "reduceLess", "()V"⟩
def dkwX1_reduceLess_0 : List UInt8 := [42, 42, 180, 0, 7, 16, 48, 182, 0, 26, 177]
abbrev dktX1_reduceLess_0 : List UInt8 := dkwX1_reduceLess_0 ++ []
theorem dksX1_reduceLess_0 : cX1_reduceLess.data.toList.drop 0 = dktX1_reduceLess_0 := by decide +kernel
theorem dX1_reduceLess_0 : decode cX1_reduceLess 0 = .ok (.aload_n 0, 1) := dk_42 (dk_at dksX1_reduceLess_0 0 rfl rfl)
theorem dX1_reduceLess_1 : decode cX1_reduceLess 1 = .ok (.aload_n 0, 1) := dk_42 (dk_at dksX1_reduceLess_0 1 rfl rfl)
theorem dX1_reduceLess_2 : decode cX1_reduceLess 2 = .ok (.getfield 7, 3) := dk_180 0 7 (dk_at dksX1_reduceLess_0 2 rfl rfl)
theorem dX1_reduceLess_5 : decode cX1_reduceLess 5 = .ok (.bipush 48, 2) := dk_16 48 (dk_at dksX1_reduceLess_0 5 rfl rfl)
theorem dX1_reduceLess_7 : decode cX1_reduceLess 7 = .ok (.invokevirtual 26, 3) := dk_182 0 26 (dk_at dksX1_reduceLess_0 7 rfl rfl)
theorem dX1_reduceLess_10 : decode cX1_reduceLess 10 = .ok (.return_, 1) := dk_177 (dk_at dksX1_reduceLess_0 10 rfl rfl)
abbrev cX1_answer : ByteArray := prog_6_method_7_code
def yX1_answer : MethodName := ⟨RX1, "answer", "(I)I"⟩
def dkwX1_answer_0 : List UInt8 := [42, 180, 0, 13, 27, 16, 31, 126, 46, 172]
abbrev dktX1_answer_0 : List UInt8 := dkwX1_answer_0 ++ []
theorem dksX1_answer_0 : cX1_answer.data.toList.drop 0 = dktX1_answer_0 := by decide +kernel
theorem dX1_answer_0 : decode cX1_answer 0 = .ok (.aload_n 0, 1) := dk_42 (dk_at dksX1_answer_0 0 rfl rfl)
theorem dX1_answer_1 : decode cX1_answer 1 = .ok (.getfield 13, 3) := dk_180 0 13 (dk_at dksX1_answer_0 1 rfl rfl)
theorem dX1_answer_4 : decode cX1_answer 4 = .ok (.iload_n 1, 1) := dk_27 (dk_at dksX1_answer_0 4 rfl rfl)
theorem dX1_answer_5 : decode cX1_answer 5 = .ok (.bipush 31, 2) := dk_16 31 (dk_at dksX1_answer_0 5 rfl rfl)
theorem dX1_answer_7 : decode cX1_answer 7 = .ok (.iand, 1) := dk_126 (dk_at dksX1_answer_0 7 rfl rfl)
theorem dX1_answer_8 : decode cX1_answer 8 = .ok (.iaload, 1) := dk_46 (dk_at dksX1_answer_0 8 rfl rfl)
theorem dX1_answer_9 : decode cX1_answer 9 = .ok (.ireturn, 1) := dk_172 (dk_at dksX1_answer_0 9 rfl rfl)
abbrev cX1_proper : ByteArray := prog_6_method_8_code
def yX1_proper : MethodName := ⟨RX1, "proper", "(I)Z"⟩
def dkwX1_proper_3 : List UInt8 := [46, 42, 180, 0, 16, 29, 46, 162, 0, 7, 4, 167, 0, 4, 3, 172]
abbrev dktX1_proper_3 : List UInt8 := dkwX1_proper_3 ++ []
def dkwX1_proper_2 : List UInt8 := [4, 100, 62, 167, 255, 220, 28, 153, 0, 12, 42, 180, 0, 13, 29, 46, 167, 0, 9, 42, 180, 0, 7, 29]
abbrev dktX1_proper_2 : List UInt8 := dkwX1_proper_2 ++ dktX1_proper_3
def dkwX1_proper_1 : List UInt8 := [180, 0, 13, 29, 46, 167, 0, 9, 42, 180, 0, 7, 29, 46, 42, 180, 0, 16, 29, 46, 160, 0, 10, 29]
abbrev dktX1_proper_1 : List UInt8 := dkwX1_proper_1 ++ dktX1_proper_2
def dkwX1_proper_0 : List UInt8 := [27, 4, 126, 153, 0, 7, 4, 167, 0, 4, 3, 61, 16, 31, 62, 29, 158, 0, 38, 28, 153, 0, 12, 42]
abbrev dktX1_proper_0 : List UInt8 := dkwX1_proper_0 ++ dktX1_proper_1
theorem dksX1_proper_0 : cX1_proper.data.toList.drop 0 = dktX1_proper_0 := by decide +kernel
theorem dksX1_proper_1 : cX1_proper.data.toList.drop 24 = dktX1_proper_1 := dk_seg dksX1_proper_0 24 rfl rfl
theorem dksX1_proper_2 : cX1_proper.data.toList.drop 48 = dktX1_proper_2 := dk_seg dksX1_proper_1 24 rfl rfl
theorem dksX1_proper_3 : cX1_proper.data.toList.drop 72 = dktX1_proper_3 := dk_seg dksX1_proper_2 24 rfl rfl
theorem dX1_proper_0 : decode cX1_proper 0 = .ok (.iload_n 1, 1) := dk_27 (dk_at dksX1_proper_0 0 rfl rfl)
theorem dX1_proper_1 : decode cX1_proper 1 = .ok (.iconst 1, 1) := dk_4 (dk_at dksX1_proper_0 1 rfl rfl)
theorem dX1_proper_2 : decode cX1_proper 2 = .ok (.iand, 1) := dk_126 (dk_at dksX1_proper_0 2 rfl rfl)
theorem dX1_proper_3 : decode cX1_proper 3 = .ok (.ifCond .eq 7, 3) := dk_153 0 7 (dk_at dksX1_proper_0 3 rfl rfl)
theorem dX1_proper_6 : decode cX1_proper 6 = .ok (.iconst 1, 1) := dk_4 (dk_at dksX1_proper_0 6 rfl rfl)
theorem dX1_proper_7 : decode cX1_proper 7 = .ok (.goto 4, 3) := dk_167 0 4 (dk_at dksX1_proper_0 7 rfl rfl)
theorem dX1_proper_10 : decode cX1_proper 10 = .ok (.iconst 0, 1) := dk_3 (dk_at dksX1_proper_0 10 rfl rfl)
theorem dX1_proper_11 : decode cX1_proper 11 = .ok (.istore_n 2, 1) := dk_61 (dk_at dksX1_proper_0 11 rfl rfl)
theorem dX1_proper_12 : decode cX1_proper 12 = .ok (.bipush 31, 2) := dk_16 31 (dk_at dksX1_proper_0 12 rfl rfl)
theorem dX1_proper_14 : decode cX1_proper 14 = .ok (.istore_n 3, 1) := dk_62 (dk_at dksX1_proper_0 14 rfl rfl)
theorem dX1_proper_15 : decode cX1_proper 15 = .ok (.iload_n 3, 1) := dk_29 (dk_at dksX1_proper_0 15 rfl rfl)
theorem dX1_proper_16 : decode cX1_proper 16 = .ok (.ifCond .le 38, 3) := dk_158 0 38 (dk_at dksX1_proper_0 16 rfl rfl)
theorem dX1_proper_19 : decode cX1_proper 19 = .ok (.iload_n 2, 1) := dk_28 (dk_at dksX1_proper_0 19 rfl rfl)
theorem dX1_proper_20 : decode cX1_proper 20 = .ok (.ifCond .eq 12, 3) := dk_153 0 12 (dk_at dksX1_proper_0 20 rfl rfl)
theorem dX1_proper_23 : decode cX1_proper 23 = .ok (.aload_n 0, 1) := dk_42 (dk_at dksX1_proper_0 23 rfl rfl)
theorem dX1_proper_24 : decode cX1_proper 24 = .ok (.getfield 13, 3) := dk_180 0 13 (dk_at dksX1_proper_1 0 rfl rfl)
theorem dX1_proper_27 : decode cX1_proper 27 = .ok (.iload_n 3, 1) := dk_29 (dk_at dksX1_proper_1 3 rfl rfl)
theorem dX1_proper_28 : decode cX1_proper 28 = .ok (.iaload, 1) := dk_46 (dk_at dksX1_proper_1 4 rfl rfl)
theorem dX1_proper_29 : decode cX1_proper 29 = .ok (.goto 9, 3) := dk_167 0 9 (dk_at dksX1_proper_1 5 rfl rfl)
theorem dX1_proper_32 : decode cX1_proper 32 = .ok (.aload_n 0, 1) := dk_42 (dk_at dksX1_proper_1 8 rfl rfl)
theorem dX1_proper_33 : decode cX1_proper 33 = .ok (.getfield 7, 3) := dk_180 0 7 (dk_at dksX1_proper_1 9 rfl rfl)
theorem dX1_proper_36 : decode cX1_proper 36 = .ok (.iload_n 3, 1) := dk_29 (dk_at dksX1_proper_1 12 rfl rfl)
theorem dX1_proper_37 : decode cX1_proper 37 = .ok (.iaload, 1) := dk_46 (dk_at dksX1_proper_1 13 rfl rfl)
theorem dX1_proper_38 : decode cX1_proper 38 = .ok (.aload_n 0, 1) := dk_42 (dk_at dksX1_proper_1 14 rfl rfl)
theorem dX1_proper_39 : decode cX1_proper 39 = .ok (.getfield 16, 3) := dk_180 0 16 (dk_at dksX1_proper_1 15 rfl rfl)
theorem dX1_proper_42 : decode cX1_proper 42 = .ok (.iload_n 3, 1) := dk_29 (dk_at dksX1_proper_1 18 rfl rfl)
theorem dX1_proper_43 : decode cX1_proper 43 = .ok (.iaload, 1) := dk_46 (dk_at dksX1_proper_1 19 rfl rfl)
theorem dX1_proper_44 : decode cX1_proper 44 = .ok (.if_icmp .ne 10, 3) := dk_160 0 10 (dk_at dksX1_proper_1 20 rfl rfl)
theorem dX1_proper_47 : decode cX1_proper 47 = .ok (.iload_n 3, 1) := dk_29 (dk_at dksX1_proper_1 23 rfl rfl)
theorem dX1_proper_48 : decode cX1_proper 48 = .ok (.iconst 1, 1) := dk_4 (dk_at dksX1_proper_2 0 rfl rfl)
theorem dX1_proper_49 : decode cX1_proper 49 = .ok (.isub, 1) := dk_100 (dk_at dksX1_proper_2 1 rfl rfl)
theorem dX1_proper_50 : decode cX1_proper 50 = .ok (.istore_n 3, 1) := dk_62 (dk_at dksX1_proper_2 2 rfl rfl)
theorem dX1_proper_51 : decode cX1_proper 51 = .ok (.goto (-36), 3) := dk_167 255 220 (dk_at dksX1_proper_2 3 rfl rfl)
theorem dX1_proper_54 : decode cX1_proper 54 = .ok (.iload_n 2, 1) := dk_28 (dk_at dksX1_proper_2 6 rfl rfl)
theorem dX1_proper_55 : decode cX1_proper 55 = .ok (.ifCond .eq 12, 3) := dk_153 0 12 (dk_at dksX1_proper_2 7 rfl rfl)
theorem dX1_proper_58 : decode cX1_proper 58 = .ok (.aload_n 0, 1) := dk_42 (dk_at dksX1_proper_2 10 rfl rfl)
theorem dX1_proper_59 : decode cX1_proper 59 = .ok (.getfield 13, 3) := dk_180 0 13 (dk_at dksX1_proper_2 11 rfl rfl)
theorem dX1_proper_62 : decode cX1_proper 62 = .ok (.iload_n 3, 1) := dk_29 (dk_at dksX1_proper_2 14 rfl rfl)
theorem dX1_proper_63 : decode cX1_proper 63 = .ok (.iaload, 1) := dk_46 (dk_at dksX1_proper_2 15 rfl rfl)
theorem dX1_proper_64 : decode cX1_proper 64 = .ok (.goto 9, 3) := dk_167 0 9 (dk_at dksX1_proper_2 16 rfl rfl)
theorem dX1_proper_67 : decode cX1_proper 67 = .ok (.aload_n 0, 1) := dk_42 (dk_at dksX1_proper_2 19 rfl rfl)
theorem dX1_proper_68 : decode cX1_proper 68 = .ok (.getfield 7, 3) := dk_180 0 7 (dk_at dksX1_proper_2 20 rfl rfl)
theorem dX1_proper_71 : decode cX1_proper 71 = .ok (.iload_n 3, 1) := dk_29 (dk_at dksX1_proper_2 23 rfl rfl)
theorem dX1_proper_72 : decode cX1_proper 72 = .ok (.iaload, 1) := dk_46 (dk_at dksX1_proper_3 0 rfl rfl)
theorem dX1_proper_73 : decode cX1_proper 73 = .ok (.aload_n 0, 1) := dk_42 (dk_at dksX1_proper_3 1 rfl rfl)
theorem dX1_proper_74 : decode cX1_proper 74 = .ok (.getfield 16, 3) := dk_180 0 16 (dk_at dksX1_proper_3 2 rfl rfl)
theorem dX1_proper_77 : decode cX1_proper 77 = .ok (.iload_n 3, 1) := dk_29 (dk_at dksX1_proper_3 5 rfl rfl)
theorem dX1_proper_78 : decode cX1_proper 78 = .ok (.iaload, 1) := dk_46 (dk_at dksX1_proper_3 6 rfl rfl)
theorem dX1_proper_79 : decode cX1_proper 79 = .ok (.if_icmp .ge 7, 3) := dk_162 0 7 (dk_at dksX1_proper_3 7 rfl rfl)
theorem dX1_proper_82 : decode cX1_proper 82 = .ok (.iconst 1, 1) := dk_4 (dk_at dksX1_proper_3 10 rfl rfl)
theorem dX1_proper_83 : decode cX1_proper 83 = .ok (.goto 4, 3) := dk_167 0 4 (dk_at dksX1_proper_3 11 rfl rfl)
theorem dX1_proper_86 : decode cX1_proper 86 = .ok (.iconst 0, 1) := dk_3 (dk_at dksX1_proper_3 14 rfl rfl)
theorem dX1_proper_87 : decode cX1_proper 87 = .ok (.ireturn, 1) := dk_172 (dk_at dksX1_proper_3 15 rfl rfl)
theorem q4 : (Jvm.Cond.initialized "WideScalarsModel") ∈ lw_all := lw_g (lw_at lw_m0 2 rfl) rfl
theorem q113 : (Jvm.Cond.instantiable "WideScalarsModel" (4 : Nat)) ∈ lw_all := lw_g (lw_at lw_m0 111 rfl) rfl
theorem q115 : (Jvm.Cond.instanceMethod ({ cls := "WideScalarsModel", name := "<init>", desc := "()V" } : Jvm.MethodName)) ∈ lw_all := lw_g (lw_at lw_m0 113 rfl) rfl
theorem q116 : (Jvm.Cond.code ({ cls := "WideScalarsModel", name := "<init>", desc := "()V" } : Jvm.MethodName) prog_6_method_1_code (1 : Nat) (Option.none : Option Jvm.ClassFile.FieldType)) ∈ lw_all := lw_g (lw_at lw_m0 114 rfl) rfl
theorem q117 : (Jvm.Cond.methodLink "WideScalarsModel" (1 : Nat) ({ cls := "java/lang/Object", name := "<init>", desc := "()V" } : Jvm.MethodName)) ∈ lw_all := lw_g (lw_at lw_m0 115 rfl) rfl
theorem q118 : (Jvm.Cond.fieldLink "WideScalarsModel" (7 : Nat) "WideScalarsModel" "wide" "[I") ∈ lw_all := lw_g (lw_at lw_m0 116 rfl) rfl
theorem q119 : (Jvm.Cond.fieldLink "WideScalarsModel" (13 : Nat) "WideScalarsModel" "z" "[I") ∈ lw_all := lw_g (lw_at lw_m0 117 rfl) rfl
theorem q120 : (Jvm.Cond.fieldLink "WideScalarsModel" (16 : Nat) "WideScalarsModel" "order" "[I") ∈ lw_all := lw_g (lw_at lw_m0 118 rfl) rfl
theorem q121 : (Jvm.Cond.fieldLink "WideScalarsModel" (19 : Nat) "WideScalarsModel" "rest" "[I") ∈ lw_all := lw_g (lw_at lw_m0 119 rfl) rfl
theorem q122 : (Jvm.Cond.laysFinal "WideScalarsModel" "WideScalarsModel" "wide" "[I") ∈ lw_all := lw_g (lw_at lw_m0 120 rfl) rfl
theorem q123 : (Jvm.Cond.soleField "WideScalarsModel" "wide") ∈ lw_all := lw_g (lw_at lw_m0 121 rfl) rfl
theorem q124 : (Jvm.Cond.laysFinal "WideScalarsModel" "WideScalarsModel" "z" "[I") ∈ lw_all := lw_g (lw_at lw_m0 122 rfl) rfl
theorem q125 : (Jvm.Cond.soleField "WideScalarsModel" "z") ∈ lw_all := lw_g (lw_at lw_m0 123 rfl) rfl
theorem q126 : (Jvm.Cond.laysFinal "WideScalarsModel" "WideScalarsModel" "order" "[I") ∈ lw_all := lw_g (lw_at lw_m0 124 rfl) rfl
theorem q127 : (Jvm.Cond.soleField "WideScalarsModel" "order") ∈ lw_all := lw_g (lw_at lw_m0 125 rfl) rfl
theorem q128 : (Jvm.Cond.laysFinal "WideScalarsModel" "WideScalarsModel" "rest" "[I") ∈ lw_all := lw_g (lw_at lw_m0 126 rfl) rfl
theorem q129 : (Jvm.Cond.soleField "WideScalarsModel" "rest") ∈ lw_all := lw_g (lw_at lw_m0 127 rfl) rfl
theorem q130 : (Jvm.Cond.superclass "WideScalarsModel" "java/lang/Object") ∈ lw_all := lw_g (lw_at lw_m0 128 rfl) rfl
theorem q132 : (Jvm.Cond.instanceMethod ({ cls := "WideScalarsModel", name := "wide", desc := "(IIIII)V" } : Jvm.MethodName)) ∈ lw_all := lw_g (lw_at lw_m0 130 rfl) rfl
theorem q133 : (Jvm.Cond.selects "WideScalarsModel" ({ cls := "WideScalarsModel", name := "wide", desc := "(IIIII)V" } : Jvm.MethodName) ({ cls := "WideScalarsModel", name := "wide", desc := "(IIIII)V" } : Jvm.MethodName)) ∈ lw_all := lw_g (lw_at lw_m0 131 rfl) rfl
theorem q134 : (Jvm.Cond.code ({ cls := "WideScalarsModel", name := "wide", desc := "(IIIII)V" } : Jvm.MethodName) prog_6_method_4_code (6 : Nat) (Option.none : Option Jvm.ClassFile.FieldType)) ∈ lw_all := lw_g (lw_at lw_m0 132 rfl) rfl
theorem q135 : (Jvm.Cond.methodLink "WideScalarsModel" (22 : Nat) ({ cls := "WideScalarsModel", name := "lay", desc := "([IIIIII)V" } : Jvm.MethodName)) ∈ lw_all := lw_g (lw_at lw_m0 133 rfl) rfl
theorem q136 : (Jvm.Cond.privateMethod ({ cls := "WideScalarsModel", name := "lay", desc := "([IIIIII)V" } : Jvm.MethodName)) ∈ lw_tbl := lw_at lw_m0 134 rfl
theorem q137 : (Jvm.Cond.instanceMethod ({ cls := "WideScalarsModel", name := "lay", desc := "([IIIIII)V" } : Jvm.MethodName)) ∈ lw_all := lw_g (lw_at lw_m0 135 rfl) rfl
theorem q138 : (Jvm.Cond.code ({ cls := "WideScalarsModel", name := "lay", desc := "([IIIIII)V" } : Jvm.MethodName) prog_6_method_2_code (9 : Nat) (Option.none : Option Jvm.ClassFile.FieldType)) ∈ lw_all := lw_g (lw_at lw_m0 136 rfl) rfl
theorem q140 : (Jvm.Cond.instanceMethod ({ cls := "WideScalarsModel", name := "reduce", desc := "()V" } : Jvm.MethodName)) ∈ lw_all := lw_g (lw_at lw_m0 138 rfl) rfl
theorem q141 : (Jvm.Cond.selects "WideScalarsModel" ({ cls := "WideScalarsModel", name := "reduce", desc := "()V" } : Jvm.MethodName) ({ cls := "WideScalarsModel", name := "reduce", desc := "()V" } : Jvm.MethodName)) ∈ lw_all := lw_g (lw_at lw_m0 139 rfl) rfl
theorem q142 : (Jvm.Cond.code ({ cls := "WideScalarsModel", name := "reduce", desc := "()V" } : Jvm.MethodName) prog_6_method_5_code (1 : Nat) (Option.none : Option Jvm.ClassFile.FieldType)) ∈ lw_all := lw_g (lw_at lw_m0 140 rfl) rfl
theorem q143 : (Jvm.Cond.methodLink "WideScalarsModel" (26 : Nat) ({ cls := "WideScalarsModel", name := "divide", desc := "([II)V" } : Jvm.MethodName)) ∈ lw_all := lw_g (lw_at lw_m0 141 rfl) rfl
theorem q144 : (Jvm.Cond.privateMethod ({ cls := "WideScalarsModel", name := "divide", desc := "([II)V" } : Jvm.MethodName)) ∈ lw_tbl := lw_at lw_m0 142 rfl
theorem q145 : (Jvm.Cond.instanceMethod ({ cls := "WideScalarsModel", name := "divide", desc := "([II)V" } : Jvm.MethodName)) ∈ lw_all := lw_g (lw_at lw_m0 143 rfl) rfl
theorem q146 : (Jvm.Cond.code ({ cls := "WideScalarsModel", name := "divide", desc := "([II)V" } : Jvm.MethodName) prog_6_method_3_code (10 : Nat) (Option.none : Option Jvm.ClassFile.FieldType)) ∈ lw_all := lw_g (lw_at lw_m0 144 rfl) rfl
theorem q148 : (Jvm.Cond.instanceMethod ({ cls := "WideScalarsModel", name := "reduceLess", desc := "()V" } : Jvm.MethodName)) ∈ lw_all := lw_g (lw_at lw_m0 146 rfl) rfl
theorem q149 : (Jvm.Cond.selects "WideScalarsModel" ({ cls := "WideScalarsModel", name := "reduceLess", desc := "()V" } : Jvm.MethodName) ({ cls := "WideScalarsModel", name := "reduceLess", desc := "()V" } : Jvm.MethodName)) ∈ lw_all := lw_g (lw_at lw_m0 147 rfl) rfl
theorem q150 : (Jvm.Cond.code ({ cls := "WideScalarsModel", name := "reduceLess", desc := "()V" } : Jvm.MethodName) prog_6_method_6_code (1 : Nat) (Option.none : Option Jvm.ClassFile.FieldType)) ∈ lw_all := lw_g (lw_at lw_m0 148 rfl) rfl
theorem q152 : (Jvm.Cond.instanceMethod ({ cls := "WideScalarsModel", name := "answer", desc := "(I)I" } : Jvm.MethodName)) ∈ lw_all := lw_g (lw_at lw_m0 150 rfl) rfl
theorem q153 : (Jvm.Cond.selects "WideScalarsModel" ({ cls := "WideScalarsModel", name := "answer", desc := "(I)I" } : Jvm.MethodName) ({ cls := "WideScalarsModel", name := "answer", desc := "(I)I" } : Jvm.MethodName)) ∈ lw_all := lw_g (lw_at lw_m0 151 rfl) rfl
theorem q154 : (Jvm.Cond.code ({ cls := "WideScalarsModel", name := "answer", desc := "(I)I" } : Jvm.MethodName) prog_6_method_7_code (2 : Nat) (Option.some Jvm.ClassFile.FieldType.int)) ∈ lw_all := lw_g (lw_at lw_m0 152 rfl) rfl
theorem q156 : (Jvm.Cond.instanceMethod ({ cls := "WideScalarsModel", name := "proper", desc := "(I)Z" } : Jvm.MethodName)) ∈ lw_all := lw_g (lw_at lw_m0 154 rfl) rfl
theorem q157 : (Jvm.Cond.selects "WideScalarsModel" ({ cls := "WideScalarsModel", name := "proper", desc := "(I)Z" } : Jvm.MethodName) ({ cls := "WideScalarsModel", name := "proper", desc := "(I)Z" } : Jvm.MethodName)) ∈ lw_all := lw_g (lw_at lw_m0 155 rfl) rfl
theorem q158 : (Jvm.Cond.code ({ cls := "WideScalarsModel", name := "proper", desc := "(I)Z" } : Jvm.MethodName) prog_6_method_8_code (4 : Nat) (Option.some Jvm.ClassFile.FieldType.boolean)) ∈ lw_all := lw_g (lw_at lw_m0 156 rfl) rfl
theorem in_X1 : ∀ w ∈ wsX10, w ∈ lw_all := lw_in wsX10 [122, 124, 126, 128] (by decide +kernel) (by decide +kernel)
/-! the law's own entry -/
set_option maxRecDepth 100000
abbrev cL_law : ByteArray := code
def dkwL_law_8 : List UInt8 := [46, 182, 0, 35, 159, 0, 5, 3, 172, 132, 3, 6, 167, 255, 74, 4, 172]
abbrev dktL_law_8 : List UInt8 := dkwL_law_8 ++ []
def dkwL_law_7 : List UInt8 := [96, 46, 182, 0, 30, 159, 0, 28, 3, 172, 43, 42, 29, 4, 96, 46, 182, 0, 31, 44, 42, 29, 4, 96]
abbrev dktL_law_7 : List UInt8 := dkwL_law_7 ++ dktL_law_8
def dkwL_law_6 : List UInt8 := [43, 182, 0, 22, 44, 182, 0, 25, 167, 0, 49, 43, 42, 29, 4, 96, 46, 182, 0, 26, 44, 42, 29, 4]
abbrev dktL_law_6 : List UInt8 := dkwL_law_6 ++ dktL_law_7
def dkwL_law_5 : List UInt8 := [96, 46, 42, 29, 8, 96, 46, 182, 0, 17, 167, 0, 71, 43, 182, 0, 18, 44, 182, 0, 21, 167, 0, 60]
abbrev dktL_law_5 : List UInt8 := dkwL_law_5 ++ dktL_law_6
def dkwL_law_4 : List UInt8 := [96, 46, 182, 0, 13, 44, 42, 29, 4, 96, 46, 42, 29, 5, 96, 46, 42, 29, 6, 96, 46, 42, 29, 7]
abbrev dktL_law_4 : List UInt8 := dkwL_law_4 ++ dktL_law_5
def dkwL_law_3 : List UInt8 := [43, 42, 29, 4, 96, 46, 42, 29, 5, 96, 46, 42, 29, 6, 96, 46, 42, 29, 7, 96, 46, 42, 29, 8]
abbrev dktL_law_3 : List UInt8 := dkwL_law_3 ++ dktL_law_4
def dkwL_law_2 : List UInt8 := [170, 0, 0, 0, 0, 0, 164, 0, 0, 0, 0, 0, 0, 0, 4, 0, 0, 0, 35, 0, 0, 0, 96, 0, 0, 0, 107, 0, 0, 0, 118, 0, 0, 0, 141]
abbrev dktL_law_2 : List UInt8 := dkwL_law_2 ++ dktL_law_3
def dkwL_law_1 : List UInt8 := [163, 0, 179, 42, 29, 46, 16, 15, 126]
abbrev dktL_law_1 : List UInt8 := dkwL_law_1 ++ dktL_law_2
def dkwL_law_0 : List UInt8 := [187, 0, 7, 89, 183, 0, 9, 76, 187, 0, 10, 89, 183, 0, 12, 77, 3, 62, 29, 42, 190, 16, 6, 100]
abbrev dktL_law_0 : List UInt8 := dkwL_law_0 ++ dktL_law_1
theorem dksL_law_0 : cL_law.data.toList.drop 0 = dktL_law_0 := by decide +kernel
theorem dksL_law_1 : cL_law.data.toList.drop 24 = dktL_law_1 := dk_seg dksL_law_0 24 rfl rfl
theorem dksL_law_2 : cL_law.data.toList.drop 33 = dktL_law_2 := dk_seg dksL_law_1 9 rfl rfl
theorem dksL_law_3 : cL_law.data.toList.drop 68 = dktL_law_3 := dk_seg dksL_law_2 35 rfl rfl
theorem dksL_law_4 : cL_law.data.toList.drop 92 = dktL_law_4 := dk_seg dksL_law_3 24 rfl rfl
theorem dksL_law_5 : cL_law.data.toList.drop 116 = dktL_law_5 := dk_seg dksL_law_4 24 rfl rfl
theorem dksL_law_6 : cL_law.data.toList.drop 140 = dktL_law_6 := dk_seg dksL_law_5 24 rfl rfl
theorem dksL_law_7 : cL_law.data.toList.drop 164 = dktL_law_7 := dk_seg dksL_law_6 24 rfl rfl
theorem dksL_law_8 : cL_law.data.toList.drop 188 = dktL_law_8 := dk_seg dksL_law_7 24 rfl rfl
theorem dL_law_0 : decode cL_law 0 = .ok (.new 7, 3) := dk_187 0 7 (dk_at dksL_law_0 0 rfl rfl)
theorem dL_law_3 : decode cL_law 3 = .ok (.dup, 1) := dk_89 (dk_at dksL_law_0 3 rfl rfl)
theorem dL_law_4 : decode cL_law 4 = .ok (.invokespecial 9, 3) := dk_183 0 9 (dk_at dksL_law_0 4 rfl rfl)
theorem dL_law_7 : decode cL_law 7 = .ok (.astore_n 1, 1) := dk_76 (dk_at dksL_law_0 7 rfl rfl)
theorem dL_law_8 : decode cL_law 8 = .ok (.new 10, 3) := dk_187 0 10 (dk_at dksL_law_0 8 rfl rfl)
theorem dL_law_11 : decode cL_law 11 = .ok (.dup, 1) := dk_89 (dk_at dksL_law_0 11 rfl rfl)
theorem dL_law_12 : decode cL_law 12 = .ok (.invokespecial 12, 3) := dk_183 0 12 (dk_at dksL_law_0 12 rfl rfl)
theorem dL_law_15 : decode cL_law 15 = .ok (.astore_n 2, 1) := dk_77 (dk_at dksL_law_0 15 rfl rfl)
theorem dL_law_16 : decode cL_law 16 = .ok (.iconst 0, 1) := dk_3 (dk_at dksL_law_0 16 rfl rfl)
theorem dL_law_17 : decode cL_law 17 = .ok (.istore_n 3, 1) := dk_62 (dk_at dksL_law_0 17 rfl rfl)
theorem dL_law_18 : decode cL_law 18 = .ok (.iload_n 3, 1) := dk_29 (dk_at dksL_law_0 18 rfl rfl)
theorem dL_law_19 : decode cL_law 19 = .ok (.aload_n 0, 1) := dk_42 (dk_at dksL_law_0 19 rfl rfl)
theorem dL_law_20 : decode cL_law 20 = .ok (.arraylength, 1) := dk_190 (dk_at dksL_law_0 20 rfl rfl)
theorem dL_law_21 : decode cL_law 21 = .ok (.bipush 6, 2) := dk_16 6 (dk_at dksL_law_0 21 rfl rfl)
theorem dL_law_23 : decode cL_law 23 = .ok (.isub, 1) := dk_100 (dk_at dksL_law_0 23 rfl rfl)
theorem dL_law_24 : decode cL_law 24 = .ok (.if_icmp .gt 179, 3) := dk_163 0 179 (dk_at dksL_law_1 0 rfl rfl)
theorem dL_law_27 : decode cL_law 27 = .ok (.aload_n 0, 1) := dk_42 (dk_at dksL_law_1 3 rfl rfl)
theorem dL_law_28 : decode cL_law 28 = .ok (.iload_n 3, 1) := dk_29 (dk_at dksL_law_1 4 rfl rfl)
theorem dL_law_29 : decode cL_law 29 = .ok (.iaload, 1) := dk_46 (dk_at dksL_law_1 5 rfl rfl)
theorem dL_law_30 : decode cL_law 30 = .ok (.bipush 15, 2) := dk_16 15 (dk_at dksL_law_1 6 rfl rfl)
theorem dL_law_32 : decode cL_law 32 = .ok (.iand, 1) := dk_126 (dk_at dksL_law_1 8 rfl rfl)
theorem dL_law_33 : decode cL_law 33 = .ok (.tableswitch 164 0 4 #[35, 96, 107, 118, 141], 35) := by decide +kernel
theorem dL_law_68 : decode cL_law 68 = .ok (.aload_n 1, 1) := dk_43 (dk_at dksL_law_3 0 rfl rfl)
theorem dL_law_69 : decode cL_law 69 = .ok (.aload_n 0, 1) := dk_42 (dk_at dksL_law_3 1 rfl rfl)
theorem dL_law_70 : decode cL_law 70 = .ok (.iload_n 3, 1) := dk_29 (dk_at dksL_law_3 2 rfl rfl)
theorem dL_law_71 : decode cL_law 71 = .ok (.iconst 1, 1) := dk_4 (dk_at dksL_law_3 3 rfl rfl)
theorem dL_law_72 : decode cL_law 72 = .ok (.iadd, 1) := dk_96 (dk_at dksL_law_3 4 rfl rfl)
theorem dL_law_73 : decode cL_law 73 = .ok (.iaload, 1) := dk_46 (dk_at dksL_law_3 5 rfl rfl)
theorem dL_law_74 : decode cL_law 74 = .ok (.aload_n 0, 1) := dk_42 (dk_at dksL_law_3 6 rfl rfl)
theorem dL_law_75 : decode cL_law 75 = .ok (.iload_n 3, 1) := dk_29 (dk_at dksL_law_3 7 rfl rfl)
theorem dL_law_76 : decode cL_law 76 = .ok (.iconst 2, 1) := dk_5 (dk_at dksL_law_3 8 rfl rfl)
theorem dL_law_77 : decode cL_law 77 = .ok (.iadd, 1) := dk_96 (dk_at dksL_law_3 9 rfl rfl)
theorem dL_law_78 : decode cL_law 78 = .ok (.iaload, 1) := dk_46 (dk_at dksL_law_3 10 rfl rfl)
theorem dL_law_79 : decode cL_law 79 = .ok (.aload_n 0, 1) := dk_42 (dk_at dksL_law_3 11 rfl rfl)
theorem dL_law_80 : decode cL_law 80 = .ok (.iload_n 3, 1) := dk_29 (dk_at dksL_law_3 12 rfl rfl)
theorem dL_law_81 : decode cL_law 81 = .ok (.iconst 3, 1) := dk_6 (dk_at dksL_law_3 13 rfl rfl)
theorem dL_law_82 : decode cL_law 82 = .ok (.iadd, 1) := dk_96 (dk_at dksL_law_3 14 rfl rfl)
theorem dL_law_83 : decode cL_law 83 = .ok (.iaload, 1) := dk_46 (dk_at dksL_law_3 15 rfl rfl)
theorem dL_law_84 : decode cL_law 84 = .ok (.aload_n 0, 1) := dk_42 (dk_at dksL_law_3 16 rfl rfl)
theorem dL_law_85 : decode cL_law 85 = .ok (.iload_n 3, 1) := dk_29 (dk_at dksL_law_3 17 rfl rfl)
theorem dL_law_86 : decode cL_law 86 = .ok (.iconst 4, 1) := dk_7 (dk_at dksL_law_3 18 rfl rfl)
theorem dL_law_87 : decode cL_law 87 = .ok (.iadd, 1) := dk_96 (dk_at dksL_law_3 19 rfl rfl)
theorem dL_law_88 : decode cL_law 88 = .ok (.iaload, 1) := dk_46 (dk_at dksL_law_3 20 rfl rfl)
theorem dL_law_89 : decode cL_law 89 = .ok (.aload_n 0, 1) := dk_42 (dk_at dksL_law_3 21 rfl rfl)
theorem dL_law_90 : decode cL_law 90 = .ok (.iload_n 3, 1) := dk_29 (dk_at dksL_law_3 22 rfl rfl)
theorem dL_law_91 : decode cL_law 91 = .ok (.iconst 5, 1) := dk_8 (dk_at dksL_law_3 23 rfl rfl)
theorem dL_law_92 : decode cL_law 92 = .ok (.iadd, 1) := dk_96 (dk_at dksL_law_4 0 rfl rfl)
theorem dL_law_93 : decode cL_law 93 = .ok (.iaload, 1) := dk_46 (dk_at dksL_law_4 1 rfl rfl)
theorem dL_law_94 : decode cL_law 94 = .ok (.invokevirtual 13, 3) := dk_182 0 13 (dk_at dksL_law_4 2 rfl rfl)
theorem dL_law_97 : decode cL_law 97 = .ok (.aload_n 2, 1) := dk_44 (dk_at dksL_law_4 5 rfl rfl)
theorem dL_law_98 : decode cL_law 98 = .ok (.aload_n 0, 1) := dk_42 (dk_at dksL_law_4 6 rfl rfl)
theorem dL_law_99 : decode cL_law 99 = .ok (.iload_n 3, 1) := dk_29 (dk_at dksL_law_4 7 rfl rfl)
theorem dL_law_100 : decode cL_law 100 = .ok (.iconst 1, 1) := dk_4 (dk_at dksL_law_4 8 rfl rfl)
theorem dL_law_101 : decode cL_law 101 = .ok (.iadd, 1) := dk_96 (dk_at dksL_law_4 9 rfl rfl)
theorem dL_law_102 : decode cL_law 102 = .ok (.iaload, 1) := dk_46 (dk_at dksL_law_4 10 rfl rfl)
theorem dL_law_103 : decode cL_law 103 = .ok (.aload_n 0, 1) := dk_42 (dk_at dksL_law_4 11 rfl rfl)
theorem dL_law_104 : decode cL_law 104 = .ok (.iload_n 3, 1) := dk_29 (dk_at dksL_law_4 12 rfl rfl)
theorem dL_law_105 : decode cL_law 105 = .ok (.iconst 2, 1) := dk_5 (dk_at dksL_law_4 13 rfl rfl)
theorem dL_law_106 : decode cL_law 106 = .ok (.iadd, 1) := dk_96 (dk_at dksL_law_4 14 rfl rfl)
theorem dL_law_107 : decode cL_law 107 = .ok (.iaload, 1) := dk_46 (dk_at dksL_law_4 15 rfl rfl)
theorem dL_law_108 : decode cL_law 108 = .ok (.aload_n 0, 1) := dk_42 (dk_at dksL_law_4 16 rfl rfl)
theorem dL_law_109 : decode cL_law 109 = .ok (.iload_n 3, 1) := dk_29 (dk_at dksL_law_4 17 rfl rfl)
theorem dL_law_110 : decode cL_law 110 = .ok (.iconst 3, 1) := dk_6 (dk_at dksL_law_4 18 rfl rfl)
theorem dL_law_111 : decode cL_law 111 = .ok (.iadd, 1) := dk_96 (dk_at dksL_law_4 19 rfl rfl)
theorem dL_law_112 : decode cL_law 112 = .ok (.iaload, 1) := dk_46 (dk_at dksL_law_4 20 rfl rfl)
theorem dL_law_113 : decode cL_law 113 = .ok (.aload_n 0, 1) := dk_42 (dk_at dksL_law_4 21 rfl rfl)
theorem dL_law_114 : decode cL_law 114 = .ok (.iload_n 3, 1) := dk_29 (dk_at dksL_law_4 22 rfl rfl)
theorem dL_law_115 : decode cL_law 115 = .ok (.iconst 4, 1) := dk_7 (dk_at dksL_law_4 23 rfl rfl)
theorem dL_law_116 : decode cL_law 116 = .ok (.iadd, 1) := dk_96 (dk_at dksL_law_5 0 rfl rfl)
theorem dL_law_117 : decode cL_law 117 = .ok (.iaload, 1) := dk_46 (dk_at dksL_law_5 1 rfl rfl)
theorem dL_law_118 : decode cL_law 118 = .ok (.aload_n 0, 1) := dk_42 (dk_at dksL_law_5 2 rfl rfl)
theorem dL_law_119 : decode cL_law 119 = .ok (.iload_n 3, 1) := dk_29 (dk_at dksL_law_5 3 rfl rfl)
theorem dL_law_120 : decode cL_law 120 = .ok (.iconst 5, 1) := dk_8 (dk_at dksL_law_5 4 rfl rfl)
theorem dL_law_121 : decode cL_law 121 = .ok (.iadd, 1) := dk_96 (dk_at dksL_law_5 5 rfl rfl)
theorem dL_law_122 : decode cL_law 122 = .ok (.iaload, 1) := dk_46 (dk_at dksL_law_5 6 rfl rfl)
theorem dL_law_123 : decode cL_law 123 = .ok (.invokevirtual 17, 3) := dk_182 0 17 (dk_at dksL_law_5 7 rfl rfl)
theorem dL_law_126 : decode cL_law 126 = .ok (.goto 71, 3) := dk_167 0 71 (dk_at dksL_law_5 10 rfl rfl)
theorem dL_law_129 : decode cL_law 129 = .ok (.aload_n 1, 1) := dk_43 (dk_at dksL_law_5 13 rfl rfl)
theorem dL_law_130 : decode cL_law 130 = .ok (.invokevirtual 18, 3) := dk_182 0 18 (dk_at dksL_law_5 14 rfl rfl)
theorem dL_law_133 : decode cL_law 133 = .ok (.aload_n 2, 1) := dk_44 (dk_at dksL_law_5 17 rfl rfl)
theorem dL_law_134 : decode cL_law 134 = .ok (.invokevirtual 21, 3) := dk_182 0 21 (dk_at dksL_law_5 18 rfl rfl)
theorem dL_law_137 : decode cL_law 137 = .ok (.goto 60, 3) := dk_167 0 60 (dk_at dksL_law_5 21 rfl rfl)
theorem dL_law_140 : decode cL_law 140 = .ok (.aload_n 1, 1) := dk_43 (dk_at dksL_law_6 0 rfl rfl)
theorem dL_law_141 : decode cL_law 141 = .ok (.invokevirtual 22, 3) := dk_182 0 22 (dk_at dksL_law_6 1 rfl rfl)
theorem dL_law_144 : decode cL_law 144 = .ok (.aload_n 2, 1) := dk_44 (dk_at dksL_law_6 4 rfl rfl)
theorem dL_law_145 : decode cL_law 145 = .ok (.invokevirtual 25, 3) := dk_182 0 25 (dk_at dksL_law_6 5 rfl rfl)
theorem dL_law_148 : decode cL_law 148 = .ok (.goto 49, 3) := dk_167 0 49 (dk_at dksL_law_6 8 rfl rfl)
theorem dL_law_151 : decode cL_law 151 = .ok (.aload_n 1, 1) := dk_43 (dk_at dksL_law_6 11 rfl rfl)
theorem dL_law_152 : decode cL_law 152 = .ok (.aload_n 0, 1) := dk_42 (dk_at dksL_law_6 12 rfl rfl)
theorem dL_law_153 : decode cL_law 153 = .ok (.iload_n 3, 1) := dk_29 (dk_at dksL_law_6 13 rfl rfl)
theorem dL_law_154 : decode cL_law 154 = .ok (.iconst 1, 1) := dk_4 (dk_at dksL_law_6 14 rfl rfl)
theorem dL_law_155 : decode cL_law 155 = .ok (.iadd, 1) := dk_96 (dk_at dksL_law_6 15 rfl rfl)
theorem dL_law_156 : decode cL_law 156 = .ok (.iaload, 1) := dk_46 (dk_at dksL_law_6 16 rfl rfl)
theorem dL_law_157 : decode cL_law 157 = .ok (.invokevirtual 26, 3) := dk_182 0 26 (dk_at dksL_law_6 17 rfl rfl)
theorem dL_law_160 : decode cL_law 160 = .ok (.aload_n 2, 1) := dk_44 (dk_at dksL_law_6 20 rfl rfl)
theorem dL_law_161 : decode cL_law 161 = .ok (.aload_n 0, 1) := dk_42 (dk_at dksL_law_6 21 rfl rfl)
theorem dL_law_162 : decode cL_law 162 = .ok (.iload_n 3, 1) := dk_29 (dk_at dksL_law_6 22 rfl rfl)
theorem dL_law_163 : decode cL_law 163 = .ok (.iconst 1, 1) := dk_4 (dk_at dksL_law_6 23 rfl rfl)
theorem dL_law_164 : decode cL_law 164 = .ok (.iadd, 1) := dk_96 (dk_at dksL_law_7 0 rfl rfl)
theorem dL_law_165 : decode cL_law 165 = .ok (.iaload, 1) := dk_46 (dk_at dksL_law_7 1 rfl rfl)
theorem dL_law_166 : decode cL_law 166 = .ok (.invokevirtual 30, 3) := dk_182 0 30 (dk_at dksL_law_7 2 rfl rfl)
theorem dL_law_169 : decode cL_law 169 = .ok (.if_icmp .eq 28, 3) := dk_159 0 28 (dk_at dksL_law_7 5 rfl rfl)
theorem dL_law_172 : decode cL_law 172 = .ok (.iconst 0, 1) := dk_3 (dk_at dksL_law_7 8 rfl rfl)
theorem dL_law_173 : decode cL_law 173 = .ok (.ireturn, 1) := dk_172 (dk_at dksL_law_7 9 rfl rfl)
theorem dL_law_174 : decode cL_law 174 = .ok (.aload_n 1, 1) := dk_43 (dk_at dksL_law_7 10 rfl rfl)
theorem dL_law_175 : decode cL_law 175 = .ok (.aload_n 0, 1) := dk_42 (dk_at dksL_law_7 11 rfl rfl)
theorem dL_law_176 : decode cL_law 176 = .ok (.iload_n 3, 1) := dk_29 (dk_at dksL_law_7 12 rfl rfl)
theorem dL_law_177 : decode cL_law 177 = .ok (.iconst 1, 1) := dk_4 (dk_at dksL_law_7 13 rfl rfl)
theorem dL_law_178 : decode cL_law 178 = .ok (.iadd, 1) := dk_96 (dk_at dksL_law_7 14 rfl rfl)
theorem dL_law_179 : decode cL_law 179 = .ok (.iaload, 1) := dk_46 (dk_at dksL_law_7 15 rfl rfl)
theorem dL_law_180 : decode cL_law 180 = .ok (.invokevirtual 31, 3) := dk_182 0 31 (dk_at dksL_law_7 16 rfl rfl)
theorem dL_law_183 : decode cL_law 183 = .ok (.aload_n 2, 1) := dk_44 (dk_at dksL_law_7 19 rfl rfl)
theorem dL_law_184 : decode cL_law 184 = .ok (.aload_n 0, 1) := dk_42 (dk_at dksL_law_7 20 rfl rfl)
theorem dL_law_185 : decode cL_law 185 = .ok (.iload_n 3, 1) := dk_29 (dk_at dksL_law_7 21 rfl rfl)
theorem dL_law_186 : decode cL_law 186 = .ok (.iconst 1, 1) := dk_4 (dk_at dksL_law_7 22 rfl rfl)
theorem dL_law_187 : decode cL_law 187 = .ok (.iadd, 1) := dk_96 (dk_at dksL_law_7 23 rfl rfl)
theorem dL_law_188 : decode cL_law 188 = .ok (.iaload, 1) := dk_46 (dk_at dksL_law_8 0 rfl rfl)
theorem dL_law_189 : decode cL_law 189 = .ok (.invokevirtual 35, 3) := dk_182 0 35 (dk_at dksL_law_8 1 rfl rfl)
theorem dL_law_192 : decode cL_law 192 = .ok (.if_icmp .eq 5, 3) := dk_159 0 5 (dk_at dksL_law_8 4 rfl rfl)
theorem dL_law_195 : decode cL_law 195 = .ok (.iconst 0, 1) := dk_3 (dk_at dksL_law_8 7 rfl rfl)
theorem dL_law_196 : decode cL_law 196 = .ok (.ireturn, 1) := dk_172 (dk_at dksL_law_8 8 rfl rfl)
theorem dL_law_197 : decode cL_law 197 = .ok (.iinc 3 6, 3) := dk_132 3 6 (dk_at dksL_law_8 9 rfl rfl)
theorem dL_law_200 : decode cL_law 200 = .ok (.goto (-182), 3) := dk_167 255 74 (dk_at dksL_law_8 12 rfl rfl)
theorem dL_law_203 : decode cL_law 203 = .ok (.iconst 1, 1) := dk_4 (dk_at dksL_law_8 15 rfl rfl)
theorem dL_law_204 : decode cL_law 204 = .ok (.ireturn, 1) := dk_172 (dk_at dksL_law_8 16 rfl rfl)
end
section
theorem wb_tb (n : Nat) : (lN n).toBitVec = BitVec.ofNat 64 n := rfl
theorem wb_inj {a b : Int64} (h : a.toBitVec = b.toBitVec) : a = b := Int64.toBitVec_inj.mp h
theorem wb_tn {n : Nat} (h : n < 2 ^ 64) : (lN n).toBitVec.toNat = n := by rw [wb_tb, BitVec.toNat_ofNat, Nat.mod_eq_of_lt h]
theorem wb_of (x : Int64) : ∃ n, n < 2 ^ 64 ∧ x = lN n := ⟨x.toBitVec.toNat, x.toBitVec.isLt, wb_inj (by rw [wb_tb]; simp)⟩
theorem wb_of32 (x : Int32) : ∃ n, n < 2 ^ 32 ∧ x = nI n := ⟨x.toBitVec.toNat, x.toBitVec.isLt, Int32.toBitVec_inj.mp (by show _ = BitVec.ofNat 32 _; simp)⟩
theorem wb_c : ∀ k, k < 64 → ((nI k).toInt64 &&& 63) = lN k := by decide +kernel
theorem wb_cu : ∀ k, k < 64 → ((nI k).toInt64.toUInt64 &&& Int64.toUInt64 63) = UInt64.ofNat k := by decide +kernel
theorem wb_sm : ∀ k, k < 64 → (BitVec.ofNat 64 k).smod 64 = BitVec.ofNat 64 k := by decide +kernel
theorem wb_pw {a b : Nat} (h : a ≤ b) : 2 ^ b = 2 ^ a * 2 ^ (b - a) := by rw [← Nat.pow_add]; congr 1; omega
theorem wb_lt2 {a b : Nat} (h : a < b) : 2 ^ a < 2 ^ b := Nat.pow_lt_pow_right (by decide) h
theorem wb_mod (n : Nat) : lN n = lN (n % 2 ^ 64) := wb_inj (by rw [wb_tb, wb_tb]; apply BitVec.eq_of_toNat_eq; rw [BitVec.toNat_ofNat, BitVec.toNat_ofNat, Nat.mod_mod])
theorem wb_shr {n k : Nat} (hn : n < 2 ^ 64) (hk : k < 64) : ((lN n).toUInt64 >>> ((nI k).toInt64.toUInt64 &&& Int64.toUInt64 63)).toInt64 = lN (n / 2 ^ k) := by
  rw [wb_cu k hk]
  apply wb_inj
  apply BitVec.eq_of_toNat_eq
  show ((lN n).toUInt64 >>> UInt64.ofNat k).toNat = (BitVec.ofNat 64 _).toNat
  have h1 : (UInt64.ofNat k).toNat = k := by
    show (BitVec.ofNat 64 k).toNat = k
    rw [BitVec.toNat_ofNat, Nat.mod_eq_of_lt (by omega)]
  have h2 : (lN n).toUInt64.toNat = n := wb_tn hn
  rw [UInt64.toNat_shiftRight, h1, h2, Nat.mod_eq_of_lt hk, Nat.shiftRight_eq_div_pow, BitVec.toNat_ofNat, Nat.mod_eq_of_lt (Nat.lt_of_le_of_lt (Nat.div_le_self _ _) hn)]
theorem wb_shl (n : Nat) {k : Nat} (hk : k < 64) : lN n <<< ((nI k).toInt64 &&& 63) = lN (n * 2 ^ k) := by
  rw [wb_c k hk]
  apply wb_inj
  rw [Int64.toBitVec_shiftLeft, wb_tb, wb_tb, wb_tb, wb_sm k hk]
  apply BitVec.eq_of_toNat_eq
  rw [BitVec.shiftLeft_eq', BitVec.toNat_shiftLeft, BitVec.toNat_ofNat, BitVec.toNat_ofNat, BitVec.toNat_ofNat, Nat.mod_eq_of_lt (show k < 2 ^ 64 by omega), Nat.shiftLeft_eq, Nat.mul_mod, Nat.mod_mod, ← Nat.mul_mod]
theorem wb_and {a b : Nat} (ha : a < 2 ^ 64) (hb : b < 2 ^ 64) : lN a &&& lN b = lN (a &&& b) := by
  apply wb_inj
  rw [Int64.toBitVec_and, wb_tb, wb_tb, wb_tb]
  apply BitVec.eq_of_toNat_eq
  rw [BitVec.toNat_and, BitVec.toNat_ofNat, BitVec.toNat_ofNat, BitVec.toNat_ofNat, Nat.mod_eq_of_lt ha, Nat.mod_eq_of_lt hb, Nat.mod_eq_of_lt (Nat.and_lt_two_pow _ hb)]
theorem wb_or {a b : Nat} (ha : a < 2 ^ 64) (hb : b < 2 ^ 64) : lN a ||| lN b = lN (a ||| b) := by
  apply wb_inj
  rw [Int64.toBitVec_or, wb_tb, wb_tb, wb_tb]
  apply BitVec.eq_of_toNat_eq
  rw [BitVec.toNat_or, BitVec.toNat_ofNat, BitVec.toNat_ofNat, BitVec.toNat_ofNat, Nat.mod_eq_of_lt ha, Nat.mod_eq_of_lt hb, Nat.mod_eq_of_lt (Nat.or_lt_two_pow ha hb)]
theorem wb_mask {n k : Nat} (hn : n < 2 ^ 64) (hk : k < 64) : lN n &&& lN (2 ^ k - 1) = lN (n % 2 ^ k) := by
  rw [wb_and hn (by have := wb_lt2 hk; omega), Nat.and_two_pow_sub_one_eq_mod]
theorem wb_a1 {n : Nat} (hn : n < 2 ^ 64) : lN n &&& 1 = lN (n % 2) := wb_mask (k := 1) hn (by decide)
theorem u_tn {n : Nat} (h : n < 2 ^ 64) : (UInt64.ofNat n).toNat = n := Nat.mod_eq_of_lt h
theorem g_and {a b c : Nat} (ha : a < 2 ^ 64) (hb : b < 2 ^ 64) (hc : a &&& b = c) : lN a &&& lN b = lN c := by
  subst hc
  have h : UInt64.ofNat a &&& UInt64.ofNat b = UInt64.ofNat (a &&& b) := UInt64.toNat_inj.mp (by rw [UInt64.toNat_and, u_tn ha, u_tn hb, u_tn (Nat.and_lt_two_pow a hb)])
  have h2 := congrArg UInt64.toInt64 h
  exact h2
theorem g_and1 {a : Nat} (ha : a < 2 ^ 64) : lN a &&& 1 = lN (a % 2) := g_and (b := 1) ha (by decide) (Nat.and_two_pow_sub_one_eq_mod a 1)
theorem g_mask {a s p : Nat} (hp : 2 ^ s = p) (hs : s < 64) (ha : a < 2 ^ 64) : lN a &&& lN (p - 1) = lN (a % p) := by
  subst hp
  have := Nat.pow_lt_pow_right (show 1 < 2 by decide) hs
  exact g_and ha (by omega) (Nat.and_two_pow_sub_one_eq_mod a s)
theorem g_or {k p a b : Nat} (hp : 2 ^ k = p) (ha : a < p) (h : b * p + a < 2 ^ 64) : lN (b * p) ||| lN a = lN (b * p + a) := by
  subst hp
  have h1 : b * 2 ^ k ||| a = b * 2 ^ k + a := by rw [← Nat.shiftLeft_eq, Nat.shiftLeft_add_eq_or_of_lt ha]
  have h3 : UInt64.ofNat (b * 2 ^ k) ||| UInt64.ofNat a = UInt64.ofNat (b * 2 ^ k + a) := UInt64.toNat_inj.mp (by rw [UInt64.toNat_or, u_tn (by omega), u_tn (by omega), u_tn h, h1])
  have h2 := congrArg UInt64.toInt64 h3
  exact h2
theorem g_or' {k p a b : Nat} (hp : 2 ^ k = p) (ha : a < p) (h : a + b * p < 2 ^ 64) : lN a ||| lN (b * p) = lN (a + b * p) := by
  rw [Int64.or_comm, g_or hp ha (by omega), Nat.add_comm]
theorem g_ushr {a k p : Nat} {y : UInt64} (hy : y = UInt64.ofNat k) (hk : k < 64) (hp : 2 ^ k = p) (ha : a < 2 ^ 64) : ((lN a).toUInt64 >>> y).toInt64 = lN (a / p) := by
  subst hy hp
  have h : UInt64.ofNat a >>> UInt64.ofNat k = UInt64.ofNat (a / 2 ^ k) := UInt64.toNat_inj.mp (by rw [UInt64.toNat_shiftRight, u_tn ha, u_tn (by omega), u_tn (Nat.lt_of_le_of_lt (Nat.div_le_self _ _) ha), Nat.mod_eq_of_lt hk, Nat.shiftRight_eq_div_pow])
  have h2 := congrArg UInt64.toInt64 h
  exact h2
/-! ===== longs as integers ===== -/
def zI (v : Int) : Int64 := Int64.ofInt v
theorem zI_sub (a b : Int) : zI a - zI b = zI (a - b) := (Int64.ofInt_sub a b).symm
theorem zI_add (a b : Int) : zI a + zI b = zI (a + b) := (Int64.ofInt_add a b).symm
theorem zI_mul (a b : Int) : zI a * zI b = zI (a * b) := (Int64.ofInt_mul a b).symm
theorem zI_toInt {v : Int} (h : -9223372036854775808 ≤ v) (h2 : v < 9223372036854775808) : (zI v).toInt = v := Int64.toInt_ofInt_of_le h h2
theorem zI_of (x : Int64) : zI x.toInt = x := Int64.ofInt_toInt x
theorem zI_nat (n : Nat) : zI (n : Int) = lN n := by
  apply Int64.toBitVec_inj.mp
  apply BitVec.eq_of_toNat_eq
  show (BitVec.ofInt 64 (n : Int)).toNat = (BitVec.ofNat 64 n).toNat
  rw [BitVec.toNat_ofInt, BitVec.toNat_ofNat]
  omega
theorem zI_shr28 {v : Int} (h : -9223372036854775808 ≤ v) (h2 : v < 9223372036854775808) : zI v >>> ((28 : Int32).toInt64 &&& 63) = zI (v / 268435456) := by
  apply Int64.toInt_inj.mp
  have e : (zI v >>> ((28 : Int32).toInt64 &&& 63)).toInt = v / 268435456 := by
    show ((zI v).toBitVec.sshiftRight (((28 : Int32).toInt64 &&& 63).toBitVec.smod 64).toNat).toInt = _
    rw [show (((28 : Int32).toInt64 &&& 63).toBitVec.smod 64).toNat = 28 by decide +kernel, BitVec.toInt_sshiftRight]
    show (zI v).toInt >>> 28 = _
    rw [zI_toInt h h2, Int.shiftRight_eq_div_pow]
    rfl
  rw [e, zI_toInt (by omega) (by omega)]
theorem zI_and28 (v : Int) : zI v &&& 268435455 = zI (v % 268435456) := by
  apply Int64.toBitVec_inj.mp
  apply BitVec.eq_of_toNat_eq
  rw [Int64.toBitVec_and, BitVec.toNat_and]
  show (BitVec.ofInt 64 v).toNat &&& (2 ^ 28 - 1) = (BitVec.ofInt 64 (v % 268435456)).toNat
  rw [Nat.and_two_pow_sub_one_eq_mod, BitVec.toNat_ofInt, BitVec.toNat_ofInt]
  omega
theorem zI_and32 (v : Int) : zI v &&& 4294967295 = zI (v % 4294967296) := by
  apply Int64.toBitVec_inj.mp
  apply BitVec.eq_of_toNat_eq
  rw [Int64.toBitVec_and, BitVec.toNat_and]
  show (BitVec.ofInt 64 v).toNat &&& (2 ^ 32 - 1) = (BitVec.ofInt 64 (v % 4294967296)).toNat
  rw [Nat.and_two_pow_sub_one_eq_mod, BitVec.toNat_ofInt, BitVec.toNat_ofInt]
  omega
theorem zI_and8 (v : Int) : zI v &&& 255 = zI (v % 256) := by
  apply Int64.toBitVec_inj.mp
  apply BitVec.eq_of_toNat_eq
  rw [Int64.toBitVec_and, BitVec.toNat_and]
  show (BitVec.ofInt 64 v).toNat &&& (2 ^ 8 - 1) = (BitVec.ofInt 64 (v % 256)).toNat
  rw [Nat.and_two_pow_sub_one_eq_mod, BitVec.toNat_ofInt, BitVec.toNat_ofInt]
  omega
theorem zI_i2l (x : Int32) : x.toInt64 = zI x.toInt := by
  rw [← Int32.toInt_toInt64, zI_of]
/-- the unsigned value of an int -/
def uI (x : Int32) : Nat := x.toBitVec.toNat
theorem uI_lt (x : Int32) : uI x < 4294967296 := x.toBitVec.isLt
theorem uI_nI {n : Nat} (h : n < 4294967296) : uI (nI n) = n := pk_tn h
theorem uI_int (x : Int32) : x.toInt % 4294967296 = (uI x : Int) := by
  have h := BitVec.toInt_eq_toNat_cond x.toBitVec
  have h2 : x.toBitVec.toInt = x.toInt := rfl
  have h3 := uI_lt x
  rw [h2] at h
  show _ = ((x.toBitVec.toNat : Nat) : Int)
  have h4 : x.toBitVec.toNat < 4294967296 := h3
  split at h <;> omega
theorem nI_uI (x : Int32) : nI (uI x) = x := by
  apply Int32.toBitVec_inj.mp
  show BitVec.ofNat 32 x.toBitVec.toNat = x.toBitVec
  simp
/-- an int read as unsigned, made a long -/
theorem zI_un (x : Int32) : x.toInt64 &&& 4294967295 = zI (uI x : Int) := by
  rw [zI_i2l, zI_and32, uI_int]
/-- the byte of an int -/
def ub (x : Int32) : Nat := uI x % 256
theorem ub_lt (x : Int32) : ub x < 256 := Nat.mod_lt _ (by decide)
theorem zI_byte (x : Int32) : x.toInt64 &&& 255 = zI (ub x : Int) := by
  rw [zI_i2l, zI_and8]
  have h := uI_int x
  have e : x.toInt % 256 = (ub x : Int) := by
    unfold ub
    omega
  rw [e]
theorem zI_ushr27 {v : Int} (h : 0 ≤ v) (h2 : v < 9223372036854775808) : ((zI v).toUInt64 >>> ((27 : Int32).toInt64.toUInt64 &&& Int64.toUInt64 63)).toInt64 = zI (v / 134217728) := by
  obtain ⟨n, rfl⟩ : ∃ n : Nat, v = (n : Int) := ⟨v.toNat, by omega⟩
  have e := wb_shr (n := n) (k := 27) (by omega) (by decide)
  rw [zI_nat]
  refine Eq.trans e ?_
  rw [← zI_nat]
  rfl
theorem zI_l2i (n : Nat) : (zI (n : Int)).toInt32 = nI n := by
  rw [zI_nat, lN_i]
theorem zI_pack {a b : Nat} (ha : a < 268435456) (hb : b < 268435456) : zI (a : Int) ||| (zI (b : Int) <<< ((28 : Int32).toInt64 &&& 63)) = lN (a + b * 268435456) := by
  have e := wb_shl b (k := 28) (by decide)
  have e2 : lN b <<< ((28 : Int32).toInt64 &&& 63) = lN (b * 268435456) := e
  rw [zI_nat, zI_nat, e2]
  exact g_or' (k := 28) rfl ha (by omega)
theorem zk_0 : (-50998291 : Int64) = zI (-50998291) := by decide +kernel
theorem zk_1 : (19280294 : Int64) = zI 19280294 := by decide +kernel
theorem zk_2 : (127719000 : Int64) = zI 127719000 := by decide +kernel
theorem zk_3 : (-6428113 : Int64) = zI (-6428113) := by decide +kernel
theorem zk_4 : (5343 : Int64) = zI 5343 := by decide +kernel
/-- 'and' of a constant with 0 or -1 -/
theorem zn_0 {a : Int} (h : a = 0 ∨ a = -1) : zI a &&& (-50998291) = zI (-(a * (-50998291))) := by rcases h with rfl | rfl <;> decide +kernel
theorem zn_1 {a : Int} (h : a = 0 ∨ a = -1) : zI a &&& 19280294 = zI (-(a * 19280294)) := by rcases h with rfl | rfl <;> decide +kernel
theorem zn_2 {a : Int} (h : a = 0 ∨ a = -1) : zI a &&& 127719000 = zI (-(a * 127719000)) := by rcases h with rfl | rfl <;> decide +kernel
theorem zn_3 {a : Int} (h : a = 0 ∨ a = -1) : zI a &&& (-6428113) = zI (-(a * (-6428113))) := by rcases h with rfl | rfl <;> decide +kernel
theorem zn_4 {a : Int} (h : a = 0 ∨ a = -1) : zI a &&& 5343 = zI (-(a * 5343)) := by rcases h with rfl | rfl <;> decide +kernel
/-! ===== the limbs: folds and carries ===== -/
def zup (Y : Nat → Int) (k : Nat) (v : Int) : Nat → Int := fun i => if i = k then v else Y i
theorem zup_s {Y : Nat → Int} {k : Nat} {v : Int} : zup Y k v k = v := if_pos rfl
theorem zup_n {Y : Nat → Int} {k i : Nat} {v : Int} (h : i ≠ k) : zup Y k v i = Y i := if_neg h
def zfold (k : Nat) (Y : Nat → Int) : Nat → Int := zup (zup (zup (zup (zup Y (k - 9) (Y (k - 9) - Y k * (-50998291))) (k - 8) (Y (k - 8) - Y k * 19280294)) (k - 7) (Y (k - 7) - Y k * 127719000)) (k - 6) (Y (k - 6) - Y k * (-6428113))) (k - 5) (Y (k - 5) - Y k * 5343)
def zcar (i : Nat) (Y : Nat → Int) : Nat → Int := zup (zup Y (i + 1) (Y (i + 1) + Y i / 268435456)) i (Y i % 268435456)
def zrun : List (Bool × Nat) → (Nat → Int) → (Nat → Int)
  | [], Y => Y
  | (true, k) :: ms, Y => zrun ms (zfold k Y)
  | (false, i) :: ms, Y => zrun ms (zcar i Y)
def zfit (v : Int) : Prop := -9223372036854775808 ≤ v ∧ v < 9223372036854775808
def zok : List (Bool × Nat) → (Nat → Int) → Prop
  | [], _ => True
  | (true, k) :: ms, Y => zok ms (zfold k Y)
  | (false, i) :: ms, Y => zfit (Y i) ∧ zok ms (zcar i Y)
theorem zrun_app (a b : List (Bool × Nat)) : ∀ Y, zrun (a ++ b) Y = zrun b (zrun a Y) := by
  induction a with
  | nil => intro Y; rfl
  | cons q a ih =>
    intro Y
    obtain ⟨t, k⟩ := q
    cases t
    · exact ih (zcar k Y)
    · exact ih (zfold k Y)
/-- bounds of the limbs, by absolute value -/
def zin (Y : Nat → Int) (M : List Nat) : Prop := ∀ i, i < M.length → -((M.getD i 0 : Nat) : Int) ≤ Y i ∧ Y i ≤ ((M.getD i 0 : Nat) : Int)
theorem zin_set {Y : Nat → Int} {M : List Nat} (h : zin Y M) (k : Nat) (v : Int) (b : Nat) (h1 : -(b : Int) ≤ v) (h2 : v ≤ (b : Int)) : zin (zup Y k v) (M.set k b) := by
  intro i hi
  rw [List.length_set] at hi
  by_cases e : i = k
  · subst e
    rw [zup_s, List.getD_eq_getElem?_getD, List.getElem?_set_self hi]
    exact ⟨h1, h2⟩
  · rw [zup_n e, List.getD_eq_getElem?_getD, List.getElem?_set_ne (fun q => e q.symm), ← List.getD_eq_getElem?_getD]
    exact h i hi
def mfold (k : Nat) (M : List Nat) : List Nat := ((((M.set (k - 9) (M.getD (k - 9) 0 + M.getD k 0 * 50998291)).set (k - 8) (M.getD (k - 8) 0 + M.getD k 0 * 19280294)).set (k - 7) (M.getD (k - 7) 0 + M.getD k 0 * 127719000)).set (k - 6) (M.getD (k - 6) 0 + M.getD k 0 * 6428113)).set (k - 5) (M.getD (k - 5) 0 + M.getD k 0 * 5343)
def mcar (i : Nat) (M : List Nat) : List Nat := (M.set (i + 1) (M.getD (i + 1) 0 + M.getD i 0 / 268435456 + 1)).set i 268435455
def mrun : List (Bool × Nat) → List Nat → List Nat
  | [], M => M
  | (true, k) :: ms, M => mrun ms (mfold k M)
  | (false, i) :: ms, M => mrun ms (mcar i M)
def mok : List (Bool × Nat) → List Nat → Bool
  | [], _ => true
  | (true, k) :: ms, M => Nat.ble 9 k && Nat.blt k M.length && mok ms (mfold k M)
  | (false, i) :: ms, M => Nat.blt (i + 1) M.length && Nat.blt (M.getD i 0) 4611686018427387904 && mok ms (mcar i M)
theorem mfold_in {Y : Nat → Int} {M : List Nat} {k : Nat} (h : zin Y M) (h9 : 9 ≤ k) (hk : k < M.length) : zin (zfold k Y) (mfold k M) := by
  obtain ⟨a1, a2⟩ := h k hk
  obtain ⟨b1, b2⟩ := h (k - 9) (by omega)
  obtain ⟨c1, c2⟩ := h (k - 8) (by omega)
  obtain ⟨d1, d2⟩ := h (k - 7) (by omega)
  obtain ⟨e1, e2⟩ := h (k - 6) (by omega)
  obtain ⟨f1, f2⟩ := h (k - 5) (by omega)
  unfold zfold mfold
  refine zin_set (zin_set (zin_set (zin_set (zin_set h _ _ _ ?_ ?_) _ _ _ ?_ ?_) _ _ _ ?_ ?_) _ _ _ ?_ ?_) _ _ _ ?_ ?_ <;> omega
theorem mcar_in {Y : Nat → Int} {M : List Nat} {i : Nat} (h : zin Y M) (hi : i + 1 < M.length) : zin (zcar i Y) (mcar i M) := by
  obtain ⟨a1, a2⟩ := h i (by omega)
  obtain ⟨b1, b2⟩ := h (i + 1) hi
  unfold zcar mcar
  refine zin_set (zin_set h _ _ _ ?_ ?_) _ _ _ ?_ ?_ <;> omega
theorem mok_ok : ∀ (ms : List (Bool × Nat)) (Y : Nat → Int) (M : List Nat), zin Y M → mok ms M = true → zok ms Y ∧ zin (zrun ms Y) (mrun ms M) := by
  intro ms
  induction ms with
  | nil => intro Y M h _; exact ⟨trivial, h⟩
  | cons q ms ih =>
    intro Y M h hm
    obtain ⟨t, k⟩ := q
    cases t
    · have hm : (Nat.blt (k + 1) M.length && Nat.blt (M.getD k 0) 4611686018427387904 && mok ms (mcar k M)) = true := hm
      simp only [Bool.and_eq_true, Nat.blt_eq] at hm
      obtain ⟨⟨h1, h2⟩, h3⟩ := hm
      obtain ⟨g1, g2⟩ := ih (zcar k Y) (mcar k M) (mcar_in h h1) h3
      obtain ⟨a1, a2⟩ := h k (by omega)
      exact ⟨⟨⟨by omega, by omega⟩, g1⟩, g2⟩
    · have hm : (Nat.ble 9 k && Nat.blt k M.length && mok ms (mfold k M)) = true := hm
      simp only [Bool.and_eq_true, Nat.blt_eq, Nat.ble_eq] at hm
      obtain ⟨⟨h1, h2⟩, h3⟩ := hm
      exact ih (zfold k Y) (mfold k M) (mfold_in h h1 h2) h3
/-! ===== the value of the limbs ===== -/
def zV : Nat → (Nat → Int) → Int
  | 0, _ => 0
  | n + 1, Y => zV n Y + Y n * 268435456 ^ n
theorem zV_congr {Y Z : Nat → Int} : ∀ n, (∀ i, i < n → Y i = Z i) → zV n Y = zV n Z := by
  intro n
  induction n with
  | zero => intro _; rfl
  | succ n ih =>
    intro h
    show zV n Y + Y n * _ = zV n Z + Z n * _
    rw [ih (fun i hi => h i (by omega)), h n (by omega)]
theorem zV_up {Y : Nat → Int} {k : Nat} {v : Int} : ∀ n, k < n → zV n (zup Y k v) = zV n Y + (v - Y k) * 268435456 ^ k := by
  intro n
  induction n with
  | zero => intro h; omega
  | succ n ih =>
    intro h
    show zV n (zup Y k v) + zup Y k v n * _ = zV n Y + Y n * _ + _
    by_cases e : n = k
    · subst e
      rw [zup_s, zV_congr (Z := Y) n (fun i hi => zup_n (by omega))]
      rw [Int.sub_mul]
      omega
    · rw [ih (by omega), zup_n e]
      omega
def zL : Int := 7237005577332262213973186563042994240857116359379907606001950938285454250989
theorem zmm (a b c d : Int) : a * b * (c * d) = a * c * (b * d) := by
  rw [Int.mul_assoc, ← Int.mul_assoc b, Int.mul_comm b c, Int.mul_assoc c, ← Int.mul_assoc a]
theorem zV_fold {Y : Nat → Int} {j : Nat} : zV (j + 9) (zfold (j + 9) Y) = zV (j + 10) Y - Y (j + 9) * (268435456 ^ j * zL) := by
  unfold zfold
  have n1 : j + 9 - 9 = j := by omega
  have n2 : j + 9 - 8 = j + 1 := by omega
  have n3 : j + 9 - 7 = j + 2 := by omega
  have n4 : j + 9 - 6 = j + 3 := by omega
  have n5 : j + 9 - 5 = j + 4 := by omega
  rw [n1, n2, n3, n4, n5]
  rw [zV_up _ (by omega), zV_up _ (by omega), zV_up _ (by omega), zV_up _ (by omega), zV_up _ (by omega)]
  rw [zup_n (by omega : j + 4 ≠ j + 3), zup_n (by omega : j + 4 ≠ j + 2), zup_n (by omega : j + 4 ≠ j + 1), zup_n (by omega : j + 4 ≠ j)]
  rw [zup_n (by omega : j + 3 ≠ j + 2), zup_n (by omega : j + 3 ≠ j + 1), zup_n (by omega : j + 3 ≠ j)]
  rw [zup_n (by omega : j + 2 ≠ j + 1), zup_n (by omega : j + 2 ≠ j)]
  rw [zup_n (by omega : j + 1 ≠ j)]
  show _ = zV (j + 9) Y + Y (j + 9) * 268435456 ^ (j + 9) - _
  generalize Y (j + 9) = y
  have p1 : (268435456 : Int) ^ (j + 1) = 268435456 ^ j * 268435456 := Int.pow_succ _ _
  have p2 : (268435456 : Int) ^ (j + 2) = 268435456 ^ j * 72057594037927936 := by rw [Int.pow_add]; rfl
  have p3 : (268435456 : Int) ^ (j + 3) = 268435456 ^ j * 19342813113834066795298816 := by rw [Int.pow_add]; rfl
  have p4 : (268435456 : Int) ^ (j + 4) = 268435456 ^ j * 5192296858534827628530496329220096 := by rw [Int.pow_add]; rfl
  have p9 : (268435456 : Int) ^ (j + 9) = 268435456 ^ j * 7237005577332262213973186563042994240829374041602535252466099000494570602496 := by rw [Int.pow_add]; rfl
  rw [p1, p2, p3, p4, p9]
  generalize (268435456 : Int) ^ j = P
  unfold zL
  have e : ∀ a c : Int, (a - y * c - a) * P = -(y * P * c) := by
    intro a c
    rw [show a - y * c - a = -(y * c) by omega, Int.neg_mul, Int.mul_right_comm]
  have e2 : ∀ a c d : Int, (a - y * c - a) * (P * d) = -(y * P * (c * d)) := by
    intro a c d
    rw [show a - y * c - a = -(y * c) by omega, Int.neg_mul, zmm]
  rw [e, e2, e2, e2, e2, ← Int.mul_assoc y P, ← Int.mul_assoc y P]
  generalize y * P = w
  omega
theorem zV_car {Y : Nat → Int} {i n : Nat} (h : i + 1 < n) : zV n (zcar i Y) = zV n Y := by
  unfold zcar
  rw [zV_up _ (by omega), zV_up _ (by omega), zup_n (by omega : i ≠ i + 1), Int.pow_succ]
  generalize hq : Y i / 268435456 = q
  generalize hr : Y i % 268435456 = r
  have e : Y i = 268435456 * q + r := by omega
  rw [e]
  generalize (268435456 : Int) ^ i = P
  rw [show Y (i + 1) + q - Y (i + 1) = q by omega, show r - (268435456 * q + r) = -(268435456 * q) by omega, Int.neg_mul, show q * (P * 268435456) = 268435456 * q * P by rw [Int.mul_comm P, ← Int.mul_assoc, Int.mul_comm q]]
  omega
end
section
/-! ===== the reduction by the group's order: the limbs' law ===== -/
def vchk : List (Bool × Nat) → Nat → Option Nat
  | [], n => some n
  | (true, k) :: ms, n => if k + 1 = n ∧ 9 ≤ k then vchk ms k else none
  | (false, i) :: ms, n => if i + 1 < n then vchk ms n else none
theorem zV_run : ∀ (ms : List (Bool × Nat)) (n n' : Nat), vchk ms n = some n' → ∀ Y, ∃ K : Int, zV n' (zrun ms Y) = zV n Y - K * zL := by
  intro ms
  induction ms with
  | nil =>
    intro n n' h Y
    have h : some n = some n' := h
    cases h
    exact ⟨0, by show zV n Y = _; omega⟩
  | cons q ms ih =>
    intro n n' h Y
    obtain ⟨t, k⟩ := q
    cases t
    · have h : (if k + 1 < n then vchk ms n else none) = some n' := h
      by_cases c : k + 1 < n
      · rw [if_pos c] at h
        obtain ⟨K, e⟩ := ih n n' h (zcar k Y)
        exact ⟨K, by show zV n' (zrun ms (zcar k Y)) = _; rw [e, zV_car c]⟩
      · rw [if_neg c] at h
        cases h
    · have h : (if k + 1 = n ∧ 9 ≤ k then vchk ms k else none) = some n' := h
      by_cases c : k + 1 = n ∧ 9 ≤ k
      · rw [if_pos c] at h
        obtain ⟨K, e⟩ := ih k n' h (zfold k Y)
        obtain ⟨j, rfl⟩ : ∃ j, k = j + 9 := ⟨k - 9, by omega⟩
        obtain ⟨rfl, -⟩ := c
        refine ⟨K + Y (j + 9) * 268435456 ^ j, ?_⟩
        show zV n' (zrun ms (zfold (j + 9) Y)) = _
        rw [e, zV_fold, Int.add_mul, Int.mul_assoc]
        show zV (j + 10) Y - _ - _ = zV (j + 10) Y - _
        omega
      · rw [if_neg c] at h
        cases h
theorem zcar_lo {i j : Nat} {Y : Nat → Int} (h : j < i) : zcar i Y j = Y j := by
  unfold zcar
  rw [zup_n (by omega), zup_n (by omega)]
theorem zcar_hi {i j : Nat} {Y : Nat → Int} (h : i + 1 < j) : zcar i Y j = Y j := by
  unfold zcar
  rw [zup_n (by omega), zup_n (by omega)]
theorem zcar_at {i : Nat} {Y : Nat → Int} : zcar i Y i = Y i % 268435456 := zup_s
theorem zfold_hi {k j : Nat} {Y : Nat → Int} (h9 : 9 ≤ k) (h : k - 5 < j) : zfold k Y j = Y j := by
  unfold zfold
  rw [zup_n (by omega), zup_n (by omega), zup_n (by omega), zup_n (by omega), zup_n (by omega)]
def cs8 : List (Bool × Nat) := [(false, 0), (false, 1), (false, 2), (false, 3), (false, 4), (false, 5), (false, 6), (false, 7)]
theorem cs8_eq (Y : Nat → Int) : zrun cs8 Y = zcar 7 (zcar 6 (zcar 5 (zcar 4 (zcar 3 (zcar 2 (zcar 1 (zcar 0 Y))))))) := rfl
theorem cs8_V (Y : Nat → Int) : zV 9 (zrun cs8 Y) = zV 9 Y := by
  rw [cs8_eq, zV_car (by decide), zV_car (by decide), zV_car (by decide), zV_car (by decide), zV_car (by decide), zV_car (by decide), zV_car (by decide), zV_car (by decide)]
theorem cs8_hi {j : Nat} (Y : Nat → Int) (h : 9 ≤ j) : zrun cs8 Y j = Y j := by
  rw [cs8_eq, zcar_hi (by omega), zcar_hi (by omega), zcar_hi (by omega), zcar_hi (by omega), zcar_hi (by omega), zcar_hi (by omega), zcar_hi (by omega), zcar_hi (by omega)]
theorem zmodB (v : Int) : 0 ≤ v % 268435456 ∧ v % 268435456 < 268435456 := by omega
theorem cs8_lo (Y : Nat → Int) : ∀ i, i < 8 → 0 ≤ zrun cs8 Y i ∧ zrun cs8 Y i < 268435456 := by
  intro i hi
  rw [cs8_eq]
  have cases8 : i = 0 ∨ i = 1 ∨ i = 2 ∨ i = 3 ∨ i = 4 ∨ i = 5 ∨ i = 6 ∨ i = 7 := by omega
  rcases cases8 with rfl | rfl | rfl | rfl | rfl | rfl | rfl | rfl
  · rw [zcar_lo (by decide), zcar_lo (by decide), zcar_lo (by decide), zcar_lo (by decide), zcar_lo (by decide), zcar_lo (by decide), zcar_lo (by decide), zcar_at]; exact zmodB _
  · rw [zcar_lo (by decide), zcar_lo (by decide), zcar_lo (by decide), zcar_lo (by decide), zcar_lo (by decide), zcar_lo (by decide), zcar_at]; exact zmodB _
  · rw [zcar_lo (by decide), zcar_lo (by decide), zcar_lo (by decide), zcar_lo (by decide), zcar_lo (by decide), zcar_at]; exact zmodB _
  · rw [zcar_lo (by decide), zcar_lo (by decide), zcar_lo (by decide), zcar_lo (by decide), zcar_at]; exact zmodB _
  · rw [zcar_lo (by decide), zcar_lo (by decide), zcar_lo (by decide), zcar_at]; exact zmodB _
  · rw [zcar_lo (by decide), zcar_lo (by decide), zcar_at]; exact zmodB _
  · rw [zcar_lo (by decide), zcar_at]; exact zmodB _
  · rw [zcar_at]; exact zmodB _
theorem zV_norm {Y : Nat → Int} : ∀ n, (∀ i, i < n → 0 ≤ Y i ∧ Y i < 268435456) → 0 ≤ zV n Y ∧ zV n Y < 268435456 ^ n := by
  intro n
  induction n with
  | zero => intro _; exact ⟨Int.le_refl 0, by show (0 : Int) < 1; decide⟩
  | succ n ih =>
    intro h
    obtain ⟨a, b⟩ := ih (fun i hi => h i (by omega))
    obtain ⟨c, d⟩ := h n (by omega)
    show 0 ≤ zV n Y + Y n * 268435456 ^ n ∧ zV n Y + Y n * 268435456 ^ n < _
    rw [Int.pow_succ]
    have hP : (0 : Int) < 268435456 ^ n := Int.pow_pos (by decide)
    generalize (268435456 : Int) ^ n = P at *
    have e1 : 0 ≤ Y n * P := Int.mul_nonneg c (by omega)
    have e2 : Y n * P ≤ 268435455 * P := Int.mul_le_mul_of_nonneg_right (by omega) (by omega)
    constructor <;> omega
theorem zV9 (Y : Nat → Int) : zV 9 Y = Y 0 + Y 1 * 268435456 + Y 2 * 72057594037927936 + Y 3 * 19342813113834066795298816 + Y 4 * 5192296858534827628530496329220096 + Y 5 * 1393796574908163946345982392040522594123776 + Y 6 * 374144419156711147060143317175368453031918731001856 + Y 7 * 100433627766186892221372630771322662657637687111424552206336 + Y 8 * 26959946667150639794667015087019630673637144422540572481103610249216 := by
  show 0 + Y 0 * 268435456 ^ 0 + Y 1 * 268435456 ^ 1 + Y 2 * 268435456 ^ 2 + Y 3 * 268435456 ^ 3 + Y 4 * 268435456 ^ 4 + Y 5 * 268435456 ^ 5 + Y 6 * 268435456 ^ 6 + Y 7 * 268435456 ^ 7 + Y 8 * 268435456 ^ 8 = _
  have p0 : (268435456 : Int) ^ 0 = 1 := rfl
  have p1 : (268435456 : Int) ^ 1 = 268435456 := rfl
  have p2 : (268435456 : Int) ^ 2 = 72057594037927936 := rfl
  have p3 : (268435456 : Int) ^ 3 = 19342813113834066795298816 := rfl
  have p4 : (268435456 : Int) ^ 4 = 5192296858534827628530496329220096 := rfl
  have p5 : (268435456 : Int) ^ 5 = 1393796574908163946345982392040522594123776 := rfl
  have p6 : (268435456 : Int) ^ 6 = 374144419156711147060143317175368453031918731001856 := rfl
  have p7 : (268435456 : Int) ^ 7 = 100433627766186892221372630771322662657637687111424552206336 := rfl
  have p8 : (268435456 : Int) ^ 8 = 26959946667150639794667015087019630673637144422540572481103610249216 := rfl
  rw [p0, p1, p2, p3, p4, p5, p6, p7, p8]
  omega
/-- the last part of the method, on limbs; t lies at the place n -/
def zt2 (n : Nat) (Y : Nat → Int) : Nat → Int := zup (zup Y n (Y 8 / 134217728)) 9 (zup Y n (Y 8 / 134217728) 9 + zup Y n (Y 8 / 134217728) n)
def zt5 (Y : Nat → Int) : Nat → Int := zup (zup Y 9 (Y 8 / 268435456)) 8 (zup Y 9 (Y 8 / 268435456) 8 % 268435456)
def zt6 (n : Nat) (Y : Nat → Int) : Nat → Int := zup Y 9 (Y 9 - Y n)
def zt4 (n : Nat) (Y : Nat → Int) : Nat → Int := zrun cs8 (zfold 9 (zt2 n Y))
def ztA (n : Nat) (Y : Nat → Int) : Nat → Int := zt6 n (zt5 (zt4 n Y))
def ztB (n : Nat) (Y : Nat → Int) : Nat → Int := zrun cs8 (zfold 9 (ztA n Y))
def mt2 : List Nat := [288230376151711744, 288230376151711744, 288230376151711744, 288230376151711744, 288230376151711744, 288230376151711744, 288230376151711744, 268435455, 268435455, 2147483649]
def mt6 : List Nat := [268435455, 268435455, 268435455, 268435455, 268435455, 268435455, 268435455, 268435455, 268435455, 1]
theorem mt2_ok : mok ((true, 9) :: cs8) mt2 = true := by decide +kernel
theorem mt2_8 : Nat.blt ((mrun ((true, 9) :: cs8) mt2).getD 8 0) 4611686018427387904 = true := by decide +kernel
theorem mt2_l : Nat.blt 8 (mrun ((true, 9) :: cs8) mt2).length = true := by decide +kernel
theorem mt6_ok : mok ((true, 9) :: cs8) mt6 = true := by decide +kernel
/-- what is asked of the limbs ahead of the last part -/
def zt_pre (Y : Nat → Int) : Prop := (∀ i, i < 7 → -288230376151711744 ≤ Y i ∧ Y i ≤ 288230376151711744) ∧ (0 ≤ Y 7 ∧ Y 7 < 268435456) ∧ (0 ≤ Y 8 ∧ Y 8 < 268435456) ∧ (-2147483648 ≤ Y 9 ∧ Y 9 ≤ 2147483648)
theorem zin10 {Y : Nat → Int} {a b c d e f g h i j : Nat} (h0 : -(a : Int) ≤ Y 0 ∧ Y 0 ≤ a) (h1 : -(b : Int) ≤ Y 1 ∧ Y 1 ≤ b) (h2 : -(c : Int) ≤ Y 2 ∧ Y 2 ≤ c) (h3 : -(d : Int) ≤ Y 3 ∧ Y 3 ≤ d) (h4 : -(e : Int) ≤ Y 4 ∧ Y 4 ≤ e) (h5 : -(f : Int) ≤ Y 5 ∧ Y 5 ≤ f) (h6 : -(g : Int) ≤ Y 6 ∧ Y 6 ≤ g) (h7 : -(h : Int) ≤ Y 7 ∧ Y 7 ≤ h) (h8 : -(i : Int) ≤ Y 8 ∧ Y 8 ≤ i) (h9 : -(j : Int) ≤ Y 9 ∧ Y 9 ≤ j) : zin Y [a, b, c, d, e, f, g, h, i, j] := by
  intro k hk
  have hk : k < 10 := hk
  have cs : k = 0 ∨ k = 1 ∨ k = 2 ∨ k = 3 ∨ k = 4 ∨ k = 5 ∨ k = 6 ∨ k = 7 ∨ k = 8 ∨ k = 9 := by omega
  rcases cs with rfl | rfl | rfl | rfl | rfl | rfl | rfl | rfl | rfl | rfl
  · exact h0
  · exact h1
  · exact h2
  · exact h3
  · exact h4
  · exact h5
  · exact h6
  · exact h7
  · exact h8
  · exact h9
theorem zt2_9 {n : Nat} (hn : 10 ≤ n) (Y : Nat → Int) : zt2 n Y 9 = Y 9 + Y 8 / 134217728 := by
  unfold zt2
  rw [zup_s, zup_n (by omega), zup_s]
theorem zt2_n {n : Nat} (hn : 10 ≤ n) (Y : Nat → Int) : zt2 n Y n = Y 8 / 134217728 := by
  unfold zt2
  rw [zup_n (by omega), zup_s]
theorem zt2_lo {n i : Nat} (hn : 10 ≤ n) (hi : i < 9) (Y : Nat → Int) : zt2 n Y i = Y i := by
  unfold zt2
  rw [zup_n (by omega), zup_n (by omega)]
theorem zt4_n {n : Nat} (hn : 10 ≤ n) (Y : Nat → Int) : zt4 n Y n = Y 8 / 134217728 := by
  unfold zt4
  rw [cs8_hi _ (by omega), zfold_hi (by omega) (by omega), zt2_n hn]
theorem zV_fold9 (Y : Nat → Int) : zV 9 (zfold 9 Y) = zV 9 Y + Y 9 * 7237005577332262213973186563042994240829374041602535252466099000494570602496 - Y 9 * zL := by
  have h := zV_fold (Y := Y) (j := 0)
  have e : zV (0 + 10) Y = zV 9 Y + Y 9 * 268435456 ^ 9 := rfl
  have p : (268435456 : Int) ^ 9 = 7237005577332262213973186563042994240829374041602535252466099000494570602496 := rfl
  have p0 : (268435456 : Int) ^ 0 = 1 := rfl
  rw [e, p, p0, Int.one_mul] at h
  exact h
theorem ztA_lo {n i : Nat} (hi : i < 8) (Y : Nat → Int) : ztA n Y i = zt4 n Y i := by
  unfold ztA zt6 zt5
  rw [zup_n (by omega), zup_n (by omega), zup_n (by omega)]
theorem ztA_8 {n : Nat} (Y : Nat → Int) : ztA n Y 8 = zt4 n Y 8 % 268435456 := by
  unfold ztA zt6 zt5
  rw [zup_n (by decide), zup_s, zup_n (by decide)]
theorem ztA_9 {n : Nat} (hn : 10 ≤ n) (Y : Nat → Int) : ztA n Y 9 = zt4 n Y 8 / 268435456 - Y 8 / 134217728 := by
  unfold ztA zt6
  rw [zup_s]
  have e1 : zt5 (zt4 n Y) 9 = zt4 n Y 8 / 268435456 := by
    unfold zt5
    rw [zup_n (by decide), zup_s]
  have e2 : zt5 (zt4 n Y) n = Y 8 / 134217728 := by
    unfold zt5
    rw [zup_n (by omega), zup_n (by omega), zt4_n hn]
  rw [e1, e2]
theorem zt_main {n : Nat} (hn : 10 ≤ n) {Y : Nat → Int} (h : zt_pre Y) :
    zok cs8 (zfold 9 (zt2 n Y)) ∧ zfit (zt4 n Y 8) ∧ (ztA n Y 9 = 0 ∨ ztA n Y 9 = -1) ∧ zok cs8 (zfold 9 (ztA n Y)) ∧ (∀ i, i < 8 → 0 ≤ ztB n Y i ∧ ztB n Y i < 268435456) ∧ (0 ≤ ztB n Y 8 ∧ ztB n Y 8 < 4294967296) ∧ (0 ≤ zV 9 (ztB n Y) ∧ zV 9 (ztB n Y) < zL) ∧ ∃ K : Int, zV 9 (ztB n Y) = zV 10 Y - K * zL := by
  obtain ⟨hlo, h7, h8, h9⟩ := h
  have l0 := hlo 0 (by decide)
  have l1 := hlo 1 (by decide)
  have l2 := hlo 2 (by decide)
  have l3 := hlo 3 (by decide)
  have l4 := hlo 4 (by decide)
  have l5 := hlo 5 (by decide)
  have l6 := hlo 6 (by decide)
  have in2 : zin (zt2 n Y) mt2 := by
    refine zin10 ?_ ?_ ?_ ?_ ?_ ?_ ?_ ?_ ?_ ?_
    · rw [zt2_lo hn (by decide)]; omega
    · rw [zt2_lo hn (by decide)]; omega
    · rw [zt2_lo hn (by decide)]; omega
    · rw [zt2_lo hn (by decide)]; omega
    · rw [zt2_lo hn (by decide)]; omega
    · rw [zt2_lo hn (by decide)]; omega
    · rw [zt2_lo hn (by decide)]; omega
    · rw [zt2_lo hn (by decide)]; omega
    · rw [zt2_lo hn (by decide)]; omega
    · rw [zt2_9 hn]; omega
  obtain ⟨ok2, in4⟩ := mok_ok _ _ _ in2 mt2_ok
  have in48 := in4 8 (by have q := mt2_l; rw [Nat.blt_eq] at q; exact q)
  have b48 : (mrun ((true, 9) :: cs8) mt2).getD 8 0 < 4611686018427387904 := by have q := mt2_8; rw [Nat.blt_eq] at q; exact q
  have fit4 : zfit (zt4 n Y 8) := by
    have e : zrun ((true, 9) :: cs8) (zt2 n Y) 8 = zt4 n Y 8 := rfl
    rw [e] at in48
    constructor <;> omega
  have n4 := cs8_lo (zfold 9 (zt2 n Y))
  have V4 : zV 9 (zt4 n Y) = zV 9 Y + (Y 9 + Y 8 / 134217728) * 7237005577332262213973186563042994240829374041602535252466099000494570602496 - (Y 9 + Y 8 / 134217728) * zL := by
    show zV 9 (zrun cs8 (zfold 9 (zt2 n Y))) = _
    rw [cs8_V, zV_fold9, zt2_9 hn, zV_congr (Z := Y) 9 (fun i hi => zt2_lo hn hi Y)]
  have V48 : zV 9 (zt4 n Y) = zV 8 (zt4 n Y) + zt4 n Y 8 * 268435456 ^ 8 := rfl
  have VA : zV 9 (ztA n Y) = zV 8 (zt4 n Y) + zt4 n Y 8 % 268435456 * 268435456 ^ 8 := by
    show zV 8 (ztA n Y) + ztA n Y 8 * _ = _
    rw [ztA_8, zV_congr (Z := zt4 n Y) 8 (fun i hi => ztA_lo hi Y)]
  have nA : ∀ i, i < 9 → 0 ≤ ztA n Y i ∧ ztA n Y i < 268435456 := by
    intro i hi
    rcases Nat.lt_or_ge i 8 with q | q
    · rw [ztA_lo q]; exact n4 i q
    · rw [show i = 8 by omega, ztA_8]; exact zmodB _
  have BA := zV_norm 9 nA
  have p8 : (268435456 : Int) ^ 8 = 26959946667150639794667015087019630673637144422540572481103610249216 := rfl
  have p9 : (268435456 : Int) ^ 9 = 7237005577332262213973186563042994240829374041602535252466099000494570602496 := rfl
  rw [p9] at BA
  rw [p8] at V48 VA
  have s9 := ztA_9 hn Y
  have hV9 := zV9 Y
  have hzL : zL = 7237005577332262213973186563042994240857116359379907606001950938285454250989 := rfl
  generalize hs : ztA n Y 9 = s at *
  generalize hx : zt4 n Y 8 = x at *
  generalize ht : Y 8 / 134217728 = t at *
  -- the number ahead of the last step
  have hrho : zV 9 (ztA n Y) + s * 7237005577332262213973186563042994240829374041602535252466099000494570602496 = zV 9 Y + Y 9 * 7237005577332262213973186563042994240829374041602535252466099000494570602496 - (Y 9 + t) * zL := by
    have ex : x = 268435456 * (x / 268435456) + x % 268435456 := by omega
    generalize x / 268435456 = a at *
    generalize x % 268435456 = b at *
    rw [ex] at V48
    rw [VA, s9]
    omega
  have hup : zV 9 Y + Y 9 * 7237005577332262213973186563042994240829374041602535252466099000494570602496 - (Y 9 + t) * zL < 7237005577332262213973186563042994240829374041602535252466099000494570602496 := by
    rw [hV9, hzL]; omega
  have hdn : -7237005577332262213973186563042994240829374041602535252466099000494570602496 < zV 9 Y + Y 9 * 7237005577332262213973186563042994240829374041602535252466099000494570602496 - (Y 9 + t) * zL := by
    rw [hV9, hzL]; omega
  generalize hr : zV 9 Y + Y 9 * 7237005577332262213973186563042994240829374041602535252466099000494570602496 - (Y 9 + t) * zL = rho at *
  have hs01 : s = 0 ∨ s = -1 := by omega
  have in6 : zin (ztA n Y) mt6 := by
    have b := fun i hi => nA i hi
    have g0 := b 0 (by decide)
    have g1 := b 1 (by decide)
    have g2 := b 2 (by decide)
    have g3 := b 3 (by decide)
    have g4 := b 4 (by decide)
    have g5 := b 5 (by decide)
    have g6 := b 6 (by decide)
    have g7 := b 7 (by decide)
    have g8 := b 8 (by decide)
    refine zin10 ?_ ?_ ?_ ?_ ?_ ?_ ?_ ?_ ?_ ?_
    · omega
    · omega
    · omega
    · omega
    · omega
    · omega
    · omega
    · omega
    · omega
    · rw [hs]; omega
  obtain ⟨ok6, -⟩ := mok_ok _ _ _ in6 mt6_ok
  have VB : zV 9 (ztB n Y) = rho - s * zL := by
    show zV 9 (zrun cs8 (zfold 9 (ztA n Y))) = _
    rw [cs8_V, zV_fold9, hs]
    omega
  have hR : 0 ≤ zV 9 (ztB n Y) ∧ zV 9 (ztB n Y) < zL := by
    rw [VB]
    rcases hs01 with rfl | rfl
    · rw [hzL]; omega
    · rw [hzL]; omega
  have nB := cs8_lo (zfold 9 (ztA n Y))
  have B8 := zV_norm (Y := ztB n Y) 8 nB
  have VB8 : zV 9 (ztB n Y) = zV 8 (ztB n Y) + ztB n Y 8 * 268435456 ^ 8 := rfl
  rw [p8] at VB8 B8
  refine ⟨ok2, fit4, hs01, ok6, nB, ?_, hR, ⟨Y 9 + t + s, ?_⟩⟩
  · rw [hzL] at hR
    constructor <;> omega
  · rw [VB, ← hr]
    have e : zV 10 Y = zV 9 Y + Y 9 * 268435456 ^ 9 := rfl
    rw [e, p9, Int.add_mul (Y 9 + t) s zL]
    omega
end
section
/-! ===== a byte read unsigned ===== -/
theorem bp_b (x : Int32) : x.toInt8.toInt32 &&& 255 = x &&& 255 := by
  apply Int32.toBitVec_inj.mp
  rw [Int32.toBitVec_and, Int32.toBitVec_and, Int8.toBitVec_toInt32, Int32.toBitVec_toInt8]
  apply BitVec.eq_of_getLsbD_eq
  intro i hi
  rw [BitVec.getLsbD_and, BitVec.getLsbD_and]
  have hm : ∀ i < 32, 8 ≤ i → (255 : Int32).toBitVec.getLsbD i = false := by decide
  rcases Nat.lt_or_ge i 8 with z | z
  · rw [BitVec.getLsbD_signExtend, BitVec.getLsbD_signExtend, if_pos z, if_pos hi]
    simp only [z, hi, decide_true, Bool.true_and]
  · rw [hm i hi z]; simp
/-! ===== bytes and numbers ===== -/
def num : Nat → (Nat → Nat) → Nat
  | 0, _ => 0
  | n + 1, b => num n b + b n * 256 ^ n
def nL : Nat := 7237005577332262213973186563042994240857116359379907606001950938285454250989
theorem num_congr {a b : Nat → Nat} : ∀ n, (∀ i, i < n → a i = b i) → num n a = num n b := by
  intro n
  induction n with
  | zero => intro _; rfl
  | succ n ih =>
    intro h
    show num n a + a n * _ = num n b + b n * _
    rw [ih (fun i hi => h i (by omega)), h n (by omega)]
theorem num_lt {b : Nat → Nat} : ∀ n, (∀ i, i < n → b i < 256) → num n b < 256 ^ n := by
  intro n
  induction n with
  | zero => intro _; show 0 < 1; decide
  | succ n ih =>
    intro h
    have a := ih (fun i hi => h i (by omega))
    have c := h n (by omega)
    show num n b + b n * 256 ^ n < 256 ^ (n + 1)
    rw [Nat.pow_succ]
    generalize 256 ^ n = P at *
    have e : b n * P ≤ 255 * P := Nat.mul_le_mul_right P (by omega)
    omega
theorem num_inj {a b : Nat → Nat} : ∀ n, (∀ i, i < n → a i < 256) → (∀ i, i < n → b i < 256) → num n a = num n b → ∀ i, i < n → a i = b i := by
  intro n
  induction n with
  | zero => intro _ _ _ i hi; omega
  | succ n ih =>
    intro ha hb he
    have la := num_lt n (fun i hi => ha i (by omega))
    have lb := num_lt n (fun i hi => hb i (by omega))
    have he : num n a + a n * 256 ^ n = num n b + b n * 256 ^ n := he
    have hP : 0 < 256 ^ n := Nat.pow_pos (by decide)
    generalize 256 ^ n = P at *
    have e1 : a n = b n := by
      have q1 : (num n a + a n * P) / P = a n := by rw [Nat.add_mul_div_right _ _ hP, Nat.div_eq_of_lt la, Nat.zero_add]
      have q2 : (num n b + b n * P) / P = b n := by rw [Nat.add_mul_div_right _ _ hP, Nat.div_eq_of_lt lb, Nat.zero_add]
      rw [← q1, ← q2, he]
    have e2 : num n a = num n b := by rw [e1] at he; omega
    intro i hi
    rcases Nat.lt_or_ge i n with q | q
    · exact ih (fun i hi => ha i (by omega)) (fun i hi => hb i (by omega)) e2 i q
    · rw [show i = n by omega]; exact e1
theorem or_sh {a b : Nat} (k : Nat) (ha : a < 2 ^ k) : a ||| b * 2 ^ k = a + b * 2 ^ k := by
  rw [Nat.or_comm, Nat.add_comm, ← Nat.shiftLeft_eq, Nat.shiftLeft_add_eq_or_of_lt ha]
theorem uI_or (x y : Int32) : uI (x ||| y) = uI x ||| uI y := by
  unfold uI
  rw [Int32.toBitVec_or, BitVec.toNat_or]
theorem and255 (x : Int32) : x &&& 255 = nI (ub x) := pk_and x 8 rfl
theorem uI_and255 (x : Int32) : uI (x &&& 255) = ub x := by
  rw [and255, uI_nI (Nat.lt_trans (ub_lt x) (by decide))]
theorem uI_shl (x s : Int32) (k : Nat) (hs : (s.toBitVec.smod 32).toNat = k) : uI (x <<< s) = uI x * 2 ^ k % 4294967296 := pk_shl x s k hs
theorem uI_inj {x y : Int32} (h : uI x = uI y) : x = y := by rw [← nI_uI x, ← nI_uI y, h]
theorem dec16_val (w x : Int32) : (w &&& 255) ||| ((x &&& 255) <<< ((8 : Int32) &&& 31)) = nI (ub w + ub x * 256) := by
  apply uI_inj
  have hw := ub_lt w
  have hx := ub_lt x
  rw [uI_nI (by omega), uI_or, uI_and255, uI_shl _ _ 8 (by decide +kernel), uI_and255, Nat.mod_eq_of_lt (by omega), or_sh 8 (by omega)]
theorem dec24_val (w x y : Int32) : ((w &&& 255) ||| ((x &&& 255) <<< ((8 : Int32) &&& 31))) ||| ((y &&& 255) <<< ((16 : Int32) &&& 31)) = nI (ub w + ub x * 256 + ub y * 65536) := by
  apply uI_inj
  have hw := ub_lt w
  have hx := ub_lt x
  have hy := ub_lt y
  rw [dec16_val, uI_nI (by omega), uI_or, uI_nI (by omega), uI_shl _ _ 16 (by decide +kernel), uI_and255, Nat.mod_eq_of_lt (by omega), or_sh 16 (by omega)]
theorem dec32_val (w x y z : Int32) : (((w &&& 255) ||| ((x &&& 255) <<< ((8 : Int32) &&& 31))) ||| ((y &&& 255) <<< ((16 : Int32) &&& 31))) ||| (z <<< ((24 : Int32) &&& 31)) = nI (ub w + ub x * 256 + ub y * 65536 + ub z * 16777216) := by
  apply uI_inj
  have hw := ub_lt w
  have hx := ub_lt x
  have hy := ub_lt y
  have hz := ub_lt z
  have e : uI z * 2 ^ 24 % 4294967296 = ub z * 2 ^ 24 := by unfold ub; omega
  rw [dec24_val, uI_nI (by omega), uI_or, uI_nI (by omega), uI_shl _ _ 24 (by decide +kernel), e, or_sh 24 (by omega)]
/-- the byte that is kept of a number -/
def bI (w : Nat) : Int32 := (nI w).toInt8.toInt32
theorem ub_nI {w : Nat} (h : w < 4294967296) : ub (nI w) = w % 256 := by unfold ub; rw [uI_nI h]
theorem ub_cast (x : Int32) : ub x.toInt8.toInt32 = ub x := by
  have h := bp_b x
  rw [← uI_and255, h, uI_and255]
theorem ub_bI {w : Nat} (h : w < 4294967296) : ub (bI w) = w % 256 := by unfold bI; rw [ub_cast, ub_nI h]
theorem ub_nar (x : Int32) : ub (vp_nar .byte x) = ub x := by rw [vp_nar_byte, ub_cast]
theorem nar_bI (w : Nat) : vp_nar .byte (bI w) = bI w := pk_vb (nI w)
/-- what encode32 leaves of an array -/
def enc32 (f : Nat → Int32) (o v : Nat) : Nat → Int32 := upd (upd (upd (upd f o (bI v)) (o + 1) (bI (v / 256))) (o + 2) (bI (v / 65536))) (o + 3) (bI (v / 16777216))
def enc24 (f : Nat → Int32) (o v : Nat) : Nat → Int32 := upd (upd (upd f o (bI v)) (o + 1) (bI (v / 256))) (o + 2) (bI (v / 65536))
def enc56 (f : Nat → Int32) (o v : Nat) : Nat → Int32 := enc24 (enc32 f o (v % 4294967296)) (o + 4) (v / 4294967296)
theorem num_S (n : Nat) (b : Nat → Nat) : num (n + 1) b = num n b + b n * 256 ^ n := rfl
theorem p256 (n k : Nat) : 256 ^ (n + k) = 256 ^ n * 256 ^ k := Nat.pow_add _ _ _
/-- the digits ahead of a place aren't touched -/
theorem enc32_num (f : Nat → Int32) (o v : Nat) (hv : v < 4294967296) : num (o + 4) (fun j => ub (enc32 f o v j)) = num o (fun j => ub (f j)) + v * 256 ^ o := by
  rw [num_S, num_S, num_S, num_S]
  have e0 : num o (fun j => ub (enc32 f o v j)) = num o (fun j => ub (f j)) := by
    apply num_congr
    intro i hi
    unfold enc32
    rw [pk_un (by omega), pk_un (by omega), pk_un (by omega), pk_un (by omega)]
  have d0 : ub (enc32 f o v o) = v % 256 := by
    unfold enc32
    rw [pk_un (by omega), pk_un (by omega), pk_un (by omega), pk_us, ub_bI hv]
  have d1 : ub (enc32 f o v (o + 1)) = v / 256 % 256 := by
    unfold enc32
    rw [pk_un (by omega), pk_un (by omega), pk_us, ub_bI (by omega)]
  have d2 : ub (enc32 f o v (o + 2)) = v / 65536 % 256 := by
    unfold enc32
    rw [pk_un (by omega), pk_us, ub_bI (by omega)]
  have d3 : ub (enc32 f o v (o + 3)) = v / 16777216 % 256 := by
    unfold enc32
    rw [pk_us, ub_bI (by omega)]
  rw [e0, d0, d1, d2, d3, p256 o 1, p256 o 2, p256 o 3]
  generalize 256 ^ o = P
  generalize num o (fun j => ub (f j)) = N
  have ev : v = v % 256 + v / 256 % 256 * 256 + v / 65536 % 256 * 65536 + v / 16777216 % 256 * 16777216 := by omega
  generalize v % 256 = a at *
  generalize v / 256 % 256 = b at *
  generalize v / 65536 % 256 = c at *
  generalize v / 16777216 % 256 = d at *
  subst ev
  rw [Nat.add_mul, Nat.add_mul, Nat.add_mul]
  rw [show b * (P * 256 ^ 1) = b * 256 * P by rw [Nat.mul_comm P, ← Nat.mul_assoc], show c * (P * 256 ^ 2) = c * 65536 * P by rw [Nat.mul_comm P, ← Nat.mul_assoc], show d * (P * 256 ^ 3) = d * 16777216 * P by rw [Nat.mul_comm P, ← Nat.mul_assoc]]
  omega
theorem enc24_num (f : Nat → Int32) (o v : Nat) (hv : v < 16777216) : num (o + 3) (fun j => ub (enc24 f o v j)) = num o (fun j => ub (f j)) + v * 256 ^ o := by
  rw [num_S, num_S, num_S]
  have e0 : num o (fun j => ub (enc24 f o v j)) = num o (fun j => ub (f j)) := by
    apply num_congr
    intro i hi
    unfold enc24
    rw [pk_un (by omega), pk_un (by omega), pk_un (by omega)]
  have d0 : ub (enc24 f o v o) = v % 256 := by
    unfold enc24
    rw [pk_un (by omega), pk_un (by omega), pk_us, ub_bI (by omega)]
  have d1 : ub (enc24 f o v (o + 1)) = v / 256 % 256 := by
    unfold enc24
    rw [pk_un (by omega), pk_us, ub_bI (by omega)]
  have d2 : ub (enc24 f o v (o + 2)) = v / 65536 % 256 := by
    unfold enc24
    rw [pk_us, ub_bI (by omega)]
  rw [e0, d0, d1, d2, p256 o 1, p256 o 2]
  generalize 256 ^ o = P
  generalize num o (fun j => ub (f j)) = N
  have ev : v = v % 256 + v / 256 % 256 * 256 + v / 65536 % 256 * 65536 := by omega
  generalize v % 256 = a at *
  generalize v / 256 % 256 = b at *
  generalize v / 65536 % 256 = c at *
  subst ev
  rw [Nat.add_mul, Nat.add_mul]
  rw [show b * (P * 256 ^ 1) = b * 256 * P by rw [Nat.mul_comm P, ← Nat.mul_assoc], show c * (P * 256 ^ 2) = c * 65536 * P by rw [Nat.mul_comm P, ← Nat.mul_assoc]]
  omega
theorem enc56_num (f : Nat → Int32) (o v : Nat) (hv : v < 72057594037927936) : num (o + 7) (fun j => ub (enc56 f o v j)) = num o (fun j => ub (f j)) + v * 256 ^ o := by
  have h := enc24_num (enc32 f o (v % 4294967296)) (o + 4) (v / 4294967296) (by omega)
  rw [enc32_num f o _ (by omega), p256 o 4] at h
  have h2 : num (o + 7) (fun j => ub (enc56 f o v j)) = _ := h
  rw [h2]
  generalize 256 ^ o = P
  generalize num o (fun j => ub (f j)) = N
  have ev : v = v % 4294967296 + v / 4294967296 * 4294967296 := by omega
  generalize v % 4294967296 = a at *
  generalize v / 4294967296 = b at *
  subst ev
  rw [Nat.add_mul, show b * (P * 256 ^ 4) = b * 4294967296 * P by rw [Nat.mul_comm P, ← Nat.mul_assoc]]
  omega
/-- the limbs that are read out of the bytes: 32 bits, and 24 bits shifted by four, by turns -/
def yW (f : Nat → Int32) (o : Nat) : Nat := ub (f o) + ub (f (o + 1)) * 256 + ub (f (o + 2)) * 65536 + ub (f (o + 3)) * 16777216
def yT (f : Nat → Int32) (o : Nat) : Nat := ub (f o) + ub (f (o + 1)) * 256 + ub (f (o + 2)) * 65536
def yH (f : Nat → Int32) (o : Nat) : Nat := ub (f o) + ub (f (o + 1)) * 256
theorem yW_lt (f : Nat → Int32) (o : Nat) : yW f o < 4294967296 := by
  have a := ub_lt (f o); have b := ub_lt (f (o + 1)); have c := ub_lt (f (o + 2)); have d := ub_lt (f (o + 3))
  unfold yW; omega
theorem yT_lt (f : Nat → Int32) (o : Nat) : yT f o < 16777216 := by
  have a := ub_lt (f o); have b := ub_lt (f (o + 1)); have c := ub_lt (f (o + 2))
  unfold yT; omega
theorem yH_lt (f : Nat → Int32) (o : Nat) : yH f o < 65536 := by
  have a := ub_lt (f o); have b := ub_lt (f (o + 1))
  unfold yH; omega
/-- a pair of limbs is seven bytes -/
theorem num_7 (f : Nat → Int32) (n : Nat) : num (7 * n + 7) (fun j => ub (f j)) = num (7 * n) (fun j => ub (f j)) + (yW f (7 * n) + yT f (7 * n + 4) * 16 * 268435456) * 72057594037927936 ^ n := by
  rw [num_S, num_S, num_S, num_S, num_S, num_S, num_S, p256 (7 * n) 1, p256 (7 * n) 2, p256 (7 * n) 3, p256 (7 * n) 4, p256 (7 * n) 5, p256 (7 * n) 6]
  have hp : 256 ^ (7 * n) = 72057594037927936 ^ n := by rw [Nat.pow_mul]
  rw [hp]
  generalize 72057594037927936 ^ n = P
  generalize num (7 * n) (fun j => ub (f j)) = N
  unfold yW yT
  show N + ub (f (7 * n)) * P + ub (f (7 * n + 1)) * (P * 256 ^ 1) + ub (f (7 * n + 2)) * (P * 256 ^ 2) + ub (f (7 * n + 3)) * (P * 256 ^ 3) + ub (f (7 * n + 4)) * (P * 256 ^ 4) + ub (f (7 * n + 4 + 1)) * (P * 256 ^ 5) + ub (f (7 * n + 4 + 2)) * (P * 256 ^ 6) = _
  generalize ub (f (7 * n)) = a
  generalize ub (f (7 * n + 1)) = b
  generalize ub (f (7 * n + 2)) = c
  generalize ub (f (7 * n + 3)) = d
  generalize ub (f (7 * n + 4)) = e
  generalize ub (f (7 * n + 4 + 1)) = g
  generalize ub (f (7 * n + 4 + 2)) = h
  have m : ∀ x k : Nat, x * (P * k) = x * k * P := by intro x k; rw [Nat.mul_comm P, ← Nat.mul_assoc]
  rw [m, m, m, m, m, m]
  have e1 : (a + b * 256 + c * 65536 + d * 16777216) + (e + g * 256 + h * 65536) * 16 * 268435456 = a + b * 256 ^ 1 + c * 256 ^ 2 + d * 256 ^ 3 + e * 256 ^ 4 + g * 256 ^ 5 + h * 256 ^ 6 := by omega
  rw [e1]
  simp only [Nat.add_mul]
  omega
end
section
/-! ===== rules of ours for the walks ===== -/
abbrev vwCl : List vw_C := [(RX0, TX0, 7), (RX1, TX1, 4)]
/-- the two array classes -/
abbrev tyL (dB dN : ClassId) : List (ClassId × FieldType) := [(dB, .byte), (dN, .int)]
section
variable {p : Program} {l : Launch} {e : Env} {R : Room} {s : State} {m : MethodId} {args : Array Value} {below : List Frame} {meth : Method} {c : Code} {H : Heap} {locs : List Loc} {cells slots : Nat} {Q : State → Prop} {pc : Nat} {ls : Array Slot} {rest st0 : List Value}
theorem wt_i {x y : Int32} (h : x = y) (k : W p l e R s m args below meth c H locs cells slots Q (F0 m pc ls (.int y :: rest))) : W p l e R s m args below meth c H locs cells slots Q (F0 m pc ls (.int x :: rest)) := by
  subst h; exact k
theorem wt_l {x y : Int64} (h : x = y) (k : W p l e R s m args below meth c H locs cells slots Q (F0 m pc ls (.long y :: rest))) : W p l e R s m args below meth c H locs cells slots Q (F0 m pc ls (.long x :: rest)) := by
  subst h; exact k
/-- what a method leaves that writes one cell alone -/
def Qs (q : Nat) (cell : Cell) (o₀ : Outcome) : Array Value → State → Outcome → State → Prop := fun _ st o t => o = o₀ ∧ t.heap[q]? = some cell ∧ st.heap.size ≤ t.heap.size ∧ ∀ x, x < st.heap.size → x ≠ q → t.heap[x]? = st.heap[x]?
theorem va_P.setK {D : va_G} {cl : List vw_C} {A : Nat → Prop} {k : Nat} {ws : va_W} {a : Nat} {e0 e : va_E} {H H1 : Heap} (h : va_P D cl ws H) (hD : va_D A ws) (hp : ws[k]? = some (a, e0)) (he : va_at D cl (a, e) H1) (oq : ∀ q : Nat, q < H.size → q ≠ a → H1[q]? = H[q]?) : va_P D cl (ws.set k (a, e)) H1 := by
  intro i q hq
  by_cases hi : i = k
  · subst hi
    have hl : i < ws.length := (List.getElem?_eq_some_iff.mp hp).1
    rw [List.getElem?_set_self hl] at hq
    cases hq
    exact he
  · rw [List.getElem?_set_ne (fun z => hi z.symm)] at hq
    refine (h i q hq).kept (oq q.1 (h i q hq).lt (fun z => hi ?_))
    exact hD.1 i k q (a, e0) hq hp z
theorem va_S.setL {A : Nat → Prop} {H0 H H1 : Heap} {locs L : List Loc} {a : Nat} (h : va_S A H0 H locs) (z : H.size ≤ H1.size) (oq : ∀ q : Nat, q < H.size → q ≠ a → H1[q]? = H[q]?) (ha : A a) (hL : ∀ x ∈ L, A x.base) : va_S A H0 H1 (locs ++ L) := by
  refine ⟨Nat.le_trans h.1 z, fun q h1 h2 => ?_, fun q hq => ?_⟩
  · rw [oq q (Nat.lt_of_lt_of_le h1 h.1) (fun e => h2 (by rw [e]; exact ha))]
    exact h.2.1 q h1 h2
  · rcases List.mem_append.mp hq with h1 | h1
    · exact h.2.2 q h1
    · exact hL q h1
/-- a call of a method that only reads -/
theorem wc_read {a : Array Value} {r : Int32} (hr : CallRun p l e R s m args below meth c H locs cells slots 0 0 (F0 m pc ls st0) rest (QcRead r a) (fun _ => False)) (kk : W p l e R s m args below meth c H locs cells slots Q (F0 m (pc + 3) ls (.int r :: rest))) : W p l e R s m args below meth c H locs cells slots Q (F0 m pc ls st0) := W.callR hr kk
/-- a call of a method that writes one cell, an array -/
theorem wc_set {a : Array Value} {D : va_G} {cl : List vw_C} {A : Nat → Prop} {ws : va_W} {H0 : Heap} {q k0 : Nat} {cA : ClassId} {x0 x1 : vp_A} {v : Option Value} {free : Addr → Prop} (hr : CallRun p l e R s m args below meth c H locs cells slots 0 0 (F0 m pc ls st0) rest (Qs q (vp_cell cA x1) (.returned v) a) free) (hP : va_P D cl ws H) (hD : va_D A ws) (hS : va_S A H0 H locs) (he : ws[k0]? = some (q, .inl (cA, x0))) (hf : ∀ x, free x → A x)
    (kk : ∀ (H1 : Heap) (locs1 : List Loc), va_P D cl (ws.set k0 (q, .inl (cA, x1))) H1 → va_D A (ws.set k0 (q, .inl (cA, x1))) → va_S A H0 H1 locs1 → W p l e R s m args below meth c H1 locs1 cells slots Q (F0 m (pc + 3) ls (v.toList ++ rest))) : W p l e R s m args below meth c H locs cells slots Q (F0 m pc ls st0) := by
  intro T hT X
  obtain ⟨v', st₀, t, T', L, h0, X', hL, e1, ⟨hv, hc, hz, hk⟩, st⟩ := hr T hT X
  cases hv
  subst h0
  obtain ⟨t2, a1, b1⟩ := kk t.heap (locs ++ L) (hP.setK hD he hc hk) (hD.set he) (hS.setL hz hk (hD.2 k0 _ he) (fun x h => hf _ (hL x h))) T' e1 X'
  exact ⟨t2, st t2 a1, b1⟩
end
theorem va_K.one {D : va_G} {cl : List vw_C} {tys : List (ClassId × FieldType)} {U : State} (h : va_K D cl tys U) {i j : Nat} {a b : ClassId} (hi : tys[i]? = some (a, .byte)) (hj : tys[j]? = some (b, .byte)) : a = b := by
  have h1 : U.vm.findClass _ = some a := (h.2 i _ hi).2
  have h2 : U.vm.findClass _ = some b := (h.2 j _ hj).2
  exact Option.some.inj (h1.symm.trans h2)
theorem va_K.oneI {D : va_G} {cl : List vw_C} {tys : List (ClassId × FieldType)} {U : State} (h : va_K D cl tys U) {i j : Nat} {a b : ClassId} (hi : tys[i]? = some (a, .int)) (hj : tys[j]? = some (b, .int)) : a = b := by
  have h1 : U.vm.findClass _ = some a := (h.2 i _ hi).2
  have h2 : U.vm.findClass _ = some b := (h.2 j _ hj).2
  exact Option.some.inj (h1.symm.trans h2)
/-- the array classes, known at the start -/
theorem arr_known {args : Array Value} {s : State} (ty : FieldType) (ht : ty = .byte ∨ ty = .int) (h : (Cond.arrayClass ty).before args s = true) : ∃ cA : ClassId, ArrOfT s cA ty ∧ va_RA s cA ty := by
  obtain ⟨cA, kA, comp, h1, h2, h3⟩ := Cond.arrayClass_spec h
  refine ⟨cA, fun n z => ⟨fun k h => (by cases h), kA, h2, comp, h3⟩, ?_⟩
  rcases ht with rfl | rfl <;> exact h1
theorem vin {n N : Nat} (h : n < N) (hN : N < 2147483648) : vp_in (nI n) N := vp_in_nI h hN
theorem ncl {n : Nat} (h : n < 2147483648) : (nI n).toNatClampNeg = n := nI_clamp h
theorem FB {av : List Value} {B : State → Prop} (h : ∀ (U : State) (g : JFrame) (mk : MethodId), B U → B (U.calling g mk av.toArray)) : FrameBlind (va_Pc av B) := by
  intro a U g mk q
  obtain ⟨rfl, q⟩ := q
  exact ⟨rfl, h U g mk q⟩
/-- a start that speaks of the heap and of the classes alone -/
def PcH (D : va_G) (dB dN : ClassId) (av : List Value) (ws : va_W) : Array Value → State → Prop := va_Pc av (fun U => va_P D vwCl ws U.heap ∧ va_K D vwCl (tyL dB dN) U ∧ va_D (fun _ => True) ws)
theorem PcH.pre {s : State} {H : Heap} {D : va_G} {dB dN : ClassId} {av : List Value} {ws : va_W} (hP : va_P D vwCl ws H) (hK : va_K D vwCl (tyL dB dN) s) {A : Nat → Prop} (hD : va_D A ws) : PreS s H (PcH D dB dN av ws) av :=
  ⟨fun a U g mk q => by obtain ⟨q0, qP, qK, qD⟩ := q; exact ⟨q0, qP, va_K.moved (u := U) (U := U.calling g mk a) (Vm.Alike.refl U.vm) qK, qD⟩, fun U hU hW => ⟨rfl, by rw [hU]; exact hP, va_K.moved hW.alike hK, hD.weaken (fun _ _ _ _ => trivial)⟩⟩
theorem va_D.to {A B : Nat → Prop} {ws : va_W} (h : va_D A ws) (hB : ∀ q ∈ ws, B q.1) : va_D B ws := h.weaken (fun _ q hk _ => hB q (List.mem_of_getElem? hk))
theorem va_D.to1 {A B : Nat → Prop} {a : Nat} {x : va_E} (h : va_D A [(a, x)]) (ha : B a) : va_D B [(a, x)] := h.to (fun q hq => by rw [List.mem_singleton.mp hq]; exact ha)
theorem va_D.to2 {A : Nat → Prop} {a b : Nat} {x y : va_E} (h : va_D A [(a, x), (b, y)]) : va_D (fun z => z = a ∨ z = b) [(a, x), (b, y)] := h.to (fun q hq => by
  rcases List.mem_cons.mp hq with e | e
  · rw [e]; exact Or.inl rfl
  · rw [List.mem_singleton.mp e]; exact Or.inr rfl)
theorem nI_mod (v : Nat) : nI v = nI (v % 4294967296) := by
  apply uI_inj
  show (BitVec.ofNat 32 v).toNat = (BitVec.ofNat 32 (v % 4294967296)).toNat
  rw [BitVec.toNat_ofNat, BitVec.toNat_ofNat]
  omega
/-- cells that are only read, kept by the frame -/
theorem va_P.ro {D : va_G} {cl : List vw_C} {ro : va_W} {A : Nat → Prop} {H0 H : Heap} {locs : List Loc} (h : va_P D cl ro H0) (hS : va_S A H0 H locs) (hn : ∀ q ∈ ro, ¬ A q.1) : va_P D cl ro H := h.kept (fun k q hk => hS.2.1 q.1 (h k q hk).lt (hn q (List.mem_of_getElem? hk)))
theorem va_D.ne {A : Nat → Prop} {ws : va_W} (h : va_D A ws) {i j a b : Nat} {x y : va_E} (hi : ws[i]? = some (a, x)) (hj : ws[j]? = some (b, y)) (hij : i ≠ j) : a ≠ b := fun e => hij (h.1 i j (a, x) (b, y) hi hj e)
theorem va_P.nil {D : va_G} {cl : List vw_C} {H : Heap} : va_P D cl [] H := fun k q h => by cases h
theorem va_D.nil {A : Nat → Prop} : va_D A [] := ⟨fun i j p q h => (by cases h), fun k q h => (by cases h)⟩
end
section
set_option maxHeartbeats 4000000 in
set_option maxRecDepth 100000 in
/-- X3_decode16: the number of 2 bytes from o on -/
theorem metX3_decode16 (l : Launch) (D : va_G) (dB dN : ClassId) (h0 n : Nat) (f : Nat → Int32) (o : Nat) (ho : o + 2 ≤ n) (hn : n < 2147483648) : Met l yX3_decode16 (ws_ yX3_decode16 cX3_decode16 3 (some .int)) ({ frames := 0, cells := 0, slots := 0, locals := 0 }) (PcH D dB dN [.ref h0, .int (nI o)] [(h0, .inl (dB, n, .inl f))]) (QcRead (nI (yH f o))) 0 0 (fun _ => False) := by
  refine Met.ofW (cc := cX3_decode16) (maxL := 3) (ret := (some .int)) (by decide) rfl ?_
  intro p e s m args below meth c s₁ B hml hv
  obtain ⟨rfl, hP, hK, hD0⟩ := hv
  have hx := B.exec
  have hb := B.bytes
  have hr := B.returns
  have hts := atoms_spec (ws := ws_ yX3_decode16 cX3_decode16 3 _) B.pre
  have hts : ∀ w ∈ lw_all, w.before _ s = true := fun w h => hts w (List.mem_cons_of_mem _ h)
  have hown : s.vm.findClass RX3 = some m.cls := findClass_of_methodNamed B.named
  have hlocks := B.notSynchronized
  have hl := lv_entry ([.ref h0, .int (nI o)]) (n := 3) (Nat.le_of_ble_eq_true rfl)
  rw [lg_entry_eq]
  generalize (lg_sl ([.ref h0, .int (nI o)]) ++ List.replicate (3 - (lg_sl ([.ref h0, .int (nI o)])).length) Slot.unset).toArray = ls at hl ⊢
  have hl : lv_has ls 3 [(0, .ref h0), (1, .int (nI o))] := hl
  refine lv_aload_n hx hb dX3_decode16_0 rfl (lv_at hl 0 rfl) ?_
  refine lv_iload_n hx hb dX3_decode16_1 rfl (lv_at hl 1 rfl) ?_
  refine va_bald hx hb hK hP 0 0 rfl rfl (vin (by omega) hn) dX3_decode16_2 ?_
  refine wt_i (y := f o) (congrArg f (ncl (by omega))) ?_
  refine lv_sipush (v := 255) hx hb dX3_decode16_3 (by decide) ?_
  refine lv_iand hx hb dX3_decode16_6 ?_
  refine lv_istore_n (lv' := [(2, .int ((f o) &&& (255 : Int32))), (0, .ref h0), (1, .int (nI o))]) hx hb dX3_decode16_7 rfl hl (by decide) rfl (fun ls hl => ?_)
  refine lv_iload_n hx hb dX3_decode16_8 rfl (lv_at hl 0 rfl) ?_
  refine lv_aload_n hx hb dX3_decode16_9 rfl (lv_at hl 1 rfl) ?_
  refine lv_iinc (v := nI (o + 1)) (lv' := [(1, .int (nI (o + 1))), (2, .int ((f o) &&& (255 : Int32))), (0, .ref h0)]) hx hb dX3_decode16_10 hl (k := 2) rfl (nI_1 _) (by decide) rfl (fun ls hl => ?_)
  refine lv_iload_n hx hb dX3_decode16_13 rfl (lv_at hl 0 rfl) ?_
  refine va_bald hx hb hK hP 0 0 rfl rfl (vin (by omega) hn) dX3_decode16_14 ?_
  refine wt_i (y := f (o + 1)) (congrArg f (ncl (by omega))) ?_
  refine lv_sipush (v := 255) hx hb dX3_decode16_15 (by decide) ?_
  refine lv_iand hx hb dX3_decode16_18 ?_
  refine lv_bipush (v := 8) hx hb dX3_decode16_19 (by decide) ?_
  refine lv_ishl hx hb dX3_decode16_21 ?_
  refine lv_ior hx hb dX3_decode16_22 ?_
  refine lv_istore_n (lv' := [(2, .int (((f o) &&& (255 : Int32)) ||| (((f (o + 1)) &&& (255 : Int32)) <<< ((8 : Int32) &&& 31)))), (1, .int (nI (o + 1))), (0, .ref h0)]) hx hb dX3_decode16_23 rfl hl (by decide) rfl (fun ls hl => ?_)
  refine lv_iload_n hx hb dX3_decode16_24 rfl (lv_at hl 0 rfl) ?_
  refine wt_i (y := nI (yH f o)) (dec16_val _ _) ?_
  exact W.iret (v := nI (yH f o)) hx hb hr (fun t ht hW => ⟨rfl, ht⟩) (fun q h => by cases h) dX3_decode16_25
set_option maxHeartbeats 4000000 in
set_option maxRecDepth 100000 in
/-- X3_decode24: the number of 3 bytes from o on -/
theorem metX3_decode24 (l : Launch) (D : va_G) (dB dN : ClassId) (h0 n : Nat) (f : Nat → Int32) (o : Nat) (ho : o + 3 ≤ n) (hn : n < 2147483648) : Met l yX3_decode24 (ws_ yX3_decode24 cX3_decode24 3 (some .int)) ({ frames := 0, cells := 0, slots := 0, locals := 0 }) (PcH D dB dN [.ref h0, .int (nI o)] [(h0, .inl (dB, n, .inl f))]) (QcRead (nI (yT f o))) 0 0 (fun _ => False) := by
  refine Met.ofW (cc := cX3_decode24) (maxL := 3) (ret := (some .int)) (by decide) rfl ?_
  intro p e s m args below meth c s₁ B hml hv
  obtain ⟨rfl, hP, hK, hD0⟩ := hv
  have hx := B.exec
  have hb := B.bytes
  have hr := B.returns
  have hts := atoms_spec (ws := ws_ yX3_decode24 cX3_decode24 3 _) B.pre
  have hts : ∀ w ∈ lw_all, w.before _ s = true := fun w h => hts w (List.mem_cons_of_mem _ h)
  have hown : s.vm.findClass RX3 = some m.cls := findClass_of_methodNamed B.named
  have hlocks := B.notSynchronized
  have hl := lv_entry ([.ref h0, .int (nI o)]) (n := 3) (Nat.le_of_ble_eq_true rfl)
  rw [lg_entry_eq]
  generalize (lg_sl ([.ref h0, .int (nI o)]) ++ List.replicate (3 - (lg_sl ([.ref h0, .int (nI o)])).length) Slot.unset).toArray = ls at hl ⊢
  have hl : lv_has ls 3 [(0, .ref h0), (1, .int (nI o))] := hl
  refine lv_aload_n hx hb dX3_decode24_0 rfl (lv_at hl 0 rfl) ?_
  refine lv_iload_n hx hb dX3_decode24_1 rfl (lv_at hl 1 rfl) ?_
  refine va_bald hx hb hK hP 0 0 rfl rfl (vin (by omega) hn) dX3_decode24_2 ?_
  refine wt_i (y := f o) (congrArg f (ncl (by omega))) ?_
  refine lv_sipush (v := 255) hx hb dX3_decode24_3 (by decide) ?_
  refine lv_iand hx hb dX3_decode24_6 ?_
  refine lv_istore_n (lv' := [(2, .int ((f o) &&& (255 : Int32))), (0, .ref h0), (1, .int (nI o))]) hx hb dX3_decode24_7 rfl hl (by decide) rfl (fun ls hl => ?_)
  refine lv_iload_n hx hb dX3_decode24_8 rfl (lv_at hl 0 rfl) ?_
  refine lv_aload_n hx hb dX3_decode24_9 rfl (lv_at hl 1 rfl) ?_
  refine lv_iinc (v := nI (o + 1)) (lv' := [(1, .int (nI (o + 1))), (2, .int ((f o) &&& (255 : Int32))), (0, .ref h0)]) hx hb dX3_decode24_10 hl (k := 2) rfl (nI_1 _) (by decide) rfl (fun ls hl => ?_)
  refine lv_iload_n hx hb dX3_decode24_13 rfl (lv_at hl 0 rfl) ?_
  refine va_bald hx hb hK hP 0 0 rfl rfl (vin (by omega) hn) dX3_decode24_14 ?_
  refine wt_i (y := f (o + 1)) (congrArg f (ncl (by omega))) ?_
  refine lv_sipush (v := 255) hx hb dX3_decode24_15 (by decide) ?_
  refine lv_iand hx hb dX3_decode24_18 ?_
  refine lv_bipush (v := 8) hx hb dX3_decode24_19 (by decide) ?_
  refine lv_ishl hx hb dX3_decode24_21 ?_
  refine lv_ior hx hb dX3_decode24_22 ?_
  refine lv_istore_n (lv' := [(2, .int (((f o) &&& (255 : Int32)) ||| (((f (o + 1)) &&& (255 : Int32)) <<< ((8 : Int32) &&& 31)))), (1, .int (nI (o + 1))), (0, .ref h0)]) hx hb dX3_decode24_23 rfl hl (by decide) rfl (fun ls hl => ?_)
  refine lv_iload_n hx hb dX3_decode24_24 rfl (lv_at hl 0 rfl) ?_
  refine lv_aload_n hx hb dX3_decode24_25 rfl (lv_at hl 2 rfl) ?_
  refine lv_iinc (v := nI (o + 2)) (lv' := [(1, .int (nI (o + 2))), (2, .int (((f o) &&& (255 : Int32)) ||| (((f (o + 1)) &&& (255 : Int32)) <<< ((8 : Int32) &&& 31)))), (0, .ref h0)]) hx hb dX3_decode24_26 hl (k := 1) rfl (nI_1 (o + 1)) (by decide) rfl (fun ls hl => ?_)
  refine lv_iload_n hx hb dX3_decode24_29 rfl (lv_at hl 0 rfl) ?_
  refine va_bald hx hb hK hP 0 0 rfl rfl (vin (by omega) hn) dX3_decode24_30 ?_
  refine wt_i (y := f (o + 2)) (congrArg f (ncl (by omega))) ?_
  refine lv_sipush (v := 255) hx hb dX3_decode24_31 (by decide) ?_
  refine lv_iand hx hb dX3_decode24_34 ?_
  refine lv_bipush (v := 16) hx hb dX3_decode24_35 (by decide) ?_
  refine lv_ishl hx hb dX3_decode24_37 ?_
  refine lv_ior hx hb dX3_decode24_38 ?_
  refine lv_istore_n (lv' := [(2, .int ((((f o) &&& (255 : Int32)) ||| (((f (o + 1)) &&& (255 : Int32)) <<< ((8 : Int32) &&& 31))) ||| (((f (o + 2)) &&& (255 : Int32)) <<< ((16 : Int32) &&& 31)))), (1, .int (nI (o + 2))), (0, .ref h0)]) hx hb dX3_decode24_39 rfl hl (by decide) rfl (fun ls hl => ?_)
  refine lv_iload_n hx hb dX3_decode24_40 rfl (lv_at hl 0 rfl) ?_
  refine wt_i (y := nI (yT f o)) (dec24_val _ _ _) ?_
  exact W.iret (v := nI (yT f o)) hx hb hr (fun t ht hW => ⟨rfl, ht⟩) (fun q h => by cases h) dX3_decode24_41
set_option maxHeartbeats 4000000 in
set_option maxRecDepth 100000 in
/-- X3_decode32: the number of 4 bytes from o on -/
theorem metX3_decode32 (l : Launch) (D : va_G) (dB dN : ClassId) (h0 n : Nat) (f : Nat → Int32) (o : Nat) (ho : o + 4 ≤ n) (hn : n < 2147483648) : Met l yX3_decode32 (ws_ yX3_decode32 cX3_decode32 3 (some .int)) ({ frames := 0, cells := 0, slots := 0, locals := 0 }) (PcH D dB dN [.ref h0, .int (nI o)] [(h0, .inl (dB, n, .inl f))]) (QcRead (nI (yW f o))) 0 0 (fun _ => False) := by
  refine Met.ofW (cc := cX3_decode32) (maxL := 3) (ret := (some .int)) (by decide) rfl ?_
  intro p e s m args below meth c s₁ B hml hv
  obtain ⟨rfl, hP, hK, hD0⟩ := hv
  have hx := B.exec
  have hb := B.bytes
  have hr := B.returns
  have hts := atoms_spec (ws := ws_ yX3_decode32 cX3_decode32 3 _) B.pre
  have hts : ∀ w ∈ lw_all, w.before _ s = true := fun w h => hts w (List.mem_cons_of_mem _ h)
  have hown : s.vm.findClass RX3 = some m.cls := findClass_of_methodNamed B.named
  have hlocks := B.notSynchronized
  have hl := lv_entry ([.ref h0, .int (nI o)]) (n := 3) (Nat.le_of_ble_eq_true rfl)
  rw [lg_entry_eq]
  generalize (lg_sl ([.ref h0, .int (nI o)]) ++ List.replicate (3 - (lg_sl ([.ref h0, .int (nI o)])).length) Slot.unset).toArray = ls at hl ⊢
  have hl : lv_has ls 3 [(0, .ref h0), (1, .int (nI o))] := hl
  refine lv_aload_n hx hb dX3_decode32_0 rfl (lv_at hl 0 rfl) ?_
  refine lv_iload_n hx hb dX3_decode32_1 rfl (lv_at hl 1 rfl) ?_
  refine va_bald hx hb hK hP 0 0 rfl rfl (vin (by omega) hn) dX3_decode32_2 ?_
  refine wt_i (y := f o) (congrArg f (ncl (by omega))) ?_
  refine lv_sipush (v := 255) hx hb dX3_decode32_3 (by decide) ?_
  refine lv_iand hx hb dX3_decode32_6 ?_
  refine lv_istore_n (lv' := [(2, .int ((f o) &&& (255 : Int32))), (0, .ref h0), (1, .int (nI o))]) hx hb dX3_decode32_7 rfl hl (by decide) rfl (fun ls hl => ?_)
  refine lv_iload_n hx hb dX3_decode32_8 rfl (lv_at hl 0 rfl) ?_
  refine lv_aload_n hx hb dX3_decode32_9 rfl (lv_at hl 1 rfl) ?_
  refine lv_iinc (v := nI (o + 1)) (lv' := [(1, .int (nI (o + 1))), (2, .int ((f o) &&& (255 : Int32))), (0, .ref h0)]) hx hb dX3_decode32_10 hl (k := 2) rfl (nI_1 _) (by decide) rfl (fun ls hl => ?_)
  refine lv_iload_n hx hb dX3_decode32_13 rfl (lv_at hl 0 rfl) ?_
  refine va_bald hx hb hK hP 0 0 rfl rfl (vin (by omega) hn) dX3_decode32_14 ?_
  refine wt_i (y := f (o + 1)) (congrArg f (ncl (by omega))) ?_
  refine lv_sipush (v := 255) hx hb dX3_decode32_15 (by decide) ?_
  refine lv_iand hx hb dX3_decode32_18 ?_
  refine lv_bipush (v := 8) hx hb dX3_decode32_19 (by decide) ?_
  refine lv_ishl hx hb dX3_decode32_21 ?_
  refine lv_ior hx hb dX3_decode32_22 ?_
  refine lv_istore_n (lv' := [(2, .int (((f o) &&& (255 : Int32)) ||| (((f (o + 1)) &&& (255 : Int32)) <<< ((8 : Int32) &&& 31)))), (1, .int (nI (o + 1))), (0, .ref h0)]) hx hb dX3_decode32_23 rfl hl (by decide) rfl (fun ls hl => ?_)
  refine lv_iload_n hx hb dX3_decode32_24 rfl (lv_at hl 0 rfl) ?_
  refine lv_aload_n hx hb dX3_decode32_25 rfl (lv_at hl 2 rfl) ?_
  refine lv_iinc (v := nI (o + 2)) (lv' := [(1, .int (nI (o + 2))), (2, .int (((f o) &&& (255 : Int32)) ||| (((f (o + 1)) &&& (255 : Int32)) <<< ((8 : Int32) &&& 31)))), (0, .ref h0)]) hx hb dX3_decode32_26 hl (k := 1) rfl (nI_1 (o + 1)) (by decide) rfl (fun ls hl => ?_)
  refine lv_iload_n hx hb dX3_decode32_29 rfl (lv_at hl 0 rfl) ?_
  refine va_bald hx hb hK hP 0 0 rfl rfl (vin (by omega) hn) dX3_decode32_30 ?_
  refine wt_i (y := f (o + 2)) (congrArg f (ncl (by omega))) ?_
  refine lv_sipush (v := 255) hx hb dX3_decode32_31 (by decide) ?_
  refine lv_iand hx hb dX3_decode32_34 ?_
  refine lv_bipush (v := 16) hx hb dX3_decode32_35 (by decide) ?_
  refine lv_ishl hx hb dX3_decode32_37 ?_
  refine lv_ior hx hb dX3_decode32_38 ?_
  refine lv_istore_n (lv' := [(2, .int ((((f o) &&& (255 : Int32)) ||| (((f (o + 1)) &&& (255 : Int32)) <<< ((8 : Int32) &&& 31))) ||| (((f (o + 2)) &&& (255 : Int32)) <<< ((16 : Int32) &&& 31)))), (1, .int (nI (o + 2))), (0, .ref h0)]) hx hb dX3_decode32_39 rfl hl (by decide) rfl (fun ls hl => ?_)
  refine lv_iload_n hx hb dX3_decode32_40 rfl (lv_at hl 0 rfl) ?_
  refine lv_aload_n hx hb dX3_decode32_41 rfl (lv_at hl 2 rfl) ?_
  refine lv_iinc (v := nI (o + 3)) (lv' := [(1, .int (nI (o + 3))), (2, .int ((((f o) &&& (255 : Int32)) ||| (((f (o + 1)) &&& (255 : Int32)) <<< ((8 : Int32) &&& 31))) ||| (((f (o + 2)) &&& (255 : Int32)) <<< ((16 : Int32) &&& 31)))), (0, .ref h0)]) hx hb dX3_decode32_42 hl (k := 1) rfl (nI_1 (o + 2)) (by decide) rfl (fun ls hl => ?_)
  refine lv_iload_n hx hb dX3_decode32_45 rfl (lv_at hl 0 rfl) ?_
  refine va_bald hx hb hK hP 0 0 rfl rfl (vin (by omega) hn) dX3_decode32_46 ?_
  refine wt_i (y := f (o + 3)) (congrArg f (ncl (by omega))) ?_
  refine lv_bipush (v := 24) hx hb dX3_decode32_47 (by decide) ?_
  refine lv_ishl hx hb dX3_decode32_49 ?_
  refine lv_ior hx hb dX3_decode32_50 ?_
  refine lv_istore_n (lv' := [(2, .int (((((f o) &&& (255 : Int32)) ||| (((f (o + 1)) &&& (255 : Int32)) <<< ((8 : Int32) &&& 31))) ||| (((f (o + 2)) &&& (255 : Int32)) <<< ((16 : Int32) &&& 31))) ||| ((f (o + 3)) <<< ((24 : Int32) &&& 31)))), (1, .int (nI (o + 3))), (0, .ref h0)]) hx hb dX3_decode32_51 rfl hl (by decide) rfl (fun ls hl => ?_)
  refine lv_iload_n hx hb dX3_decode32_52 rfl (lv_at hl 0 rfl) ?_
  refine wt_i (y := nI (yW f o)) (dec32_val _ _ _ _) ?_
  exact W.iret (v := nI (yW f o)) hx hb hr (fun t ht hW => ⟨rfl, ht⟩) (fun q h => by cases h) dX3_decode32_53
set_option maxHeartbeats 4000000 in
set_option maxRecDepth 100000 in
/-- X3_encode24: 3 bytes of v from o on -/
theorem metX3_encode24 (l : Launch) (D : va_G) (dB dN : ClassId) (h0 n : Nat) (f : Nat → Int32) (o v : Nat) (ho : o + 3 ≤ n) (hn : n < 2147483648) (hv : v < 4294967296) : Met l yX3_encode24 (ws_ yX3_encode24 cX3_encode24 3 none) ({ frames := 0, cells := 0, slots := 0, locals := 0 }) (PcH D dB dN [.int (nI v), .ref h0, .int (nI o)] [(h0, .inl (dB, n, .inl f))]) (Qs h0 (vp_cell dB (n, .inl (enc24 f o v))) (.returned none)) 0 0 (fun x => x = h0) := by
  refine Met.ofW (cc := cX3_encode24) (maxL := 3) (ret := none) (by decide) rfl ?_
  intro p e s m args below meth c s₁ B hml hv
  obtain ⟨rfl, hP, hK, hD0⟩ := hv
  have hx := B.exec
  have hb := B.bytes
  have hr := B.returns
  have hts := atoms_spec (ws := ws_ yX3_encode24 cX3_encode24 3 _) B.pre
  have hts : ∀ w ∈ lw_all, w.before _ s = true := fun w h => hts w (List.mem_cons_of_mem _ h)
  have hown : s.vm.findClass RX3 = some m.cls := findClass_of_methodNamed B.named
  have hlocks := B.notSynchronized
  have hl := lv_entry ([.int (nI v), .ref h0, .int (nI o)]) (n := 3) (Nat.le_of_ble_eq_true rfl)
  rw [lg_entry_eq]
  generalize (lg_sl ([.int (nI v), .ref h0, .int (nI o)]) ++ List.replicate (3 - (lg_sl ([.int (nI v), .ref h0, .int (nI o)])).length) Slot.unset).toArray = ls at hl ⊢
  have hl : lv_has ls 3 [(0, .int (nI v)), (1, .ref h0), (2, .int (nI o))] := hl
  have hS : va_S (fun x => x = h0) s.heap s.heap [] := va_S.rf
  have hD : va_D (fun x => x = h0) [(h0, .inl (dB, n, .inl f))] := va_D.to1 hD0 rfl
  refine lv_aload_n hx hb dX3_encode24_0 rfl (lv_at hl 1 rfl) ?_
  refine lv_iload_n hx hb dX3_encode24_1 rfl (lv_at hl 2 rfl) ?_
  refine lv_iload_n hx hb dX3_encode24_2 rfl (lv_at hl 0 rfl) ?_
  refine lv_i2b (v := bI v) hx hb dX3_encode24_3 rfl ?_
  refine va_bast hx hb hK hP hD hS 0 0 rfl rfl (vin (by omega) hn) dX3_encode24_4 (fun H locs hP hD hS => ?_)
  have eq0 : upd f (nI o).toNatClampNeg (vp_nar .byte (bI v)) = (upd f o (bI v)) := by rw [ncl (by omega), nar_bI]
  rw [eq0] at hP hD
  have hP : va_P D vwCl [(h0, .inl (dB, n, .inl (upd f o (bI v))))] H := hP
  have hD : va_D (fun x => x = h0) [(h0, .inl (dB, n, .inl (upd f o (bI v))))] := hD
  refine lv_aload_n hx hb dX3_encode24_5 rfl (lv_at hl 1 rfl) ?_
  refine lv_iinc (v := nI (o + 1)) (lv' := [(2, .int (nI (o + 1))), (0, .int (nI v)), (1, .ref h0)]) hx hb dX3_encode24_6 hl (k := 2) rfl (nI_1 _) (by decide) rfl (fun ls hl => ?_)
  refine lv_iload_n hx hb dX3_encode24_9 rfl (lv_at hl 0 rfl) ?_
  refine lv_iload_n hx hb dX3_encode24_10 rfl (lv_at hl 1 rfl) ?_
  refine lv_bipush (v := 8) hx hb dX3_encode24_11 (by decide) ?_
  refine lv_iushr (v := nI (v / 256)) hx hb dX3_encode24_13 (pk_ushrN hv _ 8 (by decide +kernel)) ?_
  refine lv_i2b (v := bI (v / 256)) hx hb dX3_encode24_14 rfl ?_
  refine va_bast hx hb hK hP hD hS 0 0 rfl rfl (vin (by omega) hn) dX3_encode24_15 (fun H locs hP hD hS => ?_)
  have eq1 : upd (upd f o (bI v)) (nI (o + 1)).toNatClampNeg (vp_nar .byte (bI (v / 256))) = (upd (upd f o (bI v)) (o + 1) (bI (v / 256))) := by rw [ncl (by omega), nar_bI]
  rw [eq1] at hP hD
  have hP : va_P D vwCl [(h0, .inl (dB, n, .inl (upd (upd f o (bI v)) (o + 1) (bI (v / 256)))))] H := hP
  have hD : va_D (fun x => x = h0) [(h0, .inl (dB, n, .inl (upd (upd f o (bI v)) (o + 1) (bI (v / 256)))))] := hD
  refine lv_aload_n hx hb dX3_encode24_16 rfl (lv_at hl 2 rfl) ?_
  refine lv_iinc (v := nI (o + 2)) (lv' := [(2, .int (nI (o + 2))), (0, .int (nI v)), (1, .ref h0)]) hx hb dX3_encode24_17 hl (k := 0) rfl (nI_1 (o + 1)) (by decide) rfl (fun ls hl => ?_)
  refine lv_iload_n hx hb dX3_encode24_20 rfl (lv_at hl 0 rfl) ?_
  refine lv_iload_n hx hb dX3_encode24_21 rfl (lv_at hl 1 rfl) ?_
  refine lv_bipush (v := 16) hx hb dX3_encode24_22 (by decide) ?_
  refine lv_iushr (v := nI (v / 65536)) hx hb dX3_encode24_24 (pk_ushrN hv _ 16 (by decide +kernel)) ?_
  refine lv_i2b (v := bI (v / 65536)) hx hb dX3_encode24_25 rfl ?_
  refine va_bast hx hb hK hP hD hS 0 0 rfl rfl (vin (by omega) hn) dX3_encode24_26 (fun H locs hP hD hS => ?_)
  have eq2 : upd (upd (upd f o (bI v)) (o + 1) (bI (v / 256))) (nI (o + 2)).toNatClampNeg (vp_nar .byte (bI (v / 65536))) = (upd (upd (upd f o (bI v)) (o + 1) (bI (v / 256))) (o + 2) (bI (v / 65536))) := by rw [ncl (by omega), nar_bI]
  rw [eq2] at hP hD
  have hP : va_P D vwCl [(h0, .inl (dB, n, .inl (upd (upd (upd f o (bI v)) (o + 1) (bI (v / 256))) (o + 2) (bI (v / 65536)))))] H := hP
  have hD : va_D (fun x => x = h0) [(h0, .inl (dB, n, .inl (upd (upd (upd f o (bI v)) (o + 1) (bI (v / 256))) (o + 2) (bI (v / 65536)))))] := hD
  exact W.vret hx hb hr (fun t ht hW => ⟨rfl, by rw [ht]; exact hP 0 _ rfl, by rw [ht]; exact hS.1, fun x h1 h2 => by rw [ht]; exact hS.2.1 x h1 h2⟩) hS.2.2 dX3_encode24_27
set_option maxHeartbeats 4000000 in
set_option maxRecDepth 100000 in
/-- X3_encode32: 4 bytes of v from o on -/
theorem metX3_encode32 (l : Launch) (D : va_G) (dB dN : ClassId) (h0 n : Nat) (f : Nat → Int32) (o v : Nat) (ho : o + 4 ≤ n) (hn : n < 2147483648) (hv : v < 4294967296) : Met l yX3_encode32 (ws_ yX3_encode32 cX3_encode32 3 none) ({ frames := 0, cells := 0, slots := 0, locals := 0 }) (PcH D dB dN [.int (nI v), .ref h0, .int (nI o)] [(h0, .inl (dB, n, .inl f))]) (Qs h0 (vp_cell dB (n, .inl (enc32 f o v))) (.returned none)) 0 0 (fun x => x = h0) := by
  refine Met.ofW (cc := cX3_encode32) (maxL := 3) (ret := none) (by decide) rfl ?_
  intro p e s m args below meth c s₁ B hml hv
  obtain ⟨rfl, hP, hK, hD0⟩ := hv
  have hx := B.exec
  have hb := B.bytes
  have hr := B.returns
  have hts := atoms_spec (ws := ws_ yX3_encode32 cX3_encode32 3 _) B.pre
  have hts : ∀ w ∈ lw_all, w.before _ s = true := fun w h => hts w (List.mem_cons_of_mem _ h)
  have hown : s.vm.findClass RX3 = some m.cls := findClass_of_methodNamed B.named
  have hlocks := B.notSynchronized
  have hl := lv_entry ([.int (nI v), .ref h0, .int (nI o)]) (n := 3) (Nat.le_of_ble_eq_true rfl)
  rw [lg_entry_eq]
  generalize (lg_sl ([.int (nI v), .ref h0, .int (nI o)]) ++ List.replicate (3 - (lg_sl ([.int (nI v), .ref h0, .int (nI o)])).length) Slot.unset).toArray = ls at hl ⊢
  have hl : lv_has ls 3 [(0, .int (nI v)), (1, .ref h0), (2, .int (nI o))] := hl
  have hS : va_S (fun x => x = h0) s.heap s.heap [] := va_S.rf
  have hD : va_D (fun x => x = h0) [(h0, .inl (dB, n, .inl f))] := va_D.to1 hD0 rfl
  refine lv_aload_n hx hb dX3_encode32_0 rfl (lv_at hl 1 rfl) ?_
  refine lv_iload_n hx hb dX3_encode32_1 rfl (lv_at hl 2 rfl) ?_
  refine lv_iload_n hx hb dX3_encode32_2 rfl (lv_at hl 0 rfl) ?_
  refine lv_i2b (v := bI v) hx hb dX3_encode32_3 rfl ?_
  refine va_bast hx hb hK hP hD hS 0 0 rfl rfl (vin (by omega) hn) dX3_encode32_4 (fun H locs hP hD hS => ?_)
  have eq0 : upd f (nI o).toNatClampNeg (vp_nar .byte (bI v)) = (upd f o (bI v)) := by rw [ncl (by omega), nar_bI]
  rw [eq0] at hP hD
  have hP : va_P D vwCl [(h0, .inl (dB, n, .inl (upd f o (bI v))))] H := hP
  have hD : va_D (fun x => x = h0) [(h0, .inl (dB, n, .inl (upd f o (bI v))))] := hD
  refine lv_aload_n hx hb dX3_encode32_5 rfl (lv_at hl 1 rfl) ?_
  refine lv_iinc (v := nI (o + 1)) (lv' := [(2, .int (nI (o + 1))), (0, .int (nI v)), (1, .ref h0)]) hx hb dX3_encode32_6 hl (k := 2) rfl (nI_1 _) (by decide) rfl (fun ls hl => ?_)
  refine lv_iload_n hx hb dX3_encode32_9 rfl (lv_at hl 0 rfl) ?_
  refine lv_iload_n hx hb dX3_encode32_10 rfl (lv_at hl 1 rfl) ?_
  refine lv_bipush (v := 8) hx hb dX3_encode32_11 (by decide) ?_
  refine lv_iushr (v := nI (v / 256)) hx hb dX3_encode32_13 (pk_ushrN hv _ 8 (by decide +kernel)) ?_
  refine lv_i2b (v := bI (v / 256)) hx hb dX3_encode32_14 rfl ?_
  refine va_bast hx hb hK hP hD hS 0 0 rfl rfl (vin (by omega) hn) dX3_encode32_15 (fun H locs hP hD hS => ?_)
  have eq1 : upd (upd f o (bI v)) (nI (o + 1)).toNatClampNeg (vp_nar .byte (bI (v / 256))) = (upd (upd f o (bI v)) (o + 1) (bI (v / 256))) := by rw [ncl (by omega), nar_bI]
  rw [eq1] at hP hD
  have hP : va_P D vwCl [(h0, .inl (dB, n, .inl (upd (upd f o (bI v)) (o + 1) (bI (v / 256)))))] H := hP
  have hD : va_D (fun x => x = h0) [(h0, .inl (dB, n, .inl (upd (upd f o (bI v)) (o + 1) (bI (v / 256)))))] := hD
  refine lv_aload_n hx hb dX3_encode32_16 rfl (lv_at hl 2 rfl) ?_
  refine lv_iinc (v := nI (o + 2)) (lv' := [(2, .int (nI (o + 2))), (0, .int (nI v)), (1, .ref h0)]) hx hb dX3_encode32_17 hl (k := 0) rfl (nI_1 (o + 1)) (by decide) rfl (fun ls hl => ?_)
  refine lv_iload_n hx hb dX3_encode32_20 rfl (lv_at hl 0 rfl) ?_
  refine lv_iload_n hx hb dX3_encode32_21 rfl (lv_at hl 1 rfl) ?_
  refine lv_bipush (v := 16) hx hb dX3_encode32_22 (by decide) ?_
  refine lv_iushr (v := nI (v / 65536)) hx hb dX3_encode32_24 (pk_ushrN hv _ 16 (by decide +kernel)) ?_
  refine lv_i2b (v := bI (v / 65536)) hx hb dX3_encode32_25 rfl ?_
  refine va_bast hx hb hK hP hD hS 0 0 rfl rfl (vin (by omega) hn) dX3_encode32_26 (fun H locs hP hD hS => ?_)
  have eq2 : upd (upd (upd f o (bI v)) (o + 1) (bI (v / 256))) (nI (o + 2)).toNatClampNeg (vp_nar .byte (bI (v / 65536))) = (upd (upd (upd f o (bI v)) (o + 1) (bI (v / 256))) (o + 2) (bI (v / 65536))) := by rw [ncl (by omega), nar_bI]
  rw [eq2] at hP hD
  have hP : va_P D vwCl [(h0, .inl (dB, n, .inl (upd (upd (upd f o (bI v)) (o + 1) (bI (v / 256))) (o + 2) (bI (v / 65536)))))] H := hP
  have hD : va_D (fun x => x = h0) [(h0, .inl (dB, n, .inl (upd (upd (upd f o (bI v)) (o + 1) (bI (v / 256))) (o + 2) (bI (v / 65536)))))] := hD
  refine lv_aload_n hx hb dX3_encode32_27 rfl (lv_at hl 2 rfl) ?_
  refine lv_iinc (v := nI (o + 3)) (lv' := [(2, .int (nI (o + 3))), (0, .int (nI v)), (1, .ref h0)]) hx hb dX3_encode32_28 hl (k := 0) rfl (nI_1 (o + 2)) (by decide) rfl (fun ls hl => ?_)
  refine lv_iload_n hx hb dX3_encode32_31 rfl (lv_at hl 0 rfl) ?_
  refine lv_iload_n hx hb dX3_encode32_32 rfl (lv_at hl 1 rfl) ?_
  refine lv_bipush (v := 24) hx hb dX3_encode32_33 (by decide) ?_
  refine lv_iushr (v := nI (v / 16777216)) hx hb dX3_encode32_35 (pk_ushrN hv _ 24 (by decide +kernel)) ?_
  refine lv_i2b (v := bI (v / 16777216)) hx hb dX3_encode32_36 rfl ?_
  refine va_bast hx hb hK hP hD hS 0 0 rfl rfl (vin (by omega) hn) dX3_encode32_37 (fun H locs hP hD hS => ?_)
  have eq3 : upd (upd (upd (upd f o (bI v)) (o + 1) (bI (v / 256))) (o + 2) (bI (v / 65536))) (nI (o + 3)).toNatClampNeg (vp_nar .byte (bI (v / 16777216))) = (upd (upd (upd (upd f o (bI v)) (o + 1) (bI (v / 256))) (o + 2) (bI (v / 65536))) (o + 3) (bI (v / 16777216))) := by rw [ncl (by omega), nar_bI]
  rw [eq3] at hP hD
  have hP : va_P D vwCl [(h0, .inl (dB, n, .inl (upd (upd (upd (upd f o (bI v)) (o + 1) (bI (v / 256))) (o + 2) (bI (v / 65536))) (o + 3) (bI (v / 16777216)))))] H := hP
  have hD : va_D (fun x => x = h0) [(h0, .inl (dB, n, .inl (upd (upd (upd (upd f o (bI v)) (o + 1) (bI (v / 256))) (o + 2) (bI (v / 65536))) (o + 3) (bI (v / 16777216)))))] := hD
  exact W.vret hx hb hr (fun t ht hW => ⟨rfl, by rw [ht]; exact hP 0 _ rfl, by rw [ht]; exact hS.1, fun x h1 h2 => by rw [ht]; exact hS.2.1 x h1 h2⟩) hS.2.2 dX3_encode32_38
set_option maxHeartbeats 4000000 in
set_option maxRecDepth 100000 in
/-- encode56: seven bytes of v from o on -/
theorem metX3_encode56 (l : Launch) (D : va_G) (dB dN : ClassId) (h0 n : Nat) (f : Nat → Int32) (o v : Nat) (ho : o + 7 ≤ n) (hn : n < 2147483648) (hv : v < 72057594037927936) : Met l yX3_encode56 (ws_ yX3_encode56 cX3_encode56 4 none) ({ frames := 1, cells := 0, slots := 0, locals := 22 }) (PcH D dB dN [.long (lN v), .ref h0, .int (nI o)] [(h0, .inl (dB, n, .inl f))]) (Qs h0 (vp_cell dB (n, .inl (enc56 f o v))) (.returned none)) 0 0 (fun x => x = h0) := by
  refine Met.ofW (cc := cX3_encode56) (maxL := 4) (ret := none) (by decide) rfl ?_
  intro p e s m args below meth c s₁ B hml hv
  obtain ⟨rfl, hP, hK, hD0⟩ := hv
  have hx := B.exec
  have hb := B.bytes
  have hr := B.returns
  have hts := atoms_spec (ws := ws_ yX3_encode56 cX3_encode56 4 _) B.pre
  have hts : ∀ w ∈ lw_all, w.before _ s = true := fun w h => hts w (List.mem_cons_of_mem _ h)
  have hown : s.vm.findClass RX3 = some m.cls := findClass_of_methodNamed B.named
  have hlocks := B.notSynchronized
  have hl := lv_entry ([.long (lN v), .ref h0, .int (nI o)]) (n := 4) (Nat.le_of_ble_eq_true rfl)
  rw [lg_entry_eq]
  generalize (lg_sl ([.long (lN v), .ref h0, .int (nI o)]) ++ List.replicate (4 - (lg_sl ([.long (lN v), .ref h0, .int (nI o)])).length) Slot.unset).toArray = ls at hl ⊢
  have hl : lv_has ls 4 [(0, .long (lN v)), (2, .ref h0), (3, .int (nI o))] := hl
  have hS : va_S (fun x => x = h0) s.heap s.heap [] := va_S.rf
  have hD : va_D (fun x => x = h0) [(h0, .inl (dB, n, .inl f))] := va_D.to1 hD0 rfl
  refine lv_lload_n hx hb dX3_encode56_0 rfl (lv_at hl 0 rfl) ?_
  refine lv_l2i (v := nI (v % 4294967296)) hx hb dX3_encode56_1 (by rw [lN_i]; exact nI_mod v) ?_
  refine lv_aload_n hx hb dX3_encode56_2 rfl (lv_at hl 1 rfl) ?_
  refine lv_iload_n hx hb dX3_encode56_3 rfl (lv_at hl 2 rfl) ?_
  refine wc_set (k0 := 0) (W.runS (As := [.int (nI (v % 4294967296)), .ref h0, .int (nI o)]) (rest := []) ⟨hx, hb, hml, hown, hts⟩ (metX3_encode32 l D dB dN h0 n f o (v % 4294967296) (by omega) hn (by omega)) (va_cwS 3 hts (lw_S q71 q72 q6 q73) rfl rfl rfl (by decide +kernel) ⟨Nat.le_of_ble_eq_true rfl, Nat.le_of_ble_eq_true rfl⟩) (PcH.pre hP hK hD) rfl rfl hl.1 rfl (lv_room (Nat.le_of_ble_eq_true rfl)) dX3_encode56_4 ⟨Nat.le_refl _, Nat.le_refl _⟩) hP hD hS rfl (fun x h => h) (fun H locs hP hD hS => ?_)
  have hP : va_P D vwCl [(h0, .inl (dB, n, .inl (enc32 f o (v % 4294967296))))] H := hP
  have hD : va_D (fun x => x = h0) [(h0, .inl (dB, n, .inl (enc32 f o (v % 4294967296))))] := hD
  refine lv_lload_n hx hb dX3_encode56_7 rfl (lv_at hl 0 rfl) ?_
  refine lv_bipush (v := 32) hx hb dX3_encode56_8 (by decide) ?_
  refine lv_lushr (v := lN (v / 4294967296)) hx hb dX3_encode56_10 (wb_shr (n := v) (k := 32) (by omega) (by decide)) ?_
  refine lv_l2i (v := nI (v / 4294967296)) hx hb dX3_encode56_11 (lN_i _) ?_
  refine lv_aload_n hx hb dX3_encode56_12 rfl (lv_at hl 1 rfl) ?_
  refine lv_iload_n hx hb dX3_encode56_13 rfl (lv_at hl 2 rfl) ?_
  refine lv_iconst (v := 4) hx hb dX3_encode56_14 (by decide) ?_
  refine lv_iadd hx hb dX3_encode56_15 ?_
  refine wt_i (y := nI (o + 4)) (nI_add o 4) ?_
  refine wc_set (k0 := 0) (W.runS (As := [.int (nI (v / 4294967296)), .ref h0, .int (nI (o + 4))]) (rest := []) ⟨hx, hb, hml, hown, hts⟩ (metX3_encode24 l D dB dN h0 n (enc32 f o (v % 4294967296)) (o + 4) (v / 4294967296) (by omega) hn (by omega)) (va_cwS 3 hts (lw_S q74 q75 q6 q76) rfl rfl rfl (by decide +kernel) ⟨Nat.le_of_ble_eq_true rfl, Nat.le_of_ble_eq_true rfl⟩) (PcH.pre hP hK hD) rfl rfl hl.1 rfl (lv_room (Nat.le_of_ble_eq_true rfl)) dX3_encode56_16 ⟨Nat.le_refl _, Nat.le_refl _⟩) hP hD hS rfl (fun x h => h) (fun H locs hP hD hS => ?_)
  have hP : va_P D vwCl [(h0, .inl (dB, n, .inl (enc56 f o v)))] H := hP
  have hD : va_D (fun x => x = h0) [(h0, .inl (dB, n, .inl (enc56 f o v)))] := hD
  exact W.vret hx hb hr (fun t ht hW => ⟨rfl, by rw [ht]; exact hP 0 _ rfl, by rw [ht]; exact hS.1, fun x h1 h2 => by rw [ht]; exact hS.2.1 x h1 h2⟩) hS.2.2 dX3_encode56_19
end
section
/-! ===== walks over limbs: the long locals as integers ===== -/
def LL (h0 n : Nat) (Y : Nat → Int) : List (Nat × Value) := (0, .ref h0) :: (List.range n).map (fun i => (2 * i + 1, .long (zI (Y i))))
theorem LL_mem {h0 n : Nat} {Y : Nat → Int} {q : Nat × Value} : q ∈ LL h0 n Y ↔ q = (0, .ref h0) ∨ ∃ i, i < n ∧ q = (2 * i + 1, .long (zI (Y i))) := by
  unfold LL
  rw [List.mem_cons, List.mem_map]
  constructor
  · rintro (h | ⟨i, h, rfl⟩)
    · exact Or.inl h
    · exact Or.inr ⟨i, List.mem_range.mp h, rfl⟩
  · rintro (h | ⟨i, h, rfl⟩)
    · exact Or.inl h
    · exact Or.inr ⟨i, List.mem_range.mpr h, rfl⟩
theorem lv_mono {ls : Array Slot} {nL : Nat} {a b : List (Nat × Value)} (h : lv_has ls nL a) (hs : ∀ q ∈ b, q ∈ a) : lv_has ls nL b := ⟨h.1, h.2.1, fun q hq => h.2.2 q (hs q hq)⟩
theorem LL_at {ls : Array Slot} {nL h0 n : Nat} {Y : Nat → Int} (h : lv_has ls nL (LL h0 n Y)) {i : Nat} (hi : i < n) : ls[2 * i + 1]? = some (.val (.long (zI (Y i)))) := h.2.2 (2 * i + 1, .long (zI (Y i))) (LL_mem.mpr (Or.inr ⟨i, hi, rfl⟩))
theorem LL_0 {ls : Array Slot} {nL h0 n : Nat} {Y : Nat → Int} (h : lv_has ls nL (LL h0 n Y)) : ls[0]? = some (.val (.ref h0)) := h.2.2 (0, .ref h0) (LL_mem.mpr (Or.inl rfl))
theorem LL_st {ls : Array Slot} {nL h0 n k n' : Nat} {Y Z : Nat → Int} {v : Int} (h : lv_has ls nL ((2 * k + 1, .long (zI v)) :: (LL h0 n Y).filter (fun q => !(q.1 == 2 * k + 1) && (!(q.1 == 2 * k + 1 + 1) && !(q.1 + 1 == 2 * k + 1 && q.2.category == 2))))) (hk : Z k = v) (hZ : ∀ i, i < n' → i ≠ k → i < n ∧ Z i = Y i) : lv_has ls nL (LL h0 n' Z) := by
  refine lv_mono h (fun q hq => ?_)
  rcases LL_mem.mp hq with rfl | ⟨i, hi, rfl⟩
  · refine List.mem_cons_of_mem _ (List.mem_filter.mpr ⟨LL_mem.mpr (Or.inl rfl), ?_⟩)
    simp [Value.category]
  · by_cases e : i = k
    · subst e
      rw [hk]
      exact List.mem_cons_self
    · obtain ⟨h1, h2⟩ := hZ i hi e
      refine List.mem_cons_of_mem _ (List.mem_filter.mpr ⟨LL_mem.mpr (Or.inr ⟨i, h1, by rw [h2]⟩), ?_⟩)
      simp only [Bool.and_eq_true, Bool.not_eq_true', beq_eq_false_iff_ne, Bool.and_eq_false_iff, ne_eq]
      refine ⟨by omega, by omega, Or.inl (by omega)⟩
def isLd (cc : ByteArray) (pc slot pc' : Nat) : Prop := (decode cc pc = .ok (.lload slot, 2) ∧ pc' = pc + 2) ∨ ∃ k : Fin 4, (k : Nat) = slot ∧ decode cc pc = .ok (.lload_n k, 1) ∧ pc' = pc + 1
def isSt (cc : ByteArray) (pc slot pc' : Nat) : Prop := (decode cc pc = .ok (.lstore slot, 2) ∧ pc' = pc + 2) ∨ ∃ k : Fin 4, (k : Nat) = slot ∧ decode cc pc = .ok (.lstore_n k, 1) ∧ pc' = pc + 1
section
variable {p : Program} {l : Launch} {e : Env} {R : Room} {s : State} {m : MethodId} {args : Array Value} {below : List Frame} {meth : Method} {c : Code} {H : Heap} {locs : List Loc} {cells slots : Nat} {Q : State → Prop} {pc : Nat} {ls : Array Slot} {rest : List Value} {cc : ByteArray} {h0 n nL : Nat} {Y : Nat → Int}
theorem st_ld {pc' i : Nat} (hx : p.tables.exec = Jvm.exec) (hb : c.code = cc) (hl : lv_has ls nL (LL h0 n Y)) (hi : i < n) (hd : isLd cc pc (2 * i + 1) pc') (k : W p l e R s m args below meth c H locs cells slots Q (F0 m pc' ls (.long (zI (Y i)) :: rest))) : W p l e R s m args below meth c H locs cells slots Q (F0 m pc ls rest) := by
  rcases hd with ⟨h, rfl⟩ | ⟨j, hj, h, rfl⟩
  · exact lv_lload hx hb h (LL_at hl hi) k
  · exact lv_lload_n hx hb h hj (LL_at hl hi) k
theorem st_st {pc' k n' : Nat} {Z : Nat → Int} {v : Int} (hx : p.tables.exec = Jvm.exec) (hb : c.code = cc) (hl : lv_has ls nL (LL h0 n Y)) (hn : 2 * k + 2 < nL) (hd : isSt cc pc (2 * k + 1) pc') (hk : Z k = v) (hZ : ∀ i, i < n' → i ≠ k → i < n ∧ Z i = Y i) (kk : ∀ ls', lv_has ls' nL (LL h0 n' Z) → W p l e R s m args below meth c H locs cells slots Q (F0 m pc' ls' rest)) : W p l e R s m args below meth c H locs cells slots Q (F0 m pc ls (.long (zI v) :: rest)) := by
  rcases hd with ⟨h, rfl⟩ | ⟨j, hj, h, rfl⟩
  · exact lv_lstore hx hb h hl hn rfl (fun ls' hl' => kk ls' (LL_st hl' hk hZ))
  · exact lv_lstore_n hx hb h hj hl hn rfl (fun ls' hl' => kk ls' (LL_st hl' hk hZ))
theorem zup_st {k n : Nat} {Y : Nat → Int} {v : Int} : ∀ i, i < n → i ≠ k → i < n ∧ zup Y k v i = Y i := fun _ h1 h2 => ⟨h1, zup_n h2⟩
def isF (cc : ByteArray) (pc pc' i k idx : Nat) : Prop := ∃ p1 p2, isLd cc pc (2 * i + 1) p1 ∧ isLd cc p1 (2 * k + 1) p2 ∧ decode cc p2 = .ok (.ldc2_w idx, 3) ∧ decode cc (p2 + 3) = .ok (.lmul, 1) ∧ decode cc (p2 + 3 + 1) = .ok (.lsub, 1) ∧ isSt cc (p2 + 3 + 1 + 1) (2 * i + 1) pc'
def isN (cc : ByteArray) (pc pc' i k idx : Nat) : Prop := ∃ p1 p2, isLd cc pc (2 * i + 1) p1 ∧ isLd cc p1 (2 * k + 1) p2 ∧ decode cc p2 = .ok (.ldc2_w idx, 3) ∧ decode cc (p2 + 3) = .ok (.land, 1) ∧ decode cc (p2 + 3 + 1) = .ok (.ladd, 1) ∧ isSt cc (p2 + 3 + 1 + 1) (2 * i + 1) pc'
def isC (cc : ByteArray) (pc pc' i : Nat) : Prop := ∃ p1 p2 p3 p4, isLd cc pc (2 * (i + 1) + 1) p1 ∧ isLd cc p1 (2 * i + 1) p2 ∧ decode cc p2 = .ok (.bipush 28, 2) ∧ decode cc (p2 + 2) = .ok (.lshr, 1) ∧ decode cc (p2 + 2 + 1) = .ok (.ladd, 1) ∧ isSt cc (p2 + 2 + 1 + 1) (2 * (i + 1) + 1) p3 ∧ isLd cc p3 (2 * i + 1) p4 ∧ decode cc p4 = .ok (.ldc2_w 40, 3) ∧ decode cc (p4 + 3) = .ok (.land, 1) ∧ isSt cc (p4 + 3 + 1) (2 * i + 1) pc'
theorem st_sub {pc' i k idx : Nat} {Kc : Int64} {K v : Int} (hx : p.tables.exec = Jvm.exec) (hb : c.code = cc) (hown : s.vm.findClass RX2 = some m.cls) (hc : (Cond.constantLong RX2 idx Kc).before args s = true) (hKc : Kc = zI K) (hl : lv_has ls nL (LL h0 n Y)) (hn : 2 * n < nL) (hi : i < n) (hk : k < n) (hv : v = Y i - Y k * K) (hd : isF cc pc pc' i k idx) (kk : ∀ ls', lv_has ls' nL (LL h0 n (zup Y i v)) → W p l e R s m args below meth c H locs cells slots Q (F0 m pc' ls' rest)) : W p l e R s m args below meth c H locs cells slots Q (F0 m pc ls rest) := by
  obtain ⟨p1, p2, d1, d2, d3, d4, d5, d6⟩ := hd
  refine st_ld hx hb hl hi d1 ?_
  refine st_ld hx hb hl hk d2 ?_
  refine lv_ldc2 hx hb hown hc d3 ?_
  refine lv_lmul hx hb d4 ?_
  refine lv_lsub hx hb d5 ?_
  refine wt_l (y := zI v) (by rw [hKc, zI_mul, zI_sub, hv]) ?_
  exact st_st hx hb hl (by omega) d6 zup_s zup_st kk
theorem st_and {pc' i k idx : Nat} {Kc : Int64} {K v : Int} (hx : p.tables.exec = Jvm.exec) (hb : c.code = cc) (hown : s.vm.findClass RX2 = some m.cls) (hc : (Cond.constantLong RX2 idx Kc).before args s = true) (hl : lv_has ls nL (LL h0 n Y)) (hKc : zI (Y k) &&& Kc = zI (-(Y k * K))) (hn : 2 * n < nL) (hi : i < n) (hk : k < n) (hv : v = Y i - Y k * K) (hd : isN cc pc pc' i k idx) (kk : ∀ ls', lv_has ls' nL (LL h0 n (zup Y i v)) → W p l e R s m args below meth c H locs cells slots Q (F0 m pc' ls' rest)) : W p l e R s m args below meth c H locs cells slots Q (F0 m pc ls rest) := by
  obtain ⟨p1, p2, d1, d2, d3, d4, d5, d6⟩ := hd
  refine st_ld hx hb hl hi d1 ?_
  refine st_ld hx hb hl hk d2 ?_
  refine lv_ldc2 hx hb hown hc d3 ?_
  refine lv_land hx hb d4 ?_
  refine lv_ladd hx hb d5 ?_
  refine wt_l (y := zI v) (by rw [hKc, zI_add, hv]; rfl) ?_
  exact st_st hx hb hl (by omega) d6 zup_s zup_st kk
theorem st_car {pc' i : Nat} (hx : p.tables.exec = Jvm.exec) (hb : c.code = cc) (hown : s.vm.findClass RX2 = some m.cls) (hc : (Cond.constantLong RX2 40 268435455).before args s = true) (hl : lv_has ls nL (LL h0 n Y)) (hn : 2 * n < nL) (hi : i + 1 < n) (hf : zfit (Y i)) (hd : isC cc pc pc' i) (kk : ∀ ls', lv_has ls' nL (LL h0 n (zcar i Y)) → W p l e R s m args below meth c H locs cells slots Q (F0 m pc' ls' rest)) : W p l e R s m args below meth c H locs cells slots Q (F0 m pc ls rest) := by
  obtain ⟨p1, p2, p3, p4, d1, d2, d3, d4, d5, d6, d7, d8, d9, d10⟩ := hd
  refine st_ld hx hb hl hi d1 ?_
  refine st_ld hx hb hl (by omega) d2 ?_
  refine lv_bipush (v := 28) hx hb d3 (by decide) ?_
  refine lv_lshr (v := zI (Y i / 268435456)) hx hb d4 (zI_shr28 hf.1 hf.2) ?_
  refine lv_ladd hx hb d5 ?_
  refine wt_l (zI_add _ _) ?_
  refine st_st (Z := zup Y (i + 1) (Y (i + 1) + Y i / 268435456)) hx hb hl (by omega) d6 zup_s zup_st (fun ls hl => ?_)
  refine st_ld hx hb hl (by omega) d7 ?_
  refine lv_ldc2 hx hb hown hc d8 ?_
  refine lv_land hx hb d9 ?_
  refine wt_l (y := zI (Y i % 268435456)) (by rw [zup_n (by omega), zI_and28]) ?_
  exact st_st hx hb hl (by omega) d10 zup_s zup_st kk
def isF5 (cc : ByteArray) (pc pc' k : Nat) : Prop := ∃ p1 p2 p3 p4, isF cc pc p1 (k - 9) k 42 ∧ isF cc p1 p2 (k - 8) k 44 ∧ isF cc p2 p3 (k - 7) k 46 ∧ isF cc p3 p4 (k - 6) k 48 ∧ isF cc p4 pc' (k - 5) k 50
theorem st_fold {pc' k : Nat} (hx : p.tables.exec = Jvm.exec) (hb : c.code = cc) (hown : s.vm.findClass RX2 = some m.cls) (hts : ∀ w ∈ lw_all, w.before args s = true) (hl : lv_has ls nL (LL h0 n Y)) (hn : 2 * n < nL) (h9 : 9 ≤ k) (hk : k < n) (hd : isF5 cc pc pc' k) (kk : ∀ ls', lv_has ls' nL (LL h0 n (zfold k Y)) → W p l e R s m args below meth c H locs cells slots Q (F0 m pc' ls' rest)) : W p l e R s m args below meth c H locs cells slots Q (F0 m pc ls rest) := by
  obtain ⟨p1, p2, p3, p4, d1, d2, d3, d4, d5⟩ := hd
  refine st_sub hx hb hown (hts _ q62) zk_0 hl hn (by omega) hk rfl d1 (fun ls hl => ?_)
  refine st_sub (v := Y (k - 8) - Y k * 19280294) hx hb hown (hts _ q63) zk_1 hl hn (by omega) hk ?_ d2 (fun ls hl => ?_)
  · rw [zup_n (by omega), zup_n (by omega)]
  refine st_sub (v := Y (k - 7) - Y k * 127719000) hx hb hown (hts _ q64) zk_2 hl hn (by omega) hk ?_ d3 (fun ls hl => ?_)
  · rw [zup_n (by omega), zup_n (by omega), zup_n (by omega), zup_n (by omega)]
  refine st_sub (v := Y (k - 6) - Y k * (-6428113)) hx hb hown (hts _ q65) zk_3 hl hn (by omega) hk ?_ d4 (fun ls hl => ?_)
  · rw [zup_n (by omega), zup_n (by omega), zup_n (by omega), zup_n (by omega), zup_n (by omega), zup_n (by omega)]
  refine st_sub (v := Y (k - 5) - Y k * 5343) hx hb hown (hts _ q66) zk_4 hl hn (by omega) hk ?_ d5 kk
  · rw [zup_n (by omega), zup_n (by omega), zup_n (by omega), zup_n (by omega), zup_n (by omega), zup_n (by omega), zup_n (by omega), zup_n (by omega)]
def isN5 (cc : ByteArray) (pc pc' : Nat) : Prop := ∃ p1 p2 p3 p4, isN cc pc p1 0 9 42 ∧ isN cc p1 p2 1 9 44 ∧ isN cc p2 p3 2 9 46 ∧ isN cc p3 p4 3 9 48 ∧ isN cc p4 pc' 4 9 50
theorem st_nfold {pc' : Nat} (hx : p.tables.exec = Jvm.exec) (hb : c.code = cc) (hown : s.vm.findClass RX2 = some m.cls) (hts : ∀ w ∈ lw_all, w.before args s = true) (hl : lv_has ls nL (LL h0 n Y)) (hn : 2 * n < nL) (hk : 9 < n) (h01 : Y 9 = 0 ∨ Y 9 = -1) (hd : isN5 cc pc pc') (kk : ∀ ls', lv_has ls' nL (LL h0 n (zfold 9 Y)) → W p l e R s m args below meth c H locs cells slots Q (F0 m pc' ls' rest)) : W p l e R s m args below meth c H locs cells slots Q (F0 m pc ls rest) := by
  obtain ⟨p1, p2, p3, p4, d1, d2, d3, d4, d5⟩ := hd
  refine st_and (k := 9) hx hb hown (hts _ q62) hl (zn_0 h01) hn (by omega) hk rfl d1 (fun ls hl => ?_)
  refine st_and (k := 9) (v := Y 1 - Y 9 * 19280294) hx hb hown (hts _ q63) hl (zn_1 h01) hn (by omega) hk rfl d2 (fun ls hl => ?_)
  refine st_and (k := 9) (v := Y 2 - Y 9 * 127719000) hx hb hown (hts _ q64) hl (zn_2 h01) hn (by omega) hk rfl d3 (fun ls hl => ?_)
  refine st_and (k := 9) (v := Y 3 - Y 9 * (-6428113)) hx hb hown (hts _ q65) hl (zn_3 h01) hn (by omega) hk rfl d4 (fun ls hl => ?_)
  exact st_and (k := 9) (v := Y 4 - Y 9 * 5343) hx hb hown (hts _ q66) hl (zn_4 h01) hn (by omega) hk rfl d5 kk
def isM (cc : ByteArray) (n : Nat) : List (Bool × Nat) → Nat → Nat → Prop
  | [], pc, pc' => pc = pc'
  | (true, k) :: ms, pc, pc' => ∃ q, (9 ≤ k ∧ k < n) ∧ isF5 cc pc q k ∧ isM cc n ms q pc'
  | (false, i) :: ms, pc, pc' => ∃ q, i + 1 < n ∧ isC cc pc q i ∧ isM cc n ms q pc'
theorem st_run (hx : p.tables.exec = Jvm.exec) (hb : c.code = cc) (hown : s.vm.findClass RX2 = some m.cls) (hts : ∀ w ∈ lw_all, w.before args s = true) (hn : 2 * n < nL) : ∀ (ms : List (Bool × Nat)) (pc pc' : Nat) (Y : Nat → Int) (ls : Array Slot), lv_has ls nL (LL h0 n Y) → isM cc n ms pc pc' → zok ms Y → (∀ ls', lv_has ls' nL (LL h0 n (zrun ms Y)) → W p l e R s m args below meth c H locs cells slots Q (F0 m pc' ls' rest)) → W p l e R s m args below meth c H locs cells slots Q (F0 m pc ls rest) := by
  intro ms
  induction ms with
  | nil =>
    intro pc pc' Y ls hl hd _ kk
    have hd : pc = pc' := hd
    subst hd
    exact kk ls hl
  | cons q ms ih =>
    intro pc pc' Y ls hl hd hok kk
    obtain ⟨t, k⟩ := q
    cases t
    · obtain ⟨q, h1, h2, h3⟩ := hd
      obtain ⟨g1, g2⟩ := hok
      exact st_car hx hb hown (hts _ q67) hl hn h1 g1 h2 (fun ls hl => ih q pc' (zcar k Y) ls hl h3 g2 kk)
    · obtain ⟨q, ⟨h0, h1⟩, h2, h3⟩ := hd
      exact st_fold hx hb hown hts hl hn h0 h1 h2 (fun ls hl => ih q pc' (zfold k Y) ls hl h3 hok kk)
/-- the last part's code: t at the place n -/
def isT (cc : ByteArray) (n pc pc' : Nat) : Prop := ∃ p1 p2 p3 p4 p5 p6 p7 p8 p9 pa pb pc1 pd pe pf,
  (isLd cc pc (2 * 8 + 1) p1 ∧ decode cc p1 = .ok (.bipush 27, 2) ∧ decode cc (p1 + 2) = .ok (.lushr, 1) ∧ isSt cc (p1 + 2 + 1) (2 * n + 1) p2) ∧
  (isLd cc p2 (2 * 9 + 1) p3 ∧ isLd cc p3 (2 * n + 1) p4 ∧ decode cc p4 = .ok (.ladd, 1) ∧ isSt cc (p4 + 1) (2 * 9 + 1) p5) ∧
  isM cc (n + 1) ((true, 9) :: cs8) p5 p6 ∧
  (isLd cc p6 (2 * 8 + 1) p7 ∧ decode cc p7 = .ok (.bipush 28, 2) ∧ decode cc (p7 + 2) = .ok (.lshr, 1) ∧ isSt cc (p7 + 2 + 1) (2 * 9 + 1) p8) ∧
  (isLd cc p8 (2 * 8 + 1) p9 ∧ decode cc p9 = .ok (.ldc2_w 40, 3) ∧ decode cc (p9 + 3) = .ok (.land, 1) ∧ isSt cc (p9 + 3 + 1) (2 * 8 + 1) pa) ∧
  (isLd cc pa (2 * 9 + 1) pb ∧ isLd cc pb (2 * n + 1) pc1 ∧ decode cc pc1 = .ok (.lsub, 1) ∧ isSt cc (pc1 + 1) (2 * 9 + 1) pd) ∧
  isN5 cc pd pe ∧ isM cc (n + 1) cs8 pe pf ∧ pf = pc'
theorem st_tail {pc' : Nat} (hx : p.tables.exec = Jvm.exec) (hb : c.code = cc) (hown : s.vm.findClass RX2 = some m.cls) (hts : ∀ w ∈ lw_all, w.before args s = true) (hl : lv_has ls nL (LL h0 n Y)) (hn : 2 * n + 2 < nL) (h10 : 10 ≤ n) (hY : zt_pre Y) (hd : isT cc n pc pc') (kk : ∀ ls', lv_has ls' nL (LL h0 (n + 1) (ztB n Y)) → W p l e R s m args below meth c H locs cells slots Q (F0 m pc' ls' rest)) : W p l e R s m args below meth c H locs cells slots Q (F0 m pc ls rest) := by
  obtain ⟨p1, p2, p3, p4, p5, p6, p7, p8, p9, pa, pb, pc1, pd, pe, pf, ⟨a1, a2, a3, a4⟩, ⟨b1, b2, b3, b4⟩, c1, ⟨e1, e2, e3, e4⟩, ⟨f1, f2, f3, f4⟩, ⟨g1, g2, g3, g4⟩, i1, j1, rfl⟩ := hd
  obtain ⟨k1, k2, k3, k4, -⟩ := zt_main h10 hY
  refine st_ld hx hb hl (by omega) a1 ?_
  refine lv_bipush (v := 27) hx hb a2 (by decide) ?_
  refine lv_lushr (v := zI (Y 8 / 134217728)) hx hb a3 (zI_ushr27 hY.2.2.1.1 (by have := hY.2.2.1.2; omega)) ?_
  refine st_st (Z := zup Y n (Y 8 / 134217728)) (n' := n + 1) hx hb hl hn a4 zup_s (fun i h1 h2 => ⟨by omega, zup_n h2⟩) (fun ls hl => ?_)
  refine st_ld hx hb hl (by omega) b1 ?_
  refine st_ld hx hb hl (by omega) b2 ?_
  refine lv_ladd hx hb b3 ?_
  refine wt_l (zI_add _ _) ?_
  refine st_st (Z := zt2 n Y) hx hb hl (by omega) b4 zup_s zup_st (fun ls hl => ?_)
  refine st_run hx hb hown hts (by omega) _ _ _ _ ls hl c1 k1 (fun ls hl => ?_)
  have hl : lv_has ls nL (LL h0 (n + 1) (zt4 n Y)) := hl
  refine st_ld hx hb hl (by omega) e1 ?_
  refine lv_bipush (v := 28) hx hb e2 (by decide) ?_
  refine lv_lshr (v := zI (zt4 n Y 8 / 268435456)) hx hb e3 (zI_shr28 k2.1 k2.2) ?_
  refine st_st (Z := zup (zt4 n Y) 9 (zt4 n Y 8 / 268435456)) hx hb hl (by omega) e4 zup_s zup_st (fun ls hl => ?_)
  refine st_ld hx hb hl (by omega) f1 ?_
  refine lv_ldc2 hx hb hown (hts _ q67) f2 ?_
  refine lv_land hx hb f3 ?_
  refine wt_l (zI_and28 _) ?_
  refine st_st (Z := zt5 (zt4 n Y)) hx hb hl (by omega) f4 zup_s zup_st (fun ls hl => ?_)
  refine st_ld hx hb hl (by omega) g1 ?_
  refine st_ld hx hb hl (by omega) g2 ?_
  refine lv_lsub hx hb g3 ?_
  refine wt_l (zI_sub _ _) ?_
  refine st_st (Z := zt6 n (zt5 (zt4 n Y))) hx hb hl (by omega) g4 zup_s zup_st (fun ls hl => ?_)
  have hl : lv_has ls nL (LL h0 (n + 1) (ztA n Y)) := hl
  refine st_nfold hx hb hown hts hl (by omega) (by omega) k3 i1 (fun ls hl => ?_)
  exact st_run hx hb hown hts (by omega) _ _ _ _ ls hl j1 k4 kk
end
theorem LL_9 {ls : Array Slot} {nL h0 n : Nat} {Y : Nat → Int} {y : Nat → Nat} (h : lv_has ls nL (LL h0 n Y)) (hn : 9 ≤ n) (hy : ∀ i, i < 9 → Y i = (y i : Int)) : lv_has ls nL [(1, .long (zI (y 0 : Int))), (3, .long (zI (y 1 : Int))), (5, .long (zI (y 2 : Int))), (7, .long (zI (y 3 : Int))), (9, .long (zI (y 4 : Int))), (11, .long (zI (y 5 : Int))), (13, .long (zI (y 6 : Int))), (15, .long (zI (y 7 : Int))), (17, .long (zI (y 8 : Int)))] := by
  refine lv_mono h (fun q hq => LL_mem.mpr (Or.inr ?_))
  simp only [List.mem_cons, List.not_mem_nil, or_false] at hq
  rcases hq with rfl | rfl | rfl | rfl | rfl | rfl | rfl | rfl | rfl
  · exact ⟨0, by omega, by rw [hy 0 (by decide)]⟩
  · exact ⟨1, by omega, by rw [hy 1 (by decide)]⟩
  · exact ⟨2, by omega, by rw [hy 2 (by decide)]⟩
  · exact ⟨3, by omega, by rw [hy 3 (by decide)]⟩
  · exact ⟨4, by omega, by rw [hy 4 (by decide)]⟩
  · exact ⟨5, by omega, by rw [hy 5 (by decide)]⟩
  · exact ⟨6, by omega, by rw [hy 6 (by decide)]⟩
  · exact ⟨7, by omega, by rw [hy 7 (by decide)]⟩
  · exact ⟨8, by omega, by rw [hy 8 (by decide)]⟩
end
section
/-! ===== the limbs read out of the bytes, and the bytes written back ===== -/
def y0 (f : Nat → Int32) (i : Nat) : Int := if i % 2 = 0 then ((yW f (7 * (i / 2)) : Nat) : Int) else ((yT f (7 * (i / 2) + 4) * 16 : Nat) : Int)
def y512 (f : Nat → Int32) (i : Nat) : Int := if i = 18 then ((ub (f 63) : Nat) : Int) else y0 f i
def y384 (f : Nat → Int32) (i : Nat) : Int := if i = 13 then ((yH f 46 * 16 : Nat) : Int) else y0 f i
theorem y0_e (f : Nat → Int32) (n : Nat) : y0 f (2 * n) = ((yW f (7 * n) : Nat) : Int) := by
  unfold y0
  rw [if_pos (by omega), show 2 * n / 2 = n by omega]
theorem y0_o (f : Nat → Int32) (n : Nat) : y0 f (2 * n + 1) = ((yT f (7 * n + 4) * 16 : Nat) : Int) := by
  unfold y0
  rw [if_neg (by omega), show (2 * n + 1) / 2 = n by omega]
theorem y0_V (f : Nat → Int32) : ∀ n, zV (2 * n) (y0 f) = ((num (7 * n) (fun j => ub (f j)) : Nat) : Int) := by
  intro n
  induction n with
  | zero => rfl
  | succ n ih =>
    show zV (2 * n + 2) (y0 f) = ((num (7 * n + 7) (fun j => ub (f j)) : Nat) : Int)
    have e : zV (2 * n + 2) (y0 f) = zV (2 * n) (y0 f) + y0 f (2 * n) * 268435456 ^ (2 * n) + y0 f (2 * n + 1) * 268435456 ^ (2 * n + 1) := rfl
    rw [e, ih, y0_e, y0_o, num_7, Int.pow_succ, Int.pow_mul]
    have p2 : (268435456 : Int) ^ 2 = 72057594037927936 := rfl
    have pc : ((72057594037927936 ^ n : Nat) : Int) = (72057594037927936 : Int) ^ n := by rw [Int.natCast_pow]; rfl
    rw [p2, ← pc]
    generalize 72057594037927936 ^ n = P
    generalize num (7 * n) (fun j => ub (f j)) = N
    generalize yW f (7 * n) = a
    generalize yT f (7 * n + 4) = b
    rw [Nat.add_mul, show b * 16 * 268435456 * P = b * 16 * (P * 268435456) by rw [Nat.mul_comm P, ← Nat.mul_assoc]]
    simp only [Int.natCast_add, Int.natCast_mul]
    rw [Int.add_assoc]
    rfl
theorem y512_V (f : Nat → Int32) : zV 19 (y512 f) = ((num 64 (fun j => ub (f j)) : Nat) : Int) := by
  have e : zV 19 (y512 f) = zV 18 (y512 f) + y512 f 18 * 268435456 ^ 18 := rfl
  have e2 : zV 18 (y512 f) = zV 18 (y0 f) := zV_congr 18 (fun i hi => by unfold y512; rw [if_neg (by omega)])
  have e3 : zV 18 (y0 f) = ((num 63 (fun j => ub (f j)) : Nat) : Int) := y0_V f 9
  have e4 : y512 f 18 = ((ub (f 63) : Nat) : Int) := rfl
  have e5 : num 64 (fun j => ub (f j)) = num 63 (fun j => ub (f j)) + ub (f 63) * 256 ^ 63 := rfl
  have e6 : (268435456 : Int) ^ 18 = ((256 ^ 63 : Nat) : Int) := by decide +kernel
  rw [e, e2, e3, e4, e5, e6, Int.natCast_add, Int.natCast_mul]
theorem y384_V (f : Nat → Int32) : zV 14 (y384 f) = ((num 48 (fun j => ub (f j)) : Nat) : Int) := by
  have e : zV 14 (y384 f) = zV 12 (y384 f) + y384 f 12 * 268435456 ^ 12 + y384 f 13 * 268435456 ^ 13 := rfl
  have e2 : zV 12 (y384 f) = zV 12 (y0 f) := zV_congr 12 (fun i hi => by unfold y384; rw [if_neg (by omega)])
  have e3 : zV 12 (y0 f) = ((num 42 (fun j => ub (f j)) : Nat) : Int) := y0_V f 6
  have e4 : y384 f 13 = ((yH f 46 * 16 : Nat) : Int) := rfl
  have e7 : y384 f 12 = ((yW f 42 : Nat) : Int) := rfl
  have e5 : num 48 (fun j => ub (f j)) = num 42 (fun j => ub (f j)) + ub (f 42) * 256 ^ 42 + ub (f 43) * 256 ^ 43 + ub (f 44) * 256 ^ 44 + ub (f 45) * 256 ^ 45 + ub (f 46) * 256 ^ 46 + ub (f 47) * 256 ^ 47 := rfl
  have e6 : (268435456 : Int) ^ 12 = ((256 ^ 42 : Nat) : Int) := by decide +kernel
  have e8 : (268435456 : Int) ^ 13 = ((256 ^ 42 * 268435456 : Nat) : Int) := by decide +kernel
  rw [e, e2, e3, e4, e7, e5, e6, e8, p256 42 1, p256 42 2, p256 42 3, p256 42 4, p256 42 5]
  generalize 256 ^ 42 = P
  generalize num 42 (fun j => ub (f j)) = N
  unfold yW yH
  show _ + ((ub (f 42) + ub (f 43) * 256 + ub (f 44) * 65536 + ub (f 45) * 16777216 : Nat) : Int) * _ + (((ub (f 46) + ub (f 47) * 256) * 16 : Nat) : Int) * _ = _
  generalize ub (f 42) = a
  generalize ub (f 43) = b
  generalize ub (f 44) = c
  generalize ub (f 45) = d
  generalize ub (f 46) = g
  generalize ub (f 47) = h
  have m : ∀ x k : Nat, x * (P * k) = x * k * P := by intro x k; rw [Nat.mul_comm P, ← Nat.mul_assoc]
  rw [m, m, m, m, m]
  have e9 : N + (a + b * 256 + c * 65536 + d * 16777216) * P + (g + h * 256) * 16 * (P * 268435456) = N + a * P + b * 256 ^ 1 * P + c * 256 ^ 2 * P + d * 256 ^ 3 * P + g * 256 ^ 4 * P + h * 256 ^ 5 * P := by
    rw [m, show (g + h * 256) * 16 * 268435456 = g * 256 ^ 4 + h * 256 ^ 5 by omega, show a + b * 256 + c * 65536 + d * 16777216 = a + b * 256 ^ 1 + c * 256 ^ 2 + d * 256 ^ 3 by omega]
    simp only [Nat.add_mul]
    omega
  rw [← e9]
  simp only [Int.natCast_add, Int.natCast_mul]
theorem zin_range {Y : Nat → Int} {n : Nat} {g : Nat → Nat} (h : ∀ i, i < n → -((g i : Nat) : Int) ≤ Y i ∧ Y i ≤ ((g i : Nat) : Int)) : zin Y ((List.range n).map g) := by
  intro i hi
  rw [List.length_map, List.length_range] at hi
  have e : ((List.range n).map g).getD i 0 = g i := by
    rw [List.getD_eq_getElem?_getD, List.getElem?_map, List.getElem?_range hi]
    rfl
  rw [e]
  exact h i hi
def g512 (i : Nat) : Nat := if i = 18 then 255 else if i % 2 = 0 then 4294967295 else 268435456
def g384 (i : Nat) : Nat := if i = 13 then 268435456 else if i % 2 = 0 then 4294967295 else 268435456
theorem y0_in (f : Nat → Int32) (i : Nat) : 0 ≤ y0 f i ∧ y0 f i ≤ (((if i % 2 = 0 then 4294967295 else 268435456 : Nat)) : Int) := by
  unfold y0
  have a := yW_lt f (7 * (i / 2))
  have b := yT_lt f (7 * (i / 2) + 4)
  by_cases h : i % 2 = 0
  · rw [if_pos h, if_pos h]; omega
  · rw [if_neg h, if_neg h]; omega
theorem y512_in (f : Nat → Int32) : zin (y512 f) ((List.range 19).map g512) := by
  refine zin_range (fun i _ => ?_)
  unfold y512 g512
  have a := ub_lt (f 63)
  have b := y0_in f i
  by_cases h : i = 18
  · rw [if_pos h, if_pos h]; omega
  · rw [if_neg h, if_neg h]; omega
theorem y384_in (f : Nat → Int32) : zin (y384 f) ((List.range 14).map g384) := by
  refine zin_range (fun i _ => ?_)
  unfold y384 g384
  have a := yH_lt f 46
  have b := y0_in f i
  by_cases h : i = 13
  · rw [if_pos h, if_pos h]; omega
  · rw [if_neg h, if_neg h]; omega
def ms512' : List (Bool × Nat) := [(true, 18), (false, 16), (true, 17), (true, 16), (false, 14), (true, 15), (true, 14), (false, 12), (true, 13), (false, 11), (true, 12), (false, 10), (true, 11), (false, 9), (true, 10)]
def ms384' : List (Bool × Nat) := [(false, 12), (true, 13), (false, 11), (true, 12), (false, 10), (true, 11), (false, 9), (true, 10)]
def ms512 : List (Bool × Nat) := ms512' ++ [(false, 7), (false, 8)]
def ms384 : List (Bool × Nat) := ms384' ++ [(false, 7), (false, 8)]
def bnd (M : List Nat) : Bool := (List.range 7).all (fun i => Nat.ble (M.getD i 0) 288230376151711744) && Nat.ble (M.getD 9 0) 2147483648 && Nat.blt 9 M.length
theorem ms512_v : vchk ms512 19 = some 10 := by decide +kernel
theorem ms384_v : vchk ms384 14 = some 10 := by decide +kernel
theorem ms512_m : mok ms512 ((List.range 19).map g512) = true := by decide +kernel
theorem ms384_m : mok ms384 ((List.range 14).map g384) = true := by decide +kernel
theorem ms512_b : bnd (mrun ms512 ((List.range 19).map g512)) = true := by decide +kernel
theorem ms384_b : bnd (mrun ms384 ((List.range 14).map g384)) = true := by decide +kernel
theorem red_pre {ms ms' : List (Bool × Nat)} {M : List Nat} {Y : Nat → Int} (he : ms = ms' ++ [(false, 7), (false, 8)]) (hm : mok ms M = true) (hb : bnd (mrun ms M) = true) (hin : zin Y M) : zok ms Y ∧ zt_pre (zrun ms Y) := by
  obtain ⟨h1, h2⟩ := mok_ok ms Y M hin hm
  refine ⟨h1, ?_⟩
  unfold bnd at hb
  simp only [Bool.and_eq_true, List.all_eq_true, List.mem_range, Nat.ble_eq, Nat.blt_eq] at hb
  obtain ⟨⟨b1, b2⟩, b3⟩ := hb
  refine ⟨fun i hi => ?_, ?_, ?_, ?_⟩
  · have a := h2 i (by omega)
    have b := b1 i hi
    omega
  · rw [he, zrun_app]
    show 0 ≤ zcar 8 (zcar 7 (zrun ms' Y)) 7 ∧ zcar 8 (zcar 7 (zrun ms' Y)) 7 < _
    rw [zcar_lo (by decide), zcar_at]
    exact zmodB _
  · rw [he, zrun_app]
    show 0 ≤ zcar 8 (zcar 7 (zrun ms' Y)) 8 ∧ zcar 8 (zcar 7 (zrun ms' Y)) 8 < _
    rw [zcar_at]
    exact zmodB _
  · have a := h2 9 (by omega)
    omega
/-- the limbs at the end are those of the number's rest -/
theorem red_end {ms : List (Bool × Nat)} {n n0 N : Nat} {Y : Nat → Int} (hn : 10 ≤ n) (hv : vchk ms n0 = some 10) (hY : zt_pre (zrun ms Y)) (hN : zV n0 Y = (N : Int)) : ∃ y : Nat → Nat, (∀ i, i < 9 → ztB n (zrun ms Y) i = (y i : Int)) ∧ (∀ i, i < 8 → y i < 268435456) ∧ y 8 < 4294967296 ∧ y 0 + y 1 * 268435456 + y 2 * 72057594037927936 + y 3 * 19342813113834066795298816 + y 4 * 5192296858534827628530496329220096 + y 5 * 1393796574908163946345982392040522594123776 + y 6 * 374144419156711147060143317175368453031918731001856 + y 7 * 100433627766186892221372630771322662657637687111424552206336 + y 8 * 26959946667150639794667015087019630673637144422540572481103610249216 = N % nL := by
  obtain ⟨-, -, -, -, h1, h2, h3, K1, h4⟩ := zt_main hn hY
  obtain ⟨K2, h5⟩ := zV_run ms n0 10 hv Y
  generalize ztB n (zrun ms Y) = Z at *
  have e : ∀ i, i < 9 → Z i = ((Z i).toNat : Int) := by
    intro i hi
    rcases Nat.lt_or_ge i 8 with q | q
    · have := h1 i q; omega
    · rw [show i = 8 by omega]; omega
  refine ⟨fun i => (Z i).toNat, e, fun i hi => by have := h1 i hi; show (Z i).toNat < _; omega, by show (Z 8).toNat < _; omega, ?_⟩
  have hR : zV 9 Z = (N : Int) - (K1 + K2) * zL := by rw [h4, h5, hN, Int.add_mul]; omega
  have hmod : zV 9 Z = (N : Int) % zL := by
    have : zV 9 Z % zL = (N : Int) % zL := by rw [hR, Int.sub_mul_emod_self_right]
    rw [← this, Int.emod_eq_of_lt h3.1 h3.2]
  have hL : zL = ((nL : Nat) : Int) := rfl
  rw [hL, ← Int.natCast_emod, zV9] at hmod
  have g0 := e 0 (by decide)
  have g1 := e 1 (by decide)
  have g2 := e 2 (by decide)
  have g3 := e 3 (by decide)
  have g4 := e 4 (by decide)
  have g5 := e 5 (by decide)
  have g6 := e 6 (by decide)
  have g7 := e 7 (by decide)
  have g8 := e 8 (by decide)
  generalize N % nL = r at *
  show (Z 0).toNat + (Z 1).toNat * _ + (Z 2).toNat * _ + (Z 3).toNat * _ + (Z 4).toNat * _ + (Z 5).toNat * _ + (Z 6).toNat * _ + (Z 7).toNat * _ + (Z 8).toNat * _ = r
  omega
def eAll (f : Nat → Int32) (y : Nat → Nat) : Nat → Int32 := enc32 (enc56 (enc56 (enc56 (enc56 f 0 (y 0 + y 1 * 268435456)) 7 (y 2 + y 3 * 268435456)) 14 (y 4 + y 5 * 268435456)) 21 (y 6 + y 7 * 268435456)) 28 (y 8)
theorem eAll_num (f : Nat → Int32) (y : Nat → Nat) (h : ∀ i, i < 8 → y i < 268435456) (h8 : y 8 < 4294967296) : num 32 (fun j => ub (eAll f y j)) = y 0 + y 1 * 268435456 + y 2 * 72057594037927936 + y 3 * 19342813113834066795298816 + y 4 * 5192296858534827628530496329220096 + y 5 * 1393796574908163946345982392040522594123776 + y 6 * 374144419156711147060143317175368453031918731001856 + y 7 * 100433627766186892221372630771322662657637687111424552206336 + y 8 * 26959946667150639794667015087019630673637144422540572481103610249216 := by
  have h0 := h 0 (by decide)
  have h1 := h 1 (by decide)
  have h2 := h 2 (by decide)
  have h3 := h 3 (by decide)
  have h4 := h 4 (by decide)
  have h5 := h 5 (by decide)
  have h6 := h 6 (by decide)
  have h7 := h 7 (by decide)
  have a5 := enc32_num (enc56 (enc56 (enc56 (enc56 f 0 (y 0 + y 1 * 268435456)) 7 (y 2 + y 3 * 268435456)) 14 (y 4 + y 5 * 268435456)) 21 (y 6 + y 7 * 268435456)) 28 (y 8) h8
  have a4 := enc56_num (enc56 (enc56 (enc56 f 0 (y 0 + y 1 * 268435456)) 7 (y 2 + y 3 * 268435456)) 14 (y 4 + y 5 * 268435456)) 21 (y 6 + y 7 * 268435456) (by omega)
  have a3 := enc56_num (enc56 (enc56 f 0 (y 0 + y 1 * 268435456)) 7 (y 2 + y 3 * 268435456)) 14 (y 4 + y 5 * 268435456) (by omega)
  have a2 := enc56_num (enc56 f 0 (y 0 + y 1 * 268435456)) 7 (y 2 + y 3 * 268435456) (by omega)
  have a1 := enc56_num f 0 (y 0 + y 1 * 268435456) (by omega)
  have a5 : num 32 (fun j => ub (eAll f y j)) = _ := a5
  have a4 : num 28 _ = num 21 _ + _ * 256 ^ 21 := a4
  have a3 : num 21 _ = num 14 _ + _ * 256 ^ 14 := a3
  have a2 : num 14 _ = num 7 _ + _ * 256 ^ 7 := a2
  have a1 : num 7 _ = 0 + _ * 256 ^ 0 := a1
  rw [a5, a4, a3, a2, a1]
  omega
end
section
/-! ===== Scalar25519.reduce512, reduce384 ===== -/
/-- a start that knows the heap's size -/
def PcZ (D : va_G) (dB dN : ClassId) (av : List Value) (ws : va_W) (sz : Nat) : Array Value → State → Prop := va_Pc av (fun U => U.heap.size = sz ∧ va_P D vwCl ws U.heap ∧ va_K D vwCl (tyL dB dN) U ∧ va_D (fun _ => True) ws)
theorem PcZ.pre {s : State} {H : Heap} {D : va_G} {dB dN : ClassId} {av : List Value} {ws : va_W} (hP : va_P D vwCl ws H) (hK : va_K D vwCl (tyL dB dN) s) {A : Nat → Prop} (hD : va_D A ws) : PreS s H (PcZ D dB dN av ws H.size) av :=
  ⟨fun a U g mk q => by obtain ⟨q0, qz, qP, qK, qD⟩ := q; exact ⟨q0, qz, qP, va_K.moved (u := U) (U := U.calling g mk a) (Vm.Alike.refl U.vm) qK, qD⟩, fun U hU hW => ⟨rfl, by rw [hU], by rw [hU]; exact hP, va_K.moved hW.alike hK, hD.weaken (fun _ _ _ _ => trivial)⟩⟩
/-- a new array of bytes is the answer, nothing old is changed -/
def Qn (dB : ClassId) (nn : Nat) (post : (Nat → Int32) → Prop) : Array Value → State → Outcome → State → Prop := fun _ st o t => ∃ (a : Nat) (g : Nat → Int32), o = .returned (some (.ref a)) ∧ st.heap.size ≤ a ∧ t.heap[a]? = some (vp_cell dB (nn, .inl g)) ∧ st.heap.size ≤ t.heap.size ∧ (∀ x, x < st.heap.size → t.heap[x]? = st.heap[x]?) ∧ post g
section
variable {p : Program} {l : Launch} {e : Env} {R : Room} {s : State} {m : MethodId} {args : Array Value} {below : List Frame} {meth : Method} {c : Code} {H : Heap} {locs : List Loc} {cells slots : Nat} {Q : State → Prop} {pc : Nat} {ls : Array Slot} {rest st0 : List Value}
theorem wc_new {a : Array Value} {D : va_G} {cl : List vw_C} {A : Nat → Prop} {ws : va_W} {H0 : Heap} {dB : ClassId} {nn mc ms : Nat} {post : (Nat → Int32) → Prop} {free : Addr → Prop} (hr : CallRun p l e R s m args below meth c H locs cells slots mc ms (F0 m pc ls st0) rest (Qn dB nn post a) free) (hP : va_P D cl ws H) (hD : va_D A ws) (hS : va_S A H0 H locs) (hA : ∀ q, H0.size ≤ q → A q) (hf : ∀ x, free x → A x)
    (kk : ∀ (b : Nat) (g : Nat → Int32) (H1 : Heap) (locs1 : List Loc), post g → va_P D cl (ws ++ [(b, .inl (dB, nn, .inl g))]) H1 → va_D A (ws ++ [(b, .inl (dB, nn, .inl g))]) → va_S A H0 H1 locs1 → W p l e R s m args below meth c H1 locs1 (cells + mc) (slots + ms) Q (F0 m (pc + 3) ls (.ref b :: rest))) : W p l e R s m args below meth c H locs cells slots Q (F0 m pc ls st0) := by
  intro T hT X
  obtain ⟨v', st₀, t, T', L, h0, X', hL, e1, ⟨b, g, hv, hb, hc, hz, hk, hp⟩, st⟩ := hr T hT X
  cases hv
  subst h0
  obtain ⟨t2, a1, b1⟩ := kk b g t.heap (locs ++ L) hp (va_P.app (hP.kept (fun k q hq => hk q.1 ((hP k q hq).lt))) (fun k x hx => by
      have hz : k < 1 := (List.getElem?_eq_some_iff.mp hx).1
      rw [show k = 0 by omega] at hx
      cases hx
      exact hc)) (va_D.app hD ⟨fun i j x y hx hy _ => by
        have h1 : i < 1 := (List.getElem?_eq_some_iff.mp hx).1
        have h2 : j < 1 := (List.getElem?_eq_some_iff.mp hy).1
        omega, fun k x hx => by
        have hz : k < 1 := (List.getElem?_eq_some_iff.mp hx).1
        rw [show k = 0 by omega] at hx
        cases hx
        exact hA b (Nat.le_trans hS.1 hb)⟩ (fun i j x y hx hy hxy => by
        have h2 : j < 1 := (List.getElem?_eq_some_iff.mp hy).1
        rw [show j = 0 by omega] at hy
        cases hy
        have := (hP i x hx).lt
        rw [hxy] at this
        exact absurd this (Nat.not_lt.mpr hb))) ⟨Nat.le_trans hS.1 hz, fun q h1 h2 => by rw [hk q (Nat.lt_of_lt_of_le h1 hS.1)]; exact hS.2.1 q h1 h2, fun q hq => by
      rcases List.mem_append.mp hq with h | h
      · exact hS.2.2 q h
      · exact hf _ (hL q h)⟩ T' e1 X'
  exact ⟨t2, st t2 a1, b1⟩
end
theorem zl_W (f : Nat → Int32) (o : Nat) : (nI (yW f o)).toInt64 &&& 4294967295 = zI ((yW f o : Nat) : Int) := by
  rw [zI_un, uI_nI (yW_lt f o)]
theorem zl_T (f : Nat → Int32) (o : Nat) : (nI (yT f o * 16)).toInt64 &&& 4294967295 = zI ((yT f o * 16 : Nat) : Int) := by
  have := yT_lt f o
  rw [zI_un, uI_nI (by omega)]
theorem zl_H (f : Nat → Int32) (o : Nat) : (nI (yH f o * 16)).toInt64 &&& 4294967295 = zI ((yH f o * 16 : Nat) : Int) := by
  have := yH_lt f o
  rw [zI_un, uI_nI (by omega)]

theorem f5X2_reduce512_259 : isF5 cX2_reduce512 259 314 18 := ⟨270, 281, 292, 303, ⟨261, 263, Or.inl ⟨dX2_reduce512_259, rfl⟩, Or.inl ⟨dX2_reduce512_261, rfl⟩, dX2_reduce512_263, dX2_reduce512_266, dX2_reduce512_267, Or.inl ⟨dX2_reduce512_268, rfl⟩⟩,
  ⟨272, 274, Or.inl ⟨dX2_reduce512_270, rfl⟩, Or.inl ⟨dX2_reduce512_272, rfl⟩, dX2_reduce512_274, dX2_reduce512_277, dX2_reduce512_278, Or.inl ⟨dX2_reduce512_279, rfl⟩⟩,
  ⟨283, 285, Or.inl ⟨dX2_reduce512_281, rfl⟩, Or.inl ⟨dX2_reduce512_283, rfl⟩, dX2_reduce512_285, dX2_reduce512_288, dX2_reduce512_289, Or.inl ⟨dX2_reduce512_290, rfl⟩⟩,
  ⟨294, 296, Or.inl ⟨dX2_reduce512_292, rfl⟩, Or.inl ⟨dX2_reduce512_294, rfl⟩, dX2_reduce512_296, dX2_reduce512_299, dX2_reduce512_300, Or.inl ⟨dX2_reduce512_301, rfl⟩⟩,
  ⟨305, 307, Or.inl ⟨dX2_reduce512_303, rfl⟩, Or.inl ⟨dX2_reduce512_305, rfl⟩, dX2_reduce512_307, dX2_reduce512_310, dX2_reduce512_311, Or.inl ⟨dX2_reduce512_312, rfl⟩⟩⟩
theorem icX2_reduce512_314 : isC cX2_reduce512 314 332 16 := ⟨316, 318, 324, 326, Or.inl ⟨dX2_reduce512_314, rfl⟩, Or.inl ⟨dX2_reduce512_316, rfl⟩, dX2_reduce512_318, dX2_reduce512_320, dX2_reduce512_321, Or.inl ⟨dX2_reduce512_322, rfl⟩, Or.inl ⟨dX2_reduce512_324, rfl⟩, dX2_reduce512_326, dX2_reduce512_329, Or.inl ⟨dX2_reduce512_330, rfl⟩⟩
theorem f5X2_reduce512_332 : isF5 cX2_reduce512 332 387 17 := ⟨343, 354, 365, 376, ⟨334, 336, Or.inl ⟨dX2_reduce512_332, rfl⟩, Or.inl ⟨dX2_reduce512_334, rfl⟩, dX2_reduce512_336, dX2_reduce512_339, dX2_reduce512_340, Or.inl ⟨dX2_reduce512_341, rfl⟩⟩,
  ⟨345, 347, Or.inl ⟨dX2_reduce512_343, rfl⟩, Or.inl ⟨dX2_reduce512_345, rfl⟩, dX2_reduce512_347, dX2_reduce512_350, dX2_reduce512_351, Or.inl ⟨dX2_reduce512_352, rfl⟩⟩,
  ⟨356, 358, Or.inl ⟨dX2_reduce512_354, rfl⟩, Or.inl ⟨dX2_reduce512_356, rfl⟩, dX2_reduce512_358, dX2_reduce512_361, dX2_reduce512_362, Or.inl ⟨dX2_reduce512_363, rfl⟩⟩,
  ⟨367, 369, Or.inl ⟨dX2_reduce512_365, rfl⟩, Or.inl ⟨dX2_reduce512_367, rfl⟩, dX2_reduce512_369, dX2_reduce512_372, dX2_reduce512_373, Or.inl ⟨dX2_reduce512_374, rfl⟩⟩,
  ⟨378, 380, Or.inl ⟨dX2_reduce512_376, rfl⟩, Or.inl ⟨dX2_reduce512_378, rfl⟩, dX2_reduce512_380, dX2_reduce512_383, dX2_reduce512_384, Or.inl ⟨dX2_reduce512_385, rfl⟩⟩⟩
theorem f5X2_reduce512_387 : isF5 cX2_reduce512 387 442 16 := ⟨398, 409, 420, 431, ⟨389, 391, Or.inl ⟨dX2_reduce512_387, rfl⟩, Or.inl ⟨dX2_reduce512_389, rfl⟩, dX2_reduce512_391, dX2_reduce512_394, dX2_reduce512_395, Or.inl ⟨dX2_reduce512_396, rfl⟩⟩,
  ⟨400, 402, Or.inl ⟨dX2_reduce512_398, rfl⟩, Or.inl ⟨dX2_reduce512_400, rfl⟩, dX2_reduce512_402, dX2_reduce512_405, dX2_reduce512_406, Or.inl ⟨dX2_reduce512_407, rfl⟩⟩,
  ⟨411, 413, Or.inl ⟨dX2_reduce512_409, rfl⟩, Or.inl ⟨dX2_reduce512_411, rfl⟩, dX2_reduce512_413, dX2_reduce512_416, dX2_reduce512_417, Or.inl ⟨dX2_reduce512_418, rfl⟩⟩,
  ⟨422, 424, Or.inl ⟨dX2_reduce512_420, rfl⟩, Or.inl ⟨dX2_reduce512_422, rfl⟩, dX2_reduce512_424, dX2_reduce512_427, dX2_reduce512_428, Or.inl ⟨dX2_reduce512_429, rfl⟩⟩,
  ⟨433, 435, Or.inl ⟨dX2_reduce512_431, rfl⟩, Or.inl ⟨dX2_reduce512_433, rfl⟩, dX2_reduce512_435, dX2_reduce512_438, dX2_reduce512_439, Or.inl ⟨dX2_reduce512_440, rfl⟩⟩⟩
theorem icX2_reduce512_442 : isC cX2_reduce512 442 460 14 := ⟨444, 446, 452, 454, Or.inl ⟨dX2_reduce512_442, rfl⟩, Or.inl ⟨dX2_reduce512_444, rfl⟩, dX2_reduce512_446, dX2_reduce512_448, dX2_reduce512_449, Or.inl ⟨dX2_reduce512_450, rfl⟩, Or.inl ⟨dX2_reduce512_452, rfl⟩, dX2_reduce512_454, dX2_reduce512_457, Or.inl ⟨dX2_reduce512_458, rfl⟩⟩
theorem f5X2_reduce512_460 : isF5 cX2_reduce512 460 515 15 := ⟨471, 482, 493, 504, ⟨462, 464, Or.inl ⟨dX2_reduce512_460, rfl⟩, Or.inl ⟨dX2_reduce512_462, rfl⟩, dX2_reduce512_464, dX2_reduce512_467, dX2_reduce512_468, Or.inl ⟨dX2_reduce512_469, rfl⟩⟩,
  ⟨473, 475, Or.inl ⟨dX2_reduce512_471, rfl⟩, Or.inl ⟨dX2_reduce512_473, rfl⟩, dX2_reduce512_475, dX2_reduce512_478, dX2_reduce512_479, Or.inl ⟨dX2_reduce512_480, rfl⟩⟩,
  ⟨484, 486, Or.inl ⟨dX2_reduce512_482, rfl⟩, Or.inl ⟨dX2_reduce512_484, rfl⟩, dX2_reduce512_486, dX2_reduce512_489, dX2_reduce512_490, Or.inl ⟨dX2_reduce512_491, rfl⟩⟩,
  ⟨495, 497, Or.inl ⟨dX2_reduce512_493, rfl⟩, Or.inl ⟨dX2_reduce512_495, rfl⟩, dX2_reduce512_497, dX2_reduce512_500, dX2_reduce512_501, Or.inl ⟨dX2_reduce512_502, rfl⟩⟩,
  ⟨506, 508, Or.inl ⟨dX2_reduce512_504, rfl⟩, Or.inl ⟨dX2_reduce512_506, rfl⟩, dX2_reduce512_508, dX2_reduce512_511, dX2_reduce512_512, Or.inl ⟨dX2_reduce512_513, rfl⟩⟩⟩
theorem f5X2_reduce512_515 : isF5 cX2_reduce512 515 570 14 := ⟨526, 537, 548, 559, ⟨517, 519, Or.inl ⟨dX2_reduce512_515, rfl⟩, Or.inl ⟨dX2_reduce512_517, rfl⟩, dX2_reduce512_519, dX2_reduce512_522, dX2_reduce512_523, Or.inl ⟨dX2_reduce512_524, rfl⟩⟩,
  ⟨528, 530, Or.inl ⟨dX2_reduce512_526, rfl⟩, Or.inl ⟨dX2_reduce512_528, rfl⟩, dX2_reduce512_530, dX2_reduce512_533, dX2_reduce512_534, Or.inl ⟨dX2_reduce512_535, rfl⟩⟩,
  ⟨539, 541, Or.inl ⟨dX2_reduce512_537, rfl⟩, Or.inl ⟨dX2_reduce512_539, rfl⟩, dX2_reduce512_541, dX2_reduce512_544, dX2_reduce512_545, Or.inl ⟨dX2_reduce512_546, rfl⟩⟩,
  ⟨550, 552, Or.inl ⟨dX2_reduce512_548, rfl⟩, Or.inl ⟨dX2_reduce512_550, rfl⟩, dX2_reduce512_552, dX2_reduce512_555, dX2_reduce512_556, Or.inl ⟨dX2_reduce512_557, rfl⟩⟩,
  ⟨561, 563, Or.inl ⟨dX2_reduce512_559, rfl⟩, Or.inl ⟨dX2_reduce512_561, rfl⟩, dX2_reduce512_563, dX2_reduce512_566, dX2_reduce512_567, Or.inl ⟨dX2_reduce512_568, rfl⟩⟩⟩
theorem icX2_reduce512_570 : isC cX2_reduce512 570 588 12 := ⟨572, 574, 580, 582, Or.inl ⟨dX2_reduce512_570, rfl⟩, Or.inl ⟨dX2_reduce512_572, rfl⟩, dX2_reduce512_574, dX2_reduce512_576, dX2_reduce512_577, Or.inl ⟨dX2_reduce512_578, rfl⟩, Or.inl ⟨dX2_reduce512_580, rfl⟩, dX2_reduce512_582, dX2_reduce512_585, Or.inl ⟨dX2_reduce512_586, rfl⟩⟩
theorem f5X2_reduce512_588 : isF5 cX2_reduce512 588 643 13 := ⟨599, 610, 621, 632, ⟨590, 592, Or.inl ⟨dX2_reduce512_588, rfl⟩, Or.inl ⟨dX2_reduce512_590, rfl⟩, dX2_reduce512_592, dX2_reduce512_595, dX2_reduce512_596, Or.inl ⟨dX2_reduce512_597, rfl⟩⟩,
  ⟨601, 603, Or.inl ⟨dX2_reduce512_599, rfl⟩, Or.inl ⟨dX2_reduce512_601, rfl⟩, dX2_reduce512_603, dX2_reduce512_606, dX2_reduce512_607, Or.inl ⟨dX2_reduce512_608, rfl⟩⟩,
  ⟨612, 614, Or.inl ⟨dX2_reduce512_610, rfl⟩, Or.inl ⟨dX2_reduce512_612, rfl⟩, dX2_reduce512_614, dX2_reduce512_617, dX2_reduce512_618, Or.inl ⟨dX2_reduce512_619, rfl⟩⟩,
  ⟨623, 625, Or.inl ⟨dX2_reduce512_621, rfl⟩, Or.inl ⟨dX2_reduce512_623, rfl⟩, dX2_reduce512_625, dX2_reduce512_628, dX2_reduce512_629, Or.inl ⟨dX2_reduce512_630, rfl⟩⟩,
  ⟨634, 636, Or.inl ⟨dX2_reduce512_632, rfl⟩, Or.inl ⟨dX2_reduce512_634, rfl⟩, dX2_reduce512_636, dX2_reduce512_639, dX2_reduce512_640, Or.inl ⟨dX2_reduce512_641, rfl⟩⟩⟩
theorem icX2_reduce512_643 : isC cX2_reduce512 643 661 11 := ⟨645, 647, 653, 655, Or.inl ⟨dX2_reduce512_643, rfl⟩, Or.inl ⟨dX2_reduce512_645, rfl⟩, dX2_reduce512_647, dX2_reduce512_649, dX2_reduce512_650, Or.inl ⟨dX2_reduce512_651, rfl⟩, Or.inl ⟨dX2_reduce512_653, rfl⟩, dX2_reduce512_655, dX2_reduce512_658, Or.inl ⟨dX2_reduce512_659, rfl⟩⟩
theorem f5X2_reduce512_661 : isF5 cX2_reduce512 661 716 12 := ⟨672, 683, 694, 705, ⟨663, 665, Or.inl ⟨dX2_reduce512_661, rfl⟩, Or.inl ⟨dX2_reduce512_663, rfl⟩, dX2_reduce512_665, dX2_reduce512_668, dX2_reduce512_669, Or.inl ⟨dX2_reduce512_670, rfl⟩⟩,
  ⟨674, 676, Or.inl ⟨dX2_reduce512_672, rfl⟩, Or.inl ⟨dX2_reduce512_674, rfl⟩, dX2_reduce512_676, dX2_reduce512_679, dX2_reduce512_680, Or.inl ⟨dX2_reduce512_681, rfl⟩⟩,
  ⟨685, 687, Or.inl ⟨dX2_reduce512_683, rfl⟩, Or.inl ⟨dX2_reduce512_685, rfl⟩, dX2_reduce512_687, dX2_reduce512_690, dX2_reduce512_691, Or.inl ⟨dX2_reduce512_692, rfl⟩⟩,
  ⟨696, 698, Or.inl ⟨dX2_reduce512_694, rfl⟩, Or.inl ⟨dX2_reduce512_696, rfl⟩, dX2_reduce512_698, dX2_reduce512_701, dX2_reduce512_702, Or.inl ⟨dX2_reduce512_703, rfl⟩⟩,
  ⟨707, 709, Or.inl ⟨dX2_reduce512_705, rfl⟩, Or.inl ⟨dX2_reduce512_707, rfl⟩, dX2_reduce512_709, dX2_reduce512_712, dX2_reduce512_713, Or.inl ⟨dX2_reduce512_714, rfl⟩⟩⟩
theorem icX2_reduce512_716 : isC cX2_reduce512 716 734 10 := ⟨718, 720, 726, 728, Or.inl ⟨dX2_reduce512_716, rfl⟩, Or.inl ⟨dX2_reduce512_718, rfl⟩, dX2_reduce512_720, dX2_reduce512_722, dX2_reduce512_723, Or.inl ⟨dX2_reduce512_724, rfl⟩, Or.inl ⟨dX2_reduce512_726, rfl⟩, dX2_reduce512_728, dX2_reduce512_731, Or.inl ⟨dX2_reduce512_732, rfl⟩⟩
theorem f5X2_reduce512_734 : isF5 cX2_reduce512 734 789 11 := ⟨745, 756, 767, 778, ⟨736, 738, Or.inl ⟨dX2_reduce512_734, rfl⟩, Or.inl ⟨dX2_reduce512_736, rfl⟩, dX2_reduce512_738, dX2_reduce512_741, dX2_reduce512_742, Or.inl ⟨dX2_reduce512_743, rfl⟩⟩,
  ⟨747, 749, Or.inl ⟨dX2_reduce512_745, rfl⟩, Or.inl ⟨dX2_reduce512_747, rfl⟩, dX2_reduce512_749, dX2_reduce512_752, dX2_reduce512_753, Or.inl ⟨dX2_reduce512_754, rfl⟩⟩,
  ⟨758, 760, Or.inl ⟨dX2_reduce512_756, rfl⟩, Or.inl ⟨dX2_reduce512_758, rfl⟩, dX2_reduce512_760, dX2_reduce512_763, dX2_reduce512_764, Or.inl ⟨dX2_reduce512_765, rfl⟩⟩,
  ⟨769, 771, Or.inl ⟨dX2_reduce512_767, rfl⟩, Or.inl ⟨dX2_reduce512_769, rfl⟩, dX2_reduce512_771, dX2_reduce512_774, dX2_reduce512_775, Or.inl ⟨dX2_reduce512_776, rfl⟩⟩,
  ⟨780, 782, Or.inl ⟨dX2_reduce512_778, rfl⟩, Or.inl ⟨dX2_reduce512_780, rfl⟩, dX2_reduce512_782, dX2_reduce512_785, dX2_reduce512_786, Or.inl ⟨dX2_reduce512_787, rfl⟩⟩⟩
theorem icX2_reduce512_789 : isC cX2_reduce512 789 807 9 := ⟨791, 793, 799, 801, Or.inl ⟨dX2_reduce512_789, rfl⟩, Or.inl ⟨dX2_reduce512_791, rfl⟩, dX2_reduce512_793, dX2_reduce512_795, dX2_reduce512_796, Or.inl ⟨dX2_reduce512_797, rfl⟩, Or.inl ⟨dX2_reduce512_799, rfl⟩, dX2_reduce512_801, dX2_reduce512_804, Or.inl ⟨dX2_reduce512_805, rfl⟩⟩
theorem f5X2_reduce512_807 : isF5 cX2_reduce512 807 860 10 := ⟨816, 827, 838, 849, ⟨808, 810, Or.inr ⟨3, rfl, dX2_reduce512_807, rfl⟩, Or.inl ⟨dX2_reduce512_808, rfl⟩, dX2_reduce512_810, dX2_reduce512_813, dX2_reduce512_814, Or.inr ⟨3, rfl, dX2_reduce512_815, rfl⟩⟩,
  ⟨818, 820, Or.inl ⟨dX2_reduce512_816, rfl⟩, Or.inl ⟨dX2_reduce512_818, rfl⟩, dX2_reduce512_820, dX2_reduce512_823, dX2_reduce512_824, Or.inl ⟨dX2_reduce512_825, rfl⟩⟩,
  ⟨829, 831, Or.inl ⟨dX2_reduce512_827, rfl⟩, Or.inl ⟨dX2_reduce512_829, rfl⟩, dX2_reduce512_831, dX2_reduce512_834, dX2_reduce512_835, Or.inl ⟨dX2_reduce512_836, rfl⟩⟩,
  ⟨840, 842, Or.inl ⟨dX2_reduce512_838, rfl⟩, Or.inl ⟨dX2_reduce512_840, rfl⟩, dX2_reduce512_842, dX2_reduce512_845, dX2_reduce512_846, Or.inl ⟨dX2_reduce512_847, rfl⟩⟩,
  ⟨851, 853, Or.inl ⟨dX2_reduce512_849, rfl⟩, Or.inl ⟨dX2_reduce512_851, rfl⟩, dX2_reduce512_853, dX2_reduce512_856, dX2_reduce512_857, Or.inl ⟨dX2_reduce512_858, rfl⟩⟩⟩
theorem icX2_reduce512_860 : isC cX2_reduce512 860 878 7 := ⟨862, 864, 870, 872, Or.inl ⟨dX2_reduce512_860, rfl⟩, Or.inl ⟨dX2_reduce512_862, rfl⟩, dX2_reduce512_864, dX2_reduce512_866, dX2_reduce512_867, Or.inl ⟨dX2_reduce512_868, rfl⟩, Or.inl ⟨dX2_reduce512_870, rfl⟩, dX2_reduce512_872, dX2_reduce512_875, Or.inl ⟨dX2_reduce512_876, rfl⟩⟩
theorem icX2_reduce512_878 : isC cX2_reduce512 878 896 8 := ⟨880, 882, 888, 890, Or.inl ⟨dX2_reduce512_878, rfl⟩, Or.inl ⟨dX2_reduce512_880, rfl⟩, dX2_reduce512_882, dX2_reduce512_884, dX2_reduce512_885, Or.inl ⟨dX2_reduce512_886, rfl⟩, Or.inl ⟨dX2_reduce512_888, rfl⟩, dX2_reduce512_890, dX2_reduce512_893, Or.inl ⟨dX2_reduce512_894, rfl⟩⟩
theorem imX2_reduce512 : isM cX2_reduce512 19 ms512 259 896 := ⟨314, ⟨by decide, by decide⟩, f5X2_reduce512_259, 332, by decide, icX2_reduce512_314, 387, ⟨by decide, by decide⟩, f5X2_reduce512_332, 442, ⟨by decide, by decide⟩, f5X2_reduce512_387, 460, by decide, icX2_reduce512_442, 515, ⟨by decide, by decide⟩, f5X2_reduce512_460, 570, ⟨by decide, by decide⟩, f5X2_reduce512_515, 588, by decide, icX2_reduce512_570, 643, ⟨by decide, by decide⟩, f5X2_reduce512_588, 661, by decide, icX2_reduce512_643, 716, ⟨by decide, by decide⟩, f5X2_reduce512_661, 734, by decide, icX2_reduce512_716, 789, ⟨by decide, by decide⟩, f5X2_reduce512_734, 807, by decide, icX2_reduce512_789, 860, ⟨by decide, by decide⟩, f5X2_reduce512_807, 878, by decide, icX2_reduce512_860, 896, by decide, icX2_reduce512_878, rfl⟩
theorem f5X2_reduce512_910 : isF5 cX2_reduce512 910 961 9 := ⟨919, 928, 939, 950, ⟨911, 913, Or.inr ⟨1, rfl, dX2_reduce512_910, rfl⟩, Or.inl ⟨dX2_reduce512_911, rfl⟩, dX2_reduce512_913, dX2_reduce512_916, dX2_reduce512_917, Or.inr ⟨1, rfl, dX2_reduce512_918, rfl⟩⟩,
  ⟨920, 922, Or.inr ⟨3, rfl, dX2_reduce512_919, rfl⟩, Or.inl ⟨dX2_reduce512_920, rfl⟩, dX2_reduce512_922, dX2_reduce512_925, dX2_reduce512_926, Or.inr ⟨3, rfl, dX2_reduce512_927, rfl⟩⟩,
  ⟨930, 932, Or.inl ⟨dX2_reduce512_928, rfl⟩, Or.inl ⟨dX2_reduce512_930, rfl⟩, dX2_reduce512_932, dX2_reduce512_935, dX2_reduce512_936, Or.inl ⟨dX2_reduce512_937, rfl⟩⟩,
  ⟨941, 943, Or.inl ⟨dX2_reduce512_939, rfl⟩, Or.inl ⟨dX2_reduce512_941, rfl⟩, dX2_reduce512_943, dX2_reduce512_946, dX2_reduce512_947, Or.inl ⟨dX2_reduce512_948, rfl⟩⟩,
  ⟨952, 954, Or.inl ⟨dX2_reduce512_950, rfl⟩, Or.inl ⟨dX2_reduce512_952, rfl⟩, dX2_reduce512_954, dX2_reduce512_957, dX2_reduce512_958, Or.inl ⟨dX2_reduce512_959, rfl⟩⟩⟩
theorem icX2_reduce512_961 : isC cX2_reduce512 961 974 0 := ⟨962, 963, 968, 969, Or.inr ⟨3, rfl, dX2_reduce512_961, rfl⟩, Or.inr ⟨1, rfl, dX2_reduce512_962, rfl⟩, dX2_reduce512_963, dX2_reduce512_965, dX2_reduce512_966, Or.inr ⟨3, rfl, dX2_reduce512_967, rfl⟩, Or.inr ⟨1, rfl, dX2_reduce512_968, rfl⟩, dX2_reduce512_969, dX2_reduce512_972, Or.inr ⟨1, rfl, dX2_reduce512_973, rfl⟩⟩
theorem icX2_reduce512_974 : isC cX2_reduce512 974 989 1 := ⟨976, 977, 983, 984, Or.inl ⟨dX2_reduce512_974, rfl⟩, Or.inr ⟨3, rfl, dX2_reduce512_976, rfl⟩, dX2_reduce512_977, dX2_reduce512_979, dX2_reduce512_980, Or.inl ⟨dX2_reduce512_981, rfl⟩, Or.inr ⟨3, rfl, dX2_reduce512_983, rfl⟩, dX2_reduce512_984, dX2_reduce512_987, Or.inr ⟨3, rfl, dX2_reduce512_988, rfl⟩⟩
theorem icX2_reduce512_989 : isC cX2_reduce512 989 1007 2 := ⟨991, 993, 999, 1001, Or.inl ⟨dX2_reduce512_989, rfl⟩, Or.inl ⟨dX2_reduce512_991, rfl⟩, dX2_reduce512_993, dX2_reduce512_995, dX2_reduce512_996, Or.inl ⟨dX2_reduce512_997, rfl⟩, Or.inl ⟨dX2_reduce512_999, rfl⟩, dX2_reduce512_1001, dX2_reduce512_1004, Or.inl ⟨dX2_reduce512_1005, rfl⟩⟩
theorem icX2_reduce512_1007 : isC cX2_reduce512 1007 1025 3 := ⟨1009, 1011, 1017, 1019, Or.inl ⟨dX2_reduce512_1007, rfl⟩, Or.inl ⟨dX2_reduce512_1009, rfl⟩, dX2_reduce512_1011, dX2_reduce512_1013, dX2_reduce512_1014, Or.inl ⟨dX2_reduce512_1015, rfl⟩, Or.inl ⟨dX2_reduce512_1017, rfl⟩, dX2_reduce512_1019, dX2_reduce512_1022, Or.inl ⟨dX2_reduce512_1023, rfl⟩⟩
theorem icX2_reduce512_1025 : isC cX2_reduce512 1025 1043 4 := ⟨1027, 1029, 1035, 1037, Or.inl ⟨dX2_reduce512_1025, rfl⟩, Or.inl ⟨dX2_reduce512_1027, rfl⟩, dX2_reduce512_1029, dX2_reduce512_1031, dX2_reduce512_1032, Or.inl ⟨dX2_reduce512_1033, rfl⟩, Or.inl ⟨dX2_reduce512_1035, rfl⟩, dX2_reduce512_1037, dX2_reduce512_1040, Or.inl ⟨dX2_reduce512_1041, rfl⟩⟩
theorem icX2_reduce512_1043 : isC cX2_reduce512 1043 1061 5 := ⟨1045, 1047, 1053, 1055, Or.inl ⟨dX2_reduce512_1043, rfl⟩, Or.inl ⟨dX2_reduce512_1045, rfl⟩, dX2_reduce512_1047, dX2_reduce512_1049, dX2_reduce512_1050, Or.inl ⟨dX2_reduce512_1051, rfl⟩, Or.inl ⟨dX2_reduce512_1053, rfl⟩, dX2_reduce512_1055, dX2_reduce512_1058, Or.inl ⟨dX2_reduce512_1059, rfl⟩⟩
theorem icX2_reduce512_1061 : isC cX2_reduce512 1061 1079 6 := ⟨1063, 1065, 1071, 1073, Or.inl ⟨dX2_reduce512_1061, rfl⟩, Or.inl ⟨dX2_reduce512_1063, rfl⟩, dX2_reduce512_1065, dX2_reduce512_1067, dX2_reduce512_1068, Or.inl ⟨dX2_reduce512_1069, rfl⟩, Or.inl ⟨dX2_reduce512_1071, rfl⟩, dX2_reduce512_1073, dX2_reduce512_1076, Or.inl ⟨dX2_reduce512_1077, rfl⟩⟩
theorem icX2_reduce512_1079 : isC cX2_reduce512 1079 1097 7 := ⟨1081, 1083, 1089, 1091, Or.inl ⟨dX2_reduce512_1079, rfl⟩, Or.inl ⟨dX2_reduce512_1081, rfl⟩, dX2_reduce512_1083, dX2_reduce512_1085, dX2_reduce512_1086, Or.inl ⟨dX2_reduce512_1087, rfl⟩, Or.inl ⟨dX2_reduce512_1089, rfl⟩, dX2_reduce512_1091, dX2_reduce512_1094, Or.inl ⟨dX2_reduce512_1095, rfl⟩⟩
theorem iaX2_reduce512 : isM cX2_reduce512 20 ((true, 9) :: cs8) 910 1097 := ⟨961, ⟨by decide, by decide⟩, f5X2_reduce512_910, 974, by decide, icX2_reduce512_961, 989, by decide, icX2_reduce512_974, 1007, by decide, icX2_reduce512_989, 1025, by decide, icX2_reduce512_1007, 1043, by decide, icX2_reduce512_1025, 1061, by decide, icX2_reduce512_1043, 1079, by decide, icX2_reduce512_1061, 1097, by decide, icX2_reduce512_1079, rfl⟩
theorem n5X2_reduce512_1119 : isN5 cX2_reduce512 1119 1170 := ⟨1128, 1137, 1148, 1159, ⟨1120, 1122, Or.inr ⟨1, rfl, dX2_reduce512_1119, rfl⟩, Or.inl ⟨dX2_reduce512_1120, rfl⟩, dX2_reduce512_1122, dX2_reduce512_1125, dX2_reduce512_1126, Or.inr ⟨1, rfl, dX2_reduce512_1127, rfl⟩⟩,
  ⟨1129, 1131, Or.inr ⟨3, rfl, dX2_reduce512_1128, rfl⟩, Or.inl ⟨dX2_reduce512_1129, rfl⟩, dX2_reduce512_1131, dX2_reduce512_1134, dX2_reduce512_1135, Or.inr ⟨3, rfl, dX2_reduce512_1136, rfl⟩⟩,
  ⟨1139, 1141, Or.inl ⟨dX2_reduce512_1137, rfl⟩, Or.inl ⟨dX2_reduce512_1139, rfl⟩, dX2_reduce512_1141, dX2_reduce512_1144, dX2_reduce512_1145, Or.inl ⟨dX2_reduce512_1146, rfl⟩⟩,
  ⟨1150, 1152, Or.inl ⟨dX2_reduce512_1148, rfl⟩, Or.inl ⟨dX2_reduce512_1150, rfl⟩, dX2_reduce512_1152, dX2_reduce512_1155, dX2_reduce512_1156, Or.inl ⟨dX2_reduce512_1157, rfl⟩⟩,
  ⟨1161, 1163, Or.inl ⟨dX2_reduce512_1159, rfl⟩, Or.inl ⟨dX2_reduce512_1161, rfl⟩, dX2_reduce512_1163, dX2_reduce512_1166, dX2_reduce512_1167, Or.inl ⟨dX2_reduce512_1168, rfl⟩⟩⟩
theorem icX2_reduce512_1170 : isC cX2_reduce512 1170 1183 0 := ⟨1171, 1172, 1177, 1178, Or.inr ⟨3, rfl, dX2_reduce512_1170, rfl⟩, Or.inr ⟨1, rfl, dX2_reduce512_1171, rfl⟩, dX2_reduce512_1172, dX2_reduce512_1174, dX2_reduce512_1175, Or.inr ⟨3, rfl, dX2_reduce512_1176, rfl⟩, Or.inr ⟨1, rfl, dX2_reduce512_1177, rfl⟩, dX2_reduce512_1178, dX2_reduce512_1181, Or.inr ⟨1, rfl, dX2_reduce512_1182, rfl⟩⟩
theorem icX2_reduce512_1183 : isC cX2_reduce512 1183 1198 1 := ⟨1185, 1186, 1192, 1193, Or.inl ⟨dX2_reduce512_1183, rfl⟩, Or.inr ⟨3, rfl, dX2_reduce512_1185, rfl⟩, dX2_reduce512_1186, dX2_reduce512_1188, dX2_reduce512_1189, Or.inl ⟨dX2_reduce512_1190, rfl⟩, Or.inr ⟨3, rfl, dX2_reduce512_1192, rfl⟩, dX2_reduce512_1193, dX2_reduce512_1196, Or.inr ⟨3, rfl, dX2_reduce512_1197, rfl⟩⟩
theorem icX2_reduce512_1198 : isC cX2_reduce512 1198 1216 2 := ⟨1200, 1202, 1208, 1210, Or.inl ⟨dX2_reduce512_1198, rfl⟩, Or.inl ⟨dX2_reduce512_1200, rfl⟩, dX2_reduce512_1202, dX2_reduce512_1204, dX2_reduce512_1205, Or.inl ⟨dX2_reduce512_1206, rfl⟩, Or.inl ⟨dX2_reduce512_1208, rfl⟩, dX2_reduce512_1210, dX2_reduce512_1213, Or.inl ⟨dX2_reduce512_1214, rfl⟩⟩
theorem icX2_reduce512_1216 : isC cX2_reduce512 1216 1234 3 := ⟨1218, 1220, 1226, 1228, Or.inl ⟨dX2_reduce512_1216, rfl⟩, Or.inl ⟨dX2_reduce512_1218, rfl⟩, dX2_reduce512_1220, dX2_reduce512_1222, dX2_reduce512_1223, Or.inl ⟨dX2_reduce512_1224, rfl⟩, Or.inl ⟨dX2_reduce512_1226, rfl⟩, dX2_reduce512_1228, dX2_reduce512_1231, Or.inl ⟨dX2_reduce512_1232, rfl⟩⟩
theorem icX2_reduce512_1234 : isC cX2_reduce512 1234 1252 4 := ⟨1236, 1238, 1244, 1246, Or.inl ⟨dX2_reduce512_1234, rfl⟩, Or.inl ⟨dX2_reduce512_1236, rfl⟩, dX2_reduce512_1238, dX2_reduce512_1240, dX2_reduce512_1241, Or.inl ⟨dX2_reduce512_1242, rfl⟩, Or.inl ⟨dX2_reduce512_1244, rfl⟩, dX2_reduce512_1246, dX2_reduce512_1249, Or.inl ⟨dX2_reduce512_1250, rfl⟩⟩
theorem icX2_reduce512_1252 : isC cX2_reduce512 1252 1270 5 := ⟨1254, 1256, 1262, 1264, Or.inl ⟨dX2_reduce512_1252, rfl⟩, Or.inl ⟨dX2_reduce512_1254, rfl⟩, dX2_reduce512_1256, dX2_reduce512_1258, dX2_reduce512_1259, Or.inl ⟨dX2_reduce512_1260, rfl⟩, Or.inl ⟨dX2_reduce512_1262, rfl⟩, dX2_reduce512_1264, dX2_reduce512_1267, Or.inl ⟨dX2_reduce512_1268, rfl⟩⟩
theorem icX2_reduce512_1270 : isC cX2_reduce512 1270 1288 6 := ⟨1272, 1274, 1280, 1282, Or.inl ⟨dX2_reduce512_1270, rfl⟩, Or.inl ⟨dX2_reduce512_1272, rfl⟩, dX2_reduce512_1274, dX2_reduce512_1276, dX2_reduce512_1277, Or.inl ⟨dX2_reduce512_1278, rfl⟩, Or.inl ⟨dX2_reduce512_1280, rfl⟩, dX2_reduce512_1282, dX2_reduce512_1285, Or.inl ⟨dX2_reduce512_1286, rfl⟩⟩
theorem icX2_reduce512_1288 : isC cX2_reduce512 1288 1306 7 := ⟨1290, 1292, 1298, 1300, Or.inl ⟨dX2_reduce512_1288, rfl⟩, Or.inl ⟨dX2_reduce512_1290, rfl⟩, dX2_reduce512_1292, dX2_reduce512_1294, dX2_reduce512_1295, Or.inl ⟨dX2_reduce512_1296, rfl⟩, Or.inl ⟨dX2_reduce512_1298, rfl⟩, dX2_reduce512_1300, dX2_reduce512_1303, Or.inl ⟨dX2_reduce512_1304, rfl⟩⟩
theorem ibX2_reduce512 : isM cX2_reduce512 20 cs8 1170 1306 := ⟨1183, by decide, icX2_reduce512_1170, 1198, by decide, icX2_reduce512_1183, 1216, by decide, icX2_reduce512_1198, 1234, by decide, icX2_reduce512_1216, 1252, by decide, icX2_reduce512_1234, 1270, by decide, icX2_reduce512_1252, 1288, by decide, icX2_reduce512_1270, 1306, by decide, icX2_reduce512_1288, rfl⟩
theorem itX2_reduce512 : isT cX2_reduce512 19 896 1306 := ⟨898, 903, 905, 907, 910, 1097, 1099, 1104, 1106, 1112, 1114, 1116, 1119, 1170, 1306,
  ⟨Or.inl ⟨dX2_reduce512_896, rfl⟩, dX2_reduce512_898, dX2_reduce512_900, Or.inl ⟨dX2_reduce512_901, rfl⟩⟩, ⟨Or.inl ⟨dX2_reduce512_903, rfl⟩, Or.inl ⟨dX2_reduce512_905, rfl⟩, dX2_reduce512_907, Or.inl ⟨dX2_reduce512_908, rfl⟩⟩, iaX2_reduce512,
  ⟨Or.inl ⟨dX2_reduce512_1097, rfl⟩, dX2_reduce512_1099, dX2_reduce512_1101, Or.inl ⟨dX2_reduce512_1102, rfl⟩⟩, ⟨Or.inl ⟨dX2_reduce512_1104, rfl⟩, dX2_reduce512_1106, dX2_reduce512_1109, Or.inl ⟨dX2_reduce512_1110, rfl⟩⟩, ⟨Or.inl ⟨dX2_reduce512_1112, rfl⟩, Or.inl ⟨dX2_reduce512_1114, rfl⟩, dX2_reduce512_1116, Or.inl ⟨dX2_reduce512_1117, rfl⟩⟩, n5X2_reduce512_1119, ibX2_reduce512, rfl⟩
set_option maxHeartbeats 8000000 in
set_option maxRecDepth 100000 in
/-- X2_reduce512: the rest of the number of 64 bytes by the order, in 32 bytes -/
theorem metX2_reduce512 (l : Launch) (D : va_G) (dB dN : ClassId) (h0 sz : Nat) (f : Nat → Int32) : Met l yX2_reduce512 (ws_ yX2_reduce512 cX2_reduce512 42 (some (.array .byte))) ({ frames := 2, cells := 1, slots := 32, locals := 45 }) (PcZ D dB dN [.ref h0] [(h0, .inl (dB, 64, .inl f))] sz) (Qn dB 32 (fun g => num 32 (fun j => ub (g j)) = num 64 (fun j => ub (f j)) % nL)) 1 32 (fun x => sz ≤ x) := by
  refine Met.ofW (cc := cX2_reduce512) (maxL := 42) (ret := (some (.array .byte))) (by decide) rfl ?_
  intro p e s m args below meth c s₁ B hml hv
  obtain ⟨rfl, hsz, hP, hK, hD0⟩ := hv
  subst hsz
  have hx := B.exec
  have hb := B.bytes
  have hr := B.returns
  have hts := atoms_spec (ws := ws_ yX2_reduce512 cX2_reduce512 42 _) B.pre
  have hts : ∀ w ∈ lw_all, w.before _ s = true := fun w h => hts w (List.mem_cons_of_mem _ h)
  have hown : s.vm.findClass RX2 = some m.cls := findClass_of_methodNamed B.named
  have hlocks := B.notSynchronized
  have hl := lv_entry ([.ref h0]) (n := 42) (Nat.le_of_ble_eq_true rfl)
  rw [lg_entry_eq]
  generalize (lg_sl ([.ref h0]) ++ List.replicate (42 - (lg_sl ([.ref h0])).length) Slot.unset).toArray = ls at hl ⊢
  have hl : lv_has ls 42 [(0, .ref h0)] := hl
  have hP0 := hP
  have hS : va_S (fun x => s.heap.size ≤ x) s.heap s.heap [] := va_S.rf
  have hD := hD0
  have hl : lv_has ls 42 (LL h0 0 (y512 f)) := hl
  refine lv_aload_n hx hb dX2_reduce512_0 rfl (LL_0 hl) ?_
  refine lv_iconst (v := nI 0) hx hb dX2_reduce512_1 (by decide) ?_
  refine wc_read (W.runS (As := [.ref h0, .int (nI 0)]) (rest := []) ⟨hx, hb, hml, hown, hts⟩ (metX3_decode32 l D dB dN h0 64 f 0 (by decide) (by decide)) (va_cwS 2 hts (lw_S q54 q55 q6 q56) rfl rfl rfl (by decide +kernel) ⟨Nat.le_of_ble_eq_true rfl, Nat.le_of_ble_eq_true rfl⟩) (PcH.pre hP hK hD) rfl rfl hl.1 rfl (lv_room (Nat.le_of_ble_eq_true rfl)) dX2_reduce512_2 ⟨Nat.le_of_ble_eq_true rfl, Nat.le_of_ble_eq_true rfl⟩) ?_
  refine lv_i2l (v := (nI (yW f 0)).toInt64) hx hb dX2_reduce512_5 rfl ?_
  refine lv_ldc2 hx hb hown (hts _ q57) dX2_reduce512_6 ?_
  refine lv_land hx hb dX2_reduce512_9 ?_
  refine wt_l (y := zI (y512 f 0)) (zl_W f 0) ?_
  refine st_st (k := 0) (n' := 1) (pc' := 11) (Z := y512 f) hx hb hl (by decide) (Or.inr ⟨1, rfl, dX2_reduce512_10, rfl⟩) rfl (fun j h1 h2 => ⟨by omega, rfl⟩) (fun ls hl => ?_)
  refine lv_aload_n hx hb dX2_reduce512_11 rfl (LL_0 hl) ?_
  refine lv_iconst (v := nI 4) hx hb dX2_reduce512_12 (by decide) ?_
  refine wc_read (W.runS (As := [.ref h0, .int (nI 4)]) (rest := []) ⟨hx, hb, hml, hown, hts⟩ (metX3_decode24 l D dB dN h0 64 f 4 (by decide) (by decide)) (va_cwS 2 hts (lw_S q58 q59 q6 q60) rfl rfl rfl (by decide +kernel) ⟨Nat.le_of_ble_eq_true rfl, Nat.le_of_ble_eq_true rfl⟩) (PcH.pre hP hK hD) rfl rfl hl.1 rfl (lv_room (Nat.le_of_ble_eq_true rfl)) dX2_reduce512_13 ⟨Nat.le_of_ble_eq_true rfl, Nat.le_of_ble_eq_true rfl⟩) ?_
  refine lv_iconst (v := 4) hx hb dX2_reduce512_16 (by decide) ?_
  refine lv_ishl hx hb dX2_reduce512_17 ?_
  refine wt_i (y := nI (yT f 4 * 16)) (pk_shlN _ 4 (by decide +kernel) (by have := yT_lt f 4; omega)) ?_
  refine lv_i2l (v := (nI (yT f 4 * 16)).toInt64) hx hb dX2_reduce512_18 rfl ?_
  refine lv_ldc2 hx hb hown (hts _ q57) dX2_reduce512_19 ?_
  refine lv_land hx hb dX2_reduce512_22 ?_
  refine wt_l (y := zI (y512 f 1)) (zl_T f 4) ?_
  refine st_st (k := 1) (n' := 2) (pc' := 24) (Z := y512 f) hx hb hl (by decide) (Or.inr ⟨3, rfl, dX2_reduce512_23, rfl⟩) rfl (fun j h1 h2 => ⟨by omega, rfl⟩) (fun ls hl => ?_)
  refine lv_aload_n hx hb dX2_reduce512_24 rfl (LL_0 hl) ?_
  refine lv_bipush (v := nI 7) hx hb dX2_reduce512_25 (by decide) ?_
  refine wc_read (W.runS (As := [.ref h0, .int (nI 7)]) (rest := []) ⟨hx, hb, hml, hown, hts⟩ (metX3_decode32 l D dB dN h0 64 f 7 (by decide) (by decide)) (va_cwS 2 hts (lw_S q54 q55 q6 q56) rfl rfl rfl (by decide +kernel) ⟨Nat.le_of_ble_eq_true rfl, Nat.le_of_ble_eq_true rfl⟩) (PcH.pre hP hK hD) rfl rfl hl.1 rfl (lv_room (Nat.le_of_ble_eq_true rfl)) dX2_reduce512_27 ⟨Nat.le_of_ble_eq_true rfl, Nat.le_of_ble_eq_true rfl⟩) ?_
  refine lv_i2l (v := (nI (yW f 7)).toInt64) hx hb dX2_reduce512_30 rfl ?_
  refine lv_ldc2 hx hb hown (hts _ q57) dX2_reduce512_31 ?_
  refine lv_land hx hb dX2_reduce512_34 ?_
  refine wt_l (y := zI (y512 f 2)) (zl_W f 7) ?_
  refine st_st (k := 2) (n' := 3) (pc' := 37) (Z := y512 f) hx hb hl (by decide) (Or.inl ⟨dX2_reduce512_35, rfl⟩) rfl (fun j h1 h2 => ⟨by omega, rfl⟩) (fun ls hl => ?_)
  refine lv_aload_n hx hb dX2_reduce512_37 rfl (LL_0 hl) ?_
  refine lv_bipush (v := nI 11) hx hb dX2_reduce512_38 (by decide) ?_
  refine wc_read (W.runS (As := [.ref h0, .int (nI 11)]) (rest := []) ⟨hx, hb, hml, hown, hts⟩ (metX3_decode24 l D dB dN h0 64 f 11 (by decide) (by decide)) (va_cwS 2 hts (lw_S q58 q59 q6 q60) rfl rfl rfl (by decide +kernel) ⟨Nat.le_of_ble_eq_true rfl, Nat.le_of_ble_eq_true rfl⟩) (PcH.pre hP hK hD) rfl rfl hl.1 rfl (lv_room (Nat.le_of_ble_eq_true rfl)) dX2_reduce512_40 ⟨Nat.le_of_ble_eq_true rfl, Nat.le_of_ble_eq_true rfl⟩) ?_
  refine lv_iconst (v := 4) hx hb dX2_reduce512_43 (by decide) ?_
  refine lv_ishl hx hb dX2_reduce512_44 ?_
  refine wt_i (y := nI (yT f 11 * 16)) (pk_shlN _ 4 (by decide +kernel) (by have := yT_lt f 11; omega)) ?_
  refine lv_i2l (v := (nI (yT f 11 * 16)).toInt64) hx hb dX2_reduce512_45 rfl ?_
  refine lv_ldc2 hx hb hown (hts _ q57) dX2_reduce512_46 ?_
  refine lv_land hx hb dX2_reduce512_49 ?_
  refine wt_l (y := zI (y512 f 3)) (zl_T f 11) ?_
  refine st_st (k := 3) (n' := 4) (pc' := 52) (Z := y512 f) hx hb hl (by decide) (Or.inl ⟨dX2_reduce512_50, rfl⟩) rfl (fun j h1 h2 => ⟨by omega, rfl⟩) (fun ls hl => ?_)
  refine lv_aload_n hx hb dX2_reduce512_52 rfl (LL_0 hl) ?_
  refine lv_bipush (v := nI 14) hx hb dX2_reduce512_53 (by decide) ?_
  refine wc_read (W.runS (As := [.ref h0, .int (nI 14)]) (rest := []) ⟨hx, hb, hml, hown, hts⟩ (metX3_decode32 l D dB dN h0 64 f 14 (by decide) (by decide)) (va_cwS 2 hts (lw_S q54 q55 q6 q56) rfl rfl rfl (by decide +kernel) ⟨Nat.le_of_ble_eq_true rfl, Nat.le_of_ble_eq_true rfl⟩) (PcH.pre hP hK hD) rfl rfl hl.1 rfl (lv_room (Nat.le_of_ble_eq_true rfl)) dX2_reduce512_55 ⟨Nat.le_of_ble_eq_true rfl, Nat.le_of_ble_eq_true rfl⟩) ?_
  refine lv_i2l (v := (nI (yW f 14)).toInt64) hx hb dX2_reduce512_58 rfl ?_
  refine lv_ldc2 hx hb hown (hts _ q57) dX2_reduce512_59 ?_
  refine lv_land hx hb dX2_reduce512_62 ?_
  refine wt_l (y := zI (y512 f 4)) (zl_W f 14) ?_
  refine st_st (k := 4) (n' := 5) (pc' := 65) (Z := y512 f) hx hb hl (by decide) (Or.inl ⟨dX2_reduce512_63, rfl⟩) rfl (fun j h1 h2 => ⟨by omega, rfl⟩) (fun ls hl => ?_)
  refine lv_aload_n hx hb dX2_reduce512_65 rfl (LL_0 hl) ?_
  refine lv_bipush (v := nI 18) hx hb dX2_reduce512_66 (by decide) ?_
  refine wc_read (W.runS (As := [.ref h0, .int (nI 18)]) (rest := []) ⟨hx, hb, hml, hown, hts⟩ (metX3_decode24 l D dB dN h0 64 f 18 (by decide) (by decide)) (va_cwS 2 hts (lw_S q58 q59 q6 q60) rfl rfl rfl (by decide +kernel) ⟨Nat.le_of_ble_eq_true rfl, Nat.le_of_ble_eq_true rfl⟩) (PcH.pre hP hK hD) rfl rfl hl.1 rfl (lv_room (Nat.le_of_ble_eq_true rfl)) dX2_reduce512_68 ⟨Nat.le_of_ble_eq_true rfl, Nat.le_of_ble_eq_true rfl⟩) ?_
  refine lv_iconst (v := 4) hx hb dX2_reduce512_71 (by decide) ?_
  refine lv_ishl hx hb dX2_reduce512_72 ?_
  refine wt_i (y := nI (yT f 18 * 16)) (pk_shlN _ 4 (by decide +kernel) (by have := yT_lt f 18; omega)) ?_
  refine lv_i2l (v := (nI (yT f 18 * 16)).toInt64) hx hb dX2_reduce512_73 rfl ?_
  refine lv_ldc2 hx hb hown (hts _ q57) dX2_reduce512_74 ?_
  refine lv_land hx hb dX2_reduce512_77 ?_
  refine wt_l (y := zI (y512 f 5)) (zl_T f 18) ?_
  refine st_st (k := 5) (n' := 6) (pc' := 80) (Z := y512 f) hx hb hl (by decide) (Or.inl ⟨dX2_reduce512_78, rfl⟩) rfl (fun j h1 h2 => ⟨by omega, rfl⟩) (fun ls hl => ?_)
  refine lv_aload_n hx hb dX2_reduce512_80 rfl (LL_0 hl) ?_
  refine lv_bipush (v := nI 21) hx hb dX2_reduce512_81 (by decide) ?_
  refine wc_read (W.runS (As := [.ref h0, .int (nI 21)]) (rest := []) ⟨hx, hb, hml, hown, hts⟩ (metX3_decode32 l D dB dN h0 64 f 21 (by decide) (by decide)) (va_cwS 2 hts (lw_S q54 q55 q6 q56) rfl rfl rfl (by decide +kernel) ⟨Nat.le_of_ble_eq_true rfl, Nat.le_of_ble_eq_true rfl⟩) (PcH.pre hP hK hD) rfl rfl hl.1 rfl (lv_room (Nat.le_of_ble_eq_true rfl)) dX2_reduce512_83 ⟨Nat.le_of_ble_eq_true rfl, Nat.le_of_ble_eq_true rfl⟩) ?_
  refine lv_i2l (v := (nI (yW f 21)).toInt64) hx hb dX2_reduce512_86 rfl ?_
  refine lv_ldc2 hx hb hown (hts _ q57) dX2_reduce512_87 ?_
  refine lv_land hx hb dX2_reduce512_90 ?_
  refine wt_l (y := zI (y512 f 6)) (zl_W f 21) ?_
  refine st_st (k := 6) (n' := 7) (pc' := 93) (Z := y512 f) hx hb hl (by decide) (Or.inl ⟨dX2_reduce512_91, rfl⟩) rfl (fun j h1 h2 => ⟨by omega, rfl⟩) (fun ls hl => ?_)
  refine lv_aload_n hx hb dX2_reduce512_93 rfl (LL_0 hl) ?_
  refine lv_bipush (v := nI 25) hx hb dX2_reduce512_94 (by decide) ?_
  refine wc_read (W.runS (As := [.ref h0, .int (nI 25)]) (rest := []) ⟨hx, hb, hml, hown, hts⟩ (metX3_decode24 l D dB dN h0 64 f 25 (by decide) (by decide)) (va_cwS 2 hts (lw_S q58 q59 q6 q60) rfl rfl rfl (by decide +kernel) ⟨Nat.le_of_ble_eq_true rfl, Nat.le_of_ble_eq_true rfl⟩) (PcH.pre hP hK hD) rfl rfl hl.1 rfl (lv_room (Nat.le_of_ble_eq_true rfl)) dX2_reduce512_96 ⟨Nat.le_of_ble_eq_true rfl, Nat.le_of_ble_eq_true rfl⟩) ?_
  refine lv_iconst (v := 4) hx hb dX2_reduce512_99 (by decide) ?_
  refine lv_ishl hx hb dX2_reduce512_100 ?_
  refine wt_i (y := nI (yT f 25 * 16)) (pk_shlN _ 4 (by decide +kernel) (by have := yT_lt f 25; omega)) ?_
  refine lv_i2l (v := (nI (yT f 25 * 16)).toInt64) hx hb dX2_reduce512_101 rfl ?_
  refine lv_ldc2 hx hb hown (hts _ q57) dX2_reduce512_102 ?_
  refine lv_land hx hb dX2_reduce512_105 ?_
  refine wt_l (y := zI (y512 f 7)) (zl_T f 25) ?_
  refine st_st (k := 7) (n' := 8) (pc' := 108) (Z := y512 f) hx hb hl (by decide) (Or.inl ⟨dX2_reduce512_106, rfl⟩) rfl (fun j h1 h2 => ⟨by omega, rfl⟩) (fun ls hl => ?_)
  refine lv_aload_n hx hb dX2_reduce512_108 rfl (LL_0 hl) ?_
  refine lv_bipush (v := nI 28) hx hb dX2_reduce512_109 (by decide) ?_
  refine wc_read (W.runS (As := [.ref h0, .int (nI 28)]) (rest := []) ⟨hx, hb, hml, hown, hts⟩ (metX3_decode32 l D dB dN h0 64 f 28 (by decide) (by decide)) (va_cwS 2 hts (lw_S q54 q55 q6 q56) rfl rfl rfl (by decide +kernel) ⟨Nat.le_of_ble_eq_true rfl, Nat.le_of_ble_eq_true rfl⟩) (PcH.pre hP hK hD) rfl rfl hl.1 rfl (lv_room (Nat.le_of_ble_eq_true rfl)) dX2_reduce512_111 ⟨Nat.le_of_ble_eq_true rfl, Nat.le_of_ble_eq_true rfl⟩) ?_
  refine lv_i2l (v := (nI (yW f 28)).toInt64) hx hb dX2_reduce512_114 rfl ?_
  refine lv_ldc2 hx hb hown (hts _ q57) dX2_reduce512_115 ?_
  refine lv_land hx hb dX2_reduce512_118 ?_
  refine wt_l (y := zI (y512 f 8)) (zl_W f 28) ?_
  refine st_st (k := 8) (n' := 9) (pc' := 121) (Z := y512 f) hx hb hl (by decide) (Or.inl ⟨dX2_reduce512_119, rfl⟩) rfl (fun j h1 h2 => ⟨by omega, rfl⟩) (fun ls hl => ?_)
  refine lv_aload_n hx hb dX2_reduce512_121 rfl (LL_0 hl) ?_
  refine lv_bipush (v := nI 32) hx hb dX2_reduce512_122 (by decide) ?_
  refine wc_read (W.runS (As := [.ref h0, .int (nI 32)]) (rest := []) ⟨hx, hb, hml, hown, hts⟩ (metX3_decode24 l D dB dN h0 64 f 32 (by decide) (by decide)) (va_cwS 2 hts (lw_S q58 q59 q6 q60) rfl rfl rfl (by decide +kernel) ⟨Nat.le_of_ble_eq_true rfl, Nat.le_of_ble_eq_true rfl⟩) (PcH.pre hP hK hD) rfl rfl hl.1 rfl (lv_room (Nat.le_of_ble_eq_true rfl)) dX2_reduce512_124 ⟨Nat.le_of_ble_eq_true rfl, Nat.le_of_ble_eq_true rfl⟩) ?_
  refine lv_iconst (v := 4) hx hb dX2_reduce512_127 (by decide) ?_
  refine lv_ishl hx hb dX2_reduce512_128 ?_
  refine wt_i (y := nI (yT f 32 * 16)) (pk_shlN _ 4 (by decide +kernel) (by have := yT_lt f 32; omega)) ?_
  refine lv_i2l (v := (nI (yT f 32 * 16)).toInt64) hx hb dX2_reduce512_129 rfl ?_
  refine lv_ldc2 hx hb hown (hts _ q57) dX2_reduce512_130 ?_
  refine lv_land hx hb dX2_reduce512_133 ?_
  refine wt_l (y := zI (y512 f 9)) (zl_T f 32) ?_
  refine st_st (k := 9) (n' := 10) (pc' := 136) (Z := y512 f) hx hb hl (by decide) (Or.inl ⟨dX2_reduce512_134, rfl⟩) rfl (fun j h1 h2 => ⟨by omega, rfl⟩) (fun ls hl => ?_)
  refine lv_aload_n hx hb dX2_reduce512_136 rfl (LL_0 hl) ?_
  refine lv_bipush (v := nI 35) hx hb dX2_reduce512_137 (by decide) ?_
  refine wc_read (W.runS (As := [.ref h0, .int (nI 35)]) (rest := []) ⟨hx, hb, hml, hown, hts⟩ (metX3_decode32 l D dB dN h0 64 f 35 (by decide) (by decide)) (va_cwS 2 hts (lw_S q54 q55 q6 q56) rfl rfl rfl (by decide +kernel) ⟨Nat.le_of_ble_eq_true rfl, Nat.le_of_ble_eq_true rfl⟩) (PcH.pre hP hK hD) rfl rfl hl.1 rfl (lv_room (Nat.le_of_ble_eq_true rfl)) dX2_reduce512_139 ⟨Nat.le_of_ble_eq_true rfl, Nat.le_of_ble_eq_true rfl⟩) ?_
  refine lv_i2l (v := (nI (yW f 35)).toInt64) hx hb dX2_reduce512_142 rfl ?_
  refine lv_ldc2 hx hb hown (hts _ q57) dX2_reduce512_143 ?_
  refine lv_land hx hb dX2_reduce512_146 ?_
  refine wt_l (y := zI (y512 f 10)) (zl_W f 35) ?_
  refine st_st (k := 10) (n' := 11) (pc' := 149) (Z := y512 f) hx hb hl (by decide) (Or.inl ⟨dX2_reduce512_147, rfl⟩) rfl (fun j h1 h2 => ⟨by omega, rfl⟩) (fun ls hl => ?_)
  refine lv_aload_n hx hb dX2_reduce512_149 rfl (LL_0 hl) ?_
  refine lv_bipush (v := nI 39) hx hb dX2_reduce512_150 (by decide) ?_
  refine wc_read (W.runS (As := [.ref h0, .int (nI 39)]) (rest := []) ⟨hx, hb, hml, hown, hts⟩ (metX3_decode24 l D dB dN h0 64 f 39 (by decide) (by decide)) (va_cwS 2 hts (lw_S q58 q59 q6 q60) rfl rfl rfl (by decide +kernel) ⟨Nat.le_of_ble_eq_true rfl, Nat.le_of_ble_eq_true rfl⟩) (PcH.pre hP hK hD) rfl rfl hl.1 rfl (lv_room (Nat.le_of_ble_eq_true rfl)) dX2_reduce512_152 ⟨Nat.le_of_ble_eq_true rfl, Nat.le_of_ble_eq_true rfl⟩) ?_
  refine lv_iconst (v := 4) hx hb dX2_reduce512_155 (by decide) ?_
  refine lv_ishl hx hb dX2_reduce512_156 ?_
  refine wt_i (y := nI (yT f 39 * 16)) (pk_shlN _ 4 (by decide +kernel) (by have := yT_lt f 39; omega)) ?_
  refine lv_i2l (v := (nI (yT f 39 * 16)).toInt64) hx hb dX2_reduce512_157 rfl ?_
  refine lv_ldc2 hx hb hown (hts _ q57) dX2_reduce512_158 ?_
  refine lv_land hx hb dX2_reduce512_161 ?_
  refine wt_l (y := zI (y512 f 11)) (zl_T f 39) ?_
  refine st_st (k := 11) (n' := 12) (pc' := 164) (Z := y512 f) hx hb hl (by decide) (Or.inl ⟨dX2_reduce512_162, rfl⟩) rfl (fun j h1 h2 => ⟨by omega, rfl⟩) (fun ls hl => ?_)
  refine lv_aload_n hx hb dX2_reduce512_164 rfl (LL_0 hl) ?_
  refine lv_bipush (v := nI 42) hx hb dX2_reduce512_165 (by decide) ?_
  refine wc_read (W.runS (As := [.ref h0, .int (nI 42)]) (rest := []) ⟨hx, hb, hml, hown, hts⟩ (metX3_decode32 l D dB dN h0 64 f 42 (by decide) (by decide)) (va_cwS 2 hts (lw_S q54 q55 q6 q56) rfl rfl rfl (by decide +kernel) ⟨Nat.le_of_ble_eq_true rfl, Nat.le_of_ble_eq_true rfl⟩) (PcH.pre hP hK hD) rfl rfl hl.1 rfl (lv_room (Nat.le_of_ble_eq_true rfl)) dX2_reduce512_167 ⟨Nat.le_of_ble_eq_true rfl, Nat.le_of_ble_eq_true rfl⟩) ?_
  refine lv_i2l (v := (nI (yW f 42)).toInt64) hx hb dX2_reduce512_170 rfl ?_
  refine lv_ldc2 hx hb hown (hts _ q57) dX2_reduce512_171 ?_
  refine lv_land hx hb dX2_reduce512_174 ?_
  refine wt_l (y := zI (y512 f 12)) (zl_W f 42) ?_
  refine st_st (k := 12) (n' := 13) (pc' := 177) (Z := y512 f) hx hb hl (by decide) (Or.inl ⟨dX2_reduce512_175, rfl⟩) rfl (fun j h1 h2 => ⟨by omega, rfl⟩) (fun ls hl => ?_)
  refine lv_aload_n hx hb dX2_reduce512_177 rfl (LL_0 hl) ?_
  refine lv_bipush (v := nI 46) hx hb dX2_reduce512_178 (by decide) ?_
  refine wc_read (W.runS (As := [.ref h0, .int (nI 46)]) (rest := []) ⟨hx, hb, hml, hown, hts⟩ (metX3_decode24 l D dB dN h0 64 f 46 (by decide) (by decide)) (va_cwS 2 hts (lw_S q58 q59 q6 q60) rfl rfl rfl (by decide +kernel) ⟨Nat.le_of_ble_eq_true rfl, Nat.le_of_ble_eq_true rfl⟩) (PcH.pre hP hK hD) rfl rfl hl.1 rfl (lv_room (Nat.le_of_ble_eq_true rfl)) dX2_reduce512_180 ⟨Nat.le_of_ble_eq_true rfl, Nat.le_of_ble_eq_true rfl⟩) ?_
  refine lv_iconst (v := 4) hx hb dX2_reduce512_183 (by decide) ?_
  refine lv_ishl hx hb dX2_reduce512_184 ?_
  refine wt_i (y := nI (yT f 46 * 16)) (pk_shlN _ 4 (by decide +kernel) (by have := yT_lt f 46; omega)) ?_
  refine lv_i2l (v := (nI (yT f 46 * 16)).toInt64) hx hb dX2_reduce512_185 rfl ?_
  refine lv_ldc2 hx hb hown (hts _ q57) dX2_reduce512_186 ?_
  refine lv_land hx hb dX2_reduce512_189 ?_
  refine wt_l (y := zI (y512 f 13)) (zl_T f 46) ?_
  refine st_st (k := 13) (n' := 14) (pc' := 192) (Z := y512 f) hx hb hl (by decide) (Or.inl ⟨dX2_reduce512_190, rfl⟩) rfl (fun j h1 h2 => ⟨by omega, rfl⟩) (fun ls hl => ?_)
  refine lv_aload_n hx hb dX2_reduce512_192 rfl (LL_0 hl) ?_
  refine lv_bipush (v := nI 49) hx hb dX2_reduce512_193 (by decide) ?_
  refine wc_read (W.runS (As := [.ref h0, .int (nI 49)]) (rest := []) ⟨hx, hb, hml, hown, hts⟩ (metX3_decode32 l D dB dN h0 64 f 49 (by decide) (by decide)) (va_cwS 2 hts (lw_S q54 q55 q6 q56) rfl rfl rfl (by decide +kernel) ⟨Nat.le_of_ble_eq_true rfl, Nat.le_of_ble_eq_true rfl⟩) (PcH.pre hP hK hD) rfl rfl hl.1 rfl (lv_room (Nat.le_of_ble_eq_true rfl)) dX2_reduce512_195 ⟨Nat.le_of_ble_eq_true rfl, Nat.le_of_ble_eq_true rfl⟩) ?_
  refine lv_i2l (v := (nI (yW f 49)).toInt64) hx hb dX2_reduce512_198 rfl ?_
  refine lv_ldc2 hx hb hown (hts _ q57) dX2_reduce512_199 ?_
  refine lv_land hx hb dX2_reduce512_202 ?_
  refine wt_l (y := zI (y512 f 14)) (zl_W f 49) ?_
  refine st_st (k := 14) (n' := 15) (pc' := 205) (Z := y512 f) hx hb hl (by decide) (Or.inl ⟨dX2_reduce512_203, rfl⟩) rfl (fun j h1 h2 => ⟨by omega, rfl⟩) (fun ls hl => ?_)
  refine lv_aload_n hx hb dX2_reduce512_205 rfl (LL_0 hl) ?_
  refine lv_bipush (v := nI 53) hx hb dX2_reduce512_206 (by decide) ?_
  refine wc_read (W.runS (As := [.ref h0, .int (nI 53)]) (rest := []) ⟨hx, hb, hml, hown, hts⟩ (metX3_decode24 l D dB dN h0 64 f 53 (by decide) (by decide)) (va_cwS 2 hts (lw_S q58 q59 q6 q60) rfl rfl rfl (by decide +kernel) ⟨Nat.le_of_ble_eq_true rfl, Nat.le_of_ble_eq_true rfl⟩) (PcH.pre hP hK hD) rfl rfl hl.1 rfl (lv_room (Nat.le_of_ble_eq_true rfl)) dX2_reduce512_208 ⟨Nat.le_of_ble_eq_true rfl, Nat.le_of_ble_eq_true rfl⟩) ?_
  refine lv_iconst (v := 4) hx hb dX2_reduce512_211 (by decide) ?_
  refine lv_ishl hx hb dX2_reduce512_212 ?_
  refine wt_i (y := nI (yT f 53 * 16)) (pk_shlN _ 4 (by decide +kernel) (by have := yT_lt f 53; omega)) ?_
  refine lv_i2l (v := (nI (yT f 53 * 16)).toInt64) hx hb dX2_reduce512_213 rfl ?_
  refine lv_ldc2 hx hb hown (hts _ q57) dX2_reduce512_214 ?_
  refine lv_land hx hb dX2_reduce512_217 ?_
  refine wt_l (y := zI (y512 f 15)) (zl_T f 53) ?_
  refine st_st (k := 15) (n' := 16) (pc' := 220) (Z := y512 f) hx hb hl (by decide) (Or.inl ⟨dX2_reduce512_218, rfl⟩) rfl (fun j h1 h2 => ⟨by omega, rfl⟩) (fun ls hl => ?_)
  refine lv_aload_n hx hb dX2_reduce512_220 rfl (LL_0 hl) ?_
  refine lv_bipush (v := nI 56) hx hb dX2_reduce512_221 (by decide) ?_
  refine wc_read (W.runS (As := [.ref h0, .int (nI 56)]) (rest := []) ⟨hx, hb, hml, hown, hts⟩ (metX3_decode32 l D dB dN h0 64 f 56 (by decide) (by decide)) (va_cwS 2 hts (lw_S q54 q55 q6 q56) rfl rfl rfl (by decide +kernel) ⟨Nat.le_of_ble_eq_true rfl, Nat.le_of_ble_eq_true rfl⟩) (PcH.pre hP hK hD) rfl rfl hl.1 rfl (lv_room (Nat.le_of_ble_eq_true rfl)) dX2_reduce512_223 ⟨Nat.le_of_ble_eq_true rfl, Nat.le_of_ble_eq_true rfl⟩) ?_
  refine lv_i2l (v := (nI (yW f 56)).toInt64) hx hb dX2_reduce512_226 rfl ?_
  refine lv_ldc2 hx hb hown (hts _ q57) dX2_reduce512_227 ?_
  refine lv_land hx hb dX2_reduce512_230 ?_
  refine wt_l (y := zI (y512 f 16)) (zl_W f 56) ?_
  refine st_st (k := 16) (n' := 17) (pc' := 233) (Z := y512 f) hx hb hl (by decide) (Or.inl ⟨dX2_reduce512_231, rfl⟩) rfl (fun j h1 h2 => ⟨by omega, rfl⟩) (fun ls hl => ?_)
  refine lv_aload_n hx hb dX2_reduce512_233 rfl (LL_0 hl) ?_
  refine lv_bipush (v := nI 60) hx hb dX2_reduce512_234 (by decide) ?_
  refine wc_read (W.runS (As := [.ref h0, .int (nI 60)]) (rest := []) ⟨hx, hb, hml, hown, hts⟩ (metX3_decode24 l D dB dN h0 64 f 60 (by decide) (by decide)) (va_cwS 2 hts (lw_S q58 q59 q6 q60) rfl rfl rfl (by decide +kernel) ⟨Nat.le_of_ble_eq_true rfl, Nat.le_of_ble_eq_true rfl⟩) (PcH.pre hP hK hD) rfl rfl hl.1 rfl (lv_room (Nat.le_of_ble_eq_true rfl)) dX2_reduce512_236 ⟨Nat.le_of_ble_eq_true rfl, Nat.le_of_ble_eq_true rfl⟩) ?_
  refine lv_iconst (v := 4) hx hb dX2_reduce512_239 (by decide) ?_
  refine lv_ishl hx hb dX2_reduce512_240 ?_
  refine wt_i (y := nI (yT f 60 * 16)) (pk_shlN _ 4 (by decide +kernel) (by have := yT_lt f 60; omega)) ?_
  refine lv_i2l (v := (nI (yT f 60 * 16)).toInt64) hx hb dX2_reduce512_241 rfl ?_
  refine lv_ldc2 hx hb hown (hts _ q57) dX2_reduce512_242 ?_
  refine lv_land hx hb dX2_reduce512_245 ?_
  refine wt_l (y := zI (y512 f 17)) (zl_T f 60) ?_
  refine st_st (k := 17) (n' := 18) (pc' := 248) (Z := y512 f) hx hb hl (by decide) (Or.inl ⟨dX2_reduce512_246, rfl⟩) rfl (fun j h1 h2 => ⟨by omega, rfl⟩) (fun ls hl => ?_)
  refine lv_aload_n hx hb dX2_reduce512_248 rfl (LL_0 hl) ?_
  refine lv_bipush (v := nI 63) hx hb dX2_reduce512_249 (by decide) ?_
  refine va_bald hx hb hK hP 0 0 rfl rfl (vin (by decide) (by decide)) dX2_reduce512_251 ?_
  refine wt_i (y := f 63) (congrArg f (ncl (by decide))) ?_
  refine lv_i2l (v := (f 63).toInt64) hx hb dX2_reduce512_252 rfl ?_
  refine lv_ldc2 hx hb hown (hts _ q61) dX2_reduce512_253 ?_
  refine lv_land hx hb dX2_reduce512_256 ?_
  refine wt_l (y := zI (y512 f 18)) (zI_byte (f 63)) ?_
  refine st_st (k := 18) (n' := 19) (pc' := 259) (Z := y512 f) hx hb hl (by decide) (Or.inl ⟨dX2_reduce512_257, rfl⟩) rfl (fun j h1 h2 => ⟨by omega, rfl⟩) (fun ls hl => ?_)
  obtain ⟨hok, hpre⟩ := red_pre (ms := ms512) rfl ms512_m ms512_b (y512_in f)
  refine st_run hx hb hown hts (by decide) _ _ _ _ ls hl imX2_reduce512 hok (fun ls hl => ?_)
  refine st_tail hx hb hown hts hl (by decide) (by decide) hpre itX2_reduce512 (fun ls hl => ?_)
  obtain ⟨y, hy, hy8, hy9, hsum⟩ := red_end (n := 19) (by decide) ms512_v hpre (y512_V f)
  have hl := LL_9 hl (by decide) hy
  have b0 := hy8 0 (by decide)
  have b1 := hy8 1 (by decide)
  have b2 := hy8 2 (by decide)
  have b3 := hy8 3 (by decide)
  have b4 := hy8 4 (by decide)
  have b5 := hy8 5 (by decide)
  have b6 := hy8 6 (by decide)
  have b7 := hy8 7 (by decide)
  refine lv_bipush (v := nI 32) hx hb dX2_reduce512_1306 (by decide) ?_
  have hPe : va_P D vwCl [] s.heap := va_P.nil
  have hDe : va_D (fun x => s.heap.size ≤ x) [] := va_D.nil
  refine va_newa (atype := .byte) (ty := .byte) (N' := 32) (a0 := (32, .inl (fun _ => 0))) hx hb (hts _ q38) rfl hK hPe hDe hS (fun q h => h) (fun cA => rfl) (by decide) (by decide) (Nat.le_of_ble_eq_true rfl) (Nat.le_of_ble_eq_true rfl) (Nat.le_of_ble_eq_true rfl) dX2_reduce512_1308 (fun q cA H hK2 hP hD hS => ?_)
  have ecA : dB = cA := hK2.one (i := 0) (j := 2) rfl rfl
  subst ecA
  have hP : va_P D vwCl [(q, .inl (dB, 32, .inl (fun _ => 0)))] H := hP
  have hD : va_D (fun x => s.heap.size ≤ x) [(q, .inl (dB, 32, .inl (fun _ => 0)))] := hD
  refine lv_astore (lv' := [(41, .ref q), (1, .long (zI (y 0 : Int))), (3, .long (zI (y 1 : Int))), (5, .long (zI (y 2 : Int))), (7, .long (zI (y 3 : Int))), (9, .long (zI (y 4 : Int))), (11, .long (zI (y 5 : Int))), (13, .long (zI (y 6 : Int))), (15, .long (zI (y 7 : Int))), (17, .long (zI (y 8 : Int)))]) hx hb dX2_reduce512_1310 hl (by decide) rfl (fun ls hl => ?_)
  refine lv_lload_n hx hb dX2_reduce512_1312 rfl (lv_at hl 1 rfl) ?_
  refine lv_lload_n hx hb dX2_reduce512_1313 rfl (lv_at hl 2 rfl) ?_
  refine lv_bipush (v := 28) hx hb dX2_reduce512_1314 (by decide) ?_
  refine lv_lshl hx hb dX2_reduce512_1316 rfl ?_
  refine lv_lor hx hb dX2_reduce512_1317 ?_
  refine wt_l (y := lN (y 0 + y 1 * 268435456)) (zI_pack (by omega) (by omega)) ?_
  refine lv_aload hx hb dX2_reduce512_1318 (lv_at hl 0 rfl) ?_
  refine lv_iconst (v := nI 0) hx hb dX2_reduce512_1320 (by decide) ?_
  refine wc_set (k0 := 0) (W.runS (As := [.long (lN (y 0 + y 1 * 268435456)), .ref q, .int (nI 0)]) (rest := []) ⟨hx, hb, hml, hown, hts⟩ (metX3_encode56 l D dB dN q 32 (fun _ => 0) 0 (y 0 + y 1 * 268435456) (by decide) (by decide) (by omega)) (va_cwS 3 hts (lw_S q68 q69 q6 q70) rfl rfl rfl (by decide +kernel) ⟨Nat.le_of_ble_eq_true rfl, Nat.le_of_ble_eq_true rfl⟩) (PcH.pre hP hK hD) rfl rfl hl.1 rfl (lv_room (Nat.le_of_ble_eq_true rfl)) dX2_reduce512_1321 ⟨Nat.le_of_ble_eq_true rfl, Nat.le_of_ble_eq_true rfl⟩) hP hD hS rfl (fun x h => by rw [h]; exact hD.2 0 _ rfl) (fun H locs hP hD hS => ?_)
  have hP : va_P D vwCl [(q, .inl (dB, 32, .inl (enc56 (fun _ => 0) 0 (y 0 + y 1 * 268435456))))] H := hP
  have hD : va_D (fun x => s.heap.size ≤ x) [(q, .inl (dB, 32, .inl (enc56 (fun _ => 0) 0 (y 0 + y 1 * 268435456))))] := hD
  refine W.eq (g2 := F0 m 1324 ls []) rfl ?_
  refine lv_lload hx hb dX2_reduce512_1324 (lv_at hl 3 rfl) ?_
  refine lv_lload hx hb dX2_reduce512_1326 (lv_at hl 4 rfl) ?_
  refine lv_bipush (v := 28) hx hb dX2_reduce512_1328 (by decide) ?_
  refine lv_lshl hx hb dX2_reduce512_1330 rfl ?_
  refine lv_lor hx hb dX2_reduce512_1331 ?_
  refine wt_l (y := lN (y 2 + y 3 * 268435456)) (zI_pack (by omega) (by omega)) ?_
  refine lv_aload hx hb dX2_reduce512_1332 (lv_at hl 0 rfl) ?_
  refine lv_bipush (v := nI 7) hx hb dX2_reduce512_1334 (by decide) ?_
  refine wc_set (k0 := 0) (W.runS (As := [.long (lN (y 2 + y 3 * 268435456)), .ref q, .int (nI 7)]) (rest := []) ⟨hx, hb, hml, hown, hts⟩ (metX3_encode56 l D dB dN q 32 (enc56 (fun _ => 0) 0 (y 0 + y 1 * 268435456)) 7 (y 2 + y 3 * 268435456) (by decide) (by decide) (by omega)) (va_cwS 3 hts (lw_S q68 q69 q6 q70) rfl rfl rfl (by decide +kernel) ⟨Nat.le_of_ble_eq_true rfl, Nat.le_of_ble_eq_true rfl⟩) (PcH.pre hP hK hD) rfl rfl hl.1 rfl (lv_room (Nat.le_of_ble_eq_true rfl)) dX2_reduce512_1336 ⟨Nat.le_of_ble_eq_true rfl, Nat.le_of_ble_eq_true rfl⟩) hP hD hS rfl (fun x h => by rw [h]; exact hD.2 0 _ rfl) (fun H locs hP hD hS => ?_)
  have hP : va_P D vwCl [(q, .inl (dB, 32, .inl (enc56 (enc56 (fun _ => 0) 0 (y 0 + y 1 * 268435456)) 7 (y 2 + y 3 * 268435456))))] H := hP
  have hD : va_D (fun x => s.heap.size ≤ x) [(q, .inl (dB, 32, .inl (enc56 (enc56 (fun _ => 0) 0 (y 0 + y 1 * 268435456)) 7 (y 2 + y 3 * 268435456))))] := hD
  refine W.eq (g2 := F0 m 1339 ls []) rfl ?_
  refine lv_lload hx hb dX2_reduce512_1339 (lv_at hl 5 rfl) ?_
  refine lv_lload hx hb dX2_reduce512_1341 (lv_at hl 6 rfl) ?_
  refine lv_bipush (v := 28) hx hb dX2_reduce512_1343 (by decide) ?_
  refine lv_lshl hx hb dX2_reduce512_1345 rfl ?_
  refine lv_lor hx hb dX2_reduce512_1346 ?_
  refine wt_l (y := lN (y 4 + y 5 * 268435456)) (zI_pack (by omega) (by omega)) ?_
  refine lv_aload hx hb dX2_reduce512_1347 (lv_at hl 0 rfl) ?_
  refine lv_bipush (v := nI 14) hx hb dX2_reduce512_1349 (by decide) ?_
  refine wc_set (k0 := 0) (W.runS (As := [.long (lN (y 4 + y 5 * 268435456)), .ref q, .int (nI 14)]) (rest := []) ⟨hx, hb, hml, hown, hts⟩ (metX3_encode56 l D dB dN q 32 (enc56 (enc56 (fun _ => 0) 0 (y 0 + y 1 * 268435456)) 7 (y 2 + y 3 * 268435456)) 14 (y 4 + y 5 * 268435456) (by decide) (by decide) (by omega)) (va_cwS 3 hts (lw_S q68 q69 q6 q70) rfl rfl rfl (by decide +kernel) ⟨Nat.le_of_ble_eq_true rfl, Nat.le_of_ble_eq_true rfl⟩) (PcH.pre hP hK hD) rfl rfl hl.1 rfl (lv_room (Nat.le_of_ble_eq_true rfl)) dX2_reduce512_1351 ⟨Nat.le_of_ble_eq_true rfl, Nat.le_of_ble_eq_true rfl⟩) hP hD hS rfl (fun x h => by rw [h]; exact hD.2 0 _ rfl) (fun H locs hP hD hS => ?_)
  have hP : va_P D vwCl [(q, .inl (dB, 32, .inl (enc56 (enc56 (enc56 (fun _ => 0) 0 (y 0 + y 1 * 268435456)) 7 (y 2 + y 3 * 268435456)) 14 (y 4 + y 5 * 268435456))))] H := hP
  have hD : va_D (fun x => s.heap.size ≤ x) [(q, .inl (dB, 32, .inl (enc56 (enc56 (enc56 (fun _ => 0) 0 (y 0 + y 1 * 268435456)) 7 (y 2 + y 3 * 268435456)) 14 (y 4 + y 5 * 268435456))))] := hD
  refine W.eq (g2 := F0 m 1354 ls []) rfl ?_
  refine lv_lload hx hb dX2_reduce512_1354 (lv_at hl 7 rfl) ?_
  refine lv_lload hx hb dX2_reduce512_1356 (lv_at hl 8 rfl) ?_
  refine lv_bipush (v := 28) hx hb dX2_reduce512_1358 (by decide) ?_
  refine lv_lshl hx hb dX2_reduce512_1360 rfl ?_
  refine lv_lor hx hb dX2_reduce512_1361 ?_
  refine wt_l (y := lN (y 6 + y 7 * 268435456)) (zI_pack (by omega) (by omega)) ?_
  refine lv_aload hx hb dX2_reduce512_1362 (lv_at hl 0 rfl) ?_
  refine lv_bipush (v := nI 21) hx hb dX2_reduce512_1364 (by decide) ?_
  refine wc_set (k0 := 0) (W.runS (As := [.long (lN (y 6 + y 7 * 268435456)), .ref q, .int (nI 21)]) (rest := []) ⟨hx, hb, hml, hown, hts⟩ (metX3_encode56 l D dB dN q 32 (enc56 (enc56 (enc56 (fun _ => 0) 0 (y 0 + y 1 * 268435456)) 7 (y 2 + y 3 * 268435456)) 14 (y 4 + y 5 * 268435456)) 21 (y 6 + y 7 * 268435456) (by decide) (by decide) (by omega)) (va_cwS 3 hts (lw_S q68 q69 q6 q70) rfl rfl rfl (by decide +kernel) ⟨Nat.le_of_ble_eq_true rfl, Nat.le_of_ble_eq_true rfl⟩) (PcH.pre hP hK hD) rfl rfl hl.1 rfl (lv_room (Nat.le_of_ble_eq_true rfl)) dX2_reduce512_1366 ⟨Nat.le_of_ble_eq_true rfl, Nat.le_of_ble_eq_true rfl⟩) hP hD hS rfl (fun x h => by rw [h]; exact hD.2 0 _ rfl) (fun H locs hP hD hS => ?_)
  have hP : va_P D vwCl [(q, .inl (dB, 32, .inl (enc56 (enc56 (enc56 (enc56 (fun _ => 0) 0 (y 0 + y 1 * 268435456)) 7 (y 2 + y 3 * 268435456)) 14 (y 4 + y 5 * 268435456)) 21 (y 6 + y 7 * 268435456))))] H := hP
  have hD : va_D (fun x => s.heap.size ≤ x) [(q, .inl (dB, 32, .inl (enc56 (enc56 (enc56 (enc56 (fun _ => 0) 0 (y 0 + y 1 * 268435456)) 7 (y 2 + y 3 * 268435456)) 14 (y 4 + y 5 * 268435456)) 21 (y 6 + y 7 * 268435456))))] := hD
  refine W.eq (g2 := F0 m 1369 ls []) rfl ?_
  refine lv_lload hx hb dX2_reduce512_1369 (lv_at hl 9 rfl) ?_
  refine lv_l2i (v := nI (y 8)) hx hb dX2_reduce512_1371 (zI_l2i _) ?_
  refine lv_aload hx hb dX2_reduce512_1372 (lv_at hl 0 rfl) ?_
  refine lv_bipush (v := nI 28) hx hb dX2_reduce512_1374 (by decide) ?_
  refine wc_set (k0 := 0) (W.runS (As := [.int (nI (y 8)), .ref q, .int (nI 28)]) (rest := []) ⟨hx, hb, hml, hown, hts⟩ (metX3_encode32 l D dB dN q 32 (enc56 (enc56 (enc56 (enc56 (fun _ => 0) 0 (y 0 + y 1 * 268435456)) 7 (y 2 + y 3 * 268435456)) 14 (y 4 + y 5 * 268435456)) 21 (y 6 + y 7 * 268435456)) 28 (y 8) (by decide) (by decide) hy9) (va_cwS 3 hts (lw_S q77 q72 q6 q73) rfl rfl rfl (by decide +kernel) ⟨Nat.le_of_ble_eq_true rfl, Nat.le_of_ble_eq_true rfl⟩) (PcH.pre hP hK hD) rfl rfl hl.1 rfl (lv_room (Nat.le_of_ble_eq_true rfl)) dX2_reduce512_1376 ⟨Nat.le_of_ble_eq_true rfl, Nat.le_of_ble_eq_true rfl⟩) hP hD hS rfl (fun x h => by rw [h]; exact hD.2 0 _ rfl) (fun H locs hP hD hS => ?_)
  have hP : va_P D vwCl [(q, .inl (dB, 32, .inl (eAll (fun _ => 0) y)))] H := hP
  have hD : va_D (fun x => s.heap.size ≤ x) [(q, .inl (dB, 32, .inl (eAll (fun _ => 0) y)))] := hD
  refine W.eq (g2 := F0 m 1379 ls []) rfl ?_
  refine lv_aload hx hb dX2_reduce512_1379 (lv_at hl 0 rfl) ?_
  have hq : s.heap.size ≤ q := hD.2 0 _ rfl
  exact W.aret (v := .ref q) hx hb hr (Or.inr ⟨_, rfl⟩) (Or.inr ⟨_, rfl⟩) (fun t ht hW => ⟨q, _, rfl, hq, by rw [ht]; exact hP 0 _ rfl, by rw [ht]; exact hS.1, fun x hx1 => by
    rw [ht]
    exact hS.2.1 x hx1 (Nat.not_le.mpr hx1), by
    show num 32 (fun j => ub (eAll (fun _ => 0) y j)) = _
    rw [eAll_num _ _ hy8 hy9, hsum]⟩) hS.2.2 dX2_reduce512_1381
theorem icX2_reduce384_192 : isC cX2_reduce384 192 210 12 := ⟨194, 196, 202, 204, Or.inl ⟨dX2_reduce384_192, rfl⟩, Or.inl ⟨dX2_reduce384_194, rfl⟩, dX2_reduce384_196, dX2_reduce384_198, dX2_reduce384_199, Or.inl ⟨dX2_reduce384_200, rfl⟩, Or.inl ⟨dX2_reduce384_202, rfl⟩, dX2_reduce384_204, dX2_reduce384_207, Or.inl ⟨dX2_reduce384_208, rfl⟩⟩
theorem f5X2_reduce384_210 : isF5 cX2_reduce384 210 265 13 := ⟨221, 232, 243, 254, ⟨212, 214, Or.inl ⟨dX2_reduce384_210, rfl⟩, Or.inl ⟨dX2_reduce384_212, rfl⟩, dX2_reduce384_214, dX2_reduce384_217, dX2_reduce384_218, Or.inl ⟨dX2_reduce384_219, rfl⟩⟩,
  ⟨223, 225, Or.inl ⟨dX2_reduce384_221, rfl⟩, Or.inl ⟨dX2_reduce384_223, rfl⟩, dX2_reduce384_225, dX2_reduce384_228, dX2_reduce384_229, Or.inl ⟨dX2_reduce384_230, rfl⟩⟩,
  ⟨234, 236, Or.inl ⟨dX2_reduce384_232, rfl⟩, Or.inl ⟨dX2_reduce384_234, rfl⟩, dX2_reduce384_236, dX2_reduce384_239, dX2_reduce384_240, Or.inl ⟨dX2_reduce384_241, rfl⟩⟩,
  ⟨245, 247, Or.inl ⟨dX2_reduce384_243, rfl⟩, Or.inl ⟨dX2_reduce384_245, rfl⟩, dX2_reduce384_247, dX2_reduce384_250, dX2_reduce384_251, Or.inl ⟨dX2_reduce384_252, rfl⟩⟩,
  ⟨256, 258, Or.inl ⟨dX2_reduce384_254, rfl⟩, Or.inl ⟨dX2_reduce384_256, rfl⟩, dX2_reduce384_258, dX2_reduce384_261, dX2_reduce384_262, Or.inl ⟨dX2_reduce384_263, rfl⟩⟩⟩
theorem icX2_reduce384_265 : isC cX2_reduce384 265 283 11 := ⟨267, 269, 275, 277, Or.inl ⟨dX2_reduce384_265, rfl⟩, Or.inl ⟨dX2_reduce384_267, rfl⟩, dX2_reduce384_269, dX2_reduce384_271, dX2_reduce384_272, Or.inl ⟨dX2_reduce384_273, rfl⟩, Or.inl ⟨dX2_reduce384_275, rfl⟩, dX2_reduce384_277, dX2_reduce384_280, Or.inl ⟨dX2_reduce384_281, rfl⟩⟩
theorem f5X2_reduce384_283 : isF5 cX2_reduce384 283 338 12 := ⟨294, 305, 316, 327, ⟨285, 287, Or.inl ⟨dX2_reduce384_283, rfl⟩, Or.inl ⟨dX2_reduce384_285, rfl⟩, dX2_reduce384_287, dX2_reduce384_290, dX2_reduce384_291, Or.inl ⟨dX2_reduce384_292, rfl⟩⟩,
  ⟨296, 298, Or.inl ⟨dX2_reduce384_294, rfl⟩, Or.inl ⟨dX2_reduce384_296, rfl⟩, dX2_reduce384_298, dX2_reduce384_301, dX2_reduce384_302, Or.inl ⟨dX2_reduce384_303, rfl⟩⟩,
  ⟨307, 309, Or.inl ⟨dX2_reduce384_305, rfl⟩, Or.inl ⟨dX2_reduce384_307, rfl⟩, dX2_reduce384_309, dX2_reduce384_312, dX2_reduce384_313, Or.inl ⟨dX2_reduce384_314, rfl⟩⟩,
  ⟨318, 320, Or.inl ⟨dX2_reduce384_316, rfl⟩, Or.inl ⟨dX2_reduce384_318, rfl⟩, dX2_reduce384_320, dX2_reduce384_323, dX2_reduce384_324, Or.inl ⟨dX2_reduce384_325, rfl⟩⟩,
  ⟨329, 331, Or.inl ⟨dX2_reduce384_327, rfl⟩, Or.inl ⟨dX2_reduce384_329, rfl⟩, dX2_reduce384_331, dX2_reduce384_334, dX2_reduce384_335, Or.inl ⟨dX2_reduce384_336, rfl⟩⟩⟩
theorem icX2_reduce384_338 : isC cX2_reduce384 338 356 10 := ⟨340, 342, 348, 350, Or.inl ⟨dX2_reduce384_338, rfl⟩, Or.inl ⟨dX2_reduce384_340, rfl⟩, dX2_reduce384_342, dX2_reduce384_344, dX2_reduce384_345, Or.inl ⟨dX2_reduce384_346, rfl⟩, Or.inl ⟨dX2_reduce384_348, rfl⟩, dX2_reduce384_350, dX2_reduce384_353, Or.inl ⟨dX2_reduce384_354, rfl⟩⟩
theorem f5X2_reduce384_356 : isF5 cX2_reduce384 356 411 11 := ⟨367, 378, 389, 400, ⟨358, 360, Or.inl ⟨dX2_reduce384_356, rfl⟩, Or.inl ⟨dX2_reduce384_358, rfl⟩, dX2_reduce384_360, dX2_reduce384_363, dX2_reduce384_364, Or.inl ⟨dX2_reduce384_365, rfl⟩⟩,
  ⟨369, 371, Or.inl ⟨dX2_reduce384_367, rfl⟩, Or.inl ⟨dX2_reduce384_369, rfl⟩, dX2_reduce384_371, dX2_reduce384_374, dX2_reduce384_375, Or.inl ⟨dX2_reduce384_376, rfl⟩⟩,
  ⟨380, 382, Or.inl ⟨dX2_reduce384_378, rfl⟩, Or.inl ⟨dX2_reduce384_380, rfl⟩, dX2_reduce384_382, dX2_reduce384_385, dX2_reduce384_386, Or.inl ⟨dX2_reduce384_387, rfl⟩⟩,
  ⟨391, 393, Or.inl ⟨dX2_reduce384_389, rfl⟩, Or.inl ⟨dX2_reduce384_391, rfl⟩, dX2_reduce384_393, dX2_reduce384_396, dX2_reduce384_397, Or.inl ⟨dX2_reduce384_398, rfl⟩⟩,
  ⟨402, 404, Or.inl ⟨dX2_reduce384_400, rfl⟩, Or.inl ⟨dX2_reduce384_402, rfl⟩, dX2_reduce384_404, dX2_reduce384_407, dX2_reduce384_408, Or.inl ⟨dX2_reduce384_409, rfl⟩⟩⟩
theorem icX2_reduce384_411 : isC cX2_reduce384 411 429 9 := ⟨413, 415, 421, 423, Or.inl ⟨dX2_reduce384_411, rfl⟩, Or.inl ⟨dX2_reduce384_413, rfl⟩, dX2_reduce384_415, dX2_reduce384_417, dX2_reduce384_418, Or.inl ⟨dX2_reduce384_419, rfl⟩, Or.inl ⟨dX2_reduce384_421, rfl⟩, dX2_reduce384_423, dX2_reduce384_426, Or.inl ⟨dX2_reduce384_427, rfl⟩⟩
theorem f5X2_reduce384_429 : isF5 cX2_reduce384 429 482 10 := ⟨438, 449, 460, 471, ⟨430, 432, Or.inr ⟨3, rfl, dX2_reduce384_429, rfl⟩, Or.inl ⟨dX2_reduce384_430, rfl⟩, dX2_reduce384_432, dX2_reduce384_435, dX2_reduce384_436, Or.inr ⟨3, rfl, dX2_reduce384_437, rfl⟩⟩,
  ⟨440, 442, Or.inl ⟨dX2_reduce384_438, rfl⟩, Or.inl ⟨dX2_reduce384_440, rfl⟩, dX2_reduce384_442, dX2_reduce384_445, dX2_reduce384_446, Or.inl ⟨dX2_reduce384_447, rfl⟩⟩,
  ⟨451, 453, Or.inl ⟨dX2_reduce384_449, rfl⟩, Or.inl ⟨dX2_reduce384_451, rfl⟩, dX2_reduce384_453, dX2_reduce384_456, dX2_reduce384_457, Or.inl ⟨dX2_reduce384_458, rfl⟩⟩,
  ⟨462, 464, Or.inl ⟨dX2_reduce384_460, rfl⟩, Or.inl ⟨dX2_reduce384_462, rfl⟩, dX2_reduce384_464, dX2_reduce384_467, dX2_reduce384_468, Or.inl ⟨dX2_reduce384_469, rfl⟩⟩,
  ⟨473, 475, Or.inl ⟨dX2_reduce384_471, rfl⟩, Or.inl ⟨dX2_reduce384_473, rfl⟩, dX2_reduce384_475, dX2_reduce384_478, dX2_reduce384_479, Or.inl ⟨dX2_reduce384_480, rfl⟩⟩⟩
theorem icX2_reduce384_482 : isC cX2_reduce384 482 500 7 := ⟨484, 486, 492, 494, Or.inl ⟨dX2_reduce384_482, rfl⟩, Or.inl ⟨dX2_reduce384_484, rfl⟩, dX2_reduce384_486, dX2_reduce384_488, dX2_reduce384_489, Or.inl ⟨dX2_reduce384_490, rfl⟩, Or.inl ⟨dX2_reduce384_492, rfl⟩, dX2_reduce384_494, dX2_reduce384_497, Or.inl ⟨dX2_reduce384_498, rfl⟩⟩
theorem icX2_reduce384_500 : isC cX2_reduce384 500 518 8 := ⟨502, 504, 510, 512, Or.inl ⟨dX2_reduce384_500, rfl⟩, Or.inl ⟨dX2_reduce384_502, rfl⟩, dX2_reduce384_504, dX2_reduce384_506, dX2_reduce384_507, Or.inl ⟨dX2_reduce384_508, rfl⟩, Or.inl ⟨dX2_reduce384_510, rfl⟩, dX2_reduce384_512, dX2_reduce384_515, Or.inl ⟨dX2_reduce384_516, rfl⟩⟩
theorem imX2_reduce384 : isM cX2_reduce384 14 ms384 192 518 := ⟨210, by decide, icX2_reduce384_192, 265, ⟨by decide, by decide⟩, f5X2_reduce384_210, 283, by decide, icX2_reduce384_265, 338, ⟨by decide, by decide⟩, f5X2_reduce384_283, 356, by decide, icX2_reduce384_338, 411, ⟨by decide, by decide⟩, f5X2_reduce384_356, 429, by decide, icX2_reduce384_411, 482, ⟨by decide, by decide⟩, f5X2_reduce384_429, 500, by decide, icX2_reduce384_482, 518, by decide, icX2_reduce384_500, rfl⟩
theorem f5X2_reduce384_532 : isF5 cX2_reduce384 532 583 9 := ⟨541, 550, 561, 572, ⟨533, 535, Or.inr ⟨1, rfl, dX2_reduce384_532, rfl⟩, Or.inl ⟨dX2_reduce384_533, rfl⟩, dX2_reduce384_535, dX2_reduce384_538, dX2_reduce384_539, Or.inr ⟨1, rfl, dX2_reduce384_540, rfl⟩⟩,
  ⟨542, 544, Or.inr ⟨3, rfl, dX2_reduce384_541, rfl⟩, Or.inl ⟨dX2_reduce384_542, rfl⟩, dX2_reduce384_544, dX2_reduce384_547, dX2_reduce384_548, Or.inr ⟨3, rfl, dX2_reduce384_549, rfl⟩⟩,
  ⟨552, 554, Or.inl ⟨dX2_reduce384_550, rfl⟩, Or.inl ⟨dX2_reduce384_552, rfl⟩, dX2_reduce384_554, dX2_reduce384_557, dX2_reduce384_558, Or.inl ⟨dX2_reduce384_559, rfl⟩⟩,
  ⟨563, 565, Or.inl ⟨dX2_reduce384_561, rfl⟩, Or.inl ⟨dX2_reduce384_563, rfl⟩, dX2_reduce384_565, dX2_reduce384_568, dX2_reduce384_569, Or.inl ⟨dX2_reduce384_570, rfl⟩⟩,
  ⟨574, 576, Or.inl ⟨dX2_reduce384_572, rfl⟩, Or.inl ⟨dX2_reduce384_574, rfl⟩, dX2_reduce384_576, dX2_reduce384_579, dX2_reduce384_580, Or.inl ⟨dX2_reduce384_581, rfl⟩⟩⟩
theorem icX2_reduce384_583 : isC cX2_reduce384 583 596 0 := ⟨584, 585, 590, 591, Or.inr ⟨3, rfl, dX2_reduce384_583, rfl⟩, Or.inr ⟨1, rfl, dX2_reduce384_584, rfl⟩, dX2_reduce384_585, dX2_reduce384_587, dX2_reduce384_588, Or.inr ⟨3, rfl, dX2_reduce384_589, rfl⟩, Or.inr ⟨1, rfl, dX2_reduce384_590, rfl⟩, dX2_reduce384_591, dX2_reduce384_594, Or.inr ⟨1, rfl, dX2_reduce384_595, rfl⟩⟩
theorem icX2_reduce384_596 : isC cX2_reduce384 596 611 1 := ⟨598, 599, 605, 606, Or.inl ⟨dX2_reduce384_596, rfl⟩, Or.inr ⟨3, rfl, dX2_reduce384_598, rfl⟩, dX2_reduce384_599, dX2_reduce384_601, dX2_reduce384_602, Or.inl ⟨dX2_reduce384_603, rfl⟩, Or.inr ⟨3, rfl, dX2_reduce384_605, rfl⟩, dX2_reduce384_606, dX2_reduce384_609, Or.inr ⟨3, rfl, dX2_reduce384_610, rfl⟩⟩
theorem icX2_reduce384_611 : isC cX2_reduce384 611 629 2 := ⟨613, 615, 621, 623, Or.inl ⟨dX2_reduce384_611, rfl⟩, Or.inl ⟨dX2_reduce384_613, rfl⟩, dX2_reduce384_615, dX2_reduce384_617, dX2_reduce384_618, Or.inl ⟨dX2_reduce384_619, rfl⟩, Or.inl ⟨dX2_reduce384_621, rfl⟩, dX2_reduce384_623, dX2_reduce384_626, Or.inl ⟨dX2_reduce384_627, rfl⟩⟩
theorem icX2_reduce384_629 : isC cX2_reduce384 629 647 3 := ⟨631, 633, 639, 641, Or.inl ⟨dX2_reduce384_629, rfl⟩, Or.inl ⟨dX2_reduce384_631, rfl⟩, dX2_reduce384_633, dX2_reduce384_635, dX2_reduce384_636, Or.inl ⟨dX2_reduce384_637, rfl⟩, Or.inl ⟨dX2_reduce384_639, rfl⟩, dX2_reduce384_641, dX2_reduce384_644, Or.inl ⟨dX2_reduce384_645, rfl⟩⟩
theorem icX2_reduce384_647 : isC cX2_reduce384 647 665 4 := ⟨649, 651, 657, 659, Or.inl ⟨dX2_reduce384_647, rfl⟩, Or.inl ⟨dX2_reduce384_649, rfl⟩, dX2_reduce384_651, dX2_reduce384_653, dX2_reduce384_654, Or.inl ⟨dX2_reduce384_655, rfl⟩, Or.inl ⟨dX2_reduce384_657, rfl⟩, dX2_reduce384_659, dX2_reduce384_662, Or.inl ⟨dX2_reduce384_663, rfl⟩⟩
theorem icX2_reduce384_665 : isC cX2_reduce384 665 683 5 := ⟨667, 669, 675, 677, Or.inl ⟨dX2_reduce384_665, rfl⟩, Or.inl ⟨dX2_reduce384_667, rfl⟩, dX2_reduce384_669, dX2_reduce384_671, dX2_reduce384_672, Or.inl ⟨dX2_reduce384_673, rfl⟩, Or.inl ⟨dX2_reduce384_675, rfl⟩, dX2_reduce384_677, dX2_reduce384_680, Or.inl ⟨dX2_reduce384_681, rfl⟩⟩
theorem icX2_reduce384_683 : isC cX2_reduce384 683 701 6 := ⟨685, 687, 693, 695, Or.inl ⟨dX2_reduce384_683, rfl⟩, Or.inl ⟨dX2_reduce384_685, rfl⟩, dX2_reduce384_687, dX2_reduce384_689, dX2_reduce384_690, Or.inl ⟨dX2_reduce384_691, rfl⟩, Or.inl ⟨dX2_reduce384_693, rfl⟩, dX2_reduce384_695, dX2_reduce384_698, Or.inl ⟨dX2_reduce384_699, rfl⟩⟩
theorem icX2_reduce384_701 : isC cX2_reduce384 701 719 7 := ⟨703, 705, 711, 713, Or.inl ⟨dX2_reduce384_701, rfl⟩, Or.inl ⟨dX2_reduce384_703, rfl⟩, dX2_reduce384_705, dX2_reduce384_707, dX2_reduce384_708, Or.inl ⟨dX2_reduce384_709, rfl⟩, Or.inl ⟨dX2_reduce384_711, rfl⟩, dX2_reduce384_713, dX2_reduce384_716, Or.inl ⟨dX2_reduce384_717, rfl⟩⟩
theorem iaX2_reduce384 : isM cX2_reduce384 15 ((true, 9) :: cs8) 532 719 := ⟨583, ⟨by decide, by decide⟩, f5X2_reduce384_532, 596, by decide, icX2_reduce384_583, 611, by decide, icX2_reduce384_596, 629, by decide, icX2_reduce384_611, 647, by decide, icX2_reduce384_629, 665, by decide, icX2_reduce384_647, 683, by decide, icX2_reduce384_665, 701, by decide, icX2_reduce384_683, 719, by decide, icX2_reduce384_701, rfl⟩
theorem n5X2_reduce384_741 : isN5 cX2_reduce384 741 792 := ⟨750, 759, 770, 781, ⟨742, 744, Or.inr ⟨1, rfl, dX2_reduce384_741, rfl⟩, Or.inl ⟨dX2_reduce384_742, rfl⟩, dX2_reduce384_744, dX2_reduce384_747, dX2_reduce384_748, Or.inr ⟨1, rfl, dX2_reduce384_749, rfl⟩⟩,
  ⟨751, 753, Or.inr ⟨3, rfl, dX2_reduce384_750, rfl⟩, Or.inl ⟨dX2_reduce384_751, rfl⟩, dX2_reduce384_753, dX2_reduce384_756, dX2_reduce384_757, Or.inr ⟨3, rfl, dX2_reduce384_758, rfl⟩⟩,
  ⟨761, 763, Or.inl ⟨dX2_reduce384_759, rfl⟩, Or.inl ⟨dX2_reduce384_761, rfl⟩, dX2_reduce384_763, dX2_reduce384_766, dX2_reduce384_767, Or.inl ⟨dX2_reduce384_768, rfl⟩⟩,
  ⟨772, 774, Or.inl ⟨dX2_reduce384_770, rfl⟩, Or.inl ⟨dX2_reduce384_772, rfl⟩, dX2_reduce384_774, dX2_reduce384_777, dX2_reduce384_778, Or.inl ⟨dX2_reduce384_779, rfl⟩⟩,
  ⟨783, 785, Or.inl ⟨dX2_reduce384_781, rfl⟩, Or.inl ⟨dX2_reduce384_783, rfl⟩, dX2_reduce384_785, dX2_reduce384_788, dX2_reduce384_789, Or.inl ⟨dX2_reduce384_790, rfl⟩⟩⟩
theorem icX2_reduce384_792 : isC cX2_reduce384 792 805 0 := ⟨793, 794, 799, 800, Or.inr ⟨3, rfl, dX2_reduce384_792, rfl⟩, Or.inr ⟨1, rfl, dX2_reduce384_793, rfl⟩, dX2_reduce384_794, dX2_reduce384_796, dX2_reduce384_797, Or.inr ⟨3, rfl, dX2_reduce384_798, rfl⟩, Or.inr ⟨1, rfl, dX2_reduce384_799, rfl⟩, dX2_reduce384_800, dX2_reduce384_803, Or.inr ⟨1, rfl, dX2_reduce384_804, rfl⟩⟩
theorem icX2_reduce384_805 : isC cX2_reduce384 805 820 1 := ⟨807, 808, 814, 815, Or.inl ⟨dX2_reduce384_805, rfl⟩, Or.inr ⟨3, rfl, dX2_reduce384_807, rfl⟩, dX2_reduce384_808, dX2_reduce384_810, dX2_reduce384_811, Or.inl ⟨dX2_reduce384_812, rfl⟩, Or.inr ⟨3, rfl, dX2_reduce384_814, rfl⟩, dX2_reduce384_815, dX2_reduce384_818, Or.inr ⟨3, rfl, dX2_reduce384_819, rfl⟩⟩
theorem icX2_reduce384_820 : isC cX2_reduce384 820 838 2 := ⟨822, 824, 830, 832, Or.inl ⟨dX2_reduce384_820, rfl⟩, Or.inl ⟨dX2_reduce384_822, rfl⟩, dX2_reduce384_824, dX2_reduce384_826, dX2_reduce384_827, Or.inl ⟨dX2_reduce384_828, rfl⟩, Or.inl ⟨dX2_reduce384_830, rfl⟩, dX2_reduce384_832, dX2_reduce384_835, Or.inl ⟨dX2_reduce384_836, rfl⟩⟩
theorem icX2_reduce384_838 : isC cX2_reduce384 838 856 3 := ⟨840, 842, 848, 850, Or.inl ⟨dX2_reduce384_838, rfl⟩, Or.inl ⟨dX2_reduce384_840, rfl⟩, dX2_reduce384_842, dX2_reduce384_844, dX2_reduce384_845, Or.inl ⟨dX2_reduce384_846, rfl⟩, Or.inl ⟨dX2_reduce384_848, rfl⟩, dX2_reduce384_850, dX2_reduce384_853, Or.inl ⟨dX2_reduce384_854, rfl⟩⟩
theorem icX2_reduce384_856 : isC cX2_reduce384 856 874 4 := ⟨858, 860, 866, 868, Or.inl ⟨dX2_reduce384_856, rfl⟩, Or.inl ⟨dX2_reduce384_858, rfl⟩, dX2_reduce384_860, dX2_reduce384_862, dX2_reduce384_863, Or.inl ⟨dX2_reduce384_864, rfl⟩, Or.inl ⟨dX2_reduce384_866, rfl⟩, dX2_reduce384_868, dX2_reduce384_871, Or.inl ⟨dX2_reduce384_872, rfl⟩⟩
theorem icX2_reduce384_874 : isC cX2_reduce384 874 892 5 := ⟨876, 878, 884, 886, Or.inl ⟨dX2_reduce384_874, rfl⟩, Or.inl ⟨dX2_reduce384_876, rfl⟩, dX2_reduce384_878, dX2_reduce384_880, dX2_reduce384_881, Or.inl ⟨dX2_reduce384_882, rfl⟩, Or.inl ⟨dX2_reduce384_884, rfl⟩, dX2_reduce384_886, dX2_reduce384_889, Or.inl ⟨dX2_reduce384_890, rfl⟩⟩
theorem icX2_reduce384_892 : isC cX2_reduce384 892 910 6 := ⟨894, 896, 902, 904, Or.inl ⟨dX2_reduce384_892, rfl⟩, Or.inl ⟨dX2_reduce384_894, rfl⟩, dX2_reduce384_896, dX2_reduce384_898, dX2_reduce384_899, Or.inl ⟨dX2_reduce384_900, rfl⟩, Or.inl ⟨dX2_reduce384_902, rfl⟩, dX2_reduce384_904, dX2_reduce384_907, Or.inl ⟨dX2_reduce384_908, rfl⟩⟩
theorem icX2_reduce384_910 : isC cX2_reduce384 910 928 7 := ⟨912, 914, 920, 922, Or.inl ⟨dX2_reduce384_910, rfl⟩, Or.inl ⟨dX2_reduce384_912, rfl⟩, dX2_reduce384_914, dX2_reduce384_916, dX2_reduce384_917, Or.inl ⟨dX2_reduce384_918, rfl⟩, Or.inl ⟨dX2_reduce384_920, rfl⟩, dX2_reduce384_922, dX2_reduce384_925, Or.inl ⟨dX2_reduce384_926, rfl⟩⟩
theorem ibX2_reduce384 : isM cX2_reduce384 15 cs8 792 928 := ⟨805, by decide, icX2_reduce384_792, 820, by decide, icX2_reduce384_805, 838, by decide, icX2_reduce384_820, 856, by decide, icX2_reduce384_838, 874, by decide, icX2_reduce384_856, 892, by decide, icX2_reduce384_874, 910, by decide, icX2_reduce384_892, 928, by decide, icX2_reduce384_910, rfl⟩
theorem itX2_reduce384 : isT cX2_reduce384 14 518 928 := ⟨520, 525, 527, 529, 532, 719, 721, 726, 728, 734, 736, 738, 741, 792, 928,
  ⟨Or.inl ⟨dX2_reduce384_518, rfl⟩, dX2_reduce384_520, dX2_reduce384_522, Or.inl ⟨dX2_reduce384_523, rfl⟩⟩, ⟨Or.inl ⟨dX2_reduce384_525, rfl⟩, Or.inl ⟨dX2_reduce384_527, rfl⟩, dX2_reduce384_529, Or.inl ⟨dX2_reduce384_530, rfl⟩⟩, iaX2_reduce384,
  ⟨Or.inl ⟨dX2_reduce384_719, rfl⟩, dX2_reduce384_721, dX2_reduce384_723, Or.inl ⟨dX2_reduce384_724, rfl⟩⟩, ⟨Or.inl ⟨dX2_reduce384_726, rfl⟩, dX2_reduce384_728, dX2_reduce384_731, Or.inl ⟨dX2_reduce384_732, rfl⟩⟩, ⟨Or.inl ⟨dX2_reduce384_734, rfl⟩, Or.inl ⟨dX2_reduce384_736, rfl⟩, dX2_reduce384_738, Or.inl ⟨dX2_reduce384_739, rfl⟩⟩, n5X2_reduce384_741, ibX2_reduce384, rfl⟩
set_option maxHeartbeats 8000000 in
set_option maxRecDepth 100000 in
/-- X2_reduce384: the rest of the number of 48 bytes by the order, in 64 bytes -/
theorem metX2_reduce384 (l : Launch) (D : va_G) (dB dN : ClassId) (h0 sz : Nat) (f : Nat → Int32) : Met l yX2_reduce384 (ws_ yX2_reduce384 cX2_reduce384 32 (some (.array .byte))) ({ frames := 2, cells := 1, slots := 64, locals := 45 }) (PcZ D dB dN [.ref h0] [(h0, .inl (dB, 48, .inl f))] sz) (Qn dB 64 (fun g => num 32 (fun j => ub (g j)) = num 48 (fun j => ub (f j)) % nL)) 1 64 (fun x => sz ≤ x) := by
  refine Met.ofW (cc := cX2_reduce384) (maxL := 32) (ret := (some (.array .byte))) (by decide) rfl ?_
  intro p e s m args below meth c s₁ B hml hv
  obtain ⟨rfl, hsz, hP, hK, hD0⟩ := hv
  subst hsz
  have hx := B.exec
  have hb := B.bytes
  have hr := B.returns
  have hts := atoms_spec (ws := ws_ yX2_reduce384 cX2_reduce384 32 _) B.pre
  have hts : ∀ w ∈ lw_all, w.before _ s = true := fun w h => hts w (List.mem_cons_of_mem _ h)
  have hown : s.vm.findClass RX2 = some m.cls := findClass_of_methodNamed B.named
  have hlocks := B.notSynchronized
  have hl := lv_entry ([.ref h0]) (n := 32) (Nat.le_of_ble_eq_true rfl)
  rw [lg_entry_eq]
  generalize (lg_sl ([.ref h0]) ++ List.replicate (32 - (lg_sl ([.ref h0])).length) Slot.unset).toArray = ls at hl ⊢
  have hl : lv_has ls 32 [(0, .ref h0)] := hl
  have hP0 := hP
  have hS : va_S (fun x => s.heap.size ≤ x) s.heap s.heap [] := va_S.rf
  have hD := hD0
  have hl : lv_has ls 32 (LL h0 0 (y384 f)) := hl
  refine lv_aload_n hx hb dX2_reduce384_0 rfl (LL_0 hl) ?_
  refine lv_iconst (v := nI 0) hx hb dX2_reduce384_1 (by decide) ?_
  refine wc_read (W.runS (As := [.ref h0, .int (nI 0)]) (rest := []) ⟨hx, hb, hml, hown, hts⟩ (metX3_decode32 l D dB dN h0 48 f 0 (by decide) (by decide)) (va_cwS 2 hts (lw_S q54 q55 q6 q56) rfl rfl rfl (by decide +kernel) ⟨Nat.le_of_ble_eq_true rfl, Nat.le_of_ble_eq_true rfl⟩) (PcH.pre hP hK hD) rfl rfl hl.1 rfl (lv_room (Nat.le_of_ble_eq_true rfl)) dX2_reduce384_2 ⟨Nat.le_of_ble_eq_true rfl, Nat.le_of_ble_eq_true rfl⟩) ?_
  refine lv_i2l (v := (nI (yW f 0)).toInt64) hx hb dX2_reduce384_5 rfl ?_
  refine lv_ldc2 hx hb hown (hts _ q57) dX2_reduce384_6 ?_
  refine lv_land hx hb dX2_reduce384_9 ?_
  refine wt_l (y := zI (y384 f 0)) (zl_W f 0) ?_
  refine st_st (k := 0) (n' := 1) (pc' := 11) (Z := y384 f) hx hb hl (by decide) (Or.inr ⟨1, rfl, dX2_reduce384_10, rfl⟩) rfl (fun j h1 h2 => ⟨by omega, rfl⟩) (fun ls hl => ?_)
  refine lv_aload_n hx hb dX2_reduce384_11 rfl (LL_0 hl) ?_
  refine lv_iconst (v := nI 4) hx hb dX2_reduce384_12 (by decide) ?_
  refine wc_read (W.runS (As := [.ref h0, .int (nI 4)]) (rest := []) ⟨hx, hb, hml, hown, hts⟩ (metX3_decode24 l D dB dN h0 48 f 4 (by decide) (by decide)) (va_cwS 2 hts (lw_S q58 q59 q6 q60) rfl rfl rfl (by decide +kernel) ⟨Nat.le_of_ble_eq_true rfl, Nat.le_of_ble_eq_true rfl⟩) (PcH.pre hP hK hD) rfl rfl hl.1 rfl (lv_room (Nat.le_of_ble_eq_true rfl)) dX2_reduce384_13 ⟨Nat.le_of_ble_eq_true rfl, Nat.le_of_ble_eq_true rfl⟩) ?_
  refine lv_iconst (v := 4) hx hb dX2_reduce384_16 (by decide) ?_
  refine lv_ishl hx hb dX2_reduce384_17 ?_
  refine wt_i (y := nI (yT f 4 * 16)) (pk_shlN _ 4 (by decide +kernel) (by have := yT_lt f 4; omega)) ?_
  refine lv_i2l (v := (nI (yT f 4 * 16)).toInt64) hx hb dX2_reduce384_18 rfl ?_
  refine lv_ldc2 hx hb hown (hts _ q57) dX2_reduce384_19 ?_
  refine lv_land hx hb dX2_reduce384_22 ?_
  refine wt_l (y := zI (y384 f 1)) (zl_T f 4) ?_
  refine st_st (k := 1) (n' := 2) (pc' := 24) (Z := y384 f) hx hb hl (by decide) (Or.inr ⟨3, rfl, dX2_reduce384_23, rfl⟩) rfl (fun j h1 h2 => ⟨by omega, rfl⟩) (fun ls hl => ?_)
  refine lv_aload_n hx hb dX2_reduce384_24 rfl (LL_0 hl) ?_
  refine lv_bipush (v := nI 7) hx hb dX2_reduce384_25 (by decide) ?_
  refine wc_read (W.runS (As := [.ref h0, .int (nI 7)]) (rest := []) ⟨hx, hb, hml, hown, hts⟩ (metX3_decode32 l D dB dN h0 48 f 7 (by decide) (by decide)) (va_cwS 2 hts (lw_S q54 q55 q6 q56) rfl rfl rfl (by decide +kernel) ⟨Nat.le_of_ble_eq_true rfl, Nat.le_of_ble_eq_true rfl⟩) (PcH.pre hP hK hD) rfl rfl hl.1 rfl (lv_room (Nat.le_of_ble_eq_true rfl)) dX2_reduce384_27 ⟨Nat.le_of_ble_eq_true rfl, Nat.le_of_ble_eq_true rfl⟩) ?_
  refine lv_i2l (v := (nI (yW f 7)).toInt64) hx hb dX2_reduce384_30 rfl ?_
  refine lv_ldc2 hx hb hown (hts _ q57) dX2_reduce384_31 ?_
  refine lv_land hx hb dX2_reduce384_34 ?_
  refine wt_l (y := zI (y384 f 2)) (zl_W f 7) ?_
  refine st_st (k := 2) (n' := 3) (pc' := 37) (Z := y384 f) hx hb hl (by decide) (Or.inl ⟨dX2_reduce384_35, rfl⟩) rfl (fun j h1 h2 => ⟨by omega, rfl⟩) (fun ls hl => ?_)
  refine lv_aload_n hx hb dX2_reduce384_37 rfl (LL_0 hl) ?_
  refine lv_bipush (v := nI 11) hx hb dX2_reduce384_38 (by decide) ?_
  refine wc_read (W.runS (As := [.ref h0, .int (nI 11)]) (rest := []) ⟨hx, hb, hml, hown, hts⟩ (metX3_decode24 l D dB dN h0 48 f 11 (by decide) (by decide)) (va_cwS 2 hts (lw_S q58 q59 q6 q60) rfl rfl rfl (by decide +kernel) ⟨Nat.le_of_ble_eq_true rfl, Nat.le_of_ble_eq_true rfl⟩) (PcH.pre hP hK hD) rfl rfl hl.1 rfl (lv_room (Nat.le_of_ble_eq_true rfl)) dX2_reduce384_40 ⟨Nat.le_of_ble_eq_true rfl, Nat.le_of_ble_eq_true rfl⟩) ?_
  refine lv_iconst (v := 4) hx hb dX2_reduce384_43 (by decide) ?_
  refine lv_ishl hx hb dX2_reduce384_44 ?_
  refine wt_i (y := nI (yT f 11 * 16)) (pk_shlN _ 4 (by decide +kernel) (by have := yT_lt f 11; omega)) ?_
  refine lv_i2l (v := (nI (yT f 11 * 16)).toInt64) hx hb dX2_reduce384_45 rfl ?_
  refine lv_ldc2 hx hb hown (hts _ q57) dX2_reduce384_46 ?_
  refine lv_land hx hb dX2_reduce384_49 ?_
  refine wt_l (y := zI (y384 f 3)) (zl_T f 11) ?_
  refine st_st (k := 3) (n' := 4) (pc' := 52) (Z := y384 f) hx hb hl (by decide) (Or.inl ⟨dX2_reduce384_50, rfl⟩) rfl (fun j h1 h2 => ⟨by omega, rfl⟩) (fun ls hl => ?_)
  refine lv_aload_n hx hb dX2_reduce384_52 rfl (LL_0 hl) ?_
  refine lv_bipush (v := nI 14) hx hb dX2_reduce384_53 (by decide) ?_
  refine wc_read (W.runS (As := [.ref h0, .int (nI 14)]) (rest := []) ⟨hx, hb, hml, hown, hts⟩ (metX3_decode32 l D dB dN h0 48 f 14 (by decide) (by decide)) (va_cwS 2 hts (lw_S q54 q55 q6 q56) rfl rfl rfl (by decide +kernel) ⟨Nat.le_of_ble_eq_true rfl, Nat.le_of_ble_eq_true rfl⟩) (PcH.pre hP hK hD) rfl rfl hl.1 rfl (lv_room (Nat.le_of_ble_eq_true rfl)) dX2_reduce384_55 ⟨Nat.le_of_ble_eq_true rfl, Nat.le_of_ble_eq_true rfl⟩) ?_
  refine lv_i2l (v := (nI (yW f 14)).toInt64) hx hb dX2_reduce384_58 rfl ?_
  refine lv_ldc2 hx hb hown (hts _ q57) dX2_reduce384_59 ?_
  refine lv_land hx hb dX2_reduce384_62 ?_
  refine wt_l (y := zI (y384 f 4)) (zl_W f 14) ?_
  refine st_st (k := 4) (n' := 5) (pc' := 65) (Z := y384 f) hx hb hl (by decide) (Or.inl ⟨dX2_reduce384_63, rfl⟩) rfl (fun j h1 h2 => ⟨by omega, rfl⟩) (fun ls hl => ?_)
  refine lv_aload_n hx hb dX2_reduce384_65 rfl (LL_0 hl) ?_
  refine lv_bipush (v := nI 18) hx hb dX2_reduce384_66 (by decide) ?_
  refine wc_read (W.runS (As := [.ref h0, .int (nI 18)]) (rest := []) ⟨hx, hb, hml, hown, hts⟩ (metX3_decode24 l D dB dN h0 48 f 18 (by decide) (by decide)) (va_cwS 2 hts (lw_S q58 q59 q6 q60) rfl rfl rfl (by decide +kernel) ⟨Nat.le_of_ble_eq_true rfl, Nat.le_of_ble_eq_true rfl⟩) (PcH.pre hP hK hD) rfl rfl hl.1 rfl (lv_room (Nat.le_of_ble_eq_true rfl)) dX2_reduce384_68 ⟨Nat.le_of_ble_eq_true rfl, Nat.le_of_ble_eq_true rfl⟩) ?_
  refine lv_iconst (v := 4) hx hb dX2_reduce384_71 (by decide) ?_
  refine lv_ishl hx hb dX2_reduce384_72 ?_
  refine wt_i (y := nI (yT f 18 * 16)) (pk_shlN _ 4 (by decide +kernel) (by have := yT_lt f 18; omega)) ?_
  refine lv_i2l (v := (nI (yT f 18 * 16)).toInt64) hx hb dX2_reduce384_73 rfl ?_
  refine lv_ldc2 hx hb hown (hts _ q57) dX2_reduce384_74 ?_
  refine lv_land hx hb dX2_reduce384_77 ?_
  refine wt_l (y := zI (y384 f 5)) (zl_T f 18) ?_
  refine st_st (k := 5) (n' := 6) (pc' := 80) (Z := y384 f) hx hb hl (by decide) (Or.inl ⟨dX2_reduce384_78, rfl⟩) rfl (fun j h1 h2 => ⟨by omega, rfl⟩) (fun ls hl => ?_)
  refine lv_aload_n hx hb dX2_reduce384_80 rfl (LL_0 hl) ?_
  refine lv_bipush (v := nI 21) hx hb dX2_reduce384_81 (by decide) ?_
  refine wc_read (W.runS (As := [.ref h0, .int (nI 21)]) (rest := []) ⟨hx, hb, hml, hown, hts⟩ (metX3_decode32 l D dB dN h0 48 f 21 (by decide) (by decide)) (va_cwS 2 hts (lw_S q54 q55 q6 q56) rfl rfl rfl (by decide +kernel) ⟨Nat.le_of_ble_eq_true rfl, Nat.le_of_ble_eq_true rfl⟩) (PcH.pre hP hK hD) rfl rfl hl.1 rfl (lv_room (Nat.le_of_ble_eq_true rfl)) dX2_reduce384_83 ⟨Nat.le_of_ble_eq_true rfl, Nat.le_of_ble_eq_true rfl⟩) ?_
  refine lv_i2l (v := (nI (yW f 21)).toInt64) hx hb dX2_reduce384_86 rfl ?_
  refine lv_ldc2 hx hb hown (hts _ q57) dX2_reduce384_87 ?_
  refine lv_land hx hb dX2_reduce384_90 ?_
  refine wt_l (y := zI (y384 f 6)) (zl_W f 21) ?_
  refine st_st (k := 6) (n' := 7) (pc' := 93) (Z := y384 f) hx hb hl (by decide) (Or.inl ⟨dX2_reduce384_91, rfl⟩) rfl (fun j h1 h2 => ⟨by omega, rfl⟩) (fun ls hl => ?_)
  refine lv_aload_n hx hb dX2_reduce384_93 rfl (LL_0 hl) ?_
  refine lv_bipush (v := nI 25) hx hb dX2_reduce384_94 (by decide) ?_
  refine wc_read (W.runS (As := [.ref h0, .int (nI 25)]) (rest := []) ⟨hx, hb, hml, hown, hts⟩ (metX3_decode24 l D dB dN h0 48 f 25 (by decide) (by decide)) (va_cwS 2 hts (lw_S q58 q59 q6 q60) rfl rfl rfl (by decide +kernel) ⟨Nat.le_of_ble_eq_true rfl, Nat.le_of_ble_eq_true rfl⟩) (PcH.pre hP hK hD) rfl rfl hl.1 rfl (lv_room (Nat.le_of_ble_eq_true rfl)) dX2_reduce384_96 ⟨Nat.le_of_ble_eq_true rfl, Nat.le_of_ble_eq_true rfl⟩) ?_
  refine lv_iconst (v := 4) hx hb dX2_reduce384_99 (by decide) ?_
  refine lv_ishl hx hb dX2_reduce384_100 ?_
  refine wt_i (y := nI (yT f 25 * 16)) (pk_shlN _ 4 (by decide +kernel) (by have := yT_lt f 25; omega)) ?_
  refine lv_i2l (v := (nI (yT f 25 * 16)).toInt64) hx hb dX2_reduce384_101 rfl ?_
  refine lv_ldc2 hx hb hown (hts _ q57) dX2_reduce384_102 ?_
  refine lv_land hx hb dX2_reduce384_105 ?_
  refine wt_l (y := zI (y384 f 7)) (zl_T f 25) ?_
  refine st_st (k := 7) (n' := 8) (pc' := 108) (Z := y384 f) hx hb hl (by decide) (Or.inl ⟨dX2_reduce384_106, rfl⟩) rfl (fun j h1 h2 => ⟨by omega, rfl⟩) (fun ls hl => ?_)
  refine lv_aload_n hx hb dX2_reduce384_108 rfl (LL_0 hl) ?_
  refine lv_bipush (v := nI 28) hx hb dX2_reduce384_109 (by decide) ?_
  refine wc_read (W.runS (As := [.ref h0, .int (nI 28)]) (rest := []) ⟨hx, hb, hml, hown, hts⟩ (metX3_decode32 l D dB dN h0 48 f 28 (by decide) (by decide)) (va_cwS 2 hts (lw_S q54 q55 q6 q56) rfl rfl rfl (by decide +kernel) ⟨Nat.le_of_ble_eq_true rfl, Nat.le_of_ble_eq_true rfl⟩) (PcH.pre hP hK hD) rfl rfl hl.1 rfl (lv_room (Nat.le_of_ble_eq_true rfl)) dX2_reduce384_111 ⟨Nat.le_of_ble_eq_true rfl, Nat.le_of_ble_eq_true rfl⟩) ?_
  refine lv_i2l (v := (nI (yW f 28)).toInt64) hx hb dX2_reduce384_114 rfl ?_
  refine lv_ldc2 hx hb hown (hts _ q57) dX2_reduce384_115 ?_
  refine lv_land hx hb dX2_reduce384_118 ?_
  refine wt_l (y := zI (y384 f 8)) (zl_W f 28) ?_
  refine st_st (k := 8) (n' := 9) (pc' := 121) (Z := y384 f) hx hb hl (by decide) (Or.inl ⟨dX2_reduce384_119, rfl⟩) rfl (fun j h1 h2 => ⟨by omega, rfl⟩) (fun ls hl => ?_)
  refine lv_aload_n hx hb dX2_reduce384_121 rfl (LL_0 hl) ?_
  refine lv_bipush (v := nI 32) hx hb dX2_reduce384_122 (by decide) ?_
  refine wc_read (W.runS (As := [.ref h0, .int (nI 32)]) (rest := []) ⟨hx, hb, hml, hown, hts⟩ (metX3_decode24 l D dB dN h0 48 f 32 (by decide) (by decide)) (va_cwS 2 hts (lw_S q58 q59 q6 q60) rfl rfl rfl (by decide +kernel) ⟨Nat.le_of_ble_eq_true rfl, Nat.le_of_ble_eq_true rfl⟩) (PcH.pre hP hK hD) rfl rfl hl.1 rfl (lv_room (Nat.le_of_ble_eq_true rfl)) dX2_reduce384_124 ⟨Nat.le_of_ble_eq_true rfl, Nat.le_of_ble_eq_true rfl⟩) ?_
  refine lv_iconst (v := 4) hx hb dX2_reduce384_127 (by decide) ?_
  refine lv_ishl hx hb dX2_reduce384_128 ?_
  refine wt_i (y := nI (yT f 32 * 16)) (pk_shlN _ 4 (by decide +kernel) (by have := yT_lt f 32; omega)) ?_
  refine lv_i2l (v := (nI (yT f 32 * 16)).toInt64) hx hb dX2_reduce384_129 rfl ?_
  refine lv_ldc2 hx hb hown (hts _ q57) dX2_reduce384_130 ?_
  refine lv_land hx hb dX2_reduce384_133 ?_
  refine wt_l (y := zI (y384 f 9)) (zl_T f 32) ?_
  refine st_st (k := 9) (n' := 10) (pc' := 136) (Z := y384 f) hx hb hl (by decide) (Or.inl ⟨dX2_reduce384_134, rfl⟩) rfl (fun j h1 h2 => ⟨by omega, rfl⟩) (fun ls hl => ?_)
  refine lv_aload_n hx hb dX2_reduce384_136 rfl (LL_0 hl) ?_
  refine lv_bipush (v := nI 35) hx hb dX2_reduce384_137 (by decide) ?_
  refine wc_read (W.runS (As := [.ref h0, .int (nI 35)]) (rest := []) ⟨hx, hb, hml, hown, hts⟩ (metX3_decode32 l D dB dN h0 48 f 35 (by decide) (by decide)) (va_cwS 2 hts (lw_S q54 q55 q6 q56) rfl rfl rfl (by decide +kernel) ⟨Nat.le_of_ble_eq_true rfl, Nat.le_of_ble_eq_true rfl⟩) (PcH.pre hP hK hD) rfl rfl hl.1 rfl (lv_room (Nat.le_of_ble_eq_true rfl)) dX2_reduce384_139 ⟨Nat.le_of_ble_eq_true rfl, Nat.le_of_ble_eq_true rfl⟩) ?_
  refine lv_i2l (v := (nI (yW f 35)).toInt64) hx hb dX2_reduce384_142 rfl ?_
  refine lv_ldc2 hx hb hown (hts _ q57) dX2_reduce384_143 ?_
  refine lv_land hx hb dX2_reduce384_146 ?_
  refine wt_l (y := zI (y384 f 10)) (zl_W f 35) ?_
  refine st_st (k := 10) (n' := 11) (pc' := 149) (Z := y384 f) hx hb hl (by decide) (Or.inl ⟨dX2_reduce384_147, rfl⟩) rfl (fun j h1 h2 => ⟨by omega, rfl⟩) (fun ls hl => ?_)
  refine lv_aload_n hx hb dX2_reduce384_149 rfl (LL_0 hl) ?_
  refine lv_bipush (v := nI 39) hx hb dX2_reduce384_150 (by decide) ?_
  refine wc_read (W.runS (As := [.ref h0, .int (nI 39)]) (rest := []) ⟨hx, hb, hml, hown, hts⟩ (metX3_decode24 l D dB dN h0 48 f 39 (by decide) (by decide)) (va_cwS 2 hts (lw_S q58 q59 q6 q60) rfl rfl rfl (by decide +kernel) ⟨Nat.le_of_ble_eq_true rfl, Nat.le_of_ble_eq_true rfl⟩) (PcH.pre hP hK hD) rfl rfl hl.1 rfl (lv_room (Nat.le_of_ble_eq_true rfl)) dX2_reduce384_152 ⟨Nat.le_of_ble_eq_true rfl, Nat.le_of_ble_eq_true rfl⟩) ?_
  refine lv_iconst (v := 4) hx hb dX2_reduce384_155 (by decide) ?_
  refine lv_ishl hx hb dX2_reduce384_156 ?_
  refine wt_i (y := nI (yT f 39 * 16)) (pk_shlN _ 4 (by decide +kernel) (by have := yT_lt f 39; omega)) ?_
  refine lv_i2l (v := (nI (yT f 39 * 16)).toInt64) hx hb dX2_reduce384_157 rfl ?_
  refine lv_ldc2 hx hb hown (hts _ q57) dX2_reduce384_158 ?_
  refine lv_land hx hb dX2_reduce384_161 ?_
  refine wt_l (y := zI (y384 f 11)) (zl_T f 39) ?_
  refine st_st (k := 11) (n' := 12) (pc' := 164) (Z := y384 f) hx hb hl (by decide) (Or.inl ⟨dX2_reduce384_162, rfl⟩) rfl (fun j h1 h2 => ⟨by omega, rfl⟩) (fun ls hl => ?_)
  refine lv_aload_n hx hb dX2_reduce384_164 rfl (LL_0 hl) ?_
  refine lv_bipush (v := nI 42) hx hb dX2_reduce384_165 (by decide) ?_
  refine wc_read (W.runS (As := [.ref h0, .int (nI 42)]) (rest := []) ⟨hx, hb, hml, hown, hts⟩ (metX3_decode32 l D dB dN h0 48 f 42 (by decide) (by decide)) (va_cwS 2 hts (lw_S q54 q55 q6 q56) rfl rfl rfl (by decide +kernel) ⟨Nat.le_of_ble_eq_true rfl, Nat.le_of_ble_eq_true rfl⟩) (PcH.pre hP hK hD) rfl rfl hl.1 rfl (lv_room (Nat.le_of_ble_eq_true rfl)) dX2_reduce384_167 ⟨Nat.le_of_ble_eq_true rfl, Nat.le_of_ble_eq_true rfl⟩) ?_
  refine lv_i2l (v := (nI (yW f 42)).toInt64) hx hb dX2_reduce384_170 rfl ?_
  refine lv_ldc2 hx hb hown (hts _ q57) dX2_reduce384_171 ?_
  refine lv_land hx hb dX2_reduce384_174 ?_
  refine wt_l (y := zI (y384 f 12)) (zl_W f 42) ?_
  refine st_st (k := 12) (n' := 13) (pc' := 177) (Z := y384 f) hx hb hl (by decide) (Or.inl ⟨dX2_reduce384_175, rfl⟩) rfl (fun j h1 h2 => ⟨by omega, rfl⟩) (fun ls hl => ?_)
  refine lv_aload_n hx hb dX2_reduce384_177 rfl (LL_0 hl) ?_
  refine lv_bipush (v := nI 46) hx hb dX2_reduce384_178 (by decide) ?_
  refine wc_read (W.runS (As := [.ref h0, .int (nI 46)]) (rest := []) ⟨hx, hb, hml, hown, hts⟩ (metX3_decode16 l D dB dN h0 48 f 46 (by decide) (by decide)) (va_cwS 2 hts (lw_S q85 q86 q6 q87) rfl rfl rfl (by decide +kernel) ⟨Nat.le_of_ble_eq_true rfl, Nat.le_of_ble_eq_true rfl⟩) (PcH.pre hP hK hD) rfl rfl hl.1 rfl (lv_room (Nat.le_of_ble_eq_true rfl)) dX2_reduce384_180 ⟨Nat.le_of_ble_eq_true rfl, Nat.le_of_ble_eq_true rfl⟩) ?_
  refine lv_iconst (v := 4) hx hb dX2_reduce384_183 (by decide) ?_
  refine lv_ishl hx hb dX2_reduce384_184 ?_
  refine wt_i (y := nI (yH f 46 * 16)) (pk_shlN _ 4 (by decide +kernel) (by have := yH_lt f 46; omega)) ?_
  refine lv_i2l (v := (nI (yH f 46 * 16)).toInt64) hx hb dX2_reduce384_185 rfl ?_
  refine lv_ldc2 hx hb hown (hts _ q57) dX2_reduce384_186 ?_
  refine lv_land hx hb dX2_reduce384_189 ?_
  refine wt_l (y := zI (y384 f 13)) (zl_H f 46) ?_
  refine st_st (k := 13) (n' := 14) (pc' := 192) (Z := y384 f) hx hb hl (by decide) (Or.inl ⟨dX2_reduce384_190, rfl⟩) rfl (fun j h1 h2 => ⟨by omega, rfl⟩) (fun ls hl => ?_)
  obtain ⟨hok, hpre⟩ := red_pre (ms := ms384) rfl ms384_m ms384_b (y384_in f)
  refine st_run hx hb hown hts (by decide) _ _ _ _ ls hl imX2_reduce384 hok (fun ls hl => ?_)
  refine st_tail hx hb hown hts hl (by decide) (by decide) hpre itX2_reduce384 (fun ls hl => ?_)
  obtain ⟨y, hy, hy8, hy9, hsum⟩ := red_end (n := 14) (by decide) ms384_v hpre (y384_V f)
  have hl := LL_9 hl (by decide) hy
  have b0 := hy8 0 (by decide)
  have b1 := hy8 1 (by decide)
  have b2 := hy8 2 (by decide)
  have b3 := hy8 3 (by decide)
  have b4 := hy8 4 (by decide)
  have b5 := hy8 5 (by decide)
  have b6 := hy8 6 (by decide)
  have b7 := hy8 7 (by decide)
  refine lv_bipush (v := nI 64) hx hb dX2_reduce384_928 (by decide) ?_
  have hPe : va_P D vwCl [] s.heap := va_P.nil
  have hDe : va_D (fun x => s.heap.size ≤ x) [] := va_D.nil
  refine va_newa (atype := .byte) (ty := .byte) (N' := 64) (a0 := (64, .inl (fun _ => 0))) hx hb (hts _ q38) rfl hK hPe hDe hS (fun q h => h) (fun cA => rfl) (by decide) (by decide) (Nat.le_of_ble_eq_true rfl) (Nat.le_of_ble_eq_true rfl) (Nat.le_of_ble_eq_true rfl) dX2_reduce384_930 (fun q cA H hK2 hP hD hS => ?_)
  have ecA : dB = cA := hK2.one (i := 0) (j := 2) rfl rfl
  subst ecA
  have hP : va_P D vwCl [(q, .inl (dB, 64, .inl (fun _ => 0)))] H := hP
  have hD : va_D (fun x => s.heap.size ≤ x) [(q, .inl (dB, 64, .inl (fun _ => 0)))] := hD
  refine lv_astore (lv' := [(31, .ref q), (1, .long (zI (y 0 : Int))), (3, .long (zI (y 1 : Int))), (5, .long (zI (y 2 : Int))), (7, .long (zI (y 3 : Int))), (9, .long (zI (y 4 : Int))), (11, .long (zI (y 5 : Int))), (13, .long (zI (y 6 : Int))), (15, .long (zI (y 7 : Int))), (17, .long (zI (y 8 : Int)))]) hx hb dX2_reduce384_932 hl (by decide) rfl (fun ls hl => ?_)
  refine lv_lload_n hx hb dX2_reduce384_934 rfl (lv_at hl 1 rfl) ?_
  refine lv_lload_n hx hb dX2_reduce384_935 rfl (lv_at hl 2 rfl) ?_
  refine lv_bipush (v := 28) hx hb dX2_reduce384_936 (by decide) ?_
  refine lv_lshl hx hb dX2_reduce384_938 rfl ?_
  refine lv_lor hx hb dX2_reduce384_939 ?_
  refine wt_l (y := lN (y 0 + y 1 * 268435456)) (zI_pack (by omega) (by omega)) ?_
  refine lv_aload hx hb dX2_reduce384_940 (lv_at hl 0 rfl) ?_
  refine lv_iconst (v := nI 0) hx hb dX2_reduce384_942 (by decide) ?_
  refine wc_set (k0 := 0) (W.runS (As := [.long (lN (y 0 + y 1 * 268435456)), .ref q, .int (nI 0)]) (rest := []) ⟨hx, hb, hml, hown, hts⟩ (metX3_encode56 l D dB dN q 64 (fun _ => 0) 0 (y 0 + y 1 * 268435456) (by decide) (by decide) (by omega)) (va_cwS 3 hts (lw_S q68 q69 q6 q70) rfl rfl rfl (by decide +kernel) ⟨Nat.le_of_ble_eq_true rfl, Nat.le_of_ble_eq_true rfl⟩) (PcH.pre hP hK hD) rfl rfl hl.1 rfl (lv_room (Nat.le_of_ble_eq_true rfl)) dX2_reduce384_943 ⟨Nat.le_of_ble_eq_true rfl, Nat.le_of_ble_eq_true rfl⟩) hP hD hS rfl (fun x h => by rw [h]; exact hD.2 0 _ rfl) (fun H locs hP hD hS => ?_)
  have hP : va_P D vwCl [(q, .inl (dB, 64, .inl (enc56 (fun _ => 0) 0 (y 0 + y 1 * 268435456))))] H := hP
  have hD : va_D (fun x => s.heap.size ≤ x) [(q, .inl (dB, 64, .inl (enc56 (fun _ => 0) 0 (y 0 + y 1 * 268435456))))] := hD
  refine W.eq (g2 := F0 m 946 ls []) rfl ?_
  refine lv_lload hx hb dX2_reduce384_946 (lv_at hl 3 rfl) ?_
  refine lv_lload hx hb dX2_reduce384_948 (lv_at hl 4 rfl) ?_
  refine lv_bipush (v := 28) hx hb dX2_reduce384_950 (by decide) ?_
  refine lv_lshl hx hb dX2_reduce384_952 rfl ?_
  refine lv_lor hx hb dX2_reduce384_953 ?_
  refine wt_l (y := lN (y 2 + y 3 * 268435456)) (zI_pack (by omega) (by omega)) ?_
  refine lv_aload hx hb dX2_reduce384_954 (lv_at hl 0 rfl) ?_
  refine lv_bipush (v := nI 7) hx hb dX2_reduce384_956 (by decide) ?_
  refine wc_set (k0 := 0) (W.runS (As := [.long (lN (y 2 + y 3 * 268435456)), .ref q, .int (nI 7)]) (rest := []) ⟨hx, hb, hml, hown, hts⟩ (metX3_encode56 l D dB dN q 64 (enc56 (fun _ => 0) 0 (y 0 + y 1 * 268435456)) 7 (y 2 + y 3 * 268435456) (by decide) (by decide) (by omega)) (va_cwS 3 hts (lw_S q68 q69 q6 q70) rfl rfl rfl (by decide +kernel) ⟨Nat.le_of_ble_eq_true rfl, Nat.le_of_ble_eq_true rfl⟩) (PcH.pre hP hK hD) rfl rfl hl.1 rfl (lv_room (Nat.le_of_ble_eq_true rfl)) dX2_reduce384_958 ⟨Nat.le_of_ble_eq_true rfl, Nat.le_of_ble_eq_true rfl⟩) hP hD hS rfl (fun x h => by rw [h]; exact hD.2 0 _ rfl) (fun H locs hP hD hS => ?_)
  have hP : va_P D vwCl [(q, .inl (dB, 64, .inl (enc56 (enc56 (fun _ => 0) 0 (y 0 + y 1 * 268435456)) 7 (y 2 + y 3 * 268435456))))] H := hP
  have hD : va_D (fun x => s.heap.size ≤ x) [(q, .inl (dB, 64, .inl (enc56 (enc56 (fun _ => 0) 0 (y 0 + y 1 * 268435456)) 7 (y 2 + y 3 * 268435456))))] := hD
  refine W.eq (g2 := F0 m 961 ls []) rfl ?_
  refine lv_lload hx hb dX2_reduce384_961 (lv_at hl 5 rfl) ?_
  refine lv_lload hx hb dX2_reduce384_963 (lv_at hl 6 rfl) ?_
  refine lv_bipush (v := 28) hx hb dX2_reduce384_965 (by decide) ?_
  refine lv_lshl hx hb dX2_reduce384_967 rfl ?_
  refine lv_lor hx hb dX2_reduce384_968 ?_
  refine wt_l (y := lN (y 4 + y 5 * 268435456)) (zI_pack (by omega) (by omega)) ?_
  refine lv_aload hx hb dX2_reduce384_969 (lv_at hl 0 rfl) ?_
  refine lv_bipush (v := nI 14) hx hb dX2_reduce384_971 (by decide) ?_
  refine wc_set (k0 := 0) (W.runS (As := [.long (lN (y 4 + y 5 * 268435456)), .ref q, .int (nI 14)]) (rest := []) ⟨hx, hb, hml, hown, hts⟩ (metX3_encode56 l D dB dN q 64 (enc56 (enc56 (fun _ => 0) 0 (y 0 + y 1 * 268435456)) 7 (y 2 + y 3 * 268435456)) 14 (y 4 + y 5 * 268435456) (by decide) (by decide) (by omega)) (va_cwS 3 hts (lw_S q68 q69 q6 q70) rfl rfl rfl (by decide +kernel) ⟨Nat.le_of_ble_eq_true rfl, Nat.le_of_ble_eq_true rfl⟩) (PcH.pre hP hK hD) rfl rfl hl.1 rfl (lv_room (Nat.le_of_ble_eq_true rfl)) dX2_reduce384_973 ⟨Nat.le_of_ble_eq_true rfl, Nat.le_of_ble_eq_true rfl⟩) hP hD hS rfl (fun x h => by rw [h]; exact hD.2 0 _ rfl) (fun H locs hP hD hS => ?_)
  have hP : va_P D vwCl [(q, .inl (dB, 64, .inl (enc56 (enc56 (enc56 (fun _ => 0) 0 (y 0 + y 1 * 268435456)) 7 (y 2 + y 3 * 268435456)) 14 (y 4 + y 5 * 268435456))))] H := hP
  have hD : va_D (fun x => s.heap.size ≤ x) [(q, .inl (dB, 64, .inl (enc56 (enc56 (enc56 (fun _ => 0) 0 (y 0 + y 1 * 268435456)) 7 (y 2 + y 3 * 268435456)) 14 (y 4 + y 5 * 268435456))))] := hD
  refine W.eq (g2 := F0 m 976 ls []) rfl ?_
  refine lv_lload hx hb dX2_reduce384_976 (lv_at hl 7 rfl) ?_
  refine lv_lload hx hb dX2_reduce384_978 (lv_at hl 8 rfl) ?_
  refine lv_bipush (v := 28) hx hb dX2_reduce384_980 (by decide) ?_
  refine lv_lshl hx hb dX2_reduce384_982 rfl ?_
  refine lv_lor hx hb dX2_reduce384_983 ?_
  refine wt_l (y := lN (y 6 + y 7 * 268435456)) (zI_pack (by omega) (by omega)) ?_
  refine lv_aload hx hb dX2_reduce384_984 (lv_at hl 0 rfl) ?_
  refine lv_bipush (v := nI 21) hx hb dX2_reduce384_986 (by decide) ?_
  refine wc_set (k0 := 0) (W.runS (As := [.long (lN (y 6 + y 7 * 268435456)), .ref q, .int (nI 21)]) (rest := []) ⟨hx, hb, hml, hown, hts⟩ (metX3_encode56 l D dB dN q 64 (enc56 (enc56 (enc56 (fun _ => 0) 0 (y 0 + y 1 * 268435456)) 7 (y 2 + y 3 * 268435456)) 14 (y 4 + y 5 * 268435456)) 21 (y 6 + y 7 * 268435456) (by decide) (by decide) (by omega)) (va_cwS 3 hts (lw_S q68 q69 q6 q70) rfl rfl rfl (by decide +kernel) ⟨Nat.le_of_ble_eq_true rfl, Nat.le_of_ble_eq_true rfl⟩) (PcH.pre hP hK hD) rfl rfl hl.1 rfl (lv_room (Nat.le_of_ble_eq_true rfl)) dX2_reduce384_988 ⟨Nat.le_of_ble_eq_true rfl, Nat.le_of_ble_eq_true rfl⟩) hP hD hS rfl (fun x h => by rw [h]; exact hD.2 0 _ rfl) (fun H locs hP hD hS => ?_)
  have hP : va_P D vwCl [(q, .inl (dB, 64, .inl (enc56 (enc56 (enc56 (enc56 (fun _ => 0) 0 (y 0 + y 1 * 268435456)) 7 (y 2 + y 3 * 268435456)) 14 (y 4 + y 5 * 268435456)) 21 (y 6 + y 7 * 268435456))))] H := hP
  have hD : va_D (fun x => s.heap.size ≤ x) [(q, .inl (dB, 64, .inl (enc56 (enc56 (enc56 (enc56 (fun _ => 0) 0 (y 0 + y 1 * 268435456)) 7 (y 2 + y 3 * 268435456)) 14 (y 4 + y 5 * 268435456)) 21 (y 6 + y 7 * 268435456))))] := hD
  refine W.eq (g2 := F0 m 991 ls []) rfl ?_
  refine lv_lload hx hb dX2_reduce384_991 (lv_at hl 9 rfl) ?_
  refine lv_l2i (v := nI (y 8)) hx hb dX2_reduce384_993 (zI_l2i _) ?_
  refine lv_aload hx hb dX2_reduce384_994 (lv_at hl 0 rfl) ?_
  refine lv_bipush (v := nI 28) hx hb dX2_reduce384_996 (by decide) ?_
  refine wc_set (k0 := 0) (W.runS (As := [.int (nI (y 8)), .ref q, .int (nI 28)]) (rest := []) ⟨hx, hb, hml, hown, hts⟩ (metX3_encode32 l D dB dN q 64 (enc56 (enc56 (enc56 (enc56 (fun _ => 0) 0 (y 0 + y 1 * 268435456)) 7 (y 2 + y 3 * 268435456)) 14 (y 4 + y 5 * 268435456)) 21 (y 6 + y 7 * 268435456)) 28 (y 8) (by decide) (by decide) hy9) (va_cwS 3 hts (lw_S q77 q72 q6 q73) rfl rfl rfl (by decide +kernel) ⟨Nat.le_of_ble_eq_true rfl, Nat.le_of_ble_eq_true rfl⟩) (PcH.pre hP hK hD) rfl rfl hl.1 rfl (lv_room (Nat.le_of_ble_eq_true rfl)) dX2_reduce384_998 ⟨Nat.le_of_ble_eq_true rfl, Nat.le_of_ble_eq_true rfl⟩) hP hD hS rfl (fun x h => by rw [h]; exact hD.2 0 _ rfl) (fun H locs hP hD hS => ?_)
  have hP : va_P D vwCl [(q, .inl (dB, 64, .inl (eAll (fun _ => 0) y)))] H := hP
  have hD : va_D (fun x => s.heap.size ≤ x) [(q, .inl (dB, 64, .inl (eAll (fun _ => 0) y)))] := hD
  refine W.eq (g2 := F0 m 1001 ls []) rfl ?_
  refine lv_aload hx hb dX2_reduce384_1001 (lv_at hl 0 rfl) ?_
  have hq : s.heap.size ≤ q := hD.2 0 _ rfl
  exact W.aret (v := .ref q) hx hb hr (Or.inr ⟨_, rfl⟩) (Or.inr ⟨_, rfl⟩) (fun t ht hW => ⟨q, _, rfl, hq, by rw [ht]; exact hP 0 _ rfl, by rw [ht]; exact hS.1, fun x hx1 => by
    rw [ht]
    exact hS.2.1 x hx1 (Nat.not_le.mpr hx1), by
    show num 32 (fun j => ub (eAll (fun _ => 0) y j)) = _
    rw [eAll_num _ _ hy8 hy9, hsum]⟩) hS.2.2 dX2_reduce384_1003
end
section
/-! ===== words: compared as one number ===== -/
def w32 : Nat → (Nat → Nat) → Nat
  | 0, _ => 0
  | n + 1, a => w32 n a + a n * 4294967296 ^ n
theorem w32_congr {a b : Nat → Nat} : ∀ n, (∀ i, i < n → a i = b i) → w32 n a = w32 n b := by
  intro n
  induction n with
  | zero => intro _; rfl
  | succ n ih =>
    intro h
    show w32 n a + a n * _ = w32 n b + b n * _
    rw [ih (fun i hi => h i (by omega)), h n (by omega)]
theorem w32_lt {b : Nat → Nat} : ∀ n, (∀ i, i < n → b i < 4294967296) → w32 n b < 4294967296 ^ n := by
  intro n
  induction n with
  | zero => intro _; show 0 < 1; decide
  | succ n ih =>
    intro h
    have a := ih (fun i hi => h i (by omega))
    have c := h n (by omega)
    show w32 n b + b n * 4294967296 ^ n < 4294967296 ^ (n + 1)
    rw [Nat.pow_succ]
    generalize 4294967296 ^ n = P at *
    have e : b n * P ≤ 4294967295 * P := Nat.mul_le_mul_right P (by omega)
    omega
theorem w32_cmp {a b : Nat → Nat} {i : Nat} (ha : ∀ j, j < i → a j < 4294967296) (hi : a i < b i) : ∀ k, (∀ j, i < j → j < i + 1 + k → a j = b j) → w32 (i + 1 + k) a < w32 (i + 1 + k) b := by
  intro k
  induction k with
  | zero =>
    intro _
    show w32 i a + a i * 4294967296 ^ i < w32 i b + b i * 4294967296 ^ i
    have h1 := w32_lt i ha
    generalize 4294967296 ^ i = P at *
    have e : (a i + 1) * P ≤ b i * P := Nat.mul_le_mul_right P hi
    rw [Nat.add_mul] at e
    omega
  | succ k ih =>
    intro h
    show w32 (i + 1 + k) a + a (i + 1 + k) * _ < w32 (i + 1 + k) b + b (i + 1 + k) * _
    rw [h (i + 1 + k) (by omega) (by omega)]
    have := ih (fun j h1 h2 => h j h1 (by omega))
    omega
/-- four bytes a word -/
theorem w32_num (f : Nat → Int32) : ∀ n, w32 n (fun i => yW f (4 * i)) = num (4 * n) (fun j => ub (f j)) := by
  intro n
  induction n with
  | zero => rfl
  | succ n ih =>
    show w32 n (fun i => yW f (4 * i)) + yW f (4 * n) * 4294967296 ^ n = num (4 * n + 4) (fun j => ub (f j))
    rw [ih, num_S, num_S, num_S, num_S, p256 (4 * n) 1, p256 (4 * n) 2, p256 (4 * n) 3]
    have hp : 256 ^ (4 * n) = 4294967296 ^ n := by rw [Nat.pow_mul]
    rw [hp]
    generalize 4294967296 ^ n = P
    generalize num (4 * n) (fun j => ub (f j)) = N
    unfold yW
    generalize ub (f (4 * n)) = a
    generalize ub (f (4 * n + 1)) = b
    generalize ub (f (4 * n + 2)) = c
    generalize ub (f (4 * n + 3)) = d
    have m : ∀ x k : Nat, x * (P * k) = x * k * P := by intro x k; rw [Nat.mul_comm P, ← Nat.mul_assoc]
    rw [m, m, m, show a + b * 256 + c * 65536 + d * 16777216 = a + b * 256 ^ 1 + c * 256 ^ 2 + d * 256 ^ 3 by omega]
    simp only [Nat.add_mul]
    omega
/-- the order's words -/
def lWs : List Int32 := [1559614445, 1477600026, -1560830762, 350157278, 0, 0, 0, 268435456]
def lW (j : Nat) : Int32 := lWs.getD j 0
def lWv (j : Nat) : Value := .int (lW j)
theorem lW_num : w32 8 (fun j => uI (lW j)) = nL := by decide +kernel
/-- the sign turned: signed order is that of the unsigned values -/
theorem min_int (x : Int32) : (x + (-2147483648)).toInt = (uI x : Int) - 2147483648 := by
  have h := uI_int x
  have h2 := uI_lt x
  have h3 := x.toInt_lt
  have h4 := x.le_toInt
  rw [Int32.toInt_add, show ((-2147483648 : Int32)).toInt = -2147483648 by decide +kernel, Int.bmod_def]
  have e : ((2 ^ 32 : Nat) : Int) = 4294967296 := rfl
  rw [e]
  have h5 : x.toInt = (uI x : Int) ∨ x.toInt = (uI x : Int) - 4294967296 := by omega
  rcases h5 with h5 | h5
  · rw [h5]; split <;> omega
  · rw [h5]; split <;> omega
theorem min_le (x y : Int32) : x + (-2147483648) ≤ y + (-2147483648) ↔ uI x ≤ uI y := by
  rw [Int32.le_iff_toInt_le, min_int, min_int]
  omega
def dW (f g : Nat → Int32) : Nat → Nat → Int32
  | 0 => g
  | i + 1 => upd (dW f g i) i (nI (yW f (4 * i)))
theorem dW_lo (f g : Nat → Int32) : ∀ i j, j < i → dW f g i j = nI (yW f (4 * j)) := by
  intro i
  induction i with
  | zero => intro j h; omega
  | succ i ih =>
    intro j h
    show upd (dW f g i) i _ j = _
    by_cases e : j = i
    · subst e; exact pk_us
    · rw [pk_un e]; exact ih j (by omega)
theorem dW_num (f g : Nat → Int32) : w32 8 (fun j => uI (dW f g 8 j)) = num 32 (fun j => ub (f j)) := by
  rw [w32_congr (b := fun i => yW f (4 * i)) 8 (fun i hi => by show uI (dW f g 8 i) = _; rw [dW_lo f g 8 i hi, uI_nI (yW_lt f _)])]
  exact w32_num f 8
def lI : Nat → Int32
  | 0 => -1
  | n + 1 => nI n
theorem lI_dec (n : Nat) : nI n + Int32.ofInt (-1) = lI n := by
  have e : Int32.ofInt (-1) = -1 := by decide +kernel
  rw [e]
  cases n with
  | zero => decide +kernel
  | succ n => exact pk_m1 n
/-- a start with the order's table -/
def PcL (D : va_G) (dB dN : ClassId) (av : List Value) (ws : va_W) (A : Nat → Prop) (t : Nat) : Array Value → State → Prop := va_Pc av (fun U => va_P D vwCl ws U.heap ∧ va_K D vwCl (tyL dB dN) U ∧ va_D (fun _ => True) ws ∧ va_Z RX2 "L" "[I" (.ref t) A U U.heap ∧ va_T .int t 8 lWv A U U.heap)
theorem PcL.pre {s : State} {H : Heap} {locs : List Loc} {D : va_G} {dB dN : ClassId} {av : List Value} {ws : va_W} {A B : Nat → Prop} {t : Nat} (hP : va_P D vwCl ws H) (hK : va_K D vwCl (tyL dB dN) s) {A' : Nat → Prop} (hD : va_D A' ws) (hZ : va_Z RX2 "L" "[I" (.ref t) A s s.heap) (hT : va_T .int t 8 lWv A s s.heap) (hS : va_S A s.heap H locs) (hB : ∀ q, B q → A q) : PreS s H (PcL D dB dN av ws B t) av :=
  ⟨fun a U g mk q => by obtain ⟨q0, qP, qK, qD, qZ, qT⟩ := q; exact ⟨q0, qP, va_K.moved (u := U) (U := U.calling g mk a) (Vm.Alike.refl U.vm) qK, qD, va_Z.moved (u := U) (U := U.calling g mk a) (Vm.Alike.refl U.vm) qZ, va_T.moved (u := U) (U := U.calling g mk a) (Vm.Alike.refl U.vm) qT⟩,
   fun U hU hW => ⟨rfl, by rw [hU]; exact hP, va_K.moved hW.alike hK, hD.weaken (fun _ _ _ _ => trivial), by rw [hU]; exact va_Z.moved hW.alike ((hZ.kept (fun a h1 h2 => hS.2.1 a h1 h2)).narrow hB), by rw [hU]; exact va_T.moved hW.alike ((hT.kept (fun a h1 h2 => hS.2.1 a h1 h2)).narrow hB)⟩⟩

set_option maxHeartbeats 4000000 in
set_option maxRecDepth 100000 in
/-- eight words out of 32 bytes -/
theorem metX3_decode32_2 (l : Launch) (D : va_G) (dB dN : ClassId) (h0 h1 : Nat) (f g : Nat → Int32) : Met l yX3_decode32_2 (ws_ yX3_decode32_2 cX3_decode32_2 6 none) ({ frames := 1, cells := 0, slots := 0, locals := 22 }) (PcH D dB dN [.ref h0, .int (nI 0), .ref h1, .int (nI 0), .int (nI 8)] [(h0, .inl (dB, 32, .inl f)), (h1, .inl (dN, 8, .inl g))]) (Qs h1 (vp_cell dN (8, .inl (dW f g 8))) (.returned none)) 0 0 (fun z => z = h0 ∨ z = h1) := by
  refine Met.ofW (cc := cX3_decode32_2) (maxL := 6) (ret := none) (by decide) rfl ?_
  intro p e s m args below meth c s₁ B hml hv
  obtain ⟨rfl, hP, hK, hD0⟩ := hv
  have hx := B.exec
  have hb := B.bytes
  have hr := B.returns
  have hts := atoms_spec (ws := ws_ yX3_decode32_2 cX3_decode32_2 6 _) B.pre
  have hts : ∀ w ∈ lw_all, w.before _ s = true := fun w h => hts w (List.mem_cons_of_mem _ h)
  have hown : s.vm.findClass RX3 = some m.cls := findClass_of_methodNamed B.named
  have hlocks := B.notSynchronized
  have hl := lv_entry ([.ref h0, .int (nI 0), .ref h1, .int (nI 0), .int (nI 8)]) (n := 6) (Nat.le_of_ble_eq_true rfl)
  rw [lg_entry_eq]
  generalize (lg_sl ([.ref h0, .int (nI 0), .ref h1, .int (nI 0), .int (nI 8)]) ++ List.replicate (6 - (lg_sl ([.ref h0, .int (nI 0), .ref h1, .int (nI 0), .int (nI 8)])).length) Slot.unset).toArray = ls at hl ⊢
  have hl : lv_has ls 6 [(0, .ref h0), (1, .int (nI 0)), (2, .ref h1), (3, .int (nI 0)), (4, .int (nI 8))] := hl
  have hD := va_D.to2 hD0
  have hS : va_S (fun z => z = h0 ∨ z = h1) s.heap s.heap [] := va_S.rf
  have hP0 := hP
  have loop : ∀ (n i : Nat), i + n = 8 → ∀ (H : Heap) (locs : List Loc) (ls : Array Slot), va_P D vwCl [(h0, .inl (dB, 32, .inl f)), (h1, .inl (dN, 8, .inl (dW f g i)))] H → va_D (fun z => z = h0 ∨ z = h1) [(h0, .inl (dB, 32, .inl f)), (h1, .inl (dN, 8, .inl (dW f g i)))] → va_S (fun z => z = h0 ∨ z = h1) s.heap H locs → lv_has ls 6 [(5, .int (nI i)), (0, .ref h0), (1, .int (nI 0)), (2, .ref h1), (3, .int (nI 0)), (4, .int (nI 8))] → W p l e (headSpec (ws_ yX3_decode32_2 cX3_decode32_2 6 none) ({ frames := 1, cells := 0, slots := 0, locals := 22 })).room s m ([.ref h0, .int (nI 0), .ref h1, .int (nI 0), .int (nI 8)] : List Value).toArray below meth c H locs 0 0 (MQ below (Qs h1 (vp_cell dN (8, .inl (dW f g 8))) (.returned none)) ([.ref h0, .int (nI 0), .ref h1, .int (nI 0), .int (nI 8)] : List Value).toArray s 0 0 (fun z => z = h0 ∨ z = h1)) (F0 m 3 ls []) := by
    intro n
    induction n with
    | zero =>
      intro i hi H locs ls hP hD hS hl
      refine lv_iload hx hb dX3_decode32_2_3 (lv_at hl 0 rfl) ?_
      refine lv_iload hx hb dX3_decode32_2_5 (lv_at hl 5 rfl) ?_
      refine lv_icmp_ge (tgt := 32) hx hb dX3_decode32_2_7 (by decide) (fun _ => ?_) (fun c1 => absurd ((nI_leI (by decide) (by omega)).mpr (by omega)) c1)
      have e8 : i = 8 := by omega
      subst e8
      exact W.vret hx hb hr (fun t ht hW => ⟨rfl, by rw [ht]; exact hP 1 _ rfl, by rw [ht]; exact hS.1, fun x h1 h2 => by
        rw [ht]
        by_cases e : x = h0
        · subst e; exact (show H[x]? = _ from hP 0 _ rfl).trans (show s.heap[x]? = _ from hP0 0 _ rfl).symm
        · exact hS.2.1 x h1 (fun z => z.elim e h2)⟩) hS.2.2 dX3_decode32_2_32
    | succ n ih =>
      intro i hi H locs ls hP hD hS hl
      refine lv_iload hx hb dX3_decode32_2_3 (lv_at hl 0 rfl) ?_
      refine lv_iload hx hb dX3_decode32_2_5 (lv_at hl 5 rfl) ?_
      refine lv_icmp_ge (tgt := 32) hx hb dX3_decode32_2_7 (by decide) (fun c1 => absurd ((nI_leI (by decide) (by omega)).mp c1) (by omega)) (fun _ => ?_)
      refine lv_aload_n hx hb dX3_decode32_2_10 rfl (lv_at hl 3 rfl) ?_
      refine lv_iload_n hx hb dX3_decode32_2_11 rfl (lv_at hl 4 rfl) ?_
      refine lv_iload hx hb dX3_decode32_2_12 (lv_at hl 0 rfl) ?_
      refine lv_iadd hx hb dX3_decode32_2_14 ?_
      refine wt_i (y := nI i) ((nI_add 0 i).trans (congrArg nI (Nat.zero_add i))) ?_
      refine lv_aload_n hx hb dX3_decode32_2_15 rfl (lv_at hl 1 rfl) ?_
      refine lv_iload_n hx hb dX3_decode32_2_16 rfl (lv_at hl 2 rfl) ?_
      refine lv_iload hx hb dX3_decode32_2_17 (lv_at hl 0 rfl) ?_
      refine lv_iconst (v := 4) hx hb dX3_decode32_2_19 (by decide) ?_
      refine lv_imul hx hb dX3_decode32_2_20 ?_
      refine lv_iadd hx hb dX3_decode32_2_21 ?_
      refine wt_i (y := nI (4 * i)) (by show nI 0 + nI i * nI 4 = _; rw [pk_mul, nI_add]; congr 1; omega) ?_
      refine wc_read (W.runS (As := [.ref h0, .int (nI (4 * i))]) (rest := [.int (nI i), .ref h1]) ⟨hx, hb, hml, hown, hts⟩ (metX3_decode32 l D dB dN h0 32 f (4 * i) (by omega) (by decide)) (va_cwS 2 hts (lw_S q105 q55 q6 q56) rfl rfl rfl (by decide +kernel) ⟨Nat.le_of_ble_eq_true rfl, Nat.le_of_ble_eq_true rfl⟩) (PcH.pre (hP.sub [0] rfl) hK (hD.sub [0] (by decide) rfl)) rfl rfl hl.1 rfl (lv_room (Nat.le_of_ble_eq_true rfl)) dX3_decode32_2_22 ⟨Nat.le_refl _, Nat.le_refl _⟩) ?_
      refine va_iast hx hb hK hP hD hS 1 1 rfl rfl (vin (by omega) (by decide)) dX3_decode32_2_25 (fun H locs hP hD hS => ?_)
      have eq1 : upd (dW f g i) (nI i).toNatClampNeg (nI (yW f (4 * i))) = dW f g (i + 1) := by rw [ncl (by omega)]; rfl
      rw [eq1] at hP hD
      refine lv_iinc (v := nI (i + 1)) (lv' := [(5, .int (nI (i + 1))), (0, .ref h0), (1, .int (nI 0)), (2, .ref h1), (3, .int (nI 0)), (4, .int (nI 8))]) hx hb dX3_decode32_2_26 hl (k := 0) rfl (nI_1 i) (by decide) rfl (fun ls hl => ?_)
      refine lv_goto (tgt := 3) hx hb dX3_decode32_2_29 (by decide) ?_
      exact ih (i + 1) (by omega) H locs ls hP hD hS hl
  refine lv_iconst (v := nI 0) hx hb dX3_decode32_2_0 (by decide) ?_
  refine lv_istore (lv' := [(5, .int (nI 0)), (0, .ref h0), (1, .int (nI 0)), (2, .ref h1), (3, .int (nI 0)), (4, .int (nI 8))]) hx hb dX3_decode32_2_1 hl (by decide) rfl (fun ls hl => ?_)
  exact loop 8 0 rfl s.heap [] ls hP hD hS hl
set_option maxHeartbeats 4000000 in
set_option maxRecDepth 100000 in
/-- eight words out of 32 bytes -/
theorem metX2_decode (l : Launch) (D : va_G) (dB dN : ClassId) (h0 h1 : Nat) (f g : Nat → Int32) : Met l yX2_decode (ws_ yX2_decode cX2_decode 2 none) ({ frames := 2, cells := 0, slots := 0, locals := 47 }) (PcH D dB dN [.ref h0, .ref h1] [(h0, .inl (dB, 32, .inl f)), (h1, .inl (dN, 8, .inl g))]) (Qs h1 (vp_cell dN (8, .inl (dW f g 8))) (.returned none)) 0 0 (fun z => z = h0 ∨ z = h1) := by
  refine Met.ofW (cc := cX2_decode) (maxL := 2) (ret := none) (by decide) rfl ?_
  intro p e s m args below meth c s₁ B hml hv
  obtain ⟨rfl, hP, hK, hD0⟩ := hv
  have hx := B.exec
  have hb := B.bytes
  have hr := B.returns
  have hts := atoms_spec (ws := ws_ yX2_decode cX2_decode 2 _) B.pre
  have hts : ∀ w ∈ lw_all, w.before _ s = true := fun w h => hts w (List.mem_cons_of_mem _ h)
  have hown : s.vm.findClass RX2 = some m.cls := findClass_of_methodNamed B.named
  have hlocks := B.notSynchronized
  have hl := lv_entry ([.ref h0, .ref h1]) (n := 2) (Nat.le_of_ble_eq_true rfl)
  rw [lg_entry_eq]
  generalize (lg_sl ([.ref h0, .ref h1]) ++ List.replicate (2 - (lg_sl ([.ref h0, .ref h1])).length) Slot.unset).toArray = ls at hl ⊢
  have hl : lv_has ls 2 [(0, .ref h0), (1, .ref h1)] := hl
  have hD := va_D.to2 hD0
  have hS : va_S (fun z => z = h0 ∨ z = h1) s.heap s.heap [] := va_S.rf
  have hP0 := hP
  refine lv_aload_n hx hb dX2_decode_0 rfl (lv_at hl 0 rfl) ?_
  refine lv_iconst (v := nI 0) hx hb dX2_decode_1 (by decide) ?_
  refine lv_aload_n hx hb dX2_decode_2 rfl (lv_at hl 1 rfl) ?_
  refine lv_iconst (v := nI 0) hx hb dX2_decode_3 (by decide) ?_
  refine lv_bipush (v := nI 8) hx hb dX2_decode_4 (by decide) ?_
  refine wc_set (k0 := 1) (W.runS (As := [.ref h0, .int (nI 0), .ref h1, .int (nI 0), .int (nI 8)]) (rest := []) ⟨hx, hb, hml, hown, hts⟩ (metX3_decode32_2 l D dB dN h0 h1 f g) (va_cwS 5 hts (lw_S q102 q103 q6 q104) rfl rfl rfl (by decide +kernel) ⟨Nat.le_of_ble_eq_true rfl, Nat.le_of_ble_eq_true rfl⟩) (PcH.pre hP hK hD) rfl rfl hl.1 rfl (lv_room (Nat.le_of_ble_eq_true rfl)) dX2_decode_6 ⟨Nat.le_refl _, Nat.le_refl _⟩) hP hD hS rfl (fun x h => h) (fun H locs hP hD hS => ?_)
  exact W.vret hx hb hr (fun t ht hW => ⟨rfl, by rw [ht]; exact hP 1 _ rfl, by rw [ht]; exact hS.1, fun x h1 h2 => by
    rw [ht]
    by_cases e : x = h0
    · subst e; exact (show H[x]? = _ from hP 0 _ rfl).trans (show s.heap[x]? = _ from hP0 0 _ rfl).symm
    · exact hS.2.1 x h1 (fun z => z.elim e h2)⟩) hS.2.2 dX2_decode_9
set_option maxHeartbeats 4000000 in
set_option maxRecDepth 100000 in
/-- gte: is the number of eight words at least the order -/
theorem metX4_gte (l : Launch) (D : va_G) (dB dN : ClassId) (h0 t : Nat) (a : Nat → Int32) : Met l yX4_gte (ws_ yX4_gte cX4_gte 5 (some .boolean)) ({ frames := 0, cells := 0, slots := 0, locals := 0 }) (PcL D dB dN [.ref h0, .ref t] [(h0, .inl (dN, 8, .inl a))] (fun _ => False) t) (QcRead (nI (if nL ≤ w32 8 (fun j => uI (a j)) then 1 else 0))) 0 0 (fun _ => False) := by
  refine Met.ofW (cc := cX4_gte) (maxL := 5) (ret := (some .boolean)) (by decide) rfl ?_
  intro p e s m args below meth c s₁ B hml hv
  obtain ⟨rfl, hP, hK, hD0, hZ, hT⟩ := hv
  have hx := B.exec
  have hb := B.bytes
  have hr := B.returns
  have hts := atoms_spec (ws := ws_ yX4_gte cX4_gte 5 _) B.pre
  have hts : ∀ w ∈ lw_all, w.before _ s = true := fun w h => hts w (List.mem_cons_of_mem _ h)
  have hown : s.vm.findClass RX4 = some m.cls := findClass_of_methodNamed B.named
  have hlocks := B.notSynchronized
  have hl := lv_entry ([.ref h0, .ref t]) (n := 5) (Nat.le_of_ble_eq_true rfl)
  rw [lg_entry_eq]
  generalize (lg_sl ([.ref h0, .ref t]) ++ List.replicate (5 - (lg_sl ([.ref h0, .ref t])).length) Slot.unset).toArray = ls at hl ⊢
  have hl : lv_has ls 5 [(0, .ref h0), (1, .ref t)] := hl
  have hS : va_S (fun _ => False) s.heap s.heap [] := va_S.rf
  have loop : ∀ (n : Nat), n ≤ 8 → (∀ j, n ≤ j → j < 8 → uI (a j) = uI (lW j)) → ∀ (lv : List (Nat × Value)) (ls : Array Slot), (2, .int (lI n)) ∈ lv → (0, .ref h0) ∈ lv → (1, .ref t) ∈ lv → lv_has ls 5 lv → W p l e (headSpec (ws_ yX4_gte cX4_gte 5 (some .boolean)) ({ frames := 0, cells := 0, slots := 0, locals := 0 })).room s m ([.ref h0, .ref t] : List Value).toArray below meth c s.heap [] 0 0 (MQ below (QcRead (nI (if nL ≤ w32 8 (fun j => uI (a j)) then 1 else 0))) ([.ref h0, .ref t] : List Value).toArray s 0 0 (fun _ => False)) (F0 m 3 ls []) := by
    intro n
    induction n with
    | zero =>
      intro _ heq lv ls m2 m0 m1 hl
      have hl : lv_has ls 5 [(2, .int (lI 0)), (0, .ref h0), (1, .ref t)] := lv_mono hl (fun q hq => by simp only [List.mem_cons, List.not_mem_nil, or_false] at hq; rcases hq with rfl | rfl | rfl <;> assumption)
      refine lv_iload_n hx hb dX4_gte_3 rfl (lv_at hl 0 rfl) ?_
      refine lv_if_lt (tgt := 44) hx hb dX4_gte_4 (by decide) (fun _ => ?_) (fun c1 => absurd (by decide +kernel) c1)
      have e1 : nL ≤ w32 8 (fun j => uI (a j)) := by rw [← lW_num, w32_congr 8 (fun i hi => heq i (Nat.zero_le _) hi)]; exact Nat.le_refl _
      refine lv_iconst (v := 1) hx hb dX4_gte_44 (by decide) ?_
      exact W.zret (v := 1) hx hb hr rfl (fun t ht hW => ⟨by rw [if_pos e1]; rfl, ht⟩) (fun q h => by cases h) dX4_gte_45
    | succ n ih =>
      intro hn heq lv ls m2 m0 m1 hl
      have hl : lv_has ls 5 [(2, .int (nI n)), (0, .ref h0), (1, .ref t)] := lv_mono hl (fun q hq => by simp only [List.mem_cons, List.not_mem_nil, or_false] at hq; rcases hq with rfl | rfl | rfl <;> assumption)
      refine lv_iload_n hx hb dX4_gte_3 rfl (lv_at hl 0 rfl) ?_
      refine lv_if_lt (tgt := 44) hx hb dX4_gte_4 (by decide) (fun c1 => absurd c1 (nI_pos (by omega))) (fun _ => ?_)
      refine lv_aload_n hx hb dX4_gte_7 rfl (lv_at hl 1 rfl) ?_
      refine lv_iload_n hx hb dX4_gte_8 rfl (lv_at hl 0 rfl) ?_
      refine va_iald hx hb hK hP 0 1 rfl rfl (vin (by omega) (by decide)) dX4_gte_9 ?_
      refine wt_i (y := a n) (congrArg a (ncl (by omega))) ?_
      refine lv_ldc hx hb hown (hts _ q111) dX4_gte_10 ?_
      refine lv_iadd hx hb dX4_gte_12 ?_
      refine lv_istore_n (lv' := [(3, .int ((a n) + (-2147483648 : Int32))), (2, .int (nI n)), (0, .ref h0), (1, .ref t)]) hx hb dX4_gte_13 rfl hl (by decide) rfl (fun ls hl => ?_)
      refine lv_aload_n hx hb dX4_gte_14 rfl (lv_at hl 3 rfl) ?_
      refine lv_iload_n hx hb dX4_gte_15 rfl (lv_at hl 1 rfl) ?_
      refine va_ti (v := .int (lW n)) hx hb hT hS (vin (by omega) (by decide)) (by show Value.int (lW _) = _; rw [ncl (by omega)]) dX4_gte_16 ?_
      refine lv_ldc hx hb hown (hts _ q111) dX4_gte_17 ?_
      refine lv_iadd hx hb dX4_gte_19 ?_
      refine lv_istore (lv' := [(4, .int ((lW n) + (-2147483648 : Int32))), (3, .int ((a n) + (-2147483648 : Int32))), (2, .int (nI n)), (0, .ref h0), (1, .ref t)]) hx hb dX4_gte_20 hl (by decide) rfl (fun ls hl => ?_)
      refine lv_iload_n hx hb dX4_gte_22 rfl (lv_at hl 1 rfl) ?_
      refine lv_iload hx hb dX4_gte_23 (lv_at hl 0 rfl) ?_
      refine lv_icmp_ge (tgt := 30) hx hb dX4_gte_25 (by decide) (fun c2 => ?_) (fun c2 => ?_)
      · rw [min_le] at c2
        refine lv_iload_n hx hb dX4_gte_30 rfl (lv_at hl 1 rfl) ?_
        refine lv_iload hx hb dX4_gte_31 (lv_at hl 0 rfl) ?_
        refine lv_icmp_le (tgt := 38) hx hb dX4_gte_33 (by decide) (fun c3 => ?_) (fun c3 => ?_)
        · rw [min_le] at c3
          refine lv_iinc (v := lI n) (lv' := [(2, .int (lI n)), (4, .int ((lW n) + (-2147483648 : Int32))), (3, .int ((a n) + (-2147483648 : Int32))), (0, .ref h0), (1, .ref t)]) hx hb dX4_gte_38 hl (k := 2) rfl (lI_dec n) (by decide) rfl (fun ls hl => ?_)
          refine lv_goto (tgt := 3) hx hb dX4_gte_41 (by decide) ?_
          exact ih (by omega) (fun j h1 h2 => by
            rcases Nat.lt_or_ge n j with q | q
            · exact heq j q h2
            · rw [show j = n by omega]; omega) _ ls List.mem_cons_self (by simp) (by simp) hl
        · rw [min_le] at c3
          have e1 : nL < w32 8 (fun j => uI (a j)) := by
            rw [← lW_num]
            have h := w32_cmp (a := fun j => uI (lW j)) (b := fun j => uI (a j)) (i := n) (fun j _ => uI_lt _) (show uI (lW n) < uI (a n) by omega) (7 - n) (fun j h1 h2 => (heq j h1 (by omega)).symm)
            rw [show n + 1 + (7 - n) = 8 by omega] at h
            exact h
          refine lv_iconst (v := 1) hx hb dX4_gte_36 (by decide) ?_
          exact W.zret (v := 1) hx hb hr rfl (fun t ht hW => ⟨by rw [if_pos (Nat.le_of_lt e1)]; rfl, ht⟩) (fun q h => by cases h) dX4_gte_37
      · rw [min_le] at c2
        have e1 : w32 8 (fun j => uI (a j)) < nL := by
          rw [← lW_num]
          have h := w32_cmp (a := fun j => uI (a j)) (b := fun j => uI (lW j)) (i := n) (fun j _ => uI_lt _) (show uI (a n) < uI (lW n) by omega) (7 - n) (fun j h1 h2 => heq j h1 (by omega))
          rw [show n + 1 + (7 - n) = 8 by omega] at h
          exact h
        refine lv_iconst (v := 0) hx hb dX4_gte_28 (by decide) ?_
        exact W.zret (v := 0) hx hb hr rfl (fun t ht hW => ⟨by rw [if_neg (Nat.not_le.mpr e1)]; rfl, ht⟩) (fun q h => by cases h) dX4_gte_29
  refine lv_bipush (v := nI 7) hx hb dX4_gte_0 (by decide) ?_
  refine lv_istore_n (lv' := [(2, .int (nI 7)), (0, .ref h0), (1, .ref t)]) hx hb dX4_gte_2 rfl hl (by decide) rfl (fun ls hl => ?_)
  exact loop 8 (Nat.le_refl 8) (fun j h1 h2 => by omega) _ ls List.mem_cons_self (by simp) (by simp) hl
set_option maxHeartbeats 4000000 in
set_option maxRecDepth 100000 in
/-- checkVar: is the number of 32 bytes below the order; its words are left in n -/
theorem metX2_checkVar (l : Launch) (D : va_G) (dB dN : ClassId) (h0 h1 t : Nat) (f g : Nat → Int32) : Met l yX2_checkVar (ws_ yX2_checkVar cX2_checkVar 2 (some .boolean)) ({ frames := 3, cells := 0, slots := 0, locals := 68 }) (PcL D dB dN [.ref h0, .ref h1] [(h0, .inl (dB, 32, .inl f)), (h1, .inl (dN, 8, .inl g))] (fun z => z = h0 ∨ z = h1) t) (Qs h1 (vp_cell dN (8, .inl (dW f g 8))) (.returned (some (.int (nI (if num 32 (fun j => ub (f j)) < nL then 1 else 0)))))) 0 0 (fun z => z = h0 ∨ z = h1) := by
  refine Met.ofW (cc := cX2_checkVar) (maxL := 2) (ret := (some .boolean)) (by decide) rfl ?_
  intro p e s m args below meth c s₁ B hml hv
  obtain ⟨rfl, hP, hK, hD0, hZ, hT⟩ := hv
  have hx := B.exec
  have hb := B.bytes
  have hr := B.returns
  have hts := atoms_spec (ws := ws_ yX2_checkVar cX2_checkVar 2 _) B.pre
  have hts : ∀ w ∈ lw_all, w.before _ s = true := fun w h => hts w (List.mem_cons_of_mem _ h)
  have hown : s.vm.findClass RX2 = some m.cls := findClass_of_methodNamed B.named
  have hlocks := B.notSynchronized
  have hl := lv_entry ([.ref h0, .ref h1]) (n := 2) (Nat.le_of_ble_eq_true rfl)
  rw [lg_entry_eq]
  generalize (lg_sl ([.ref h0, .ref h1]) ++ List.replicate (2 - (lg_sl ([.ref h0, .ref h1])).length) Slot.unset).toArray = ls at hl ⊢
  have hl : lv_has ls 2 [(0, .ref h0), (1, .ref h1)] := hl
  have hD := va_D.to2 hD0
  have hS : va_S (fun z => z = h0 ∨ z = h1) s.heap s.heap [] := va_S.rf
  have hP0 := hP
  refine lv_aload_n hx hb dX2_checkVar_0 rfl (lv_at hl 0 rfl) ?_
  refine lv_aload_n hx hb dX2_checkVar_1 rfl (lv_at hl 1 rfl) ?_
  refine wc_set (k0 := 1) (W.runS (As := [.ref h0, .ref h1]) (rest := []) ⟨hx, hb, hml, hown, hts⟩ (metX2_decode l D dB dN h0 h1 f g) (va_cwS 2 hts (lw_S q99 q100 q5 q101) rfl rfl rfl (by decide +kernel) ⟨Nat.le_of_ble_eq_true rfl, Nat.le_of_ble_eq_true rfl⟩) (PcH.pre hP hK hD) rfl rfl hl.1 rfl (lv_room (Nat.le_of_ble_eq_true rfl)) dX2_checkVar_2 ⟨Nat.le_refl _, Nat.le_refl _⟩) hP hD hS rfl (fun x h => h) (fun H locs hP hD hS => ?_)
  have hP : va_P D vwCl [(h0, .inl (dB, 32, .inl f)), (h1, .inl (dN, 8, .inl (dW f g 8)))] H := hP
  have hD : va_D (fun z => z = h0 ∨ z = h1) [(h0, .inl (dB, 32, .inl f)), (h1, .inl (dN, 8, .inl (dW f g 8)))] := hD
  refine lv_aload_n hx hb dX2_checkVar_5 rfl (lv_at hl 1 rfl) ?_
  refine va_gets hx hb hZ hS hown (hts _ q106) (fun _ h => h) dX2_checkVar_6 ?_
  refine wc_read (W.runS (As := [.ref h1, .ref t]) (rest := []) ⟨hx, hb, hml, hown, hts⟩ (metX4_gte l D dB dN h1 t (dW f g 8)) (va_cwS 2 hts (lw_S q108 q109 q7 q110) rfl rfl rfl (by decide +kernel) ⟨Nat.le_of_ble_eq_true rfl, Nat.le_of_ble_eq_true rfl⟩) (PcL.pre (hP.sub [1] rfl) hK (hD.sub [1] (by decide) rfl) hZ hT hS (fun _ h => h.elim)) rfl rfl hl.1 rfl (lv_room (Nat.le_of_ble_eq_true rfl)) dX2_checkVar_9 ⟨Nat.le_refl _, Nat.le_refl _⟩) ?_
  have fin : ∀ t : State, t.heap = H → t.heap[h1]? = some (vp_cell dN (8, .inl (dW f g 8))) ∧ s.heap.size ≤ t.heap.size ∧ ∀ x, x < s.heap.size → x ≠ h1 → t.heap[x]? = s.heap[x]? := fun t ht => ⟨by rw [ht]; exact hP 1 _ rfl, by rw [ht]; exact hS.1, fun x h1 h2 => by
    rw [ht]
    by_cases e : x = h0
    · subst e; exact (show H[x]? = _ from hP 0 _ rfl).trans (show s.heap[x]? = _ from hP0 0 _ rfl).symm
    · exact hS.2.1 x h1 (fun z => z.elim e h2)⟩
  rw [dW_num]
  by_cases hc : nL ≤ num 32 (fun j => ub (f j))
  · rw [if_pos hc]
    refine lv_if_ne (tgt := 19) hx hb dX2_checkVar_12 (by decide) (fun _ => ?_) (fun c1 => absurd c1 (by decide +kernel))
    refine lv_iconst (v := 0) hx hb dX2_checkVar_19 (by decide) ?_
    exact W.zret (v := 0) hx hb hr rfl (fun t ht hW => ⟨by rw [if_neg (Nat.not_lt.mpr hc)]; rfl, fin t ht⟩) hS.2.2 dX2_checkVar_20
  · rw [if_neg hc]
    refine lv_if_ne (tgt := 19) hx hb dX2_checkVar_12 (by decide) (fun c1 => absurd (show nI 0 = 0 from rfl) c1) (fun _ => ?_)
    refine lv_iconst (v := 1) hx hb dX2_checkVar_15 (by decide) ?_
    refine lv_goto (tgt := 20) hx hb dX2_checkVar_16 (by decide) ?_
    exact W.zret (v := 1) hx hb hr rfl (fun t ht hW => ⟨by rw [if_pos (Nat.not_le.mp hc)]; rfl, fin t ht⟩) hS.2.2 dX2_checkVar_20
end
section
/-! ===== WideScalars ===== -/
abbrev oX (aw az ax ay ap ao an : Nat) : va_E := .inr (0, [.ref aw, .ref az, .ref ax, .ref ay, .ref ap, .ref ao, .ref an])
theorem PcH.preV {s : State} {H : Heap} {D : va_G} {dB dN : ClassId} {b : Nat} {As : List Value} {ws ws1 : va_W} (C : String) (k ci : Nat) {q : vw_C} {fs : List Value} (hc : vwCl[ci]? = some q) (hC : q.1 = C) (he : ws1[k]? = some (b, .inr (ci, fs))) (hP1 : va_P D vwCl ws1 H) (hP : va_P D vwCl ws H) (hK : va_K D vwCl (tyL dB dN) s) {A : Nat → Prop} (hD : va_D A ws) : PreV s H C b (PcH D dB dN (.ref b :: As) ws) As := by
  have h := PcH.pre (av := .ref b :: As) hP hK hD
  exact ⟨h.1, by rw [← hC]; exact va_recv hK hP1 hc he, h.2⟩
theorem PcZ.preV {s : State} {H : Heap} {D : va_G} {dB dN : ClassId} {b : Nat} {As : List Value} {ws ws1 : va_W} (C : String) (k ci : Nat) {q : vw_C} {fs : List Value} (hc : vwCl[ci]? = some q) (hC : q.1 = C) (he : ws1[k]? = some (b, .inr (ci, fs))) (hP1 : va_P D vwCl ws1 H) (hP : va_P D vwCl ws H) (hK : va_K D vwCl (tyL dB dN) s) {A : Nat → Prop} (hD : va_D A ws) : PreV s H C b (PcZ D dB dN (.ref b :: As) ws H.size) As := by
  have h := PcZ.pre (av := .ref b :: As) hP hK hD
  exact ⟨h.1, by rw [← hC]; exact va_recv hK hP1 hc he, h.2⟩
theorem PcL.preV {s : State} {H : Heap} {locs : List Loc} {D : va_G} {dB dN : ClassId} {b : Nat} {As : List Value} {ws ws1 : va_W} {A B : Nat → Prop} {t : Nat} (C : String) (k ci : Nat) {q : vw_C} {fs : List Value} (hc : vwCl[ci]? = some q) (hC : q.1 = C) (he : ws1[k]? = some (b, .inr (ci, fs))) (hP1 : va_P D vwCl ws1 H) (hP : va_P D vwCl ws H) (hK : va_K D vwCl (tyL dB dN) s) {A' : Nat → Prop} (hD : va_D A' ws) (hZ : va_Z RX2 "L" "[I" (.ref t) A s s.heap) (hT : va_T .int t 8 lWv A s s.heap) (hS : va_S A s.heap H locs) (hB : ∀ q, B q → A q) : PreV s H C b (PcL D dB dN (.ref b :: As) ws B t) As := by
  have h := PcL.pre (av := .ref b :: As) hP hK hD hZ hT hS hB
  exact ⟨h.1, by rw [← hC]; exact va_recv hK hP1 hc he, h.2⟩
/-- two arrays of ints or bytes are written, nothing else -/
def Q2 (oc : Outcome) (q1 : Nat) (c1 : ClassId) (n1 q2 : Nat) (c2 : ClassId) (n2 : Nat) (post : (Nat → Int32) → (Nat → Int32) → Prop) : Array Value → State → Outcome → State → Prop := fun _ st o t => ∃ g1 g2 : Nat → Int32, o = oc ∧ post g1 g2 ∧ t.heap[q1]? = some (vp_cell c1 (n1, .inl g1)) ∧ t.heap[q2]? = some (vp_cell c2 (n2, .inl g2)) ∧ st.heap.size ≤ t.heap.size ∧ ∀ x, x < st.heap.size → x ≠ q1 → x ≠ q2 → t.heap[x]? = st.heap[x]?
/-- a field of an object is set to a new array of bytes -/
def QO (D : va_G) (o0 ci : Nat) (fs : Nat → List Value) (dB : ClassId) (nn : Nat) (post : (Nat → Int32) → Prop) : Array Value → State → Outcome → State → Prop := fun _ st o t => ∃ (b : Nat) (g : Nat → Int32), o = .returned none ∧ post g ∧ st.heap.size ≤ b ∧ va_at D vwCl (o0, .inr (ci, fs b)) t.heap ∧ t.heap[b]? = some (vp_cell dB (nn, .inl g)) ∧ st.heap.size ≤ t.heap.size ∧ ∀ x, x < st.heap.size → x ≠ o0 → t.heap[x]? = st.heap[x]?
section
variable {p : Program} {l : Launch} {e : Env} {R : Room} {s : State} {m : MethodId} {args : Array Value} {below : List Frame} {meth : Method} {c : Code} {H : Heap} {locs : List Loc} {cells slots : Nat} {Q : State → Prop} {pc : Nat} {ls : Array Slot} {rest st0 : List Value}
theorem wc_two {a : Array Value} {D : va_G} {cl : List vw_C} {A : Nat → Prop} {ws : va_W} {H0 : Heap} {q1 q2 k1 k2 n1 n2 : Nat} {c1 c2 : ClassId} {x1 x2 : vp_A} {v : Option Value} {post : (Nat → Int32) → (Nat → Int32) → Prop} {free : Addr → Prop} (hr : CallRun p l e R s m args below meth c H locs cells slots 0 0 (F0 m pc ls st0) rest (Q2 (.returned v) q1 c1 n1 q2 c2 n2 post a) free) (hP : va_P D cl ws H) (hD : va_D A ws) (hS : va_S A H0 H locs) (he1 : ws[k1]? = some (q1, .inl (c1, x1))) (he2 : ws[k2]? = some (q2, .inl (c2, x2))) (hne : k1 ≠ k2) (hf : ∀ x, free x → A x)
    (kk : ∀ (g1 g2 : Nat → Int32) (H1 : Heap) (locs1 : List Loc), post g1 g2 → va_P D cl ((ws.set k1 (q1, .inl (c1, n1, .inl g1))).set k2 (q2, .inl (c2, n2, .inl g2))) H1 → va_D A ((ws.set k1 (q1, .inl (c1, n1, .inl g1))).set k2 (q2, .inl (c2, n2, .inl g2))) → va_S A H0 H1 locs1 → W p l e R s m args below meth c H1 locs1 cells slots Q (F0 m (pc + 3) ls (v.toList ++ rest))) : W p l e R s m args below meth c H locs cells slots Q (F0 m pc ls st0) := by
  intro T hT X
  obtain ⟨v', st₀, t, T', L, h0, X', hL, e1, ⟨g1, g2, hv, hp, hc1, hc2, hz, hk⟩, st⟩ := hr T hT X
  cases hv
  subst h0
  have l1 : k1 < ws.length := (List.getElem?_eq_some_iff.mp he1).1
  have l2 : k2 < ws.length := (List.getElem?_eq_some_iff.mp he2).1
  have hP1 : va_P D cl ((ws.set k1 (q1, .inl (c1, n1, .inl g1))).set k2 (q2, .inl (c2, n2, .inl g2))) t.heap := by
    intro i q hq
    by_cases i2 : i = k2
    · subst i2
      rw [List.getElem?_set_self (by rw [List.length_set]; exact l2)] at hq
      cases hq
      exact hc2
    · rw [List.getElem?_set_ne (fun z => i2 z.symm)] at hq
      by_cases i1 : i = k1
      · subst i1
        rw [List.getElem?_set_self l1] at hq
        cases hq
        exact hc1
      · rw [List.getElem?_set_ne (fun z => i1 z.symm)] at hq
        exact (hP i q hq).kept (hk q.1 (hP i q hq).lt (fun z => i1 (hD.1 i k1 q _ hq he1 z)) (fun z => i2 (hD.1 i k2 q _ hq he2 z)))
  have hD1 := (hD.set (e := .inl (c1, n1, .inl g1)) he1).set (e := .inl (c2, n2, .inl g2)) (p := k2) (a := q2) (e0 := .inl (c2, x2)) (by rw [List.getElem?_set_ne hne]; exact he2)
  obtain ⟨t2, a1, b1⟩ := kk g1 g2 t.heap (locs ++ L) hp hP1 hD1 ⟨Nat.le_trans hS.1 hz, fun q h1 h2 => by
      rw [hk q (Nat.lt_of_lt_of_le h1 hS.1) (fun z => h2 (by rw [z]; exact hD.2 k1 _ he1)) (fun z => h2 (by rw [z]; exact hD.2 k2 _ he2))]
      exact hS.2.1 q h1 h2, fun q hq => by
      rcases List.mem_append.mp hq with h | h
      · exact hS.2.2 q h
      · exact hf _ (hL q h)⟩ T' e1 X'
  exact ⟨t2, st t2 a1, b1⟩
theorem wc_obj {a : Array Value} {D : va_G} {A : Nat → Prop} {ws : va_W} {H0 : Heap} {dB : ClassId} {o0 ci k0 nn mc ms : Nat} {fs0 : List Value} {fs : Nat → List Value} {post : (Nat → Int32) → Prop} {free : Addr → Prop} (hr : CallRun p l e R s m args below meth c H locs cells slots mc ms (F0 m pc ls st0) rest (QO D o0 ci fs dB nn post a) free) (hP : va_P D vwCl ws H) (hD : va_D A ws) (hS : va_S A H0 H locs) (hA : ∀ q, H0.size ≤ q → A q) (he : ws[k0]? = some (o0, .inr (ci, fs0))) (hf : ∀ x, free x → A x)
    (kk : ∀ (b : Nat) (g : Nat → Int32) (H1 : Heap) (locs1 : List Loc), post g → va_P D vwCl (ws.set k0 (o0, .inr (ci, fs b)) ++ [(b, .inl (dB, nn, .inl g))]) H1 → va_D A (ws.set k0 (o0, .inr (ci, fs b)) ++ [(b, .inl (dB, nn, .inl g))]) → va_S A H0 H1 locs1 → W p l e R s m args below meth c H1 locs1 (cells + mc) (slots + ms) Q (F0 m (pc + 3) ls rest)) : W p l e R s m args below meth c H locs cells slots Q (F0 m pc ls st0) := by
  intro T hT X
  obtain ⟨v', st₀, t, T', L, h0, X', hL, e1, ⟨b, g, hv, hp, hb, hc0, hc, hz, hk⟩, st⟩ := hr T hT X
  cases hv
  subst h0
  have hP1 := hP.setK hD he hc0 hk
  have hD1 := hD.set (e := .inr (ci, fs b)) he
  have lt1 : ∀ (i : Nat) (x : Nat × va_E), (ws.set k0 (o0, .inr (ci, fs b)))[i]? = some x → x.1 < st₀.heap.size := by
    intro i x hx
    by_cases i0 : i = k0
    · subst i0
      rw [List.getElem?_set_self (List.getElem?_eq_some_iff.mp he).1] at hx
      cases hx
      exact (hP i _ he).lt
    · rw [List.getElem?_set_ne (fun z => i0 z.symm)] at hx
      exact (hP i x hx).lt
  obtain ⟨t2, a1, b1⟩ := kk b g t.heap (locs ++ L) hp (va_P.app hP1 (fun k x hx => by
      have hz : k < 1 := (List.getElem?_eq_some_iff.mp hx).1
      rw [show k = 0 by omega] at hx
      cases hx
      exact hc)) (va_D.app hD1 ⟨fun i j x y hx hy _ => by
        have h1 : i < 1 := (List.getElem?_eq_some_iff.mp hx).1
        have h2 : j < 1 := (List.getElem?_eq_some_iff.mp hy).1
        omega, fun k x hx => by
        have hz : k < 1 := (List.getElem?_eq_some_iff.mp hx).1
        rw [show k = 0 by omega] at hx
        cases hx
        exact hA b (Nat.le_trans hS.1 hb)⟩ (fun i j x y hx hy hxy => by
        have h2 : j < 1 := (List.getElem?_eq_some_iff.mp hy).1
        rw [show j = 0 by omega] at hy
        cases hy
        have := lt1 i x hx
        rw [hxy] at this
        exact absurd this (Nat.not_lt.mpr hb))) (hS.setL hz hk (hD.2 k0 _ he) (fun x h => hf _ (hL x h))) T' e1 X'
  exact ⟨t2, st t2 a1, b1⟩
end
/-- word: four bytes -/
def wrd (f : Nat → Int32) (o : Nat) (w : Int32) : Nat → Int32 := upd (upd (upd (upd f o w.toInt8.toInt32) (o + 1) (w >>> ((8 : Int32) &&& 31)).toInt8.toInt32) (o + 2) (w >>> ((16 : Int32) &&& 31)).toInt8.toInt32) (o + 3) (w >>> ((24 : Int32) &&& 31)).toInt8.toInt32
theorem ub_int (x : Int32) : ((ub x : Nat) : Int) = x.toInt % 256 := by
  have h := uI_int x
  unfold ub
  omega
theorem ub_shr (w s : Int32) (k P : Nat) (hs : (s.toBitVec.smod 32).toNat = k) (hP : ((2 ^ k : Nat) : Int) = (P : Int)) (h : P = 256 ∨ P = 65536 ∨ P = 16777216) : ub (w >>> s) = uI w / P % 256 := by
  have h1 := ub_int (w >>> s)
  rw [pk_shr w s k hs, Int.shiftRight_eq_div_pow, hP] at h1
  have h2 := uI_int w
  have h3 := uI_lt w
  rcases h with rfl | rfl | rfl <;> omega
theorem wrd_lo {f : Nat → Int32} {o j : Nat} {w : Int32} (h : j < o ∨ o + 4 ≤ j) : wrd f o w j = f j := by
  unfold wrd
  rw [pk_un (by omega), pk_un (by omega), pk_un (by omega), pk_un (by omega)]
/-- the digit k of a word -/
def dg (w : Int32) (k : Nat) : Nat := uI w / 256 ^ k % 256
theorem wrd_at (f : Nat → Int32) (o : Nat) (w : Int32) (k : Nat) (hk : k < 4) : ub (wrd f o w (o + k)) = dg w k := by
  unfold wrd dg
  have cs : k = 0 ∨ k = 1 ∨ k = 2 ∨ k = 3 := by omega
  rcases cs with rfl | rfl | rfl | rfl
  · rw [pk_un (by omega), pk_un (by omega), pk_un (by omega)]
    show ub (upd f o _ o) = _
    rw [pk_us, ub_cast]
    show uI w % 256 = uI w / 1 % 256
    rw [Nat.div_one]
  · rw [pk_un (by omega), pk_un (by omega), pk_us, ub_cast, ub_shr w _ 8 256 (by decide +kernel) rfl (by decide)]
  · rw [pk_un (by omega), pk_us, ub_cast, ub_shr w _ 16 65536 (by decide +kernel) rfl (by decide)]
  · rw [pk_us, ub_cast, ub_shr w _ 24 16777216 (by decide +kernel) rfl (by decide)]
def wid (f : Nat → Int32) (q : Nat) (a b c d : Int32) : Nat → Int32 := wrd (wrd (wrd (wrd f (16 * q) a) (16 * q + 4) b) (16 * q + 8) c) (16 * q + 12) d
/-- the bytes of a copy -/
def cpB (f g : Nat → Int32) : Nat → Nat → Int32
  | 0 => g
  | i + 1 => upd (cpB f g i) i (vp_nar .byte (f i))
theorem cpB_lo (f g : Nat → Int32) : ∀ i j, j < i → ub (cpB f g i j) = ub (f j) := by
  intro i
  induction i with
  | zero => intro j h; omega
  | succ i ih =>
    intro j h
    show ub (upd (cpB f g i) i _ j) = _
    by_cases e : j = i
    · subst e; rw [pk_us, ub_nar]
    · rw [pk_un e]; exact ih j (by omega)
theorem cpB_num (f g : Nat → Int32) (n : Nat) : num n (fun j => ub (cpB f g n j)) = num n (fun j => ub (f j)) := num_congr n (fun i hi => cpB_lo f g n i hi)
theorem and31 (x : Int32) : x &&& 31 = nI (uI x % 32) := pk_and x 5 rfl
theorem and3 (x : Int32) : x &&& 3 = nI (uI x % 4) := pk_and x 2 rfl
theorem and1 (x : Int32) : x &&& 1 = nI (uI x % 2) := pk_and x 1 rfl
theorem and15 (x : Int32) : x &&& 15 = nI (uI x % 16) := pk_and x 4 rfl

set_option maxHeartbeats 4000000 in
set_option maxRecDepth 100000 in
/-- word: four bytes of w from o on -/
theorem metX0_word (l : Launch) (D : va_G) (dB dN : ClassId) (h0 n : Nat) (f : Nat → Int32) (o : Nat) (w : Int32) (ho : o + 4 ≤ n) (hn : n < 2147483648) : Met l yX0_word (ws_ yX0_word cX0_word 3 none) ({ frames := 0, cells := 0, slots := 0, locals := 0 }) (PcH D dB dN [.ref h0, .int (nI o), .int w] [(h0, .inl (dB, n, .inl f))]) (Qs h0 (vp_cell dB (n, .inl (wrd f o w))) (.returned none)) 0 0 (fun x => x = h0) := by
  refine Met.ofW (cc := cX0_word) (maxL := 3) (ret := none) (by decide) rfl ?_
  intro p e s m args below meth c s₁ B hml hv
  obtain ⟨rfl, hP, hK, hD0⟩ := hv
  have hx := B.exec
  have hb := B.bytes
  have hr := B.returns
  have hts := atoms_spec (ws := ws_ yX0_word cX0_word 3 _) B.pre
  have hts : ∀ w ∈ lw_all, w.before _ s = true := fun w h => hts w (List.mem_cons_of_mem _ h)
  have hown : s.vm.findClass RX0 = some m.cls := findClass_of_methodNamed B.named
  have hlocks := B.notSynchronized
  have hl := lv_entry ([.ref h0, .int (nI o), .int w]) (n := 3) (Nat.le_of_ble_eq_true rfl)
  rw [lg_entry_eq]
  generalize (lg_sl ([.ref h0, .int (nI o), .int w]) ++ List.replicate (3 - (lg_sl ([.ref h0, .int (nI o), .int w])).length) Slot.unset).toArray = ls at hl ⊢
  have hl : lv_has ls 3 [(0, .ref h0), (1, .int (nI o)), (2, .int w)] := hl
  have hS : va_S (fun x => x = h0) s.heap s.heap [] := va_S.rf
  have hD : va_D (fun x => x = h0) [(h0, .inl (dB, n, .inl f))] := va_D.to1 hD0 rfl
  refine lv_aload_n hx hb dX0_word_0 rfl (lv_at hl 0 rfl) ?_
  refine lv_iload_n hx hb dX0_word_1 rfl (lv_at hl 1 rfl) ?_
  refine lv_iload_n hx hb dX0_word_2 rfl (lv_at hl 2 rfl) ?_
  refine lv_i2b (v := w.toInt8.toInt32) hx hb dX0_word_3 rfl ?_
  refine va_bast hx hb hK hP hD hS 0 0 rfl rfl (vin (by omega) hn) dX0_word_4 (fun H locs hP hD hS => ?_)
  have eq0 : upd f (nI o).toNatClampNeg (vp_nar .byte w.toInt8.toInt32) = (upd f o w.toInt8.toInt32) := by rw [ncl (by omega), pk_vb]
  rw [eq0] at hP hD
  have hP : va_P D vwCl [(h0, .inl (dB, n, .inl (upd f o w.toInt8.toInt32)))] H := hP
  have hD : va_D (fun x => x = h0) [(h0, .inl (dB, n, .inl (upd f o w.toInt8.toInt32)))] := hD
  refine lv_aload_n hx hb dX0_word_5 rfl (lv_at hl 0 rfl) ?_
  refine lv_iload_n hx hb dX0_word_6 rfl (lv_at hl 1 rfl) ?_
  refine lv_iconst (v := 1) hx hb dX0_word_7 (by decide) ?_
  refine lv_iadd hx hb dX0_word_8 ?_
  refine wt_i (y := nI (o + 1)) (nI_add o 1) ?_
  refine lv_iload_n hx hb dX0_word_9 rfl (lv_at hl 2 rfl) ?_
  refine lv_bipush (v := 8) hx hb dX0_word_10 (by decide) ?_
  refine lv_ishr hx hb dX0_word_12 ?_
  refine lv_i2b (v := (w >>> ((8 : Int32) &&& 31)).toInt8.toInt32) hx hb dX0_word_13 rfl ?_
  refine va_bast hx hb hK hP hD hS 0 0 rfl rfl (vin (by omega) hn) dX0_word_14 (fun H locs hP hD hS => ?_)
  have eq1 : upd (upd f o w.toInt8.toInt32) (nI (o + 1)).toNatClampNeg (vp_nar .byte (w >>> ((8 : Int32) &&& 31)).toInt8.toInt32) = (upd (upd f o w.toInt8.toInt32) (o + 1) (w >>> ((8 : Int32) &&& 31)).toInt8.toInt32) := by rw [ncl (by omega), pk_vb]
  rw [eq1] at hP hD
  have hP : va_P D vwCl [(h0, .inl (dB, n, .inl (upd (upd f o w.toInt8.toInt32) (o + 1) (w >>> ((8 : Int32) &&& 31)).toInt8.toInt32)))] H := hP
  have hD : va_D (fun x => x = h0) [(h0, .inl (dB, n, .inl (upd (upd f o w.toInt8.toInt32) (o + 1) (w >>> ((8 : Int32) &&& 31)).toInt8.toInt32)))] := hD
  refine lv_aload_n hx hb dX0_word_15 rfl (lv_at hl 0 rfl) ?_
  refine lv_iload_n hx hb dX0_word_16 rfl (lv_at hl 1 rfl) ?_
  refine lv_iconst (v := 2) hx hb dX0_word_17 (by decide) ?_
  refine lv_iadd hx hb dX0_word_18 ?_
  refine wt_i (y := nI (o + 2)) (nI_add o 2) ?_
  refine lv_iload_n hx hb dX0_word_19 rfl (lv_at hl 2 rfl) ?_
  refine lv_bipush (v := 16) hx hb dX0_word_20 (by decide) ?_
  refine lv_ishr hx hb dX0_word_22 ?_
  refine lv_i2b (v := (w >>> ((16 : Int32) &&& 31)).toInt8.toInt32) hx hb dX0_word_23 rfl ?_
  refine va_bast hx hb hK hP hD hS 0 0 rfl rfl (vin (by omega) hn) dX0_word_24 (fun H locs hP hD hS => ?_)
  have eq2 : upd (upd (upd f o w.toInt8.toInt32) (o + 1) (w >>> ((8 : Int32) &&& 31)).toInt8.toInt32) (nI (o + 2)).toNatClampNeg (vp_nar .byte (w >>> ((16 : Int32) &&& 31)).toInt8.toInt32) = (upd (upd (upd f o w.toInt8.toInt32) (o + 1) (w >>> ((8 : Int32) &&& 31)).toInt8.toInt32) (o + 2) (w >>> ((16 : Int32) &&& 31)).toInt8.toInt32) := by rw [ncl (by omega), pk_vb]
  rw [eq2] at hP hD
  have hP : va_P D vwCl [(h0, .inl (dB, n, .inl (upd (upd (upd f o w.toInt8.toInt32) (o + 1) (w >>> ((8 : Int32) &&& 31)).toInt8.toInt32) (o + 2) (w >>> ((16 : Int32) &&& 31)).toInt8.toInt32)))] H := hP
  have hD : va_D (fun x => x = h0) [(h0, .inl (dB, n, .inl (upd (upd (upd f o w.toInt8.toInt32) (o + 1) (w >>> ((8 : Int32) &&& 31)).toInt8.toInt32) (o + 2) (w >>> ((16 : Int32) &&& 31)).toInt8.toInt32)))] := hD
  refine lv_aload_n hx hb dX0_word_25 rfl (lv_at hl 0 rfl) ?_
  refine lv_iload_n hx hb dX0_word_26 rfl (lv_at hl 1 rfl) ?_
  refine lv_iconst (v := 3) hx hb dX0_word_27 (by decide) ?_
  refine lv_iadd hx hb dX0_word_28 ?_
  refine wt_i (y := nI (o + 3)) (nI_add o 3) ?_
  refine lv_iload_n hx hb dX0_word_29 rfl (lv_at hl 2 rfl) ?_
  refine lv_bipush (v := 24) hx hb dX0_word_30 (by decide) ?_
  refine lv_ishr hx hb dX0_word_32 ?_
  refine lv_i2b (v := (w >>> ((24 : Int32) &&& 31)).toInt8.toInt32) hx hb dX0_word_33 rfl ?_
  refine va_bast hx hb hK hP hD hS 0 0 rfl rfl (vin (by omega) hn) dX0_word_34 (fun H locs hP hD hS => ?_)
  have eq3 : upd (upd (upd (upd f o w.toInt8.toInt32) (o + 1) (w >>> ((8 : Int32) &&& 31)).toInt8.toInt32) (o + 2) (w >>> ((16 : Int32) &&& 31)).toInt8.toInt32) (nI (o + 3)).toNatClampNeg (vp_nar .byte (w >>> ((24 : Int32) &&& 31)).toInt8.toInt32) = (upd (upd (upd (upd f o w.toInt8.toInt32) (o + 1) (w >>> ((8 : Int32) &&& 31)).toInt8.toInt32) (o + 2) (w >>> ((16 : Int32) &&& 31)).toInt8.toInt32) (o + 3) (w >>> ((24 : Int32) &&& 31)).toInt8.toInt32) := by rw [ncl (by omega), pk_vb]
  rw [eq3] at hP hD
  have hP : va_P D vwCl [(h0, .inl (dB, n, .inl (upd (upd (upd (upd f o w.toInt8.toInt32) (o + 1) (w >>> ((8 : Int32) &&& 31)).toInt8.toInt32) (o + 2) (w >>> ((16 : Int32) &&& 31)).toInt8.toInt32) (o + 3) (w >>> ((24 : Int32) &&& 31)).toInt8.toInt32)))] H := hP
  have hD : va_D (fun x => x = h0) [(h0, .inl (dB, n, .inl (upd (upd (upd (upd f o w.toInt8.toInt32) (o + 1) (w >>> ((8 : Int32) &&& 31)).toInt8.toInt32) (o + 2) (w >>> ((16 : Int32) &&& 31)).toInt8.toInt32) (o + 3) (w >>> ((24 : Int32) &&& 31)).toInt8.toInt32)))] := hD
  exact W.vret hx hb hr (fun t ht hW => ⟨rfl, by rw [ht]; exact hP 0 _ rfl, by rw [ht]; exact hS.1, fun x h1 h2 => by rw [ht]; exact hS.2.1 x h1 h2⟩) hS.2.2 dX0_word_35
set_option maxHeartbeats 4000000 in
set_option maxRecDepth 100000 in
/-- wide: sixteen bytes are laid -/
theorem metX0_wide (l : Launch) (D : va_G) (dB dN : ClassId) (o aw az ax ay ap ao an : Nat) (f : Nat → Int32) (part a b c0 d0 : Int32) : Met l yX0_wide (ws_ yX0_wide cX0_wide 7 none) ({ frames := 1, cells := 0, slots := 0, locals := 22 }) (PcH D dB dN [.ref o, .int part, .int a, .int b, .int c0, .int d0] [(o, oX aw az ax ay ap ao an), (aw, .inl (dB, 64, .inl f))]) (Qs aw (vp_cell dB (64, .inl (wid f (uI part % 4) a b c0 d0))) (.returned none)) 0 0 (fun z => z = aw) := by
  refine Met.ofW (cc := cX0_wide) (maxL := 7) (ret := none) (by decide) rfl ?_
  intro p e s m args below meth c s₁ B hml hv
  obtain ⟨rfl, hP, hK, hD0⟩ := hv
  have hx := B.exec
  have hb := B.bytes
  have hr := B.returns
  have hts := atoms_spec (ws := ws_ yX0_wide cX0_wide 7 _) B.pre
  have hts : ∀ w ∈ lw_all, w.before _ s = true := fun w h => hts w (List.mem_cons_of_mem _ h)
  have hown : s.vm.findClass RX0 = some m.cls := findClass_of_methodNamed B.named
  have hlocks := B.notSynchronized
  have hl := lv_entry ([.ref o, .int part, .int a, .int b, .int c0, .int d0]) (n := 7) (Nat.le_of_ble_eq_true rfl)
  rw [lg_entry_eq]
  generalize (lg_sl ([.ref o, .int part, .int a, .int b, .int c0, .int d0]) ++ List.replicate (7 - (lg_sl ([.ref o, .int part, .int a, .int b, .int c0, .int d0])).length) Slot.unset).toArray = ls at hl ⊢
  have hl : lv_has ls 7 [(0, .ref o), (1, .int part), (2, .int a), (3, .int b), (4, .int c0), (5, .int d0)] := hl
  have hS : va_S (fun z => z = aw) s.heap s.heap [] := va_S.rf
  have hR0 : va_P D vwCl [(o, oX aw az ax ay ap ao an)] s.heap := hP.sub [0] rfl
  have hR := hR0
  have hne : ∀ q ∈ ([(o, oX aw az ax ay ap ao an)] : va_W), ¬ q.1 = aw := fun q hq => by rw [List.mem_singleton.mp hq]; exact hD0.ne (i := 0) (j := 1) rfl rfl (by decide)
  have hP : va_P D vwCl [(aw, .inl (dB, 64, .inl f))] s.heap := hP.sub [1] rfl
  have hD : va_D (fun z => z = aw) [(aw, .inl (dB, 64, .inl f))] := va_D.to1 (hD0.sub [1] (by decide) rfl) rfl
  have hq : uI part % 4 < 4 := Nat.mod_lt _ (by decide)
  refine lv_iload_n hx hb dX0_wide_0 rfl (lv_at hl 1 rfl) ?_
  refine lv_iconst (v := 3) hx hb dX0_wide_1 (by decide) ?_
  refine lv_iand hx hb dX0_wide_2 ?_
  refine wt_i (y := nI (uI part % 4)) (and3 part) ?_
  refine lv_iconst (v := 4) hx hb dX0_wide_3 (by decide) ?_
  refine lv_ishl hx hb dX0_wide_4 ?_
  refine wt_i (y := nI (16 * (uI part % 4))) ((pk_shlN _ 4 (by decide +kernel) (by omega)).trans (congrArg nI (Nat.mul_comm _ _))) ?_
  refine lv_istore (lv' := [(6, .int (nI (16 * (uI part % 4)))), (0, .ref o), (1, .int part), (2, .int a), (3, .int b), (4, .int c0), (5, .int d0)]) hx hb dX0_wide_5 hl (by decide) rfl (fun ls hl => ?_)
  generalize uI part % 4 = q at *
  refine lv_aload_n hx hb dX0_wide_7 rfl (lv_at hl 1 rfl) ?_
  refine va_get (D := D) (ci := 0) (v := .ref aw) (C := RX0) (T := TX0) (N := 7) hx hb hts in_X0 hown hK hR 0 rfl rfl 0 (by decide) (hts _ q16) (fun _ h9 => h9) rfl dX0_wide_8 ?_
  refine lv_iload hx hb dX0_wide_11 (lv_at hl 0 rfl) ?_
  refine lv_iload_n hx hb dX0_wide_13 rfl (lv_at hl 3 rfl) ?_
  refine wc_set (k0 := 0) (W.runS (As := [.ref aw, .int (nI (16 * q)), .int a]) (rest := []) ⟨hx, hb, hml, hown, hts⟩ (metX0_word l D dB dN aw 64 f (16 * q) a (by omega) (by decide)) (va_cwS 3 hts (lw_S q44 q45 q3 q46) rfl rfl rfl (by decide +kernel) ⟨Nat.le_of_ble_eq_true rfl, Nat.le_of_ble_eq_true rfl⟩) (PcH.pre hP hK hD) rfl rfl hl.1 rfl (lv_room (Nat.le_of_ble_eq_true rfl)) dX0_wide_14 ⟨Nat.le_refl _, Nat.le_refl _⟩) hP hD hS rfl (fun x h => h) (fun H locs hP hD hS => ?_)
  have hP : va_P D vwCl [(aw, .inl (dB, 64, .inl (wrd f (16 * q) a)))] H := hP
  have hD : va_D (fun z => z = aw) [(aw, .inl (dB, 64, .inl (wrd f (16 * q) a)))] := hD
  have hR := hR0.ro hS hne
  refine lv_aload_n hx hb dX0_wide_17 rfl (lv_at hl 1 rfl) ?_
  refine va_get (D := D) (ci := 0) (v := .ref aw) (C := RX0) (T := TX0) (N := 7) hx hb hts in_X0 hown hK hR 0 rfl rfl 0 (by decide) (hts _ q16) (fun _ h9 => h9) rfl dX0_wide_18 ?_
  refine lv_iload hx hb dX0_wide_21 (lv_at hl 0 rfl) ?_
  refine lv_iconst (v := nI 4) hx hb dX0_wide_23 (by decide) ?_
  refine lv_iadd hx hb dX0_wide_24 ?_
  refine wt_i (y := nI (16 * q + 4)) (nI_add _ _) ?_
  refine lv_iload_n hx hb dX0_wide_25 rfl (lv_at hl 4 rfl) ?_
  refine wc_set (k0 := 0) (W.runS (As := [.ref aw, .int (nI (16 * q + 4)), .int b]) (rest := []) ⟨hx, hb, hml, hown, hts⟩ (metX0_word l D dB dN aw 64 (wrd f (16 * q) a) (16 * q + 4) b (by omega) (by decide)) (va_cwS 3 hts (lw_S q44 q45 q3 q46) rfl rfl rfl (by decide +kernel) ⟨Nat.le_of_ble_eq_true rfl, Nat.le_of_ble_eq_true rfl⟩) (PcH.pre hP hK hD) rfl rfl hl.1 rfl (lv_room (Nat.le_of_ble_eq_true rfl)) dX0_wide_26 ⟨Nat.le_refl _, Nat.le_refl _⟩) hP hD hS rfl (fun x h => h) (fun H locs hP hD hS => ?_)
  have hP : va_P D vwCl [(aw, .inl (dB, 64, .inl (wrd (wrd f (16 * q) a) (16 * q + 4) b)))] H := hP
  have hD : va_D (fun z => z = aw) [(aw, .inl (dB, 64, .inl (wrd (wrd f (16 * q) a) (16 * q + 4) b)))] := hD
  have hR := hR0.ro hS hne
  refine lv_aload_n hx hb dX0_wide_29 rfl (lv_at hl 1 rfl) ?_
  refine va_get (D := D) (ci := 0) (v := .ref aw) (C := RX0) (T := TX0) (N := 7) hx hb hts in_X0 hown hK hR 0 rfl rfl 0 (by decide) (hts _ q16) (fun _ h9 => h9) rfl dX0_wide_30 ?_
  refine lv_iload hx hb dX0_wide_33 (lv_at hl 0 rfl) ?_
  refine lv_bipush (v := nI 8) hx hb dX0_wide_35 (by decide) ?_
  refine lv_iadd hx hb dX0_wide_37 ?_
  refine wt_i (y := nI (16 * q + 8)) (nI_add _ _) ?_
  refine lv_iload hx hb dX0_wide_38 (lv_at hl 5 rfl) ?_
  refine wc_set (k0 := 0) (W.runS (As := [.ref aw, .int (nI (16 * q + 8)), .int c0]) (rest := []) ⟨hx, hb, hml, hown, hts⟩ (metX0_word l D dB dN aw 64 (wrd (wrd f (16 * q) a) (16 * q + 4) b) (16 * q + 8) c0 (by omega) (by decide)) (va_cwS 3 hts (lw_S q44 q45 q3 q46) rfl rfl rfl (by decide +kernel) ⟨Nat.le_of_ble_eq_true rfl, Nat.le_of_ble_eq_true rfl⟩) (PcH.pre hP hK hD) rfl rfl hl.1 rfl (lv_room (Nat.le_of_ble_eq_true rfl)) dX0_wide_40 ⟨Nat.le_refl _, Nat.le_refl _⟩) hP hD hS rfl (fun x h => h) (fun H locs hP hD hS => ?_)
  have hP : va_P D vwCl [(aw, .inl (dB, 64, .inl (wrd (wrd (wrd f (16 * q) a) (16 * q + 4) b) (16 * q + 8) c0)))] H := hP
  have hD : va_D (fun z => z = aw) [(aw, .inl (dB, 64, .inl (wrd (wrd (wrd f (16 * q) a) (16 * q + 4) b) (16 * q + 8) c0)))] := hD
  have hR := hR0.ro hS hne
  refine lv_aload_n hx hb dX0_wide_43 rfl (lv_at hl 1 rfl) ?_
  refine va_get (D := D) (ci := 0) (v := .ref aw) (C := RX0) (T := TX0) (N := 7) hx hb hts in_X0 hown hK hR 0 rfl rfl 0 (by decide) (hts _ q16) (fun _ h9 => h9) rfl dX0_wide_44 ?_
  refine lv_iload hx hb dX0_wide_47 (lv_at hl 0 rfl) ?_
  refine lv_bipush (v := nI 12) hx hb dX0_wide_49 (by decide) ?_
  refine lv_iadd hx hb dX0_wide_51 ?_
  refine wt_i (y := nI (16 * q + 12)) (nI_add _ _) ?_
  refine lv_iload hx hb dX0_wide_52 (lv_at hl 6 rfl) ?_
  refine wc_set (k0 := 0) (W.runS (As := [.ref aw, .int (nI (16 * q + 12)), .int d0]) (rest := []) ⟨hx, hb, hml, hown, hts⟩ (metX0_word l D dB dN aw 64 (wrd (wrd (wrd f (16 * q) a) (16 * q + 4) b) (16 * q + 8) c0) (16 * q + 12) d0 (by omega) (by decide)) (va_cwS 3 hts (lw_S q44 q45 q3 q46) rfl rfl rfl (by decide +kernel) ⟨Nat.le_of_ble_eq_true rfl, Nat.le_of_ble_eq_true rfl⟩) (PcH.pre hP hK hD) rfl rfl hl.1 rfl (lv_room (Nat.le_of_ble_eq_true rfl)) dX0_wide_54 ⟨Nat.le_refl _, Nat.le_refl _⟩) hP hD hS rfl (fun x h => h) (fun H locs hP hD hS => ?_)
  have hP : va_P D vwCl [(aw, .inl (dB, 64, .inl (wrd (wrd (wrd (wrd f (16 * q) a) (16 * q + 4) b) (16 * q + 8) c0) (16 * q + 12) d0)))] H := hP
  have hD : va_D (fun z => z = aw) [(aw, .inl (dB, 64, .inl (wrd (wrd (wrd (wrd f (16 * q) a) (16 * q + 4) b) (16 * q + 8) c0) (16 * q + 12) d0)))] := hD
  have hR := hR0.ro hS hne
  exact W.vret hx hb hr (fun t ht hW => ⟨rfl, by rw [ht]; exact hP 0 _ rfl, by rw [ht]; exact hS.1, fun x h1 h2 => by rw [ht]; exact hS.2.1 x h1 h2⟩) hS.2.2 dX0_wide_57
end
section
/-! ===== WideScalars, its calls ===== -/
theorem nar_if (x : Nat) : narrow .boolean (.int (nI (if x < nL then 1 else 0))) = .int (nI (if x < nL then 1 else 0)) := by split <;> rfl
/-- a method that makes cells and hands back a world -/
def QW (D : va_G) (A : Nat → Prop) (post : va_W → Prop) : Array Value → State → Outcome → State → Prop := fun _ st o t => ∃ ws1 : va_W, o = .returned none ∧ post ws1 ∧ va_P D vwCl ws1 t.heap ∧ va_D A ws1 ∧ st.heap.size ≤ t.heap.size ∧ ∀ x, x < st.heap.size → ¬ A x → t.heap[x]? = st.heap[x]?
section
variable {p : Program} {l : Launch} {e : Env} {R : Room} {s : State} {m : MethodId} {args : Array Value} {below : List Frame} {meth : Method} {c : Code} {H : Heap} {locs : List Loc} {cells slots : Nat} {Q : State → Prop} {pc : Nat} {ls : Array Slot} {rest st0 : List Value}
theorem wc_world {a : Array Value} {D : va_G} {A0 : Nat → Prop} {ws wc wr : va_W} {H0 : Heap} {mc ms : Nat} {post : va_W → Prop} (hr : CallRun p l e R s m args below meth c H locs cells slots mc ms (F0 m pc ls st0) rest (QW D (va_A wc H.size) post a) (va_A wc H.size)) (hP : va_P D vwCl ws H) (hD : va_D A0 ws) (hS : va_S A0 H0 H locs) (hA : ∀ q, H0.size ≤ q → A0 q) (isC isR : List Nat) (hC : isC.map (fun i => ws[i]?) = wc.map some) (hR : isR.map (fun i => ws[i]?) = wr.map some) (hn : va_nd isR = true) (hdis : ∀ i ∈ isR, i ∉ isC)
    (kk : ∀ (w1 : va_W) (H1 : Heap) (locs1 : List Loc), post w1 → va_P D vwCl (wr ++ w1) H1 → va_D A0 (wr ++ w1) → va_S A0 H0 H1 locs1 → W p l e R s m args below meth c H1 locs1 (cells + mc) (slots + ms) Q (F0 m (pc + 3) ls rest)) : W p l e R s m args below meth c H locs cells slots Q (F0 m pc ls st0) := by
  intro T hT X
  obtain ⟨v', st₀, t, T', L, h0, X', hL, e1, ⟨w1, hv, hp, hP1, hD1, hz, hk⟩, st⟩ := hr T hT X
  cases hv
  subst h0
  have hF := va_free (wc := wc) hD hS hA isC hC
  obtain ⟨hP2, hD2⟩ := va_join hP hD isC isR hC hR hn hdis hk hF hP1 hD1
  obtain ⟨t2, a1, b1⟩ := kk w1 t.heap (locs ++ L) hp hP2 hD2 ⟨Nat.le_trans hS.1 hz, fun q h1 h2 => by
      rw [hk q (Nat.lt_of_lt_of_le h1 hS.1) (fun z => h2 (hF q z))]
      exact hS.2.1 q h1 h2, fun q hq => by
      rcases List.mem_append.mp hq with h | h
      · exact hS.2.2 q h
      · exact hF _ (hL q h)⟩ T' e1 X'
  exact ⟨t2, st t2 a1, b1⟩
end

set_option maxHeartbeats 4000000 in
set_option maxRecDepth 100000 in
/-- answer: a digit of z -/
theorem metX0_answer (l : Launch) (D : va_G) (dB dN : ClassId) (o aw az ax ay ap ao an : Nat) (nz : Nat) (fz : Nat → Int32) (at_ : Int32) (h32 : 32 ≤ nz) (hnz : nz < 2147483648) : Met l yX0_answer (ws_ yX0_answer cX0_answer 2 (some .int)) ({ frames := 0, cells := 0, slots := 0, locals := 0 }) (PcH D dB dN [.ref o, .int at_] [(o, oX aw az ax ay ap ao an), (az, .inl (dB, nz, .inl fz))]) (QcRead (nI (ub (fz (uI at_ % 32))))) 0 0 (fun _ => False) := by
  refine Met.ofW (cc := cX0_answer) (maxL := 2) (ret := (some .int)) (by decide) rfl ?_
  intro p e s m args below meth c s₁ B hml hv
  obtain ⟨rfl, hP, hK, hD0⟩ := hv
  have hx := B.exec
  have hb := B.bytes
  have hr := B.returns
  have hts := atoms_spec (ws := ws_ yX0_answer cX0_answer 2 _) B.pre
  have hts : ∀ w ∈ lw_all, w.before _ s = true := fun w h => hts w (List.mem_cons_of_mem _ h)
  have hown : s.vm.findClass RX0 = some m.cls := findClass_of_methodNamed B.named
  have hlocks := B.notSynchronized
  have hl := lv_entry ([.ref o, .int at_]) (n := 2) (Nat.le_of_ble_eq_true rfl)
  rw [lg_entry_eq]
  generalize (lg_sl ([.ref o, .int at_]) ++ List.replicate (2 - (lg_sl ([.ref o, .int at_])).length) Slot.unset).toArray = ls at hl ⊢
  have hl : lv_has ls 2 [(0, .ref o), (1, .int at_)] := hl
  have hR := hP
  have hq : uI at_ % 32 < 32 := Nat.mod_lt _ (by decide)
  refine lv_aload_n hx hb dX0_answer_0 rfl (lv_at hl 0 rfl) ?_
  refine va_get (D := D) (ci := 0) (v := .ref az) (C := RX0) (T := TX0) (N := 7) hx hb hts in_X0 hown hK hR 0 rfl rfl 1 (by decide) (hts _ q17) (fun _ h9 => h9) rfl dX0_answer_1 ?_
  refine lv_iload_n hx hb dX0_answer_4 rfl (lv_at hl 1 rfl) ?_
  refine lv_bipush (v := 31) hx hb dX0_answer_5 (by decide) ?_
  refine lv_iand hx hb dX0_answer_7 ?_
  refine wt_i (y := nI (uI at_ % 32)) (and31 at_) ?_
  refine va_bald hx hb hK hP 1 0 rfl rfl (vin (by omega) hnz) dX0_answer_8 ?_
  refine wt_i (y := fz (uI at_ % 32)) (congrArg fz (ncl (by omega))) ?_
  refine lv_sipush (v := 255) hx hb dX0_answer_9 (by decide) ?_
  refine lv_iand hx hb dX0_answer_12 ?_
  refine wt_i (y := nI (ub (fz (uI at_ % 32)))) (and255 _) ?_
  exact W.iret (v := nI (ub (fz (uI at_ % 32)))) hx hb hr (fun t ht hW => ⟨rfl, ht⟩) (fun q h => by cases h) dX0_answer_13
set_option maxHeartbeats 4000000 in
set_option maxRecDepth 100000 in
/-- reduce: z is the rest of the wide number by the order -/
theorem metX0_reduce (l : Launch) (D : va_G) (dB dN : ClassId) (o aw az ax ay ap ao an : Nat) (sz : Nat) (fw : Nat → Int32) : Met l yX0_reduce (ws_ yX0_reduce cX0_reduce 1 none) ({ frames := 3, cells := 1, slots := 32, locals := 106 }) (PcZ D dB dN [.ref o] [(o, oX aw az ax ay ap ao an), (aw, .inl (dB, 64, .inl fw))] sz) (QO D o 0 (fun b => [.ref aw, .ref b, .ref ax, .ref ay, .ref ap, .ref ao, .ref an]) dB 32 (fun g => num 32 (fun j => ub (g j)) = num 64 (fun j => ub (fw j)) % nL)) 1 32 (fun x => x = o ∨ sz ≤ x) := by
  refine Met.ofW (cc := cX0_reduce) (maxL := 1) (ret := none) (by decide) rfl ?_
  intro p e s m args below meth c s₁ B hml hv
  obtain ⟨rfl, hsz, hP, hK, hD0⟩ := hv
  have hx := B.exec
  have hb := B.bytes
  have hr := B.returns
  have hts := atoms_spec (ws := ws_ yX0_reduce cX0_reduce 1 _) B.pre
  have hts : ∀ w ∈ lw_all, w.before _ s = true := fun w h => hts w (List.mem_cons_of_mem _ h)
  have hown : s.vm.findClass RX0 = some m.cls := findClass_of_methodNamed B.named
  have hlocks := B.notSynchronized
  have hl := lv_entry ([.ref o]) (n := 1) (Nat.le_of_ble_eq_true rfl)
  rw [lg_entry_eq]
  generalize (lg_sl ([.ref o]) ++ List.replicate (1 - (lg_sl ([.ref o])).length) Slot.unset).toArray = ls at hl ⊢
  have hl : lv_has ls 1 [(0, .ref o)] := hl
  subst hsz
  have hS : va_S (fun x => x = o ∨ s.heap.size ≤ x) s.heap s.heap [] := va_S.rf
  have hR := hP
  have hP : va_P D vwCl [(o, oX aw az ax ay ap ao an)] s.heap := hP.sub [0] rfl
  have hD : va_D (fun x => x = o ∨ s.heap.size ≤ x) [(o, oX aw az ax ay ap ao an)] := va_D.to1 (hD0.sub [0] (by decide) rfl) (Or.inl rfl)
  refine lv_aload_n hx hb dX0_reduce_0 rfl (lv_at hl 0 rfl) ?_
  refine lv_aload_n hx hb dX0_reduce_1 rfl (lv_at hl 0 rfl) ?_
  refine va_get (D := D) (ci := 0) (v := .ref aw) (C := RX0) (T := TX0) (N := 7) hx hb hts in_X0 hown hK hR 0 rfl rfl 0 (by decide) (hts _ q16) (fun _ h9 => h9) rfl dX0_reduce_2 ?_
  refine wc_new (W.runS (As := [.ref aw]) (rest := [.ref o]) ⟨hx, hb, hml, hown, hts⟩ (metX2_reduce512 l D dB dN aw s.heap.size fw) (va_cwS 1 hts (lw_S q51 q52 q5 q53) rfl rfl rfl (by decide +kernel) ⟨Nat.le_of_ble_eq_true rfl, Nat.le_of_ble_eq_true rfl⟩) (PcZ.pre (hR.sub [1] rfl) hK (hD0.sub [1] (by decide) rfl)) rfl rfl hl.1 rfl (lv_room (Nat.le_of_ble_eq_true rfl)) dX0_reduce_5 ⟨Nat.le_of_ble_eq_true rfl, Nat.le_of_ble_eq_true rfl⟩) hP hD hS (fun q h => Or.inr h) (fun x h => Or.inr h) (fun b g H locs hg hP hD hS => ?_)
  refine va_put (D := D) (ci := 0) (v := .ref b) (ty := .array .byte) (C := RX0) (T := TX0) (N := 7) hx hb hts in_X0 tyX0 tyX0_ok nmX0 hown hK hP hD hS 0 rfl rfl 1 (by decide) (hts _ q17) (fun _ h9 => h9) rfl (by decide +kernel) rfl rfl (Nat.le_of_ble_eq_true rfl) dX0_reduce_8 (fun H locs hP hD hS => ?_)
  have hbz : s.heap.size ≤ b := by
    rcases hD.2 1 _ rfl with h | h
    · exact absurd (hD.1 1 0 _ _ rfl rfl h) (by decide)
    · exact h
  exact W.vret hx hb hr (fun t ht hW => ⟨b, g, rfl, hg, hbz, by rw [ht]; exact hP 0 _ rfl, by rw [ht]; exact hP 1 _ rfl, by rw [ht]; exact hS.1, fun x h1 h2 => by rw [ht]; exact hS.2.1 x h1 (fun z => z.elim h2 (fun z => absurd h1 (Nat.not_lt.mpr z)))⟩) hS.2.2 dX0_reduce_11
set_option maxHeartbeats 4000000 in
set_option maxRecDepth 100000 in
/-- reduceLess: z is the rest of the lower 48 bytes by the order -/
theorem metX0_reduceLess (l : Launch) (D : va_G) (dB dN : ClassId) (o aw az ax ay ap ao an : Nat) (sz : Nat) (fw : Nat → Int32) : Met l yX0_reduceLess (ws_ yX0_reduceLess cX0_reduceLess 3 none) ({ frames := 3, cells := 2, slots := 112, locals := 96 }) (PcZ D dB dN [.ref o] [(o, oX aw az ax ay ap ao an), (aw, .inl (dB, 64, .inl fw))] sz) (QO D o 0 (fun b => [.ref aw, .ref b, .ref ax, .ref ay, .ref ap, .ref ao, .ref an]) dB 64 (fun g => num 32 (fun j => ub (g j)) = num 48 (fun j => ub (fw j)) % nL)) 2 112 (fun x => x = o ∨ sz ≤ x) := by
  refine Met.ofW (cc := cX0_reduceLess) (maxL := 3) (ret := none) (by decide) rfl ?_
  intro p e s m args below meth c s₁ B hml hv
  obtain ⟨rfl, hsz, hP, hK, hD0⟩ := hv
  have hx := B.exec
  have hb := B.bytes
  have hr := B.returns
  have hts := atoms_spec (ws := ws_ yX0_reduceLess cX0_reduceLess 3 _) B.pre
  have hts : ∀ w ∈ lw_all, w.before _ s = true := fun w h => hts w (List.mem_cons_of_mem _ h)
  have hown : s.vm.findClass RX0 = some m.cls := findClass_of_methodNamed B.named
  have hlocks := B.notSynchronized
  have hl := lv_entry ([.ref o]) (n := 3) (Nat.le_of_ble_eq_true rfl)
  rw [lg_entry_eq]
  generalize (lg_sl ([.ref o]) ++ List.replicate (3 - (lg_sl ([.ref o])).length) Slot.unset).toArray = ls at hl ⊢
  have hl : lv_has ls 3 [(0, .ref o)] := hl
  subst hsz
  have hS : va_S (fun x => x = o ∨ s.heap.size ≤ x) s.heap s.heap [] := va_S.rf
  have hR0 : va_P D vwCl [(aw, .inl (dB, 64, .inl fw))] s.heap := hP.sub [1] rfl
  have hP : va_P D vwCl [(o, oX aw az ax ay ap ao an)] s.heap := hP.sub [0] rfl
  have hD : va_D (fun x => x = o ∨ s.heap.size ≤ x) [(o, oX aw az ax ay ap ao an)] := va_D.to1 (hD0.sub [0] (by decide) rfl) (Or.inl rfl)
  have hne : ∀ q ∈ ([(aw, .inl (dB, 64, .inl fw))] : va_W), ¬ (q.1 = o ∨ s.heap.size ≤ q.1) := fun q hq => by
    rw [List.mem_singleton.mp hq]
    exact fun z => z.elim (hD0.ne (i := 1) (j := 0) rfl rfl (by decide)) (fun z => absurd (hR0 0 _ rfl).lt (Nat.not_lt.mpr z))
  refine lv_bipush (v := nI 48) hx hb dX0_reduceLess_0 (by decide) ?_
  refine va_newa (atype := .byte) (ty := .byte) (N' := 48) (a0 := (48, .inl (fun _ => 0))) hx hb (hts _ q38) rfl hK hP hD hS (fun q h => Or.inr h) (fun cA => rfl) (by decide) (by decide) (Nat.le_of_ble_eq_true rfl) (Nat.le_of_ble_eq_true rfl) (Nat.le_of_ble_eq_true rfl) dX0_reduceLess_2 (fun q cA H hK2 hP hD hS => ?_)
  have ecA : dB = cA := hK2.one (i := 0) (j := 2) rfl rfl
  subst ecA
  have hP : va_P D vwCl [(o, oX aw az ax ay ap ao an), (q, .inl (dB, 48, .inl (cpB fw (fun _ => 0) 0)))] H := hP
  have hD : va_D (fun x => x = o ∨ s.heap.size ≤ x) [(o, oX aw az ax ay ap ao an), (q, .inl (dB, 48, .inl (cpB fw (fun _ => 0) 0)))] := hD
  refine lv_astore_n (lv' := [(1, .ref q), (0, .ref o)]) hx hb dX0_reduceLess_4 rfl hl (by decide) rfl (fun ls hl => ?_)
  refine lv_iconst (v := nI 0) hx hb dX0_reduceLess_5 (by decide) ?_
  refine lv_istore_n (lv' := [(2, .int (nI 0)), (1, .ref q), (0, .ref o)]) hx hb dX0_reduceLess_6 rfl hl (by decide) rfl (fun ls hl => ?_)
  have loop : ∀ (n i : Nat), i + n = 48 → ∀ (H : Heap) (locs : List Loc) (ls : Array Slot), va_P D vwCl [(o, oX aw az ax ay ap ao an), (q, .inl (dB, 48, .inl (cpB fw (fun _ => 0) i)))] H → va_D (fun x => x = o ∨ s.heap.size ≤ x) [(o, oX aw az ax ay ap ao an), (q, .inl (dB, 48, .inl (cpB fw (fun _ => 0) i)))] → va_S (fun x => x = o ∨ s.heap.size ≤ x) s.heap H locs → lv_has ls 3 [(2, .int (nI i)), (1, .ref q), (0, .ref o)] → W p l e (headSpec (ws_ yX0_reduceLess cX0_reduceLess 3 none) ({ frames := 3, cells := 2, slots := 112, locals := 96 })).room s m ([.ref o] : List Value).toArray below meth c H locs 1 48 (MQ below (QO D o 0 (fun b => [.ref aw, .ref b, .ref ax, .ref ay, .ref ap, .ref ao, .ref an]) dB 64 (fun g => num 32 (fun j => ub (g j)) = num 48 (fun j => ub (fw j)) % nL)) ([.ref o] : List Value).toArray s 2 112 (fun x => x = o ∨ s.heap.size ≤ x)) (F0 m 7 ls []) := by
    intro n
    induction n with
    | zero =>
      intro i hi H locs ls hP hD hS hl
      refine lv_iload_n hx hb dX0_reduceLess_7 rfl (lv_at hl 0 rfl) ?_
      refine lv_bipush (v := nI 48) hx hb dX0_reduceLess_8 (by decide) ?_
      refine lv_icmp_ge (tgt := 28) hx hb dX0_reduceLess_10 (by decide) (fun _ => ?_) (fun c1 => absurd ((nI_leI (by decide) (by omega)).mpr (by omega)) c1)
      have e8 : i = 48 := by omega
      subst e8
      refine lv_aload_n hx hb dX0_reduceLess_28 rfl (lv_at hl 2 rfl) ?_
      refine lv_aload_n hx hb dX0_reduceLess_29 rfl (lv_at hl 1 rfl) ?_
      refine wc_new (W.runS (As := [.ref q]) (rest := [.ref o]) ⟨hx, hb, hml, hown, hts⟩ (metX2_reduce384 l D dB dN q H.size (cpB fw (fun _ => 0) 48)) (va_cwS 1 hts (lw_S q82 q83 q5 q84) rfl rfl rfl (by decide +kernel) ⟨Nat.le_of_ble_eq_true rfl, Nat.le_of_ble_eq_true rfl⟩) (PcZ.pre (hP.sub [1] rfl) hK (hD.sub [1] (by decide) rfl)) rfl rfl hl.1 rfl (lv_room (Nat.le_of_ble_eq_true rfl)) dX0_reduceLess_30 ⟨Nat.le_of_ble_eq_true rfl, Nat.le_of_ble_eq_true rfl⟩) hP hD hS (fun q h => Or.inr h) (fun x h => Or.inr (Nat.le_trans hS.1 h)) (fun b g H locs hg hP hD hS => ?_)
      refine va_put (D := D) (ci := 0) (v := .ref b) (ty := .array .byte) (C := RX0) (T := TX0) (N := 7) hx hb hts in_X0 tyX0 tyX0_ok nmX0 hown hK hP hD hS 0 rfl rfl 1 (by decide) (hts _ q17) (fun _ h9 => h9) rfl (by decide +kernel) rfl rfl (Nat.le_of_ble_eq_true rfl) dX0_reduceLess_33 (fun H locs hP hD hS => ?_)
      rw [cpB_num] at hg
      have hbz : s.heap.size ≤ b := by
        rcases hD.2 2 _ rfl with h | h
        · exact absurd (hD.1 2 0 _ _ rfl rfl h) (by decide)
        · exact h
      exact W.vret hx hb hr (fun t ht hW => ⟨b, g, rfl, hg, hbz, by rw [ht]; exact hP 0 _ rfl, by rw [ht]; exact hP 2 _ rfl, by rw [ht]; exact hS.1, fun x h1 h2 => by rw [ht]; exact hS.2.1 x h1 (fun z => z.elim h2 (fun z => absurd h1 (Nat.not_lt.mpr z)))⟩) hS.2.2 dX0_reduceLess_36
    | succ n ih =>
      intro i hi H locs ls hP hD hS hl
      have hR := hR0.ro hS hne
      refine lv_iload_n hx hb dX0_reduceLess_7 rfl (lv_at hl 0 rfl) ?_
      refine lv_bipush (v := nI 48) hx hb dX0_reduceLess_8 (by decide) ?_
      refine lv_icmp_ge (tgt := 28) hx hb dX0_reduceLess_10 (by decide) (fun c1 => absurd ((nI_leI (by decide) (by omega)).mp c1) (by omega)) (fun _ => ?_)
      refine lv_aload_n hx hb dX0_reduceLess_13 rfl (lv_at hl 1 rfl) ?_
      refine lv_iload_n hx hb dX0_reduceLess_14 rfl (lv_at hl 0 rfl) ?_
      refine lv_aload_n hx hb dX0_reduceLess_15 rfl (lv_at hl 2 rfl) ?_
      refine va_get (D := D) (ci := 0) (v := .ref aw) (C := RX0) (T := TX0) (N := 7) hx hb hts in_X0 hown hK hP 0 rfl rfl 0 (by decide) (hts _ q16) (fun _ h9 => h9) rfl dX0_reduceLess_16 ?_
      refine lv_iload_n hx hb dX0_reduceLess_19 rfl (lv_at hl 0 rfl) ?_
      refine va_bald hx hb hK hR 0 0 rfl rfl (vin (by omega) (by decide)) dX0_reduceLess_20 ?_
      refine wt_i (y := fw i) (congrArg fw (ncl (by omega))) ?_
      refine va_bast hx hb hK hP hD hS 1 0 rfl rfl (vin (by omega) (by decide)) dX0_reduceLess_21 (fun H locs hP hD hS => ?_)
      have eq1 : upd (cpB fw (fun _ => 0) i) (nI i).toNatClampNeg (vp_nar .byte (fw i)) = cpB fw (fun _ => 0) (i + 1) := by rw [ncl (by omega)]; rfl
      rw [eq1] at hP hD
      refine lv_iinc (v := nI (i + 1)) (lv' := [(2, .int (nI (i + 1))), (1, .ref q), (0, .ref o)]) hx hb dX0_reduceLess_22 hl (k := 0) rfl (nI_1 i) (by decide) rfl (fun ls hl => ?_)
      refine lv_goto (tgt := 7) hx hb dX0_reduceLess_25 (by decide) ?_
      exact ih (i + 1) (by omega) H locs ls hP hD hS hl
  exact loop 48 0 rfl H [] ls hP hD hS hl
set_option maxHeartbeats 4000000 in
set_option maxRecDepth 100000 in
/-- proper, of fw -/
theorem metX0_proper0 (l : Launch) (D : va_G) (dB dN : ClassId) (o aw az ax ay ap ao an : Nat) (nz : Nat) (fw fz fo fn : Nat → Int32) (which : Int32) (t : Nat) (h32 : 32 ≤ nz) (hnz : nz < 2147483648) (hpar : uI which % 2 = 0) : Met l yX0_proper (ws_ yX0_proper cX0_proper 3 (some .boolean)) ({ frames := 4, cells := 0, slots := 0, locals := 89 }) (PcL D dB dN [.ref o, .int which] [(o, oX aw az ax ay ap ao an), (aw, .inl (dB, 64, .inl fw)), (az, .inl (dB, nz, .inl fz)), (ao, .inl (dB, 32, .inl fo)), (an, .inl (dN, 8, .inl fn))] (fun z => z = ao ∨ z = an) t) (Q2 (.returned (some (.int (nI (if num 32 (fun j => ub (fw j)) < nL then 1 else 0))))) ao dB 32 an dN 8 (fun _ _ => True)) 0 0 (fun z => z = ao ∨ z = an) := by
  refine Met.ofW (cc := cX0_proper) (maxL := 3) (ret := (some .boolean)) (by decide) rfl ?_
  intro p e s m args below meth c s₁ B hml hv
  obtain ⟨rfl, hP, hK, hD0, hZ, hT⟩ := hv
  have hx := B.exec
  have hb := B.bytes
  have hr := B.returns
  have hts := atoms_spec (ws := ws_ yX0_proper cX0_proper 3 _) B.pre
  have hts : ∀ w ∈ lw_all, w.before _ s = true := fun w h => hts w (List.mem_cons_of_mem _ h)
  have hown : s.vm.findClass RX0 = some m.cls := findClass_of_methodNamed B.named
  have hlocks := B.notSynchronized
  have hl := lv_entry ([.ref o, .int which]) (n := 3) (Nat.le_of_ble_eq_true rfl)
  rw [lg_entry_eq]
  generalize (lg_sl ([.ref o, .int which]) ++ List.replicate (3 - (lg_sl ([.ref o, .int which])).length) Slot.unset).toArray = ls at hl ⊢
  have hl : lv_has ls 3 [(0, .ref o), (1, .int which)] := hl
  have hS : va_S (fun z => z = ao ∨ z = an) s.heap s.heap [] := va_S.rf
  have hR0 : va_P D vwCl [(o, oX aw az ax ay ap ao an), (aw, .inl (dB, 64, .inl fw)), (az, .inl (dB, nz, .inl fz))] s.heap := hP.sub [0, 1, 2] rfl
  have hne : ∀ q ∈ ([(o, oX aw az ax ay ap ao an), (aw, .inl (dB, 64, .inl fw)), (az, .inl (dB, nz, .inl fz))] : va_W), ¬ (q.1 = ao ∨ q.1 = an) := fun q hq => by
    simp only [List.mem_cons, List.not_mem_nil, or_false] at hq
    rcases hq with rfl | rfl | rfl
    · exact fun z => z.elim (hD0.ne (i := 0) (j := 3) rfl rfl (by decide)) (hD0.ne (i := 0) (j := 4) rfl rfl (by decide))
    · exact fun z => z.elim (hD0.ne (i := 1) (j := 3) rfl rfl (by decide)) (hD0.ne (i := 1) (j := 4) rfl rfl (by decide))
    · exact fun z => z.elim (hD0.ne (i := 2) (j := 3) rfl rfl (by decide)) (hD0.ne (i := 2) (j := 4) rfl rfl (by decide))
  have hP : va_P D vwCl [(ao, .inl (dB, 32, .inl (cpB fw fo 0))), (an, .inl (dN, 8, .inl fn))] s.heap := hP.sub [3, 4] rfl
  have hD : va_D (fun z => z = ao ∨ z = an) [(ao, .inl (dB, 32, .inl (cpB fw fo 0))), (an, .inl (dN, 8, .inl fn))] := va_D.to2 (hD0.sub [3, 4] (by decide) rfl)
  have loop : ∀ (n i : Nat), i + n = 32 → ∀ (H : Heap) (locs : List Loc) (ls : Array Slot), va_P D vwCl [(ao, .inl (dB, 32, .inl (cpB fw fo i))), (an, .inl (dN, 8, .inl fn))] H → va_D (fun z => z = ao ∨ z = an) [(ao, .inl (dB, 32, .inl (cpB fw fo i))), (an, .inl (dN, 8, .inl fn))] → va_S (fun z => z = ao ∨ z = an) s.heap H locs → lv_has ls 3 [(2, .int (nI i)), (0, .ref o), (1, .int which)] → W p l e (headSpec (ws_ yX0_proper cX0_proper 3 (some .boolean)) ({ frames := 4, cells := 0, slots := 0, locals := 89 })).room s m ([.ref o, .int which] : List Value).toArray below meth c H locs 0 0 (MQ below (Q2 (.returned (some (.int (nI (if num 32 (fun j => ub (fw j)) < nL then 1 else 0))))) ao dB 32 an dN 8 (fun _ _ => True)) ([.ref o, .int which] : List Value).toArray s 0 0 (fun z => z = ao ∨ z = an)) (F0 m 2 ls []) := by
    intro n
    induction n with
    | zero =>
      intro i hi H locs ls hP hD hS hl
      have hR := hR0.ro hS hne
      refine lv_iload_n hx hb dX0_proper_2 rfl (lv_at hl 0 rfl) ?_
      refine lv_bipush (v := nI 32) hx hb dX0_proper_3 (by decide) ?_
      refine lv_icmp_ge (tgt := 41) hx hb dX0_proper_5 (by decide) (fun _ => ?_) (fun c1 => absurd ((nI_leI (by decide) (by omega)).mpr (by omega)) c1)
      have e8 : i = 32 := by omega
      subst e8
      refine lv_aload_n hx hb dX0_proper_41 rfl (lv_at hl 1 rfl) ?_
      refine va_get (D := D) (ci := 0) (v := .ref ao) (C := RX0) (T := TX0) (N := 7) hx hb hts in_X0 hown hK hR 0 rfl rfl 5 (by decide) (hts _ q21) (fun _ h9 => h9) rfl dX0_proper_42 ?_
      refine lv_aload_n hx hb dX0_proper_45 rfl (lv_at hl 1 rfl) ?_
      refine va_get (D := D) (ci := 0) (v := .ref an) (C := RX0) (T := TX0) (N := 7) hx hb hts in_X0 hown hK hR 0 rfl rfl 6 (by decide) (hts _ q22) (fun _ h9 => h9) rfl dX0_proper_46 ?_
      refine wc_set (k0 := 1) (W.runS (As := [.ref ao, .ref an]) (rest := []) ⟨hx, hb, hml, hown, hts⟩ (metX2_checkVar l D dB dN ao an t (cpB fw fo 32) fn) (va_cwS 2 hts (lw_S q96 q97 q5 q98) rfl rfl rfl (by decide +kernel) ⟨Nat.le_of_ble_eq_true rfl, Nat.le_of_ble_eq_true rfl⟩) (PcL.pre hP hK hD hZ hT hS (fun _ h => h)) rfl rfl hl.1 rfl (lv_room (Nat.le_of_ble_eq_true rfl)) dX0_proper_49 ⟨Nat.le_refl _, Nat.le_refl _⟩) hP hD hS rfl (fun x h => h) (fun H locs hP hD hS => ?_)
      refine wt_i (y := nI (if num 32 (fun j => ub (fw j)) < nL then 1 else 0)) (by rw [cpB_num]) ?_
      exact W.zret hx hb hr (nar_if _) (fun t ht hW => ⟨_, _, rfl, trivial, by rw [ht]; exact hP 0 _ rfl, by rw [ht]; exact hP 1 _ rfl, by rw [ht]; exact hS.1, fun x h1 h2 h3 => by rw [ht]; exact hS.2.1 x h1 (fun z => z.elim h2 h3)⟩) hS.2.2 dX0_proper_52
    | succ n ih =>
      intro i hi H locs ls hP hD hS hl
      have hR := hR0.ro hS hne
      refine lv_iload_n hx hb dX0_proper_2 rfl (lv_at hl 0 rfl) ?_
      refine lv_bipush (v := nI 32) hx hb dX0_proper_3 (by decide) ?_
      refine lv_icmp_ge (tgt := 41) hx hb dX0_proper_5 (by decide) (fun c1 => absurd ((nI_leI (by decide) (by omega)).mp c1) (by omega)) (fun _ => ?_)
      refine lv_aload_n hx hb dX0_proper_8 rfl (lv_at hl 1 rfl) ?_
      refine va_get (D := D) (ci := 0) (v := .ref ao) (C := RX0) (T := TX0) (N := 7) hx hb hts in_X0 hown hK hR 0 rfl rfl 5 (by decide) (hts _ q21) (fun _ h9 => h9) rfl dX0_proper_9 ?_
      refine lv_iload_n hx hb dX0_proper_12 rfl (lv_at hl 0 rfl) ?_
      refine lv_iload_n hx hb dX0_proper_13 rfl (lv_at hl 2 rfl) ?_
      refine lv_iconst (v := 1) hx hb dX0_proper_14 (by decide) ?_
      refine lv_iand hx hb dX0_proper_15 ?_
      refine wt_i (y := nI 0) (by rw [and1, hpar]) ?_
      refine lv_if_ne (tgt := 28) hx hb dX0_proper_16 (by decide) (fun c1 => absurd (show nI 0 = 0 from rfl) c1) (fun _ => ?_)
      refine lv_aload_n hx hb dX0_proper_19 rfl (lv_at hl 1 rfl) ?_
      refine va_get (D := D) (ci := 0) (v := .ref aw) (C := RX0) (T := TX0) (N := 7) hx hb hts in_X0 hown hK hR 0 rfl rfl 0 (by decide) (hts _ q16) (fun _ h9 => h9) rfl dX0_proper_20 ?_
      refine lv_iload_n hx hb dX0_proper_23 rfl (lv_at hl 0 rfl) ?_
      refine va_bald hx hb hK hR 1 0 rfl rfl (vin (by omega) (by decide)) dX0_proper_24 ?_
      refine wt_i (y := fw i) (congrArg fw (ncl (by omega))) ?_
      refine lv_goto (tgt := 34) hx hb dX0_proper_25 (by decide) ?_
      refine va_bast hx hb hK hP hD hS 0 0 rfl rfl (vin (by omega) (by decide)) dX0_proper_34 (fun H locs hP hD hS => ?_)
      have eq1 : upd (cpB fw fo i) (nI i).toNatClampNeg (vp_nar .byte (fw i)) = cpB fw fo (i + 1) := by rw [ncl (by omega)]; rfl
      rw [eq1] at hP hD
      refine lv_iinc (v := nI (i + 1)) (lv' := [(2, .int (nI (i + 1))), (0, .ref o), (1, .int which)]) hx hb dX0_proper_35 hl (k := 0) rfl (nI_1 i) (by decide) rfl (fun ls hl => ?_)
      refine lv_goto (tgt := 2) hx hb dX0_proper_38 (by decide) ?_
      exact ih (i + 1) (by omega) H locs ls hP hD hS hl
  refine lv_iconst (v := nI 0) hx hb dX0_proper_0 (by decide) ?_
  refine lv_istore_n (lv' := [(2, .int (nI 0)), (0, .ref o), (1, .int which)]) hx hb dX0_proper_1 rfl hl (by decide) rfl (fun ls hl => ?_)
  exact loop 32 0 rfl s.heap [] ls hP hD hS hl
set_option maxHeartbeats 4000000 in
set_option maxRecDepth 100000 in
/-- proper, of fz -/
theorem metX0_proper1 (l : Launch) (D : va_G) (dB dN : ClassId) (o aw az ax ay ap ao an : Nat) (nz : Nat) (fw fz fo fn : Nat → Int32) (which : Int32) (t : Nat) (h32 : 32 ≤ nz) (hnz : nz < 2147483648) (hpar : uI which % 2 = 1) : Met l yX0_proper (ws_ yX0_proper cX0_proper 3 (some .boolean)) ({ frames := 4, cells := 0, slots := 0, locals := 89 }) (PcL D dB dN [.ref o, .int which] [(o, oX aw az ax ay ap ao an), (aw, .inl (dB, 64, .inl fw)), (az, .inl (dB, nz, .inl fz)), (ao, .inl (dB, 32, .inl fo)), (an, .inl (dN, 8, .inl fn))] (fun z => z = ao ∨ z = an) t) (Q2 (.returned (some (.int (nI (if num 32 (fun j => ub (fz j)) < nL then 1 else 0))))) ao dB 32 an dN 8 (fun _ _ => True)) 0 0 (fun z => z = ao ∨ z = an) := by
  refine Met.ofW (cc := cX0_proper) (maxL := 3) (ret := (some .boolean)) (by decide) rfl ?_
  intro p e s m args below meth c s₁ B hml hv
  obtain ⟨rfl, hP, hK, hD0, hZ, hT⟩ := hv
  have hx := B.exec
  have hb := B.bytes
  have hr := B.returns
  have hts := atoms_spec (ws := ws_ yX0_proper cX0_proper 3 _) B.pre
  have hts : ∀ w ∈ lw_all, w.before _ s = true := fun w h => hts w (List.mem_cons_of_mem _ h)
  have hown : s.vm.findClass RX0 = some m.cls := findClass_of_methodNamed B.named
  have hlocks := B.notSynchronized
  have hl := lv_entry ([.ref o, .int which]) (n := 3) (Nat.le_of_ble_eq_true rfl)
  rw [lg_entry_eq]
  generalize (lg_sl ([.ref o, .int which]) ++ List.replicate (3 - (lg_sl ([.ref o, .int which])).length) Slot.unset).toArray = ls at hl ⊢
  have hl : lv_has ls 3 [(0, .ref o), (1, .int which)] := hl
  have hS : va_S (fun z => z = ao ∨ z = an) s.heap s.heap [] := va_S.rf
  have hR0 : va_P D vwCl [(o, oX aw az ax ay ap ao an), (aw, .inl (dB, 64, .inl fw)), (az, .inl (dB, nz, .inl fz))] s.heap := hP.sub [0, 1, 2] rfl
  have hne : ∀ q ∈ ([(o, oX aw az ax ay ap ao an), (aw, .inl (dB, 64, .inl fw)), (az, .inl (dB, nz, .inl fz))] : va_W), ¬ (q.1 = ao ∨ q.1 = an) := fun q hq => by
    simp only [List.mem_cons, List.not_mem_nil, or_false] at hq
    rcases hq with rfl | rfl | rfl
    · exact fun z => z.elim (hD0.ne (i := 0) (j := 3) rfl rfl (by decide)) (hD0.ne (i := 0) (j := 4) rfl rfl (by decide))
    · exact fun z => z.elim (hD0.ne (i := 1) (j := 3) rfl rfl (by decide)) (hD0.ne (i := 1) (j := 4) rfl rfl (by decide))
    · exact fun z => z.elim (hD0.ne (i := 2) (j := 3) rfl rfl (by decide)) (hD0.ne (i := 2) (j := 4) rfl rfl (by decide))
  have hP : va_P D vwCl [(ao, .inl (dB, 32, .inl (cpB fz fo 0))), (an, .inl (dN, 8, .inl fn))] s.heap := hP.sub [3, 4] rfl
  have hD : va_D (fun z => z = ao ∨ z = an) [(ao, .inl (dB, 32, .inl (cpB fz fo 0))), (an, .inl (dN, 8, .inl fn))] := va_D.to2 (hD0.sub [3, 4] (by decide) rfl)
  have loop : ∀ (n i : Nat), i + n = 32 → ∀ (H : Heap) (locs : List Loc) (ls : Array Slot), va_P D vwCl [(ao, .inl (dB, 32, .inl (cpB fz fo i))), (an, .inl (dN, 8, .inl fn))] H → va_D (fun z => z = ao ∨ z = an) [(ao, .inl (dB, 32, .inl (cpB fz fo i))), (an, .inl (dN, 8, .inl fn))] → va_S (fun z => z = ao ∨ z = an) s.heap H locs → lv_has ls 3 [(2, .int (nI i)), (0, .ref o), (1, .int which)] → W p l e (headSpec (ws_ yX0_proper cX0_proper 3 (some .boolean)) ({ frames := 4, cells := 0, slots := 0, locals := 89 })).room s m ([.ref o, .int which] : List Value).toArray below meth c H locs 0 0 (MQ below (Q2 (.returned (some (.int (nI (if num 32 (fun j => ub (fz j)) < nL then 1 else 0))))) ao dB 32 an dN 8 (fun _ _ => True)) ([.ref o, .int which] : List Value).toArray s 0 0 (fun z => z = ao ∨ z = an)) (F0 m 2 ls []) := by
    intro n
    induction n with
    | zero =>
      intro i hi H locs ls hP hD hS hl
      have hR := hR0.ro hS hne
      refine lv_iload_n hx hb dX0_proper_2 rfl (lv_at hl 0 rfl) ?_
      refine lv_bipush (v := nI 32) hx hb dX0_proper_3 (by decide) ?_
      refine lv_icmp_ge (tgt := 41) hx hb dX0_proper_5 (by decide) (fun _ => ?_) (fun c1 => absurd ((nI_leI (by decide) (by omega)).mpr (by omega)) c1)
      have e8 : i = 32 := by omega
      subst e8
      refine lv_aload_n hx hb dX0_proper_41 rfl (lv_at hl 1 rfl) ?_
      refine va_get (D := D) (ci := 0) (v := .ref ao) (C := RX0) (T := TX0) (N := 7) hx hb hts in_X0 hown hK hR 0 rfl rfl 5 (by decide) (hts _ q21) (fun _ h9 => h9) rfl dX0_proper_42 ?_
      refine lv_aload_n hx hb dX0_proper_45 rfl (lv_at hl 1 rfl) ?_
      refine va_get (D := D) (ci := 0) (v := .ref an) (C := RX0) (T := TX0) (N := 7) hx hb hts in_X0 hown hK hR 0 rfl rfl 6 (by decide) (hts _ q22) (fun _ h9 => h9) rfl dX0_proper_46 ?_
      refine wc_set (k0 := 1) (W.runS (As := [.ref ao, .ref an]) (rest := []) ⟨hx, hb, hml, hown, hts⟩ (metX2_checkVar l D dB dN ao an t (cpB fz fo 32) fn) (va_cwS 2 hts (lw_S q96 q97 q5 q98) rfl rfl rfl (by decide +kernel) ⟨Nat.le_of_ble_eq_true rfl, Nat.le_of_ble_eq_true rfl⟩) (PcL.pre hP hK hD hZ hT hS (fun _ h => h)) rfl rfl hl.1 rfl (lv_room (Nat.le_of_ble_eq_true rfl)) dX0_proper_49 ⟨Nat.le_refl _, Nat.le_refl _⟩) hP hD hS rfl (fun x h => h) (fun H locs hP hD hS => ?_)
      refine wt_i (y := nI (if num 32 (fun j => ub (fz j)) < nL then 1 else 0)) (by rw [cpB_num]) ?_
      exact W.zret hx hb hr (nar_if _) (fun t ht hW => ⟨_, _, rfl, trivial, by rw [ht]; exact hP 0 _ rfl, by rw [ht]; exact hP 1 _ rfl, by rw [ht]; exact hS.1, fun x h1 h2 h3 => by rw [ht]; exact hS.2.1 x h1 (fun z => z.elim h2 h3)⟩) hS.2.2 dX0_proper_52
    | succ n ih =>
      intro i hi H locs ls hP hD hS hl
      have hR := hR0.ro hS hne
      refine lv_iload_n hx hb dX0_proper_2 rfl (lv_at hl 0 rfl) ?_
      refine lv_bipush (v := nI 32) hx hb dX0_proper_3 (by decide) ?_
      refine lv_icmp_ge (tgt := 41) hx hb dX0_proper_5 (by decide) (fun c1 => absurd ((nI_leI (by decide) (by omega)).mp c1) (by omega)) (fun _ => ?_)
      refine lv_aload_n hx hb dX0_proper_8 rfl (lv_at hl 1 rfl) ?_
      refine va_get (D := D) (ci := 0) (v := .ref ao) (C := RX0) (T := TX0) (N := 7) hx hb hts in_X0 hown hK hR 0 rfl rfl 5 (by decide) (hts _ q21) (fun _ h9 => h9) rfl dX0_proper_9 ?_
      refine lv_iload_n hx hb dX0_proper_12 rfl (lv_at hl 0 rfl) ?_
      refine lv_iload_n hx hb dX0_proper_13 rfl (lv_at hl 2 rfl) ?_
      refine lv_iconst (v := 1) hx hb dX0_proper_14 (by decide) ?_
      refine lv_iand hx hb dX0_proper_15 ?_
      refine wt_i (y := nI 1) (by rw [and1, hpar]) ?_
      refine lv_if_ne (tgt := 28) hx hb dX0_proper_16 (by decide) (fun _ => ?_) (fun c1 => absurd c1 (by decide +kernel))
      refine lv_aload_n hx hb dX0_proper_28 rfl (lv_at hl 1 rfl) ?_
      refine va_get (D := D) (ci := 0) (v := .ref az) (C := RX0) (T := TX0) (N := 7) hx hb hts in_X0 hown hK hR 0 rfl rfl 1 (by decide) (hts _ q17) (fun _ h9 => h9) rfl dX0_proper_29 ?_
      refine lv_iload_n hx hb dX0_proper_32 rfl (lv_at hl 0 rfl) ?_
      refine va_bald hx hb hK hR 2 0 rfl rfl (vin (by omega) hnz) dX0_proper_33 ?_
      refine wt_i (y := fz i) (congrArg fz (ncl (by omega))) ?_
      refine va_bast hx hb hK hP hD hS 0 0 rfl rfl (vin (by omega) (by decide)) dX0_proper_34 (fun H locs hP hD hS => ?_)
      have eq1 : upd (cpB fz fo i) (nI i).toNatClampNeg (vp_nar .byte (fz i)) = cpB fz fo (i + 1) := by rw [ncl (by omega)]; rfl
      rw [eq1] at hP hD
      refine lv_iinc (v := nI (i + 1)) (lv' := [(2, .int (nI (i + 1))), (0, .ref o), (1, .int which)]) hx hb dX0_proper_35 hl (k := 0) rfl (nI_1 i) (by decide) rfl (fun ls hl => ?_)
      refine lv_goto (tgt := 2) hx hb dX0_proper_38 (by decide) ?_
      exact ih (i + 1) (by omega) H locs ls hP hD hS hl
  refine lv_iconst (v := nI 0) hx hb dX0_proper_0 (by decide) ?_
  refine lv_istore_n (lv' := [(2, .int (nI 0)), (0, .ref o), (1, .int which)]) hx hb dX0_proper_1 rfl hl (by decide) rfl (fun ls hl => ?_)
  exact loop 32 0 rfl s.heap [] ls hP hD hS hl
set_option maxHeartbeats 4000000 in
set_option maxRecDepth 100000 in
/-- WideScalars(): its arrays, all zero -/
theorem metX0_init (l : Launch) (D : va_G) (dB dN : ClassId) (o sz : Nat) : Met l yX0_init (ws_ yX0_init cX0_init 1 none) ({ frames := 1, cells := 7, slots := 156, locals := 12 }) (PcZ D dB dN [.ref o] [(o, .inr (0, [.null, .null, .null, .null, .null, .null, .null]))] sz) (QW D (va_A [(o, .inr (0, [.null, .null, .null, .null, .null, .null, .null]))] sz) (fun w1 => ∃ aw az ax ay ap ao an : Nat, w1 = [(o, oX aw az ax ay ap ao an), (aw, .inl (dB, 64, .inl (fun _ => 0))), (az, .inl (dB, 32, .inl (fun _ => 0))), (ao, .inl (dB, 32, .inl (fun _ => 0))), (an, .inl (dN, 8, .inl (fun _ => 0)))])) 7 156 (va_A [(o, .inr (0, [.null, .null, .null, .null, .null, .null, .null]))] sz) := by
  refine Met.ofW (cc := cX0_init) (maxL := 1) (ret := none) (by decide) rfl ?_
  intro p e s m args below meth c s₁ B hml hv
  obtain ⟨rfl, hsz, hP, hK, hD0⟩ := hv
  have hx := B.exec
  have hb := B.bytes
  have hr := B.returns
  have hts := atoms_spec (ws := ws_ yX0_init cX0_init 1 _) B.pre
  have hts : ∀ w ∈ lw_all, w.before _ s = true := fun w h => hts w (List.mem_cons_of_mem _ h)
  have hown : s.vm.findClass RX0 = some m.cls := findClass_of_methodNamed B.named
  have hlocks := B.notSynchronized
  have hl := lv_entry ([.ref o]) (n := 1) (Nat.le_of_ble_eq_true rfl)
  rw [lg_entry_eq]
  generalize (lg_sl ([.ref o]) ++ List.replicate (1 - (lg_sl ([.ref o])).length) Slot.unset).toArray = ls at hl ⊢
  have hl : lv_has ls 1 [(0, .ref o)] := hl
  subst hsz
  have hin : meth.name = "<init>" := (name_of_methodNamed B.named B.method).1
  have hD := hD0.self (sz := s.heap.size)
  generalize hAe : va_A [(o, .inr (0, [.null, .null, .null, .null, .null, .null, .null]))] s.heap.size = A at hD ⊢
  have hA : ∀ q : Nat, s.heap.size ≤ q → A q := fun q h => by rw [← hAe]; exact Or.inr h
  have hS : va_S A s.heap s.heap [] := va_S.rf
  refine lv_aload_n hx hb dX0_init_0 rfl (lv_at hl 0 rfl) ?_
  refine W.objInit hx hb hown (hts _ q13) (hts _ q14) (hts _ q15) rfl (by rw [hml]; exact hl.1) rfl dX0_init_1 (Nat.le_of_ble_eq_true rfl) (Nat.le_of_ble_eq_true rfl) ?_
  refine W.eq (g2 := F0 m 4 ls []) rfl ?_
  refine lv_aload_n hx hb dX0_init_4 rfl (lv_at hl 0 rfl) ?_
  refine lv_bipush (v := nI 64) hx hb dX0_init_5 (by decide) ?_
  refine va_newa (atype := .byte) (ty := .byte) (N' := 64) (a0 := (64, .inl (fun _ => 0))) hx hb (hts _ q38) rfl hK hP hD hS hA (fun cA => rfl) (by decide) (by decide) (Nat.le_of_ble_eq_true rfl) (Nat.le_of_ble_eq_true rfl) (Nat.le_of_ble_eq_true rfl) dX0_init_7 (fun a0 cA H hK2 hP hD hS => ?_)
  have ecA : dB = cA := hK2.one (i := 0) (j := 2) rfl rfl
  subst ecA
  refine W.cs (cells' := 1) (slots' := 64) rfl rfl ?_
  refine va_putF (D := D) (ci := 0) (v := .ref a0) (ty := .array .byte) (C := RX0) (T := TX0) (N := 7) hx hb hts in_X0 tyX0 tyX0_ok nmX0 hown hK hP hD hS 0 rfl rfl 0 (by decide) (hts _ q16) (fun _ h9 => h9) rfl hin rfl (by decide +kernel) rfl rfl (Nat.le_of_ble_eq_true rfl) dX0_init_9 (fun H locs hP hD hS => ?_)
  have hP : va_P D vwCl [(o, .inr (0, [.ref a0, .null, .null, .null, .null, .null, .null])), (a0, .inl (dB, 64, .inl (fun _ => 0)))] H := hP
  have hD : va_D A [(o, .inr (0, [.ref a0, .null, .null, .null, .null, .null, .null])), (a0, .inl (dB, 64, .inl (fun _ => 0)))] := hD
  refine W.eq (g2 := F0 m 12 ls []) rfl ?_
  refine lv_aload_n hx hb dX0_init_12 rfl (lv_at hl 0 rfl) ?_
  refine lv_bipush (v := nI 32) hx hb dX0_init_13 (by decide) ?_
  refine va_newa (atype := .byte) (ty := .byte) (N' := 32) (a0 := (32, .inl (fun _ => 0))) hx hb (hts _ q38) rfl hK hP hD hS hA (fun cA => rfl) (by decide) (by decide) (Nat.le_of_ble_eq_true rfl) (Nat.le_of_ble_eq_true rfl) (Nat.le_of_ble_eq_true rfl) dX0_init_15 (fun a1 cA H hK2 hP hD hS => ?_)
  have ecA : dB = cA := hK2.one (i := 0) (j := 2) rfl rfl
  subst ecA
  refine W.cs (cells' := 2) (slots' := 96) rfl rfl ?_
  refine va_put (D := D) (ci := 0) (v := .ref a1) (ty := .array .byte) (C := RX0) (T := TX0) (N := 7) hx hb hts in_X0 tyX0 tyX0_ok nmX0 hown hK hP hD hS 0 rfl rfl 1 (by decide) (hts _ q17) (fun _ h9 => h9) rfl (by decide +kernel) rfl rfl (Nat.le_of_ble_eq_true rfl) dX0_init_17 (fun H locs hP hD hS => ?_)
  have hP : va_P D vwCl [(o, .inr (0, [.ref a0, .ref a1, .null, .null, .null, .null, .null])), (a0, .inl (dB, 64, .inl (fun _ => 0))), (a1, .inl (dB, 32, .inl (fun _ => 0)))] H := hP
  have hD : va_D A [(o, .inr (0, [.ref a0, .ref a1, .null, .null, .null, .null, .null])), (a0, .inl (dB, 64, .inl (fun _ => 0))), (a1, .inl (dB, 32, .inl (fun _ => 0)))] := hD
  refine W.eq (g2 := F0 m 20 ls []) rfl ?_
  refine lv_aload_n hx hb dX0_init_20 rfl (lv_at hl 0 rfl) ?_
  refine lv_bipush (v := nI 8) hx hb dX0_init_21 (by decide) ?_
  refine va_newa (atype := .int) (ty := .int) (N' := 8) (a0 := (8, .inl (fun _ => 0))) hx hb (hts _ q39) rfl hK hP hD hS hA (fun cA => rfl) (by decide) (by decide) (Nat.le_of_ble_eq_true rfl) (Nat.le_of_ble_eq_true rfl) (Nat.le_of_ble_eq_true rfl) dX0_init_23 (fun a2 cA H hK2 hP hD hS => ?_)
  have ecA : dN = cA := hK2.oneI (i := 1) (j := 2) rfl rfl
  subst ecA
  refine W.cs (cells' := 3) (slots' := 104) rfl rfl ?_
  refine va_putF (D := D) (ci := 0) (v := .ref a2) (ty := .array .int) (C := RX0) (T := TX0) (N := 7) hx hb hts in_X0 tyX0 tyX0_ok nmX0 hown hK hP hD hS 0 rfl rfl 2 (by decide) (hts _ q18) (fun _ h9 => h9) rfl hin rfl (by decide +kernel) rfl rfl (Nat.le_of_ble_eq_true rfl) dX0_init_25 (fun H locs hP hD hS => ?_)
  have hP : va_P D vwCl [(o, .inr (0, [.ref a0, .ref a1, .ref a2, .null, .null, .null, .null])), (a0, .inl (dB, 64, .inl (fun _ => 0))), (a1, .inl (dB, 32, .inl (fun _ => 0)))] H := hP.sub [0, 1, 2] rfl
  have hD : va_D A [(o, .inr (0, [.ref a0, .ref a1, .ref a2, .null, .null, .null, .null])), (a0, .inl (dB, 64, .inl (fun _ => 0))), (a1, .inl (dB, 32, .inl (fun _ => 0)))] := hD.sub [0, 1, 2] (by decide) rfl
  refine W.eq (g2 := F0 m 28 ls []) rfl ?_
  refine lv_aload_n hx hb dX0_init_28 rfl (lv_at hl 0 rfl) ?_
  refine lv_iconst (v := nI 4) hx hb dX0_init_29 (by decide) ?_
  refine va_newa (atype := .int) (ty := .int) (N' := 4) (a0 := (4, .inl (fun _ => 0))) hx hb (hts _ q39) rfl hK hP hD hS hA (fun cA => rfl) (by decide) (by decide) (Nat.le_of_ble_eq_true rfl) (Nat.le_of_ble_eq_true rfl) (Nat.le_of_ble_eq_true rfl) dX0_init_30 (fun a3 cA H hK2 hP hD hS => ?_)
  have ecA : dN = cA := hK2.oneI (i := 1) (j := 2) rfl rfl
  subst ecA
  refine W.cs (cells' := 4) (slots' := 108) rfl rfl ?_
  refine va_putF (D := D) (ci := 0) (v := .ref a3) (ty := .array .int) (C := RX0) (T := TX0) (N := 7) hx hb hts in_X0 tyX0 tyX0_ok nmX0 hown hK hP hD hS 0 rfl rfl 3 (by decide) (hts _ q19) (fun _ h9 => h9) rfl hin rfl (by decide +kernel) rfl rfl (Nat.le_of_ble_eq_true rfl) dX0_init_32 (fun H locs hP hD hS => ?_)
  have hP : va_P D vwCl [(o, .inr (0, [.ref a0, .ref a1, .ref a2, .ref a3, .null, .null, .null])), (a0, .inl (dB, 64, .inl (fun _ => 0))), (a1, .inl (dB, 32, .inl (fun _ => 0)))] H := hP.sub [0, 1, 2] rfl
  have hD : va_D A [(o, .inr (0, [.ref a0, .ref a1, .ref a2, .ref a3, .null, .null, .null])), (a0, .inl (dB, 64, .inl (fun _ => 0))), (a1, .inl (dB, 32, .inl (fun _ => 0)))] := hD.sub [0, 1, 2] (by decide) rfl
  refine W.eq (g2 := F0 m 35 ls []) rfl ?_
  refine lv_aload_n hx hb dX0_init_35 rfl (lv_at hl 0 rfl) ?_
  refine lv_bipush (v := nI 8) hx hb dX0_init_36 (by decide) ?_
  refine va_newa (atype := .int) (ty := .int) (N' := 8) (a0 := (8, .inl (fun _ => 0))) hx hb (hts _ q39) rfl hK hP hD hS hA (fun cA => rfl) (by decide) (by decide) (Nat.le_of_ble_eq_true rfl) (Nat.le_of_ble_eq_true rfl) (Nat.le_of_ble_eq_true rfl) dX0_init_38 (fun a4 cA H hK2 hP hD hS => ?_)
  have ecA : dN = cA := hK2.oneI (i := 1) (j := 2) rfl rfl
  subst ecA
  refine W.cs (cells' := 5) (slots' := 116) rfl rfl ?_
  refine va_putF (D := D) (ci := 0) (v := .ref a4) (ty := .array .int) (C := RX0) (T := TX0) (N := 7) hx hb hts in_X0 tyX0 tyX0_ok nmX0 hown hK hP hD hS 0 rfl rfl 4 (by decide) (hts _ q20) (fun _ h9 => h9) rfl hin rfl (by decide +kernel) rfl rfl (Nat.le_of_ble_eq_true rfl) dX0_init_40 (fun H locs hP hD hS => ?_)
  have hP : va_P D vwCl [(o, .inr (0, [.ref a0, .ref a1, .ref a2, .ref a3, .ref a4, .null, .null])), (a0, .inl (dB, 64, .inl (fun _ => 0))), (a1, .inl (dB, 32, .inl (fun _ => 0)))] H := hP.sub [0, 1, 2] rfl
  have hD : va_D A [(o, .inr (0, [.ref a0, .ref a1, .ref a2, .ref a3, .ref a4, .null, .null])), (a0, .inl (dB, 64, .inl (fun _ => 0))), (a1, .inl (dB, 32, .inl (fun _ => 0)))] := hD.sub [0, 1, 2] (by decide) rfl
  refine W.eq (g2 := F0 m 43 ls []) rfl ?_
  refine lv_aload_n hx hb dX0_init_43 rfl (lv_at hl 0 rfl) ?_
  refine lv_bipush (v := nI 32) hx hb dX0_init_44 (by decide) ?_
  refine va_newa (atype := .byte) (ty := .byte) (N' := 32) (a0 := (32, .inl (fun _ => 0))) hx hb (hts _ q38) rfl hK hP hD hS hA (fun cA => rfl) (by decide) (by decide) (Nat.le_of_ble_eq_true rfl) (Nat.le_of_ble_eq_true rfl) (Nat.le_of_ble_eq_true rfl) dX0_init_46 (fun a5 cA H hK2 hP hD hS => ?_)
  have ecA : dB = cA := hK2.one (i := 0) (j := 2) rfl rfl
  subst ecA
  refine W.cs (cells' := 6) (slots' := 148) rfl rfl ?_
  refine va_putF (D := D) (ci := 0) (v := .ref a5) (ty := .array .byte) (C := RX0) (T := TX0) (N := 7) hx hb hts in_X0 tyX0 tyX0_ok nmX0 hown hK hP hD hS 0 rfl rfl 5 (by decide) (hts _ q21) (fun _ h9 => h9) rfl hin rfl (by decide +kernel) rfl rfl (Nat.le_of_ble_eq_true rfl) dX0_init_48 (fun H locs hP hD hS => ?_)
  have hP : va_P D vwCl [(o, .inr (0, [.ref a0, .ref a1, .ref a2, .ref a3, .ref a4, .ref a5, .null])), (a0, .inl (dB, 64, .inl (fun _ => 0))), (a1, .inl (dB, 32, .inl (fun _ => 0))), (a5, .inl (dB, 32, .inl (fun _ => 0)))] H := hP
  have hD : va_D A [(o, .inr (0, [.ref a0, .ref a1, .ref a2, .ref a3, .ref a4, .ref a5, .null])), (a0, .inl (dB, 64, .inl (fun _ => 0))), (a1, .inl (dB, 32, .inl (fun _ => 0))), (a5, .inl (dB, 32, .inl (fun _ => 0)))] := hD
  refine W.eq (g2 := F0 m 51 ls []) rfl ?_
  refine lv_aload_n hx hb dX0_init_51 rfl (lv_at hl 0 rfl) ?_
  refine lv_bipush (v := nI 8) hx hb dX0_init_52 (by decide) ?_
  refine va_newa (atype := .int) (ty := .int) (N' := 8) (a0 := (8, .inl (fun _ => 0))) hx hb (hts _ q39) rfl hK hP hD hS hA (fun cA => rfl) (by decide) (by decide) (Nat.le_of_ble_eq_true rfl) (Nat.le_of_ble_eq_true rfl) (Nat.le_of_ble_eq_true rfl) dX0_init_54 (fun a6 cA H hK2 hP hD hS => ?_)
  have ecA : dN = cA := hK2.oneI (i := 1) (j := 2) rfl rfl
  subst ecA
  refine W.cs (cells' := 7) (slots' := 156) rfl rfl ?_
  refine va_putF (D := D) (ci := 0) (v := .ref a6) (ty := .array .int) (C := RX0) (T := TX0) (N := 7) hx hb hts in_X0 tyX0 tyX0_ok nmX0 hown hK hP hD hS 0 rfl rfl 6 (by decide) (hts _ q22) (fun _ h9 => h9) rfl hin rfl (by decide +kernel) rfl rfl (Nat.le_of_ble_eq_true rfl) dX0_init_56 (fun H locs hP hD hS => ?_)
  have hP : va_P D vwCl [(o, .inr (0, [.ref a0, .ref a1, .ref a2, .ref a3, .ref a4, .ref a5, .ref a6])), (a0, .inl (dB, 64, .inl (fun _ => 0))), (a1, .inl (dB, 32, .inl (fun _ => 0))), (a5, .inl (dB, 32, .inl (fun _ => 0))), (a6, .inl (dN, 8, .inl (fun _ => 0)))] H := hP
  have hD : va_D A [(o, .inr (0, [.ref a0, .ref a1, .ref a2, .ref a3, .ref a4, .ref a5, .ref a6])), (a0, .inl (dB, 64, .inl (fun _ => 0))), (a1, .inl (dB, 32, .inl (fun _ => 0))), (a5, .inl (dB, 32, .inl (fun _ => 0))), (a6, .inl (dN, 8, .inl (fun _ => 0)))] := hD
  refine W.eq (g2 := F0 m 59 ls []) rfl ?_
  exact W.vret hx hb hr (fun t ht hW => ⟨_, rfl, ⟨a0, a1, a2, a3, a4, a5, a6, rfl⟩, by rw [ht]; exact hP, hD, by rw [ht]; exact hS.1, fun x h1 h2 => by rw [ht]; exact hS.2.1 x h1 h2⟩) hS.2.2 dX0_init_59
end
section
/-! ===== the reference: digits as numbers ===== -/
def nf (r : Nat → Nat) : Nat → Int32 := fun j => nI (r j)
def updN (r : Nat → Nat) (k v : Nat) : Nat → Nat := fun j => if j = k then v else r j
theorem updN_s {r : Nat → Nat} {k v : Nat} : updN r k v k = v := if_pos rfl
theorem updN_n {r : Nat → Nat} {k v j : Nat} (h : j ≠ k) : updN r k v j = r j := if_neg h
theorem upd_nf (r : Nat → Nat) (k v : Nat) : upd (nf r) k (nI v) = nf (updN r k v) := by
  funext j
  unfold nf
  by_cases h : j = k
  · subst h; rw [pk_us, updN_s]
  · rw [pk_un h, updN_n h]
theorem num_updN (r : Nat → Nat) (k v : Nat) : num (k + 1) (updN r k v) = num k r + v * 256 ^ k := by
  rw [num_S, updN_s, num_congr (b := r) k (fun i hi => updN_n (by omega))]
theorem num_cmp {a b : Nat → Nat} {i : Nat} (ha : ∀ j, j < i → a j < 256) (hi : a i < b i) : ∀ k, (∀ j, i < j → j < i + 1 + k → a j = b j) → num (i + 1 + k) a < num (i + 1 + k) b := by
  intro k
  induction k with
  | zero =>
    intro _
    show num i a + a i * 256 ^ i < num i b + b i * 256 ^ i
    have h1 := num_lt i ha
    generalize 256 ^ i = P at *
    have e : (a i + 1) * P ≤ b i * P := Nat.mul_le_mul_right P hi
    rw [Nat.add_mul] at e
    omega
  | succ k ih =>
    intro h
    show num (i + 1 + k) a + a (i + 1 + k) * _ < num (i + 1 + k) b + b (i + 1 + k) * _
    rw [h (i + 1 + k) (by omega) (by omega)]
    have := ih (fun j h1 h2 => h j h1 (by omega))
    omega
theorem num_digit {d : Nat → Nat} : ∀ n, (∀ i, i < n → d i < 256) → ∀ k, k < n → num n d / 256 ^ k % 256 = d k := by
  intro n
  induction n with
  | zero => intro _ k hk; omega
  | succ n ih =>
    intro h k hk
    have hl := num_lt n (fun i hi => h i (by omega))
    have hn := h n (by omega)
    show (num n d + d n * 256 ^ n) / 256 ^ k % 256 = d k
    rcases Nat.lt_or_ge k n with q | q
    · have e : 256 ^ n = 256 ^ k * 256 * 256 ^ (n - k - 1) := by
        rw [← Nat.pow_succ, ← Nat.pow_add]
        congr 1
        omega
      have hP : 0 < 256 ^ k := Nat.pow_pos (by decide)
      have i1 := ih (fun i hi => h i (by omega)) k q
      rw [e, show d n * (256 ^ k * 256 * 256 ^ (n - k - 1)) = 256 * (d n * 256 ^ (n - k - 1)) * 256 ^ k by
        generalize 256 ^ k = P
        generalize 256 ^ (n - k - 1) = Q
        rw [Nat.mul_assoc P, Nat.mul_comm P, ← Nat.mul_assoc, Nat.mul_left_comm (d n)], Nat.add_mul_div_right _ _ hP]
      omega
    · have e : k = n := by omega
      subst e
      have hP : 0 < 256 ^ k := Nat.pow_pos (by decide)
      rw [Nat.add_mul_div_right _ _ hP, Nat.div_eq_of_lt hl, Nat.zero_add, Nat.mod_eq_of_lt hn]
theorem num_bit {d : Nat → Nat} {n i : Nat} (h : ∀ j, j < n → d j < 256) (hi : i < 8 * n) : num n d / 2 ^ i % 2 = d (i / 8) / 2 ^ (i % 8) % 2 := by
  have hd := num_digit n h (i / 8) (by omega)
  have e : 2 ^ i = 256 ^ (i / 8) * 2 ^ (i % 8) := by
    rw [show (256 : Nat) = 2 ^ 8 from rfl, ← Nat.pow_mul, ← Nat.pow_add]
    congr 1
    omega
  rw [e, ← Nat.div_div_eq_div_mul, ← hd]
  generalize num n d / 256 ^ (i / 8) = X
  have ht : i % 8 < 8 := Nat.mod_lt _ (by decide)
  generalize i % 8 = t at *
  have cs : t = 0 ∨ t = 1 ∨ t = 2 ∨ t = 3 ∨ t = 4 ∨ t = 5 ∨ t = 6 ∨ t = 7 := by omega
  rcases cs with rfl | rfl | rfl | rfl | rfl | rfl | rfl | rfl <;> omega
/-- the order's digits -/
def oDs : List Nat := [237, 211, 245, 92, 26, 99, 18, 88, 214, 156, 247, 162, 222, 249, 222, 20, 0, 0, 0, 0, 0, 0, 0, 0, 0, 0, 0, 0, 0, 0, 0, 16]
def oD (j : Nat) : Nat := oDs.getD j 0
theorem oD_num : num 32 oD = nL := by decide +kernel
theorem oD_num33 : num 33 oD = nL := by decide +kernel
theorem oD_lt : ∀ j, oD j < 256 := by
  intro j
  rcases Nat.lt_or_ge j 32 with h | h
  · exact (by decide +kernel : ∀ j, j < 32 → oD j < 256) j h
  · have e : oD j = 0 := by
      unfold oD
      rw [List.getD_eq_getElem?_getD, List.getElem?_eq_none (by exact h)]
      rfl
    rw [e]; decide
theorem oD_32 : oD 32 = 0 := by decide +kernel
/-- doubling: what holds when k digits are done -/
def dblI (r : Nat → Nat) (c0 k : Nat) (r1 : Nat → Nat) (c : Nat) : Prop := (∀ j, j < 33 → r1 j < 256) ∧ (∀ j, k ≤ j → r1 j = r j) ∧ c ≤ 1 ∧ num k r1 + c * 256 ^ k = 2 * num k r + c0
theorem dblI_0 {r : Nat → Nat} {c0 : Nat} (hr : ∀ j, j < 33 → r j < 256) (hc : c0 ≤ 1) : dblI r c0 0 r c0 := ⟨hr, fun _ _ => rfl, hc, by show 0 + c0 * 1 = 2 * 0 + c0; omega⟩
theorem dblI_s {r r1 : Nat → Nat} {c0 k c : Nat} (h : dblI r c0 k r1 c) (hk : k < 33) : dblI r c0 (k + 1) (updN r1 k ((r1 k * 2 + c) % 256)) ((r1 k * 2 + c) / 256) := by
  obtain ⟨h1, h2, h3, h4⟩ := h
  have hk2 := h1 k hk
  refine ⟨fun j hj => ?_, fun j hj => ?_, by omega, ?_⟩
  · by_cases e : j = k
    · subst e; rw [updN_s]; omega
    · rw [updN_n e]; exact h1 j hj
  · rw [updN_n (by omega)]; exact h2 j (by omega)
  · rw [num_updN, num_S, ← h2 k (Nat.le_refl k), Nat.pow_succ]
    generalize 256 ^ k = P at *
    generalize num k r1 = a at *
    generalize num k r = b at *
    generalize r1 k = x at *
    have e1 : (x * 2 + c) % 256 * P + (x * 2 + c) / 256 * (P * 256) = (x * 2 + c) * P := by
      rw [Nat.mul_comm P, ← Nat.mul_assoc, ← Nat.add_mul]
      congr 1
      omega
    rw [Nat.add_assoc, e1, Nat.add_mul, Nat.mul_add, ← Nat.mul_assoc 2 x, Nat.mul_comm 2 x]
    omega
theorem p33 : 256 ^ 33 = 256 ^ 32 * 256 := by decide +kernel
theorem nL_lt : 2 * nL < 256 ^ 32 := by decide +kernel
theorem dblI_33 {r r1 : Nat → Nat} {c0 c : Nat} (h : dblI r c0 33 r1 c) (hr : num 33 r < nL) (hc : c0 ≤ 1) : num 33 r1 = 2 * num 33 r + c0 := by
  obtain ⟨h1, h2, h3, h4⟩ := h
  have := nL_lt
  have := p33
  generalize num 33 r = a at *
  generalize num 33 r1 = b at *
  generalize 256 ^ 33 = P at *
  generalize 256 ^ 32 = P2 at *
  rcases (by omega : c = 0 ∨ c = 1) with rfl | rfl
  · omega
  · omega
/-- a number below 256 ^ 32 has no digit 32 -/
theorem num_top {r : Nat → Nat} (h : num 33 r < 256 ^ 32) : r 32 = 0 ∧ num 32 r = num 33 r := by
  have e0 : num 33 r = num 32 r + r 32 * 256 ^ 32 := rfl
  rw [e0] at h ⊢
  generalize num 32 r = a at *
  generalize 256 ^ 32 = P at *
  rcases Nat.eq_zero_or_pos (r 32) with e | e
  · rw [e]; omega
  · have : 1 * P ≤ r 32 * P := Nat.mul_le_mul_right P e
    omega
/-- subtracting: what holds when k digits are done, with borrow b -/
def subI (r : Nat → Nat) (k : Nat) (r1 : Nat → Nat) (b : Nat) : Prop := (∀ j, j < 33 → r1 j < 256) ∧ (∀ j, k ≤ j → r1 j = r j) ∧ b ≤ 1 ∧ num k r1 + num k oD = num k r + b * 256 ^ k
theorem subI_0 {r : Nat → Nat} (hr : ∀ j, j < 33 → r j < 256) : subI r 0 r 0 := ⟨hr, fun _ _ => rfl, by decide, by show 0 + 0 = 0 + 0 * 1; rfl⟩
def bw (x y b : Nat) : Nat := if y + b ≤ x then 0 else 1
theorem subI_s {r r1 : Nat → Nat} {k b : Nat} (h : subI r k r1 b) (hk : k < 33) : subI r (k + 1) (updN r1 k ((r1 k + 256 - oD k - b) % 256)) (bw (r1 k) (oD k) b) := by
  obtain ⟨h1, h2, h3, h4⟩ := h
  have hk2 := h1 k hk
  have ho := oD_lt k
  refine ⟨fun j hj => ?_, fun j hj => ?_, by unfold bw; split <;> decide, ?_⟩
  · by_cases e : j = k
    · subst e; rw [updN_s]; omega
    · rw [updN_n e]; exact h1 j hj
  · rw [updN_n (by omega)]; exact h2 j (by omega)
  · rw [num_updN, num_S, num_S, ← h2 k (Nat.le_refl k), Nat.pow_succ]
    generalize 256 ^ k = P at *
    generalize num k r1 = a at *
    generalize num k r = n at *
    generalize num k oD = d at *
    generalize r1 k = x at *
    generalize oD k = y at *
    have e1 : (x + 256 - y - b) % 256 + y + b = x + bw x y b * 256 := by unfold bw; split <;> omega
    have e2 : (x + 256 - y - b) % 256 * P + y * P + b * P = x * P + bw x y b * (P * 256) := by
      rw [← Nat.add_mul, ← Nat.add_mul, e1, Nat.add_mul, Nat.mul_comm P, ← Nat.mul_assoc]
    omega
theorem subI_33 {r r1 : Nat → Nat} {b : Nat} (h : subI r 33 r1 b) (hr : nL ≤ num 33 r) : num 33 r1 = num 33 r - nL := by
  obtain ⟨h1, h2, h3, h4⟩ := h
  rw [oD_num33] at h4
  have l1 := num_lt 33 h1
  generalize num 33 r = a at *
  generalize num 33 r1 = c at *
  generalize 256 ^ 33 = P at *
  rcases (by omega : b = 0 ∨ b = 1) with rfl | rfl
  · omega
  · omega
/-- a bit more of the number -/
theorem div_step {N i : Nat} {r1 : Nat} (h : r1 = 2 * (N / 2 ^ (i + 1) % nL) + N / 2 ^ i % 2) : r1 < 2 * nL ∧ (r1 < nL → r1 = N / 2 ^ i % nL) ∧ (nL ≤ r1 → r1 - nL = N / 2 ^ i % nL) := by
  have e : N / 2 ^ (i + 1) = N / 2 ^ i / 2 := by rw [Nat.pow_succ, Nat.div_div_eq_div_mul]
  rw [e] at h
  generalize N / 2 ^ i = X at *
  have hL : nL = 7237005577332262213973186563042994240857116359379907606001950938285454250989 := rfl
  rw [hL] at h ⊢
  omega
def bV (b : Nat) : Int32 := if b = 0 then 0 else -1
theorem bV_int {b : Nat} (h : b ≤ 1) : (bV b).toInt = -(b : Int) := by
  rcases (by omega : b = 0 ∨ b = 1) with rfl | rfl <;> decide +kernel
theorem sub_int {x y b : Nat} (hx : x < 256) (hy : y < 256) (hb : b ≤ 1) : (nI x - nI y + bV b).toInt = (x : Int) - y - b := by
  rw [Int32.toInt_add, pk_sub_toInt (by omega) (by omega), bV_int hb, Int.bmod_def]
  have e : ((2 ^ 32 : Nat) : Int) = 4294967296 := rfl
  rw [e]
  split <;> omega
theorem sub_and {x y b : Nat} (hx : x < 256) (hy : y < 256) (hb : b ≤ 1) : (nI x - nI y + bV b) &&& 255 = nI ((x + 256 - y - b) % 256) := by
  rw [and255]
  congr 1
  have h := ub_int (nI x - nI y + bV b)
  rw [sub_int hx hy hb] at h
  omega
theorem sub_shr {x y b : Nat} (hx : x < 256) (hy : y < 256) (hb : b ≤ 1) : (nI x - nI y + bV b) >>> ((8 : Int32) &&& 31) = bV (bw x y b) := by
  apply Int32.toInt_inj.mp
  rw [pk_shr _ _ 8 (by decide +kernel), sub_int hx hy hb, bV_int (by unfold bw; split <;> decide), Int.shiftRight_eq_div_pow]
  have e : ((2 ^ 8 : Nat) : Int) = 256 := rfl
  rw [e]
  unfold bw
  split <;> omega
/-- what lay writes -/
def wSel (p q r s : Int32) (k : Nat) : Int32 := if k < 4 then p else if k < 8 then q else if k < 12 then r else s
def lyD (g : Nat → Nat) (a : Nat) (p q r s : Int32) : Nat → Nat → Nat
  | 0 => g
  | k + 1 => updN (lyD g a p q r s k) (a + k) (dg (wSel p q r s k) (k % 4))
theorem lyD_at (g : Nat → Nat) (a : Nat) (p q r s : Int32) : ∀ n k, k < n → lyD g a p q r s n (a + k) = dg (wSel p q r s k) (k % 4) := by
  intro n
  induction n with
  | zero => intro k h; omega
  | succ n ih =>
    intro k h
    show updN _ _ _ _ = _
    by_cases e : k = n
    · subst e; exact updN_s
    · rw [updN_n (by omega)]; exact ih k (by omega)
theorem lyD_out (g : Nat → Nat) (a : Nat) (p q r s : Int32) : ∀ n j, (j < a ∨ a + n ≤ j) → lyD g a p q r s n j = g j := by
  intro n
  induction n with
  | zero => intro j _; rfl
  | succ n ih =>
    intro j h
    show updN _ _ _ _ = _
    rw [updN_n (by omega)]; exact ih j (by omega)
theorem dg_lt (w : Int32) (k : Nat) : dg w k < 256 := Nat.mod_lt _ (by decide)
/-- both sides lay the same digits -/
theorem wid_lay {f : Nat → Int32} {g : Nat → Nat} {q : Nat} (a b c d : Int32) (hfg : ∀ j, j < 64 → ub (f j) = g j) : ∀ j, j < 64 → ub (wid f q a b c d j) = lyD g (16 * q) a b c d 16 j := by
  intro j hj
  rcases (by omega : j < 16 * q ∨ 16 * q + 16 ≤ j ∨ (16 * q ≤ j ∧ j < 16 * q + 16)) with h | h | ⟨h, h'⟩
  · rw [lyD_out _ _ _ _ _ _ _ _ (Or.inl h)]
    unfold wid
    rw [wrd_lo (by omega), wrd_lo (by omega), wrd_lo (by omega), wrd_lo (by omega)]
    exact hfg j hj
  · rw [lyD_out _ _ _ _ _ _ _ _ (Or.inr h)]
    unfold wid
    rw [wrd_lo (by omega), wrd_lo (by omega), wrd_lo (by omega), wrd_lo (by omega)]
    exact hfg j hj
  · obtain ⟨k, rfl⟩ : ∃ k, j = 16 * q + k := ⟨j - 16 * q, by omega⟩
    have hk : k < 16 := by omega
    rw [lyD_at _ _ _ _ _ _ _ _ hk]
    unfold wid wSel
    rcases Nat.lt_or_ge k 4 with h1 | h1
    · rw [if_pos h1, wrd_lo (by omega), wrd_lo (by omega), wrd_lo (by omega), wrd_at _ _ _ _ h1, Nat.mod_eq_of_lt h1]
    · rw [if_neg (by omega)]
      rcases Nat.lt_or_ge k 8 with h2 | h2
      · rw [if_pos h2, wrd_lo (by omega), wrd_lo (by omega), show 16 * q + k = 16 * q + 4 + (k - 4) by omega, wrd_at _ _ _ _ (by omega), show k - 4 = k % 4 by omega]
      · rw [if_neg (by omega)]
        rcases Nat.lt_or_ge k 12 with h3 | h3
        · rw [if_pos h3, wrd_lo (by omega), show 16 * q + k = 16 * q + 8 + (k - 8) by omega, wrd_at _ _ _ _ (by omega), show k - 8 = k % 4 by omega]
        · rw [if_neg (by omega), show 16 * q + k = 16 * q + 12 + (k - 12) by omega, wrd_at _ _ _ _ (by omega), show k - 12 = k % 4 by omega]
end
section
/-! ===== WideScalarsModel ===== -/
abbrev mX (mw mz mo mr : Nat) : va_E := .inr (1, [.ref mw, .ref mz, .ref mo, .ref mr])
theorem lay_shr (w : Int32) {j : Nat} (hj : j < 4) : (w.toUInt32 >>> ((nI (8 * j)).toUInt32 &&& Int32.toUInt32 31)).toInt32 = nI (uI w / 256 ^ j) := by
  have hs : (((nI (8 * j)).toUInt32 &&& Int32.toUInt32 31).toBitVec % 32).toNat = 8 * j := by
    rcases (by omega : j = 0 ∨ j = 1 ∨ j = 2 ∨ j = 3) with rfl | rfl | rfl | rfl <;> decide +kernel
  have h := pk_ushrN (uI_lt w) (nI (8 * j)) (8 * j) hs
  rw [nI_uI] at h
  rw [h, Nat.pow_mul]
theorem lay_dg (w : Int32) (j : Nat) : nI (uI w / 256 ^ j) &&& 255 = nI (dg w j) := by
  have h : uI w / 256 ^ j < 4294967296 := Nat.lt_of_le_of_lt (Nat.div_le_self _ _) (uI_lt w)
  rw [and255, ub_nI h]
  rfl
theorem nI_and3 {i : Nat} (h : i < 4294967296) : nI i &&& 3 = nI (i % 4) := by rw [and3, uI_nI h]
theorem cmp_res {a : Nat → Nat} {k : Nat} (ha : ∀ j, j < 32 → a j < 256) (hk : k < 32) (he : ∀ j, k < j → j < 32 → a j = oD j) (h0 : k = 0 ∨ a k ≠ oD k) : a k < oD k ↔ num 32 a < nL := by
  rw [← oD_num]
  constructor
  · intro h
    have := num_cmp (a := a) (b := oD) (i := k) (fun j hj => ha j (by omega)) h (31 - k) (fun j h1 h2 => he j h1 (by omega))
    rw [show k + 1 + (31 - k) = 32 by omega] at this
    exact this
  · intro h
    rcases Nat.lt_or_ge (a k) (oD k) with q | q
    · exact q
    · exfalso
      rcases Nat.lt_or_ge (oD k) (a k) with q2 | q2
      · have := num_cmp (a := oD) (b := a) (i := k) (fun j hj => oD_lt j) q2 (31 - k) (fun j h1 h2 => (he j h1 (by omega)).symm)
        rw [show k + 1 + (31 - k) = 32 by omega] at this
        omega
      · have ek : a k = oD k := by omega
        rcases h0 with rfl | h0
        · have : num 32 a = num 32 oD := num_congr 32 (fun i hi => by
            rcases Nat.eq_zero_or_pos i with rfl | e
            · exact ek
            · exact he i e hi)
          omega
        · exact h0 ek
def oS : Nat → Nat → Nat
  | 0 => fun _ => 0
  | i + 1 => updN (oS i) i (oD i)
theorem oS_eq : oS 32 = oD := by
  have h : ∀ n j, oS n j = if j < n then oD j else 0 := by
    intro n
    induction n with
    | zero => intro j; rfl
    | succ n ih =>
      intro j
      show updN (oS n) n (oD n) j = _
      by_cases e : j = n
      · subst e; rw [updN_s, if_pos (by omega)]
      · rw [updN_n e, ih]
        by_cases e2 : j < n
        · rw [if_pos e2, if_pos (by omega)]
        · rw [if_neg e2, if_neg (by omega)]
  funext j
  rw [h]
  by_cases e : j < 32
  · rw [if_pos e]
  · rw [if_neg e]
    unfold oD
    rw [List.getD_eq_getElem?_getD, List.getElem?_eq_none (by show 32 ≤ j; omega)]
    rfl

set_option maxHeartbeats 4000000 in
set_option maxRecDepth 100000 in
/-- lay: sixteen digits -/
theorem metX1_lay (l : Launch) (D : va_G) (dB dN : ClassId) (o h0 : Nat) (g : Nat → Nat) (a : Nat) (wa wb wc wd : Int32) (ha : a + 16 ≤ 64) : Met l yX1_lay (ws_ yX1_lay cX1_lay 9 none) ({ frames := 0, cells := 0, slots := 0, locals := 0 }) (PcH D dB dN [.ref o, .ref h0, .int (nI a), .int wa, .int wb, .int wc, .int wd] [(h0, .inl (dN, 64, .inl (nf g)))]) (Qs h0 (vp_cell dN (64, .inl (nf (lyD g a wa wb wc wd 16)))) (.returned none)) 0 0 (fun x => x = h0) := by
  refine Met.ofW (cc := cX1_lay) (maxL := 9) (ret := none) (by decide) rfl ?_
  intro p e s m args below meth c s₁ B hml hv
  obtain ⟨rfl, hP, hK, hD0⟩ := hv
  have hx := B.exec
  have hb := B.bytes
  have hr := B.returns
  have hts := atoms_spec (ws := ws_ yX1_lay cX1_lay 9 _) B.pre
  have hts : ∀ w ∈ lw_all, w.before _ s = true := fun w h => hts w (List.mem_cons_of_mem _ h)
  have hown : s.vm.findClass RX1 = some m.cls := findClass_of_methodNamed B.named
  have hlocks := B.notSynchronized
  have hl := lv_entry ([.ref o, .ref h0, .int (nI a), .int wa, .int wb, .int wc, .int wd]) (n := 9) (Nat.le_of_ble_eq_true rfl)
  rw [lg_entry_eq]
  generalize (lg_sl ([.ref o, .ref h0, .int (nI a), .int wa, .int wb, .int wc, .int wd]) ++ List.replicate (9 - (lg_sl ([.ref o, .ref h0, .int (nI a), .int wa, .int wb, .int wc, .int wd])).length) Slot.unset).toArray = ls at hl ⊢
  have hl : lv_has ls 9 [(0, .ref o), (1, .ref h0), (2, .int (nI a)), (3, .int wa), (4, .int wb), (5, .int wc), (6, .int wd)] := hl
  have hS : va_S (fun x => x = h0) s.heap s.heap [] := va_S.rf
  have hD : va_D (fun x => x = h0) [(h0, .inl (dN, 64, .inl (nf (lyD g a wa wb wc wd 0))))] := va_D.to1 hD0 rfl
  have loop : ∀ (n i : Nat), i + n = 16 → ∀ (H : Heap) (locs : List Loc) (ls : Array Slot), va_P D vwCl [(h0, .inl (dN, 64, .inl (nf (lyD g a wa wb wc wd i))))] H → va_D (fun x => x = h0) [(h0, .inl (dN, 64, .inl (nf (lyD g a wa wb wc wd i))))] → va_S (fun x => x = h0) s.heap H locs → lv_has ls 9 [(7, .int (nI i)), (0, .ref o), (1, .ref h0), (2, .int (nI a)), (3, .int wa), (4, .int wb), (5, .int wc), (6, .int wd)] → W p l e (headSpec (ws_ yX1_lay cX1_lay 9 none) ({ frames := 0, cells := 0, slots := 0, locals := 0 })).room s m ([.ref o, .ref h0, .int (nI a), .int wa, .int wb, .int wc, .int wd] : List Value).toArray below meth c H locs 0 0 (MQ below (Qs h0 (vp_cell dN (64, .inl (nf (lyD g a wa wb wc wd 16)))) (.returned none)) ([.ref o, .ref h0, .int (nI a), .int wa, .int wb, .int wc, .int wd] : List Value).toArray s 0 0 (fun x => x = h0)) (F0 m 3 ls []) := by
    intro n
    induction n with
    | zero =>
      intro i hi H locs ls hP hD hS hl
      refine lv_iload hx hb dX1_lay_3 (lv_at hl 0 rfl) ?_
      refine lv_bipush (v := nI 16) hx hb dX1_lay_5 (by decide) ?_
      refine lv_icmp_ge (tgt := 74) hx hb dX1_lay_7 (by decide) (fun _ => ?_) (fun c1 => absurd ((nI_leI (by decide) (by omega)).mpr (by omega)) c1)
      have e8 : i = 16 := by omega
      subst e8
      exact W.vret hx hb hr (fun t ht hW => ⟨rfl, by rw [ht]; exact hP 0 _ rfl, by rw [ht]; exact hS.1, fun x h1 h2 => by rw [ht]; exact hS.2.1 x h1 h2⟩) hS.2.2 dX1_lay_74
    | succ n ih =>
      intro i hi H locs ls hP hD hS hl
      have tail : ∀ w : Int32, w = wSel wa wb wc wd i → W p l e (headSpec (ws_ yX1_lay cX1_lay 9 none) ({ frames := 0, cells := 0, slots := 0, locals := 0 })).room s m ([.ref o, .ref h0, .int (nI a), .int wa, .int wb, .int wc, .int wd] : List Value).toArray below meth c H locs 0 0 (MQ below (Qs h0 (vp_cell dN (64, .inl (nf (lyD g a wa wb wc wd 16)))) (.returned none)) ([.ref o, .ref h0, .int (nI a), .int wa, .int wb, .int wc, .int wd] : List Value).toArray s 0 0 (fun x => x = h0)) (F0 m 46 ls [.int w]) := by
        intro w hw
        refine lv_istore (lv' := [(8, .int w), (7, .int (nI i)), (0, .ref o), (1, .ref h0), (2, .int (nI a)), (3, .int wa), (4, .int wb), (5, .int wc), (6, .int wd)]) hx hb dX1_lay_46 hl (by decide) rfl (fun ls hl => ?_)
        refine lv_aload_n hx hb dX1_lay_48 rfl (lv_at hl 3 rfl) ?_
        refine lv_iload_n hx hb dX1_lay_49 rfl (lv_at hl 4 rfl) ?_
        refine lv_iload hx hb dX1_lay_50 (lv_at hl 1 rfl) ?_
        refine lv_iadd hx hb dX1_lay_52 ?_
        refine wt_i (y := nI (a + i)) (nI_add a i) ?_
        refine lv_iload hx hb dX1_lay_53 (lv_at hl 0 rfl) ?_
        refine lv_bipush (v := nI 8) hx hb dX1_lay_55 (by decide) ?_
        refine lv_iload hx hb dX1_lay_57 (lv_at hl 1 rfl) ?_
        refine lv_iconst (v := 3) hx hb dX1_lay_59 (by decide) ?_
        refine lv_iand hx hb dX1_lay_60 ?_
        refine wt_i (y := nI (i % 4)) (nI_and3 (by omega)) ?_
        refine lv_imul hx hb dX1_lay_61 ?_
        refine wt_i (y := nI (8 * (i % 4))) (pk_mul 8 (i % 4)) ?_
        refine lv_iushr (v := nI (uI w / 256 ^ (i % 4))) hx hb dX1_lay_62 (lay_shr w (Nat.mod_lt _ (by decide))) ?_
        refine lv_sipush (v := 255) hx hb dX1_lay_63 (by decide) ?_
        refine lv_iand hx hb dX1_lay_66 ?_
        refine wt_i (y := nI (dg w (i % 4))) (lay_dg w (i % 4)) ?_
        refine va_iast hx hb hK hP hD hS 0 1 rfl rfl (vin (by omega) (by decide)) dX1_lay_67 (fun H locs hP hD hS => ?_)
        have eq1 : upd (nf (lyD g a wa wb wc wd i)) (nI (a + i)).toNatClampNeg (nI (dg w (i % 4))) = nf (lyD g a wa wb wc wd (i + 1)) := by rw [ncl (by omega), upd_nf, hw]; rfl
        rw [eq1] at hP hD
        refine lv_iinc (v := nI (i + 1)) (lv' := [(7, .int (nI (i + 1))), (8, .int w), (0, .ref o), (1, .ref h0), (2, .int (nI a)), (3, .int wa), (4, .int wb), (5, .int wc), (6, .int wd)]) hx hb dX1_lay_68 hl (k := 1) rfl (nI_1 i) (by decide) rfl (fun ls hl => ?_)
        refine lv_goto (tgt := 3) hx hb dX1_lay_71 (by decide) ?_
        exact ih (i + 1) (by omega) H locs ls hP hD hS (lv_sub hl [0, 2, 3, 4, 5, 6, 7, 8] rfl)
      refine lv_iload hx hb dX1_lay_3 (lv_at hl 0 rfl) ?_
      refine lv_bipush (v := nI 16) hx hb dX1_lay_5 (by decide) ?_
      refine lv_icmp_ge (tgt := 74) hx hb dX1_lay_7 (by decide) (fun c1 => absurd ((nI_leI (by decide) (by omega)).mp c1) (by omega)) (fun _ => ?_)
      refine lv_iload hx hb dX1_lay_10 (lv_at hl 0 rfl) ?_
      refine lv_iconst (v := nI 4) hx hb dX1_lay_12 (by decide) ?_
      refine lv_icmp_ge (tgt := 20) hx hb dX1_lay_13 (by decide) (fun c1 => ?_) (fun c1 => ?_)
      · have c1 := (nI_leI (by decide) (by omega)).mp c1
        refine lv_iload hx hb dX1_lay_20 (lv_at hl 0 rfl) ?_
        refine lv_bipush (v := nI 8) hx hb dX1_lay_22 (by decide) ?_
        refine lv_icmp_ge (tgt := 32) hx hb dX1_lay_24 (by decide) (fun c2 => ?_) (fun c2 => ?_)
        · have c2 := (nI_leI (by decide) (by omega)).mp c2
          refine lv_iload hx hb dX1_lay_32 (lv_at hl 0 rfl) ?_
          refine lv_bipush (v := nI 12) hx hb dX1_lay_34 (by decide) ?_
          refine lv_icmp_ge (tgt := 44) hx hb dX1_lay_36 (by decide) (fun c3 => ?_) (fun c3 => ?_)
          · have c3 := (nI_leI (by decide) (by omega)).mp c3
            refine lv_iload hx hb dX1_lay_44 (lv_at hl 7 rfl) ?_
            exact tail wd (by unfold wSel; rw [if_neg (by omega), if_neg (by omega), if_neg (by omega)])
          · have c3 : ¬ 12 ≤ i := fun z => c3 ((nI_leI (by decide) (by omega)).mpr z)
            refine lv_iload hx hb dX1_lay_39 (lv_at hl 6 rfl) ?_
            refine lv_goto (tgt := 46) hx hb dX1_lay_41 (by decide) ?_
            exact tail wc (by unfold wSel; rw [if_neg (by omega), if_neg (by omega), if_pos (by omega)])
        · have c2 : ¬ 8 ≤ i := fun z => c2 ((nI_leI (by decide) (by omega)).mpr z)
          refine lv_iload hx hb dX1_lay_27 (lv_at hl 5 rfl) ?_
          refine lv_goto (tgt := 46) hx hb dX1_lay_29 (by decide) ?_
          exact tail wb (by unfold wSel; rw [if_neg (by omega), if_pos (by omega)])
      · have c1 : ¬ 4 ≤ i := fun z => c1 ((nI_leI (by decide) (by omega)).mpr z)
        refine lv_iload_n hx hb dX1_lay_16 rfl (lv_at hl 4 rfl) ?_
        refine lv_goto (tgt := 46) hx hb dX1_lay_17 (by decide) ?_
        exact tail wa (by unfold wSel; rw [if_pos (by omega)])
  refine lv_iconst (v := nI 0) hx hb dX1_lay_0 (by decide) ?_
  refine lv_istore (lv' := [(7, .int (nI 0)), (0, .ref o), (1, .ref h0), (2, .int (nI a)), (3, .int wa), (4, .int wb), (5, .int wc), (6, .int wd)]) hx hb dX1_lay_1 hl (by decide) rfl (fun ls hl => ?_)
  exact loop 16 0 rfl s.heap [] ls hP hD hS hl
set_option maxHeartbeats 4000000 in
set_option maxRecDepth 100000 in
/-- wide of the reference -/
theorem metX1_wide (l : Launch) (D : va_G) (dB dN : ClassId) (o mw mz mo mr : Nat) (g : Nat → Nat) (part wa wb wc wd : Int32) : Met l yX1_wide (ws_ yX1_wide cX1_wide 6 none) ({ frames := 1, cells := 0, slots := 0, locals := 28 }) (PcH D dB dN [.ref o, .int part, .int wa, .int wb, .int wc, .int wd] [(o, mX mw mz mo mr), (mw, .inl (dN, 64, .inl (nf g)))]) (Qs mw (vp_cell dN (64, .inl (nf (lyD g (16 * (uI part % 4)) wa wb wc wd 16)))) (.returned none)) 0 0 (fun z => z = mw) := by
  refine Met.ofW (cc := cX1_wide) (maxL := 6) (ret := none) (by decide) rfl ?_
  intro p e s m args below meth c s₁ B hml hv
  obtain ⟨rfl, hP, hK, hD0⟩ := hv
  have hx := B.exec
  have hb := B.bytes
  have hr := B.returns
  have hts := atoms_spec (ws := ws_ yX1_wide cX1_wide 6 _) B.pre
  have hts : ∀ w ∈ lw_all, w.before _ s = true := fun w h => hts w (List.mem_cons_of_mem _ h)
  have hown : s.vm.findClass RX1 = some m.cls := findClass_of_methodNamed B.named
  have hlocks := B.notSynchronized
  have hl := lv_entry ([.ref o, .int part, .int wa, .int wb, .int wc, .int wd]) (n := 6) (Nat.le_of_ble_eq_true rfl)
  rw [lg_entry_eq]
  generalize (lg_sl ([.ref o, .int part, .int wa, .int wb, .int wc, .int wd]) ++ List.replicate (6 - (lg_sl ([.ref o, .int part, .int wa, .int wb, .int wc, .int wd])).length) Slot.unset).toArray = ls at hl ⊢
  have hl : lv_has ls 6 [(0, .ref o), (1, .int part), (2, .int wa), (3, .int wb), (4, .int wc), (5, .int wd)] := hl
  have hS : va_S (fun z => z = mw) s.heap s.heap [] := va_S.rf
  have hR : va_P D vwCl [(o, mX mw mz mo mr)] s.heap := hP.sub [0] rfl
  have hP : va_P D vwCl [(mw, .inl (dN, 64, .inl (nf g)))] s.heap := hP.sub [1] rfl
  have hD : va_D (fun z => z = mw) [(mw, .inl (dN, 64, .inl (nf g)))] := va_D.to1 (hD0.sub [1] (by decide) rfl) rfl
  have hq : uI part % 4 < 4 := Nat.mod_lt _ (by decide)
  refine lv_aload_n hx hb dX1_wide_0 rfl (lv_at hl 0 rfl) ?_
  refine lv_aload_n hx hb dX1_wide_1 rfl (lv_at hl 0 rfl) ?_
  refine va_get (D := D) (ci := 1) (v := .ref mw) (C := RX1) (T := TX1) (N := 4) hx hb hts in_X1 hown hK hR 0 rfl rfl 0 (by decide) (hts _ q118) (fun _ h9 => h9) rfl dX1_wide_2 ?_
  refine lv_iload_n hx hb dX1_wide_5 rfl (lv_at hl 1 rfl) ?_
  refine lv_iconst (v := 3) hx hb dX1_wide_6 (by decide) ?_
  refine lv_iand hx hb dX1_wide_7 ?_
  refine wt_i (y := nI (uI part % 4)) (and3 part) ?_
  refine lv_bipush (v := nI 16) hx hb dX1_wide_8 (by decide) ?_
  refine lv_imul hx hb dX1_wide_10 ?_
  refine wt_i (y := nI (16 * (uI part % 4))) ((pk_mul _ _).trans (congrArg nI (Nat.mul_comm _ _))) ?_
  refine lv_iload_n hx hb dX1_wide_11 rfl (lv_at hl 2 rfl) ?_
  refine lv_iload_n hx hb dX1_wide_12 rfl (lv_at hl 3 rfl) ?_
  refine lv_iload hx hb dX1_wide_13 (lv_at hl 4 rfl) ?_
  refine lv_iload hx hb dX1_wide_15 (lv_at hl 5 rfl) ?_
  refine wc_set (k0 := 0) (W.runV (As := [.ref mw, .int (nI (16 * (uI part % 4))), .int wa, .int wb, .int wc, .int wd]) (rest := []) ⟨hx, hb, hml, hown, hts⟩ (metX1_lay l D dB dN o mw g (16 * (uI part % 4)) wa wb wc wd (by omega)) (cwV 6 hts (lw_V q135 q137 qs0 q4 q138) rfl rfl rfl (by decide +kernel) ⟨Nat.le_of_ble_eq_true rfl, Nat.le_of_ble_eq_true rfl⟩) (PcH.preV RX1 0 1 rfl rfl rfl hR hP hK hD) rfl rfl hl.1 rfl (lv_room (Nat.le_of_ble_eq_true rfl)) dX1_wide_17 ⟨Nat.le_refl _, Nat.le_refl _⟩) hP hD hS rfl (fun x h => h) (fun H locs hP hD hS => ?_)
  exact W.vret hx hb hr (fun t ht hW => ⟨rfl, by rw [ht]; exact hP 0 _ rfl, by rw [ht]; exact hS.1, fun x h1 h2 => by rw [ht]; exact hS.2.1 x h1 h2⟩) hS.2.2 dX1_wide_20
set_option maxHeartbeats 4000000 in
set_option maxRecDepth 100000 in
/-- answer of the reference -/
theorem metX1_answer (l : Launch) (D : va_G) (dB dN : ClassId) (o mw mz mo mr : Nat) (z : Nat → Nat) (at_ : Int32) : Met l yX1_answer (ws_ yX1_answer cX1_answer 2 (some .int)) ({ frames := 0, cells := 0, slots := 0, locals := 0 }) (PcH D dB dN [.ref o, .int at_] [(o, mX mw mz mo mr), (mz, .inl (dN, 32, .inl (nf z)))]) (QcRead (nI (z (uI at_ % 32)))) 0 0 (fun _ => False) := by
  refine Met.ofW (cc := cX1_answer) (maxL := 2) (ret := (some .int)) (by decide) rfl ?_
  intro p e s m args below meth c s₁ B hml hv
  obtain ⟨rfl, hP, hK, hD0⟩ := hv
  have hx := B.exec
  have hb := B.bytes
  have hr := B.returns
  have hts := atoms_spec (ws := ws_ yX1_answer cX1_answer 2 _) B.pre
  have hts : ∀ w ∈ lw_all, w.before _ s = true := fun w h => hts w (List.mem_cons_of_mem _ h)
  have hown : s.vm.findClass RX1 = some m.cls := findClass_of_methodNamed B.named
  have hlocks := B.notSynchronized
  have hl := lv_entry ([.ref o, .int at_]) (n := 2) (Nat.le_of_ble_eq_true rfl)
  rw [lg_entry_eq]
  generalize (lg_sl ([.ref o, .int at_]) ++ List.replicate (2 - (lg_sl ([.ref o, .int at_])).length) Slot.unset).toArray = ls at hl ⊢
  have hl : lv_has ls 2 [(0, .ref o), (1, .int at_)] := hl
  have hR := hP
  have hq : uI at_ % 32 < 32 := Nat.mod_lt _ (by decide)
  refine lv_aload_n hx hb dX1_answer_0 rfl (lv_at hl 0 rfl) ?_
  refine va_get (D := D) (ci := 1) (v := .ref mz) (C := RX1) (T := TX1) (N := 4) hx hb hts in_X1 hown hK hR 0 rfl rfl 1 (by decide) (hts _ q119) (fun _ h9 => h9) rfl dX1_answer_1 ?_
  refine lv_iload_n hx hb dX1_answer_4 rfl (lv_at hl 1 rfl) ?_
  refine lv_bipush (v := 31) hx hb dX1_answer_5 (by decide) ?_
  refine lv_iand hx hb dX1_answer_7 ?_
  refine wt_i (y := nI (uI at_ % 32)) (and31 at_) ?_
  refine va_iald hx hb hK hP 1 1 rfl rfl (vin (by omega) (by decide)) dX1_answer_8 ?_
  refine wt_i (y := nI (z (uI at_ % 32))) (congrArg (nf z) (ncl (by omega))) ?_
  exact W.iret (v := nI (z (uI at_ % 32))) hx hb hr (fun t ht hW => ⟨rfl, ht⟩) (fun q h => by cases h) dX1_answer_9
set_option maxHeartbeats 4000000 in
set_option maxRecDepth 100000 in
/-- proper of the reference, of g -/
theorem metX1_proper0 (l : Launch) (D : va_G) (dB dN : ClassId) (o mw mz mo mr : Nat) (g z : Nat → Nat) (which : Int32) (hsrc : ∀ j, j < 32 → g j < 256) (hpar : uI which % 2 = 0) : Met l yX1_proper (ws_ yX1_proper cX1_proper 4 (some .boolean)) ({ frames := 0, cells := 0, slots := 0, locals := 0 }) (PcH D dB dN [.ref o, .int which] [(o, mX mw mz mo mr), (mw, .inl (dN, 64, .inl (nf g))), (mz, .inl (dN, 32, .inl (nf z))), (mo, .inl (dN, 32, .inl (nf oD)))]) (QcRead (nI (if num 32 g < nL then 1 else 0))) 0 0 (fun _ => False) := by
  refine Met.ofW (cc := cX1_proper) (maxL := 4) (ret := (some .boolean)) (by decide) rfl ?_
  intro p e s m args below meth c s₁ B hml hv
  obtain ⟨rfl, hP, hK, hD0⟩ := hv
  have hx := B.exec
  have hb := B.bytes
  have hr := B.returns
  have hts := atoms_spec (ws := ws_ yX1_proper cX1_proper 4 _) B.pre
  have hts : ∀ w ∈ lw_all, w.before _ s = true := fun w h => hts w (List.mem_cons_of_mem _ h)
  have hown : s.vm.findClass RX1 = some m.cls := findClass_of_methodNamed B.named
  have hlocks := B.notSynchronized
  have hl := lv_entry ([.ref o, .int which]) (n := 4) (Nat.le_of_ble_eq_true rfl)
  rw [lg_entry_eq]
  generalize (lg_sl ([.ref o, .int which]) ++ List.replicate (4 - (lg_sl ([.ref o, .int which])).length) Slot.unset).toArray = ls at hl ⊢
  have hl : lv_has ls 4 [(0, .ref o), (1, .int which)] := hl
  have hR := hP
  have ho : ∀ j, oD j < 256 := oD_lt
  have fin : ∀ (k : Nat) (ls : Array Slot), k < 32 → (∀ j, k < j → j < 32 → g j = oD j) → (k = 0 ∨ g k ≠ oD k) → lv_has ls 4 [(3, .int (nI k)), (2, .int (nI 0)), (0, .ref o), (1, .int which)] → W p l e (headSpec (ws_ yX1_proper cX1_proper 4 (some .boolean)) ({ frames := 0, cells := 0, slots := 0, locals := 0 })).room s m ([.ref o, .int which] : List Value).toArray below meth c s.heap [] 0 0 (MQ below (QcRead (nI (if num 32 g < nL then 1 else 0))) ([.ref o, .int which] : List Value).toArray s 0 0 (fun _ => False)) (F0 m 54 ls []) := by
    intro k ls hk he h0 hl
    have hc := cmp_res hsrc hk he h0
    have hs1 := hsrc k hk
    have ho1 := ho k
    refine lv_iload_n hx hb dX1_proper_54 rfl (lv_at hl 1 rfl) ?_
    refine lv_if_eq (tgt := 67) hx hb dX1_proper_55 (by decide) (fun _ => ?_) (fun c1 => absurd (show nI 0 = 0 from rfl) c1)
    refine lv_aload_n hx hb dX1_proper_67 rfl (lv_at hl 2 rfl) ?_
    refine va_get (D := D) (ci := 1) (v := .ref mw) (C := RX1) (T := TX1) (N := 4) hx hb hts in_X1 hown hK hR 0 rfl rfl 0 (by decide) (hts _ q118) (fun _ h9 => h9) rfl dX1_proper_68 ?_
    refine lv_iload_n hx hb dX1_proper_71 rfl (lv_at hl 0 rfl) ?_
    refine va_iald hx hb hK hR 1 1 rfl rfl (vin (by omega) (by decide)) dX1_proper_72 ?_
    refine wt_i (y := nI (g k)) (congrArg (nf g) (ncl (by omega))) ?_
    refine lv_aload_n hx hb dX1_proper_73 rfl (lv_at hl 2 rfl) ?_
    refine va_get (D := D) (ci := 1) (v := .ref mo) (C := RX1) (T := TX1) (N := 4) hx hb hts in_X1 hown hK hR 0 rfl rfl 2 (by decide) (hts _ q120) (fun _ h9 => h9) rfl dX1_proper_74 ?_
    refine lv_iload_n hx hb dX1_proper_77 rfl (lv_at hl 0 rfl) ?_
    refine va_iald hx hb hK hR 3 1 rfl rfl (vin (by omega) (by decide)) dX1_proper_78 ?_
    refine wt_i (y := nI (oD k)) (congrArg (nf oD) (ncl (by omega))) ?_
    refine lv_icmp_ge (tgt := 86) hx hb dX1_proper_79 (by decide) (fun c1 => ?_) (fun c1 => ?_)
    · have c1 := (nI_leI (by omega) (by omega)).mp c1
      refine lv_iconst (v := 0) hx hb dX1_proper_86 (by decide) ?_
      exact W.zret (v := 0) hx hb hr rfl (fun t ht hW => ⟨by rw [if_neg (fun z => absurd (hc.mpr z) (Nat.not_lt.mpr c1))]; rfl, ht⟩) (fun q h => by cases h) dX1_proper_87
    · have c1 : ¬ oD k ≤ g k := fun z => c1 ((nI_leI (by omega) (by omega)).mpr z)
      refine lv_iconst (v := 1) hx hb dX1_proper_82 (by decide) ?_
      refine lv_goto (tgt := 87) hx hb dX1_proper_83 (by decide) ?_
      exact W.zret (v := 1) hx hb hr rfl (fun t ht hW => ⟨by rw [if_pos (hc.mp (Nat.not_le.mp c1))]; rfl, ht⟩) (fun q h => by cases h) dX1_proper_87
  have loop : ∀ (k : Nat) (ls : Array Slot), k < 32 → (∀ j, k < j → j < 32 → g j = oD j) → lv_has ls 4 [(3, .int (nI k)), (2, .int (nI 0)), (0, .ref o), (1, .int which)] → W p l e (headSpec (ws_ yX1_proper cX1_proper 4 (some .boolean)) ({ frames := 0, cells := 0, slots := 0, locals := 0 })).room s m ([.ref o, .int which] : List Value).toArray below meth c s.heap [] 0 0 (MQ below (QcRead (nI (if num 32 g < nL then 1 else 0))) ([.ref o, .int which] : List Value).toArray s 0 0 (fun _ => False)) (F0 m 15 ls []) := by
    intro k
    induction k with
    | zero =>
      intro ls hk he hl
      refine lv_iload_n hx hb dX1_proper_15 rfl (lv_at hl 0 rfl) ?_
      refine lv_if_le (tgt := 54) hx hb dX1_proper_16 (by decide) (fun _ => ?_) (fun c1 => absurd (by decide +kernel) c1)
      exact fin 0 ls hk he (Or.inl rfl) hl
    | succ k ih =>
      intro ls hk he hl
      have hs1 := hsrc (k + 1) hk
      have ho1 := ho (k + 1)
      refine lv_iload_n hx hb dX1_proper_15 rfl (lv_at hl 0 rfl) ?_
      refine lv_if_le (tgt := 54) hx hb dX1_proper_16 (by decide) (fun c1 => absurd c1 (nI_nle (by omega) (by omega))) (fun _ => ?_)
      refine lv_iload_n hx hb dX1_proper_19 rfl (lv_at hl 1 rfl) ?_
      refine lv_if_eq (tgt := 32) hx hb dX1_proper_20 (by decide) (fun _ => ?_) (fun c1 => absurd (show nI 0 = 0 from rfl) c1)
      refine lv_aload_n hx hb dX1_proper_32 rfl (lv_at hl 2 rfl) ?_
      refine va_get (D := D) (ci := 1) (v := .ref mw) (C := RX1) (T := TX1) (N := 4) hx hb hts in_X1 hown hK hR 0 rfl rfl 0 (by decide) (hts _ q118) (fun _ h9 => h9) rfl dX1_proper_33 ?_
      refine lv_iload_n hx hb dX1_proper_36 rfl (lv_at hl 0 rfl) ?_
      refine va_iald hx hb hK hR 1 1 rfl rfl (vin (by omega) (by decide)) dX1_proper_37 ?_
      refine wt_i (y := nI (g (k + 1))) (congrArg (nf g) (ncl (by omega))) ?_
      refine lv_aload_n hx hb dX1_proper_38 rfl (lv_at hl 2 rfl) ?_
      refine va_get (D := D) (ci := 1) (v := .ref mo) (C := RX1) (T := TX1) (N := 4) hx hb hts in_X1 hown hK hR 0 rfl rfl 2 (by decide) (hts _ q120) (fun _ h9 => h9) rfl dX1_proper_39 ?_
      refine lv_iload_n hx hb dX1_proper_42 rfl (lv_at hl 0 rfl) ?_
      refine va_iald hx hb hK hR 3 1 rfl rfl (vin (by omega) (by decide)) dX1_proper_43 ?_
      refine wt_i (y := nI (oD (k + 1))) (congrArg (nf oD) (ncl (by omega))) ?_
      refine lv_icmp_ne (tgt := 54) hx hb dX1_proper_44 (by decide) (fun c1 => ?_) (fun c1 => ?_)
      · exact fin (k + 1) ls hk he (Or.inr (fun z => c1 (by rw [z]))) hl
      · have c1 : g (k + 1) = oD (k + 1) := (nI_eq (by omega) (by omega)).mp c1
        refine lv_iload_n hx hb dX1_proper_47 rfl (lv_at hl 0 rfl) ?_
        refine lv_iconst (v := 1) hx hb dX1_proper_48 (by decide) ?_
        refine lv_isub hx hb dX1_proper_49 ?_
        refine wt_i (y := nI k) (nI_pred k) ?_
        refine lv_istore_n (lv' := [(3, .int (nI k)), (2, .int (nI 0)), (0, .ref o), (1, .int which)]) hx hb dX1_proper_50 rfl hl (by decide) rfl (fun ls hl => ?_)
        refine lv_goto (tgt := 15) hx hb dX1_proper_51 (by decide) ?_
        exact ih ls (by omega) (fun j h1 h2 => by
          rcases Nat.lt_or_ge (k + 1) j with q | q
          · exact he j q h2
          · rw [show j = k + 1 by omega]; exact c1) hl
  refine lv_iload_n hx hb dX1_proper_0 rfl (lv_at hl 1 rfl) ?_
  refine lv_iconst (v := 1) hx hb dX1_proper_1 (by decide) ?_
  refine lv_iand hx hb dX1_proper_2 ?_
  refine wt_i (y := nI 0) (by rw [and1, hpar]) ?_
  refine lv_if_eq (tgt := 10) hx hb dX1_proper_3 (by decide) (fun _ => ?_) (fun c1 => absurd (show nI 0 = 0 from rfl) c1)
  refine lv_iconst (v := nI 0) hx hb dX1_proper_10 (by decide) ?_
  refine lv_istore_n (lv' := [(2, .int (nI 0)), (0, .ref o), (1, .int which)]) hx hb dX1_proper_11 rfl hl (by decide) rfl (fun ls hl => ?_)
  refine lv_bipush (v := nI 31) hx hb dX1_proper_12 (by decide) ?_
  refine lv_istore_n (lv' := [(3, .int (nI 31)), (2, .int (nI 0)), (0, .ref o), (1, .int which)]) hx hb dX1_proper_14 rfl hl (by decide) rfl (fun ls hl => ?_)
  exact loop 31 ls (by decide) (fun j h1 h2 => by omega) hl
set_option maxHeartbeats 4000000 in
set_option maxRecDepth 100000 in
/-- proper of the reference, of z -/
theorem metX1_proper1 (l : Launch) (D : va_G) (dB dN : ClassId) (o mw mz mo mr : Nat) (g z : Nat → Nat) (which : Int32) (hsrc : ∀ j, j < 32 → z j < 256) (hpar : uI which % 2 = 1) : Met l yX1_proper (ws_ yX1_proper cX1_proper 4 (some .boolean)) ({ frames := 0, cells := 0, slots := 0, locals := 0 }) (PcH D dB dN [.ref o, .int which] [(o, mX mw mz mo mr), (mw, .inl (dN, 64, .inl (nf g))), (mz, .inl (dN, 32, .inl (nf z))), (mo, .inl (dN, 32, .inl (nf oD)))]) (QcRead (nI (if num 32 z < nL then 1 else 0))) 0 0 (fun _ => False) := by
  refine Met.ofW (cc := cX1_proper) (maxL := 4) (ret := (some .boolean)) (by decide) rfl ?_
  intro p e s m args below meth c s₁ B hml hv
  obtain ⟨rfl, hP, hK, hD0⟩ := hv
  have hx := B.exec
  have hb := B.bytes
  have hr := B.returns
  have hts := atoms_spec (ws := ws_ yX1_proper cX1_proper 4 _) B.pre
  have hts : ∀ w ∈ lw_all, w.before _ s = true := fun w h => hts w (List.mem_cons_of_mem _ h)
  have hown : s.vm.findClass RX1 = some m.cls := findClass_of_methodNamed B.named
  have hlocks := B.notSynchronized
  have hl := lv_entry ([.ref o, .int which]) (n := 4) (Nat.le_of_ble_eq_true rfl)
  rw [lg_entry_eq]
  generalize (lg_sl ([.ref o, .int which]) ++ List.replicate (4 - (lg_sl ([.ref o, .int which])).length) Slot.unset).toArray = ls at hl ⊢
  have hl : lv_has ls 4 [(0, .ref o), (1, .int which)] := hl
  have hR := hP
  have ho : ∀ j, oD j < 256 := oD_lt
  have fin : ∀ (k : Nat) (ls : Array Slot), k < 32 → (∀ j, k < j → j < 32 → z j = oD j) → (k = 0 ∨ z k ≠ oD k) → lv_has ls 4 [(3, .int (nI k)), (2, .int (nI 1)), (0, .ref o), (1, .int which)] → W p l e (headSpec (ws_ yX1_proper cX1_proper 4 (some .boolean)) ({ frames := 0, cells := 0, slots := 0, locals := 0 })).room s m ([.ref o, .int which] : List Value).toArray below meth c s.heap [] 0 0 (MQ below (QcRead (nI (if num 32 z < nL then 1 else 0))) ([.ref o, .int which] : List Value).toArray s 0 0 (fun _ => False)) (F0 m 54 ls []) := by
    intro k ls hk he h0 hl
    have hc := cmp_res hsrc hk he h0
    have hs1 := hsrc k hk
    have ho1 := ho k
    refine lv_iload_n hx hb dX1_proper_54 rfl (lv_at hl 1 rfl) ?_
    refine lv_if_eq (tgt := 67) hx hb dX1_proper_55 (by decide) (fun c1 => absurd c1 (by decide +kernel)) (fun _ => ?_)
    refine lv_aload_n hx hb dX1_proper_58 rfl (lv_at hl 2 rfl) ?_
    refine va_get (D := D) (ci := 1) (v := .ref mz) (C := RX1) (T := TX1) (N := 4) hx hb hts in_X1 hown hK hR 0 rfl rfl 1 (by decide) (hts _ q119) (fun _ h9 => h9) rfl dX1_proper_59 ?_
    refine lv_iload_n hx hb dX1_proper_62 rfl (lv_at hl 0 rfl) ?_
    refine va_iald hx hb hK hR 2 1 rfl rfl (vin (by omega) (by decide)) dX1_proper_63 ?_
    refine wt_i (y := nI (z k)) (congrArg (nf z) (ncl (by omega))) ?_
    refine lv_goto (tgt := 73) hx hb dX1_proper_64 (by decide) ?_
    refine lv_aload_n hx hb dX1_proper_73 rfl (lv_at hl 2 rfl) ?_
    refine va_get (D := D) (ci := 1) (v := .ref mo) (C := RX1) (T := TX1) (N := 4) hx hb hts in_X1 hown hK hR 0 rfl rfl 2 (by decide) (hts _ q120) (fun _ h9 => h9) rfl dX1_proper_74 ?_
    refine lv_iload_n hx hb dX1_proper_77 rfl (lv_at hl 0 rfl) ?_
    refine va_iald hx hb hK hR 3 1 rfl rfl (vin (by omega) (by decide)) dX1_proper_78 ?_
    refine wt_i (y := nI (oD k)) (congrArg (nf oD) (ncl (by omega))) ?_
    refine lv_icmp_ge (tgt := 86) hx hb dX1_proper_79 (by decide) (fun c1 => ?_) (fun c1 => ?_)
    · have c1 := (nI_leI (by omega) (by omega)).mp c1
      refine lv_iconst (v := 0) hx hb dX1_proper_86 (by decide) ?_
      exact W.zret (v := 0) hx hb hr rfl (fun t ht hW => ⟨by rw [if_neg (fun z => absurd (hc.mpr z) (Nat.not_lt.mpr c1))]; rfl, ht⟩) (fun q h => by cases h) dX1_proper_87
    · have c1 : ¬ oD k ≤ z k := fun z => c1 ((nI_leI (by omega) (by omega)).mpr z)
      refine lv_iconst (v := 1) hx hb dX1_proper_82 (by decide) ?_
      refine lv_goto (tgt := 87) hx hb dX1_proper_83 (by decide) ?_
      exact W.zret (v := 1) hx hb hr rfl (fun t ht hW => ⟨by rw [if_pos (hc.mp (Nat.not_le.mp c1))]; rfl, ht⟩) (fun q h => by cases h) dX1_proper_87
  have loop : ∀ (k : Nat) (ls : Array Slot), k < 32 → (∀ j, k < j → j < 32 → z j = oD j) → lv_has ls 4 [(3, .int (nI k)), (2, .int (nI 1)), (0, .ref o), (1, .int which)] → W p l e (headSpec (ws_ yX1_proper cX1_proper 4 (some .boolean)) ({ frames := 0, cells := 0, slots := 0, locals := 0 })).room s m ([.ref o, .int which] : List Value).toArray below meth c s.heap [] 0 0 (MQ below (QcRead (nI (if num 32 z < nL then 1 else 0))) ([.ref o, .int which] : List Value).toArray s 0 0 (fun _ => False)) (F0 m 15 ls []) := by
    intro k
    induction k with
    | zero =>
      intro ls hk he hl
      refine lv_iload_n hx hb dX1_proper_15 rfl (lv_at hl 0 rfl) ?_
      refine lv_if_le (tgt := 54) hx hb dX1_proper_16 (by decide) (fun _ => ?_) (fun c1 => absurd (by decide +kernel) c1)
      exact fin 0 ls hk he (Or.inl rfl) hl
    | succ k ih =>
      intro ls hk he hl
      have hs1 := hsrc (k + 1) hk
      have ho1 := ho (k + 1)
      refine lv_iload_n hx hb dX1_proper_15 rfl (lv_at hl 0 rfl) ?_
      refine lv_if_le (tgt := 54) hx hb dX1_proper_16 (by decide) (fun c1 => absurd c1 (nI_nle (by omega) (by omega))) (fun _ => ?_)
      refine lv_iload_n hx hb dX1_proper_19 rfl (lv_at hl 1 rfl) ?_
      refine lv_if_eq (tgt := 32) hx hb dX1_proper_20 (by decide) (fun c1 => absurd c1 (by decide +kernel)) (fun _ => ?_)
      refine lv_aload_n hx hb dX1_proper_23 rfl (lv_at hl 2 rfl) ?_
      refine va_get (D := D) (ci := 1) (v := .ref mz) (C := RX1) (T := TX1) (N := 4) hx hb hts in_X1 hown hK hR 0 rfl rfl 1 (by decide) (hts _ q119) (fun _ h9 => h9) rfl dX1_proper_24 ?_
      refine lv_iload_n hx hb dX1_proper_27 rfl (lv_at hl 0 rfl) ?_
      refine va_iald hx hb hK hR 2 1 rfl rfl (vin (by omega) (by decide)) dX1_proper_28 ?_
      refine wt_i (y := nI (z (k + 1))) (congrArg (nf z) (ncl (by omega))) ?_
      refine lv_goto (tgt := 38) hx hb dX1_proper_29 (by decide) ?_
      refine lv_aload_n hx hb dX1_proper_38 rfl (lv_at hl 2 rfl) ?_
      refine va_get (D := D) (ci := 1) (v := .ref mo) (C := RX1) (T := TX1) (N := 4) hx hb hts in_X1 hown hK hR 0 rfl rfl 2 (by decide) (hts _ q120) (fun _ h9 => h9) rfl dX1_proper_39 ?_
      refine lv_iload_n hx hb dX1_proper_42 rfl (lv_at hl 0 rfl) ?_
      refine va_iald hx hb hK hR 3 1 rfl rfl (vin (by omega) (by decide)) dX1_proper_43 ?_
      refine wt_i (y := nI (oD (k + 1))) (congrArg (nf oD) (ncl (by omega))) ?_
      refine lv_icmp_ne (tgt := 54) hx hb dX1_proper_44 (by decide) (fun c1 => ?_) (fun c1 => ?_)
      · exact fin (k + 1) ls hk he (Or.inr (fun z => c1 (by rw [z]))) hl
      · have c1 : z (k + 1) = oD (k + 1) := (nI_eq (by omega) (by omega)).mp c1
        refine lv_iload_n hx hb dX1_proper_47 rfl (lv_at hl 0 rfl) ?_
        refine lv_iconst (v := 1) hx hb dX1_proper_48 (by decide) ?_
        refine lv_isub hx hb dX1_proper_49 ?_
        refine wt_i (y := nI k) (nI_pred k) ?_
        refine lv_istore_n (lv' := [(3, .int (nI k)), (2, .int (nI 1)), (0, .ref o), (1, .int which)]) hx hb dX1_proper_50 rfl hl (by decide) rfl (fun ls hl => ?_)
        refine lv_goto (tgt := 15) hx hb dX1_proper_51 (by decide) ?_
        exact ih ls (by omega) (fun j h1 h2 => by
          rcases Nat.lt_or_ge (k + 1) j with q | q
          · exact he j q h2
          · rw [show j = k + 1 by omega]; exact c1) hl
  refine lv_iload_n hx hb dX1_proper_0 rfl (lv_at hl 1 rfl) ?_
  refine lv_iconst (v := 1) hx hb dX1_proper_1 (by decide) ?_
  refine lv_iand hx hb dX1_proper_2 ?_
  refine wt_i (y := nI 1) (by rw [and1, hpar]) ?_
  refine lv_if_eq (tgt := 10) hx hb dX1_proper_3 (by decide) (fun c1 => absurd c1 (by decide +kernel)) (fun _ => ?_)
  refine lv_iconst (v := nI 1) hx hb dX1_proper_6 (by decide) ?_
  refine lv_goto (tgt := 11) hx hb dX1_proper_7 (by decide) ?_
  refine lv_istore_n (lv' := [(2, .int (nI 1)), (0, .ref o), (1, .int which)]) hx hb dX1_proper_11 rfl hl (by decide) rfl (fun ls hl => ?_)
  refine lv_bipush (v := nI 31) hx hb dX1_proper_12 (by decide) ?_
  refine lv_istore_n (lv' := [(3, .int (nI 31)), (2, .int (nI 1)), (0, .ref o), (1, .int which)]) hx hb dX1_proper_14 rfl hl (by decide) rfl (fun ls hl => ?_)
  exact loop 31 ls (by decide) (fun j h1 h2 => by omega) hl
set_option maxHeartbeats 4000000 in
set_option maxRecDepth 100000 in
/-- WideScalarsModel(): its arrays -/
theorem metX1_init (l : Launch) (D : va_G) (dB dN : ClassId) (o sz : Nat) : Met l yX1_init (ws_ yX1_init cX1_init 1 none) ({ frames := 1, cells := 4, slots := 161, locals := 12 }) (PcZ D dB dN [.ref o] [(o, .inr (1, [.null, .null, .null, .null]))] sz) (QW D (va_A [(o, .inr (1, [.null, .null, .null, .null]))] sz) (fun w1 => ∃ mw mz mo mr : Nat, w1 = [(o, mX mw mz mo mr), (mw, .inl (dN, 64, .inl (nf (fun _ => 0)))), (mz, .inl (dN, 32, .inl (nf (fun _ => 0)))), (mo, .inl (dN, 32, .inl (nf oD))), (mr, .inl (dN, 33, .inl (nf (fun _ => 0))))])) 4 161 (va_A [(o, .inr (1, [.null, .null, .null, .null]))] sz) := by
  refine Met.ofW (cc := cX1_init) (maxL := 1) (ret := none) (by decide) rfl ?_
  intro p e s m args below meth c s₁ B hml hv
  obtain ⟨rfl, hsz, hP, hK, hD0⟩ := hv
  have hx := B.exec
  have hb := B.bytes
  have hr := B.returns
  have hts := atoms_spec (ws := ws_ yX1_init cX1_init 1 _) B.pre
  have hts : ∀ w ∈ lw_all, w.before _ s = true := fun w h => hts w (List.mem_cons_of_mem _ h)
  have hown : s.vm.findClass RX1 = some m.cls := findClass_of_methodNamed B.named
  have hlocks := B.notSynchronized
  have hl := lv_entry ([.ref o]) (n := 1) (Nat.le_of_ble_eq_true rfl)
  rw [lg_entry_eq]
  generalize (lg_sl ([.ref o]) ++ List.replicate (1 - (lg_sl ([.ref o])).length) Slot.unset).toArray = ls at hl ⊢
  have hl : lv_has ls 1 [(0, .ref o)] := hl
  subst hsz
  have hin : meth.name = "<init>" := (name_of_methodNamed B.named B.method).1
  have hD := hD0.self (sz := s.heap.size)
  generalize hAe : va_A [(o, .inr (1, [.null, .null, .null, .null]))] s.heap.size = A at hD ⊢
  have hA : ∀ q : Nat, s.heap.size ≤ q → A q := fun q h => by rw [← hAe]; exact Or.inr h
  have hS : va_S A s.heap s.heap [] := va_S.rf
  refine lv_aload_n hx hb dX1_init_0 rfl (lv_at hl 0 rfl) ?_
  refine W.objInit hx hb hown (hts _ q117) (hts _ q14) (hts _ q15) rfl (by rw [hml]; exact hl.1) rfl dX1_init_1 (Nat.le_of_ble_eq_true rfl) (Nat.le_of_ble_eq_true rfl) ?_
  refine W.eq (g2 := F0 m 4 ls []) rfl ?_
  refine lv_aload_n hx hb dX1_init_4 rfl (lv_at hl 0 rfl) ?_
  refine lv_bipush (v := nI 64) hx hb dX1_init_5 (by decide) ?_
  refine va_newa (atype := .int) (ty := .int) (N' := 64) (a0 := (64, .inl (nf (fun _ => 0)))) hx hb (hts _ q39) rfl hK hP hD hS hA (fun cA => rfl) (by decide) (by decide) (Nat.le_of_ble_eq_true rfl) (Nat.le_of_ble_eq_true rfl) (Nat.le_of_ble_eq_true rfl) dX1_init_7 (fun a0 cA H hK2 hP hD hS => ?_)
  have ecA : dN = cA := hK2.oneI (i := 1) (j := 2) rfl rfl
  subst ecA
  refine W.cs (cells' := 1) (slots' := 64) rfl rfl ?_
  refine va_putF (D := D) (ci := 1) (v := .ref a0) (ty := .array .int) (C := RX1) (T := TX1) (N := 4) hx hb hts in_X1 tyX1 tyX1_ok nmX1 hown hK hP hD hS 0 rfl rfl 0 (by decide) (hts _ q118) (fun _ h9 => h9) rfl hin rfl (by decide +kernel) rfl rfl (Nat.le_of_ble_eq_true rfl) dX1_init_9 (fun H locs hP hD hS => ?_)
  have hP : va_P D vwCl [(o, .inr (1, [.ref a0, .null, .null, .null])), (a0, .inl (dN, 64, .inl (nf (fun _ => 0))))] H := hP
  have hD : va_D A [(o, .inr (1, [.ref a0, .null, .null, .null])), (a0, .inl (dN, 64, .inl (nf (fun _ => 0))))] := hD
  refine W.eq (g2 := F0 m 12 ls []) rfl ?_
  refine lv_aload_n hx hb dX1_init_12 rfl (lv_at hl 0 rfl) ?_
  refine lv_bipush (v := nI 32) hx hb dX1_init_13 (by decide) ?_
  refine va_newa (atype := .int) (ty := .int) (N' := 32) (a0 := (32, .inl (nf (fun _ => 0)))) hx hb (hts _ q39) rfl hK hP hD hS hA (fun cA => rfl) (by decide) (by decide) (Nat.le_of_ble_eq_true rfl) (Nat.le_of_ble_eq_true rfl) (Nat.le_of_ble_eq_true rfl) dX1_init_15 (fun a1 cA H hK2 hP hD hS => ?_)
  have ecA : dN = cA := hK2.oneI (i := 1) (j := 2) rfl rfl
  subst ecA
  refine W.cs (cells' := 2) (slots' := 96) rfl rfl ?_
  refine va_putF (D := D) (ci := 1) (v := .ref a1) (ty := .array .int) (C := RX1) (T := TX1) (N := 4) hx hb hts in_X1 tyX1 tyX1_ok nmX1 hown hK hP hD hS 0 rfl rfl 1 (by decide) (hts _ q119) (fun _ h9 => h9) rfl hin rfl (by decide +kernel) rfl rfl (Nat.le_of_ble_eq_true rfl) dX1_init_17 (fun H locs hP hD hS => ?_)
  have hP : va_P D vwCl [(o, .inr (1, [.ref a0, .ref a1, .null, .null])), (a0, .inl (dN, 64, .inl (nf (fun _ => 0)))), (a1, .inl (dN, 32, .inl (nf (fun _ => 0))))] H := hP
  have hD : va_D A [(o, .inr (1, [.ref a0, .ref a1, .null, .null])), (a0, .inl (dN, 64, .inl (nf (fun _ => 0)))), (a1, .inl (dN, 32, .inl (nf (fun _ => 0))))] := hD
  refine W.eq (g2 := F0 m 20 ls []) rfl ?_
  refine lv_aload_n hx hb dX1_init_20 rfl (lv_at hl 0 rfl) ?_
  refine lv_bipush (v := nI 32) hx hb dX1_init_21 (by decide) ?_
  refine va_newa (atype := .int) (ty := .int) (N' := 32) (a0 := (32, .inl (nf (fun _ => 0)))) hx hb (hts _ q39) rfl hK hP hD hS hA (fun cA => rfl) (by decide) (by decide) (Nat.le_of_ble_eq_true rfl) (Nat.le_of_ble_eq_true rfl) (Nat.le_of_ble_eq_true rfl) dX1_init_23 (fun a2 cA H hK2 hP hD hS => ?_)
  have ecA : dN = cA := hK2.oneI (i := 1) (j := 2) rfl rfl
  subst ecA
  refine W.cs (cells' := 3) (slots' := 128) rfl rfl ?_
  refine lv_dup hx hb dX1_init_25 rfl ?_
  refine lv_iconst (v := nI 0) hx hb dX1_init_26 (by decide) ?_
  refine lv_sipush (v := nI 237) hx hb dX1_init_27 (by decide) ?_
  have hP : va_P D vwCl [(o, .inr (1, [.ref a0, .ref a1, .null, .null])), (a0, .inl (dN, 64, .inl (nf (fun _ => 0)))), (a1, .inl (dN, 32, .inl (nf (fun _ => 0)))), (a2, .inl (dN, 32, .inl (nf (oS 0))))] H := hP
  have hD : va_D A [(o, .inr (1, [.ref a0, .ref a1, .null, .null])), (a0, .inl (dN, 64, .inl (nf (fun _ => 0)))), (a1, .inl (dN, 32, .inl (nf (fun _ => 0)))), (a2, .inl (dN, 32, .inl (nf (oS 0))))] := hD
  refine va_iast hx hb hK hP hD hS 3 1 rfl rfl (vin (by decide) (by decide)) dX1_init_30 (fun H locs hP hD hS => ?_)
  have eq0 : upd (nf (oS 0)) (nI 0).toNatClampNeg (nI 237) = nf (oS 1) := by rw [ncl (by decide)]; exact upd_nf _ _ _
  rw [eq0] at hP hD
  have hP : va_P D vwCl [(o, .inr (1, [.ref a0, .ref a1, .null, .null])), (a0, .inl (dN, 64, .inl (nf (fun _ => 0)))), (a1, .inl (dN, 32, .inl (nf (fun _ => 0)))), (a2, .inl (dN, 32, .inl (nf (oS 1))))] H := hP
  have hD : va_D A [(o, .inr (1, [.ref a0, .ref a1, .null, .null])), (a0, .inl (dN, 64, .inl (nf (fun _ => 0)))), (a1, .inl (dN, 32, .inl (nf (fun _ => 0)))), (a2, .inl (dN, 32, .inl (nf (oS 1))))] := hD
  refine W.eq (g2 := F0 m 31 ls [.ref a2, .ref o]) rfl ?_
  refine lv_dup hx hb dX1_init_31 rfl ?_
  refine lv_iconst (v := nI 1) hx hb dX1_init_32 (by decide) ?_
  refine lv_sipush (v := nI 211) hx hb dX1_init_33 (by decide) ?_
  refine va_iast hx hb hK hP hD hS 3 1 rfl rfl (vin (by decide) (by decide)) dX1_init_36 (fun H locs hP hD hS => ?_)
  have eq1 : upd (nf (oS 1)) (nI 1).toNatClampNeg (nI 211) = nf (oS 2) := by rw [ncl (by decide)]; exact upd_nf _ _ _
  rw [eq1] at hP hD
  have hP : va_P D vwCl [(o, .inr (1, [.ref a0, .ref a1, .null, .null])), (a0, .inl (dN, 64, .inl (nf (fun _ => 0)))), (a1, .inl (dN, 32, .inl (nf (fun _ => 0)))), (a2, .inl (dN, 32, .inl (nf (oS 2))))] H := hP
  have hD : va_D A [(o, .inr (1, [.ref a0, .ref a1, .null, .null])), (a0, .inl (dN, 64, .inl (nf (fun _ => 0)))), (a1, .inl (dN, 32, .inl (nf (fun _ => 0)))), (a2, .inl (dN, 32, .inl (nf (oS 2))))] := hD
  refine W.eq (g2 := F0 m 37 ls [.ref a2, .ref o]) rfl ?_
  refine lv_dup hx hb dX1_init_37 rfl ?_
  refine lv_iconst (v := nI 2) hx hb dX1_init_38 (by decide) ?_
  refine lv_sipush (v := nI 245) hx hb dX1_init_39 (by decide) ?_
  refine va_iast hx hb hK hP hD hS 3 1 rfl rfl (vin (by decide) (by decide)) dX1_init_42 (fun H locs hP hD hS => ?_)
  have eq2 : upd (nf (oS 2)) (nI 2).toNatClampNeg (nI 245) = nf (oS 3) := by rw [ncl (by decide)]; exact upd_nf _ _ _
  rw [eq2] at hP hD
  have hP : va_P D vwCl [(o, .inr (1, [.ref a0, .ref a1, .null, .null])), (a0, .inl (dN, 64, .inl (nf (fun _ => 0)))), (a1, .inl (dN, 32, .inl (nf (fun _ => 0)))), (a2, .inl (dN, 32, .inl (nf (oS 3))))] H := hP
  have hD : va_D A [(o, .inr (1, [.ref a0, .ref a1, .null, .null])), (a0, .inl (dN, 64, .inl (nf (fun _ => 0)))), (a1, .inl (dN, 32, .inl (nf (fun _ => 0)))), (a2, .inl (dN, 32, .inl (nf (oS 3))))] := hD
  refine W.eq (g2 := F0 m 43 ls [.ref a2, .ref o]) rfl ?_
  refine lv_dup hx hb dX1_init_43 rfl ?_
  refine lv_iconst (v := nI 3) hx hb dX1_init_44 (by decide) ?_
  refine lv_bipush (v := nI 92) hx hb dX1_init_45 (by decide) ?_
  refine va_iast hx hb hK hP hD hS 3 1 rfl rfl (vin (by decide) (by decide)) dX1_init_47 (fun H locs hP hD hS => ?_)
  have eq3 : upd (nf (oS 3)) (nI 3).toNatClampNeg (nI 92) = nf (oS 4) := by rw [ncl (by decide)]; exact upd_nf _ _ _
  rw [eq3] at hP hD
  have hP : va_P D vwCl [(o, .inr (1, [.ref a0, .ref a1, .null, .null])), (a0, .inl (dN, 64, .inl (nf (fun _ => 0)))), (a1, .inl (dN, 32, .inl (nf (fun _ => 0)))), (a2, .inl (dN, 32, .inl (nf (oS 4))))] H := hP
  have hD : va_D A [(o, .inr (1, [.ref a0, .ref a1, .null, .null])), (a0, .inl (dN, 64, .inl (nf (fun _ => 0)))), (a1, .inl (dN, 32, .inl (nf (fun _ => 0)))), (a2, .inl (dN, 32, .inl (nf (oS 4))))] := hD
  refine W.eq (g2 := F0 m 48 ls [.ref a2, .ref o]) rfl ?_
  refine lv_dup hx hb dX1_init_48 rfl ?_
  refine lv_iconst (v := nI 4) hx hb dX1_init_49 (by decide) ?_
  refine lv_bipush (v := nI 26) hx hb dX1_init_50 (by decide) ?_
  refine va_iast hx hb hK hP hD hS 3 1 rfl rfl (vin (by decide) (by decide)) dX1_init_52 (fun H locs hP hD hS => ?_)
  have eq4 : upd (nf (oS 4)) (nI 4).toNatClampNeg (nI 26) = nf (oS 5) := by rw [ncl (by decide)]; exact upd_nf _ _ _
  rw [eq4] at hP hD
  have hP : va_P D vwCl [(o, .inr (1, [.ref a0, .ref a1, .null, .null])), (a0, .inl (dN, 64, .inl (nf (fun _ => 0)))), (a1, .inl (dN, 32, .inl (nf (fun _ => 0)))), (a2, .inl (dN, 32, .inl (nf (oS 5))))] H := hP
  have hD : va_D A [(o, .inr (1, [.ref a0, .ref a1, .null, .null])), (a0, .inl (dN, 64, .inl (nf (fun _ => 0)))), (a1, .inl (dN, 32, .inl (nf (fun _ => 0)))), (a2, .inl (dN, 32, .inl (nf (oS 5))))] := hD
  refine W.eq (g2 := F0 m 53 ls [.ref a2, .ref o]) rfl ?_
  refine lv_dup hx hb dX1_init_53 rfl ?_
  refine lv_iconst (v := nI 5) hx hb dX1_init_54 (by decide) ?_
  refine lv_bipush (v := nI 99) hx hb dX1_init_55 (by decide) ?_
  refine va_iast hx hb hK hP hD hS 3 1 rfl rfl (vin (by decide) (by decide)) dX1_init_57 (fun H locs hP hD hS => ?_)
  have eq5 : upd (nf (oS 5)) (nI 5).toNatClampNeg (nI 99) = nf (oS 6) := by rw [ncl (by decide)]; exact upd_nf _ _ _
  rw [eq5] at hP hD
  have hP : va_P D vwCl [(o, .inr (1, [.ref a0, .ref a1, .null, .null])), (a0, .inl (dN, 64, .inl (nf (fun _ => 0)))), (a1, .inl (dN, 32, .inl (nf (fun _ => 0)))), (a2, .inl (dN, 32, .inl (nf (oS 6))))] H := hP
  have hD : va_D A [(o, .inr (1, [.ref a0, .ref a1, .null, .null])), (a0, .inl (dN, 64, .inl (nf (fun _ => 0)))), (a1, .inl (dN, 32, .inl (nf (fun _ => 0)))), (a2, .inl (dN, 32, .inl (nf (oS 6))))] := hD
  refine W.eq (g2 := F0 m 58 ls [.ref a2, .ref o]) rfl ?_
  refine lv_dup hx hb dX1_init_58 rfl ?_
  refine lv_bipush (v := nI 6) hx hb dX1_init_59 (by decide) ?_
  refine lv_bipush (v := nI 18) hx hb dX1_init_61 (by decide) ?_
  refine va_iast hx hb hK hP hD hS 3 1 rfl rfl (vin (by decide) (by decide)) dX1_init_63 (fun H locs hP hD hS => ?_)
  have eq6 : upd (nf (oS 6)) (nI 6).toNatClampNeg (nI 18) = nf (oS 7) := by rw [ncl (by decide)]; exact upd_nf _ _ _
  rw [eq6] at hP hD
  have hP : va_P D vwCl [(o, .inr (1, [.ref a0, .ref a1, .null, .null])), (a0, .inl (dN, 64, .inl (nf (fun _ => 0)))), (a1, .inl (dN, 32, .inl (nf (fun _ => 0)))), (a2, .inl (dN, 32, .inl (nf (oS 7))))] H := hP
  have hD : va_D A [(o, .inr (1, [.ref a0, .ref a1, .null, .null])), (a0, .inl (dN, 64, .inl (nf (fun _ => 0)))), (a1, .inl (dN, 32, .inl (nf (fun _ => 0)))), (a2, .inl (dN, 32, .inl (nf (oS 7))))] := hD
  refine W.eq (g2 := F0 m 64 ls [.ref a2, .ref o]) rfl ?_
  refine lv_dup hx hb dX1_init_64 rfl ?_
  refine lv_bipush (v := nI 7) hx hb dX1_init_65 (by decide) ?_
  refine lv_bipush (v := nI 88) hx hb dX1_init_67 (by decide) ?_
  refine va_iast hx hb hK hP hD hS 3 1 rfl rfl (vin (by decide) (by decide)) dX1_init_69 (fun H locs hP hD hS => ?_)
  have eq7 : upd (nf (oS 7)) (nI 7).toNatClampNeg (nI 88) = nf (oS 8) := by rw [ncl (by decide)]; exact upd_nf _ _ _
  rw [eq7] at hP hD
  have hP : va_P D vwCl [(o, .inr (1, [.ref a0, .ref a1, .null, .null])), (a0, .inl (dN, 64, .inl (nf (fun _ => 0)))), (a1, .inl (dN, 32, .inl (nf (fun _ => 0)))), (a2, .inl (dN, 32, .inl (nf (oS 8))))] H := hP
  have hD : va_D A [(o, .inr (1, [.ref a0, .ref a1, .null, .null])), (a0, .inl (dN, 64, .inl (nf (fun _ => 0)))), (a1, .inl (dN, 32, .inl (nf (fun _ => 0)))), (a2, .inl (dN, 32, .inl (nf (oS 8))))] := hD
  refine W.eq (g2 := F0 m 70 ls [.ref a2, .ref o]) rfl ?_
  refine lv_dup hx hb dX1_init_70 rfl ?_
  refine lv_bipush (v := nI 8) hx hb dX1_init_71 (by decide) ?_
  refine lv_sipush (v := nI 214) hx hb dX1_init_73 (by decide) ?_
  refine va_iast hx hb hK hP hD hS 3 1 rfl rfl (vin (by decide) (by decide)) dX1_init_76 (fun H locs hP hD hS => ?_)
  have eq8 : upd (nf (oS 8)) (nI 8).toNatClampNeg (nI 214) = nf (oS 9) := by rw [ncl (by decide)]; exact upd_nf _ _ _
  rw [eq8] at hP hD
  have hP : va_P D vwCl [(o, .inr (1, [.ref a0, .ref a1, .null, .null])), (a0, .inl (dN, 64, .inl (nf (fun _ => 0)))), (a1, .inl (dN, 32, .inl (nf (fun _ => 0)))), (a2, .inl (dN, 32, .inl (nf (oS 9))))] H := hP
  have hD : va_D A [(o, .inr (1, [.ref a0, .ref a1, .null, .null])), (a0, .inl (dN, 64, .inl (nf (fun _ => 0)))), (a1, .inl (dN, 32, .inl (nf (fun _ => 0)))), (a2, .inl (dN, 32, .inl (nf (oS 9))))] := hD
  refine W.eq (g2 := F0 m 77 ls [.ref a2, .ref o]) rfl ?_
  refine lv_dup hx hb dX1_init_77 rfl ?_
  refine lv_bipush (v := nI 9) hx hb dX1_init_78 (by decide) ?_
  refine lv_sipush (v := nI 156) hx hb dX1_init_80 (by decide) ?_
  refine va_iast hx hb hK hP hD hS 3 1 rfl rfl (vin (by decide) (by decide)) dX1_init_83 (fun H locs hP hD hS => ?_)
  have eq9 : upd (nf (oS 9)) (nI 9).toNatClampNeg (nI 156) = nf (oS 10) := by rw [ncl (by decide)]; exact upd_nf _ _ _
  rw [eq9] at hP hD
  have hP : va_P D vwCl [(o, .inr (1, [.ref a0, .ref a1, .null, .null])), (a0, .inl (dN, 64, .inl (nf (fun _ => 0)))), (a1, .inl (dN, 32, .inl (nf (fun _ => 0)))), (a2, .inl (dN, 32, .inl (nf (oS 10))))] H := hP
  have hD : va_D A [(o, .inr (1, [.ref a0, .ref a1, .null, .null])), (a0, .inl (dN, 64, .inl (nf (fun _ => 0)))), (a1, .inl (dN, 32, .inl (nf (fun _ => 0)))), (a2, .inl (dN, 32, .inl (nf (oS 10))))] := hD
  refine W.eq (g2 := F0 m 84 ls [.ref a2, .ref o]) rfl ?_
  refine lv_dup hx hb dX1_init_84 rfl ?_
  refine lv_bipush (v := nI 10) hx hb dX1_init_85 (by decide) ?_
  refine lv_sipush (v := nI 247) hx hb dX1_init_87 (by decide) ?_
  refine va_iast hx hb hK hP hD hS 3 1 rfl rfl (vin (by decide) (by decide)) dX1_init_90 (fun H locs hP hD hS => ?_)
  have eq10 : upd (nf (oS 10)) (nI 10).toNatClampNeg (nI 247) = nf (oS 11) := by rw [ncl (by decide)]; exact upd_nf _ _ _
  rw [eq10] at hP hD
  have hP : va_P D vwCl [(o, .inr (1, [.ref a0, .ref a1, .null, .null])), (a0, .inl (dN, 64, .inl (nf (fun _ => 0)))), (a1, .inl (dN, 32, .inl (nf (fun _ => 0)))), (a2, .inl (dN, 32, .inl (nf (oS 11))))] H := hP
  have hD : va_D A [(o, .inr (1, [.ref a0, .ref a1, .null, .null])), (a0, .inl (dN, 64, .inl (nf (fun _ => 0)))), (a1, .inl (dN, 32, .inl (nf (fun _ => 0)))), (a2, .inl (dN, 32, .inl (nf (oS 11))))] := hD
  refine W.eq (g2 := F0 m 91 ls [.ref a2, .ref o]) rfl ?_
  refine lv_dup hx hb dX1_init_91 rfl ?_
  refine lv_bipush (v := nI 11) hx hb dX1_init_92 (by decide) ?_
  refine lv_sipush (v := nI 162) hx hb dX1_init_94 (by decide) ?_
  refine va_iast hx hb hK hP hD hS 3 1 rfl rfl (vin (by decide) (by decide)) dX1_init_97 (fun H locs hP hD hS => ?_)
  have eq11 : upd (nf (oS 11)) (nI 11).toNatClampNeg (nI 162) = nf (oS 12) := by rw [ncl (by decide)]; exact upd_nf _ _ _
  rw [eq11] at hP hD
  have hP : va_P D vwCl [(o, .inr (1, [.ref a0, .ref a1, .null, .null])), (a0, .inl (dN, 64, .inl (nf (fun _ => 0)))), (a1, .inl (dN, 32, .inl (nf (fun _ => 0)))), (a2, .inl (dN, 32, .inl (nf (oS 12))))] H := hP
  have hD : va_D A [(o, .inr (1, [.ref a0, .ref a1, .null, .null])), (a0, .inl (dN, 64, .inl (nf (fun _ => 0)))), (a1, .inl (dN, 32, .inl (nf (fun _ => 0)))), (a2, .inl (dN, 32, .inl (nf (oS 12))))] := hD
  refine W.eq (g2 := F0 m 98 ls [.ref a2, .ref o]) rfl ?_
  refine lv_dup hx hb dX1_init_98 rfl ?_
  refine lv_bipush (v := nI 12) hx hb dX1_init_99 (by decide) ?_
  refine lv_sipush (v := nI 222) hx hb dX1_init_101 (by decide) ?_
  refine va_iast hx hb hK hP hD hS 3 1 rfl rfl (vin (by decide) (by decide)) dX1_init_104 (fun H locs hP hD hS => ?_)
  have eq12 : upd (nf (oS 12)) (nI 12).toNatClampNeg (nI 222) = nf (oS 13) := by rw [ncl (by decide)]; exact upd_nf _ _ _
  rw [eq12] at hP hD
  have hP : va_P D vwCl [(o, .inr (1, [.ref a0, .ref a1, .null, .null])), (a0, .inl (dN, 64, .inl (nf (fun _ => 0)))), (a1, .inl (dN, 32, .inl (nf (fun _ => 0)))), (a2, .inl (dN, 32, .inl (nf (oS 13))))] H := hP
  have hD : va_D A [(o, .inr (1, [.ref a0, .ref a1, .null, .null])), (a0, .inl (dN, 64, .inl (nf (fun _ => 0)))), (a1, .inl (dN, 32, .inl (nf (fun _ => 0)))), (a2, .inl (dN, 32, .inl (nf (oS 13))))] := hD
  refine W.eq (g2 := F0 m 105 ls [.ref a2, .ref o]) rfl ?_
  refine lv_dup hx hb dX1_init_105 rfl ?_
  refine lv_bipush (v := nI 13) hx hb dX1_init_106 (by decide) ?_
  refine lv_sipush (v := nI 249) hx hb dX1_init_108 (by decide) ?_
  refine va_iast hx hb hK hP hD hS 3 1 rfl rfl (vin (by decide) (by decide)) dX1_init_111 (fun H locs hP hD hS => ?_)
  have eq13 : upd (nf (oS 13)) (nI 13).toNatClampNeg (nI 249) = nf (oS 14) := by rw [ncl (by decide)]; exact upd_nf _ _ _
  rw [eq13] at hP hD
  have hP : va_P D vwCl [(o, .inr (1, [.ref a0, .ref a1, .null, .null])), (a0, .inl (dN, 64, .inl (nf (fun _ => 0)))), (a1, .inl (dN, 32, .inl (nf (fun _ => 0)))), (a2, .inl (dN, 32, .inl (nf (oS 14))))] H := hP
  have hD : va_D A [(o, .inr (1, [.ref a0, .ref a1, .null, .null])), (a0, .inl (dN, 64, .inl (nf (fun _ => 0)))), (a1, .inl (dN, 32, .inl (nf (fun _ => 0)))), (a2, .inl (dN, 32, .inl (nf (oS 14))))] := hD
  refine W.eq (g2 := F0 m 112 ls [.ref a2, .ref o]) rfl ?_
  refine lv_dup hx hb dX1_init_112 rfl ?_
  refine lv_bipush (v := nI 14) hx hb dX1_init_113 (by decide) ?_
  refine lv_sipush (v := nI 222) hx hb dX1_init_115 (by decide) ?_
  refine va_iast hx hb hK hP hD hS 3 1 rfl rfl (vin (by decide) (by decide)) dX1_init_118 (fun H locs hP hD hS => ?_)
  have eq14 : upd (nf (oS 14)) (nI 14).toNatClampNeg (nI 222) = nf (oS 15) := by rw [ncl (by decide)]; exact upd_nf _ _ _
  rw [eq14] at hP hD
  have hP : va_P D vwCl [(o, .inr (1, [.ref a0, .ref a1, .null, .null])), (a0, .inl (dN, 64, .inl (nf (fun _ => 0)))), (a1, .inl (dN, 32, .inl (nf (fun _ => 0)))), (a2, .inl (dN, 32, .inl (nf (oS 15))))] H := hP
  have hD : va_D A [(o, .inr (1, [.ref a0, .ref a1, .null, .null])), (a0, .inl (dN, 64, .inl (nf (fun _ => 0)))), (a1, .inl (dN, 32, .inl (nf (fun _ => 0)))), (a2, .inl (dN, 32, .inl (nf (oS 15))))] := hD
  refine W.eq (g2 := F0 m 119 ls [.ref a2, .ref o]) rfl ?_
  refine lv_dup hx hb dX1_init_119 rfl ?_
  refine lv_bipush (v := nI 15) hx hb dX1_init_120 (by decide) ?_
  refine lv_bipush (v := nI 20) hx hb dX1_init_122 (by decide) ?_
  refine va_iast hx hb hK hP hD hS 3 1 rfl rfl (vin (by decide) (by decide)) dX1_init_124 (fun H locs hP hD hS => ?_)
  have eq15 : upd (nf (oS 15)) (nI 15).toNatClampNeg (nI 20) = nf (oS 16) := by rw [ncl (by decide)]; exact upd_nf _ _ _
  rw [eq15] at hP hD
  have hP : va_P D vwCl [(o, .inr (1, [.ref a0, .ref a1, .null, .null])), (a0, .inl (dN, 64, .inl (nf (fun _ => 0)))), (a1, .inl (dN, 32, .inl (nf (fun _ => 0)))), (a2, .inl (dN, 32, .inl (nf (oS 16))))] H := hP
  have hD : va_D A [(o, .inr (1, [.ref a0, .ref a1, .null, .null])), (a0, .inl (dN, 64, .inl (nf (fun _ => 0)))), (a1, .inl (dN, 32, .inl (nf (fun _ => 0)))), (a2, .inl (dN, 32, .inl (nf (oS 16))))] := hD
  refine W.eq (g2 := F0 m 125 ls [.ref a2, .ref o]) rfl ?_
  refine lv_dup hx hb dX1_init_125 rfl ?_
  refine lv_bipush (v := nI 16) hx hb dX1_init_126 (by decide) ?_
  refine lv_iconst (v := nI 0) hx hb dX1_init_128 (by decide) ?_
  refine va_iast hx hb hK hP hD hS 3 1 rfl rfl (vin (by decide) (by decide)) dX1_init_129 (fun H locs hP hD hS => ?_)
  have eq16 : upd (nf (oS 16)) (nI 16).toNatClampNeg (nI 0) = nf (oS 17) := by rw [ncl (by decide)]; exact upd_nf _ _ _
  rw [eq16] at hP hD
  have hP : va_P D vwCl [(o, .inr (1, [.ref a0, .ref a1, .null, .null])), (a0, .inl (dN, 64, .inl (nf (fun _ => 0)))), (a1, .inl (dN, 32, .inl (nf (fun _ => 0)))), (a2, .inl (dN, 32, .inl (nf (oS 17))))] H := hP
  have hD : va_D A [(o, .inr (1, [.ref a0, .ref a1, .null, .null])), (a0, .inl (dN, 64, .inl (nf (fun _ => 0)))), (a1, .inl (dN, 32, .inl (nf (fun _ => 0)))), (a2, .inl (dN, 32, .inl (nf (oS 17))))] := hD
  refine W.eq (g2 := F0 m 130 ls [.ref a2, .ref o]) rfl ?_
  refine lv_dup hx hb dX1_init_130 rfl ?_
  refine lv_bipush (v := nI 17) hx hb dX1_init_131 (by decide) ?_
  refine lv_iconst (v := nI 0) hx hb dX1_init_133 (by decide) ?_
  refine va_iast hx hb hK hP hD hS 3 1 rfl rfl (vin (by decide) (by decide)) dX1_init_134 (fun H locs hP hD hS => ?_)
  have eq17 : upd (nf (oS 17)) (nI 17).toNatClampNeg (nI 0) = nf (oS 18) := by rw [ncl (by decide)]; exact upd_nf _ _ _
  rw [eq17] at hP hD
  have hP : va_P D vwCl [(o, .inr (1, [.ref a0, .ref a1, .null, .null])), (a0, .inl (dN, 64, .inl (nf (fun _ => 0)))), (a1, .inl (dN, 32, .inl (nf (fun _ => 0)))), (a2, .inl (dN, 32, .inl (nf (oS 18))))] H := hP
  have hD : va_D A [(o, .inr (1, [.ref a0, .ref a1, .null, .null])), (a0, .inl (dN, 64, .inl (nf (fun _ => 0)))), (a1, .inl (dN, 32, .inl (nf (fun _ => 0)))), (a2, .inl (dN, 32, .inl (nf (oS 18))))] := hD
  refine W.eq (g2 := F0 m 135 ls [.ref a2, .ref o]) rfl ?_
  refine lv_dup hx hb dX1_init_135 rfl ?_
  refine lv_bipush (v := nI 18) hx hb dX1_init_136 (by decide) ?_
  refine lv_iconst (v := nI 0) hx hb dX1_init_138 (by decide) ?_
  refine va_iast hx hb hK hP hD hS 3 1 rfl rfl (vin (by decide) (by decide)) dX1_init_139 (fun H locs hP hD hS => ?_)
  have eq18 : upd (nf (oS 18)) (nI 18).toNatClampNeg (nI 0) = nf (oS 19) := by rw [ncl (by decide)]; exact upd_nf _ _ _
  rw [eq18] at hP hD
  have hP : va_P D vwCl [(o, .inr (1, [.ref a0, .ref a1, .null, .null])), (a0, .inl (dN, 64, .inl (nf (fun _ => 0)))), (a1, .inl (dN, 32, .inl (nf (fun _ => 0)))), (a2, .inl (dN, 32, .inl (nf (oS 19))))] H := hP
  have hD : va_D A [(o, .inr (1, [.ref a0, .ref a1, .null, .null])), (a0, .inl (dN, 64, .inl (nf (fun _ => 0)))), (a1, .inl (dN, 32, .inl (nf (fun _ => 0)))), (a2, .inl (dN, 32, .inl (nf (oS 19))))] := hD
  refine W.eq (g2 := F0 m 140 ls [.ref a2, .ref o]) rfl ?_
  refine lv_dup hx hb dX1_init_140 rfl ?_
  refine lv_bipush (v := nI 19) hx hb dX1_init_141 (by decide) ?_
  refine lv_iconst (v := nI 0) hx hb dX1_init_143 (by decide) ?_
  refine va_iast hx hb hK hP hD hS 3 1 rfl rfl (vin (by decide) (by decide)) dX1_init_144 (fun H locs hP hD hS => ?_)
  have eq19 : upd (nf (oS 19)) (nI 19).toNatClampNeg (nI 0) = nf (oS 20) := by rw [ncl (by decide)]; exact upd_nf _ _ _
  rw [eq19] at hP hD
  have hP : va_P D vwCl [(o, .inr (1, [.ref a0, .ref a1, .null, .null])), (a0, .inl (dN, 64, .inl (nf (fun _ => 0)))), (a1, .inl (dN, 32, .inl (nf (fun _ => 0)))), (a2, .inl (dN, 32, .inl (nf (oS 20))))] H := hP
  have hD : va_D A [(o, .inr (1, [.ref a0, .ref a1, .null, .null])), (a0, .inl (dN, 64, .inl (nf (fun _ => 0)))), (a1, .inl (dN, 32, .inl (nf (fun _ => 0)))), (a2, .inl (dN, 32, .inl (nf (oS 20))))] := hD
  refine W.eq (g2 := F0 m 145 ls [.ref a2, .ref o]) rfl ?_
  refine lv_dup hx hb dX1_init_145 rfl ?_
  refine lv_bipush (v := nI 20) hx hb dX1_init_146 (by decide) ?_
  refine lv_iconst (v := nI 0) hx hb dX1_init_148 (by decide) ?_
  refine va_iast hx hb hK hP hD hS 3 1 rfl rfl (vin (by decide) (by decide)) dX1_init_149 (fun H locs hP hD hS => ?_)
  have eq20 : upd (nf (oS 20)) (nI 20).toNatClampNeg (nI 0) = nf (oS 21) := by rw [ncl (by decide)]; exact upd_nf _ _ _
  rw [eq20] at hP hD
  have hP : va_P D vwCl [(o, .inr (1, [.ref a0, .ref a1, .null, .null])), (a0, .inl (dN, 64, .inl (nf (fun _ => 0)))), (a1, .inl (dN, 32, .inl (nf (fun _ => 0)))), (a2, .inl (dN, 32, .inl (nf (oS 21))))] H := hP
  have hD : va_D A [(o, .inr (1, [.ref a0, .ref a1, .null, .null])), (a0, .inl (dN, 64, .inl (nf (fun _ => 0)))), (a1, .inl (dN, 32, .inl (nf (fun _ => 0)))), (a2, .inl (dN, 32, .inl (nf (oS 21))))] := hD
  refine W.eq (g2 := F0 m 150 ls [.ref a2, .ref o]) rfl ?_
  refine lv_dup hx hb dX1_init_150 rfl ?_
  refine lv_bipush (v := nI 21) hx hb dX1_init_151 (by decide) ?_
  refine lv_iconst (v := nI 0) hx hb dX1_init_153 (by decide) ?_
  refine va_iast hx hb hK hP hD hS 3 1 rfl rfl (vin (by decide) (by decide)) dX1_init_154 (fun H locs hP hD hS => ?_)
  have eq21 : upd (nf (oS 21)) (nI 21).toNatClampNeg (nI 0) = nf (oS 22) := by rw [ncl (by decide)]; exact upd_nf _ _ _
  rw [eq21] at hP hD
  have hP : va_P D vwCl [(o, .inr (1, [.ref a0, .ref a1, .null, .null])), (a0, .inl (dN, 64, .inl (nf (fun _ => 0)))), (a1, .inl (dN, 32, .inl (nf (fun _ => 0)))), (a2, .inl (dN, 32, .inl (nf (oS 22))))] H := hP
  have hD : va_D A [(o, .inr (1, [.ref a0, .ref a1, .null, .null])), (a0, .inl (dN, 64, .inl (nf (fun _ => 0)))), (a1, .inl (dN, 32, .inl (nf (fun _ => 0)))), (a2, .inl (dN, 32, .inl (nf (oS 22))))] := hD
  refine W.eq (g2 := F0 m 155 ls [.ref a2, .ref o]) rfl ?_
  refine lv_dup hx hb dX1_init_155 rfl ?_
  refine lv_bipush (v := nI 22) hx hb dX1_init_156 (by decide) ?_
  refine lv_iconst (v := nI 0) hx hb dX1_init_158 (by decide) ?_
  refine va_iast hx hb hK hP hD hS 3 1 rfl rfl (vin (by decide) (by decide)) dX1_init_159 (fun H locs hP hD hS => ?_)
  have eq22 : upd (nf (oS 22)) (nI 22).toNatClampNeg (nI 0) = nf (oS 23) := by rw [ncl (by decide)]; exact upd_nf _ _ _
  rw [eq22] at hP hD
  have hP : va_P D vwCl [(o, .inr (1, [.ref a0, .ref a1, .null, .null])), (a0, .inl (dN, 64, .inl (nf (fun _ => 0)))), (a1, .inl (dN, 32, .inl (nf (fun _ => 0)))), (a2, .inl (dN, 32, .inl (nf (oS 23))))] H := hP
  have hD : va_D A [(o, .inr (1, [.ref a0, .ref a1, .null, .null])), (a0, .inl (dN, 64, .inl (nf (fun _ => 0)))), (a1, .inl (dN, 32, .inl (nf (fun _ => 0)))), (a2, .inl (dN, 32, .inl (nf (oS 23))))] := hD
  refine W.eq (g2 := F0 m 160 ls [.ref a2, .ref o]) rfl ?_
  refine lv_dup hx hb dX1_init_160 rfl ?_
  refine lv_bipush (v := nI 23) hx hb dX1_init_161 (by decide) ?_
  refine lv_iconst (v := nI 0) hx hb dX1_init_163 (by decide) ?_
  refine va_iast hx hb hK hP hD hS 3 1 rfl rfl (vin (by decide) (by decide)) dX1_init_164 (fun H locs hP hD hS => ?_)
  have eq23 : upd (nf (oS 23)) (nI 23).toNatClampNeg (nI 0) = nf (oS 24) := by rw [ncl (by decide)]; exact upd_nf _ _ _
  rw [eq23] at hP hD
  have hP : va_P D vwCl [(o, .inr (1, [.ref a0, .ref a1, .null, .null])), (a0, .inl (dN, 64, .inl (nf (fun _ => 0)))), (a1, .inl (dN, 32, .inl (nf (fun _ => 0)))), (a2, .inl (dN, 32, .inl (nf (oS 24))))] H := hP
  have hD : va_D A [(o, .inr (1, [.ref a0, .ref a1, .null, .null])), (a0, .inl (dN, 64, .inl (nf (fun _ => 0)))), (a1, .inl (dN, 32, .inl (nf (fun _ => 0)))), (a2, .inl (dN, 32, .inl (nf (oS 24))))] := hD
  refine W.eq (g2 := F0 m 165 ls [.ref a2, .ref o]) rfl ?_
  refine lv_dup hx hb dX1_init_165 rfl ?_
  refine lv_bipush (v := nI 24) hx hb dX1_init_166 (by decide) ?_
  refine lv_iconst (v := nI 0) hx hb dX1_init_168 (by decide) ?_
  refine va_iast hx hb hK hP hD hS 3 1 rfl rfl (vin (by decide) (by decide)) dX1_init_169 (fun H locs hP hD hS => ?_)
  have eq24 : upd (nf (oS 24)) (nI 24).toNatClampNeg (nI 0) = nf (oS 25) := by rw [ncl (by decide)]; exact upd_nf _ _ _
  rw [eq24] at hP hD
  have hP : va_P D vwCl [(o, .inr (1, [.ref a0, .ref a1, .null, .null])), (a0, .inl (dN, 64, .inl (nf (fun _ => 0)))), (a1, .inl (dN, 32, .inl (nf (fun _ => 0)))), (a2, .inl (dN, 32, .inl (nf (oS 25))))] H := hP
  have hD : va_D A [(o, .inr (1, [.ref a0, .ref a1, .null, .null])), (a0, .inl (dN, 64, .inl (nf (fun _ => 0)))), (a1, .inl (dN, 32, .inl (nf (fun _ => 0)))), (a2, .inl (dN, 32, .inl (nf (oS 25))))] := hD
  refine W.eq (g2 := F0 m 170 ls [.ref a2, .ref o]) rfl ?_
  refine lv_dup hx hb dX1_init_170 rfl ?_
  refine lv_bipush (v := nI 25) hx hb dX1_init_171 (by decide) ?_
  refine lv_iconst (v := nI 0) hx hb dX1_init_173 (by decide) ?_
  refine va_iast hx hb hK hP hD hS 3 1 rfl rfl (vin (by decide) (by decide)) dX1_init_174 (fun H locs hP hD hS => ?_)
  have eq25 : upd (nf (oS 25)) (nI 25).toNatClampNeg (nI 0) = nf (oS 26) := by rw [ncl (by decide)]; exact upd_nf _ _ _
  rw [eq25] at hP hD
  have hP : va_P D vwCl [(o, .inr (1, [.ref a0, .ref a1, .null, .null])), (a0, .inl (dN, 64, .inl (nf (fun _ => 0)))), (a1, .inl (dN, 32, .inl (nf (fun _ => 0)))), (a2, .inl (dN, 32, .inl (nf (oS 26))))] H := hP
  have hD : va_D A [(o, .inr (1, [.ref a0, .ref a1, .null, .null])), (a0, .inl (dN, 64, .inl (nf (fun _ => 0)))), (a1, .inl (dN, 32, .inl (nf (fun _ => 0)))), (a2, .inl (dN, 32, .inl (nf (oS 26))))] := hD
  refine W.eq (g2 := F0 m 175 ls [.ref a2, .ref o]) rfl ?_
  refine lv_dup hx hb dX1_init_175 rfl ?_
  refine lv_bipush (v := nI 26) hx hb dX1_init_176 (by decide) ?_
  refine lv_iconst (v := nI 0) hx hb dX1_init_178 (by decide) ?_
  refine va_iast hx hb hK hP hD hS 3 1 rfl rfl (vin (by decide) (by decide)) dX1_init_179 (fun H locs hP hD hS => ?_)
  have eq26 : upd (nf (oS 26)) (nI 26).toNatClampNeg (nI 0) = nf (oS 27) := by rw [ncl (by decide)]; exact upd_nf _ _ _
  rw [eq26] at hP hD
  have hP : va_P D vwCl [(o, .inr (1, [.ref a0, .ref a1, .null, .null])), (a0, .inl (dN, 64, .inl (nf (fun _ => 0)))), (a1, .inl (dN, 32, .inl (nf (fun _ => 0)))), (a2, .inl (dN, 32, .inl (nf (oS 27))))] H := hP
  have hD : va_D A [(o, .inr (1, [.ref a0, .ref a1, .null, .null])), (a0, .inl (dN, 64, .inl (nf (fun _ => 0)))), (a1, .inl (dN, 32, .inl (nf (fun _ => 0)))), (a2, .inl (dN, 32, .inl (nf (oS 27))))] := hD
  refine W.eq (g2 := F0 m 180 ls [.ref a2, .ref o]) rfl ?_
  refine lv_dup hx hb dX1_init_180 rfl ?_
  refine lv_bipush (v := nI 27) hx hb dX1_init_181 (by decide) ?_
  refine lv_iconst (v := nI 0) hx hb dX1_init_183 (by decide) ?_
  refine va_iast hx hb hK hP hD hS 3 1 rfl rfl (vin (by decide) (by decide)) dX1_init_184 (fun H locs hP hD hS => ?_)
  have eq27 : upd (nf (oS 27)) (nI 27).toNatClampNeg (nI 0) = nf (oS 28) := by rw [ncl (by decide)]; exact upd_nf _ _ _
  rw [eq27] at hP hD
  have hP : va_P D vwCl [(o, .inr (1, [.ref a0, .ref a1, .null, .null])), (a0, .inl (dN, 64, .inl (nf (fun _ => 0)))), (a1, .inl (dN, 32, .inl (nf (fun _ => 0)))), (a2, .inl (dN, 32, .inl (nf (oS 28))))] H := hP
  have hD : va_D A [(o, .inr (1, [.ref a0, .ref a1, .null, .null])), (a0, .inl (dN, 64, .inl (nf (fun _ => 0)))), (a1, .inl (dN, 32, .inl (nf (fun _ => 0)))), (a2, .inl (dN, 32, .inl (nf (oS 28))))] := hD
  refine W.eq (g2 := F0 m 185 ls [.ref a2, .ref o]) rfl ?_
  refine lv_dup hx hb dX1_init_185 rfl ?_
  refine lv_bipush (v := nI 28) hx hb dX1_init_186 (by decide) ?_
  refine lv_iconst (v := nI 0) hx hb dX1_init_188 (by decide) ?_
  refine va_iast hx hb hK hP hD hS 3 1 rfl rfl (vin (by decide) (by decide)) dX1_init_189 (fun H locs hP hD hS => ?_)
  have eq28 : upd (nf (oS 28)) (nI 28).toNatClampNeg (nI 0) = nf (oS 29) := by rw [ncl (by decide)]; exact upd_nf _ _ _
  rw [eq28] at hP hD
  have hP : va_P D vwCl [(o, .inr (1, [.ref a0, .ref a1, .null, .null])), (a0, .inl (dN, 64, .inl (nf (fun _ => 0)))), (a1, .inl (dN, 32, .inl (nf (fun _ => 0)))), (a2, .inl (dN, 32, .inl (nf (oS 29))))] H := hP
  have hD : va_D A [(o, .inr (1, [.ref a0, .ref a1, .null, .null])), (a0, .inl (dN, 64, .inl (nf (fun _ => 0)))), (a1, .inl (dN, 32, .inl (nf (fun _ => 0)))), (a2, .inl (dN, 32, .inl (nf (oS 29))))] := hD
  refine W.eq (g2 := F0 m 190 ls [.ref a2, .ref o]) rfl ?_
  refine lv_dup hx hb dX1_init_190 rfl ?_
  refine lv_bipush (v := nI 29) hx hb dX1_init_191 (by decide) ?_
  refine lv_iconst (v := nI 0) hx hb dX1_init_193 (by decide) ?_
  refine va_iast hx hb hK hP hD hS 3 1 rfl rfl (vin (by decide) (by decide)) dX1_init_194 (fun H locs hP hD hS => ?_)
  have eq29 : upd (nf (oS 29)) (nI 29).toNatClampNeg (nI 0) = nf (oS 30) := by rw [ncl (by decide)]; exact upd_nf _ _ _
  rw [eq29] at hP hD
  have hP : va_P D vwCl [(o, .inr (1, [.ref a0, .ref a1, .null, .null])), (a0, .inl (dN, 64, .inl (nf (fun _ => 0)))), (a1, .inl (dN, 32, .inl (nf (fun _ => 0)))), (a2, .inl (dN, 32, .inl (nf (oS 30))))] H := hP
  have hD : va_D A [(o, .inr (1, [.ref a0, .ref a1, .null, .null])), (a0, .inl (dN, 64, .inl (nf (fun _ => 0)))), (a1, .inl (dN, 32, .inl (nf (fun _ => 0)))), (a2, .inl (dN, 32, .inl (nf (oS 30))))] := hD
  refine W.eq (g2 := F0 m 195 ls [.ref a2, .ref o]) rfl ?_
  refine lv_dup hx hb dX1_init_195 rfl ?_
  refine lv_bipush (v := nI 30) hx hb dX1_init_196 (by decide) ?_
  refine lv_iconst (v := nI 0) hx hb dX1_init_198 (by decide) ?_
  refine va_iast hx hb hK hP hD hS 3 1 rfl rfl (vin (by decide) (by decide)) dX1_init_199 (fun H locs hP hD hS => ?_)
  have eq30 : upd (nf (oS 30)) (nI 30).toNatClampNeg (nI 0) = nf (oS 31) := by rw [ncl (by decide)]; exact upd_nf _ _ _
  rw [eq30] at hP hD
  have hP : va_P D vwCl [(o, .inr (1, [.ref a0, .ref a1, .null, .null])), (a0, .inl (dN, 64, .inl (nf (fun _ => 0)))), (a1, .inl (dN, 32, .inl (nf (fun _ => 0)))), (a2, .inl (dN, 32, .inl (nf (oS 31))))] H := hP
  have hD : va_D A [(o, .inr (1, [.ref a0, .ref a1, .null, .null])), (a0, .inl (dN, 64, .inl (nf (fun _ => 0)))), (a1, .inl (dN, 32, .inl (nf (fun _ => 0)))), (a2, .inl (dN, 32, .inl (nf (oS 31))))] := hD
  refine W.eq (g2 := F0 m 200 ls [.ref a2, .ref o]) rfl ?_
  refine lv_dup hx hb dX1_init_200 rfl ?_
  refine lv_bipush (v := nI 31) hx hb dX1_init_201 (by decide) ?_
  refine lv_bipush (v := nI 16) hx hb dX1_init_203 (by decide) ?_
  refine va_iast hx hb hK hP hD hS 3 1 rfl rfl (vin (by decide) (by decide)) dX1_init_205 (fun H locs hP hD hS => ?_)
  have eq31 : upd (nf (oS 31)) (nI 31).toNatClampNeg (nI 16) = nf (oS 32) := by rw [ncl (by decide)]; exact upd_nf _ _ _
  rw [eq31] at hP hD
  have hP : va_P D vwCl [(o, .inr (1, [.ref a0, .ref a1, .null, .null])), (a0, .inl (dN, 64, .inl (nf (fun _ => 0)))), (a1, .inl (dN, 32, .inl (nf (fun _ => 0)))), (a2, .inl (dN, 32, .inl (nf (oS 32))))] H := hP
  have hD : va_D A [(o, .inr (1, [.ref a0, .ref a1, .null, .null])), (a0, .inl (dN, 64, .inl (nf (fun _ => 0)))), (a1, .inl (dN, 32, .inl (nf (fun _ => 0)))), (a2, .inl (dN, 32, .inl (nf (oS 32))))] := hD
  refine W.eq (g2 := F0 m 206 ls [.ref a2, .ref o]) rfl ?_
  rw [oS_eq] at hP hD
  refine va_putF (D := D) (ci := 1) (v := .ref a2) (ty := .array .int) (C := RX1) (T := TX1) (N := 4) hx hb hts in_X1 tyX1 tyX1_ok nmX1 hown hK hP hD hS 0 rfl rfl 2 (by decide) (hts _ q120) (fun _ h9 => h9) rfl hin rfl (by decide +kernel) rfl rfl (Nat.le_of_ble_eq_true rfl) dX1_init_206 (fun H locs hP hD hS => ?_)
  have hP : va_P D vwCl [(o, .inr (1, [.ref a0, .ref a1, .ref a2, .null])), (a0, .inl (dN, 64, .inl (nf (fun _ => 0)))), (a1, .inl (dN, 32, .inl (nf (fun _ => 0)))), (a2, .inl (dN, 32, .inl (nf oD)))] H := hP
  have hD : va_D A [(o, .inr (1, [.ref a0, .ref a1, .ref a2, .null])), (a0, .inl (dN, 64, .inl (nf (fun _ => 0)))), (a1, .inl (dN, 32, .inl (nf (fun _ => 0)))), (a2, .inl (dN, 32, .inl (nf oD)))] := hD
  refine W.eq (g2 := F0 m 209 ls []) rfl ?_
  refine lv_aload_n hx hb dX1_init_209 rfl (lv_at hl 0 rfl) ?_
  refine lv_bipush (v := nI 33) hx hb dX1_init_210 (by decide) ?_
  refine va_newa (atype := .int) (ty := .int) (N' := 33) (a0 := (33, .inl (nf (fun _ => 0)))) hx hb (hts _ q39) rfl hK hP hD hS hA (fun cA => rfl) (by decide) (by decide) (Nat.le_of_ble_eq_true rfl) (Nat.le_of_ble_eq_true rfl) (Nat.le_of_ble_eq_true rfl) dX1_init_212 (fun a3 cA H hK2 hP hD hS => ?_)
  have ecA : dN = cA := hK2.oneI (i := 1) (j := 2) rfl rfl
  subst ecA
  refine W.cs (cells' := 4) (slots' := 161) rfl rfl ?_
  refine va_putF (D := D) (ci := 1) (v := .ref a3) (ty := .array .int) (C := RX1) (T := TX1) (N := 4) hx hb hts in_X1 tyX1 tyX1_ok nmX1 hown hK hP hD hS 0 rfl rfl 3 (by decide) (hts _ q121) (fun _ h9 => h9) rfl hin rfl (by decide +kernel) rfl rfl (Nat.le_of_ble_eq_true rfl) dX1_init_214 (fun H locs hP hD hS => ?_)
  have hP : va_P D vwCl [(o, .inr (1, [.ref a0, .ref a1, .ref a2, .ref a3])), (a0, .inl (dN, 64, .inl (nf (fun _ => 0)))), (a1, .inl (dN, 32, .inl (nf (fun _ => 0)))), (a2, .inl (dN, 32, .inl (nf oD))), (a3, .inl (dN, 33, .inl (nf (fun _ => 0))))] H := hP
  have hD : va_D A [(o, .inr (1, [.ref a0, .ref a1, .ref a2, .ref a3])), (a0, .inl (dN, 64, .inl (nf (fun _ => 0)))), (a1, .inl (dN, 32, .inl (nf (fun _ => 0)))), (a2, .inl (dN, 32, .inl (nf oD))), (a3, .inl (dN, 33, .inl (nf (fun _ => 0))))] := hD
  refine W.eq (g2 := F0 m 217 ls []) rfl ?_
  exact W.vret hx hb hr (fun t ht hW => ⟨_, rfl, ⟨a0, a1, a2, a3, rfl⟩, by rw [ht]; exact hP, hD, by rw [ht]; exact hS.1, fun x h1 h2 => by rw [ht]; exact hS.2.1 x h1 h2⟩) hS.2.2 dX1_init_217
end
section
/-! ===== WideScalarsModel.divide ===== -/
abbrev roM (dN : ClassId) (o mw mz mo mr : Nat) (d : Nat → Nat) : va_W := [(o, mX mw mz mo mr), (mw, .inl (dN, 64, .inl (nf d))), (mo, .inl (dN, 32, .inl (nf oD)))]
abbrev wM (dN : ClassId) (mr mz : Nat) (r z : Nat → Nat) : va_W := [(mr, .inl (dN, 33, .inl (nf r))), (mz, .inl (dN, 32, .inl (nf z)))]
def dvC (p : Program) (c : Code) (s : State) (m : MethodId) (args : Array Value) (D : va_G) (dB dN : ClassId) (o mw mz mo mr : Nat) (d : Nat → Nat) : Prop := p.tables.exec = Jvm.exec ∧ c.code = cX1_divide ∧ s.vm.findClass RX1 = some m.cls ∧ (∀ w ∈ lw_all, w.before args s = true) ∧ va_K D vwCl (tyL dB dN) s ∧ va_P D vwCl (roM dN o mw mz mo mr d) s.heap ∧ (∀ q ∈ roM dN o mw mz mo mr d, ¬ (q.1 = mr ∨ q.1 = mz))
def dvS (D : va_G) (dN : ClassId) (mr mz : Nat) (s : State) (r z : Nat → Nat) (H : Heap) (locs : List Loc) : Prop := va_P D vwCl (wM dN mr mz r z) H ∧ va_D (fun x => x = mr ∨ x = mz) (wM dN mr mz r z) ∧ va_S (fun x => x = mr ∨ x = mz) s.heap H locs
theorem and255N {n : Nat} (h : n < 4294967296) : nI n &&& 255 = nI (n % 256) := by rw [and255, ub_nI h]
theorem and7N {n : Nat} (h : n < 4294967296) : nI n &&& 7 = nI (n % 8) := pk_andN h 3 rfl
theorem and1N {n : Nat} (h : n < 4294967296) : nI n &&& 1 = nI (n % 2) := by rw [and1, uI_nI h]
theorem shr8N {n : Nat} (h : n < 2147483648) : nI n >>> ((8 : Int32) &&& 31) = nI (n / 256) := pk_shrN h _ 8 (by decide +kernel)
theorem shr3N {n : Nat} (h : n < 2147483648) : nI n >>> ((3 : Int32) &&& 31) = nI (n / 8) := pk_shrN h _ 3 (by decide +kernel)
theorem shrVN {n t : Nat} (h : n < 2147483648) (ht : t < 8) : nI n >>> (nI t &&& 31) = nI (n / 2 ^ t) := pk_shrN h _ t ((by decide +kernel : ∀ t, t < 8 → ((nI t &&& 31).toBitVec.smod 32).toNat = t) t ht)
section
variable {p : Program} {l : Launch} {e : Env} {R : Room} {s : State} {m : MethodId} {args : Array Value} {below : List Frame} {meth : Method} {c : Code} {cells slots : Nat} {Q : State → Prop} {D : va_G} {dB dN : ClassId} {o mw mz mo mr : Nat} {d : Nat → Nat}

set_option maxHeartbeats 4000000 in
set_option maxRecDepth 100000 in
theorem dv_zero (C : dvC p c s m args D dB dN o mw mz mo mr d) {nb : Nat} {z : Nat → Nat} (kk : ∀ (r : Nat → Nat) (H : Heap) (locs : List Loc) (ls : Array Slot), (∀ j, j < 33 → r j = 0) → dvS D dN mr mz s r z H locs → lv_has ls 10 [(0, .ref o), (1, .ref mw), (2, .int (nI nb))] → W p l e R s m args below meth c H locs cells slots Q (F0 m 21 ls [])) : ∀ (n k : Nat) (r : Nat → Nat) (H : Heap) (locs : List Loc) (ls : Array Slot), k + n = 33 → (∀ j, j < k → r j = 0) → dvS D dN mr mz s r z H locs → lv_has ls 10 [(3, .int (nI k)), (0, .ref o), (1, .ref mw), (2, .int (nI nb))] → W p l e R s m args below meth c H locs cells slots Q (F0 m 2 ls []) := by
  obtain ⟨hx, hb, hown, hts, hK, hR0, hne⟩ := C
  intro n
  induction n with
  | zero =>
    intro k r H locs ls hk hz ⟨hP, hD, hS⟩ hl
    refine lv_iload_n hx hb dX1_divide_2 rfl (lv_at hl 0 rfl) ?_
    refine lv_bipush (v := nI 33) hx hb dX1_divide_3 (by decide) ?_
    refine lv_icmp_ge (tgt := 21) hx hb dX1_divide_5 (by decide) (fun _ => ?_) (fun c1 => absurd ((nI_leI (by decide) (by omega)).mpr (by omega)) c1)
    exact kk r H locs ls (fun j hj => hz j (by omega)) ⟨hP, hD, hS⟩ (lv_sub hl [1, 2, 3] rfl)
  | succ n ih =>
    intro k r H locs ls hk hz ⟨hP, hD, hS⟩ hl
    have hR := hR0.ro hS hne
    refine lv_iload_n hx hb dX1_divide_2 rfl (lv_at hl 0 rfl) ?_
    refine lv_bipush (v := nI 33) hx hb dX1_divide_3 (by decide) ?_
    refine lv_icmp_ge (tgt := 21) hx hb dX1_divide_5 (by decide) (fun c1 => absurd ((nI_leI (by decide) (by omega)).mp c1) (by omega)) (fun _ => ?_)
    refine lv_aload_n hx hb dX1_divide_8 rfl (lv_at hl 1 rfl) ?_
    refine va_get (D := D) (ci := 1) (v := .ref mr) (C := RX1) (T := TX1) (N := 4) hx hb hts in_X1 hown hK hR 0 rfl rfl 3 (by decide) (hts _ q121) (fun _ h9 => h9) rfl dX1_divide_9 ?_
    refine lv_iload_n hx hb dX1_divide_12 rfl (lv_at hl 0 rfl) ?_
    refine lv_iconst (v := nI 0) hx hb dX1_divide_13 (by decide) ?_
    refine va_iast hx hb hK hP hD hS 0 1 rfl rfl (vin (by omega) (by decide)) dX1_divide_14 (fun H locs hP hD hS => ?_)
    have eq1 : upd (nf r) (nI k).toNatClampNeg (nI 0) = nf (updN r k 0) := by rw [ncl (by omega), upd_nf]
    rw [eq1] at hP hD
    refine lv_iinc (v := nI (k + 1)) (lv' := [(3, .int (nI (k + 1))), (0, .ref o), (1, .ref mw), (2, .int (nI nb))]) hx hb dX1_divide_15 hl (k := 0) rfl (nI_1 k) (by decide) rfl (fun ls hl => ?_)
    refine lv_goto (tgt := 2) hx hb dX1_divide_18 (by decide) ?_
    exact ih (k + 1) (updN r k 0) H locs ls (by omega) (fun j hj => by
      by_cases e : j = k
      · subst e; exact updN_s
      · rw [updN_n e]; exact hz j (by omega)) ⟨hP, hD, hS⟩ hl
set_option maxHeartbeats 4000000 in
set_option maxRecDepth 100000 in
theorem dv_dbl (C : dvC p c s m args D dB dN o mw mz mo mr d) {nb : Nat} {z r : Nat → Nat} {c0 : Nat} {x3 : Int32} (kk : ∀ (r1 : Nat → Nat) (c1 : Nat) (H : Heap) (locs : List Loc) (ls : Array Slot), dblI r c0 33 r1 c1 → dvS D dN mr mz s r1 z H locs → lv_has ls 10 [(3, .int x3), (0, .ref o), (1, .ref mw), (2, .int (nI nb))] → W p l e R s m args below meth c H locs cells slots Q (F0 m 96 ls [])) : ∀ (n k c1 : Nat) (r1 : Nat → Nat) (H : Heap) (locs : List Loc) (ls : Array Slot), k + n = 33 → dblI r c0 k r1 c1 → dvS D dN mr mz s r1 z H locs → lv_has ls 10 [(5, .int (nI k)), (4, .int (nI c1)), (3, .int x3), (0, .ref o), (1, .ref mw), (2, .int (nI nb))] → W p l e R s m args below meth c H locs cells slots Q (F0 m 49 ls []) := by
  obtain ⟨hx, hb, hown, hts, hK, hR0, hne⟩ := C
  intro n
  induction n with
  | zero =>
    intro k c1 r1 H locs ls hk hI ⟨hP, hD, hS⟩ hl
    refine lv_iload hx hb dX1_divide_49 (lv_at hl 0 rfl) ?_
    refine lv_bipush (v := nI 33) hx hb dX1_divide_51 (by decide) ?_
    refine lv_icmp_ge (tgt := 96) hx hb dX1_divide_53 (by decide) (fun _ => ?_) (fun c1 => absurd ((nI_leI (by decide) (by omega)).mpr (by omega)) c1)
    have e8 : k = 33 := by omega
    subst e8
    exact kk r1 c1 H locs ls hI ⟨hP, hD, hS⟩ (lv_sub hl [2, 3, 4, 5] rfl)
  | succ n ih =>
    intro k c1 r1 H locs ls hk hI ⟨hP, hD, hS⟩ hl
    have hR := hR0.ro hS hne
    have hd1 := hI.1 k (by omega)
    have hc1 := hI.2.2.1
    refine lv_iload hx hb dX1_divide_49 (lv_at hl 0 rfl) ?_
    refine lv_bipush (v := nI 33) hx hb dX1_divide_51 (by decide) ?_
    refine lv_icmp_ge (tgt := 96) hx hb dX1_divide_53 (by decide) (fun c2 => absurd ((nI_leI (by decide) (by omega)).mp c2) (by omega)) (fun _ => ?_)
    refine lv_aload_n hx hb dX1_divide_56 rfl (lv_at hl 3 rfl) ?_
    refine va_get (D := D) (ci := 1) (v := .ref mr) (C := RX1) (T := TX1) (N := 4) hx hb hts in_X1 hown hK hR 0 rfl rfl 3 (by decide) (hts _ q121) (fun _ h9 => h9) rfl dX1_divide_57 ?_
    refine lv_iload hx hb dX1_divide_60 (lv_at hl 0 rfl) ?_
    refine va_iald hx hb hK hP 0 1 rfl rfl (vin (by omega) (by decide)) dX1_divide_62 ?_
    refine wt_i (y := nI (r1 k)) (congrArg (nf r1) (ncl (by omega))) ?_
    refine lv_iconst (v := nI 2) hx hb dX1_divide_63 (by decide) ?_
    refine lv_imul hx hb dX1_divide_64 ?_
    refine wt_i (y := nI (r1 k * 2)) (pk_mul _ _) ?_
    refine lv_iload hx hb dX1_divide_65 (lv_at hl 1 rfl) ?_
    refine lv_iadd hx hb dX1_divide_67 ?_
    refine wt_i (y := nI (r1 k * 2 + c1)) (nI_add _ _) ?_
    refine lv_istore (lv' := [(6, .int (nI (r1 k * 2 + c1))), (5, .int (nI k)), (4, .int (nI c1)), (3, .int x3), (0, .ref o), (1, .ref mw), (2, .int (nI nb))]) hx hb dX1_divide_68 hl (by decide) rfl (fun ls hl => ?_)
    refine lv_aload_n hx hb dX1_divide_70 rfl (lv_at hl 4 rfl) ?_
    refine va_get (D := D) (ci := 1) (v := .ref mr) (C := RX1) (T := TX1) (N := 4) hx hb hts in_X1 hown hK hR 0 rfl rfl 3 (by decide) (hts _ q121) (fun _ h9 => h9) rfl dX1_divide_71 ?_
    refine lv_iload hx hb dX1_divide_74 (lv_at hl 1 rfl) ?_
    refine lv_iload hx hb dX1_divide_76 (lv_at hl 0 rfl) ?_
    refine lv_sipush (v := 255) hx hb dX1_divide_78 (by decide) ?_
    refine lv_iand hx hb dX1_divide_81 ?_
    refine wt_i (y := nI ((r1 k * 2 + c1) % 256)) (and255N (by omega)) ?_
    refine va_iast hx hb hK hP hD hS 0 1 rfl rfl (vin (by omega) (by decide)) dX1_divide_82 (fun H locs hP hD hS => ?_)
    have eq1 : upd (nf r1) (nI k).toNatClampNeg (nI ((r1 k * 2 + c1) % 256)) = nf (updN r1 k ((r1 k * 2 + c1) % 256)) := by rw [ncl (by omega), upd_nf]
    rw [eq1] at hP hD
    refine lv_iload hx hb dX1_divide_83 (lv_at hl 0 rfl) ?_
    refine lv_bipush (v := 8) hx hb dX1_divide_85 (by decide) ?_
    refine lv_ishr hx hb dX1_divide_87 ?_
    refine wt_i (y := nI ((r1 k * 2 + c1) / 256)) (shr8N (by omega)) ?_
    refine lv_istore (lv' := [(4, .int (nI ((r1 k * 2 + c1) / 256))), (6, .int (nI (r1 k * 2 + c1))), (5, .int (nI k)), (3, .int x3), (0, .ref o), (1, .ref mw), (2, .int (nI nb))]) hx hb dX1_divide_88 hl (by decide) rfl (fun ls hl => ?_)
    refine lv_iinc (v := nI (k + 1)) (lv' := [(5, .int (nI (k + 1))), (4, .int (nI ((r1 k * 2 + c1) / 256))), (6, .int (nI (r1 k * 2 + c1))), (3, .int x3), (0, .ref o), (1, .ref mw), (2, .int (nI nb))]) hx hb dX1_divide_90 hl (k := 2) rfl (nI_1 k) (by decide) rfl (fun ls hl => ?_)
    refine lv_goto (tgt := 49) hx hb dX1_divide_93 (by decide) ?_
    exact ih (k + 1) _ _ H locs ls (by omega) (dblI_s hI (by omega)) ⟨hP, hD, hS⟩ (lv_sub hl [0, 1, 3, 4, 5, 6] rfl)
set_option maxHeartbeats 4000000 in
set_option maxRecDepth 100000 in
theorem dv_cmp (C : dvC p c s m args D dB dN o mw mz mo mr d) {nb : Nat} {z r : Nat → Nat} {x3 : Int32} {H : Heap} {locs : List Loc} (hS0 : dvS D dN mr mz s r z H locs) (hr : ∀ j, j < 32 → r j < 256) (kk : ∀ (ls : Array Slot), lv_has ls 10 [(6, .int (nI (if num 32 r < nL then 0 else 1))), (3, .int x3), (0, .ref o), (1, .ref mw), (2, .int (nI nb))] → W p l e R s m args below meth c H locs cells slots Q (F0 m 177 ls [])) : ∀ (k : Nat) (ls : Array Slot), k < 32 → (∀ j, k < j → j < 32 → r j = oD j) → lv_has ls 10 [(5, .int (nI k)), (3, .int x3), (0, .ref o), (1, .ref mw), (2, .int (nI nb))] → W p l e R s m args below meth c H locs cells slots Q (F0 m 122 ls []) := by
  obtain ⟨hx, hb, hown, hts, hK, hR0, hne⟩ := C
  obtain ⟨hP, hD, hS⟩ := hS0
  have hR := hR0.ro hS hne
  have ho : ∀ j, oD j < 256 := oD_lt
  have fin : ∀ (k : Nat) (ls : Array Slot), k < 32 → (∀ j, k < j → j < 32 → r j = oD j) → (k = 0 ∨ r k ≠ oD k) → lv_has ls 10 [(5, .int (nI k)), (3, .int x3), (0, .ref o), (1, .ref mw), (2, .int (nI nb))] → W p l e R s m args below meth c H locs cells slots Q (F0 m 153 ls []) := by
    intro k ls hk he h0 hl
    have hc := cmp_res hr hk he h0
    have hs1 := hr k hk
    have ho1 := ho k
    refine lv_aload_n hx hb dX1_divide_153 rfl (lv_at hl 2 rfl) ?_
    refine va_get (D := D) (ci := 1) (v := .ref mr) (C := RX1) (T := TX1) (N := 4) hx hb hts in_X1 hown hK hR 0 rfl rfl 3 (by decide) (hts _ q121) (fun _ h9 => h9) rfl dX1_divide_154 ?_
    refine lv_iload hx hb dX1_divide_157 (lv_at hl 0 rfl) ?_
    refine va_iald hx hb hK hP 0 1 rfl rfl (vin (by omega) (by decide)) dX1_divide_159 ?_
    refine wt_i (y := nI (r k)) (congrArg (nf r) (ncl (by omega))) ?_
    refine lv_aload_n hx hb dX1_divide_160 rfl (lv_at hl 2 rfl) ?_
    refine va_get (D := D) (ci := 1) (v := .ref mo) (C := RX1) (T := TX1) (N := 4) hx hb hts in_X1 hown hK hR 0 rfl rfl 2 (by decide) (hts _ q120) (fun _ h9 => h9) rfl dX1_divide_161 ?_
    refine lv_iload hx hb dX1_divide_164 (lv_at hl 0 rfl) ?_
    refine va_iald hx hb hK hR 2 1 rfl rfl (vin (by omega) (by decide)) dX1_divide_166 ?_
    refine wt_i (y := nI (oD k)) (congrArg (nf oD) (ncl (by omega))) ?_
    refine lv_icmp_lt (tgt := 174) hx hb dX1_divide_167 (by decide) (fun c1 => ?_) (fun c1 => ?_)
    · have c1 := (nI_ltI (by omega) (by omega)).mp c1
      refine lv_iconst (v := nI 0) hx hb dX1_divide_174 (by decide) ?_
      refine lv_istore (lv' := [(6, .int (nI 0)), (5, .int (nI k)), (3, .int x3), (0, .ref o), (1, .ref mw), (2, .int (nI nb))]) hx hb dX1_divide_175 hl (by decide) rfl (fun ls hl => ?_)
      refine kk ls ?_
      rw [if_pos (hc.mp c1)]
      exact lv_sub hl [0, 2, 3, 4, 5] rfl
    · have c1 : ¬ r k < oD k := fun z => c1 ((nI_ltI (by omega) (by omega)).mpr z)
      refine lv_iconst (v := nI 1) hx hb dX1_divide_170 (by decide) ?_
      refine lv_goto (tgt := 175) hx hb dX1_divide_171 (by decide) ?_
      refine lv_istore (lv' := [(6, .int (nI 1)), (5, .int (nI k)), (3, .int x3), (0, .ref o), (1, .ref mw), (2, .int (nI nb))]) hx hb dX1_divide_175 hl (by decide) rfl (fun ls hl => ?_)
      refine kk ls ?_
      rw [if_neg (fun z => c1 (hc.mpr z))]
      exact lv_sub hl [0, 2, 3, 4, 5] rfl
  intro k
  induction k with
  | zero =>
    intro ls hk he hl
    refine lv_iload hx hb dX1_divide_122 (lv_at hl 0 rfl) ?_
    refine lv_if_le (tgt := 153) hx hb dX1_divide_124 (by decide) (fun _ => ?_) (fun c1 => absurd (by decide +kernel) c1)
    exact fin 0 ls hk he (Or.inl rfl) hl
  | succ k ih =>
    intro ls hk he hl
    have hs1 := hr (k + 1) hk
    have ho1 := ho (k + 1)
    refine lv_iload hx hb dX1_divide_122 (lv_at hl 0 rfl) ?_
    refine lv_if_le (tgt := 153) hx hb dX1_divide_124 (by decide) (fun c1 => absurd c1 (nI_nle (by omega) (by omega))) (fun _ => ?_)
    refine lv_aload_n hx hb dX1_divide_127 rfl (lv_at hl 2 rfl) ?_
    refine va_get (D := D) (ci := 1) (v := .ref mr) (C := RX1) (T := TX1) (N := 4) hx hb hts in_X1 hown hK hR 0 rfl rfl 3 (by decide) (hts _ q121) (fun _ h9 => h9) rfl dX1_divide_128 ?_
    refine lv_iload hx hb dX1_divide_131 (lv_at hl 0 rfl) ?_
    refine va_iald hx hb hK hP 0 1 rfl rfl (vin (by omega) (by decide)) dX1_divide_133 ?_
    refine wt_i (y := nI (r (k + 1))) (congrArg (nf r) (ncl (by omega))) ?_
    refine lv_aload_n hx hb dX1_divide_134 rfl (lv_at hl 2 rfl) ?_
    refine va_get (D := D) (ci := 1) (v := .ref mo) (C := RX1) (T := TX1) (N := 4) hx hb hts in_X1 hown hK hR 0 rfl rfl 2 (by decide) (hts _ q120) (fun _ h9 => h9) rfl dX1_divide_135 ?_
    refine lv_iload hx hb dX1_divide_138 (lv_at hl 0 rfl) ?_
    refine va_iald hx hb hK hR 2 1 rfl rfl (vin (by omega) (by decide)) dX1_divide_140 ?_
    refine wt_i (y := nI (oD (k + 1))) (congrArg (nf oD) (ncl (by omega))) ?_
    refine lv_icmp_ne (tgt := 153) hx hb dX1_divide_141 (by decide) (fun c1 => ?_) (fun c1 => ?_)
    · exact fin (k + 1) ls hk he (Or.inr (fun z => c1 (by rw [z]))) hl
    · have c1 : r (k + 1) = oD (k + 1) := (nI_eq (by omega) (by omega)).mp c1
      refine lv_iload hx hb dX1_divide_144 (lv_at hl 0 rfl) ?_
      refine lv_iconst (v := 1) hx hb dX1_divide_146 (by decide) ?_
      refine lv_isub hx hb dX1_divide_147 ?_
      refine wt_i (y := nI k) (nI_pred k) ?_
      refine lv_istore (lv' := [(5, .int (nI k)), (3, .int x3), (0, .ref o), (1, .ref mw), (2, .int (nI nb))]) hx hb dX1_divide_148 hl (by decide) rfl (fun ls hl => ?_)
      refine lv_goto (tgt := 122) hx hb dX1_divide_150 (by decide) ?_
      exact ih ls (by omega) (fun j h1 h2 => by
        rcases Nat.lt_or_ge (k + 1) j with q | q
        · exact he j q h2
        · rw [show j = k + 1 by omega]; exact c1) (lv_sub hl [0, 1, 2, 3, 4] rfl)
set_option maxHeartbeats 4000000 in
set_option maxRecDepth 100000 in
theorem dv_sub (C : dvC p c s m args D dB dN o mw mz mo mr d) {nb : Nat} {z r : Nat → Nat} {x3 : Int32} (kk : ∀ (r1 : Nat → Nat) (b : Nat) (H : Heap) (locs : List Loc) (ls : Array Slot), subI r 33 r1 b → dvS D dN mr mz s r1 z H locs → lv_has ls 10 [(3, .int x3), (0, .ref o), (1, .ref mw), (2, .int (nI nb))] → W p l e R s m args below meth c H locs cells slots Q (F0 m 252 ls [])) : ∀ (n k b : Nat) (r1 : Nat → Nat) (H : Heap) (locs : List Loc) (ls : Array Slot), k + n = 33 → subI r k r1 b → dvS D dN mr mz s r1 z H locs → lv_has ls 10 [(8, .int (nI k)), (7, .int (bV b)), (3, .int x3), (0, .ref o), (1, .ref mw), (2, .int (nI nb))] → W p l e R s m args below meth c H locs cells slots Q (F0 m 188 ls []) := by
  obtain ⟨hx, hb, hown, hts, hK, hR0, hne⟩ := C
  intro n
  induction n with
  | zero =>
    intro k b r1 H locs ls hk hI ⟨hP, hD, hS⟩ hl
    refine lv_iload hx hb dX1_divide_188 (lv_at hl 0 rfl) ?_
    refine lv_bipush (v := nI 33) hx hb dX1_divide_190 (by decide) ?_
    refine lv_icmp_ge (tgt := 252) hx hb dX1_divide_192 (by decide) (fun _ => ?_) (fun c1 => absurd ((nI_leI (by decide) (by omega)).mpr (by omega)) c1)
    have e8 : k = 33 := by omega
    subst e8
    exact kk r1 b H locs ls hI ⟨hP, hD, hS⟩ (lv_sub hl [2, 3, 4, 5] rfl)
  | succ n ih =>
    intro k b r1 H locs ls hk hI ⟨hP, hD, hS⟩ hl
    have hR := hR0.ro hS hne
    have hd1 := hI.1 k (by omega)
    have hb1 := hI.2.2.1
    have ho1 := oD_lt k
    have tail : W p l e R s m args below meth c H locs cells slots Q (F0 m 220 ls [.int (nI (oD k)), .int (nI (r1 k))]) := by
      refine lv_isub hx hb dX1_divide_220 ?_
      refine lv_iload hx hb dX1_divide_221 (lv_at hl 1 rfl) ?_
      refine lv_iadd hx hb dX1_divide_223 ?_
      refine lv_istore (lv' := [(9, .int (((nI (r1 k)) - (nI (oD k))) + (bV b))), (8, .int (nI k)), (7, .int (bV b)), (3, .int x3), (0, .ref o), (1, .ref mw), (2, .int (nI nb))]) hx hb dX1_divide_224 hl (by decide) rfl (fun ls hl => ?_)
      refine lv_aload_n hx hb dX1_divide_226 rfl (lv_at hl 4 rfl) ?_
      refine va_get (D := D) (ci := 1) (v := .ref mr) (C := RX1) (T := TX1) (N := 4) hx hb hts in_X1 hown hK hR 0 rfl rfl 3 (by decide) (hts _ q121) (fun _ h9 => h9) rfl dX1_divide_227 ?_
      refine lv_iload hx hb dX1_divide_230 (lv_at hl 1 rfl) ?_
      refine lv_iload hx hb dX1_divide_232 (lv_at hl 0 rfl) ?_
      refine lv_sipush (v := 255) hx hb dX1_divide_234 (by decide) ?_
      refine lv_iand hx hb dX1_divide_237 ?_
      refine wt_i (y := nI ((r1 k + 256 - oD k - b) % 256)) (sub_and hd1 ho1 hb1) ?_
      refine va_iast hx hb hK hP hD hS 0 1 rfl rfl (vin (by omega) (by decide)) dX1_divide_238 (fun H locs hP hD hS => ?_)
      have eq1 : upd (nf r1) (nI k).toNatClampNeg (nI ((r1 k + 256 - oD k - b) % 256)) = nf (updN r1 k ((r1 k + 256 - oD k - b) % 256)) := by rw [ncl (by omega), upd_nf]
      rw [eq1] at hP hD
      refine lv_iload hx hb dX1_divide_239 (lv_at hl 0 rfl) ?_
      refine lv_bipush (v := 8) hx hb dX1_divide_241 (by decide) ?_
      refine lv_ishr hx hb dX1_divide_243 ?_
      refine wt_i (y := bV (bw (r1 k) (oD k) b)) (sub_shr hd1 ho1 hb1) ?_
      refine lv_istore (lv' := [(7, .int (bV (bw (r1 k) (oD k) b))), (9, .int (((nI (r1 k)) - (nI (oD k))) + (bV b))), (8, .int (nI k)), (3, .int x3), (0, .ref o), (1, .ref mw), (2, .int (nI nb))]) hx hb dX1_divide_244 hl (by decide) rfl (fun ls hl => ?_)
      refine lv_iinc (v := nI (k + 1)) (lv' := [(8, .int (nI (k + 1))), (7, .int (bV (bw (r1 k) (oD k) b))), (9, .int (((nI (r1 k)) - (nI (oD k))) + (bV b))), (3, .int x3), (0, .ref o), (1, .ref mw), (2, .int (nI nb))]) hx hb dX1_divide_246 hl (k := 2) rfl (nI_1 k) (by decide) rfl (fun ls hl => ?_)
      refine lv_goto (tgt := 188) hx hb dX1_divide_249 (by decide) ?_
      exact ih (k + 1) _ _ H locs ls (by omega) (subI_s hI (by omega)) ⟨hP, hD, hS⟩ (lv_sub hl [0, 1, 3, 4, 5, 6] rfl)
    refine lv_iload hx hb dX1_divide_188 (lv_at hl 0 rfl) ?_
    refine lv_bipush (v := nI 33) hx hb dX1_divide_190 (by decide) ?_
    refine lv_icmp_ge (tgt := 252) hx hb dX1_divide_192 (by decide) (fun c2 => absurd ((nI_leI (by decide) (by omega)).mp c2) (by omega)) (fun _ => ?_)
    refine lv_aload_n hx hb dX1_divide_195 rfl (lv_at hl 3 rfl) ?_
    refine va_get (D := D) (ci := 1) (v := .ref mr) (C := RX1) (T := TX1) (N := 4) hx hb hts in_X1 hown hK hR 0 rfl rfl 3 (by decide) (hts _ q121) (fun _ h9 => h9) rfl dX1_divide_196 ?_
    refine lv_iload hx hb dX1_divide_199 (lv_at hl 0 rfl) ?_
    refine va_iald hx hb hK hP 0 1 rfl rfl (vin (by omega) (by decide)) dX1_divide_201 ?_
    refine wt_i (y := nI (r1 k)) (congrArg (nf r1) (ncl (by omega))) ?_
    refine lv_iload hx hb dX1_divide_202 (lv_at hl 0 rfl) ?_
    refine lv_bipush (v := nI 32) hx hb dX1_divide_204 (by decide) ?_
    refine lv_icmp_ge (tgt := 219) hx hb dX1_divide_206 (by decide) (fun c2 => ?_) (fun c2 => ?_)
    · have c2 := (nI_leI (by decide) (by omega)).mp c2
      have ek : k = 32 := by omega
      refine lv_iconst (v := nI (oD k)) hx hb dX1_divide_219 (by rw [ek, oD_32]; decide) ?_
      exact tail
    · have c2 : ¬ 32 ≤ k := fun z => c2 ((nI_leI (by decide) (by omega)).mpr z)
      refine lv_aload_n hx hb dX1_divide_209 rfl (lv_at hl 3 rfl) ?_
      refine va_get (D := D) (ci := 1) (v := .ref mo) (C := RX1) (T := TX1) (N := 4) hx hb hts in_X1 hown hK hR 0 rfl rfl 2 (by decide) (hts _ q120) (fun _ h9 => h9) rfl dX1_divide_210 ?_
      refine lv_iload hx hb dX1_divide_213 (lv_at hl 0 rfl) ?_
      refine va_iald hx hb hK hR 2 1 rfl rfl (vin (by omega) (by decide)) dX1_divide_215 ?_
      refine wt_i (y := nI (oD k)) (congrArg (nf oD) (ncl (by omega))) ?_
      refine lv_goto (tgt := 220) hx hb dX1_divide_216 (by decide) ?_
      exact tail
set_option maxHeartbeats 4000000 in
set_option maxRecDepth 100000 in
theorem dv_main (C : dvC p c s m args D dB dN o mw mz mo mr d) {nb : Nat} {z : Nat → Nat} (hnb : nb ≤ 64) (hd : ∀ j, j < 64 → d j < 256) (kk : ∀ (r : Nat → Nat) (H : Heap) (locs : List Loc) (ls : Array Slot), (∀ j, j < 33 → r j < 256) → num 33 r = num nb d % nL → dvS D dN mr mz s r z H locs → lv_has ls 10 [(0, .ref o), (1, .ref mw), (2, .int (nI nb))] → W p l e R s m args below meth c H locs cells slots Q (F0 m 258 ls [])) : ∀ (i : Nat) (r : Nat → Nat) (H : Heap) (locs : List Loc) (ls : Array Slot), i ≤ 8 * nb → (∀ j, j < 33 → r j < 256) → num 33 r = num nb d / 2 ^ i % nL → dvS D dN mr mz s r z H locs → lv_has ls 10 [(3, .int (lI i)), (0, .ref o), (1, .ref mw), (2, .int (nI nb))] → W p l e R s m args below meth c H locs cells slots Q (F0 m 28 ls []) := by
  have C0 := C
  obtain ⟨hx, hb, hown, hts, hK, hR0, hne⟩ := C
  intro i
  induction i with
  | zero =>
    intro r H locs ls hi hr hn hS hl
    refine lv_iload_n hx hb dX1_divide_28 rfl (lv_at hl 0 rfl) ?_
    refine lv_if_lt (tgt := 258) hx hb dX1_divide_29 (by decide) (fun _ => ?_) (fun c1 => absurd (by decide +kernel) c1)
    rw [Nat.pow_zero, Nat.div_one] at hn
    exact kk r H locs ls hr hn hS (lv_sub hl [1, 2, 3] rfl)
  | succ i ih =>
    intro r H locs ls hi hr hn hS0 hl
    have hl : lv_has ls 10 [(3, .int (nI i)), (0, .ref o), (1, .ref mw), (2, .int (nI nb))] := hl
    have tail : ∀ (r2 : Nat → Nat) (H : Heap) (locs : List Loc) (ls : Array Slot), (∀ j, j < 33 → r2 j < 256) → num 33 r2 = num nb d / 2 ^ i % nL → dvS D dN mr mz s r2 z H locs → lv_has ls 10 [(3, .int (nI i)), (0, .ref o), (1, .ref mw), (2, .int (nI nb))] → W p l e R s m args below meth c H locs cells slots Q (F0 m 252 ls []) := by
      intro r2 H locs ls hr2 hn2 hS2 hl
      refine lv_iinc (v := lI i) (lv' := [(3, .int (lI i)), (0, .ref o), (1, .ref mw), (2, .int (nI nb))]) hx hb dX1_divide_252 hl (k := 0) rfl (lI_dec i) (by decide) rfl (fun ls hl => ?_)
      refine lv_goto (tgt := 28) hx hb dX1_divide_255 (by decide) ?_
      exact ih r2 H locs ls (by omega) hr2 hn2 hS2 hl
    have hrl : num 33 r < nL := by rw [hn]; exact Nat.mod_lt _ (by decide)
    have hR := hR0.ro hS0.2.2 hne
    have hdi := hd (i / 8) (by omega)
    refine lv_iload_n hx hb dX1_divide_28 rfl (lv_at hl 0 rfl) ?_
    refine lv_if_lt (tgt := 258) hx hb dX1_divide_29 (by decide) (fun c1 => absurd c1 (nI_pos (by omega))) (fun _ => ?_)
    refine lv_aload_n hx hb dX1_divide_32 rfl (lv_at hl 2 rfl) ?_
    refine lv_iload_n hx hb dX1_divide_33 rfl (lv_at hl 0 rfl) ?_
    refine lv_iconst (v := 3) hx hb dX1_divide_34 (by decide) ?_
    refine lv_ishr hx hb dX1_divide_35 ?_
    refine wt_i (y := nI (i / 8)) (shr3N (by omega)) ?_
    refine va_iald hx hb hK hR 1 1 rfl rfl (vin (by omega) (by decide)) dX1_divide_36 ?_
    refine wt_i (y := nI (d (i / 8))) (congrArg (nf d) (ncl (by omega))) ?_
    refine lv_iload_n hx hb dX1_divide_37 rfl (lv_at hl 0 rfl) ?_
    refine lv_bipush (v := 7) hx hb dX1_divide_38 (by decide) ?_
    refine lv_iand hx hb dX1_divide_40 ?_
    refine wt_i (y := nI (i % 8)) (and7N (by omega)) ?_
    refine lv_ishr hx hb dX1_divide_41 ?_
    refine wt_i (y := nI (d (i / 8) / 2 ^ (i % 8))) (shrVN (by omega) (Nat.mod_lt _ (by decide))) ?_
    have hle := Nat.div_le_self (d (i / 8)) (2 ^ (i % 8))
    refine lv_iconst (v := 1) hx hb dX1_divide_42 (by decide) ?_
    refine lv_iand hx hb dX1_divide_43 ?_
    refine wt_i (y := nI (num nb d / 2 ^ i % 2)) (by rw [and1N (by omega), num_bit (fun j hj => hd j (by omega)) (by omega)]) ?_
    refine lv_istore (lv' := [(4, .int (nI (num nb d / 2 ^ i % 2))), (3, .int (nI i)), (0, .ref o), (1, .ref mw), (2, .int (nI nb))]) hx hb dX1_divide_44 hl (by decide) rfl (fun ls hl => ?_)
    refine lv_iconst (v := nI 0) hx hb dX1_divide_46 (by decide) ?_
    refine lv_istore (lv' := [(5, .int (nI 0)), (4, .int (nI (num nb d / 2 ^ i % 2))), (3, .int (nI i)), (0, .ref o), (1, .ref mw), (2, .int (nI nb))]) hx hb dX1_divide_47 hl (by decide) rfl (fun ls hl => ?_)
    have hbit : num nb d / 2 ^ i % 2 ≤ 1 := by omega
    generalize hbe : num nb d / 2 ^ i % 2 = bit at *
    refine dv_dbl C0 (x3 := nI i) (nb := nb) (c0 := bit) (r := r) ?_ 33 0 bit r H locs ls rfl (dblI_0 hr hbit) hS0 (lv_sub hl [0, 1, 2, 3, 4, 5] rfl)
    intro r1 c1 H locs ls hI hS1 hl
    have h1 := dblI_33 hI hrl hbit
    rw [hn, ← hbe] at h1
    obtain ⟨g1, g2, g3⟩ := div_step h1
    have htop := num_top (r := r1) (Nat.lt_trans g1 nL_lt)
    have hr1 := hI.1
    obtain ⟨hP, hD, hS⟩ := hS1
    have hR := hR0.ro hS hne
    refine lv_bipush (v := nI 31) hx hb dX1_divide_96 (by decide) ?_
    refine lv_istore (lv' := [(5, .int (nI 31)), (3, .int (nI i)), (0, .ref o), (1, .ref mw), (2, .int (nI nb))]) hx hb dX1_divide_98 hl (by decide) rfl (fun ls hl => ?_)
    refine lv_aload_n hx hb dX1_divide_100 rfl (lv_at hl 2 rfl) ?_
    refine va_get (D := D) (ci := 1) (v := .ref mr) (C := RX1) (T := TX1) (N := 4) hx hb hts in_X1 hown hK hR 0 rfl rfl 3 (by decide) (hts _ q121) (fun _ h9 => h9) rfl dX1_divide_101 ?_
    refine lv_bipush (v := nI 32) hx hb dX1_divide_104 (by decide) ?_
    refine va_iald hx hb hK hP 0 1 rfl rfl (vin (by omega) (by decide)) dX1_divide_106 ?_
    refine wt_i (y := nI (r1 32)) (congrArg (nf r1) (ncl (by omega))) ?_
    refine wt_i (y := nI 0) (by rw [htop.1]) ?_
    refine lv_if_eq (tgt := 114) hx hb dX1_divide_107 (by decide) (fun _ => ?_) (fun c2 => absurd (show nI 0 = 0 from rfl) c2)
    refine lv_iconst (v := nI 0) hx hb dX1_divide_114 (by decide) ?_
    refine lv_istore (lv' := [(6, .int (nI 0)), (5, .int (nI 31)), (3, .int (nI i)), (0, .ref o), (1, .ref mw), (2, .int (nI nb))]) hx hb dX1_divide_115 hl (by decide) rfl (fun ls hl => ?_)
    refine lv_iload hx hb dX1_divide_117 (lv_at hl 0 rfl) ?_
    refine lv_if_ne (tgt := 177) hx hb dX1_divide_119 (by decide) (fun c2 => absurd (show nI 0 = 0 from rfl) c2) (fun _ => ?_)
    refine dv_cmp C0 (x3 := nI i) (nb := nb) (r := r1) ⟨hP, hD, hS⟩ (fun j hj => hr1 j (by omega)) ?_ 31 ls (by decide) (fun j h1 h2 => by omega) (lv_sub hl [1, 2, 3, 4, 5] rfl)
    intro ls hl
    rw [htop.2] at hl
    by_cases hc : num 33 r1 < nL
    · rw [if_pos hc] at hl
      refine lv_iload hx hb dX1_divide_177 (lv_at hl 0 rfl) ?_
      refine lv_if_eq (tgt := 252) hx hb dX1_divide_179 (by decide) (fun _ => ?_) (fun c2 => absurd (show nI 0 = 0 from rfl) c2)
      exact tail r1 H locs ls hr1 (g2 hc) ⟨hP, hD, hS⟩ (lv_sub hl [1, 2, 3, 4] rfl)
    · rw [if_neg hc] at hl
      refine lv_iload hx hb dX1_divide_177 (lv_at hl 0 rfl) ?_
      refine lv_if_eq (tgt := 252) hx hb dX1_divide_179 (by decide) (fun c2 => absurd c2 (by decide +kernel)) (fun _ => ?_)
      refine lv_iconst (v := bV 0) hx hb dX1_divide_182 (by decide) ?_
      refine lv_istore (lv' := [(7, .int (bV 0)), (6, .int (nI 1)), (3, .int (nI i)), (0, .ref o), (1, .ref mw), (2, .int (nI nb))]) hx hb dX1_divide_183 hl (by decide) rfl (fun ls hl => ?_)
      refine lv_iconst (v := nI 0) hx hb dX1_divide_185 (by decide) ?_
      refine lv_istore (lv' := [(8, .int (nI 0)), (7, .int (bV 0)), (6, .int (nI 1)), (3, .int (nI i)), (0, .ref o), (1, .ref mw), (2, .int (nI nb))]) hx hb dX1_divide_186 hl (by decide) rfl (fun ls hl => ?_)
      have hge : nL ≤ num 33 r1 := Nat.not_lt.mp hc
      refine dv_sub C0 (x3 := nI i) (nb := nb) (r := r1) ?_ 33 0 0 r1 H locs ls rfl (subI_0 hr1) ⟨hP, hD, hS⟩ (lv_sub hl [0, 1, 3, 4, 5, 6] rfl)
      intro r2 b H locs ls hI2 hS2 hl
      exact tail r2 H locs ls hI2.1 (by rw [subI_33 hI2 hge]; exact g3 hge) hS2 hl
set_option maxHeartbeats 4000000 in
set_option maxRecDepth 100000 in
theorem dv_cpy (C : dvC p c s m args D dB dN o mw mz mo mr d) {nb : Nat} {r : Nat → Nat} (kk : ∀ (z1 : Nat → Nat) (H : Heap) (locs : List Loc) (ls : Array Slot), (∀ j, j < 32 → z1 j = r j) → dvS D dN mr mz s r z1 H locs → lv_has ls 10 [(0, .ref o), (1, .ref mw), (2, .int (nI nb))] → W p l e R s m args below meth c H locs cells slots Q (F0 m 284 ls [])) : ∀ (n k : Nat) (z1 : Nat → Nat) (H : Heap) (locs : List Loc) (ls : Array Slot), k + n = 32 → (∀ j, j < k → z1 j = r j) → dvS D dN mr mz s r z1 H locs → lv_has ls 10 [(3, .int (nI k)), (0, .ref o), (1, .ref mw), (2, .int (nI nb))] → W p l e R s m args below meth c H locs cells slots Q (F0 m 260 ls []) := by
  obtain ⟨hx, hb, hown, hts, hK, hR0, hne⟩ := C
  intro n
  induction n with
  | zero =>
    intro k z1 H locs ls hk hz ⟨hP, hD, hS⟩ hl
    refine lv_iload_n hx hb dX1_divide_260 rfl (lv_at hl 0 rfl) ?_
    refine lv_bipush (v := nI 32) hx hb dX1_divide_261 (by decide) ?_
    refine lv_icmp_ge (tgt := 284) hx hb dX1_divide_263 (by decide) (fun _ => ?_) (fun c1 => absurd ((nI_leI (by decide) (by omega)).mpr (by omega)) c1)
    exact kk z1 H locs ls (fun j hj => hz j (by omega)) ⟨hP, hD, hS⟩ (lv_sub hl [1, 2, 3] rfl)
  | succ n ih =>
    intro k z1 H locs ls hk hz ⟨hP, hD, hS⟩ hl
    have hR := hR0.ro hS hne
    refine lv_iload_n hx hb dX1_divide_260 rfl (lv_at hl 0 rfl) ?_
    refine lv_bipush (v := nI 32) hx hb dX1_divide_261 (by decide) ?_
    refine lv_icmp_ge (tgt := 284) hx hb dX1_divide_263 (by decide) (fun c1 => absurd ((nI_leI (by decide) (by omega)).mp c1) (by omega)) (fun _ => ?_)
    refine lv_aload_n hx hb dX1_divide_266 rfl (lv_at hl 1 rfl) ?_
    refine va_get (D := D) (ci := 1) (v := .ref mz) (C := RX1) (T := TX1) (N := 4) hx hb hts in_X1 hown hK hR 0 rfl rfl 1 (by decide) (hts _ q119) (fun _ h9 => h9) rfl dX1_divide_267 ?_
    refine lv_iload_n hx hb dX1_divide_270 rfl (lv_at hl 0 rfl) ?_
    refine lv_aload_n hx hb dX1_divide_271 rfl (lv_at hl 1 rfl) ?_
    refine va_get (D := D) (ci := 1) (v := .ref mr) (C := RX1) (T := TX1) (N := 4) hx hb hts in_X1 hown hK hR 0 rfl rfl 3 (by decide) (hts _ q121) (fun _ h9 => h9) rfl dX1_divide_272 ?_
    refine lv_iload_n hx hb dX1_divide_275 rfl (lv_at hl 0 rfl) ?_
    refine va_iald hx hb hK hP 0 1 rfl rfl (vin (by omega) (by decide)) dX1_divide_276 ?_
    refine wt_i (y := nI (r k)) (congrArg (nf r) (ncl (by omega))) ?_
    refine va_iast hx hb hK hP hD hS 1 1 rfl rfl (vin (by omega) (by decide)) dX1_divide_277 (fun H locs hP hD hS => ?_)
    have eq1 : upd (nf z1) (nI k).toNatClampNeg (nI (r k)) = nf (updN z1 k (r k)) := by rw [ncl (by omega), upd_nf]
    rw [eq1] at hP hD
    refine lv_iinc (v := nI (k + 1)) (lv' := [(3, .int (nI (k + 1))), (0, .ref o), (1, .ref mw), (2, .int (nI nb))]) hx hb dX1_divide_278 hl (k := 0) rfl (nI_1 k) (by decide) rfl (fun ls hl => ?_)
    refine lv_goto (tgt := 260) hx hb dX1_divide_281 (by decide) ?_
    exact ih (k + 1) (updN z1 k (r k)) H locs ls (by omega) (fun j hj => by
      by_cases e : j = k
      · subst e; exact updN_s
      · rw [updN_n e]; exact hz j (by omega)) ⟨hP, hD, hS⟩ hl
end
set_option maxHeartbeats 4000000 in
set_option maxRecDepth 100000 in
/-- divide: z is the rest of the lower nb digits by the order -/
theorem metX1_divide (l : Launch) (D : va_G) (dB dN : ClassId) (o mw mz mo mr : Nat) (d r0 z0 : Nat → Nat) (nb : Nat) (h1 : 0 < nb) (hnb : nb ≤ 64) (hd : ∀ j, j < 64 → d j < 256) : Met l yX1_divide (ws_ yX1_divide cX1_divide 10 none) ({ frames := 0, cells := 0, slots := 0, locals := 0 }) (PcH D dB dN [.ref o, .ref mw, .int (nI nb)] [(o, mX mw mz mo mr), (mw, .inl (dN, 64, .inl (nf d))), (mo, .inl (dN, 32, .inl (nf oD))), (mr, .inl (dN, 33, .inl (nf r0))), (mz, .inl (dN, 32, .inl (nf z0)))]) (Q2 (.returned none) mr dN 33 mz dN 32 (fun g1 g2 => (∃ r, g1 = nf r) ∧ ∃ z1 : Nat → Nat, g2 = nf z1 ∧ (∀ j, j < 32 → z1 j < 256) ∧ num 32 z1 = num nb d % nL)) 0 0 (fun x => x = mr ∨ x = mz) := by
  refine Met.ofW (cc := cX1_divide) (maxL := 10) (ret := none) (by decide) rfl ?_
  intro p e s m args below meth c s₁ B hml hv
  obtain ⟨rfl, hP, hK, hD0⟩ := hv
  have hx := B.exec
  have hb := B.bytes
  have hr := B.returns
  have hts := atoms_spec (ws := ws_ yX1_divide cX1_divide 10 _) B.pre
  have hts : ∀ w ∈ lw_all, w.before _ s = true := fun w h => hts w (List.mem_cons_of_mem _ h)
  have hown : s.vm.findClass RX1 = some m.cls := findClass_of_methodNamed B.named
  have hlocks := B.notSynchronized
  have hl := lv_entry ([.ref o, .ref mw, .int (nI nb)]) (n := 10) (Nat.le_of_ble_eq_true rfl)
  rw [lg_entry_eq]
  generalize (lg_sl ([.ref o, .ref mw, .int (nI nb)]) ++ List.replicate (10 - (lg_sl ([.ref o, .ref mw, .int (nI nb)])).length) Slot.unset).toArray = ls at hl ⊢
  have hl : lv_has ls 10 [(0, .ref o), (1, .ref mw), (2, .int (nI nb))] := hl
  have hr_ := hr
  have hS : va_S (fun x => x = mr ∨ x = mz) s.heap s.heap [] := va_S.rf
  have hne : ∀ q ∈ roM dN o mw mz mo mr d, ¬ (q.1 = mr ∨ q.1 = mz) := fun q hq => by
    simp only [roM, List.mem_cons, List.not_mem_nil, or_false] at hq
    rcases hq with rfl | rfl | rfl
    · exact fun z => z.elim (hD0.ne (i := 0) (j := 3) rfl rfl (by decide)) (hD0.ne (i := 0) (j := 4) rfl rfl (by decide))
    · exact fun z => z.elim (hD0.ne (i := 1) (j := 3) rfl rfl (by decide)) (hD0.ne (i := 1) (j := 4) rfl rfl (by decide))
    · exact fun z => z.elim (hD0.ne (i := 2) (j := 3) rfl rfl (by decide)) (hD0.ne (i := 2) (j := 4) rfl rfl (by decide))
  have C : dvC p c s m ([.ref o, .ref mw, .int (nI nb)] : List Value).toArray D dB dN o mw mz mo mr d := ⟨hx, hb, hown, hts, hK, hP.sub [0, 1, 2] rfl, hne⟩
  have hS0 : dvS D dN mr mz s r0 z0 s.heap [] := ⟨hP.sub [3, 4] rfl, va_D.to2 (hD0.sub [3, 4] (by decide) rfl), hS⟩
  refine lv_iconst (v := nI 0) hx hb dX1_divide_0 (by decide) ?_
  refine lv_istore_n (lv' := [(3, .int (nI 0)), (0, .ref o), (1, .ref mw), (2, .int (nI nb))]) hx hb dX1_divide_1 rfl hl (by decide) rfl (fun ls hl => ?_)
  refine dv_zero C (nb := nb) ?_ 33 0 r0 s.heap [] ls rfl (fun j hj => by omega) hS0 hl
  intro r H locs ls hz hS1 hl
  refine lv_bipush (v := nI 8) hx hb dX1_divide_21 (by decide) ?_
  refine lv_iload_n hx hb dX1_divide_23 rfl (lv_at hl 2 rfl) ?_
  refine lv_imul hx hb dX1_divide_24 ?_
  refine wt_i (y := nI (8 * nb)) (pk_mul 8 nb) ?_
  refine lv_iconst (v := 1) hx hb dX1_divide_25 (by decide) ?_
  refine lv_isub hx hb dX1_divide_26 ?_
  refine wt_i (y := lI (8 * nb)) (by obtain ⟨n, hn⟩ : ∃ n, 8 * nb = n + 1 := ⟨8 * nb - 1, by omega⟩; rw [hn]; exact nI_pred n) ?_
  refine lv_istore_n (lv' := [(3, .int (lI (8 * nb))), (0, .ref o), (1, .ref mw), (2, .int (nI nb))]) hx hb dX1_divide_27 rfl hl (by decide) rfl (fun ls hl => ?_)
  have hz0 : num 33 r = 0 := by rw [num_congr (b := fun _ => 0) 33 hz]; decide +kernel
  have hN := num_lt nb (fun j hj => hd j (by omega))
  refine dv_main C (nb := nb) hnb hd ?_ (8 * nb) r H locs ls (Nat.le_refl _) (fun j hj => by rw [hz j hj]; decide) (by rw [hz0, Nat.div_eq_of_lt (by rw [Nat.pow_mul]; exact hN)]; rfl) hS1 hl
  intro r H locs ls hr hn hS2 hl
  refine lv_iconst (v := nI 0) hx hb dX1_divide_258 (by decide) ?_
  refine lv_istore_n (lv' := [(3, .int (nI 0)), (0, .ref o), (1, .ref mw), (2, .int (nI nb))]) hx hb dX1_divide_259 rfl hl (by decide) rfl (fun ls hl => ?_)
  refine dv_cpy C (nb := nb) ?_ 32 0 z0 H locs ls rfl (fun j hj => by omega) hS2 hl
  intro z1 H locs ls hz1 hS3 hl
  obtain ⟨hP, hD, hS⟩ := hS3
  have hL : num 33 r < 256 ^ 32 := Nat.lt_of_lt_of_le (by rw [hn]; exact Nat.mod_lt _ (by decide)) (by have := nL_lt; omega)
  have htop := num_top hL
  exact W.vret hx hb hr_ (fun t ht hW => ⟨_, _, rfl, ⟨⟨r, rfl⟩, z1, rfl, fun j hj => by rw [hz1 j hj]; exact hr j (by omega), by rw [num_congr (b := r) 32 hz1, htop.2, hn]⟩, by rw [ht]; exact hP 0 _ rfl, by rw [ht]; exact hP 1 _ rfl, by rw [ht]; exact hS.1, fun x h1 h2 h3 => by rw [ht]; exact hS.2.1 x h1 (fun z => z.elim h2 h3)⟩) hS.2.2 dX1_divide_284
set_option maxHeartbeats 4000000 in
set_option maxRecDepth 100000 in
/-- X1_reduce -/
theorem metX1_reduce (l : Launch) (D : va_G) (dB dN : ClassId) (o mw mz mo mr : Nat) (d r0 z0 : Nat → Nat) (hd : ∀ j, j < 64 → d j < 256) : Met l yX1_reduce (ws_ yX1_reduce cX1_reduce 1 none) ({ frames := 1, cells := 0, slots := 0, locals := 29 }) (PcH D dB dN [.ref o] [(o, mX mw mz mo mr), (mw, .inl (dN, 64, .inl (nf d))), (mo, .inl (dN, 32, .inl (nf oD))), (mr, .inl (dN, 33, .inl (nf r0))), (mz, .inl (dN, 32, .inl (nf z0)))]) (Q2 (.returned none) mr dN 33 mz dN 32 (fun g1 g2 => (∃ r, g1 = nf r) ∧ ∃ z1 : Nat → Nat, g2 = nf z1 ∧ (∀ j, j < 32 → z1 j < 256) ∧ num 32 z1 = num 64 d % nL)) 0 0 (fun x => x = mr ∨ x = mz) := by
  refine Met.ofW (cc := cX1_reduce) (maxL := 1) (ret := none) (by decide) rfl ?_
  intro p e s m args below meth c s₁ B hml hv
  obtain ⟨rfl, hP, hK, hD0⟩ := hv
  have hx := B.exec
  have hb := B.bytes
  have hr := B.returns
  have hts := atoms_spec (ws := ws_ yX1_reduce cX1_reduce 1 _) B.pre
  have hts : ∀ w ∈ lw_all, w.before _ s = true := fun w h => hts w (List.mem_cons_of_mem _ h)
  have hown : s.vm.findClass RX1 = some m.cls := findClass_of_methodNamed B.named
  have hlocks := B.notSynchronized
  have hl := lv_entry ([.ref o]) (n := 1) (Nat.le_of_ble_eq_true rfl)
  rw [lg_entry_eq]
  generalize (lg_sl ([.ref o]) ++ List.replicate (1 - (lg_sl ([.ref o])).length) Slot.unset).toArray = ls at hl ⊢
  have hl : lv_has ls 1 [(0, .ref o)] := hl
  have hS : va_S (fun x => x = mr ∨ x = mz) s.heap s.heap [] := va_S.rf
  have hR := hP
  have hP : va_P D vwCl [(mr, .inl (dN, 33, .inl (nf r0))), (mz, .inl (dN, 32, .inl (nf z0)))] s.heap := hP.sub [3, 4] rfl
  have hD : va_D (fun x => x = mr ∨ x = mz) [(mr, .inl (dN, 33, .inl (nf r0))), (mz, .inl (dN, 32, .inl (nf z0)))] := va_D.to2 (hD0.sub [3, 4] (by decide) rfl)
  refine lv_aload_n hx hb dX1_reduce_0 rfl (lv_at hl 0 rfl) ?_
  refine lv_aload_n hx hb dX1_reduce_1 rfl (lv_at hl 0 rfl) ?_
  refine va_get (D := D) (ci := 1) (v := .ref mw) (C := RX1) (T := TX1) (N := 4) hx hb hts in_X1 hown hK hR 0 rfl rfl 0 (by decide) (hts _ q118) (fun _ h9 => h9) rfl dX1_reduce_2 ?_
  refine lv_bipush (v := nI 64) hx hb dX1_reduce_5 (by decide) ?_
  refine wc_two (k1 := 0) (k2 := 1) (W.runV (As := [.ref mw, .int (nI 64)]) (rest := []) ⟨hx, hb, hml, hown, hts⟩ (metX1_divide l D dB dN o mw mz mo mr d r0 z0 64 (by decide) (by decide) hd) (cwV 2 hts (lw_V q143 q145 qs1 q4 q146) rfl rfl rfl (by decide +kernel) ⟨Nat.le_of_ble_eq_true rfl, Nat.le_of_ble_eq_true rfl⟩) (PcH.preV RX1 0 1 rfl rfl rfl hR hR hK hD0) rfl rfl hl.1 rfl (lv_room (Nat.le_of_ble_eq_true rfl)) dX1_reduce_7 ⟨Nat.le_refl _, Nat.le_refl _⟩) hP hD hS rfl rfl (by decide) (fun x h => h) (fun g1 g2 H locs hg hP hD hS => ?_)
  exact W.vret hx hb hr (fun t ht hW => ⟨g1, g2, rfl, hg, by rw [ht]; exact hP 0 _ rfl, by rw [ht]; exact hP 1 _ rfl, by rw [ht]; exact hS.1, fun x h1 h2 h3 => by rw [ht]; exact hS.2.1 x h1 (fun z => z.elim h2 h3)⟩) hS.2.2 dX1_reduce_10
set_option maxHeartbeats 4000000 in
set_option maxRecDepth 100000 in
/-- X1_reduceLess -/
theorem metX1_reduceLess (l : Launch) (D : va_G) (dB dN : ClassId) (o mw mz mo mr : Nat) (d r0 z0 : Nat → Nat) (hd : ∀ j, j < 64 → d j < 256) : Met l yX1_reduceLess (ws_ yX1_reduceLess cX1_reduceLess 1 none) ({ frames := 1, cells := 0, slots := 0, locals := 29 }) (PcH D dB dN [.ref o] [(o, mX mw mz mo mr), (mw, .inl (dN, 64, .inl (nf d))), (mo, .inl (dN, 32, .inl (nf oD))), (mr, .inl (dN, 33, .inl (nf r0))), (mz, .inl (dN, 32, .inl (nf z0)))]) (Q2 (.returned none) mr dN 33 mz dN 32 (fun g1 g2 => (∃ r, g1 = nf r) ∧ ∃ z1 : Nat → Nat, g2 = nf z1 ∧ (∀ j, j < 32 → z1 j < 256) ∧ num 32 z1 = num 48 d % nL)) 0 0 (fun x => x = mr ∨ x = mz) := by
  refine Met.ofW (cc := cX1_reduceLess) (maxL := 1) (ret := none) (by decide) rfl ?_
  intro p e s m args below meth c s₁ B hml hv
  obtain ⟨rfl, hP, hK, hD0⟩ := hv
  have hx := B.exec
  have hb := B.bytes
  have hr := B.returns
  have hts := atoms_spec (ws := ws_ yX1_reduceLess cX1_reduceLess 1 _) B.pre
  have hts : ∀ w ∈ lw_all, w.before _ s = true := fun w h => hts w (List.mem_cons_of_mem _ h)
  have hown : s.vm.findClass RX1 = some m.cls := findClass_of_methodNamed B.named
  have hlocks := B.notSynchronized
  have hl := lv_entry ([.ref o]) (n := 1) (Nat.le_of_ble_eq_true rfl)
  rw [lg_entry_eq]
  generalize (lg_sl ([.ref o]) ++ List.replicate (1 - (lg_sl ([.ref o])).length) Slot.unset).toArray = ls at hl ⊢
  have hl : lv_has ls 1 [(0, .ref o)] := hl
  have hS : va_S (fun x => x = mr ∨ x = mz) s.heap s.heap [] := va_S.rf
  have hR := hP
  have hP : va_P D vwCl [(mr, .inl (dN, 33, .inl (nf r0))), (mz, .inl (dN, 32, .inl (nf z0)))] s.heap := hP.sub [3, 4] rfl
  have hD : va_D (fun x => x = mr ∨ x = mz) [(mr, .inl (dN, 33, .inl (nf r0))), (mz, .inl (dN, 32, .inl (nf z0)))] := va_D.to2 (hD0.sub [3, 4] (by decide) rfl)
  refine lv_aload_n hx hb dX1_reduceLess_0 rfl (lv_at hl 0 rfl) ?_
  refine lv_aload_n hx hb dX1_reduceLess_1 rfl (lv_at hl 0 rfl) ?_
  refine va_get (D := D) (ci := 1) (v := .ref mw) (C := RX1) (T := TX1) (N := 4) hx hb hts in_X1 hown hK hR 0 rfl rfl 0 (by decide) (hts _ q118) (fun _ h9 => h9) rfl dX1_reduceLess_2 ?_
  refine lv_bipush (v := nI 48) hx hb dX1_reduceLess_5 (by decide) ?_
  refine wc_two (k1 := 0) (k2 := 1) (W.runV (As := [.ref mw, .int (nI 48)]) (rest := []) ⟨hx, hb, hml, hown, hts⟩ (metX1_divide l D dB dN o mw mz mo mr d r0 z0 48 (by decide) (by decide) hd) (cwV 2 hts (lw_V q143 q145 qs1 q4 q146) rfl rfl rfl (by decide +kernel) ⟨Nat.le_of_ble_eq_true rfl, Nat.le_of_ble_eq_true rfl⟩) (PcH.preV RX1 0 1 rfl rfl rfl hR hR hK hD0) rfl rfl hl.1 rfl (lv_room (Nat.le_of_ble_eq_true rfl)) dX1_reduceLess_7 ⟨Nat.le_refl _, Nat.le_refl _⟩) hP hD hS rfl rfl (by decide) (fun x h => h) (fun g1 g2 H locs hg hP hD hS => ?_)
  exact W.vret hx hb hr (fun t ht hW => ⟨g1, g2, rfl, hg, by rw [ht]; exact hP 0 _ rfl, by rw [ht]; exact hP 1 _ rfl, by rw [ht]; exact hS.1, fun x h1 h2 h3 => by rw [ht]; exact hS.2.1 x h1 (fun z => z.elim h2 h3)⟩) hS.2.2 dX1_reduceLess_10
end
section
/-! THE CLAIM OUT OF ONE WALK OF THE LAW'S BODY. Your part is whole_start (and what it stands on); all else here is the same for every law, but numbers. -/
def R_law : String := "WideScalarsLaw"
def lw_P (b : Addr) (xs : List Int32) (args : Array Value) (s : State) : Prop := args = #[.ref b] ∧ s.IntsAt b xs ∧ xs.length ≤ 384 ∧ (Jvm.Cond.and given_1 narrow_1).before args s = true
def lw_Q (_ : Array Value) (s : State) (o : Outcome) (t : State) : Prop := o = .returned (some (.int 1)) ∧ Framed s o t [] 600000 7302250
def lw_Z (below : List Frame) (a : Array Value) (s : State) : State → Prop := fun t => ∃ o, t.status = .running ∧ Ended t below o ∧ lw_Q a s o t
/-- the law's own end, with 1 on the stack, nothing written that was there before, its room as the claim has it -/
theorem lw_ret {p : Program} {l : Launch} {e : Env} {s : State} {m : MethodId} {below : List Frame} {meth : Method} {c : Code} {b : Nat} (hx : p.tables.exec = Jvm.exec) (hb : c.code = code) (hr : meth.sig.returnType = ret) (hlocks : meth.locks = false) {pc : Nat} {H : Heap} {ls : Array Slot} (hdg : decode code pc = .ok (.ireturn, 1)) : W p l e room_1 s m #[Value.ref b] below meth c H [] 600000 7302250 (lw_Z below #[Value.ref b] s) (F0 m pc ls [.int 1]) := by
  intro T hT X
  obtain ⟨fs, hret, hrun, hended, hW, hframe⟩ := X.leave (v := some (.int 1)) (hlocks := hlocks) (fun h => by rw [hr] at h; cases h)
  have hmeth' : T.vm.method? m = some meth := X.method'
  refine ⟨T.setFrames fs, ?_, .returned (some (.int 1)), hrun, hended, rfl, ⟨_, rfl⟩, hW, hframe⟩
  jvm_step X.here [X.here.top, hx, hb, hdg, hmeth', hr, ret, narrow_b1]
  (try refine ⟨rfl, ?_⟩); (try refine ⟨rfl, ?_⟩)
  first | (intro acts; rw [hret _ acts rfl rfl rfl]) | rw [hret _ _ rfl rfl rfl]
  exact Steps.refl _
/-- what holds at the law's entry: the machine, the code, the tables' words (any of lw_tbl by 'hts w (by decide +kernel)'), the script of L ints xs at the cell b, what the Statement gives of the start (any of its parts by flat_of_before) -/
def lw_At (p : Program) (s : State) (m : MethodId) (meth : Method) (c : Code) (b L : Nat) (xs : Nat → Int32) : Prop :=
  p.tables.exec = Jvm.exec ∧ c.code = code ∧ meth.sig.returnType = ret ∧ c.maxLocals = 4 ∧ s.vm.findClass R_law = some m.cls ∧ (∀ w ∈ lw_tbl, w.before #[Value.ref b] s = true) ∧ va_X b L xs s s.heap ∧ b < s.heap.size ∧ meth.locks = false ∧ (Jvm.Cond.and given_1 narrow_1).before #[Value.ref b] s = true
end
section
/-! ===== the law ===== -/
abbrev lwW (dB dN : ClassId) (xo aw az ax ay ap ao an mq mw mz mo mr nz : Nat) (fw fz fo fn : Nat → Int32) (g z r : Nat → Nat) : va_W := [(xo, oX aw az ax ay ap ao an), (aw, .inl (dB, 64, .inl fw)), (az, .inl (dB, nz, .inl fz)), (ao, .inl (dB, 32, .inl fo)), (an, .inl (dN, 8, .inl fn)), (mq, mX mw mz mo mr), (mw, .inl (dN, 64, .inl (nf g))), (mz, .inl (dN, 32, .inl (nf z))), (mo, .inl (dN, 32, .inl (nf oD))), (mr, .inl (dN, 33, .inl (nf r)))]
/-- both sides hold the same digits -/
def lwS (D : va_G) (dB dN : ClassId) (s : State) (xo mq : Nat) (H : Heap) (locs : List Loc) : Prop := ∃ (aw az ax ay ap ao an mw mz mo mr nz : Nat) (fw fz fo fn : Nat → Int32) (g z r : Nat → Nat), va_P D vwCl (lwW dB dN xo aw az ax ay ap ao an mq mw mz mo mr nz fw fz fo fn g z r) H ∧ va_D (fun q => s.heap.size ≤ q) (lwW dB dN xo aw az ax ay ap ao an mq mw mz mo mr nz fw fz fo fn g z r) ∧ va_S (fun q => s.heap.size ≤ q) s.heap H locs ∧ 32 ≤ nz ∧ nz < 2147483648 ∧ (∀ j, j < 64 → ub (fw j) = g j) ∧ (∀ j, j < 32 → ub (fz j) = z j)
theorem same_digits {gz : Nat → Int32} {z1 : Nat → Nat} {X : Nat} (h1 : num 32 (fun j => ub (gz j)) = X) (h2 : num 32 z1 = X) (h3 : ∀ j, j < 32 → z1 j < 256) : ∀ j, j < 32 → ub (gz j) = z1 j := num_inj 32 (fun i _ => ub_lt _) h3 (h1.trans h2.symm)
/-- the order's table, known at the start -/
theorem lw_tab {b : Nat} {s : State} {A : Nat → Prop} (hts0 : ∀ w ∈ lw_tbl, w.before #[Value.ref b] s = true) (hgv : (Jvm.Cond.and given_1 narrow_1).before #[Value.ref b] s = true) (hA : ∀ a : Nat, a < s.heap.size → ¬ A a) : ∃ t : Nat, va_Z RX2 "L" "[I" (.ref t) A s s.heap ∧ va_T .int t 8 lWv A s s.heap := by
  have hs := flat_of_before _ hgv
  have harr : (Cond.arrayOf (.static "Scalar25519" "L" "[I") .int).before #[Value.ref b] s = true := hs _ (by decide +kernel)
  have hlen : (Cond.eq (.length (.static "Scalar25519" "L" "[I")) (.int 8)).before #[Value.ref b] s = true := hs _ (by decide +kernel)
  have e0 : (Cond.eq (.elem (.static "Scalar25519" "L" "[I") (.int 0)) (.int 1559614445)).before #[Value.ref b] s = true := hs _ (by decide +kernel)
  have e1 : (Cond.eq (.elem (.static "Scalar25519" "L" "[I") (.int 1)) (.int 1477600026)).before #[Value.ref b] s = true := hs _ (by decide +kernel)
  have e2 : (Cond.eq (.elem (.static "Scalar25519" "L" "[I") (.int 2)) (.int (-1560830762))).before #[Value.ref b] s = true := hs _ (by decide +kernel)
  have e3 : (Cond.eq (.elem (.static "Scalar25519" "L" "[I") (.int 3)) (.int 350157278)).before #[Value.ref b] s = true := hs _ (by decide +kernel)
  have e4 : (Cond.eq (.elem (.static "Scalar25519" "L" "[I") (.int 4)) (.int 0)).before #[Value.ref b] s = true := hs _ (by decide +kernel)
  have e5 : (Cond.eq (.elem (.static "Scalar25519" "L" "[I") (.int 5)) (.int 0)).before #[Value.ref b] s = true := hs _ (by decide +kernel)
  have e6 : (Cond.eq (.elem (.static "Scalar25519" "L" "[I") (.int 6)) (.int 0)).before #[Value.ref b] s = true := hs _ (by decide +kernel)
  have e7 : (Cond.eq (.elem (.static "Scalar25519" "L" "[I") (.int 7)) (.int 268435456)).before #[Value.ref b] s = true := hs _ (by decide +kernel)
  obtain ⟨t, ht, hT⟩ := va_Tof (tm := .static "Scalar25519" "L" "[I") (ty := .int) (N := 8) (f := lWv) (A := A) (by decide) harr (va_eqt hlen) (fun j hj => by
    rcases (by omega : j = 0 ∨ j = 1 ∨ j = 2 ∨ j = 3 ∨ j = 4 ∨ j = 5 ∨ j = 6 ∨ j = 7) with rfl | rfl | rfl | rfl | rfl | rfl | rfl | rfl
    · exact va_eqt e0
    · exact va_eqt e1
    · exact va_eqt e2
    · exact va_eqt e3
    · exact va_eqt e4
    · exact va_eqt e5
    · exact va_eqt e6
    · exact va_eqt e7) hA
  exact ⟨t, va_Zref (hts0 _ q107) (hts0 _ (lw_all_tbl q5)) ht hA, hT⟩
/-- the classes, known at the start -/
theorem lw_cls {b : Nat} {s : State} (hts0 : ∀ w ∈ lw_tbl, w.before #[Value.ref b] s = true) : ∃ (D : va_G) (dB dN : ClassId), va_K D vwCl (tyL dB dN) s := by
  obtain ⟨c0_, iS0, hKn0⟩ := u_known (C := RX0) (T := TX0) (N := 7) (n := 7) hts0 (fun w h => lw_all_tbl (in_X0 w h)) (hts0 _ (lw_all_tbl q9))
  obtain ⟨c1_, iS1, hKn1⟩ := u_known (C := RX1) (T := TX1) (N := 4) (n := 4) hts0 (fun w h => lw_all_tbl (in_X1 w h)) (hts0 _ (lw_all_tbl q113))
  obtain ⟨dB, hB1, hB2⟩ := arr_known .byte (Or.inl rfl) (hts0 _ (lw_all_tbl q38))
  obtain ⟨dN, hN1, hN2⟩ := arr_known .int (Or.inr rfl) (hts0 _ (lw_all_tbl q39))
  refine ⟨(fun k => if k = 0 then c0_ else c1_, fun k => if k = 0 then iS0 else iS1), dB, dN, ?_, ?_⟩
  · intro k q hq
    match k, hq with
    | 0, hq => cases hq; exact hKn0
    | 1, hq => cases hq; exact hKn1
    | k + 2, hq => simp [vwCl] at hq
  · intro k q hq
    match k, hq with
    | 0, hq => cases hq; exact ⟨hB1, hB2⟩
    | 1, hq => cases hq; exact ⟨hN1, hN2⟩
    | k + 2, hq => simp [tyL] at hq

set_option maxHeartbeats 8000000 in
set_option maxRecDepth 100000 in
theorem law_loop {p : Program} {e : Env} {s : State} {m : MethodId} {below : List Frame} {meth : Method} {c : Code} (l : Launch) {b L : Nat} {xs : Nat → Int32} (hL : L ≤ 384) (C0 : lw_At p s m meth c b L xs) {D : va_G} {dB dN : ClassId} (hK : va_K D vwCl (tyL dB dN) s) {t : Nat} (hZ : va_Z RX2 "L" "[I" (.ref t) (fun q => s.heap.size ≤ q) s s.heap) (hT : va_T .int t 8 lWv (fun q => s.heap.size ≤ q) s s.heap) (xo mq : Nat) : ∀ (n i : Nat), i ≤ L → L + 1 ≤ i + n → ∀ (H : Heap) (locs : List Loc) (ls : Array Slot), lwS D dB dN s xo mq H locs → lv_has ls 4 [(3, .int (nI i)), (0, .ref b), (1, .ref xo), (2, .ref mq)] → W p l e room_1 s m #[Value.ref b] below meth c H locs (13 + 2 * i) (328 + 112 * i) (lw_Z below #[Value.ref b] s) (F0 m 18 ls []) := by
  obtain ⟨hx, hb, hr, hml, hown, hts0, hX, hbl, hlocks, hgv⟩ := C0
  have hts : ∀ w ∈ lw_all, w.before #[Value.ref b] s = true := fun w h => hts0 w (lw_all_tbl h)
  have hbA : ¬ s.heap.size ≤ b := Nat.not_le.mpr hbl
  have hA : ∀ q : Nat, s.heap.size ≤ q → s.heap.size ≤ q := fun _ h => h
  intro n
  induction n with
  | zero => intro i h1 h2; exact absurd h2 (by omega)
  | succ n ih =>
    intro i hi hin H locs ls hW hl
    have tail : i + 6 ≤ L → ∀ (H : Heap) (locs : List Loc) (ls : Array Slot), lwS D dB dN s xo mq H locs → lv_has ls 4 [(3, .int (nI i)), (0, .ref b), (1, .ref xo), (2, .ref mq)] → W p l e room_1 s m #[Value.ref b] below meth c H locs (13 + 2 * i + 2) (328 + 112 * i + 112) (lw_Z below #[Value.ref b] s) (F0 m 197 ls []) := by
      intro h6 H locs ls hW hl
      refine lv_iinc (v := nI (i + 6)) (lv' := [(3, .int (nI (i + 6))), (0, .ref b), (1, .ref xo), (2, .ref mq)]) hx hb dL_law_197 hl (k := 0) rfl (nI_add i 6) (by decide) rfl (fun ls hl => ?_)
      refine lv_goto (tgt := 18) hx hb dL_law_200 (by decide) ?_
      refine W.widen (k := 13 + 2 * (i + 6)) (n := 328 + 112 * (i + 6)) (by omega) (by omega) ?_
      exact ih (i + 6) h6 (by omega) H locs ls hW hl
    obtain ⟨aw, az, ax, ay, ap, ao, an, mw, mz, mo, mr, nz, fw, fz, fo, fn, g, z, r, hP, hD, hS, hnz1, hnz2, hwg, hzz⟩ := hW
    have hg : ∀ j, j < 64 → g j < 256 := fun j hj => by rw [← hwg j hj]; exact ub_lt _
    have hz : ∀ j, j < 32 → z j < 256 := fun j hj => by rw [← hzz j hj]; exact ub_lt _
    refine lv_iload_n hx hb dL_law_18 rfl (lv_at hl 0 rfl) ?_
    refine lv_aload_n hx hb dL_law_19 rfl (lv_at hl 1 rfl) ?_
    refine va_slen hx hb hX hbl hbA hS dL_law_20 ?_
    refine wt_i (y := nI L) (rfl) ?_
    refine lv_bipush (v := 6) hx hb dL_law_21 (by decide) ?_
    refine lv_isub hx hb dL_law_23 ?_
    have hsub : (nI L - 6).toInt = (L : Int) - 6 := pk_sub_toInt (a := L) (b := 6) (by omega) (by decide)
    have hii : (nI i).toInt = (i : Int) := nI_toInt (by omega)
    refine lv_icmp_gt (tgt := 203) hx hb dL_law_24 (by decide) (fun _ => ?_) (fun c1 => ?_)
    · refine va_forget (fun q hq => hS.2.2 q hq) ?_
      refine W.widen (k := 600000) (n := 7302250) (by omega) (by omega) ?_
      refine lv_iconst (v := 1) hx hb dL_law_203 (by decide) ?_
      exact lw_ret hx hb hr hlocks dL_law_204
    · have h6 : i + 6 ≤ L := by
        rcases Nat.lt_or_ge L (i + 6) with q | q
        · exact absurd (Int32.lt_iff_toInt_lt.mpr (by rw [hsub, hii]; omega)) c1
        · exact q
      have tail := tail h6
      refine lv_aload_n hx hb dL_law_27 rfl (lv_at hl 1 rfl) ?_
      refine lv_iload_n hx hb dL_law_28 rfl (lv_at hl 0 rfl) ?_
      refine va_sld hx hb hX hbl hbA hS (vin (by omega) (by omega)) dL_law_29 ?_
      refine wt_i (y := xs i) (congrArg xs (ncl (by omega))) ?_
      refine lv_bipush (v := 15) hx hb dL_law_30 (by decide) ?_
      refine lv_iand hx hb dL_law_32 ?_
      refine wt_i (y := nI (uI (xs i) % 16)) (and15 _) ?_
      have hv16 : uI (xs i) % 16 < 16 := Nat.mod_lt _ (by decide)
      generalize uI (xs i) % 16 = v at *
      rcases (by omega : v = 0 ∨ v = 1 ∨ v = 2 ∨ v = 3 ∨ v = 4 ∨ 5 ≤ v) with rfl | rfl | rfl | rfl | rfl | hv
      · refine lv_tableIn (tgt := 68) (off := 35) hx hb dL_law_33 (by decide +kernel) (by decide +kernel) (by decide +kernel) (by decide) ?_
        refine lv_aload_n hx hb dL_law_68 rfl (lv_at hl 2 rfl) ?_
        refine lv_aload_n hx hb dL_law_69 rfl (lv_at hl 1 rfl) ?_
        refine lv_iload_n hx hb dL_law_70 rfl (lv_at hl 0 rfl) ?_
        refine lv_iconst (v := nI 1) hx hb dL_law_71 (by decide) ?_
        refine lv_iadd hx hb dL_law_72 ?_
        refine wt_i (y := nI (i + 1)) (nI_add i 1) ?_
        refine va_sld hx hb hX hbl hbA hS (vin (by omega) (by omega)) dL_law_73 ?_
        refine wt_i (y := xs (i + 1)) (congrArg xs (ncl (by omega))) ?_
        refine lv_aload_n hx hb dL_law_74 rfl (lv_at hl 1 rfl) ?_
        refine lv_iload_n hx hb dL_law_75 rfl (lv_at hl 0 rfl) ?_
        refine lv_iconst (v := nI 2) hx hb dL_law_76 (by decide) ?_
        refine lv_iadd hx hb dL_law_77 ?_
        refine wt_i (y := nI (i + 2)) (nI_add i 2) ?_
        refine va_sld hx hb hX hbl hbA hS (vin (by omega) (by omega)) dL_law_78 ?_
        refine wt_i (y := xs (i + 2)) (congrArg xs (ncl (by omega))) ?_
        refine lv_aload_n hx hb dL_law_79 rfl (lv_at hl 1 rfl) ?_
        refine lv_iload_n hx hb dL_law_80 rfl (lv_at hl 0 rfl) ?_
        refine lv_iconst (v := nI 3) hx hb dL_law_81 (by decide) ?_
        refine lv_iadd hx hb dL_law_82 ?_
        refine wt_i (y := nI (i + 3)) (nI_add i 3) ?_
        refine va_sld hx hb hX hbl hbA hS (vin (by omega) (by omega)) dL_law_83 ?_
        refine wt_i (y := xs (i + 3)) (congrArg xs (ncl (by omega))) ?_
        refine lv_aload_n hx hb dL_law_84 rfl (lv_at hl 1 rfl) ?_
        refine lv_iload_n hx hb dL_law_85 rfl (lv_at hl 0 rfl) ?_
        refine lv_iconst (v := nI 4) hx hb dL_law_86 (by decide) ?_
        refine lv_iadd hx hb dL_law_87 ?_
        refine wt_i (y := nI (i + 4)) (nI_add i 4) ?_
        refine va_sld hx hb hX hbl hbA hS (vin (by omega) (by omega)) dL_law_88 ?_
        refine wt_i (y := xs (i + 4)) (congrArg xs (ncl (by omega))) ?_
        refine lv_aload_n hx hb dL_law_89 rfl (lv_at hl 1 rfl) ?_
        refine lv_iload_n hx hb dL_law_90 rfl (lv_at hl 0 rfl) ?_
        refine lv_iconst (v := nI 5) hx hb dL_law_91 (by decide) ?_
        refine lv_iadd hx hb dL_law_92 ?_
        refine wt_i (y := nI (i + 5)) (nI_add i 5) ?_
        refine va_sld hx hb hX hbl hbA hS (vin (by omega) (by omega)) dL_law_93 ?_
        refine wt_i (y := xs (i + 5)) (congrArg xs (ncl (by omega))) ?_
        refine wc_set (k0 := 1) (W.runV (As := [.int (xs (i + 1)), .int (xs (i + 2)), .int (xs (i + 3)), .int (xs (i + 4)), .int (xs (i + 5))]) (rest := []) ⟨hx, hb, hml, hown, hts⟩ (metX0_wide l D dB dN xo aw az ax ay ap ao an fw (xs (i + 1)) (xs (i + 2)) (xs (i + 3)) (xs (i + 4)) (xs (i + 5))) (cwV 5 hts (lw_V q40 q41 q42 q3 q43) rfl rfl rfl (by decide +kernel) ⟨Nat.le_of_ble_eq_true rfl, Nat.le_of_ble_eq_true rfl⟩) (PcH.preV RX0 0 0 rfl rfl rfl hP (hP.sub [0, 1] rfl) hK (hD.sub [0, 1] (by decide) rfl)) rfl rfl hl.1 rfl (lv_room (Nat.le_of_ble_eq_true rfl)) dL_law_94 ⟨by show _ ≤ 600000; omega, by show _ ≤ 7302250; omega⟩) hP hD hS rfl (fun x h => by rw [h]; exact hD.2 1 _ rfl) (fun H locs hP hD hS => ?_)
        have hP : va_P D vwCl (lwW dB dN xo aw az ax ay ap ao an mq mw mz mo mr nz (wid fw (uI (xs (i + 1)) % 4) (xs (i + 2)) (xs (i + 3)) (xs (i + 4)) (xs (i + 5))) fz fo fn g z r) H := hP
        have hD : va_D (fun q => s.heap.size ≤ q) (lwW dB dN xo aw az ax ay ap ao an mq mw mz mo mr nz (wid fw (uI (xs (i + 1)) % 4) (xs (i + 2)) (xs (i + 3)) (xs (i + 4)) (xs (i + 5))) fz fo fn g z r) := hD
        refine W.eq (g2 := F0 m 97 ls []) rfl ?_
        refine lv_aload_n hx hb dL_law_97 rfl (lv_at hl 3 rfl) ?_
        refine lv_aload_n hx hb dL_law_98 rfl (lv_at hl 1 rfl) ?_
        refine lv_iload_n hx hb dL_law_99 rfl (lv_at hl 0 rfl) ?_
        refine lv_iconst (v := nI 1) hx hb dL_law_100 (by decide) ?_
        refine lv_iadd hx hb dL_law_101 ?_
        refine wt_i (y := nI (i + 1)) (nI_add i 1) ?_
        refine va_sld hx hb hX hbl hbA hS (vin (by omega) (by omega)) dL_law_102 ?_
        refine wt_i (y := xs (i + 1)) (congrArg xs (ncl (by omega))) ?_
        refine lv_aload_n hx hb dL_law_103 rfl (lv_at hl 1 rfl) ?_
        refine lv_iload_n hx hb dL_law_104 rfl (lv_at hl 0 rfl) ?_
        refine lv_iconst (v := nI 2) hx hb dL_law_105 (by decide) ?_
        refine lv_iadd hx hb dL_law_106 ?_
        refine wt_i (y := nI (i + 2)) (nI_add i 2) ?_
        refine va_sld hx hb hX hbl hbA hS (vin (by omega) (by omega)) dL_law_107 ?_
        refine wt_i (y := xs (i + 2)) (congrArg xs (ncl (by omega))) ?_
        refine lv_aload_n hx hb dL_law_108 rfl (lv_at hl 1 rfl) ?_
        refine lv_iload_n hx hb dL_law_109 rfl (lv_at hl 0 rfl) ?_
        refine lv_iconst (v := nI 3) hx hb dL_law_110 (by decide) ?_
        refine lv_iadd hx hb dL_law_111 ?_
        refine wt_i (y := nI (i + 3)) (nI_add i 3) ?_
        refine va_sld hx hb hX hbl hbA hS (vin (by omega) (by omega)) dL_law_112 ?_
        refine wt_i (y := xs (i + 3)) (congrArg xs (ncl (by omega))) ?_
        refine lv_aload_n hx hb dL_law_113 rfl (lv_at hl 1 rfl) ?_
        refine lv_iload_n hx hb dL_law_114 rfl (lv_at hl 0 rfl) ?_
        refine lv_iconst (v := nI 4) hx hb dL_law_115 (by decide) ?_
        refine lv_iadd hx hb dL_law_116 ?_
        refine wt_i (y := nI (i + 4)) (nI_add i 4) ?_
        refine va_sld hx hb hX hbl hbA hS (vin (by omega) (by omega)) dL_law_117 ?_
        refine wt_i (y := xs (i + 4)) (congrArg xs (ncl (by omega))) ?_
        refine lv_aload_n hx hb dL_law_118 rfl (lv_at hl 1 rfl) ?_
        refine lv_iload_n hx hb dL_law_119 rfl (lv_at hl 0 rfl) ?_
        refine lv_iconst (v := nI 5) hx hb dL_law_120 (by decide) ?_
        refine lv_iadd hx hb dL_law_121 ?_
        refine wt_i (y := nI (i + 5)) (nI_add i 5) ?_
        refine va_sld hx hb hX hbl hbA hS (vin (by omega) (by omega)) dL_law_122 ?_
        refine wt_i (y := xs (i + 5)) (congrArg xs (ncl (by omega))) ?_
        refine wc_set (k0 := 6) (W.runV (As := [.int (xs (i + 1)), .int (xs (i + 2)), .int (xs (i + 3)), .int (xs (i + 4)), .int (xs (i + 5))]) (rest := []) ⟨hx, hb, hml, hown, hts⟩ (metX1_wide l D dB dN mq mw mz mo mr g (xs (i + 1)) (xs (i + 2)) (xs (i + 3)) (xs (i + 4)) (xs (i + 5))) (cwV 5 hts (lw_V q131 q132 q133 q4 q134) rfl rfl rfl (by decide +kernel) ⟨Nat.le_of_ble_eq_true rfl, Nat.le_of_ble_eq_true rfl⟩) (PcH.preV RX1 5 1 rfl rfl rfl hP (hP.sub [5, 6] rfl) hK (hD.sub [5, 6] (by decide) rfl)) rfl rfl hl.1 rfl (lv_room (Nat.le_of_ble_eq_true rfl)) dL_law_123 ⟨by show _ ≤ 600000; omega, by show _ ≤ 7302250; omega⟩) hP hD hS rfl (fun x h => by rw [h]; exact hD.2 6 _ rfl) (fun H locs hP hD hS => ?_)
        have hP : va_P D vwCl (lwW dB dN xo aw az ax ay ap ao an mq mw mz mo mr nz (wid fw (uI (xs (i + 1)) % 4) (xs (i + 2)) (xs (i + 3)) (xs (i + 4)) (xs (i + 5))) fz fo fn (lyD g (16 * (uI (xs (i + 1)) % 4)) (xs (i + 2)) (xs (i + 3)) (xs (i + 4)) (xs (i + 5)) 16) z r) H := hP
        have hD : va_D (fun q => s.heap.size ≤ q) (lwW dB dN xo aw az ax ay ap ao an mq mw mz mo mr nz (wid fw (uI (xs (i + 1)) % 4) (xs (i + 2)) (xs (i + 3)) (xs (i + 4)) (xs (i + 5))) fz fo fn (lyD g (16 * (uI (xs (i + 1)) % 4)) (xs (i + 2)) (xs (i + 3)) (xs (i + 4)) (xs (i + 5)) 16) z r) := hD
        refine W.eq (g2 := F0 m 126 ls []) rfl ?_
        refine lv_goto (tgt := 197) hx hb dL_law_126 (by decide) ?_
        refine W.widen (k := 13 + 2 * i + 2) (n := 328 + 112 * i + 112) (by omega) (by omega) ?_
        exact tail H locs ls ⟨aw, az, ax, ay, ap, ao, an, mw, mz, mo, mr, nz, (wid fw (uI (xs (i + 1)) % 4) (xs (i + 2)) (xs (i + 3)) (xs (i + 4)) (xs (i + 5))), fz, fo, fn, (lyD g (16 * (uI (xs (i + 1)) % 4)) (xs (i + 2)) (xs (i + 3)) (xs (i + 4)) (xs (i + 5)) 16), z, r, hP, hD, hS, hnz1, hnz2, wid_lay _ _ _ _ hwg, hzz⟩ hl
      · refine lv_tableIn (tgt := 129) (off := 96) hx hb dL_law_33 (by decide +kernel) (by decide +kernel) (by decide +kernel) (by decide) ?_
        refine lv_aload_n hx hb dL_law_129 rfl (lv_at hl 2 rfl) ?_
        refine wc_obj (k0 := 0) (W.runV (As := []) (rest := []) ⟨hx, hb, hml, hown, hts⟩ (metX0_reduce l D dB dN xo aw az ax ay ap ao an H.size fw) (cwV 0 hts (lw_V q47 q48 q49 q3 q50) rfl rfl rfl (by decide +kernel) ⟨Nat.le_of_ble_eq_true rfl, Nat.le_of_ble_eq_true rfl⟩) (PcZ.preV RX0 0 0 rfl rfl rfl hP (hP.sub [0, 1] rfl) hK (hD.sub [0, 1] (by decide) rfl)) rfl rfl hl.1 rfl (lv_room (Nat.le_of_ble_eq_true rfl)) dL_law_130 ⟨by show _ ≤ 600000; omega, by show _ ≤ 7302250; omega⟩) hP hD hS hA rfl (fun x h => h.elim (fun h => by rw [h]; exact hD.2 0 _ rfl) (fun h => Nat.le_trans hS.1 h)) (fun b2 gz H locs hgz hP hD hS => ?_)
        have hP : va_P D vwCl (lwW dB dN xo aw b2 ax ay ap ao an mq mw mz mo mr 32 fw gz fo fn g z r) H := hP.sub [0, 1, 10, 3, 4, 5, 6, 7, 8, 9] rfl
        have hD : va_D (fun q => s.heap.size ≤ q) (lwW dB dN xo aw b2 ax ay ap ao an mq mw mz mo mr 32 fw gz fo fn g z r) := hD.sub [0, 1, 10, 3, 4, 5, 6, 7, 8, 9] (by decide) rfl
        refine W.eq (g2 := F0 m 133 ls []) rfl ?_
        refine lv_aload_n hx hb dL_law_133 rfl (lv_at hl 3 rfl) ?_
        refine wc_two (k1 := 9) (k2 := 7) (W.runV (As := []) (rest := []) ⟨hx, hb, hml, hown, hts⟩ (metX1_reduce l D dB dN mq mw mz mo mr g r z hg) (cwV 0 hts (lw_V q139 q140 q141 q4 q142) rfl rfl rfl (by decide +kernel) ⟨Nat.le_of_ble_eq_true rfl, Nat.le_of_ble_eq_true rfl⟩) (PcH.preV RX1 5 1 rfl rfl rfl hP (hP.sub [5, 6, 8, 9, 7] rfl) hK (hD.sub [5, 6, 8, 9, 7] (by decide) rfl)) rfl rfl hl.1 rfl (lv_room (Nat.le_of_ble_eq_true rfl)) dL_law_134 ⟨by show _ ≤ 600000; omega, by show _ ≤ 7302250; omega⟩) hP hD hS rfl rfl (by decide) (fun x h => h.elim (fun h => by rw [h]; exact hD.2 9 _ rfl) (fun h => by rw [h]; exact hD.2 7 _ rfl)) (fun g1 g2 H locs hgg hP hD hS => ?_)
        obtain ⟨⟨r1, rfl⟩, z1, rfl, hz1, hz2⟩ := hgg
        have hP : va_P D vwCl (lwW dB dN xo aw b2 ax ay ap ao an mq mw mz mo mr 32 fw gz fo fn g z1 r1) H := hP
        have hD : va_D (fun q => s.heap.size ≤ q) (lwW dB dN xo aw b2 ax ay ap ao an mq mw mz mo mr 32 fw gz fo fn g z1 r1) := hD
        refine W.eq (g2 := F0 m 137 ls []) rfl ?_
        refine lv_goto (tgt := 197) hx hb dL_law_137 (by decide) ?_
        rw [num_congr (b := g) 64 (fun j hj => hwg j (by omega))] at hgz
        refine W.widen (k := 13 + 2 * i + 2) (n := 328 + 112 * i + 112) (by omega) (by omega) ?_
        exact tail H locs ls ⟨aw, b2, ax, ay, ap, ao, an, mw, mz, mo, mr, 32, fw, gz, fo, fn, g, z1, r1, hP, hD, hS, by decide, by decide, hwg, same_digits hgz hz2 hz1⟩ hl
      · refine lv_tableIn (tgt := 140) (off := 107) hx hb dL_law_33 (by decide +kernel) (by decide +kernel) (by decide +kernel) (by decide) ?_
        refine lv_aload_n hx hb dL_law_140 rfl (lv_at hl 2 rfl) ?_
        refine wc_obj (k0 := 0) (W.runV (As := []) (rest := []) ⟨hx, hb, hml, hown, hts⟩ (metX0_reduceLess l D dB dN xo aw az ax ay ap ao an H.size fw) (cwV 0 hts (lw_V q78 q79 q80 q3 q81) rfl rfl rfl (by decide +kernel) ⟨Nat.le_of_ble_eq_true rfl, Nat.le_of_ble_eq_true rfl⟩) (PcZ.preV RX0 0 0 rfl rfl rfl hP (hP.sub [0, 1] rfl) hK (hD.sub [0, 1] (by decide) rfl)) rfl rfl hl.1 rfl (lv_room (Nat.le_of_ble_eq_true rfl)) dL_law_141 ⟨by show _ ≤ 600000; omega, by show _ ≤ 7302250; omega⟩) hP hD hS hA rfl (fun x h => h.elim (fun h => by rw [h]; exact hD.2 0 _ rfl) (fun h => Nat.le_trans hS.1 h)) (fun b2 gz H locs hgz hP hD hS => ?_)
        have hP : va_P D vwCl (lwW dB dN xo aw b2 ax ay ap ao an mq mw mz mo mr 64 fw gz fo fn g z r) H := hP.sub [0, 1, 10, 3, 4, 5, 6, 7, 8, 9] rfl
        have hD : va_D (fun q => s.heap.size ≤ q) (lwW dB dN xo aw b2 ax ay ap ao an mq mw mz mo mr 64 fw gz fo fn g z r) := hD.sub [0, 1, 10, 3, 4, 5, 6, 7, 8, 9] (by decide) rfl
        refine W.eq (g2 := F0 m 144 ls []) rfl ?_
        refine lv_aload_n hx hb dL_law_144 rfl (lv_at hl 3 rfl) ?_
        refine wc_two (k1 := 9) (k2 := 7) (W.runV (As := []) (rest := []) ⟨hx, hb, hml, hown, hts⟩ (metX1_reduceLess l D dB dN mq mw mz mo mr g r z hg) (cwV 0 hts (lw_V q147 q148 q149 q4 q150) rfl rfl rfl (by decide +kernel) ⟨Nat.le_of_ble_eq_true rfl, Nat.le_of_ble_eq_true rfl⟩) (PcH.preV RX1 5 1 rfl rfl rfl hP (hP.sub [5, 6, 8, 9, 7] rfl) hK (hD.sub [5, 6, 8, 9, 7] (by decide) rfl)) rfl rfl hl.1 rfl (lv_room (Nat.le_of_ble_eq_true rfl)) dL_law_145 ⟨by show _ ≤ 600000; omega, by show _ ≤ 7302250; omega⟩) hP hD hS rfl rfl (by decide) (fun x h => h.elim (fun h => by rw [h]; exact hD.2 9 _ rfl) (fun h => by rw [h]; exact hD.2 7 _ rfl)) (fun g1 g2 H locs hgg hP hD hS => ?_)
        obtain ⟨⟨r1, rfl⟩, z1, rfl, hz1, hz2⟩ := hgg
        have hP : va_P D vwCl (lwW dB dN xo aw b2 ax ay ap ao an mq mw mz mo mr 64 fw gz fo fn g z1 r1) H := hP
        have hD : va_D (fun q => s.heap.size ≤ q) (lwW dB dN xo aw b2 ax ay ap ao an mq mw mz mo mr 64 fw gz fo fn g z1 r1) := hD
        refine W.eq (g2 := F0 m 148 ls []) rfl ?_
        refine lv_goto (tgt := 197) hx hb dL_law_148 (by decide) ?_
        rw [num_congr (b := g) 48 (fun j hj => hwg j (by omega))] at hgz
        refine W.widen (k := 13 + 2 * i + 2) (n := 328 + 112 * i + 112) (by omega) (by omega) ?_
        exact tail H locs ls ⟨aw, b2, ax, ay, ap, ao, an, mw, mz, mo, mr, 64, fw, gz, fo, fn, g, z1, r1, hP, hD, hS, by decide, by decide, hwg, same_digits hgz hz2 hz1⟩ hl
      · refine lv_tableIn (tgt := 151) (off := 118) hx hb dL_law_33 (by decide +kernel) (by decide +kernel) (by decide +kernel) (by decide) ?_
        refine lv_aload_n hx hb dL_law_151 rfl (lv_at hl 2 rfl) ?_
        refine lv_aload_n hx hb dL_law_152 rfl (lv_at hl 1 rfl) ?_
        refine lv_iload_n hx hb dL_law_153 rfl (lv_at hl 0 rfl) ?_
        refine lv_iconst (v := nI 1) hx hb dL_law_154 (by decide) ?_
        refine lv_iadd hx hb dL_law_155 ?_
        refine wt_i (y := nI (i + 1)) (nI_add i 1) ?_
        refine va_sld hx hb hX hbl hbA hS (vin (by omega) (by omega)) dL_law_156 ?_
        refine wt_i (y := xs (i + 1)) (congrArg xs (ncl (by omega))) ?_
        refine wc_read (W.runV (As := [.int (xs (i + 1))]) (rest := []) ⟨hx, hb, hml, hown, hts⟩ (metX0_answer l D dB dN xo aw az ax ay ap ao an nz fz (xs (i + 1)) hnz1 hnz2) (cwV 1 hts (lw_V q88 q89 q90 q3 q91) rfl rfl rfl (by decide +kernel) ⟨Nat.le_of_ble_eq_true rfl, Nat.le_of_ble_eq_true rfl⟩) (PcH.preV RX0 0 0 rfl rfl rfl hP (hP.sub [0, 2] rfl) hK (hD.sub [0, 2] (by decide) rfl)) rfl rfl hl.1 rfl (lv_room (Nat.le_of_ble_eq_true rfl)) dL_law_157 ⟨by show _ ≤ 600000; omega, by show _ ≤ 7302250; omega⟩) ?_
        refine lv_aload_n hx hb dL_law_160 rfl (lv_at hl 3 rfl) ?_
        refine lv_aload_n hx hb dL_law_161 rfl (lv_at hl 1 rfl) ?_
        refine lv_iload_n hx hb dL_law_162 rfl (lv_at hl 0 rfl) ?_
        refine lv_iconst (v := nI 1) hx hb dL_law_163 (by decide) ?_
        refine lv_iadd hx hb dL_law_164 ?_
        refine wt_i (y := nI (i + 1)) (nI_add i 1) ?_
        refine va_sld hx hb hX hbl hbA hS (vin (by omega) (by omega)) dL_law_165 ?_
        refine wt_i (y := xs (i + 1)) (congrArg xs (ncl (by omega))) ?_
        refine wc_read (W.runV (As := [.int (xs (i + 1))]) (rest := [.int (nI (ub (fz (uI (xs (i + 1)) % 32))))]) ⟨hx, hb, hml, hown, hts⟩ (metX1_answer l D dB dN mq mw mz mo mr z (xs (i + 1))) (cwV 1 hts (lw_V q151 q152 q153 q4 q154) rfl rfl rfl (by decide +kernel) ⟨Nat.le_of_ble_eq_true rfl, Nat.le_of_ble_eq_true rfl⟩) (PcH.preV RX1 5 1 rfl rfl rfl hP (hP.sub [5, 7] rfl) hK (hD.sub [5, 7] (by decide) rfl)) rfl rfl hl.1 rfl (lv_room (Nat.le_of_ble_eq_true rfl)) dL_law_166 ⟨by show _ ≤ 600000; omega, by show _ ≤ 7302250; omega⟩) ?_
        refine lv_icmp_eq (tgt := 197) hx hb dL_law_169 (by decide) (fun _ => ?_) (fun c2 => absurd (by rw [hzz _ (Nat.mod_lt _ (by decide))]) c2)
        refine W.widen (k := 13 + 2 * i + 2) (n := 328 + 112 * i + 112) (by omega) (by omega) ?_
        exact tail H locs ls ⟨aw, az, ax, ay, ap, ao, an, mw, mz, mo, mr, nz, fw, fz, fo, fn, g, z, r, hP, hD, hS, hnz1, hnz2, hwg, hzz⟩ hl
      · refine lv_tableIn (tgt := 174) (off := 141) hx hb dL_law_33 (by decide +kernel) (by decide +kernel) (by decide +kernel) (by decide) ?_
        rcases (by omega : uI (xs (i + 1)) % 2 = 0 ∨ uI (xs (i + 1)) % 2 = 1) with hpar | hpar
        · skip
          refine lv_aload_n hx hb dL_law_174 rfl (lv_at hl 2 rfl) ?_
          refine lv_aload_n hx hb dL_law_175 rfl (lv_at hl 1 rfl) ?_
          refine lv_iload_n hx hb dL_law_176 rfl (lv_at hl 0 rfl) ?_
          refine lv_iconst (v := nI 1) hx hb dL_law_177 (by decide) ?_
          refine lv_iadd hx hb dL_law_178 ?_
          refine wt_i (y := nI (i + 1)) (nI_add i 1) ?_
          refine va_sld hx hb hX hbl hbA hS (vin (by omega) (by omega)) dL_law_179 ?_
          refine wt_i (y := xs (i + 1)) (congrArg xs (ncl (by omega))) ?_
          refine wc_two (k1 := 3) (k2 := 4) (W.runV (As := [.int (xs (i + 1))]) (rest := []) ⟨hx, hb, hml, hown, hts⟩ (metX0_proper0 l D dB dN xo aw az ax ay ap ao an nz fw fz fo fn (xs (i + 1)) t hnz1 hnz2 hpar) (cwV 1 hts (lw_V q92 q93 q94 q3 q95) rfl rfl rfl (by decide +kernel) ⟨Nat.le_of_ble_eq_true rfl, Nat.le_of_ble_eq_true rfl⟩) (PcL.preV RX0 0 0 rfl rfl rfl hP (hP.sub [0, 1, 2, 3, 4] rfl) hK (hD.sub [0, 1, 2, 3, 4] (by decide) rfl) hZ hT hS (fun x h => h.elim (fun h => by rw [h]; exact hD.2 3 _ rfl) (fun h => by rw [h]; exact hD.2 4 _ rfl))) rfl rfl hl.1 rfl (lv_room (Nat.le_of_ble_eq_true rfl)) dL_law_180 ⟨by show _ ≤ 600000; omega, by show _ ≤ 7302250; omega⟩) hP hD hS rfl rfl (by decide) (fun x h => h.elim (fun h => by rw [h]; exact hD.2 3 _ rfl) (fun h => by rw [h]; exact hD.2 4 _ rfl)) (fun fo1 fn1 H locs _ hP hD hS => ?_)
          have hP : va_P D vwCl (lwW dB dN xo aw az ax ay ap ao an mq mw mz mo mr nz fw fz fo1 fn1 g z r) H := hP
          have hD : va_D (fun q => s.heap.size ≤ q) (lwW dB dN xo aw az ax ay ap ao an mq mw mz mo mr nz fw fz fo1 fn1 g z r) := hD
          refine W.eq (g2 := F0 m 183 ls [.int (nI (if num 32 (fun j => ub (fw j)) < nL then 1 else 0))]) rfl ?_
          refine lv_aload_n hx hb dL_law_183 rfl (lv_at hl 3 rfl) ?_
          refine lv_aload_n hx hb dL_law_184 rfl (lv_at hl 1 rfl) ?_
          refine lv_iload_n hx hb dL_law_185 rfl (lv_at hl 0 rfl) ?_
          refine lv_iconst (v := nI 1) hx hb dL_law_186 (by decide) ?_
          refine lv_iadd hx hb dL_law_187 ?_
          refine wt_i (y := nI (i + 1)) (nI_add i 1) ?_
          refine va_sld hx hb hX hbl hbA hS (vin (by omega) (by omega)) dL_law_188 ?_
          refine wt_i (y := xs (i + 1)) (congrArg xs (ncl (by omega))) ?_
          refine wc_read (W.runV (As := [.int (xs (i + 1))]) (rest := [.int (nI (if num 32 (fun j => ub (fw j)) < nL then 1 else 0))]) ⟨hx, hb, hml, hown, hts⟩ (metX1_proper0 l D dB dN mq mw mz mo mr g z (xs (i + 1)) (fun j hj => hg j (by omega)) hpar) (cwV 1 hts (lw_V q155 q156 q157 q4 q158) rfl rfl rfl (by decide +kernel) ⟨Nat.le_of_ble_eq_true rfl, Nat.le_of_ble_eq_true rfl⟩) (PcH.preV RX1 5 1 rfl rfl rfl hP (hP.sub [5, 6, 7, 8] rfl) hK (hD.sub [5, 6, 7, 8] (by decide) rfl)) rfl rfl hl.1 rfl (lv_room (Nat.le_of_ble_eq_true rfl)) dL_law_189 ⟨by show _ ≤ 600000; omega, by show _ ≤ 7302250; omega⟩) ?_
          refine lv_icmp_eq (tgt := 197) hx hb dL_law_192 (by decide) (fun _ => ?_) (fun c2 => absurd (by rw [num_congr (b := g) 32 (fun j hj => hwg j (by omega))]) c2)
          refine W.widen (k := 13 + 2 * i + 2) (n := 328 + 112 * i + 112) (by omega) (by omega) ?_
          exact tail H locs ls ⟨aw, az, ax, ay, ap, ao, an, mw, mz, mo, mr, nz, fw, fz, fo1, fn1, g, z, r, hP, hD, hS, hnz1, hnz2, hwg, hzz⟩ hl
        · skip
          refine lv_aload_n hx hb dL_law_174 rfl (lv_at hl 2 rfl) ?_
          refine lv_aload_n hx hb dL_law_175 rfl (lv_at hl 1 rfl) ?_
          refine lv_iload_n hx hb dL_law_176 rfl (lv_at hl 0 rfl) ?_
          refine lv_iconst (v := nI 1) hx hb dL_law_177 (by decide) ?_
          refine lv_iadd hx hb dL_law_178 ?_
          refine wt_i (y := nI (i + 1)) (nI_add i 1) ?_
          refine va_sld hx hb hX hbl hbA hS (vin (by omega) (by omega)) dL_law_179 ?_
          refine wt_i (y := xs (i + 1)) (congrArg xs (ncl (by omega))) ?_
          refine wc_two (k1 := 3) (k2 := 4) (W.runV (As := [.int (xs (i + 1))]) (rest := []) ⟨hx, hb, hml, hown, hts⟩ (metX0_proper1 l D dB dN xo aw az ax ay ap ao an nz fw fz fo fn (xs (i + 1)) t hnz1 hnz2 hpar) (cwV 1 hts (lw_V q92 q93 q94 q3 q95) rfl rfl rfl (by decide +kernel) ⟨Nat.le_of_ble_eq_true rfl, Nat.le_of_ble_eq_true rfl⟩) (PcL.preV RX0 0 0 rfl rfl rfl hP (hP.sub [0, 1, 2, 3, 4] rfl) hK (hD.sub [0, 1, 2, 3, 4] (by decide) rfl) hZ hT hS (fun x h => h.elim (fun h => by rw [h]; exact hD.2 3 _ rfl) (fun h => by rw [h]; exact hD.2 4 _ rfl))) rfl rfl hl.1 rfl (lv_room (Nat.le_of_ble_eq_true rfl)) dL_law_180 ⟨by show _ ≤ 600000; omega, by show _ ≤ 7302250; omega⟩) hP hD hS rfl rfl (by decide) (fun x h => h.elim (fun h => by rw [h]; exact hD.2 3 _ rfl) (fun h => by rw [h]; exact hD.2 4 _ rfl)) (fun fo1 fn1 H locs _ hP hD hS => ?_)
          have hP : va_P D vwCl (lwW dB dN xo aw az ax ay ap ao an mq mw mz mo mr nz fw fz fo1 fn1 g z r) H := hP
          have hD : va_D (fun q => s.heap.size ≤ q) (lwW dB dN xo aw az ax ay ap ao an mq mw mz mo mr nz fw fz fo1 fn1 g z r) := hD
          refine W.eq (g2 := F0 m 183 ls [.int (nI (if num 32 (fun j => ub (fz j)) < nL then 1 else 0))]) rfl ?_
          refine lv_aload_n hx hb dL_law_183 rfl (lv_at hl 3 rfl) ?_
          refine lv_aload_n hx hb dL_law_184 rfl (lv_at hl 1 rfl) ?_
          refine lv_iload_n hx hb dL_law_185 rfl (lv_at hl 0 rfl) ?_
          refine lv_iconst (v := nI 1) hx hb dL_law_186 (by decide) ?_
          refine lv_iadd hx hb dL_law_187 ?_
          refine wt_i (y := nI (i + 1)) (nI_add i 1) ?_
          refine va_sld hx hb hX hbl hbA hS (vin (by omega) (by omega)) dL_law_188 ?_
          refine wt_i (y := xs (i + 1)) (congrArg xs (ncl (by omega))) ?_
          refine wc_read (W.runV (As := [.int (xs (i + 1))]) (rest := [.int (nI (if num 32 (fun j => ub (fz j)) < nL then 1 else 0))]) ⟨hx, hb, hml, hown, hts⟩ (metX1_proper1 l D dB dN mq mw mz mo mr g z (xs (i + 1)) hz hpar) (cwV 1 hts (lw_V q155 q156 q157 q4 q158) rfl rfl rfl (by decide +kernel) ⟨Nat.le_of_ble_eq_true rfl, Nat.le_of_ble_eq_true rfl⟩) (PcH.preV RX1 5 1 rfl rfl rfl hP (hP.sub [5, 6, 7, 8] rfl) hK (hD.sub [5, 6, 7, 8] (by decide) rfl)) rfl rfl hl.1 rfl (lv_room (Nat.le_of_ble_eq_true rfl)) dL_law_189 ⟨by show _ ≤ 600000; omega, by show _ ≤ 7302250; omega⟩) ?_
          refine lv_icmp_eq (tgt := 197) hx hb dL_law_192 (by decide) (fun _ => ?_) (fun c2 => absurd (by rw [num_congr (b := z) 32 hzz]) c2)
          refine W.widen (k := 13 + 2 * i + 2) (n := 328 + 112 * i + 112) (by omega) (by omega) ?_
          exact tail H locs ls ⟨aw, az, ax, ay, ap, ao, an, mw, mz, mo, mr, nz, fw, fz, fo1, fn1, g, z, r, hP, hD, hS, hnz1, hnz2, hwg, hzz⟩ hl
      · refine lv_tableOut (tgt := 197) hx hb dL_law_33 (Or.inr (by rw [nI_toInt (by omega)]; omega)) (by decide) ?_
        refine W.widen (k := 13 + 2 * i + 2) (n := 328 + 112 * i + 112) (by omega) (by omega) ?_
        exact tail H locs ls ⟨aw, az, ax, ay, ap, ao, an, mw, mz, mo, mr, nz, fw, fz, fo, fn, g, z, r, hP, hD, hS, hnz1, hnz2, hwg, hzz⟩ hl
set_option maxHeartbeats 8000000 in
set_option maxRecDepth 100000 in
theorem whole_start {p : Program} {e : Env} {s : State} {m : MethodId} {below : List Frame} {meth : Method} {c : Code} (l : Launch) (hflags : l.flags = flags0) {b L : Nat} {xs : Nat → Int32} (hL : L ≤ 384) (C0 : lw_At p s m meth c b L xs) : W p l e room_1 s m #[Value.ref b] below meth c s.heap [] 0 0 (lw_Z below #[Value.ref b] s) (entryFrame m ([Value.ref b] : List Value).toArray 4) := by
  have C1 := C0
  obtain ⟨hx, hb, hr, hml, hown, hts0, hX, hbl, hlocks, hgv⟩ := C0
  have hts : ∀ w ∈ lw_all, w.before #[Value.ref b] s = true := fun w h => hts0 w (lw_all_tbl h)
  obtain ⟨D, dB, dN, hK⟩ := lw_cls hts0
  obtain ⟨t, hZ, hT⟩ := lw_tab (A := fun q => s.heap.size ≤ q) hts0 hgv (fun a h => Nat.not_le.mpr h)
  have hA : ∀ q : Nat, s.heap.size ≤ q → s.heap.size ≤ q := fun _ h => h
  have hS : va_S (fun q => s.heap.size ≤ q) s.heap s.heap [] := va_S.rf
  have hP : va_P D vwCl [] s.heap := va_P.nil
  have hD : va_D (fun q => s.heap.size ≤ q) [] := va_D.nil
  have hl := lv_entry ([.ref b]) (n := 4) (Nat.le_of_ble_eq_true rfl)
  rw [lg_entry_eq]
  generalize (lg_sl ([.ref b]) ++ List.replicate (4 - (lg_sl ([.ref b])).length) Slot.unset).toArray = ls at hl ⊢
  have hl : lv_has ls 4 [(0, .ref b)] := hl
  refine va_new (ci := 0) (fs := [.null, .null, .null, .null, .null, .null, .null]) (C := RX0) (T := TX0) (N := 7) hx hb hts in_X0 tyX0 tyX0_ok hown (hts _ q8) (hts _ q9) (hts _ q3) hK hP hD hS hA rfl (fun j hj => by rcases (by omega : j = 0 ∨ j = 1 ∨ j = 2 ∨ j = 3 ∨ j = 4 ∨ j = 5 ∨ j = 6) with rfl | rfl | rfl | rfl | rfl | rfl | rfl <;> rfl) (Nat.le_of_ble_eq_true rfl) (Nat.le_of_ble_eq_true rfl) dL_law_0 (fun xo H hP hD hS => ?_)
  refine lv_dup hx hb dL_law_3 rfl ?_
  refine wc_world (wc := [(xo, .inr (0, [.null, .null, .null, .null, .null, .null, .null]))]) (wr := []) (W.runI (As := []) (rest := [.ref xo]) ⟨hx, hb, hml, hown, hts⟩ (metX0_init l D dB dN xo H.size) (cwI 0 hts (lw_meth q12) rfl rfl rfl (hts _ q3) (hts _ q10) (hts _ q11) rfl (by decide +kernel) ⟨Nat.le_of_ble_eq_true rfl, Nat.le_of_ble_eq_true rfl⟩) (PcZ.pre hP hK hD) rfl rfl hl.1 rfl (lv_room (Nat.le_of_ble_eq_true rfl)) dL_law_4 ⟨Nat.le_of_ble_eq_true rfl, Nat.le_of_ble_eq_true rfl⟩) hP hD hS hA [0] [] rfl rfl (by decide) (by decide) (fun w1 H locs hw hP hD hS => ?_)
  obtain ⟨aw, az, ax, ay, ap, ao, an, rfl⟩ := hw
  refine lv_astore_n (lv' := [(1, .ref xo), (0, .ref b)]) hx hb dL_law_7 rfl hl (by decide) rfl (fun ls hl => ?_)
  refine W.eq (g2 := F0 m 8 ls []) rfl ?_
  refine va_new (ci := 1) (fs := [.null, .null, .null, .null]) (C := RX1) (T := TX1) (N := 4) hx hb hts in_X1 tyX1 tyX1_ok hown (hts _ q112) (hts _ q113) (hts _ q4) hK hP hD hS hA rfl (fun j hj => by rcases (by omega : j = 0 ∨ j = 1 ∨ j = 2 ∨ j = 3) with rfl | rfl | rfl | rfl <;> rfl) (Nat.le_of_ble_eq_true rfl) (Nat.le_of_ble_eq_true rfl) dL_law_8 (fun mq H hP hD hS => ?_)
  refine lv_dup hx hb dL_law_11 rfl ?_
  have hP : va_P D vwCl [(xo, oX aw az ax ay ap ao an), (aw, .inl (dB, 64, .inl (fun _ => 0))), (az, .inl (dB, 32, .inl (fun _ => 0))), (ao, .inl (dB, 32, .inl (fun _ => 0))), (an, .inl (dN, 8, .inl (fun _ => 0))), (mq, .inr (1, [.null, .null, .null, .null]))] H := hP
  have hD : va_D (fun q => s.heap.size ≤ q) [(xo, oX aw az ax ay ap ao an), (aw, .inl (dB, 64, .inl (fun _ => 0))), (az, .inl (dB, 32, .inl (fun _ => 0))), (ao, .inl (dB, 32, .inl (fun _ => 0))), (an, .inl (dN, 8, .inl (fun _ => 0))), (mq, .inr (1, [.null, .null, .null, .null]))] := hD
  refine wc_world (wc := [(mq, .inr (1, [.null, .null, .null, .null]))]) (wr := [(xo, oX aw az ax ay ap ao an), (aw, .inl (dB, 64, .inl (fun _ => 0))), (az, .inl (dB, 32, .inl (fun _ => 0))), (ao, .inl (dB, 32, .inl (fun _ => 0))), (an, .inl (dN, 8, .inl (fun _ => 0)))]) (W.runI (As := []) (rest := [.ref mq]) ⟨hx, hb, hml, hown, hts⟩ (metX1_init l D dB dN mq H.size) (cwI 0 hts (lw_meth q116) rfl rfl rfl (hts _ q4) (hts _ q114) (hts _ q115) rfl (by decide +kernel) ⟨Nat.le_of_ble_eq_true rfl, Nat.le_of_ble_eq_true rfl⟩) (PcZ.pre (hP.sub [5] rfl) hK (hD.sub [5] (by decide) rfl)) rfl rfl hl.1 rfl (lv_room (Nat.le_of_ble_eq_true rfl)) dL_law_12 ⟨Nat.le_of_ble_eq_true rfl, Nat.le_of_ble_eq_true rfl⟩) hP hD hS hA [5] [0, 1, 2, 3, 4] rfl rfl (by decide) (by decide) (fun w1 H locs hw hP hD hS => ?_)
  obtain ⟨mw, mz, mo, mr, rfl⟩ := hw
  refine lv_astore_n (lv' := [(2, .ref mq), (1, .ref xo), (0, .ref b)]) hx hb dL_law_15 rfl hl (by decide) rfl (fun ls hl => ?_)
  refine lv_iconst (v := nI 0) hx hb dL_law_16 (by decide) ?_
  refine lv_istore_n (lv' := [(3, .int (nI 0)), (2, .ref mq), (1, .ref xo), (0, .ref b)]) hx hb dL_law_17 rfl hl (by decide) rfl (fun ls hl => ?_)
  refine W.eq (g2 := F0 m 18 ls []) rfl ?_
  refine W.widen (k := 13 + 2 * 0) (n := 328 + 112 * 0) (Nat.le_of_ble_eq_true rfl) (Nat.le_of_ble_eq_true rfl) ?_
  have hub : ub 0 = 0 := by decide +kernel
  exact law_loop l hL C1 hK hZ hT xo mq (L + 1) 0 (Nat.zero_le _) (by omega) H locs ls ⟨aw, az, ax, ay, ap, ao, an, mw, mz, mo, mr, 32, fun _ => 0, fun _ => 0, fun _ => 0, fun _ => 0, fun _ => 0, fun _ => 0, fun _ => 0, hP, hD, hS, by decide, by decide, fun _ _ => hub, fun _ _ => hub⟩ (lv_sub hl [0, 3, 2, 1] rfl)
end
section
set_option maxHeartbeats 4000000 in
theorem lw_walk (l : Launch) (hflags : l.flags = flags0) (b : Addr) (xs : List Int32) : MetFree l x (headSpec (Jvm.Cond.code x code maxLocals ret :: tables_1) room_1) (lw_P b xs) (fun _ _ _ _ _ => True) lw_Q := by
  refine MetFree.of_bodyS (code := code) (maxLocals := maxLocals) (ret := ret) (by decide) ?_ ?_
  · intro args s m h hn
    obtain ⟨meth, c, h1, h2, h3, h4, h5, h6, -, -⟩ := Cond.code_spec hn (atoms_spec (ws := Jvm.Cond.code x code maxLocals ret :: tables_1) h _ List.mem_cons_self)
    exact ⟨meth, c, h1, h2, h3, h4, h5, h6⟩
  · intro p e s m args below meth c s₁ B hml0 hP _
    obtain ⟨rfl, hx, hbd, hgv⟩ := hP
    obtain ⟨scr, harrAt, hlist, hof, hsmall⟩ := hx
    obtain ⟨hcb, hkn, -, -⟩ := State.arrayAt?_spec harrAt
    have hown : s.vm.findClass R_law = some m.cls := findClass_of_methodNamed B.named
    have hts0 : ∀ c ∈ (Jvm.Cond.code x code maxLocals ret :: tables_1), c.before #[Value.ref b] s = true := atoms_spec (ws := Jvm.Cond.code x code maxLocals ret :: tables_1) B.pre
    have hts : ∀ w ∈ lw_tbl, w.before #[Value.ref b] s = true := k2_hts_sels lw_privs (fun w hw => hts0 w (List.mem_cons_of_mem _ hw)) lw_privs_ok
    have hml : c.maxLocals = 4 := B.maxLocals_eq (hts0 _ List.mem_cons_self)
    have X₀ : Stand p l e room_1 s m #[Value.ref b] below meth c s₁ [] 0 0 := Stand.of_body B
    have hh0 : s₁.heap = s.heap := by rw [B.state]; rfl
    have hsz : scr.slots.size = xs.length := by rw [← Array.length_toList, hlist, List.length_map]
    have hval : ∀ j : Nat, j < xs.length → scr.slots[j]? = some (.int (xs.getD j 0)) := fun j hj => by
      rw [← Array.getElem?_toList, hlist]
      simp [hj]
    have hbl : b < s.heap.size := (Array.getElem?_eq_some_iff.mp hcb).1
    have hX : va_X b xs.length (fun j => xs.getD j 0) s s.heap := ⟨scr, hcb, hof, hkn, hsz, hval⟩
    have K : W p l e room_1 s m #[Value.ref b] below meth c s₁.heap [] 0 0 (lw_Z below #[Value.ref b] s) (entryFrame m ([Value.ref b] : List Value).toArray 4) := by
      rw [hh0]
      exact whole_start l hflags hbd ⟨B.exec, B.bytes, B.returns, hml, hown, hts, hX, hbl, B.notSynchronized, hgv⟩
    obtain ⟨t, a1, o, b1, b2, b3⟩ := K s₁ rfl X₀
    exact ⟨t, o, a1, b1, b2, b3⟩
theorem lw_pre_spec {args : Array Value} {s : State} (h : (Jvm.Cond.and given_1 narrow_1).before args s = true) (hr : rest_1_c.before args s = true) : ∃ (b : Addr) (xs : List Int32), lw_P b xs args s := by
  have hs := flat_of_before _ h
  have hq := flat_of_before _ hr
  have hc : (Cond.count 1).before args s = true := hs _ (by decide +kernel)
  have harr : (Cond.arrayOf (.arg 0) .int).before args s = true := hs _ (by decide +kernel)
  have hle : (Cond.le (.length (.arg 0)) (.int 384)).before args s = true := hs _ (by decide +kernel)
  have hlen : (Cond.isInt (.length (.arg 0))).before args s = true := hq _ (by decide +kernel)
  have hall : (Cond.all (.arg 0) (.isInt (.elem (.arg 0) (.index 0)))).before args s = true := hq _ (by decide +kernel)
  obtain ⟨b, xs, hb, hx⟩ := State.ints_of_pre rfl harr hlen hall
  have hsm : xs.length < 2 ^ 31 := hx.choose_spec.2.2.2
  have hev : (Term.length (.arg 0)).eval args s none [] s = some (.int xs.length.toInt32) := hx.length_eval hb
  have hv := Cond.le_ints hev (show (Term.int 384).eval args s none [] s = some (.int 384) from rfl)
  have hd : xs.length.toInt32 ≤ 384 := by
    simpa [Cond.before, Cond.holds, hv] using hle
  have hN : xs.length ≤ 384 := (Int32.ofNat_le_ofNat hsm (by decide)).mp (show Int32.ofNat xs.length ≤ Int32.ofNat 384 from hd)
  exact ⟨b, xs, Cond.one_arg hc (show args[0]? = some (.ref b) from hb), hx, hN, h⟩
theorem lw_comes (l : Launch) (hflags : l.flags = flags0) : Comes l x (Jvm.Cond.code x code maxLocals ret :: tables_1) room_1 (fun tb e args s => Calls_1 tb e args s ∧ rest_1 tb e args s ∧ Pre_1 tb e args s)
    (fun _ _ args s o t => lw_Q args s o t) := by
  intro p e ha hc hk s m args below hf hfit hheap happ hpre
  obtain ⟨b, xs, hP⟩ := lw_pre_spec hpre.2.2 hpre.2.1
  obtain ⟨k, o, h1, h2, h3, hQ⟩ := lw_walk l hflags b xs p e ha hc hk s m args below hf ((Spec.applies_iff_loose hf).mp happ).1 hP trivial
  exact ⟨k, o, h1, h2, h3, hQ⟩
theorem lw_frame {s t : State} {o : Outcome} {args : Array Value} (h : Framed s o t [] 600000 7302250) :
    Framed s o t (fieldLocs frame_1_writes args s ++ arrayLocs frame_1_arrays args s ++ staticLocs frame_1_statics s) 600000 7302250 := h
theorem lw_limb (L : Cond) (hL : ∀ (args : Array Value) (s t : State), L.after args s (.returned (some (.int 1))) t = true) :
    ArmFor flags0 classFile x code maxLocals ret World_1 tables_1 room_1 Calls_1 rest_1 Pre_1
      (fun tb e a s o t => postC L tb e a s o t ∧ Framed s o t (fieldLocs frame_1_writes a s ++ arrayLocs frame_1_arrays a s ++ staticLocs frame_1_statics s) 600000 7302250) := by
  intro l hflags _ _ p e ha hc hk s m args below hf hfit hheap happ hpre
  obtain ⟨k, o, h1, h2, h3, rfl, hF⟩ := lw_comes l hflags p e ha hc hk s m args below hf hfit hheap happ hpre
  exact ⟨k, _, h1, h2, h3, hL args s _, lw_frame hF⟩
theorem i_vc : Claimed_1_1 ∧ Claimed_1_2 := ⟨lw_limb limb_1_1 (fun args s t => by simp [limb_1_1, Cond.after, Cond.holds, Cond.value]), lw_limb limb_1_2 (fun args s t => Cond.after_iff.mpr (by
  first | (rw [show limb_1_2 = Cond.eq .result (.int 1) from rfl, Cond.eq_ints (x := 1) (y := 1) rfl rfl]; simp; done) | (simp [limb_1_2, Cond.value, Term.eval]; done)))⟩
end
